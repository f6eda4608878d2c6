/-
  The walks of indexOf, ZZNewNameTable, ZZNameTableNames, add, ZZNameTableAdd.
-/
import Derived.Test.Qxb6619614aNameTab
namespace Go.Proofs.Qxb6619614a
open Go.RowKit Go.Maps

theorem ret_intN {x y : Int} (k : x = y) : Ending.returned (.int .i64 x) = .returned (.int .i64 y) := by rw [k]

theorem info9 : (Try.prog.info? 9).map (fun i => (i.zero, i.size, i.bytes)) = some (some (.string ByteArray.empty), 1, 16) := by kernel_rfl
theorem keyLaw : Keyed Try.prog 9 := string_keyed Try.underlying9
theorem zero3 (w : World) : (zeroValue 3).run Try.prog w = .ok (.int .i64 0) w := by kernel_rfl

set_option maxHeartbeats 400000 in
theorem indexOf_row (g len cap : Nat) (ds : List ByteArray) (s : ByteArray) (w : World) (hl : len = ds.length) (hm : (len : Int) ≤ 1048576) (hcell : ∀ k, k < len → w.cell? ⟨g, k, none⟩ = some (.string (ds.getD k ByteArray.empty))) :
    Calls Try.prog 13 #[.slice (some ⟨g, 0, none⟩) len cap, .string s] w fun e w' => e = .returned (.int .i64 (ixI s ds)) ∧ w' = w := by
  have HC : Hid (∀ k, k < len → w.cell? ⟨g, k, none⟩ = some (.string (ds.getD k ByteArray.empty))) := hcell
  have HL : Hid (len = ds.length) := hl
  clear hcell hl
  go_enter Try.func13, Try.ntmps13
  go_wp2
  go_loop [5] (fun v => ∃ k : Nat, k ≤ len ∧ Hid (∀ j, j < k → ds[j]? ≠ some s) ∧ v = .int .i64 k) (fun v => len - (intOf v).toNat)
  case atStart => exact ⟨0, by omega, fun j hj => by omega, rfl⟩
  case round =>
    obtain ⟨k, hk, HK, rfl⟩ := hrel
    by_cases hlt : k < len
    · have hc := HC.out k hlt
      obtain ⟨d, hd⟩ : ∃ d, d = ds.getD k ByteArray.empty := ⟨_, rfl⟩
      rw [← hd] at hc
      have HD : Hid (ds[k]? = some d) := by
        have := HL.out
        show ds[k]? = some d
        rw [hd, List.getD_eq_getElem?_getD, List.getElem?_eq_getElem (by omega)]
        rfl
      clear hd
      by_cases he : d = s
      · have hb : (d.toList == s.toList) = true := by rw [bytes_beq]; simp [he]
        have HS : Hid (ixI s ds = k) := by
          have := HL.out
          have e : ixN s ds = k := ixN_at HK.out (by rw [← he]; exact HD.out)
          show (if ixN s ds < ds.length then (ixN s ds : Int) else -1) = k
          rw [if_pos (by omega), e]
        clear he
        go_wp2
        go_ret
        exact ⟨ret_intN HS.out.symm, rfl⟩
      · have hb : (d.toList == s.toList) = false := by rw [bytes_beq]; simp [he]
        have HS : Hid (∀ j, j < k + 1 → ds[j]? ≠ some s) := by
          intro j hj
          by_cases e : j = k
          · rw [e, HD.out]; intro q; injection q with q; exact he q
          · exact HK.out j (by omega)
        clear he
        go_wp2
        go_round
        case rel => exact ⟨k + 1, by omega, HS, by go_num⟩
        case measure => simp [intOf]; omega
    · have HS : Hid (ixI s ds = -1) := by
        have := HL.out
        show (if ixN s ds < ds.length then (ixN s ds : Int) else -1) = -1
        rw [if_neg (ixN_none (fun j hj => HK.out j (by omega)))]
      go_wp2
      go_ret
      exact ⟨ret_intN HS.out.symm, rfl⟩

set_option maxHeartbeats 400000 in
theorem indexOf_nil (s : ByteArray) (w : World) :
    Calls Try.prog 13 #[.slice none 0 0, .string s] w fun e w' => e = .returned (.int .i64 (-1)) ∧ w' = w := by
  go_enter Try.func13, Try.ntmps13
  go_wp2
  go_loop [5] (fun v => v = .int .i64 0) (fun _ => 0)
  case atStart => rfl
  case round =>
    subst hrel
    go_wp2
    go_ret
    exact ⟨rfl, rfl⟩

theorem indexOf_own {base : Nat} {v : Value} {ds : List ByteArray} {w : World} (s : ByteArray) (hown : w.ownsRow base 9 1 v ds.length (ds.map Value.string)) (hm : (ds.length : Int) ≤ 1048576) :
    Calls Try.prog 13 #[v, .string s] w fun e w' => e = .returned (.int .i64 (ixI s ds)) ∧ w' = w := by
  rcases hown.2 with ⟨rfl, h0⟩ | ⟨g, cap, cur, rfl, _⟩
  · obtain rfl : ds = [] := List.eq_nil_of_length_eq_zero h0
    exact indexOf_nil s w
  · refine indexOf_row g ds.length cap ds s w rfl hm (fun k hk => ?_)
    rw [hown.cellAt k (by omega)]
    simp [List.getElem?_eq_getElem hk]

set_option maxHeartbeats 400000 in
theorem newTable (w : World) :
    Calls Try.prog 12 #[] w fun e w' => e = .returned (.pointer (some ⟨w.heap.size, 0, none⟩)) ∧ w' = w.alloc (.cells #[.slice none 0 0, .map none] 39) := by
  go_enter Try.func12, Try.ntmps12
  go_wp2
  go_ret
  exact ⟨rfl, rfl⟩

set_option maxHeartbeats 400000 in
theorem tableNames {w : World} {B : Nat} {nv mv : Value} {ds : List ByteArray} (h : Tab w B nv mv ds) :
    Calls Try.prog 15 #[.pointer (some ⟨B, 0, none⟩)] w fun e w' => e = .returned nv ∧ w' = w := by
  have c0 := h.c0
  obtain ⟨a, c, rfl⟩ := own_shape h.row
  clear h
  go_enter Try.func15, Try.ntmps15
  go_wp2
  go_ret
  exact ⟨rfl, rfl⟩

/-- 'add' at a name that is there: its place; nothing turns. -/
theorem add_hit {w : World} {B : Nat} {nv mv : Value} {ds : List ByteArray} (s : ByteArray) (h : Tab w B nv mv ds) (hs : s.size ≤ maxLen) (hit : ixN s ds < ds.length) :
    Calls Try.prog 18 #[.pointer (some ⟨B, 0, none⟩), .string s] w fun e w' => e = .returned (.int .i64 (ixN s ds : Nat)) ∧ w' = w := by
  have c1 := h.c1
  rcases h.map with ⟨rfl, rfl⟩ | ⟨M, D, rfl, hBM, hnM, hown, hD⟩
  · simp at hit
  · have hk : keyOf Try.prog 9 (.string s) = some (.string s.data.toList) := WideMaps.keyOf_string_mk Try.underlying9 hs
    obtain ⟨v, ps, hrun, hv⟩ := hown.look_ok keyLaw Try.underlying37 (zero3 w) (plainElem_int Try.underlying3 (by decide)) hk
    obtain ⟨c, rfl, hc, hwc⟩ := plainElem_int_inv Try.underlying3 hv
    have hc' := congrArg Prod.fst hc
    simp only at hc'
    obtain ⟨m1, m2⟩ := hD.2 s
    rw [m2 hit] at hc'
    rw [m1] at hrun
    simp only [hit, decide_true] at hrun
    have hcc : c = (ixN s ds : Nat) := by
      injection hc' with hc'
      injection hc' with _ hc'
      exact hc'.symm
    rw [hcc] at hrun
    clear hcc hc hc' hv hwc m1 m2 hk h hown hD hs hit
    go_enter Try.func18, Try.ntmps18
    go_wp2
    go_ret
    exact ⟨rfl, rfl⟩

set_option maxHeartbeats 400000 in
theorem zadd_hit {w : World} {B : Nat} {nv mv : Value} {ds : List ByteArray} (s : ByteArray) (h : Tab w B nv mv ds) (hs : s.size ≤ maxLen) (hit : ixN s ds < ds.length) :
    Calls Try.prog 14 #[.pointer (some ⟨B, 0, none⟩), .string s] w fun e w' => e = .returned (.int .i64 (ixN s ds : Nat)) ∧ w' = w := by
  have H : Hid (Tab w B nv mv ds) := h
  clear h
  go_enter Try.func14, Try.ntmps14
  go_wp2_with fail
  refine (add_hit s H.out hs hit).mono ?_
  rintro e w' ⟨rfl, hw⟩
  rw [hw]
  go_wp2_with fail
  go_ret
  exact ⟨rfl, rfl⟩

end Go.Proofs.Qxb6619614a
