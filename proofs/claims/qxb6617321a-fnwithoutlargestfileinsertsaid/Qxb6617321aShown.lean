/-
  The walks of change, largestShown, zzSameGroup, zzSame: they only read what the laws have built.
-/
import Derived.Test.Qxb6617321aInsert
namespace Go.Proofs.Qxb6617321a
open Go.RowKit

set_option maxHeartbeats 400000 in
theorem change_any {pb : Nat} {r : Row} {w : World} (h : FileAt w pb r) :
    Calls Try.prog 22 #[.pointer (some ⟨pb, 0, none⟩)] w fun e w' => e = .returned (.int .i64 (wrap64 (r.a + r.d))) ∧ ∃ n, w' = w.drewN n := by
  obtain ⟨c0, c1, -⟩ := h
  go_enter Try.func22, Try.ntmps22
  go_wp2_with fail
  go_quiet (fail)
  go_wp2_with fail
  go_ret
  exact ⟨rfl, _, rfl⟩

set_option maxHeartbeats 400000 in
theorem shown_nil (w : World) :
    Calls Try.prog 20 #[.slice none 0 0] w fun e w' => e = .returned (.int .i64 0) ∧ ∃ n, w' = w.drewN n := by
  go_enter Try.func20, Try.ntmps20
  go_wp2
  go_loop [3, 8] (fun z v => z = .int .i64 0 ∧ v = .int .i64 0) (fun _ _ => 0)
  case atStart => exact ⟨rfl, rfl⟩
  case round =>
    obtain ⟨rfl, rfl⟩ := hrel
    go_wp2
    go_ret
    exact ⟨rfl, 0, rfl⟩

set_option maxHeartbeats 1000000 in
theorem shown_row (g : Nat) (l : List Row) (w : World) (hl : (l.length : Int) ≤ 1048576) (hcell : ∀ k, k < l.length → ∃ pb, w.cell? ⟨g, k, none⟩ = some (.pointer (some ⟨pb, 0, none⟩)) ∧ FileAt w pb (rowAt l k)) :
    Calls Try.prog 20 #[.slice (some ⟨g, 0, none⟩) l.length l.length] w fun e w' => e = .returned (.int .i64 (score l)) ∧ ∃ n, w' = w.drewN n := by
  have HC := hideN hcell
  have HL : Hid (score l = scTo l l.length) := rfl
  clear hcell
  generalize score l = tot at HL ⊢
  obtain ⟨len, hlen⟩ : ∃ len, len = l.length := ⟨_, rfl⟩
  rw [← hlen] at hl ⊢
  have HE := hideN hlen
  clear hlen
  go_enter Try.func20, Try.ntmps20
  go_wp2
  go_loopw [3, 8] (fun z v w1 => ∃ (k m : Nat) (n : Int), k ≤ len ∧ Hid (n = scTo l k) ∧ z = .int .i64 n ∧ v = .int .i64 k ∧ w1 = w.drewN m) (fun _ v _ => len - (intOf v).toNat)
  case atStart => exact ⟨0, 0, 0, by omega, rfl, rfl, rfl, rfl⟩
  case round =>
    obtain ⟨k, m, n, hk, HN, rfl, rfl, rfl⟩ := hrel
    by_cases hlt : k < len
    · obtain ⟨pb, cg, hf⟩ := HC.out k (by rw [← HE.out]; exact hlt)
      have hki : (k : Int) < (len : Int) := by omega
      obtain ⟨r, hr⟩ : ∃ r, r = rowAt l k := ⟨_, rfl⟩
      rw [← hr] at hf
      have c2 := hf.2.2
      have HF : Hid (FileAt (w.drewN m) pb r) := ⟨keep_cell (drewN_below w m) hf.1, keep_cell (drewN_below w m) hf.2.1, keep_cell (drewN_below w m) hf.2.2⟩
      clear hf
      by_cases hs : isSt r.t = true
      · have hb : (r.t.toList == [115, 116, 97, 116, 115]) = true := hs
        have HS : Hid (n = scTo l (k + 1)) := HN.out.trans (scTo_st (by rw [← hr]; exact hs)).symm
        clear hs hr
        go_wp2_with fail
        go_roundw
        case rel => exact ⟨k + 1, m, n, by omega, HS, rfl, by go_num, rfl⟩
        case measure => simp [intOf]; omega
      · have hs' : isSt r.t = false := by simpa using hs
        have hb : (r.t.toList == [115, 116, 97, 116, 115]) = false := hs'
        by_cases hg : n < wrap64 (r.a + r.d)
        · have HS : Hid (wrap64 (r.a + r.d) = scTo l (k + 1)) := by
            have e := HN.out
            rw [scTo_gt (by rw [← hr]; exact hs') (by rw [← e, ← hr]; exact hg), ← hr]
            exact rfl
          clear hs hs' hr
          go_wp2_with fail
          refine (change_any HF.out).mono ?_
          rintro e w' ⟨rfl, m2, hw⟩
          rw [hw]
          clear hw w'
          generalize wrap64 (r.a + r.d) = x at HS hg ⊢
          go_wp2_with fail
          go_roundw
          case rel => exact ⟨k + 1, _, x, by omega, HS, rfl, by go_num, rfl⟩
          case measure => simp [intOf]; omega
        · have HS : Hid (n = scTo l (k + 1)) := by
            have e := HN.out
            rw [scTo_le (by rw [← hr]; exact hs') (by rw [← e, ← hr]; exact hg)]
            exact e
          clear hs hs' hr
          go_wp2_with fail
          refine (change_any HF.out).mono ?_
          rintro e w' ⟨rfl, m2, hw⟩
          rw [hw]
          clear hw w'
          generalize wrap64 (r.a + r.d) = x at hg ⊢
          go_wp2_with fail
          go_roundw
          case rel => exact ⟨k + 1, _, n, by omega, HS, rfl, by go_num, rfl⟩
          case measure => simp [intOf]; omega
    · have HS : Hid (n = tot) := by
        have e := HN.out
        rw [show k = len by omega, HE.out, ← HL.out] at e
        exact e
      go_wp2
      go_ret
      exact ⟨ret_int HS.out, m, rfl⟩

theorem shown_any {v : Value} {l : List Row} {w : World} (h : Grp w v l) (hl : (l.length : Int) ≤ 1048576) :
    Calls Try.prog 20 #[v] w fun e w' => e = .returned (.int .i64 (score l)) ∧ ∃ n, w' = w.drewN n := by
  rcases h with ⟨rfl, rfl⟩ | ⟨g, rfl, h⟩
  · exact shown_nil w
  · exact shown_row g l w hl h

theorem info47 : (Try.prog.info? 47).isSome = true := by kernel_rfl

set_option maxHeartbeats 400000 in
theorem sameG_nil (w : World) :
    Calls Try.prog 19 #[.slice none 0 0, .slice none 0 0] w fun e w' => e = .returned (.bool true) ∧ ∃ n, w' = w.drewN n := by
  have kn := fun (w : World) => Lib.run_eql_slice_nil (P := Try.prog) w 32 42 none 0 0 0 0 Try.underlying32
  go_enter Try.func19, Try.ntmps19
  go_wp2
  go_loop [20] (fun v => v = .int .i64 0) (fun _ => 0)
  case atStart => rfl
  case round =>
    subst hrel
    go_wp2
    go_ret
    exact ⟨rfl, 0, rfl⟩

set_option maxHeartbeats 1000000 in
theorem sameG_row (g len : Nat) (w : World) (hl : (len : Int) ≤ 1048576) (hcell : ∀ k, k < len → ∃ pb, w.cell? ⟨g, k, none⟩ = some (.pointer (some ⟨pb, 0, none⟩))) :
    Calls Try.prog 19 #[.slice (some ⟨g, 0, none⟩) len len, .slice (some ⟨g, 0, none⟩) len len] w fun e w' => e = .returned (.bool true) ∧ ∃ n, w' = w.drewN n := by
  have HC := hideN hcell
  clear hcell
  have kn := fun (w : World) => Lib.run_eql_slice_nil (P := Try.prog) w 32 42 (some ⟨g, 0, none⟩) len len 0 0 Try.underlying32
  obtain ⟨j47, hj47⟩ := Option.isSome_iff_exists.1 info47
  go_enter Try.func19, Try.ntmps19
  go_wp2
  go_loopw [20] (fun v w1 => ∃ (k m : Nat), k ≤ len ∧ v = .int .i64 k ∧ w1 = w.drewN m) (fun v _ => len - (intOf v).toNat)
  case atStart => exact ⟨0, 0, by omega, rfl, rfl⟩
  case round =>
    obtain ⟨k, m, hk, rfl, rfl⟩ := hrel
    by_cases hlt : k < len
    · obtain ⟨pb, cg⟩ := HC.out k hlt
      have hki : (k : Int) < (len : Int) := by omega
      have kp := fun (w : World) => Lib.run_neq_ptr_same (P := Try.prog) w (tp := 42) (te := 47) (j := j47) ⟨pb, 0, none⟩ Try.underlying42 hj47
      go_wp2_with fail
      go_quiet (fail)
      go_wp2_with fail
      go_roundw
      case rel => exact ⟨k + 1, _, by omega, by go_num, rfl⟩
      case measure => simp [intOf]; omega
    · go_wp2_with fail
      go_ret
      exact ⟨rfl, m, rfl⟩

theorem sameG_any {v : Value} {l : List Row} {w : World} (h : Grp w v l) (hl : (l.length : Int) ≤ 1048576) :
    Calls Try.prog 19 #[v, v] w fun e w' => e = .returned (.bool true) ∧ ∃ n, w' = w.drewN n := by
  rcases h with ⟨rfl, rfl⟩ | ⟨g, rfl, h⟩
  · exact sameG_nil w
  · exact sameG_row g l.length w hl (fun k hk => by obtain ⟨pb, h1, _⟩ := h k hk; exact ⟨pb, h1⟩)

end Go.Proofs.Qxb6617321a
