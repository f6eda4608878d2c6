/-
  The walks of the two functions that count the input's bytes: they answer yes or no, and turn nothing.
-/
import Derived.Test.Qxb6617321aReads2
namespace Go.Proofs.Qxb6617321a
open Go.RowKit

/-- A group that came in, at one of its rows. -/
theorem InG.at {w : World} {a : Option Addr} {n c : Nat} {l : List Row} (h : InG w (.slice a n c) l) {k : Nat} (hk : k < n) :
    ∃ b off, a = some ⟨b, off, none⟩ ∧ w.cell? ⟨b, off + k * 3, none⟩ = some (.int .i64 (rowAt l k).a) ∧ w.cell? ⟨b, off + k * 3 + 1, none⟩ = some (.int .i64 (rowAt l k).d) ∧ w.cell? ⟨b, off + k * 3 + 2, none⟩ = some (.string (rowAt l k).t) := by
  rcases h with ⟨h, rfl⟩ | ⟨x, c', h, rfl⟩ | ⟨b, off, c', h, hc⟩
  · simp only [Value.slice.injEq] at h; omega
  · simp only [Value.slice.injEq] at h; omega
  · simp only [Value.slice.injEq] at h
    obtain ⟨rfl, rfl, _⟩ := h
    exact ⟨b, off, rfl, hc k hk⟩
theorem InR.shape {w : World} {v : Value} {ls : List (List Row)} (h : InR w v ls) : ∃ a c, v = .slice a ls.length c := by
  rcases h with ⟨a, c, rfl, rfl⟩ | ⟨b, off, c, rfl, _⟩
  · exact ⟨_, _, rfl⟩
  · exact ⟨_, _, rfl⟩
theorem InR.at {w : World} {a : Option Addr} {n c : Nat} {ls : List (List Row)} (h : InR w (.slice a n c) ls) {k : Nat} (hk : k < n) :
    ∃ b off ua m uc l, a = some ⟨b, off, none⟩ ∧ w.cell? ⟨b, off + k, none⟩ = some (.slice ua m uc) ∧ InG w (.slice ua m uc) l ∧ l = ls.getD k [] := by
  rcases h with ⟨a', c', h, rfl⟩ | ⟨b, off, c', h, hc⟩
  · simp only [Value.slice.injEq] at h; omega
  · simp only [Value.slice.injEq] at h
    obtain ⟨rfl, rfl, _⟩ := h
    obtain ⟨u, h1, h2⟩ := hc k hk
    obtain ⟨ua, uc, rfl⟩ := h2.shape
    exact ⟨b, off, ua, _, uc, _, rfl, h1, h2, rfl⟩

/-- It returns one of the two truth values; nothing turns. -/
def AnyB (e : Ending) (w w' : World) : Prop := ∃ r, e = .returned (.bool r) ∧ w' = w

set_option maxRecDepth 100000 in
set_option maxHeartbeats 2000000 in
theorem bytesJ (a : Option Addr) (na ca : Nat) (la : List (List Row)) (a' : Option Addr) (nb cb : Nat) (lb : List (List Row)) (w : World) (hA : InR w (.slice a na ca) la) (hB : InR w (.slice a' nb cb) lb) :
    Calls Try.prog 5 #[.slice a na ca, .slice a' nb cb] w fun e w' => AnyB e w w' := by
  have HA := hideN hA
  have HB := hideN hB
  clear hA hB
  by_cases hl : (1048576 : Int) < (na : Int)
  · go_enter Try.func5, Try.ntmps5
    go_wp2
    go_ret
    exact ⟨_, rfl, rfl⟩
  · have d1 : decide ((1048576 : Int) < (na : Int)) = false := by simp; omega
    have hl' : (na : Int) ≤ 1048576 := by omega
    clear hl
    go_enter Try.func5, Try.ntmps5
    go_wp2
    go_loop [5, 6] (fun z v => ∃ (k : Nat) (n : Int), k ≤ na ∧ 0 ≤ n ∧ n ≤ 1048576 ∧ z = .int .i64 n ∧ v = .int .i64 k) (fun _ v => na - (intOf v).toNat)
    case atStart => exact ⟨0, na, by omega, by omega, by omega, by go_num, rfl⟩
    case round =>
      skip
      obtain ⟨k, n, hk, hn0, hn1, rfl, rfl⟩ := hrel
      by_cases hlt : k < na
      · obtain ⟨b, off, ua, m, uc, l, rfl, c0, hG, _⟩ := HA.out.at hlt
        have HG := hideN hG
        clear hG
        by_cases h1 : (1048576 : Int) < (m : Int)
        · go_wp2
          go_ret
          exact ⟨_, rfl, rfl⟩
        · by_cases h2 : (1048576 : Int) < n + (m : Int)
          · go_wp2
            go_ret
            exact ⟨_, rfl, rfl⟩
          · go_wp2
            go_loop [5, 7] (fun z v => ∃ (j : Nat) (n : Int), j ≤ m ∧ 0 ≤ n ∧ n ≤ 1048576 ∧ z = .int .i64 n ∧ v = .int .i64 j) (fun _ v => m - (intOf v).toNat)
            case atStart => exact ⟨0, n + m, by omega, by omega, by omega, by go_num, rfl⟩
            case round =>
              clear hn0 hn1 h2
              obtain ⟨j, n, hj, hn0, hn1, rfl, rfl⟩ := hrel
              by_cases hjl : j < m
              · obtain ⟨b2, off2, rfl, -, -, c2⟩ := HG.out.at hjl
                generalize rowAt l j = r at c2
                by_cases h3 : (1048576 : Int) < (r.t.size : Int)
                · go_wp2
                  go_ret
                  exact ⟨_, rfl, rfl⟩
                · by_cases h4 : (1048576 : Int) < n + (r.t.size : Int)
                  · go_wp2
                    go_ret
                    exact ⟨_, rfl, rfl⟩
                  · go_wp2
                    go_round
                    case rel => exact ⟨j + 1, n + (r.t.size : Int), by omega, by omega, by omega, by go_num, by go_num⟩
                    case measure => simp [intOf]; omega
              · go_wp2
                go_round
                case rel => exact ⟨k + 1, n, by omega, by omega, by omega, by go_num, by go_num⟩
                case measure => simp [intOf]; omega
      · by_cases g1 : (1048576 : Int) < (nb : Int)
        · go_wp2
          go_ret
          exact ⟨_, rfl, rfl⟩
        · have d2 : decide ((1048576 : Int) < (nb : Int)) = false := by simp; omega
          by_cases g2 : (1048576 : Int) < n + (nb : Int)
          · go_wp2
            go_ret
            exact ⟨_, rfl, rfl⟩
          · have d3 : decide ((1048576 : Int) < n + (nb : Int)) = false := by simp; omega
            go_wp2
            go_loop [5, 8] (fun z v => ∃ (k : Nat) (n : Int), k ≤ nb ∧ 0 ≤ n ∧ n ≤ 1048576 ∧ z = .int .i64 n ∧ v = .int .i64 k) (fun _ v => nb - (intOf v).toNat)
            case atStart => exact ⟨0, n + nb, by omega, by omega, by omega, by go_num, rfl⟩
            case round =>
              clear hn0 hn1 g2
              obtain ⟨k, n, hk, hn0, hn1, rfl, rfl⟩ := hrel
              by_cases hlt : k < nb
              · obtain ⟨b, off, ua, m, uc, l, rfl, c0, hG, _⟩ := HB.out.at hlt
                have HG := hideN hG
                clear hG
                by_cases h1 : (1048576 : Int) < (m : Int)
                · go_wp2
                  go_ret
                  exact ⟨_, rfl, rfl⟩
                · by_cases h2 : (1048576 : Int) < n + (m : Int)
                  · go_wp2
                    go_ret
                    exact ⟨_, rfl, rfl⟩
                  · go_wp2
                    go_loop [5, 9] (fun z v => ∃ (j : Nat) (n : Int), j ≤ m ∧ 0 ≤ n ∧ n ≤ 1048576 ∧ z = .int .i64 n ∧ v = .int .i64 j) (fun _ v => m - (intOf v).toNat)
                    case atStart => exact ⟨0, n + m, by omega, by omega, by omega, by go_num, rfl⟩
                    case round =>
                      clear hn0 hn1 h2
                      obtain ⟨j, n, hj, hn0, hn1, rfl, rfl⟩ := hrel
                      by_cases hjl : j < m
                      · obtain ⟨b2, off2, rfl, -, -, c2⟩ := HG.out.at hjl
                        generalize rowAt l j = r at c2
                        by_cases h3 : (1048576 : Int) < (r.t.size : Int)
                        · go_wp2
                          go_ret
                          exact ⟨_, rfl, rfl⟩
                        · by_cases h4 : (1048576 : Int) < n + (r.t.size : Int)
                          · go_wp2
                            go_ret
                            exact ⟨_, rfl, rfl⟩
                          · go_wp2
                            go_round
                            case rel => exact ⟨j + 1, n + (r.t.size : Int), by omega, by omega, by omega, by go_num, by go_num⟩
                            case measure => simp [intOf]; omega
                      · go_wp2
                        go_round
                        case rel => exact ⟨k + 1, n, by omega, by omega, by omega, by go_num, by go_num⟩
                        case measure => simp [intOf]; omega
              · go_wp2
                go_ret
                exact ⟨_, rfl, rfl⟩

set_option maxRecDepth 100000 in
set_option maxHeartbeats 2000000 in
theorem bytesI (a : Option Addr) (na ca : Nat) (la : List (List Row)) (p : Int) (a' : Option Addr) (nb cb : Nat) (lb : List Row) (w : World) (hA : InR w (.slice a na ca) la) (hB : InG w (.slice a' nb cb) lb) :
    Calls Try.prog 13 #[.slice a na ca, .int .i64 p, .slice a' nb cb] w fun e w' => AnyB e w w' := by
  have HA := hideN hA
  have HB := hideN hB
  clear hA hB
  by_cases hl : (1048576 : Int) < (na : Int)
  · go_enter Try.func13, Try.ntmps13
    go_wp2
    go_ret
    exact ⟨_, rfl, rfl⟩
  · have d1 : decide ((1048576 : Int) < (na : Int)) = false := by simp; omega
    have hl' : (na : Int) ≤ 1048576 := by omega
    clear hl
    go_enter Try.func13, Try.ntmps13
    go_wp2
    go_loop [7, 8] (fun z v => ∃ (k : Nat) (n : Int), k ≤ na ∧ 0 ≤ n ∧ n ≤ 1048576 ∧ z = .int .i64 n ∧ v = .int .i64 k) (fun _ v => na - (intOf v).toNat)
    case atStart => exact ⟨0, na, by omega, by omega, by omega, by go_num, rfl⟩
    case round =>
      skip
      obtain ⟨k, n, hk, hn0, hn1, rfl, rfl⟩ := hrel
      by_cases hlt : k < na
      · obtain ⟨b, off, ua, m, uc, l, rfl, c0, hG, _⟩ := HA.out.at hlt
        have HG := hideN hG
        clear hG
        by_cases h1 : (1048576 : Int) < (m : Int)
        · go_wp2
          go_ret
          exact ⟨_, rfl, rfl⟩
        · by_cases h2 : (1048576 : Int) < n + (m : Int)
          · go_wp2
            go_ret
            exact ⟨_, rfl, rfl⟩
          · go_wp2
            go_loop [7, 9] (fun z v => ∃ (j : Nat) (n : Int), j ≤ m ∧ 0 ≤ n ∧ n ≤ 1048576 ∧ z = .int .i64 n ∧ v = .int .i64 j) (fun _ v => m - (intOf v).toNat)
            case atStart => exact ⟨0, n + m, by omega, by omega, by omega, by go_num, rfl⟩
            case round =>
              clear hn0 hn1 h2
              obtain ⟨j, n, hj, hn0, hn1, rfl, rfl⟩ := hrel
              by_cases hjl : j < m
              · obtain ⟨b2, off2, rfl, -, -, c2⟩ := HG.out.at hjl
                generalize rowAt l j = r at c2
                by_cases h3 : (1048576 : Int) < (r.t.size : Int)
                · go_wp2
                  go_ret
                  exact ⟨_, rfl, rfl⟩
                · by_cases h4 : (1048576 : Int) < n + (r.t.size : Int)
                  · go_wp2
                    go_ret
                    exact ⟨_, rfl, rfl⟩
                  · go_wp2
                    go_round
                    case rel => exact ⟨j + 1, n + (r.t.size : Int), by omega, by omega, by omega, by go_num, by go_num⟩
                    case measure => simp [intOf]; omega
              · go_wp2
                go_round
                case rel => exact ⟨k + 1, n, by omega, by omega, by omega, by go_num, by go_num⟩
                case measure => simp [intOf]; omega
      · by_cases g1 : (1048576 : Int) < (nb : Int)
        · go_wp2
          go_ret
          exact ⟨_, rfl, rfl⟩
        · have d2 : decide ((1048576 : Int) < (nb : Int)) = false := by simp; omega
          by_cases g2 : (1048576 : Int) < n + (nb : Int)
          · go_wp2
            go_ret
            exact ⟨_, rfl, rfl⟩
          · have d3 : decide ((1048576 : Int) < n + (nb : Int)) = false := by simp; omega
            go_wp2
            go_loop [7, 10] (fun z v => ∃ (j : Nat) (n : Int), j ≤ nb ∧ 0 ≤ n ∧ n ≤ 1048576 ∧ z = .int .i64 n ∧ v = .int .i64 j) (fun _ v => nb - (intOf v).toNat)
            case atStart => exact ⟨0, n + nb, by omega, by omega, by omega, by go_num, rfl⟩
            case round =>
              clear hn0 hn1 g2
              obtain ⟨j, n, hj, hn0, hn1, rfl, rfl⟩ := hrel
              by_cases hjl : j < nb
              · obtain ⟨b2, off2, rfl, -, -, c2⟩ := HB.out.at hjl
                generalize rowAt lb j = r at c2
                by_cases h3 : (1048576 : Int) < (r.t.size : Int)
                · go_wp2
                  go_ret
                  exact ⟨_, rfl, rfl⟩
                · by_cases h4 : (1048576 : Int) < n + (r.t.size : Int)
                  · go_wp2
                    go_ret
                    exact ⟨_, rfl, rfl⟩
                  · go_wp2
                    go_round
                    case rel => exact ⟨j + 1, n + (r.t.size : Int), by omega, by omega, by omega, by go_num, by go_num⟩
                    case measure => simp [intOf]; omega
              · go_wp2
                go_ret
                exact ⟨_, rfl, rfl⟩

end Go.Proofs.Qxb6617321a
