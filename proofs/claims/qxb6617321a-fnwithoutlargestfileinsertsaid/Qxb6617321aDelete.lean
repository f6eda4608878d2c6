/-
  The walk of slices.Delete(s, i, i+1) at a slice of groups that fills its block.
-/
import Derived.Test.Qxb6617321aSame
import Derived.Deep.RegionLaw
import Derived.Lib.SliceRun
namespace Go.Proofs.Qxb6617321a
open Go.RowKit

theorem zero32 (w : World) : (zeroValue 32).run Try.prog w = .ok (.slice none 0 0) w := by kernel_rfl

theorem ret_sl {a : Option Addr} {n m c : Nat} (h : n = m) : Ending.returned (.slice a n c) = .returned (.slice a m c) := by rw [h]

/-- The groups without the i-th, behind them the nil group. -/
def without (f : Nat → Value) (n i : Nat) (j : Nat) : Value := if j < i then f j else if j + 1 < n then f (j + 1) else nilV

theorem rowIs_setCells {b : Nat} {t : TypeId} {n : Nat} : ∀ (vs : List Value) (o : Nat) (w : World) (f : Nat → Value), w.rowIs b t n f → o + vs.length ≤ n →
    (w.setCells b o vs).rowIs b t n (fun j => if j < o then f j else if j < o + vs.length then vs.getD (j - o) nilV else f j)
  | [], o, w, f, h, _ => h.congr (fun j hj => by simp; intro q; omega)
  | v :: r, o, w, f, h, hl => by
    simp at hl
    refine (rowIs_setCells r (o + 1) _ _ (h.set o v) (by omega)).congr (fun j hj => ?_)
    by_cases e1 : j < o
    · have a1 : j < o + 1 := by omega
      have a2 : ¬ j = o := by omega
      simp only [e1, a1, a2, if_true, if_false]
    · by_cases e2 : j = o
      · subst e2; simp
      · have a1 : ¬ j < o + 1 := by omega
        simp only [e1, e2, a1, if_false, List.length_cons]
        by_cases e3 : j < o + 1 + r.length
        · have a3 : j < o + (r.length + 1) := by omega
          simp only [e3, a3, if_true]
          rw [show j - o = (j - (o + 1)) + 1 by omega]
          simp
        · have a3 : ¬ j < o + (r.length + 1) := by omega
          simp only [e3, a3, if_false]

theorem setCells_other {b k : Nat} (hk : k ≠ b) : ∀ (vs : List Value) (o : Nat) (w : World), (w.setCells b o vs).heap[k]? = w.heap[k]?
  | [], _, _ => rfl
  | v :: r, o, w => by
    rw [World.setCells, setCells_other hk r]
    exact Below.heap_setCell _ _ _ _ hk
theorem setCells_size {b : Nat} : ∀ (vs : List Value) (o : Nat) (w : World), (w.setCells b o vs).heap.size = w.heap.size ∧ (w.setCells b o vs).os = w.os ∧ (w.setCells b o vs).tape = w.tape ∧ (w.setCells b o vs).output = w.output
  | [], _, _ => ⟨rfl, rfl, rfl, rfl⟩
  | v :: r, o, w => by
    rw [World.setCells]
    obtain ⟨h1, h2, h3, h4⟩ := setCells_size (b := b) r (o + 1) (w.setCell ⟨b, o, none⟩ v)
    exact ⟨h1.trans (Deep.nblk_setCell _ _ _), h2, h3, h4⟩
theorem setCells_grown (b : Nat) (vs : List Value) (o : Nat) (w : World) : w.grownBy (w.setCells b o vs) (some b) := by
  obtain ⟨h1, h2, h3, h4⟩ := setCells_size (b := b) vs o w
  exact ⟨h2, h3, h4, by omega, fun k _ hne => setCells_other (fun e => hne (by rw [e])) vs o w⟩

set_option maxHeartbeats 4000000 in
set_option maxRecDepth 1000000 in
theorem delete_any (b n i : Nat) (f : Nat → Value) (w : World) (hi : i < n) (hn : (n : Int) ≤ 4194304) (hf : IsSl f) (hrow : w.rowIs b 32 n f) :
    Calls Try.prog 21 #[.slice (some ⟨b, 0, none⟩) n n, .int .i64 i, .int .i64 ((i : Int) + 1)] w fun e w' => e = .returned (.slice (some ⟨b, 0, none⟩) (n - 1) n) ∧ w'.rowIs b 32 n (without f n i) ∧ w.grownBy w' (some b) := by
  obtain ⟨i0, hi0, hz0, hz1, hz2⟩ := info_parts info32
  obtain ⟨news, hnews⟩ : ∃ news, news = (List.range (n - (i + 1))).map (fun t => f (i + 1 + t)) := ⟨_, rfl⟩
  have hlen : news.length = n - (i + 1) := by rw [hnews]; simp
  have hget : ∀ t, t < n - (i + 1) → news[t]? = some (f (i + 1 + t)) := fun t ht => by rw [hnews]; simp [ht]
  obtain ⟨A, hA, hsrc⟩ : ∃ A : Addr, (if n = i + 1 then some (⟨b, 0, none⟩ : Addr) else some ⟨b, i + 1, none⟩) = some A ∧ Hid (∀ t u, news[t]? = some u → w.drew.cell? (A.add t) = some u) := by
    by_cases h : n = i + 1
    · refine ⟨⟨b, 0, none⟩, by simp [h], fun t u hu => ?_⟩
      have h0 : news.length = 0 := by rw [hlen]; omega
      rw [List.length_eq_zero_iff.1 h0] at hu
      simp at hu
    · refine ⟨⟨b, i + 1, none⟩, by simp [h], fun t u hu => ?_⟩
      have ht : t < n - (i + 1) := by
        have := (List.getElem?_eq_some_iff.1 hu).1
        rwa [hlen] at this
      rw [hget t ht] at hu
      rw [Addr.add_lit]
      exact (hrow.cell (by omega)).trans hu
  have s1 : Hid (news.length = (n - (i + 1)) * 1) := by rw [Nat.mul_one]; exact hlen
  have s2 : Hid (∀ u ∈ news, u.oneCell' = true) := by
    intro u hu
    rw [hnews] at hu
    obtain ⟨x, _, rfl⟩ := List.mem_map.1 hu
    obtain ⟨a, m, c, e⟩ := hf (i + 1 + x)
    simp only [e]
    rfl
  have s3 : Hid (∀ t, t < news.length → (w.drew.cell? ⟨b, 0 + i * 1 + t, none⟩).isSome = true ∧ w.drew.frozen? ⟨b, 0 + i * 1 + t, none⟩ = false) := by
    intro t ht
    rw [hlen] at ht
    rw [Nat.mul_one, Nat.zero_add]
    exact ⟨by show (w.cell? _).isSome = true; rw [hrow.cell (show i + t < n by omega)]; rfl, hrow.frozen (i + t)⟩
  obtain ⟨W1, hW1⟩ : ∃ W1, W1 = w.drew.setCells b (0 + i * 1) news := ⟨_, rfl⟩
  have hR1 : W1.rowIs b 32 n (fun j => if j < i then f j else if j < i + news.length then news.getD (j - i) nilV else f j) := by
    rw [hW1, Nat.mul_one, Nat.zero_add]
    exact rowIs_setCells news i w.drew f hrow.drew (by rw [hlen]; omega)
  have hg1 : w.grownBy W1 (some b) := by
    rw [hW1]
    obtain ⟨a, b', c, d, e⟩ := setCells_grown b news (0 + i * 1) w.drew
    exact ⟨a, b', c, d, e⟩
  obtain ⟨q, hq⟩ : ∃ q, q = i + (n - (i + 1)) := ⟨_, rfl⟩
  have hcl : ∀ ty, (Builtin.clear_ #[25] ty #[.slice (some ⟨b, q, none⟩) (n - q) (n - q)]).run Try.prog W1 = .ok (.tuple #[]) (W1.setCells b q (List.replicate (n - q) (.slice none 0 0))) :=
    fun ty => Lib.run_clear_slice W1 _ _ ty _ Try.underlying25 zero32 rfl rfl b q _ _ (by omega) (fun t ht => by rw [hR1.cell (show q + t < n by omega)]; rfl) (fun t ht => hR1.frozen _)
  have hW : Hid (W1 = w.drew.setCells b (0 + i * 1) news) := hW1
  have HR1 := hideN hR1
  have HG1 := hideN hg1
  have HQ := hideN hq
  have HN := hideN hnews
  have HL := hideN hlen
  have hic : i ≤ n := by omega
  have hwr : IntKind.i64.wrap ((i : Int) + 1) = (i : Int) + 1 := by rw [IntKind.wrap_i64]; omega
  have hp0 : (0 : Int) ≤ (i : Int) + 1 := by omega
  have hp1 : (i : Int) + 1 ≤ (n : Int) := by omega
  have hp2 : ((i : Int) + 1).toNat = i + 1 := by omega
  have hne : ((i : Int) == (i : Int) + 1) = false := by simp; omega
  rw [hq] at hcl
  clear hW1 hR1 hg1 hrow hget hnews hlen hf hq
  go_enter Try.func21, Try.ntmps21
  go_wp2_with fail
  go_region_law (refine step_append_room rfl (.tmp 22) (.tmp 25) 25 rfl 32 i0 1 Try.underlying25 hi0 hz1 b 0 i n (by simp [Act.eval, Act.put]) A (n - (i + 1)) (n - (i + 1)) news (by simp [Act.eval, Act.put]) s1.out hsrc.out s2.out (by omega) s3.out ?_; rw [← hW.out])
  go_wp2_with fail
  go_ret
  refine ⟨ret_sl (show i + (n - (i + 1)) = n - 1 by omega), ?_, ?_⟩
  · have hq := HQ.out
    have hl := HL.out
    have hnw := HN.out
    refine (rowIs_setCells _ (i + (n - (i + 1))) _ _ HR1.out (by simp; omega)).congr (fun j hj => ?_)
    unfold without
    by_cases e1 : j < i
    · have a1 : j < i + (n - (i + 1)) := by omega
      simp only [e1, a1, if_true]
    · by_cases e2 : j + 1 < n
      · have a1 : j < i + (n - (i + 1)) := by omega
        have a2 : j < i + news.length := by omega
        simp only [e1, e2, a1, a2, if_true, if_false]
        rw [hnw]
        simp [show j - i < n - (i + 1) by omega, show i + 1 + (j - i) = j + 1 by omega]
      · have a1 : ¬ j < i + (n - (i + 1)) := by omega
        have a2 : j < i + (n - (i + 1)) + (List.replicate (n - (i + (n - (i + 1)))) (Value.slice none 0 0)).length := by simp; omega
        simp only [e1, e2, a1, a2, if_true, if_false]
        have a3 : j - (i + (n - (i + 1))) < n - (i + (n - (i + 1))) := by omega
        simp [a3, nilV]
  · exact HG1.out.trans (setCells_grown b _ _ _)

end Go.Proofs.Qxb6617321a
