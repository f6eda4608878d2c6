/-
  DERIVED. One observation of the mean itself: the plain step, the door at it, the sameness of two floats.
-/
import Derived.Test.Qxb6617397aWalks
namespace Go.Proofs.Qxb6617397a
open Go.RowKit
attribute [local go_sem] run_store_float

theorem hideN {p : Prop} (h : p) : Hid p := h

theorem mean_step {n run x : Nat} (hx : Fin x) (hr : Eqv run x ∨ (n = 0 ∧ run = 0)) (hn : n < 1073807360) :
    ∃ dl qd r1 e pr, Ieee.double.sub x run = some dl ∧ Ieee.double.div dl (ofCount (n + 1)) = some qd ∧ Ieee.double.add run qd = some r1 ∧ Ieee.double.sub x r1 = some e ∧ Ieee.double.mul dl e = some pr ∧ Eqv r1 x ∧ Zr pr := by
  rcases hr with hr | ⟨rfl, rfl⟩
  · obtain ⟨dl, h1, z1⟩ := sub_eqv hx hr
    obtain ⟨qd, h2, z2⟩ := div_zero (n := n + 1) z1 (by omega) (by omega)
    obtain ⟨r1, h3, z3⟩ := add_zero (hr.fin hx) z2
    have z4 := z3.trans hr
    obtain ⟨e, h5, z5⟩ := sub_eqv hx z4
    obtain ⟨pr, h6, z6⟩ := mul_zero z1.fin z5
    exact ⟨dl, qd, r1, e, pr, h1, h2, h3, h5, h6, z4, z6⟩
  · obtain ⟨r1, h3, z3⟩ := nought_add hx
    obtain ⟨e, h5, z5⟩ := sub_eqv hx z3
    obtain ⟨pr, h6, z6⟩ := mul_zero hx z5
    exact ⟨x, x, r1, e, pr, sub_nought hx, div_one hx, h3, h5, h6, z3, z6⟩

theorem door_mean (n : Nat) (sum run sq x : Nat) (w : World) (hn : n < 1073807360) (hx : Fin x) (hr : Eqv run x ∨ (n = 0 ∧ run = 0)) :
    Calls Try.prog 6 #[.int .i64 n, .float .f64 sum, .float .f64 run, .float .f64 sq, .float .f64 x] w fun e w' =>
      (∃ s1 r1 q1, e = .returned (.tuple #[.int .i64 ((n : Int) + 1), .float .f64 s1, .float .f64 r1, .float .f64 q1]) ∧ Eqv r1 x ∧ Plus sum x s1 ∧ ∃ pr, Zr pr ∧ Plus sq pr q1) ∧ Below w.heap.size w w' := by
  obtain ⟨dl, qd, r1, e, pr, h1, h2, h3, h4, h5, h6, h7⟩ := mean_step hx hr hn
  refine (door_any n sum run sq x w (by omega) dl qd r1 e pr h1 h2 h3 h4 h5).mono ?_
  rintro e w' ⟨⟨s, q, he, p1, p2⟩, hb⟩
  exact ⟨⟨s, r1, q, he, h6, p1, pr, h7, p2⟩, hb⟩

/-- What 'Same' asks of two floats. -/
def SameF (a b : Nat) : Prop := (Ieee.double.order a b = some .eq) ∨ (IsNaN a ∧ IsNaN b)

set_option maxHeartbeats 400000 in
theorem same_any (a b : Nat) (w : World) (h : SameF a b) :
    Calls Try.prog 7 #[.float .f64 a, .float .f64 b] w fun e w' => e = .returned (.bool true) ∧ w' = w := by
  rcases h with h | ⟨ha, hb⟩
  · have h1 : FloatKind.f64.format.order a b = some .eq := h
    clear h
    go_enter Try.func7, Try.ntmps7
    go_wp2
    go_ret
    exact ⟨rfl, rfl⟩
  · have h1 : FloatKind.f64.format.order a b = none := nan_order ha b
    have h2 : FloatKind.f64.format.order a a = none := nan_order ha a
    have h3 : FloatKind.f64.format.order b b = none := nan_order hb b
    clear ha hb
    go_enter Try.func7, Try.ntmps7
    go_wp2
    go_ret
    exact ⟨rfl, rfl⟩

/-- How two running totals stand to each other: one number, or two NaNs. -/
def Tot (a b : Nat) : Prop := (a = b ∧ NotNaN a) ∨ (IsNaN a ∧ IsNaN b)
theorem Tot.same {a b : Nat} (h : Tot a b) : SameF a b := by
  rcases h with ⟨rfl, h⟩ | h
  · exact .inl (order_self h)
  · exact .inr h
/-- How the squares stand to what they were. -/
def Kept (a b : Nat) : Prop := (Eqv a b ∧ NotNaN a) ∨ (IsNaN a ∧ IsNaN b)
theorem Kept.same {a b : Nat} (h : Kept a b) : SameF a b := by
  rcases h with ⟨h1, h2⟩ | h
  · exact .inl (order_eqv h1 h2)
  · exact .inr h
theorem Kept.step {a b p a' : Nat} (h : Kept a b) (hp : Zr p) (h' : Plus a p a') : Kept a' b := by
  rcases h with ⟨h1, h2⟩ | ⟨h1, h2⟩
  · obtain ⟨z, e, k1, k2⟩ := add_keeps h2 hp
    rcases h' with h' | ⟨h', _⟩
    · rw [e] at h'; cases h'
      exact .inl ⟨k1.trans h1, k2⟩
    · rw [e] at h'; cases h'
  · rcases h' with h' | ⟨_, h'⟩
    · rw [nan_add h1] at h'; cases h'
    · exact .inr ⟨h', h2⟩

end Go.Proofs.Qxb6617397a
