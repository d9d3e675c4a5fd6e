/- symMerge, plain: behind the rotation. -/
import Derived.Test.YtkpiioiahdcpjaaDoorBf
namespace Go.Proofs.YtkpiioiahdcpjaaDoor
open Go.RowKit

theorem Pm.mem {α : Type} {a b : Nat} {f f' : Nat → α} (h : Pm a b f f') {x : Nat} (h1 : a ≤ x) (h2 : x < b) : ∃ y, a ≤ y ∧ y < b ∧ f' x = f y := by
  have hm : f' x ∈ seg f' a b := List.mem_map.2 ⟨x, by rw [List.mem_range'_1]; omega, rfl⟩
  have h3 := h.2.mem_iff.1 hm
  obtain ⟨y, hy, e⟩ := List.mem_map.1 h3
  rw [List.mem_range'_1] at hy
  exact ⟨y, hy.1, by omega, e.symm⟩

section
variable {α : Type} {lt : α → α → Bool} {f : Nat → α} {a m b s e mid : Nat}
theorem rot_val (x : Nat) (hse : s + (e - m) = mid) (hsm : s ≤ m) (hme : m ≤ e) : rotf f s m e x = if x < s then f x else if x < mid then f (x + (m - s)) else if x < e then f (x - (e - m)) else f x := by
  unfold rotf
  repeat' split
  all_goals first | (exfalso; omega) | (congr 1; omega) | rfl

theorem merge_parts (O : OrdOk lt) (h1 : Srtd lt f a m) (h2 : Srtd lt f m b) (has : a ≤ s) (hsm : s ≤ m) (hme : m ≤ e) (heb : e ≤ b) (hse : s + (e - m) = mid)
    (hl : s = a ∨ e = b ∨ lt (f e) (f (s - 1)) = false) (hr : s = m ∨ e = m ∨ lt (f (e - 1)) (f s) = true) :
    Srtd lt (rotf f s m e) a s ∧ Srtd lt (rotf f s m e) s mid ∧ Srtd lt (rotf f s m e) mid e ∧ Srtd lt (rotf f s m e) e b ∧
    ∀ x y, a ≤ x → x < mid → mid ≤ y → y < b → lt (rotf f s m e y) (rotf f s m e x) = false := by
  have le1 : ∀ x y, a ≤ x → x ≤ y → y < m → lt (f y) (f x) = false := fun x y hx hxy hy => by
    by_cases c : x = y
    · subst c; exact O.irr _
    · exact h1 x y hx (by omega) hy
  have le2 : ∀ x y, m ≤ x → x ≤ y → y < b → lt (f y) (f x) = false := fun x y hx hxy hy => by
    by_cases c : x = y
    · subst c; exact O.irr _
    · exact h2 x y hx (by omega) hy
  have up : ∀ x y, a ≤ x → x < s → e ≤ y → y < b → lt (f y) (f x) = false := fun x y hx hxs hey hyb => by
    rcases hl with hl | hl | hl
    · omega
    · omega
    · exact O.ltr _ _ _ (O.ltr _ _ _ (le1 x (s - 1) hx (by omega) (by omega)) hl) (le2 e y (by omega) hey hyb)
  have dn : ∀ x y, m ≤ x → x < e → s ≤ y → y < m → lt (f y) (f x) = false := fun x y hx hxe hsy hym => by
    rcases hr with hr | hr | hr
    · omega
    · omega
    · exact O.ltr _ _ _ (O.ltr _ _ _ (le2 x (e - 1) hx (by omega) (by omega)) (O.asym _ _ hr)) (le1 s y has hsy hym)
  have v := fun x => rot_val (f := f) x hse hsm hme
  refine ⟨fun x y hx hxy hy => ?_, fun x y hx hxy hy => ?_, fun x y hx hxy hy => ?_, fun x y hx hxy hy => ?_, fun x y hx hxm hym hyb => ?_⟩
  · rw [v, v, if_pos (by omega), if_pos (by omega)]; exact h1 x y hx hxy (by omega)
  · rw [v, v, if_neg (by omega), if_pos (by omega), if_neg (by omega), if_pos (by omega)]; exact h2 _ _ (by omega) (by omega) (by omega)
  · rw [v, v, if_neg (by omega), if_neg (by omega), if_pos (by omega), if_neg (by omega), if_neg (by omega), if_pos (by omega)]; exact h1 _ _ (by omega) (by omega) (by omega)
  · rw [v, v, if_neg (by omega), if_neg (by omega), if_neg (by omega), if_neg (by omega), if_neg (by omega), if_neg (by omega)]; exact h2 _ _ (by omega) hxy hy
  · rw [v x, v y, if_neg (by omega : ¬ y < s), if_neg (by omega : ¬ y < mid)]
    by_cases c1 : x < s
    · rw [if_pos c1]
      by_cases c2 : y < e
      · rw [if_pos c2]; exact le1 _ _ hx (by omega) (by omega)
      · rw [if_neg c2]; exact up x y hx c1 (by omega) hyb
    · rw [if_neg c1, if_pos hxm]
      by_cases c2 : y < e
      · rw [if_pos c2]; exact dn _ _ (by omega) (by omega) (by omega) (by omega)
      · rw [if_neg c2]; exact le2 _ _ (by omega) (by omega) hyb

/-- Two sorted halves, all of the one below all of the other, each permuted within itself. -/
theorem merge_join {f1 f2 f3 : Nat → α} (ham : a ≤ mid) (hmb : mid ≤ b) (hx : ∀ x y, a ≤ x → x < mid → mid ≤ y → y < b → lt (f1 y) (f1 x) = false) (p2 : Pm a mid f1 f2) (s2 : Srtd lt f2 a mid) (p3 : Pm mid b f2 f3) (s3 : Srtd lt f3 mid b) : Srtd lt f3 a b := by
  intro x y h1 h2 h3
  have e3 : ∀ z, z < mid → f3 z = f2 z := fun z hz => p3.1 z (by omega)
  have e2 : ∀ z, mid ≤ z → f2 z = f1 z := fun z hz => p2.1 z (by omega)
  by_cases c1 : y < mid
  · rw [e3 x (by omega), e3 y c1]; exact s2 x y h1 h2 c1
  · by_cases c2 : x < mid
    · rw [e3 x c2]
      obtain ⟨x', hx1, hx2, hx3⟩ := p2.mem h1 c2
      obtain ⟨y', hy1, hy2, hy3⟩ := p3.mem (by omega : mid ≤ y) h3
      rw [hx3, hy3, e2 y' hy1]
      exact hx x' y' hx1 hx2 hy1 hy2
    · exact s3 x y (by omega) h2 h3
end
end Go.Proofs.YtkpiioiahdcpjaaDoor
