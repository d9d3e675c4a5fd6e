/- A row of a call's own, read as the sort's row of five cells an element. -/
import Derived.Test.YtkpiioiahdcpjaaDoorBl
import Derived.Test.YtkpiioiahdcpjaaDoorV
namespace Go.Proofs.YtkpiioiahdcpjaaDoor
open Go.RowKit Go.Lib Go.Sort

theorem flatn {α : Type} {enc : α → List Value} {s : Nat} (hk : ∀ x, (enc x).length = s) : ∀ {l : List α} {k : Nat} {e : α} {j : Nat}, l[k]? = some e → j < s → (l.flatMap enc)[k * s + j]? = (enc e)[j]?
  | [], k, e, j, h, _ => by simp at h
  | x :: l, 0, e, j, h, hj => by
    simp only [List.getElem?_cons_zero, Option.some.injEq] at h
    subst h
    rw [List.flatMap_cons, Nat.zero_mul, Nat.zero_add, List.getElem?_append_left (by rw [hk]; exact hj)]
  | x :: l, k + 1, e, j, h, hj => by
    rw [List.getElem?_cons_succ] at h
    have h2 := flatn hk h hj
    have hm : (k + 1) * s = k * s + s := by rw [Nat.add_mul, Nat.one_mul]
    rw [List.flatMap_cons, List.getElem?_append_right (by rw [hk, hm]; omega), hk, show (k + 1) * s + j - s = k * s + j by omega]
    exact h2
theorem flatn_length {α : Type} {enc : α → List Value} {s : Nat} (hk : ∀ x, (enc x).length = s) (l : List α) : (l.flatMap enc).length = l.length * s := by
  induction l with
  | nil => simp
  | cons x l ih => rw [List.flatMap_cons, List.length_append, hk, ih, List.length_cons, Nat.add_mul, Nat.one_mul, Nat.add_comm]

theorem holds_of_row {w : World} {base : Nat} {ty : TypeId} {enc : Exp → List Value} (hk : ∀ x, (enc x).length = 5) {v : Value} {L : List Exp} (h : w.ownsRow base ty 5 v L.length (L.flatMap enc)) (h1 : 1 ≤ L.length) :
    ∃ g cap, v = .slice (some ⟨g, 0, none⟩) L.length cap ∧ base ≤ g ∧ g < w.heap.size ∧ HoldsK enc 5 w g 0 L.toArray := by
  rcases h.2 with ⟨_, h0⟩ | ⟨g, cap, cur, rfl, hb, hg, hncap, hcap, hcur, htake⟩
  · omega
  · have hlt : g < w.heap.size := (Array.getElem?_eq_some_iff.mp hg).1
    refine ⟨g, cap, rfl, hb, hlt, fun t ht => ?_⟩
    rw [size_flatK] at ht
    have ht' : t < L.length * 5 := by simpa using ht
    refine ⟨?_, ?_⟩
    · rw [get_flatK _ _ _ _ ht]
      have hdiv : t / 5 < L.length := by omega
      have h5 := flatn hk (l := L) (k := t / 5) (e := L[t / 5]) (j := t % 5) (List.getElem?_eq_getElem hdiv) (Nat.mod_lt _ (by omega))
      rw [show t / 5 * 5 + t % 5 = t by omega] at h5
      have hlen : t % 5 < (enc L[t / 5]).length := by rw [hk]; exact Nat.mod_lt _ (by omega)
      rw [List.getElem?_eq_getElem hlen] at h5
      have := World.ownsRow.cells h (g := g) rfl t _ h5
      rw [add_zero_blk] at this
      rw [Nat.zero_add]
      have e1 : L.toArray[t / 5]! = L[t / 5] := by simp [hdiv]
      rw [e1, getElem!_pos (enc L[t / 5]) (t % 5) hlen]
      exact this
    · unfold World.frozen?
      simp only [hg]
      simp
end Go.Proofs.YtkpiioiahdcpjaaDoor
