/- The places of nodes, plain: a pass over the nodes, and that passes end. -/
import Derived.Test.YtkpiioiahdcpjaaDoorN
namespace Go.Proofs.YtkpiioiahdcpjaaDoor
open Go.RowKit

/-- The lengths of nodes, which hang on the places of nodes. -/
structure LenOk (len : (Nat → Nat) → Nd → Nat) (C M : Nat) (all : List Nd) : Prop where
  mono : ∀ p q : Nat → Nat, (∀ x, p x ≤ q x) → ∀ n, len p n ≤ len q n
  bound : ∀ p : Nat → Nat, (∀ x, p x ≤ C) → ∀ n ∈ all, len p n ≤ M
  fits : all.length * M ≤ C
  ids : (all.map Nd.id).Nodup

/-- The place of the i-th, by the lengths of those ahead. -/
def offAt (len : (Nat → Nat) → Nd → Nat) (p : Nat → Nat) (all : List Nd) (i : Nat) : Nat := ((all.take i).map (len p)).sum

section
variable {len : (Nat → Nat) → Nd → Nat} {C M : Nat} {all : List Nd}
theorem offAt_succ (p : Nat → Nat) {i : Nat} {n : Nd} (h : all[i]? = some n) : offAt len p all (i + 1) = offAt len p all i + len p n := by
  unfold offAt
  rw [List.take_add_one, h]
  simp
theorem offAt_mono (ok : LenOk len C M all) {p q : Nat → Nat} (h : ∀ x, p x ≤ q x) (i : Nat) : offAt len p all i ≤ offAt len q all i := by
  unfold offAt
  generalize all.take i = l
  induction l with
  | nil => simp
  | cons n l ih => have := ok.mono p q h n; simp only [List.map_cons, List.sum_cons]; omega
theorem sum_le_mul (f : Nd → Nat) (M : Nat) : ∀ l : List Nd, (∀ n ∈ l, f n ≤ M) → (l.map f).sum ≤ l.length * M
  | [], _ => by simp
  | n :: l, h => by
    have h1 := h n (by simp)
    have h2 := sum_le_mul f M l (fun m hm => h m (by simp [hm]))
    simp only [List.map_cons, List.sum_cons, List.length_cons, Nat.add_mul, Nat.one_mul]; omega
theorem offAt_le (ok : LenOk len C M all) {p : Nat → Nat} (h : ∀ x, p x ≤ C) (i : Nat) : offAt len p all i ≤ C := by
  unfold offAt
  refine Nat.le_trans (sum_le_mul (len p) M _ fun n hn => ok.bound p h n (List.mem_of_mem_take hn)) (Nat.le_trans (Nat.mul_le_mul_right _ ?_) ok.fits)
  rw [List.length_take]; omega

/-- Between passes. -/
structure Places (len : (Nat → Nat) → Nd → Nat) (C : Nat) (all : List Nd) (p : Nat → Nat) : Prop where
  le : ∀ (i : Nat) (n : Nd), all[i]? = some n → p n.id ≤ offAt len p all i
  bound : ∀ x, p x ≤ C

/-- Within a pass that began with p0: i nodes have been done. -/
structure Pass (len : (Nat → Nat) → Nd → Nat) (C : Nat) (all : List Nd) (p0 : Nat → Nat) (i : Nat) (p : Nat → Nat) (at' : Nat) (changed : Bool) : Prop where
  ge : ∀ x, p0 x ≤ p x
  lo : offAt len p0 all i ≤ at'
  hi : at' ≤ offAt len p all i
  done : ∀ (j : Nat) (n : Nd), j < i → all[j]? = some n → p n.id ≤ offAt len p all j
  rest : ∀ (j : Nat) (n : Nd), i ≤ j → all[j]? = some n → p n.id = p0 n.id
  bound : ∀ x, p x ≤ C
  same : changed = false → p = p0 ∧ ∀ (j : Nat) (n : Nd), j < i → all[j]? = some n → p n.id = offAt len p all j
  more : changed = true → ∃ n ∈ all, p0 n.id < p n.id

theorem Pass.start {p : Nat → Nat} (h : Places len C all p) : Pass len C all p 0 p 0 false :=
  ⟨fun _ => Nat.le_refl _, by simp [offAt], Nat.zero_le _, fun j _ hj => absurd hj (Nat.not_lt_zero _), fun _ _ _ _ => rfl, h.bound, fun _ => ⟨rfl, fun j _ hj => absurd hj (Nat.not_lt_zero _)⟩, fun h => by cases h⟩

theorem get_id_inj (ok : LenOk len C M all) {i j : Nat} {n m : Nd} (h1 : all[i]? = some n) (h2 : all[j]? = some m) (he : n.id = m.id) : i = j := by
  obtain ⟨a1, a2⟩ := List.getElem?_eq_some_iff.1 h1
  obtain ⟨b1, b2⟩ := List.getElem?_eq_some_iff.1 h2
  have hp := List.pairwise_iff_getElem.1 ok.ids
  rcases Nat.lt_trichotomy i j with hl | hl | hl
  · have := hp i j (by simpa using a1) (by simpa using b1) hl
    rw [List.getElem_map, List.getElem_map, a2, b2] at this
    exact absurd he this
  · exact hl
  · have := hp j i (by simpa using b1) (by simpa using a1) hl
    rw [List.getElem_map, List.getElem_map, a2, b2] at this
    exact absurd he.symm this

theorem Pass.turn (ok : LenOk len C M all) {p0 p : Nat → Nat} {i at' : Nat} {ch : Bool} {n : Nd} (hP : Places len C all p0) (h : Pass len C all p0 i p at' ch) (hn : all[i]? = some n) (hne : p n.id ≠ at') :
    Pass len C all p0 (i + 1) (upd p n.id at') (at' + len (upd p n.id at') n) true := by
  have hb : at' ≤ C := Nat.le_trans h.hi (offAt_le ok h.bound i)
  have h0 : p n.id = p0 n.id := h.rest i n (Nat.le_refl _) hn
  have hlt : p0 n.id < at' := by
    have := hP.le i n hn
    have := h.lo
    omega
  have hpq : ∀ x, p x ≤ upd p n.id at' x := by
    intro x; unfold upd; split
    · rename_i e; subst e; omega
    · exact Nat.le_refl _
  refine ⟨fun x => Nat.le_trans (h.ge x) (hpq x), ?_, ?_, ?_, ?_, ?_, fun e => (by cases e), fun _ => ⟨n, List.mem_of_getElem? hn, by unfold upd; rw [if_pos rfl]; exact hlt⟩⟩
  · rw [offAt_succ p0 hn]
    have := ok.mono p0 _ (fun x => Nat.le_trans (h.ge x) (hpq x)) n
    have := h.lo
    omega
  · rw [offAt_succ _ hn]
    have := offAt_mono (len := len) ok hpq i
    have := h.hi
    omega
  · intro j m hj hm
    by_cases hji : j = i
    · subst hji
      rw [hn] at hm
      injection hm with hm
      subst hm
      unfold upd
      rw [if_pos rfl]
      exact Nat.le_trans h.hi (offAt_mono ok hpq j)
    · have hmi : m.id ≠ n.id := fun e => hji (get_id_inj ok hm hn e)
      have e : upd p n.id at' m.id = p m.id := by unfold upd; rw [if_neg hmi]
      rw [e]
      exact Nat.le_trans (h.done j m (by omega) hm) (offAt_mono ok hpq j)
  · intro j m hj hm
    have hmi : m.id ≠ n.id := fun e => by have := get_id_inj ok hm hn e; omega
    have e : upd p n.id at' m.id = p m.id := by unfold upd; rw [if_neg hmi]
    rw [e]
    exact h.rest j m (by omega) hm
  · intro x; unfold upd; split
    · exact hb
    · exact h.bound x

theorem Pass.keep (ok : LenOk len C M all) {p0 p : Nat → Nat} {i at' : Nat} {ch : Bool} {n : Nd} (h : Pass len C all p0 i p at' ch) (hn : all[i]? = some n) (he : p n.id = at') :
    Pass len C all p0 (i + 1) p (at' + len p n) ch := by
  refine ⟨h.ge, ?_, ?_, ?_, fun j m hj hm => h.rest j m (by omega) hm, h.bound, ?_, h.more⟩
  · rw [offAt_succ p0 hn]
    have := ok.mono p0 p h.ge n
    have := h.lo
    omega
  · rw [offAt_succ p hn]
    have := h.hi
    omega
  · intro j m hj hm
    by_cases hji : j = i
    · subst hji
      rw [hn] at hm
      injection hm with hm
      subst hm
      rw [he]; exact h.hi
    · exact h.done j m (by omega) hm
  · intro hc
    obtain ⟨e, hs⟩ := h.same hc
    refine ⟨e, fun j m hj hm => ?_⟩
    by_cases hji : j = i
    · subst hji
      rw [hn] at hm
      injection hm with hm
      subst hm
      rw [he]
      have h1 := h.lo
      have h2 := h.hi
      rw [← e] at h1
      omega
    · exact hs j m (by omega) hm

theorem Pass.places {p0 p : Nat → Nat} {at' : Nat} {ch : Bool} (h : Pass len C all p0 all.length p at' ch) : Places len C all p :=
  ⟨fun i n hn => h.done i n (List.getElem?_eq_some_iff.1 hn).1 hn, h.bound⟩

/-- What is still to be climbed. -/
def climb (C : Nat) (all : List Nd) (p : Nat → Nat) : Nat := (all.map fun n => C - p n.id).sum
theorem climb_le {C : Nat} {p q : Nat → Nat} (h : ∀ x, p x ≤ q x) : ∀ l : List Nd, climb C l q ≤ climb C l p
  | [] => by simp [climb]
  | n :: l => by
    have h1 := climb_le (C := C) h l
    have h2 := h n.id
    unfold climb at *
    simp only [List.map_cons, List.sum_cons]; omega
theorem climb_lt {C : Nat} {p q : Nat → Nat} (h : ∀ x, p x ≤ q x) (hq : ∀ x, q x ≤ C) : ∀ l : List Nd, (∃ n ∈ l, p n.id < q n.id) → climb C l q < climb C l p
  | [], ⟨_, h0, _⟩ => by simp at h0
  | n :: l, ⟨m, hm, hlt⟩ => by
    have h2 := h n.id
    have h3 := hq n.id
    rw [List.mem_cons] at hm
    rcases hm with rfl | hm
    · have h1 := climb_le (C := C) h l
      unfold climb at *
      simp only [List.map_cons, List.sum_cons]; omega
    · have h1 := climb_lt h hq l ⟨m, hm, hlt⟩
      unfold climb at *
      simp only [List.map_cons, List.sum_cons]; omega
theorem Pass.climbs {p0 p : Nat → Nat} {i at' : Nat} (h : Pass len C all p0 i p at' true) : climb C all p < climb C all p0 := climb_lt h.ge h.bound all (h.more rfl)
end

end Go.Proofs.YtkpiioiahdcpjaaDoor
