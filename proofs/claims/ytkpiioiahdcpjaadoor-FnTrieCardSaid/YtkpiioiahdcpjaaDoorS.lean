/- Plain laws of shapes: what 'add' does to the number of nodes, to labels and to the texts that a trie holds. -/
import Derived.Test.YtkpiioiahdcpjaaDoorE
namespace Go.Proofs.YtkpiioiahdcpjaaDoor
open Go.RowKit

namespace Sh
def tot : Sh → Nat
  | nil => 0
  | edge _ _ kids rest => kids.tot + rest.tot + 1
def all (P : List UInt8 → Prop) : Sh → Prop
  | nil => True
  | edge lab _ kids rest => P lab ∧ kids.all P ∧ rest.all P
def terms : Sh → List UInt8 → List (List UInt8 × Nat)
  | nil, _ => []
  | edge lab h kids rest, p => (h.map fun j => (p ++ lab, j)).toList ++ kids.terms (p ++ lab) ++ rest.terms p
theorem all_mono {P Q : List UInt8 → Prop} (h : ∀ l, P l → Q l) : ∀ {s : Sh}, s.all P → s.all Q
  | nil, _ => trivial
  | edge .., hs => ⟨h _ hs.1, all_mono h hs.2.1, all_mono h hs.2.2⟩
end Sh

theorem Tr.sh_tot : ∀ t : Tr, t.sh.tot = t.tot
  | .nil => rfl
  | .edge _ _ _ _ _ kids rest => by rw [Tr.sh, Sh.tot, Tr.tot, kids.sh_tot, rest.sh_tot]
theorem Tr.labs_of : ∀ {t : Tr}, t.sh.all (fun l => l.length ≤ 1000) → t.labs
  | .nil, _ => trivial
  | .edge _ _ _ _ _ kids rest, h => ⟨by simpa using h.1, kids.labs_of h.2.1, rest.labs_of h.2.2⟩

theorem cpl_take : ∀ a b : List UInt8, a.take (cpl a b) = b.take (cpl a b)
  | [], b => by simp [cpl]
  | x :: a, [] => by simp [cpl]
  | x :: a, y :: b => by
    simp only [cpl]
    split
    · rename_i h; subst h; simp [cpl_take a b]
    · simp
theorem cpl_le_left : ∀ a b : List UInt8, cpl a b ≤ a.length
  | [], b => by simp [cpl]
  | x :: a, [] => by simp [cpl]
  | x :: a, y :: b => by
    simp only [cpl]
    split
    · have := cpl_le_left a b
      simp; omega
    · simp

theorem cpl_drop : ∀ a b : List UInt8, cpl (a.drop (cpl a b)) (b.drop (cpl a b)) = 0
  | [], b => by simp [cpl]
  | x :: a, [] => by simp [cpl]
  | x :: a, y :: b => by
    by_cases h : x = y
    · have e : cpl (x :: a) (y :: b) = cpl a b + 1 := by simp [cpl, h]
      rw [e, List.drop_succ_cons, List.drop_succ_cons]
      exact cpl_drop a b
    · have e : cpl (x :: a) (y :: b) = 0 := by simp [cpl, h]
      rw [e]; exact e
theorem addEdges_tot (rest : List UInt8) (j : Nat) (s : Sh) : (addEdges rest j s).tot ≤ s.tot + 2 := by
  induction rest, s using addEdges.induct with
  | case1 rest => rw [addEdges]; simp [Sh.tot]
  | case2 rest lab h kids tl hn ih => rw [addEdges_skip hn]; simp only [Sh.tot]; omega
  | case3 rest lab h kids tl hn hl he => rw [addEdges, dif_neg hn, if_pos hl, if_pos he]; simp only [Sh.tot]; omega
  | case4 rest lab h kids tl hn hl he _ => rw [addEdges, dif_neg hn, if_pos hl, if_neg he, addEdges_skip (cpl_drop _ _), addEdges]; simp only [Sh.tot]; omega
  | case5 rest lab h kids tl hn hl he => rw [addEdges, dif_neg hn, if_neg hl, if_pos he]; simp only [Sh.tot]; omega
  | case6 rest lab h kids tl hn hl he ih => rw [addEdges, dif_neg hn, if_neg hl, if_neg he]; simp only [Sh.tot]; omega

theorem addEdges_all {P : List UInt8 → Prop} (hP : ∀ l n, P l → 0 < n → n < l.length → P (l.take n) ∧ P (l.drop n)) (rest : List UInt8) (j : Nat) (s : Sh) : P rest → s.all P → (addEdges rest j s).all P := by
  have hd : ∀ (rest : List UInt8) (n : Nat), P rest → n ≠ 0 → ¬ rest.drop n = [] → P (rest.drop n) := by
    intro rest n hr hn he
    exact (hP rest n hr (by omega) (by rw [List.drop_eq_nil_iff] at he; omega)).2
  induction rest, s using addEdges.induct with
  | case1 rest => intro hr _; rw [addEdges]; exact ⟨hr, trivial, trivial⟩
  | case2 rest lab h kids tl hn ih => intro hr hs; rw [addEdges_skip hn]; exact ⟨hs.1, hs.2.1, ih hr hs.2.2⟩
  | case3 rest lab h kids tl hn hl he =>
    intro hr hs
    rw [addEdges, dif_neg hn, if_pos hl, if_pos he]
    have := hP lab _ hs.1 (by omega) hl
    exact ⟨this.1, ⟨this.2, hs.2.1, trivial⟩, hs.2.2⟩
  | case4 rest lab h kids tl hn hl he ih =>
    intro hr hs
    rw [addEdges, dif_neg hn, if_pos hl, if_neg he]
    have := hP lab _ hs.1 (by omega) hl
    exact ⟨this.1, ih (hd _ _ hr hn he) ⟨this.2, hs.2.1, trivial⟩, hs.2.2⟩
  | case5 rest lab h kids tl hn hl he => intro hr hs; rw [addEdges, dif_neg hn, if_neg hl, if_pos he]; exact hs
  | case6 rest lab h kids tl hn hl he ih =>
    intro hr hs
    rw [addEdges, dif_neg hn, if_neg hl, if_neg he]
    exact ⟨hs.1, ih (hd _ _ hr hn he) hs.2.1, hs.2.2⟩

theorem drop_nil_eq {lab rest : List UInt8} (hl : ¬ cpl lab rest < lab.length) (he : rest.drop (cpl lab rest) = []) : rest = lab := by
  have h1 := cpl_take lab rest
  have h2 : cpl lab rest = lab.length := by have := cpl_le_left lab rest; omega
  rw [h2] at h1 he
  rw [List.take_length] at h1
  have := List.take_append_drop lab.length rest
  rw [he, List.append_nil, ← h1] at this
  exact this.symm
theorem take_eq {lab rest : List UInt8} (hl : ¬ cpl lab rest < lab.length) : lab ++ rest.drop (cpl lab rest) = rest := by
  have h1 := cpl_take lab rest
  have h2 : cpl lab rest = lab.length := by have := cpl_le_left lab rest; omega
  rw [h2] at h1 ⊢
  rw [List.take_length] at h1
  calc lab ++ rest.drop lab.length = rest.take lab.length ++ rest.drop lab.length := by rw [← h1]
    _ = rest := List.take_append_drop _ _
theorem split_eq (lab rest : List UInt8) : lab.take (cpl lab rest) ++ rest.drop (cpl lab rest) = rest := by
  rw [cpl_take]; exact List.take_append_drop _ _
theorem split_nil {lab rest : List UInt8} (he : rest.drop (cpl lab rest) = []) : lab.take (cpl lab rest) = rest := by
  have := split_eq lab rest
  rwa [he, List.append_nil] at this

/-- The texts below: one more. -/
theorem addEdges_terms (rest : List UInt8) (j : Nat) (s : Sh) : ∀ p : List UInt8, rest ≠ [] → (∀ i, (p ++ rest, i) ∉ s.terms p) → ((addEdges rest j s).terms p).Perm ((p ++ rest, j) :: s.terms p) := by
  induction rest, s using addEdges.induct with
  | case1 rest => intro p _ _; rw [addEdges]; simp [Sh.terms]
  | case2 rest lab h kids tl hn ih =>
    intro p hr hs
    rw [addEdges_skip hn]
    simp only [Sh.terms, List.mem_append] at hs ⊢
    have := ih p hr (fun i hi => hs i (.inr hi))
    exact (List.Perm.append_left _ this).trans (List.perm_middle)
  | case3 rest lab h kids tl hn hl he =>
    intro p hr hs
    rw [addEdges, dif_neg hn, if_pos hl, if_pos he]
    simp only [Sh.terms, Option.map_some, Option.toList_some, List.append_assoc, List.take_append_drop, List.append_nil, List.cons_append, List.nil_append]
    rw [split_nil he]
  | case4 rest lab h kids tl hn hl he ih =>
    intro p hr hs
    rw [addEdges, dif_neg hn, if_pos hl, if_neg he]
    simp only [Sh.terms, Option.map_none, Option.toList_none, List.nil_append, List.append_nil, List.append_assoc, List.take_append_drop, List.mem_append, not_or] at hs ih ⊢
    have h1 := ih (p ++ lab.take (cpl lab rest)) he (by
      intro i
      have := hs i
      simp only [List.append_assoc, List.take_append_drop, split_eq]
      exact ⟨this.1, this.2.1⟩)
    simp only [List.append_assoc, List.take_append_drop, split_eq] at h1
    have := h1.append_right (tl.terms p)
    simpa only [List.append_assoc, List.cons_append] using this
  | case5 rest lab h kids tl hn hl he =>
    intro p hr hs
    rw [addEdges, dif_neg hn, if_neg hl, if_pos he]
    have e := drop_nil_eq hl he
    subst e
    have hh : h = none := by
      cases h with
      | none => rfl
      | some i => exact absurd (by simp [Sh.terms]) (hs i)
    subst hh
    simp [Sh.terms]
  | case6 rest lab h kids tl hn hl he ih =>
    intro p hr hs
    rw [addEdges, dif_neg hn, if_neg hl, if_neg he]
    simp only [Sh.terms, List.append_assoc, List.mem_append, not_or] at hs ih ⊢
    have h1 := ih (p ++ lab) he (by
      intro i
      have := hs i
      rw [List.append_assoc, take_eq hl]
      exact this.2.1)
    rw [List.append_assoc, take_eq hl] at h1
    have := (h1.append_right (tl.terms p)).append_left ((h.map fun j => (p ++ lab, j)).toList)
    exact this.trans (by simp)

/-- The trie of texts: the i-th has the number k + i. -/
def trieOf : List (List UInt8) → Nat → Option Nat × Sh → Option Nat × Sh
  | [], _, s => s
  | x :: xs, k, s => trieOf xs (k + 1) (addNode x k s.1 s.2)
def numbered : List (List UInt8) → Nat → List (List UInt8 × Nat)
  | [], _ => []
  | x :: xs, k => (x, k) :: numbered xs (k + 1)
theorem numbered_fst : ∀ (l : List (List UInt8)) (k : Nat), (numbered l k).map Prod.fst = l
  | [], _ => rfl
  | x :: xs, k => by rw [numbered, List.map_cons, numbered_fst xs]
theorem numbered_get : ∀ (l : List (List UInt8)) (k i : Nat), (numbered l k)[i]? = l[i]?.map fun x => (x, k + i)
  | [], _, i => by simp [numbered]
  | x :: xs, k, 0 => by simp [numbered]
  | x :: xs, k, i + 1 => by
    rw [numbered, List.getElem?_cons_succ, numbered_get xs (k + 1) i, List.getElem?_cons_succ]
    congr 1; funext y; congr 1; omega

theorem addNode_ne {x : List UInt8} {k : Nat} {h : Option Nat} {s : Sh} (hx : x ≠ []) : addNode x k h s = (h, addEdges x k s) := by
  unfold addNode; rw [if_neg hx]

theorem trieOf_law {P : List UInt8 → Prop} (hP : ∀ l n, P l → 0 < n → n < l.length → P (l.take n) ∧ P (l.drop n)) : ∀ (l : List (List UInt8)) (k : Nat) (s : Sh), (∀ x ∈ l, x ≠ [] ∧ P x) → l.Nodup → (∀ x ∈ l, ∀ i, (x, i) ∉ s.terms []) → s.all P →
    ∃ s', trieOf l k (none, s) = (none, s') ∧ (s'.terms []).Perm (numbered l k ++ s.terms []) ∧ s'.all P ∧ s'.tot ≤ s.tot + 2 * l.length
  | [], k, s, _, _, _, hs => ⟨s, rfl, by simp [numbered], hs, by simp⟩
  | x :: xs, k, s, hx, hnd, hf, hs => by
    have hx0 := hx x (by simp)
    have h1 := addEdges_terms x k s [] hx0.1 (fun i => hf x (by simp) i)
    have hnd' := List.nodup_cons.1 hnd
    obtain ⟨s', e, p, a, t⟩ := trieOf_law hP xs (k + 1) (addEdges x k s) (fun y hy => hx y (by simp [hy])) hnd'.2 (by
      intro y hy i hi
      have := h1.mem_iff.1 hi
      simp only [List.nil_append, List.mem_cons, Prod.mk.injEq] at this
      rcases this with ⟨rfl, _⟩ | h
      · exact hnd'.1 hy
      · exact hf y (by simp [hy]) i h) (addEdges_all hP x k s hx0.2 hs)
    refine ⟨s', ?_, ?_, a, ?_⟩
    · rw [trieOf, addNode_ne hx0.1]; exact e
    · refine p.trans ?_
      rw [numbered]
      simp only [List.nil_append, List.cons_append] at h1 ⊢
      exact (h1.append_left _).trans List.perm_middle
    · have := addEdges_tot x k s
      simp only [List.length_cons]; omega

end Go.Proofs.YtkpiioiahdcpjaaDoor
