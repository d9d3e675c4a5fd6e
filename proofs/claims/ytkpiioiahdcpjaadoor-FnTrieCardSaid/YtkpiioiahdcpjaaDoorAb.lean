/- From the writer's output to what the reader asks, plain. -/
import Derived.Test.YtkpiioiahdcpjaaDoorAa
import Derived.Test.YtkpiioiahdcpjaaDoorR
namespace Go.Proofs.YtkpiioiahdcpjaaDoor
open Go.RowKit

/-- Nodes with an export, from above to below: block, text, number. -/
def tri : List UInt8 → Tr → List (Nat × List UInt8 × Nat)
  | _, .nil => []
  | path, .edge lab id here _ _ kids rest => ((here.map fun j => (id, path ++ lab.data.toList, j)).toList ++ tri (path ++ lab.data.toList) kids) ++ tri path rest
theorem tri_pts (p : Nat → Nat) : ∀ (path : List UInt8) (t : Tr), pts p path t = (tri path t).map fun x => (p x.1 + 1, x.2.1)
  | _, .nil => rfl
  | path, .edge lab id here es pos kids rest => by
    rw [pts, tri, List.map_append, List.map_append, ← tri_pts p _ kids, ← tri_pts p _ rest]
    cases here <;> rfl
theorem tri_terms : ∀ (path : List UInt8) (t : Tr), t.sh.terms path = (tri path t).map fun x => (x.2.1, x.2.2)
  | _, .nil => rfl
  | path, .edge lab id here es pos kids rest => by
    rw [Tr.sh, Sh.terms, tri, List.map_append, List.map_append, ← tri_terms _ kids, ← tri_terms _ rest]
    cases here <;> rfl
theorem tri_node : ∀ {path : List UInt8} {t : Tr} {x : Nat × List UInt8 × Nat}, x ∈ tri path t → ∃ m ∈ t.nodes, m.id = x.1 ∧ m.here = some x.2.2
  | _, .nil, x, h => by simp [tri] at h
  | path, .edge lab id here es pos kids rest, x, h => by
    rw [tri, List.mem_append, List.mem_append] at h
    rw [Tr.nodes]
    rcases h with (h | h) | h
    · cases here with
      | none => simp at h
      | some j =>
        simp only [Option.map_some, Option.toList_some, List.mem_singleton] at h
        subst h
        exact ⟨⟨id, some j, es, kids⟩, by simp, rfl, rfl⟩
    · obtain ⟨m, h1, h2⟩ := tri_node h
      exact ⟨m, by simp [h1], h2⟩
    · obtain ⟨m, h1, h2⟩ := tri_node h
      exact ⟨m, by simp [h1], h2⟩

theorem drop_flat {α : Type} (f : α → List UInt8) : ∀ (l : List α) (i : Nat) (a : α), l[i]? = some a → ∃ rest, (l.flatMap f).drop ((l.take i).map fun x => (f x).length).sum = f a ++ rest
  | [], i, a, h => by simp at h
  | x :: l, 0, a, h => by
    simp only [List.getElem?_cons_zero, Option.some.injEq] at h
    subst h
    exact ⟨l.flatMap f, by simp⟩
  | x :: l, i + 1, a, h => by
    rw [List.getElem?_cons_succ] at h
    obtain ⟨rest, hr⟩ := drop_flat f l i a h
    refine ⟨rest, ?_⟩
    rw [List.take_succ_cons, List.map_cons, List.sum_cons, List.flatMap_cons, ← List.drop_drop, List.drop_left]
    exact hr

theorem infoB_pos (e : Exp) : 0 < (infoB e).length := by
  unfold infoB
  have := uleb_pos e.flags
  simp only [List.length_append]; omega

section
variable {L : List Exp} {root : Nat} {es : Value} {kids : Tr} {p : Nat → Nat} {all : List Nd}

theorem root_nodes : (rootT root es kids).nodes = ⟨root, none, es, kids⟩ :: kids.nodes := by simp [rootT, Tr.nodes]

theorem laid_of (hp : all.Perm (rootT root es kids).nodes) (ha : kids.sh.all Lab) (ok : TOk L (rootT root es kids)) (hb : ∀ x, p x ≤ capC) (hc : ∀ (i : Nat) (n : Nd), all[i]? = some n → p n.id = offAt (fun p n => (ndB L p n).length) p all i) :
    Laid L p (all.flatMap (ndB L p)) ((⟨root, none, es, kids⟩ : Nd) :: kids.nodes) := by
  rw [← root_nodes]
  refine ⟨fun n hn => ?_, fun n hn => infoN_len ok hn, fun n hn hs => ?_, fun n hn e he => ?_, ok.num, hb⟩
  · obtain ⟨i, hi⟩ := List.getElem?_of_mem (hp.mem_iff.2 hn)
    obtain ⟨rest, hr⟩ := drop_flat (ndB L p) all i n hi
    exact ⟨rest, by rw [hc i n hi]; exact hr⟩
  · obtain ⟨j, hj⟩ := Option.isSome_iff_exists.1 hs
    have hlt := ok.here n hn j hj
    rw [hj]
    have hLj : L[j]? = some L[j] := List.getElem?_eq_getElem hlt
    have e1 : infoN L (some j) = infoB L[j] := by simp only [infoN, hLj]; rfl
    rw [e1]
    exact infoB_pos _
  · have hs : n.kids.sh.all Lab := by
      rw [root_nodes, List.mem_cons] at hn
      rcases hn with rfl | hn
      · exact ha
      · exact Tr.all_nodes ha n hn
    exact Tr.all_edges hs e he

/-- The exports in the order in which the reader finds them. -/
def foundOf (L : List Exp) (kids : Tr) : List Exp := (tri [] kids).map fun x => L[x.2.2]!

theorem get_of_term {x : List UInt8} {j : Nat} (h : (x, j) ∈ numbered (texts L) 0) : ∃ hj : j < L.length, x = L[j].name.data.toList := by
  obtain ⟨i, hi⟩ := List.getElem?_of_mem h
  rw [numbered_get] at hi
  rcases hg : (texts L)[i]? with _ | y
  · rw [hg] at hi; cases hi
  · rw [hg] at hi
    simp only [Option.map_some, Option.some.injEq, Prod.mk.injEq, Nat.zero_add] at hi
    obtain ⟨rfl, rfl⟩ := hi
    unfold texts at hg
    rw [List.getElem?_map] at hg
    rcases hL : L[i]? with _ | e
    · rw [hL] at hg; cases hg
    · obtain ⟨h1, h2⟩ := List.getElem?_eq_some_iff.1 hL
      rw [hL] at hg
      simp only [Option.map_some, Option.some.injEq] at hg
      exact ⟨h1, by rw [h2, hg]⟩

theorem found_of (hperm : (kids.sh.terms []).Perm (numbered (texts L) 0)) (hl : Laid L p (all.flatMap (ndB L p)) ((⟨root, none, es, kids⟩ : Nd) :: kids.nodes)) (hfl : ∀ e ∈ L, FlOk e) (hne : ∀ e ∈ L, e.name.data.toList ≠ []) :
    Found (all.flatMap (ndB L p)) (ptsN p [] ⟨root, none, es, kids⟩) (foundOf L kids) := by
  have hpt : ptsN p [] ⟨root, none, es, kids⟩ = (tri [] kids).map fun x => (p x.1 + 1, x.2.1) := by
    rw [← tri_pts]; rfl
  rw [hpt]
  refine ⟨by simp [foundOf], fun k x e hx he => ?_⟩
  unfold foundOf at he
  rw [List.getElem?_map] at hx he
  rcases hk : (tri [] kids)[k]? with _ | y
  · rw [hk] at hx; cases hx
  · rw [hk] at hx he
    simp only [Option.map_some, Option.some.injEq] at hx he
    subst hx
    have hmem := List.mem_of_getElem? hk
    obtain ⟨m, hm1, hm2, hm3⟩ := tri_node hmem
    have hterm : (y.2.1, y.2.2) ∈ numbered (texts L) 0 := by
      rw [← hperm.mem_iff, tri_terms]
      exact List.mem_map.2 ⟨y, hmem, rfl⟩
    obtain ⟨hj, hpath⟩ := get_of_term hterm
    have he2 : e = L[y.2.2] := by rw [← he]; exact getElem!_pos L y.2.2 hj
    subst he2
    have hmn : m ∈ (⟨root, none, es, kids⟩ : Nd) :: kids.nodes := List.mem_cons_of_mem _ hm1
    obtain ⟨rest, hr⟩ := hl.at' m hmn
    have hi := hl.info m hmn
    have e1 : infoN L m.here = infoB L[y.2.2] := by
      rw [hm3]
      have hLj : L[y.2.2]? = some L[y.2.2] := List.getElem?_eq_getElem hj
      simp only [infoN, hLj]; rfl
    refine ⟨⟨[UInt8.ofNat (m.kids.edges.map fun e => (e.1, p e.2)).length] ++ (m.kids.edges.map fun e => (e.1, p e.2)).flatMap edgeB ++ rest, ?_⟩, hpath, hfl _ (List.getElem_mem hj), by rw [hpath]; exact hne _ (List.getElem_mem hj), by have := hl.pos y.1; omega⟩
    · show List.drop (p y.1 + 1) _ = _
      rw [← hm2, ← List.drop_drop, hr]
      unfold ndB nodeB
      rw [uleb_lt (by omega), e1]
      simp

theorem found_perm (hperm : (kids.sh.terms []).Perm (numbered (texts L) 0)) : (foundOf L kids).Perm L := by
  have h1 : foundOf L kids = (kids.sh.terms []).map fun x => L[x.2]! := by
    rw [tri_terms, List.map_map]; rfl
  rw [h1]
  refine (hperm.map _).trans ?_
  have : (numbered (texts L) 0).map (fun x => L[x.2]!) = L := by
    apply List.ext_getElem?
    intro i
    rw [List.getElem?_map, numbered_get]
    unfold texts
    rw [List.getElem?_map]
    rcases hL : L[i]? with _ | e
    · rfl
    · obtain ⟨h1, h2⟩ := List.getElem?_eq_some_iff.1 hL
      simp only [Option.map_some, Nat.zero_add]
      rw [getElem!_pos L i h1, h2]
  rw [this]
end

end Go.Proofs.YtkpiioiahdcpjaaDoor
