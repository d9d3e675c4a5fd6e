/- What is so of a trie of good names; the lengths of its nodes. -/
import Derived.Test.YtkpiioiahdcpjaaDoorP
namespace Go.Proofs.YtkpiioiahdcpjaaDoor
open Go.RowKit

def Lab (l : List UInt8) : Prop := l ≠ [] ∧ l.length ≤ 60 ∧ ∀ b ∈ l, b ≠ 0
theorem Lab.cut (l : List UInt8) (n : Nat) (h : Lab l) (h0 : 0 < n) (h1 : n < l.length) : Lab (l.take n) ∧ Lab (l.drop n) := by
  obtain ⟨a, b, c⟩ := h
  refine ⟨⟨?_, by simp; omega, fun x hx => c x (List.mem_of_mem_take hx)⟩, ⟨?_, by simp; omega, fun x hx => c x (List.mem_of_mem_drop hx)⟩⟩
  · intro e
    have := congrArg List.length e
    rw [List.length_take, List.length_nil] at this
    omega
  · intro e
    have := congrArg List.length e
    rw [List.length_drop, List.length_nil] at this
    omega

/-- Names that may be exported together. -/
structure NamesOk (L : List Exp) : Prop where
  lab : ∀ e ∈ L, Lab e.name.data.toList
  nodup : (texts L).Nodup
  oks : ∀ e ∈ L, OkE e
  len : L.length ≤ 60

/-- The trie as one edge that leads to its root. -/
def rootT (root : Nat) (es : Value) (kids : Tr) : Tr := .edge default root none es 0 kids .nil

theorem tok_of {w w' : World} {lb lo root : Nat} {L : List Exp} {h : Option Nat} {es : Value} {kids : Tr} (t : Trie1 w w' lb lo root L L.length h es kids) (ok : NamesOk L) :
    h = none ∧ (kids.sh.terms []).Perm (numbered (texts L) 0) ∧ kids.sh.all Lab ∧ kids.tot ≤ 120 ∧ TOk L (rootT root es kids) := by
  obtain ⟨s', e, hp, ha, ht⟩ := trieOf_law Lab.cut (texts L) 0 .nil (by
    intro x hx
    unfold texts at hx
    obtain ⟨y, hy, rfl⟩ := List.mem_map.1 hx
    exact ⟨(ok.lab y hy).1, ok.lab y hy⟩) ok.nodup (by intro x _ i; simp [Sh.terms]) trivial
  have hsh := t.sh
  have hd : (texts L).drop L.length = [] := by unfold texts; simp
  rw [hd, trieOf, e] at hsh
  injection hsh with h1 h2
  subst h1
  subst h2
  have hlen : (texts L).length = L.length := by unfold texts; simp
  have hL := ok.len
  have htot : kids.tot ≤ 120 := by
    rw [Tr.sh_tot] at ht
    simp only [Sh.tot] at ht
    omega
  have hp' : (kids.sh.terms []).Perm (numbered (texts L) 0) := by simpa [Sh.terms] using hp
  refine ⟨rfl, hp', ha, htot, ?_, ?_, ?_, ?_, ok.oks⟩
  · unfold rootT
    rw [foot_edge]
    simpa [Tr.foot] using t.nodup
  · intro n hn j hj
    unfold rootT at hn
    simp only [Tr.nodes, List.append_nil, List.mem_cons] at hn
    rcases hn with rfl | hn
    · cases hj
    · obtain ⟨x, hx⟩ := Tr.here_terms [] hn hj
      have := hp'.mem_iff.1 hx
      obtain ⟨i, hi⟩ := List.getElem?_of_mem this
      rw [numbered_get] at hi
      rcases hg : (texts L)[i]? with _ | y
      · rw [hg] at hi; cases hi
      · rw [hg] at hi
        simp only [Option.map_some, Option.some.injEq, Prod.mk.injEq] at hi
        have := (List.getElem?_eq_some_iff.1 hg).1
        omega
  · intro n hn e he
    have hs : n.kids.sh.all Lab := by
      unfold rootT at hn
      simp only [Tr.nodes, List.append_nil, List.mem_cons] at hn
      rcases hn with rfl | hn
      · exact ha
      · exact Tr.all_nodes ha n hn
    have := (Tr.all_edges hs e he).2.1
    simpa using this
  · intro n hn
    rw [Tr.edges_length]
    have h1 := Tr.num_le n.kids
    have h2 := Tr.tot_nodes n hn
    unfold rootT at h2
    simp only [Tr.tot] at h2
    omega

def capC : Nat := 2000000
theorem capC_small : capC < 1180591620717411303424 := by decide
theorem capC_eq : capC = 2000000 := rfl

theorem infoN_len {L : List Exp} {T : Tr} (ok : TOk L T) {n : Nd} (hn : n ∈ T.nodes) : (infoN L n.here).length ≤ 100 := by
  rcases hh : n.here with _ | j
  · simp [infoN]
  · have hj := ok.here n hn j hh
    have hLj : L[j]? = some L[j] := List.getElem?_eq_getElem hj
    have e1 : infoN L (some j) = infoB L[j] := by simp only [infoN, hLj]; rfl
    rw [e1]
    exact infoB_len _ (ok.oks _ (List.getElem_mem hj))

theorem uleb_mono {a b : Nat} (h : a ≤ b) : (uleb a).length ≤ (uleb b).length := by
  induction b using Nat.strongRecOn generalizing a with
  | _ b ih =>
    by_cases hb : b < 128
    · rw [uleb_lt hb, uleb_lt (by omega)]; simp
    · by_cases ha : a < 128
      · rw [uleb_lt ha]
        have := uleb_pos b
        simp; omega
      · rw [uleb_ge (by omega), uleb_ge (n := b) (by omega)]
        have := ih (b / 128) (by omega) (a := a / 128) (by omega)
        simp only [List.length_cons]; omega

theorem ndB_mono (L : List Exp) (p q : Nat → Nat) (h : ∀ x, p x ≤ q x) (n : Nd) : (ndB L p n).length ≤ (ndB L q n).length := by
  unfold ndB nodeB
  simp only [List.length_append, List.length_map]
  refine Nat.add_le_add_left ?_ _
  generalize n.kids.edges = E
  induction E with
  | nil => simp
  | cons e E ih =>
    have := uleb_mono (h e.2)
    simp only [List.map_cons, List.flatMap_cons, List.length_append, edgeB] at ih ⊢
    omega

theorem lenOk {L : List Exp} {T : Tr} (ok : TOk L T) (ht : T.tot ≤ 121) {all : List Nd} (hp : all.Perm T.nodes) : LenOk (fun p n => (ndB L p n).length) capC 16000 all where
  mono := ndB_mono L
  bound p hc n hn := by
    have hnT := hp.mem_iff.1 hn
    have h1 := infoN_len ok hnT
    have h2 := ok.num n hnT
    have h3 := edgesB_len (n.kids.edges.map fun e => (e.1, p e.2)) (by
      intro l x hm
      rw [List.mem_map] at hm
      obtain ⟨e, he1, he2⟩ := hm
      simp only [Prod.mk.injEq] at he2
      obtain ⟨rfl, rfl⟩ := he2
      refine ⟨ok.labs n hnT e he1, ?_⟩
      have h5 := hc e.2
      have := uleb_10 (p e.2) (by rw [capC_eq] at h5; omega)
      omega)
    have h4 := uleb_len 0 (infoN L n.here).length (by omega)
    rw [List.length_map] at h3
    unfold ndB nodeB
    simp only [List.length_append, List.length_cons, List.length_nil]
    omega
  fits := by
    have := hp.length_eq
    rw [Tr.nodes_length] at this
    rw [capC_eq]
    omega
  ids := by
    have h1 := (Tr.ids_foot T).nodup ok.foot
    exact (hp.map Nd.id).nodup_iff.2 h1

end Go.Proofs.YtkpiioiahdcpjaaDoor
