/- The nodes of the trie, each for itself; their places. -/
import Derived.Test.YtkpiioiahdcpjaaDoorG
import Derived.Test.YtkpiioiahdcpjaaDoorY
import Derived.Test.YtkpiioiahdcpjaaDoorQ
namespace Go.Proofs.YtkpiioiahdcpjaaDoor
open Go.RowKit

structure Nd where
  id : Nat
  here : Option Nat
  es : Value
  kids : Tr

namespace Tr
def nodes : Tr → List Nd
  | nil => []
  | edge _ id here es _ kids rest => ⟨id, here, es, kids⟩ :: (kids.nodes ++ rest.nodes)
def tops : Tr → List Nd
  | nil => []
  | edge _ id here es _ kids rest => ⟨id, here, es, kids⟩ :: rest.tops
def edges : Tr → List (ByteArray × Nat)
  | nil => []
  | edge lab id _ _ _ _ rest => (lab, id) :: rest.edges
theorem tops_app : ∀ a b : Tr, (a.app b).tops = a.tops ++ b.tops
  | nil, b => rfl
  | edge .., b => by rw [app, tops, tops, tops_app]; rfl
theorem tops_length : ∀ t : Tr, t.tops.length = t.num
  | nil => rfl
  | edge .. => by rw [tops, num, List.length_cons, tops_length]
theorem edges_length : ∀ t : Tr, t.edges.length = t.num
  | nil => rfl
  | edge .. => by rw [edges, num, List.length_cons, edges_length]
theorem edges_ids : ∀ t : Tr, t.edges.map Prod.snd = t.tops.map Nd.id
  | nil => rfl
  | edge .. => by rw [edges, tops, List.map_cons, List.map_cons, edges_ids]
theorem nodes_tops : ∀ t : Tr, t.nodes = t.tops.flatMap fun n => n :: n.kids.nodes
  | nil => rfl
  | edge _ _ _ _ _ kids rest => by rw [nodes, tops, List.flatMap_cons, ← nodes_tops rest]; rfl
theorem nodes_length : ∀ t : Tr, t.nodes.length = t.tot
  | nil => rfl
  | edge _ _ _ _ _ kids rest => by rw [nodes, tot, List.length_cons, List.length_append, nodes_length kids, nodes_length rest]
theorem tops_sub {t : Tr} {n : Nd} (h : n ∈ t.tops) : n ∈ t.nodes := by
  rw [nodes_tops, List.mem_flatMap]
  exact ⟨n, h, by simp⟩
theorem closed : ∀ {t : Tr} {n m : Nd}, n ∈ t.nodes → m ∈ n.kids.nodes → m ∈ t.nodes
  | nil, n, m, h, _ => by simp [nodes] at h
  | edge lab id here es pos kids rest, n, m, h, hm => by
    rw [nodes, List.mem_cons, List.mem_append] at h ⊢
    rcases h with rfl | h | h
    · exact .inr (.inl hm)
    · exact .inr (.inl (closed h hm))
    · exact .inr (.inr (closed h hm))
theorem ids_foot : ∀ t : Tr, (t.nodes.map Nd.id).Sublist t.foot
  | nil => by simp [nodes, foot]
  | edge lab id here es pos kids rest => by
    rw [nodes, foot, List.map_cons, List.map_append, List.cons_append]
    refine List.Sublist.cons_cons _ ?_
    exact ((ids_foot kids).trans (List.sublist_append_right _ _)).append (ids_foot rest)
theorem own_foot : ∀ {t : Tr} {n : Nd} {k : Nat}, n ∈ t.nodes → n.es.ownBlock = some k → k ∈ t.foot
  | nil, n, k, h, _ => by simp [nodes] at h
  | edge lab id here es pos kids rest, n, k, h, hk => by
    rw [nodes, List.mem_cons, List.mem_append] at h
    rw [foot, List.cons_append, List.mem_cons, List.mem_append, List.mem_append]
    rcases h with rfl | h | h
    · exact .inr (.inl (.inl (by simpa using hk)))
    · exact .inr (.inl (.inr (own_foot h hk)))
    · exact .inr (.inr (own_foot h hk))
theorem own_ids : ∀ {t : Tr} {n : Nd} {k : Nat}, t.foot.Nodup → n ∈ t.nodes → n.es.ownBlock = some k → k ∉ t.nodes.map Nd.id
  | nil, n, k, _, h, _ => by simp [nodes] at h
  | edge lab id here es pos kids rest, n, k, hnd, h, hk => by
    have hs1 := (ids_foot kids).subset
    have hs2 := (ids_foot rest).subset
    rw [nodes, List.mem_cons, List.mem_append] at h
    rw [foot, List.cons_append, List.nodup_cons, List.mem_append, List.mem_append, List.nodup_append, List.nodup_append] at hnd
    obtain ⟨h0, ⟨h1, h2, h3⟩, h4, h5⟩ := hnd
    rw [nodes, List.map_cons, List.map_append, List.mem_cons, List.mem_append]
    rcases h with rfl | h | h
    · have hk' : k ∈ es.ownBlock.toList := by simpa using hk
      rintro (rfl | h | h)
      · exact h0 (.inl (.inl hk'))
      · exact h3 k hk' k (hs1 h) rfl
      · exact h5 k (List.mem_append.2 (.inl hk')) k (hs2 h) rfl
    · have hf := own_foot h hk
      rintro (rfl | h' | h')
      · exact h0 (.inl (.inr hf))
      · exact own_ids h2 h hk h'
      · exact h5 k (List.mem_append.2 (.inr hf)) k (hs2 h') rfl
    · have hf := own_foot h hk
      rintro (rfl | h' | h')
      · exact h0 (.inr hf)
      · exact h5 k (List.mem_append.2 (.inr (hs1 h'))) k hf rfl
      · exact own_ids h4 h hk h'
theorem here_terms : ∀ {t : Tr} {n : Nd} {j : Nat} (p : List UInt8), n ∈ t.nodes → n.here = some j → ∃ x, (x, j) ∈ t.sh.terms p
  | nil, n, j, _, h, _ => by simp [nodes] at h
  | edge lab id here es pos kids rest, n, j, p, h, hj => by
    rw [nodes, List.mem_cons, List.mem_append] at h
    simp only [sh, Sh.terms, List.mem_append]
    rcases h with rfl | h | h
    · subst hj; exact ⟨p ++ lab.data.toList, .inl (.inl (by simp))⟩
    · obtain ⟨x, hx⟩ := here_terms (p ++ lab.data.toList) h hj; exact ⟨x, .inl (.inr hx)⟩
    · obtain ⟨x, hx⟩ := here_terms p h hj; exact ⟨x, .inr hx⟩
theorem all_edges {P : List UInt8 → Prop} : ∀ {t : Tr}, t.sh.all P → ∀ e ∈ t.edges, P e.1.data.toList
  | nil, _, e, he => by simp [edges] at he
  | edge .., h, e, he => by
    rw [edges, List.mem_cons] at he
    rcases he with rfl | he
    · exact h.1
    · exact all_edges h.2.2 e he
theorem all_nodes {P : List UInt8 → Prop} : ∀ {t : Tr}, t.sh.all P → ∀ n ∈ t.nodes, n.kids.sh.all P
  | nil, _, n, h => by simp [nodes] at h
  | edge lab id here es pos kids rest, hs, n, h => by
    rw [nodes, List.mem_cons, List.mem_append] at h
    rcases h with rfl | h | h
    · exact hs.2.1
    · exact all_nodes hs.2.1 n h
    · exact all_nodes hs.2.2 n h
theorem tot_nodes : ∀ {t : Tr}, ∀ n ∈ t.nodes, n.kids.tot < t.tot
  | nil, n, h => by simp [nodes] at h
  | edge lab id here es pos kids rest, n, h => by
    rw [nodes, List.mem_cons, List.mem_append] at h
    rw [tot]
    rcases h with rfl | h | h
    · simp only; omega
    · have := tot_nodes n h; omega
    · have := tot_nodes n h; omega
theorem cells_get : ∀ {t : Tr} {i : Nat} {l : ByteArray} {id : Nat}, t.edges[i]? = some (l, id) → t.cells[i * 2]? = some (.string l) ∧ t.cells[i * 2 + 1]? = some (.pointer (some ⟨id, 0, none⟩))
  | nil, i, l, id, h => by simp [edges] at h
  | edge .., 0, l, id, h => by
    simp only [edges, List.getElem?_cons_zero, Option.some.injEq, Prod.mk.injEq] at h
    obtain ⟨rfl, rfl⟩ := h
    exact ⟨rfl, rfl⟩
  | edge .., i + 1, l, id, h => by
    rw [edges, List.getElem?_cons_succ] at h
    rw [cells, show (i + 1) * 2 = i * 2 + 1 + 1 by omega]
    simp only [List.getElem?_cons_succ]
    exact cells_get h
end Tr

/-- All these nodes in memory; p tells their places. -/
def NodesAt (w : World) (base lb lo : Nat) (p : Nat → Nat) (ns : List Nd) : Prop := ∀ n ∈ ns, KnotAt w base lb lo n.id n.here n.es (p n.id) n.kids

theorem nodes_at {w : World} {base lb lo : Nat} : ∀ {t : Tr}, t.At w base lb lo → t.zero → NodesAt w base lb lo (fun _ => 0) t.nodes
  | .nil, _, _ => fun n h => by simp [Tr.nodes] at h
  | .edge lab id here es pos kids rest, h, hz => fun n hn => by
    rw [Tr.nodes, List.mem_cons, List.mem_append] at hn
    obtain ⟨rfl, hz2, hz3⟩ := hz
    rcases hn with rfl | hn | hn
    · exact h.1
    · exact nodes_at h.2.1 hz2 n hn
    · exact nodes_at h.2.2 hz3 n hn

def upd (p : Nat → Nat) (k v : Nat) : Nat → Nat := fun x => if x = k then v else p x

section
variable {w w' : World} {base lb lo : Nat} {p : Nat → Nat} {ns : List Nd}
theorem NodesAt.then (h : NodesAt w base lb lo p ns) (hm : Mod Nowhere w w') : NodesAt w' base lb lo p ns := fun n hn => (h n hn).keep hm (fun h => h) (fun _ _ h => h)
theorem NodesAt.keep {S : Nat → Prop} (h : NodesAt w base lb lo p ns) (hm : Mod S w w') (hs : ∀ x, S x → x < w.heap.size → ∀ n ∈ ns, x ≠ n.id ∧ n.es.ownBlock ≠ some x) : NodesAt w' base lb lo p ns := fun n hn =>
  (h n hn).keep hm (fun hS => (hs _ hS (h n hn).1.lt n hn).1 rfl) (fun k hk hS => (hs k hS (World.ownsRow.lt (h n hn).2.1 k hk).2 n hn).2 hk)
/-- A node's place is set. -/
theorem NodesAt.put (h : NodesAt w base lb lo p ns) (k v : Nat) (hk : ∀ n ∈ ns, n.es.ownBlock ≠ some k) : NodesAt (w.setCell ⟨k, 2, none⟩ (.int .u64 v)) base lb lo (upd p k v) ns := fun n hn => by
  have hm : Mod (fun x => x = k) w (w.setCell ⟨k, 2, none⟩ (.int .u64 v)) := Mod.setCell (S := fun x => x = k) (Mod.refl _ _) (p := ⟨k, 2, none⟩) (fun _ => rfl) _
  have hn0 := h n hn
  refine ⟨?_, own_keep hn0.2.1 hm (fun x hx e => hk n hn (by rw [hx, e])), hn0.2.2⟩
  by_cases e : n.id = k
  · have := hn0.1
    unfold upd
    rw [if_pos e]
    rw [← e]
    exact this.put 2 _
  · unfold upd
    rw [if_neg e]
    exact hn0.1.keep hm e
theorem NodesAt.pos (h : NodesAt w base lb lo p ns) {n : Nd} (hn : n ∈ ns) : w.cell? ⟨n.id, 2, none⟩ = some (.int .u64 (p n.id)) := (h n hn).1.cell 2
end

/-- What a node tells. -/
def infoN (L : List Exp) : Option Nat → List UInt8
  | none => []
  | some j => (L[j]?.map infoB).getD []
def ndB (L : List Exp) (p : Nat → Nat) (n : Nd) : List UInt8 := nodeB (infoN L n.here) (n.kids.edges.map fun e => (e.1, p e.2))

/-- What is always so of a trie that was made of these exports. -/
structure TOk (L : List Exp) (T : Tr) : Prop where
  foot : T.foot.Nodup
  here : ∀ n ∈ T.nodes, ∀ j, n.here = some j → j < L.length
  labs : ∀ n ∈ T.nodes, ∀ e ∈ n.kids.edges, e.1.size ≤ 60
  num : ∀ n ∈ T.nodes, n.kids.edges.length ≤ 200
  oks : ∀ e ∈ L, OkE e

theorem node_edges {w : World} {base lb lo : Nat} {p : Nat → Nat} {T : Tr} (h : NodesAt w base lb lo p T.nodes) {n : Nd} (hn : n ∈ T.nodes) {A : Option Addr} {k c : Nat} (he : n.es = .slice A k c) :
    EdgesAt w A (n.kids.edges.map fun e => (e.1, e.2, p e.2)) := by
  intro i lab id pos hi
  rw [List.getElem?_map] at hi
  rcases hg : n.kids.edges[i]? with _ | ⟨l, x⟩
  · rw [hg] at hi; cases hi
  · rw [hg] at hi
    simp only [Option.map_some, Option.some.injEq, Prod.mk.injEq] at hi
    obtain ⟨rfl, rfl, rfl⟩ := hi
    have hc := Tr.cells_get hg
    have hown := (h n hn).2.1
    have hlen := Tr.edges_length n.kids
    have hlt : i < n.kids.num := by
      have := (List.getElem?_eq_some_iff.1 hg).1
      omega
    obtain ⟨g, cap, hv, _, _⟩ := hown.form (by omega)
    have hm : x ∈ n.kids.tops.map Nd.id := by
      rw [← Tr.edges_ids]
      exact List.mem_map.2 ⟨(l, x), List.mem_of_getElem? hg, rfl⟩
    obtain ⟨m, hm1, hm2⟩ := List.mem_map.1 hm
    have hpos := h.pos (Tr.closed hn (Tr.tops_sub hm1))
    rw [hm2] at hpos
    rw [he] at hv hown
    injection hv with h1 h2 h3
    subst h1; subst h2; subst h3
    refine ⟨g, rfl, ?_, ?_, hpos⟩
    · rw [hown.cellAt _ (by omega)]; exact hc.1
    · rw [hown.cellAt _ (by omega)]; exact hc.2

/-- The bytes of a node of the trie. -/
theorem bytes_node {w : World} {base lb lo : Nat} {L : List Exp} {p : Nat → Nat} {T : Tr} (ok : TOk L T) (hx : ExpsAt w lb lo L) (h : NodesAt w base lb lo p T.nodes) (hp : ∀ x, p x < 1180591620717411303424) {n : Nd} (hn : n ∈ T.nodes) :
    Calls Tryd.prog 17 #[.pointer (some ⟨n.id, 0, none⟩)] w fun en w' => ∃ v, en = .returned v ∧ Byt w' w.heap.size v (ndB L p n) ∧ Mod Nowhere w w' := by
  have hk := h n hn
  obtain ⟨A, c, he, hc⟩ := hk.slice
  have hE := node_edges h hn he
  have hmap : (n.kids.edges.map fun e => (e.1, e.2, p e.2)).map (fun e => (e.1, e.2.2)) = n.kids.edges.map fun e => (e.1, p e.2) := by rw [List.map_map]; rfl
  have hlen : (n.kids.edges.map fun e => (e.1, e.2, p e.2)).length = n.kids.num := by rw [List.length_map, Tr.edges_length]
  unfold ndB
  rw [← hmap]
  refine bytes_any n.id (infoN L n.here) A c _ w ?_ ?_ hE (by rw [List.length_map]; have := ok.num n hn; omega) ?_ ?_
  · rcases hh : n.here with _ | j
    · refine (info_none n.id w ?_).mono ?_
      · have := hk.1.cell 0
        rw [hh] at this
        exact this
      · rintro en w' ⟨rfl, rfl⟩
        exact ⟨_, rfl, Byt.nil _ _, Mod.refl _ _⟩
    · have hj := ok.here n hn j hh
      have hLj : L[j]? = some L[j] := List.getElem?_eq_getElem hj
      have e1 : infoN L (some j) = infoB L[j] := by simp only [infoN, hLj]; rfl
      rw [e1]
      refine info_any n.id lb (lo + j * 5) L[j] w ?_ (hx j _ hLj) (ok.oks _ (List.getElem_mem hj))
      have := hk.1.cell 0
      rw [hh] at this
      exact this
  · rw [hlen]
    have := hk.1.cell 1
    rw [he] at this
    exact this
  · rcases hh : n.here with _ | j
    · simp [infoN]
    · have hj := ok.here n hn j hh
      have hLj : L[j]? = some L[j] := List.getElem?_eq_getElem hj
      have e1 : infoN L (some j) = infoB L[j] := by simp only [infoN, hLj]; rfl
      rw [e1]
      exact infoB_len _ (ok.oks _ (List.getElem_mem hj))
  · intro lab id pos hm
    rw [List.mem_map] at hm
    obtain ⟨e, he1, he2⟩ := hm
    simp only [Prod.mk.injEq] at he2
    obtain ⟨rfl, rfl, rfl⟩ := he2
    exact ⟨ok.labs n hn e he1, by have := uleb_10 _ (hp e.2); omega⟩

end Go.Proofs.YtkpiioiahdcpjaaDoor
