/- What was written as a trie is read back; a list that may be exported may be written. -/
import Derived.Test.YtkpiioiahdcpjaaDoorAb
import Derived.Test.YtkpiioiahdcpjaaDoorAe
namespace Go.Proofs.YtkpiioiahdcpjaaDoor
open Go.RowKit

theorem empty_bytes {s : ByteArray} (h : s.toList.isEmpty = true) : s.data.toList = [] := by
  have := nil_of h
  simpa using this

theorem Good.flOk {e : Exp} (h : Good e) : FlOk e where
  fl := by have := h.fl; omega
  kind := h.kind
  ad := by
    by_cases c8 : e.flags &&& 8 = 0
    · exact (h.own c8).2.2.1
    · rw [(h.re c8).1]; omega
  ot := by
    by_cases c8 : e.flags &&& 8 = 0
    · exact (h.own c8).2.2.2
    · have := (h.re c8).2.1; omega
  imp := by
    by_cases c8 : e.flags &&& 8 = 0
    · rw [empty_bytes (h.own c8).1]; simp
    · cases hemp : e.imp.toList.isEmpty with
      | true => rw [empty_bytes hemp]; simp
      | false => exact ((h.re c8).2.2.1 hemp).2
  imz := by
    by_cases c8 : e.flags &&& 8 = 0
    · have := size_of_empty (h.own c8).1; omega
    · exact (h.re c8).2.2.2
  re := fun c8 => ⟨by have := h.both; omega, (h.re c8).1⟩
  stub := fun c16 => by have := h.abs; omega
  noim := fun c8 => size_of_empty (h.own c8).1
  noot := fun c8 c16 => (h.own c8).2.1 c16
theorem FlOk.okE {e : Exp} (h : FlOk e) : OkE e where
  fl := h.fl
  ad := by have := uleb_10 e.address (by have := h.ad; omega); omega
  ot := by have := uleb_10 e.other (by have := h.ot; omega); omega
  im := h.imz
theorem GoodL.namesOk {L : List Exp} (h : GoodL L) : NamesOk L where
  lab e he := ⟨(h.2.2 e he).name.1, by have := (h.2.2 e he).len; simpa using this, (h.2.2 e he).name.2⟩
  nodup := h.2.1
  oks e he := (h.2.2 e he).flOk.okE
  len := h.1
theorem GoodL.names {L : List Exp} (h : GoodL L) : (L.map (·.name)).Nodup := by
  have h2 := h.2.1
  unfold texts List.Nodup at h2
  unfold List.Nodup
  rw [List.pairwise_map] at h2 ⊢
  exact h2.imp fun h e => h (by rw [e])

/-- The reader gives back what the writer was given. -/
theorem back_any {w0 w : World} {L : List Exp} {en : Ending} (h : TrieOut w0 L en w) (ok : NamesOk L) (hfl : ∀ e ∈ L, FlOk e) (h1 : 1 ≤ L.length) (heof : ∃ t v, w.cell? ⟨0, 0, none⟩ = some (.iface t v)) (B : Nat) (hB : B ≤ 1099511627776) :
    Mod Nowhere w0 w ∧ ∃ (b n c : Nat), en = .returned (.slice (some ⟨b, 0, none⟩) n c) ∧ Calls Tryd.prog 7 #[.slice (some ⟨b, 0, none⟩) n c, .int .u64 B] w fun e w' =>
      ∃ (v : Value) (es : List Exp), e = .returned (.tuple #[v, .bool true]) ∧ es.Perm L ∧ w'.ownsRow w.heap.size 38 5 v es.length (es.flatMap fun e => impCells e B) ∧ Mod Nowhere w w' := by
  obtain ⟨v, root, es, kids, p, all, rfl, hperm, hhead, hterms, hlab, htot, hTOk, hcap, hoff, hbyt, hm⟩ := h
  refine ⟨hm, ?_⟩
  have hl := laid_of hperm hlab hTOk hcap hoff
  have hf := found_of hterms hl hfl (fun e he => (ok.lab e he).1)
  have hp := found_perm (L := L) (kids := kids) hterms
  have hT : (rootT root es kids).tot ≤ 121 := by simp only [rootT, Tr.tot]; omega
  have hlk := lenOk hTOk hT hperm
  have hlen : (all.flatMap (ndB L p)).length = offAt (fun p n => (ndB L p n).length) p all all.length := by
    unfold offAt
    rw [List.take_length, List.length_flatMap]
  have hle : (all.flatMap (ndB L p)).length ≤ 2000000 := by
    rw [hlen]
    exact offAt_le hlk hcap _
  have hroot : all[0]? = some ⟨root, none, es, kids⟩ := by rw [← List.head?_eq_getElem?]; exact hhead
  have h0 : p root = 0 := by
    rw [hoff 0 _ hroot]; simp [offAt]
  have hpos : 0 < (all.flatMap (ndB L p)).length := by
    cases all with
    | nil => simp at hroot
    | cons x l =>
      rw [List.flatMap_cons, List.length_append]
      have : 0 < (ndB L p x).length := by unfold ndB nodeB; simp only [List.length_append, List.length_cons]; omega
      omega
  have hbyt2 := hbyt
  rcases hbyt2.2 with ⟨_, hn⟩ | ⟨g, cap, cur, rfl, _⟩
  · omega
  · refine ⟨g, _, cap, rfl, ?_⟩
    refine (implTrie_any L p _ w0.heap.size g cap B ⟨root, none, es, kids⟩ w hbyt ⟨hpos, hle⟩ heof hl h0 htot hB (foundOf L kids) hf (by rw [hp.length_eq]; have := ok.len; omega) (fun e he => (hfl e (hp.mem_iff.1 he)).fl)).mono ?_
    rintro e w' ⟨v, rfl, hrow, hm2⟩
    exact ⟨v, foundOf L kids, rfl, hp, hrow, hm2⟩
end Go.Proofs.YtkpiioiahdcpjaaDoor
