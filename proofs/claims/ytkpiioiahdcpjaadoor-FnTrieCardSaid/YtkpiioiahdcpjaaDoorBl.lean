/- The order of names; two sorted permutations of exports with distinct names are one. Plain. -/
import Derived.Test.YtkpiioiahdcpjaaDoorBj
import Derived.Test.YtkpiioiahdcpjaaDoorAb
import Derived.Sort.Statements
import Derived.Lib.ReflectliteSwap
import Derived.Shelf.GgSortFunc.RowK
import Derived.Laws.Externs
import Derived.BigQuiet
import Derived.Deep.QuietTactic
namespace Go.Proofs.YtkpiioiahdcpjaaDoor
open Go.RowKit

/-- An export's name lies ahead of another's. -/
def nlt (a b : Exp) : Bool := Op.bytesLess a.name.toList b.name.toList

theorem bl_eq : ∀ (x y : List UInt8), Op.bytesLess x y = decide (x < y)
  | [], [] => by simp [Op.bytesLess]
  | _ :: _, [] => by simp [Op.bytesLess]
  | [], _ :: _ => by simp [Op.bytesLess]
  | a :: x, b :: y => by
    rw [Op.bytesLess, bl_eq x y]
    simp only [List.cons_lt_cons_iff]
    by_cases h1 : a < b <;> by_cases h2 : a = b <;> by_cases h3 : x < y <;> simp [h1, h2, h3]
theorem nlt_eq (a b : Exp) : nlt a b = decide (a.name.data.toList < b.name.data.toList) := by
  unfold nlt
  rw [bl_eq, Lib.toList_data, Lib.toList_data]
theorem ord_nlt : OrdOk nlt where
  irr x := by rw [nlt_eq, decide_eq_false_iff_not]; exact List.lt_irrefl _
  asym x y h := by rw [nlt_eq, decide_eq_true_iff] at h; rw [nlt_eq, decide_eq_false_iff_not]; exact List.lt_asymm h
  ltr x y z h1 h2 := by
    rw [nlt_eq, decide_eq_false_iff_not, List.not_lt] at h1 h2 ⊢
    exact List.le_trans h1 h2
theorem swo_nlt : Sort.SWO nlt where
  irrefl := ord_nlt.irr
  trans x y z h1 h2 := by rw [nlt_eq, decide_eq_true_iff] at h1 h2 ⊢; exact List.lt_trans h1 h2
  ntrans x y z h1 h2 := ord_nlt.ltr z y x h2 h1
theorem nlt_conn {a b : Exp} (h1 : nlt a b = false) (h2 : nlt b a = false) : a.name = b.name := by
  rw [nlt_eq, decide_eq_false_iff_not, List.not_lt] at h1 h2
  have h := List.le_antisymm h2 h1
  exact ByteArray.ext (Array.ext' h)

theorem eq_of_name : ∀ {l : List Exp}, (l.map (·.name)).Nodup → ∀ {a b : Exp}, a ∈ l → b ∈ l → a.name = b.name → a = b
  | [], _, a, b, h, _, _ => by simp at h
  | x :: r, hn, a, b, ha, hb, he => by
    rw [List.map_cons, List.nodup_cons] at hn
    rw [List.mem_cons] at ha hb
    rcases ha with rfl | ha <;> rcases hb with rfl | hb
    · rfl
    · exact (hn.1 (he ▸ List.mem_map_of_mem hb)).elim
    · exact (hn.1 (he ▸ List.mem_map_of_mem ha)).elim
    · exact eq_of_name hn.2 ha hb he

/-- Two sorted permutations agree. -/
theorem sorted_unique {l1 l2 L : List Exp} (hn : (L.map (·.name)).Nodup) (p1 : l1.Perm L) (p2 : l2.Perm L) (s1 : l1.Pairwise fun a b => nlt b a = false) (s2 : l2.Pairwise fun a b => nlt b a = false) : l1 = l2 :=
  List.Perm.eq_of_pairwise (fun _ _ ha hb h1 h2 => eq_of_name hn (p1.mem_iff.1 ha) (p2.mem_iff.1 hb) (nlt_conn h2 h1)) s1 s2 (p1.trans p2.symm)

/-- The first n values of f as a list. -/
def lst {α : Type} (f : Nat → α) (n : Nat) : List α := (List.range n).map f
theorem lst_seg {α : Type} (f : Nat → α) (n : Nat) : seg f 0 n = lst f n := by
  unfold seg lst
  rw [List.range_eq_range', Nat.sub_zero]
theorem lst_pairwise {f : Nat → Exp} {n : Nat} (h : Srtd nlt f 0 n) : (lst f n).Pairwise fun a b => nlt b a = false := by
  unfold lst
  rw [List.pairwise_map]
  refine List.Pairwise.imp_of_mem ?_ List.pairwise_lt_range
  intro a b _ hb hab
  exact h a b (Nat.zero_le _) hab (List.mem_range.1 hb)
theorem lst_length {α : Type} (f : Nat → α) (n : Nat) : (lst f n).length = n := by
  unfold lst
  rw [List.length_map, List.length_range]
theorem lst_get {α : Type} (f : Nat → α) {n k : Nat} (h : k < n) : (lst f n)[k]? = some (f k) := by
  unfold lst
  rw [List.getElem?_map, List.getElem?_range h, Option.map_some]
theorem lst_of {α : Type} [Inhabited α] (l : List α) : lst (fun k => l[k]!) l.length = l := by
  refine List.ext_getElem? fun k => ?_
  by_cases h : k < l.length
  · rw [lst_get _ h]; simp [h]
  · rw [List.getElem?_eq_none (by rw [lst_length]; omega), List.getElem?_eq_none (by omega)]
end Go.Proofs.YtkpiioiahdcpjaaDoor

/- sort.SliceStable over the found exports' rows. -/
namespace Go.Proofs.YtkpiioiahdcpjaaDoor
open Go.RowKit Go.Lib Go.Sort

/-- The row of n exports of the package, by f; the variable that holds the slice. -/
def RowI (B n blk c Bs : Nat) (w : World) (f : Nat → Exp) : Prop :=
  HoldsK (fun e => impCells e B) 5 w blk 0 ((Array.range n).map f) ∧ blk < w.heap.size ∧ w.cell? ⟨Bs, 0, none⟩ = some (.slice (some ⟨blk, 0, none⟩) n c)

section
variable {B n blk c Bs : Nat} {w w' : World} {f : Nat → Exp}
theorem arr_get (f : Nat → Exp) {k : Nat} (h : k < n) : ((Array.range n).map f)[k]! = f k := by simp [h]
theorem arr_swp (f : Nat → Exp) {i j : Nat} (hi : i < n) (hj : j < n) : swp ((Array.range n).map f) i j = (Array.range n).map (swpf f i j) := by
  refine Array.ext (by simp [size_swp]) fun k h1 h2 => ?_
  have hk : k < n := by simpa using h2
  have := swp_get (d := (Array.range n).map f) (i := i) (j := j) (by simpa using hi) (by simpa using hj) k
  rw [getElem!_pos _ k h1] at this
  rw [this]
  simp only [swpf, Array.getElem_map, Array.getElem_range]
  rw [arr_get f hi, arr_get f hj, arr_get f hk]
  split <;> split <;> simp_all
theorem RowI.cell (h : RowI B n blk c Bs w f) {k i : Nat} (hk : k < n) (hi : i < 5) : w.cell? ⟨blk, k * 5 + i, none⟩ = some (impCells (f k) B)[i]! := by
  have := (h.1.cell (i := k) (c := i) (by simpa using hk) hi).1
  rw [arr_get f hk, Nat.zero_add] at this
  exact this
theorem RowI.keep (h : RowI B n blk c Bs w f) (hm : Mod Nowhere w w') : RowI B n blk c Bs w' f := by
  refine ⟨fun t ht => ?_, hm.size_lt h.2.1, hm.keeps h.2.2 id⟩
  have := h.1 t ht
  exact ⟨hm.keeps this.1 id, (hm.frozen h.2.1 id).trans this.2⟩

set_option maxHeartbeats 800000 in
theorem less19_any (h : RowI B n blk c Bs w f) (i j : Nat) (hi : i < n) (hj : j < n) (hn : n ≤ 1000) :
    Calls Tryd.prog 19 (#[.int .i64 i, .int .i64 j] ++ #[.pointer (some ⟨Bs, 0, none⟩)]) w fun e w' => e = .returned (.bool (nlt (f i) (f j))) ∧ Mod Nowhere w w' := by
  have ci := h.cell hi (i := 0) (by omega)
  have cj := h.cell hj (i := 0) (by omega)
  have cb := h.2.2
  change w.cell? ⟨blk, i * 5, none⟩ = some (.string (f i).name) at ci
  change w.cell? ⟨blk, j * 5, none⟩ = some (.string (f j).name) at cj
  clear h
  go_enter Tryd.func19, Tryd.ntmps19
  go_wp2_with fail
  go_quiet (fail)
  go_wp2_with fail
  go_ret
  exact ⟨rfl, (Mod.refl _ _).drewN nq⟩
end
set_option maxHeartbeats 1600000 in
set_option maxRecDepth 100000 in
theorem srt_imp (B n blk c Bs : Nat) (hn : n ≤ 1000) (hbs : Bs ≠ blk) : Srt n nlt 19 #[.pointer (some ⟨Bs, 0, none⟩)] 44 #[.slice (some ⟨blk, 0, none⟩) n c, typeHandle Tryd.prog 38] (RowI B n blk c Bs) (fun x => x = blk) where
  less w f i j hr hi hj := less19_any hr i j hi hj hn
  swap w f i j hr hi hj := by
    let enc : Exp → List Value := fun e => impCells e B
    let d : Array Exp := (Array.range n).map f
    have hk : ∀ x, (enc x).length = 5 := fun _ => rfl
    have h1 : ∀ x, ∀ v ∈ enc x, v.oneCell' = true := fun x v hv => by simp [enc, impCells] at hv; rcases hv with rfl | rfl | rfl | rfl | rfl <;> rfl
    have hH : HoldsK enc 5 w blk 0 d := hr.1
    have hd : d.size = n := by simp [d]
    have cc : ∀ x, x < n → ∀ u v, (enc d[x]!)[u]? = some v → w.cell? ⟨blk, 0 + x * 5 + u, none⟩ = some v := fun x hx u v h => by
      have hu : u < 5 := by rw [← hk d[x]!]; exact (List.getElem?_eq_some_iff.mp h).1
      rw [(hH.cell (by rw [hd]; exact hx) hu).1]; simp [h]
    obtain ⟨ie, hie⟩ : ∃ ie, ie = (Tryd.prog.info? 38).get (by kernel_rfl) := ⟨_, rfl⟩
    have hie38 : Tryd.prog.info? 38 = some ie := by rw [hie]; kernel_rfl
    have hs5 : ie.size = 5 := by rw [hie]; kernel_rfl
    clear hie
    have hrun := run_swap_cells (P := Tryd.prog) false 38 ie hie38 (fun _ => by kernel_rfl) blk 0 n c i j hi hj (enc d[i]!) (enc d[j]!) (by rw [hk, hs5]) (by rw [hk, hs5]) (h1 _) (h1 _) w (by rw [hs5]; exact cc i hi) (by rw [hs5]; exact cc j hj)
      (by rw [hs5]; exact fun u hu => (hH.cell (by rw [hd]; exact hi) hu).2) (by rw [hs5]; exact fun u hu => (hH.cell (by rw [hd]; exact hj) hu).2)
    rw [hs5] at hrun
    refine ⟨(w.setCells blk (0 + i * 5) (enc d[j]!)).setCells blk (0 + j * 5) (enc d[i]!), ?_, ?_⟩
    · rw [run_callFunc_extern Tryd.func44 (by kernel_rfl) (by kernel_rfl) (by kernel_rfl) (e := Extern.ReflectliteSwapper.swap false) (by kernel_rfl)]
      show ((Extern.ReflectliteSwapper.swap false #[.int .i64 i, .int .i64 j, .slice (some ⟨blk, 0, none⟩) n c, typeHandle Tryd.prog 38]).run Tryd.prog w).andThen _ = _
      rw [hrun]
      rfl
    · have hw := swap_worldK enc 5 hk w 0 0 blk 0 d i j (by rw [hd]; exact hi) (by rw [hd]; exact hj)
      have h0 : putRowK enc 5 (Sort.ahead w 0) blk 0 d = w := putRowK_self enc 5 w blk 0 d hH
      rw [h0] at hw
      have hm : Mod (fun x => x = blk) w ((w.setCells blk (0 + i * 5) (enc d[j]!)).setCells blk (0 + j * 5) (enc d[i]!)) := (mod_setCells blk _ _ _).trans (mod_setCells blk _ _ _) fun _ _ h => h
      refine ⟨⟨?_, hm.size_lt hr.2.1, hm.keeps hr.2.2 hbs⟩, hm⟩
      rw [← arr_swp f hi hj]
      show HoldsK enc 5 _ blk 0 (swp d i j)
      have hx : (w.setCells blk (0 + i * 5) (enc d[j]!)).setCells blk (0 + j * 5) (enc d[i]!) = putRowK enc 5 (Sort.ahead w (0 + 0)) blk 0 (swp d i j) := hw
      rw [hx]
      exact holdsK_putRowK enc 5 w blk 0 d _ hH (by rw [size_swp])
  keep w w' f hr hm := hr.keep hm
  old w f hr b hb := by rw [hb]; exact hr.2.1
  small := hn
end Go.Proofs.YtkpiioiahdcpjaaDoor
