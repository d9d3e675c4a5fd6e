/- sort.Slice over a list of exports, by their names; Sorted. -/
import Derived.Test.YtkpiioiahdcpjaaDoorBm
import Derived.Test.YtkpiioiahdcpjaaDoorBn
import Derived.Test.YtkpiioiahdcpjaaDoorAd
import Derived.Shelf.SlSortFuncK.WholeK
import Derived.Shelf.GgSortFunc.Tiny
namespace Go.Proofs.YtkpiioiahdcpjaaDoor
open Go.RowKit Go.Lib Go.Sort

theorem mod_grow (w : World) (os : Array Obj) : Mod Nowhere w (Sort.grow w os) :=
  ⟨rfl, rfl, rfl, by simp [Sort.grow], fun b hb _ => by simp [Sort.grow, Array.getElem?_append_left hb]⟩
theorem mod_ahead (w : World) (n : Nat) : Mod Nowhere w (Sort.ahead w n) := ⟨rfl, rfl, rfl, Nat.le_refl _, fun _ _ _ => rfl⟩
theorem mod_mapBlock (w : World) (blk : Nat) (f : Array Value → Array Value) : Mod (fun x => x = blk) w (mapBlock w blk f) :=
  ⟨rfl, rfl, rfl, by simp [mapBlock], fun b hb hs => by
    show (w.heap.modify blk (onCells f))[b]? = w.heap[b]?
    rw [Array.getElem?_modify, if_neg (fun e => hs e.symm)]⟩

theorem expsAt_holds {w : World} {blk : Nat} {L : List Exp} (h : HoldsK Exp.cells 5 w blk 0 L.toArray) : ExpsAt w blk 0 L := by
  intro i e hi
  have hlt : i < L.length := (List.getElem?_eq_some_iff.mp hi).1
  have hg : L.toArray[i]! = e := by simp [hi]
  have hc := fun c hc => (HoldsK.cell h (i := i) (c := c) (by simpa using hlt) hc).1
  rw [hg] at hc
  simp only [Nat.zero_add] at hc
  refine ⟨?_, ?_, ?_, ?_, ?_⟩
  · rw [Nat.zero_add]; exact hc 0 (by omega)
  · rw [Nat.zero_add]; exact hc 1 (by omega)
  · rw [Nat.zero_add]; exact hc 2 (by omega)
  · rw [Nat.zero_add]; exact hc 3 (by omega)
  · rw [Nat.zero_add]; exact hc 4 (by omega)

noncomputable def tsT : TypeInfo := (Tryd.prog.info? 22).get (by kernel_rfl)
noncomputable def tsE : TypeInfo := (Tryd.prog.info? 34).get (by kernel_rfl)
theorem tsE_k (n : Nat) : swapperK n tsE 25 = if n = 0 then 1 else if n = 1 then 2 else 9 := by
  have a : tsE.hasPointers = true := by kernel_rfl
  have b : (tsE.bytes == 8) = false := by kernel_rfl
  unfold swapperK
  rw [a, b]
  by_cases h0 : n = 0
  · simp [h0]
  · by_cases h1 : n = 1
    · simp [h1]
    · simp [h0, h1]

set_option maxHeartbeats 800000 in
theorem less31_any (W : World) (blk c Bs n : Nat) (G : Nat → Exp) (hs : W.cell? ⟨Bs, 0, none⟩ = some (.slice (some ⟨blk, 0, none⟩) n c)) (hc : ∀ t, t < n → W.cell? ⟨blk, t * 5, none⟩ = some (.string (G t).name)) (i j : Nat) (hi : i < n) (hj : j < n) (hn : n ≤ 1000) :
    Calls Tryd.prog 31 (#[.int .i64 i, .int .i64 j] ++ #[.pointer (some ⟨Bs, 0, none⟩)]) W fun e w' => e = .returned (.bool (nlt (G i) (G j))) ∧ ∃ q, w' = W.drewN q := by
  have ci := hc i hi
  have cj := hc j hj
  clear hc
  go_enter Tryd.func31, Tryd.ntmps31
  go_wp2_with fail
  go_quiet (fail)
  go_wp2_with fail
  go_ret
  exact ⟨rfl, nq, rfl⟩

set_option maxHeartbeats 1600000 in
set_option maxRecDepth 100000 in
/-- sort.Slice over the list's rows: sorted by their names. -/
theorem sort30_any (w : World) (blk c Bs : Nat) (L : List Exp) (h1 : 1 ≤ L.length) (hL : L.length ≤ 60) (hH : HoldsK Exp.cells 5 w blk 0 L.toArray) (hblk : blk < w.heap.size) (hBs : w.cell? ⟨Bs, 0, none⟩ = some (.slice (some ⟨blk, 0, none⟩) L.length c)) (hne : Bs ≠ blk) :
    Calls Tryd.prog 30 #[.iface 22 (.slice (some ⟨blk, 0, none⟩) L.length c), .func (.func 31) #[] #[.pointer (some ⟨Bs, 0, none⟩)]] w fun e w' =>
      e = .returned (.tuple #[]) ∧ ∃ L' : List Exp, L'.Perm L ∧ (L'.Pairwise fun a b => nlt b a = false) ∧ ExpsAt w' blk 0 L' ∧ Mod (fun x => x = blk) w w' := by
  by_cases h2 : 2 ≤ L.length
  · have hB1 : Bs < w.heap.size := World.block_lt_of_cell? w _ hBs
    have hsz : L.toArray.size = L.length := by simp
    have hless : LessReadsK Tryd.prog 31 #[.pointer (some ⟨Bs, 0, none⟩)] Exp.cells 5 nlt blk 0 L.toArray.size w := by
      intro m os dk hs i j hi hj
      have e : sortWorldK Exp.cells 5 w blk 0 m dk os = putRowK Exp.cells 5 (grow (Sort.ahead w m) os) blk 0 dk := by
        unfold sortWorldK; rw [putRowK_grow _ _ (Sort.ahead w m) _ blk 0 _ hblk]
      have hHg : HoldsK Exp.cells 5 (grow (Sort.ahead w m) os) blk 0 L.toArray := holdsK_grow _ _ _ _ blk 0 _ hblk (holdsK_ahead _ _ _ _ _ _ _ hH)
      rw [hsz] at hi hj
      refine less31_any _ blk c Bs L.length (fun t => dk[t]!) ?_ (fun t ht => ?_) i j hi hj (by omega)
      · rw [e, cell?_putRowK_other _ _ _ blk 0 dk _ (by exact hne), cell?_grow _ _ _ (by exact hB1)]; exact hBs
      · rw [e]
        have := ((holdsK_putRowK _ _ _ blk 0 L.toArray dk hHg hs).cell (i := t) (c := 0) (by omega) (by omega)).1
        rw [Nat.zero_add] at this
        exact this
    have hk : swapperK L.toArray.size tsE 25 = 9 := by rw [tsE_k, if_neg (by omega), if_neg (by omega)]
    have := Any.sort_Slice_cells_sorted lays6 22 34 tsT tsE (by kernel_rfl) (by kernel_rfl) (by kernel_rfl) (by kernel_rfl) 25 (fun _ => by kernel_rfl) Exp.cells 5 (fun _ => rfl) (by kernel_rfl) (fun _ => by kernel_rfl)
      (fun x v hv => by simp [Exp.cells] at hv; rcases hv with rfl | rfl | rfl | rfl | rfl <;> rfl) nlt swo_nlt 31 _
      (enters_of Tryd.func31 (by kernel_rfl) rfl) blk 0 c L.toArray (by omega) (by omega) 44 (by rw [hk]; kernel_rfl) false
      (fun args W => run_callFunc_extern Tryd.func44 (by kernel_rfl) (by kernel_rfl) (by kernel_rfl) (e := Extern.ReflectliteSwapper.swap false) (by kernel_rfl) args W) w hless hH hblk
    rw [hsz] at this
    change Calls Tryd.prog 30 _ _ _ at this
    refine this.mono ?_
    rintro e w' ⟨he, d', q, os, hp, hso, rfl⟩
    have hd : d'.size = L.length := by rw [hp.1, hsz]
    have hx1 : d'.extract 0 L.length = d' := by rw [← hd]; simp
    have hx2 : L.toArray.extract 0 L.length = L.toArray := by simp
    refine ⟨he, d'.toList, ?_, ?_, ?_, ?_⟩
    · have := hp.2.2
      rw [hx1, hx2] at this
      exact this
    · rw [List.pairwise_iff_getElem]
      intro i j hi hj hij
      have := hso i j (Nat.zero_le _) hij (by rw [← hd]; simpa using hj)
      rw [getElem!_pos d' i (by simpa using hi), getElem!_pos d' j (by simpa using hj)] at this
      exact this
    · refine ExpsAt.then (expsAt_holds (w := putRowK Exp.cells 5 (Sort.ahead w q) blk 0 d') ?_) (mod_grow _ _)
      have : HoldsK Exp.cells 5 (putRowK Exp.cells 5 (Sort.ahead w q) blk 0 d') blk 0 d' := holdsK_putRowK _ _ _ blk 0 L.toArray d' (holdsK_ahead _ _ _ _ _ _ _ hH) (by rw [hd, hsz])
      simpa using this
    · exact (((mod_ahead w q).any _).trans (mod_mapBlock _ blk _) fun _ _ h => h).then (mod_grow _ _)
  · have h1' : L.length = 1 := by omega
    have hk : swapperK L.length tsE 25 = 2 := by rw [tsE_k, if_neg (by omega), if_pos h1']
    have := Any.sort_Slice_tiny lays6 22 34 tsT tsE (by kernel_rfl) (by kernel_rfl) (by kernel_rfl) (by kernel_rfl) 25 (fun _ => by kernel_rfl) (some ⟨blk, 0, none⟩) L.length c (by omega) 37 (by rw [hk]; kernel_rfl) (.func 31) #[] #[.pointer (some ⟨Bs, 0, none⟩)] w
    change Calls Tryd.prog 30 _ _ _ at this
    refine this.mono ?_
    rintro e w' ⟨he, os, rfl⟩
    obtain ⟨x, rfl⟩ := List.length_eq_one_iff.1 h1'
    exact ⟨he, [x], List.Perm.refl _, List.pairwise_singleton _ _, (expsAt_holds hH).then (mod_grow _ _), (mod_grow _ _).any _⟩
end Go.Proofs.YtkpiioiahdcpjaaDoor
