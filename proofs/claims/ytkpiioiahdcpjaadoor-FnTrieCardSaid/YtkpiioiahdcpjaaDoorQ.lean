/- A queue: a slice anywhere within a block of its own: append, and its tail. -/
import Derived.Test.YtkpiioiahdcpjaaDoorV
import Derived.Deep.AppendSrc
namespace Go.Proofs.YtkpiioiahdcpjaaDoor
open Go.RowKit

/-- The slice lies at block b from cell off on, c cells are free to it. -/
structure QueAt (w : World) (base : Nat) (b off c : Nat) (xs : List Value) : Prop where
  le : xs.length ≤ c
  max : c ≤ maxLen
  new : base ≤ b
  lt : b < w.heap.size
  cell : ∀ j u, xs[j]? = some u → w.cell? ⟨b, off + j, none⟩ = some u
  there : ∀ j, j < c → (w.cell? ⟨b, off + j, none⟩).isSome = true ∧ w.frozen? ⟨b, off + j, none⟩ = false
def Que (w : World) (base : Nat) (v : Value) (xs : List Value) : Prop := ∃ b off c, v = .slice (some ⟨b, off, none⟩) xs.length c ∧ QueAt w base b off c xs

section
variable {w w' : World} {base b off c : Nat} {v : Value} {xs : List Value} {S : Nat → Prop}
theorem QueAt.keep (h : QueAt w base b off c xs) (hm : Mod S w w') (hs : ¬ S b) : QueAt w' base b off c xs :=
  ⟨h.le, h.max, h.new, hm.size_lt h.lt, fun j u hu => hm.keeps (h.cell j u hu) hs, fun j hj => by
    rw [hm.cell (p := ⟨b, off + j, none⟩) h.lt hs, hm.frozen (p := ⟨b, off + j, none⟩) h.lt hs]; exact h.there j hj⟩
theorem Que.keep (h : Que w base v xs) (hm : Mod S w w') (hs : ∀ k, v.ownBlock = some k → ¬ S k) : Que w' base v xs := by
  obtain ⟨b, off, c, rfl, h⟩ := h
  exact ⟨b, off, c, rfl, h.keep hm (hs b rfl)⟩
theorem Que.then (h : Que w base v xs) (hm : Mod Nowhere w w') : Que w' base v xs := h.keep hm fun _ _ h => h
theorem Que.lt (h : Que w base v xs) : ∀ k, v.ownBlock = some k → base ≤ k ∧ k < w.heap.size := by
  obtain ⟨b, off, c, rfl, h⟩ := h
  intro k hk
  injection hk with hk
  subst hk
  exact ⟨h.new, h.lt⟩
/-- Its tail. -/
theorem QueAt.tail {x : Value} (h : QueAt w base b off c (x :: xs)) : Que w base (.slice (if c = 1 then some ⟨b, off, none⟩ else some ⟨b, off + 1, none⟩) xs.length (c - 1)) xs := by
  have hle := h.le
  simp only [List.length_cons] at hle
  by_cases hc : c = 1
  · subst hc
    have hx : xs = [] := List.eq_nil_of_length_eq_zero (by omega)
    subst hx
    exact ⟨b, off, 0, rfl, Nat.le_refl _, Nat.zero_le _, h.new, h.lt, by simp, fun j hj => absurd hj (by omega)⟩
  · rw [if_neg hc]
    refine ⟨b, off + 1, c - 1, rfl, by omega, by have := h.max; omega, h.new, h.lt, fun j u hu => ?_, fun j hj => ?_⟩
    · have := h.cell (j + 1) u (by simpa using hu)
      rwa [show off + (j + 1) = off + 1 + j by omega] at this
    · have := h.there (j + 1) (by omega)
      rwa [show off + (j + 1) = off + 1 + j by omega] at this
theorem Que.new (w : World) (t : TypeId) (u : Value) (hb : base ≤ w.heap.size) : Que (w.alloc (.cells #[u] t)) base (.slice (some ⟨w.heap.size, 0, none⟩) 1 1) [u] := by
  refine ⟨w.heap.size, 0, 1, rfl, Nat.le_refl _, by decide, hb, by simp, fun j x hx => ?_, fun j hj => ?_⟩
  · rw [Nat.zero_add, World.cell?_alloc_new]
    rcases j with _ | j
    · simpa using hx
    · simp at hx
  · rw [Nat.zero_add, World.cell?_alloc_new, World.frozen?_alloc_new]
    have : j = 0 := by omega
    subst this
    exact ⟨rfl, rfl⟩
end

section
variable {P : Program} (w : World)

/-- One more element. -/
theorem run_append_que (base : Nat) (t ty e : TypeId) (z : Value) (bytes : Nat) (ht : P.underlying t = some (.slice e))
    (hinfo : (P.info? e).map (fun i => (i.zero, i.size, i.bytes)) = some (some z, 1, bytes)) (hzs : z.cells.size = 1)
    (v : Value) (xs : List Value) (hown : Que w base v xs) (x : Value) (u : Value) (hx : Src w 1 x 1 [u]) (h1 : u.oneCell' = true)
    (h63 : xs.length + 1 ≤ maxLen) (hbytes : (xs.length + 1) * bytes ≤ 140737488355328) (hbase : base ≤ w.heap.size) :
    ∃ v' w', (Builtin.append_ #[t, t] ty #[v, x]).run P w = .ok v' w' ∧ Que w' base v' (xs ++ [u]) ∧ Mod (fun k => v.ownBlock = some k) w w' ∧
      (v'.ownBlock = v.ownBlock ∨ v'.ownBlock = some w.heap.size) := by
  obtain ⟨i, hi, hz, hsize, hby⟩ := info_parts hinfo
  obtain ⟨_, A, cx, rfl, hr⟩ := hx
  obtain ⟨ad, rfl, hnews⟩ := hr (by omega)
  obtain ⟨b, off, c, rfl, hq⟩ := hown
  have hs : Go.Src P i.size t (.slice (some ad) 1 cx) 1 [u] w := Go.Src.ofSlice w ht ad 1 cx [u] (by rw [hsize]; rfl) hnews (by simpa using h1)
  by_cases hroom : xs.length + 1 ≤ c
  · have hrun := run_append_room_src (P := P) w t t ty e i ht hi b off xs.length c _ 1 [u] hs hroom
      (fun j hj => by
        have : j = 0 := by simpa using hj
        subst this
        rw [hsize, Nat.mul_one]; exact (hq.there xs.length (by omega)).1)
      (fun j hj => by
        have : j = 0 := by simpa using hj
        subst this
        rw [hsize, Nat.mul_one]; exact (hq.there xs.length (by omega)).2)
    refine ⟨_, _, hrun, ⟨b, off, c, by simp, by simpa using hroom, hq.max, hq.new, ?_, ?_, ?_⟩, ?_, .inl rfl⟩
    · simp only [World.setCells, World.size_setCell]; exact hq.lt
    · intro j y hy
      simp only [World.setCells, hsize, Nat.mul_one]
      by_cases hj : j < xs.length
      · rw [List.getElem?_append_left hj] at hy
        have h0 := hq.cell j y hy
        rw [World.cell?_setCell_other (h := by first | (simp; done) | (simp; omega))]
        exact h0
      · rw [List.getElem?_append_right (by omega)] at hy
        have hj' : j = xs.length := by
          have : j - xs.length < 1 := by
            have := (List.getElem?_eq_some_iff.1 hy).1
            simpa using this
          omega
        subst hj'
        simp only [Nat.sub_self, List.getElem?_cons_zero, Option.some.injEq] at hy
        subst hy
        exact World.cell?_setCell_same' _ _ _ (hq.there xs.length (by omega)).1
    · intro j hj
      simp only [World.setCells, hsize, Nat.mul_one, World.frozen?_setCell]
      refine ⟨?_, (hq.there j hj).2⟩
      by_cases hjx : j = xs.length
      · subst hjx
        rw [World.cell?_setCell_same' _ _ _ (hq.there xs.length (by omega)).1]; rfl
      · rw [World.cell?_setCell_other (h := by first | (simp; done) | (simp; omega))]
        exact (hq.there j hj).1
    · simp only [World.setCells]
      exact Mod.setCell (S := fun k => (Value.slice (some ⟨b, off, none⟩) xs.length c).ownBlock = some k) (Mod.refl _ _) (p := ⟨b, off + xs.length * i.size, none⟩) (fun _ => rfl) _
  · have hold : (Builtin.firstCells i.size xs.length (.slice (some ⟨b, off, none⟩) xs.length c)).run P w.drew = .ok xs.toArray w.drew := by
      rw [hsize]
      exact run_firstCells_some w.drew 1 xs.length ⟨b, off, none⟩ xs.length c xs (by simp) (fun j u' hu => by rw [Addr.add_lit]; exact hq.cell j u' hu)
    have hrun := run_append_grow_src (P := P) w t t ty e i z ht hi hz (some ⟨b, off, none⟩) xs.length c xs hold _ 1 [u] hs (by omega) (by simp only [maxLen] at h63; omega) (growslice_fits (by omega) (by rw [hby]; exact hbytes))
    have hge := grownCap_ge w (xs.length + 1) c e
    have hcm := grownCap_le_maxLen w (xs.length + 1) c e h63
    refine ⟨_, _, hrun, ⟨w.heap.size, 0, _, by simp, by simpa using hge, hcm, hbase, by simp, ?_, ?_⟩, ?_, .inr rfl⟩
    · intro j y hy
      rw [Nat.zero_add]
      have e1 := World.cell?_alloc_new w.drew ((xs ++ [u]).toArray ++ Builtin.zeroCells z.cells (grownCap w (xs.length + 1) c e - (xs.length + 1))) e j
      rw [show w.drew.heap.size = w.heap.size from rfl] at e1
      rw [e1, Array.getElem?_append_left (by
        have := (List.getElem?_eq_some_iff.1 hy).1
        simpa using this)]
      simpa using hy
    · intro j hj
      rw [Nat.zero_add]
      have e1 := World.cell?_alloc_new w.drew ((xs ++ [u]).toArray ++ Builtin.zeroCells z.cells (grownCap w (xs.length + 1) c e - (xs.length + 1))) e j
      have e2 := World.frozen?_alloc_new w.drew ((xs ++ [u]).toArray ++ Builtin.zeroCells z.cells (grownCap w (xs.length + 1) c e - (xs.length + 1))) e j
      rw [show w.drew.heap.size = w.heap.size from rfl] at e1 e2
      refine ⟨?_, e2⟩
      have hzl : (Builtin.zeroCells z.cells (grownCap w (xs.length + 1) c e - (xs.length + 1))).size = (grownCap w (xs.length + 1) c e - (xs.length + 1)) * 1 := by
        rw [size_zeroCells, hzs]
      rw [e1, Array.getElem?_eq_getElem (by simp [hzl]; omega)]
      rfl
    · exact ((Mod.refl _ w).drew).alloc _
end

end Go.Proofs.YtkpiioiahdcpjaaDoor
