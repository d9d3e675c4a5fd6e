/- Clone; ParseTrie's memory. -/
import Derived.Test.YtkpiioiahdcpjaaDoorO2
namespace Go.Proofs.YtkpiioiahdcpjaaDoor
open Go.RowKit

theorem equalIn_slice_nil {P : Program} (w : World) (d : Nat) (t e : TypeId) (a : Addr) (n c : Nat) (h : P.underlying t = some (.slice e)) : (Op.equalIn (d + 1) t (.slice (some a) n c) (.slice none 0 0)).run P w = .ok false w := by
  simp [Op.equalIn, run_underlying h]
theorem eql_slice_nil (w : World) (a : Addr) (n c : Nat) : (binOp .eql 29 (.slice (some a) n c) (.slice none 0 0)).run Tryd.prog w = .ok (.bool false) w := by
  have h2 : (Op.equal 29 (.slice (some a) n c) (.slice none 0 0)).run Tryd.prog w = .ok false w := equalIn_slice_nil w 9999 29 5 a n c Tryd.underlying29
  simp only [binOp]
  simp [h2]

theorem byt_empty (w : World) : Byt (w.alloc (.cells #[] 5)) w.heap.size (.slice (some ⟨w.heap.size, 0, none⟩) 0 0) [] :=
  ⟨rfl, .inr ⟨w.heap.size, 0, #[], rfl, Nat.le_refl _, heap_alloc_new w _, by simp, by decide, by simp, by simp [u8s]⟩⟩

set_option maxHeartbeats 800000 in
set_option maxRecDepth 100000 in
theorem clone_any (w : World) (base b c : Nat) (xs : List UInt8) (h : Byt w base (.slice (some ⟨b, 0, none⟩) xs.length c) xs) (hl : xs.length ≤ 2000000) :
    Calls Tryd.prog 14 #[.slice (some ⟨b, 0, none⟩) xs.length c] w fun e w' => ∃ v, e = .returned v ∧ Byt w' w.heap.size v xs ∧ Mod Nowhere w w' := by
  have H := Lib.hid h
  clear h
  have hcmp := eql_slice_nil w ⟨b, 0, none⟩ xs.length c
  go_enter Tryd.func14, Tryd.ntmps14
  go_wp2_with (at_builtin; (refine ev_append rfl (.tmp 5) (.tmp 6) rfl w.heap.size (.slice (some ⟨w.heap.size, 0, none⟩) 0 0) [] rfl (byt_empty w) xs (H.out.then ((Mod.refl _ _).alloc _)).src (by simp; omega) (by simp) ?_; intro v2 w2 hA hB hC; have HA := Lib.hid hA; have HB := Lib.hid hB; clear hA hB hC))
  go_ret
  exact ⟨v2, rfl, by simpa using HA.out, ((Mod.refl Nowhere w).alloc _).trans HB.out fun x hx e => by injection e with e; exact absurd (show w.heap.size = x from e) (by omega)⟩

theorem mod_setCells (g : Nat) : ∀ (vs : List Value) (o : Nat) (w : World), Mod (fun k => k = g) w (w.setCells g o vs)
  | [], _, w => Mod.refl _ w
  | v :: r, o, w => (mod_r w g o v).trans (mod_setCells g r (o + 1) _) fun _ _ h => h

/-- Bytes are appended within a buffer. -/
theorem run_append_buf {P : Program} (w : World) (t ty e g C : Nat) (bytes : Nat) (z : Value) (ht : P.underlying t = some (.slice e)) (hinfo : (P.info? e).map (fun i => (i.zero, i.size, i.bytes)) = some (some z, 1, bytes))
    (xs ys : List Value) (hq : QueAt w 0 g 0 C xs) (x : Value) (hx : Src w 1 x ys.length ys) (h1 : ∀ u ∈ ys, u.oneCell' = true) (h0 : 0 < ys.length) (hroom : xs.length + ys.length ≤ C) :
    ∃ w', (Builtin.append_ #[t, t] ty #[.slice (some ⟨g, 0, none⟩) xs.length C, x]).run P w = .ok (.slice (some ⟨g, 0, none⟩) (xs.length + ys.length) C) w' ∧ QueAt w' 0 g 0 C (xs ++ ys) ∧ Mod (fun k => k = g) w w' := by
  obtain ⟨i, hi, hz, hsize, hby⟩ := info_parts hinfo
  obtain ⟨_, A, cx, rfl, hr⟩ := hx
  obtain ⟨ad, rfl, hnews⟩ := hr h0
  have hs : Go.Src P i.size t (.slice (some ad) ys.length cx) ys.length ys w := Go.Src.ofSlice w ht ad ys.length cx ys (by rw [hsize, Nat.mul_one]) hnews h1
  have hth : ∀ j, j < ys.length → (w.cell? ⟨g, 0 + xs.length + j, none⟩).isSome = true ∧ w.frozen? ⟨g, 0 + xs.length + j, none⟩ = false := fun j hj => by
    have := hq.there (xs.length + j) (by omega)
    rwa [← Nat.add_assoc] at this
  have hrun := run_append_room_src (P := P) w t t ty e i ht hi g 0 xs.length C _ ys.length ys hs hroom
    (fun j hj => by rw [hsize, Nat.mul_one]; exact (hth j hj).1) (fun j hj => by rw [hsize, Nat.mul_one]; exact (hth j hj).2)
  rw [hsize, Nat.mul_one] at hrun
  have hmod : Mod (fun k => k = g) w (w.setCells g (0 + xs.length) ys) := mod_setCells g ys _ w
  have hin := World.cell?_setCells_in g ys (0 + xs.length) w (fun j hj => (hth j hj).1)
  refine ⟨_, hrun, ⟨by simpa using hroom, hq.max, Nat.zero_le _, hmod.size_lt hq.lt, fun j u hu => ?_, fun j hj => ?_⟩, hmod⟩
  · by_cases hj : j < xs.length
    · rw [List.getElem?_append_left hj] at hu
      rw [World.cell?_setCells_out g ys (0 + xs.length) w ⟨g, 0 + j, none⟩ (fun _ _ => Or.inl (by simp; omega))]
      exact hq.cell j u hu
    · rw [List.getElem?_append_right (by omega)] at hu
      obtain ⟨h2, h3⟩ := List.getElem?_eq_some_iff.1 hu
      have := hin (j - xs.length) h2
      rw [h3, show 0 + xs.length + (j - xs.length) = 0 + j by omega] at this
      exact this
  · rw [World.frozen?_setCells]
    refine ⟨?_, (hq.there j hj).2⟩
    by_cases hj2 : j < xs.length ∨ xs.length + ys.length ≤ j
    · rw [World.cell?_setCells_out g ys (0 + xs.length) w ⟨g, 0 + j, none⟩ (fun _ _ => by simp; omega)]
      exact (hq.there j hj).1
    · have := hin (j - xs.length) (by omega)
      rw [show 0 + xs.length + (j - xs.length) = 0 + j by omega] at this
      rw [this]; rfl

/-- The nodes that have been found: where each begins, its text. -/
structure Outs (w : World) (base : Nat) (v : Value) (l : List (Nat × Value × List UInt8)) : Prop where
  row : w.ownsRow base 84 2 v l.length (l.flatMap fun x => [.int .u64 x.1, x.2.1])
  dat : ∀ x ∈ l, Byt w base x.2.1 x.2.2
  sep : ∀ x ∈ l, ∀ k, x.2.1.ownBlock = some k → v.ownBlock ≠ some k
theorem Outs.keep {w w' : World} {base : Nat} {v : Value} {l : List (Nat × Value × List UInt8)} {S : Nat → Prop} (h : Outs w base v l) (hm : Mod S w w') (hs : ∀ k, base ≤ k → ¬ S k) : Outs w' base v l :=
  ⟨own_keep h.row hm (fun k hk => hs k (World.ownsRow.lt h.row k hk).1), fun x hx => (h.dat x hx).keep hm fun k hk _ => hs k hk, h.sep⟩
theorem Outs.shape {w : World} {base : Nat} {v : Value} {l : List (Nat × Value × List UInt8)} (h : Outs w base v l) : ∃ A c, v = .slice A l.length c := by
  rcases h.row.2 with ⟨rfl, h0⟩ | ⟨g, cap, cur, rfl, _⟩
  · exact ⟨none, 0, by rw [h0]⟩
  · exact ⟨_, cap, rfl⟩
theorem QueAt.src {w : World} {base b off c : Nat} {xs : List Value} (h : QueAt w base b off c xs) : Src w 1 (.slice (some ⟨b, off, none⟩) xs.length c) xs.length xs :=
  ⟨by simp, _, c, rfl, fun _ => ⟨_, rfl, fun j u hu => by rw [Addr.add_lit]; exact h.cell j u hu⟩⟩
/-- One more. -/
theorem Outs.more {w wa w2 : World} {base : Nat} {v v' dv : Value} {l : List (Nat × Value × List UInt8)} {off : Nat} {path : List UInt8} (h : Outs w base v l) (hm : Mod Nowhere w wa) (hd : Byt wa base dv path) (hne : ∀ k, dv.ownBlock = some k → v.ownBlock ≠ some k)
    (hA : w2.ownsRow base 84 2 v' (l.length + 1) ((l.flatMap fun x => [.int .u64 x.1, x.2.1]) ++ [.int .u64 off, dv])) (hB : Mod (fun k => v.ownBlock = some k) wa w2) (hC : v'.ownBlock = v.ownBlock ∨ v'.ownBlock = some wa.heap.size) :
    Outs w2 base v' (l ++ [(off, dv, path)]) := by
  have h2 := h.keep (S := Nowhere) hm (fun _ _ h => h)
  have hall : ∀ x ∈ l ++ [(off, dv, path)], Byt wa base x.2.1 x.2.2 ∧ ∀ k, x.2.1.ownBlock = some k → v.ownBlock ≠ some k := by
    intro x hx
    rw [List.mem_append, List.mem_singleton] at hx
    rcases hx with hx | rfl
    · exact ⟨h2.dat x hx, h2.sep x hx⟩
    · exact ⟨hd, hne⟩
  refine ⟨?_, fun x hx => ?_, fun x hx k hk => ?_⟩
  · rw [List.length_append, List.flatMap_append]
    simpa using hA
  · exact (hall x hx).1.keep hB fun k _ hk e => (hall x hx).2 k hk e
  · have h1 := (hall x hx).2 k hk
    have h3 := ((hall x hx).1.lt k hk).2
    rcases hC with e | e
    · rw [e]; exact h1
    · rw [e]; intro e2; injection e2 with e2; omega

/-- Blocks of the parser, each another. -/
structure Seps (base r d g o : Nat) : Prop where
  rl : r < base
  dl : d < base
  gl : g < base
  ol : o < base
  rg : r ≠ g
  ro : r ≠ o
  go : g ≠ o
  dg : d ≠ g
  d_o : d ≠ o
  g0 : g ≠ 0
  o0 : o ≠ 0
  r0 : r ≠ 0
  rd : d ≠ r

/-- While a trie is parsed. -/
structure PS (w : World) (base r d c g o : Nat) (data path : List UInt8) (i : Nat) (v : Value) (l : List (Nat × Value × List UInt8)) : Prop where
  rd : Rd w r d c data i
  buf : QueAt w 0 g 0 32768 (u8s path)
  cell : Blk w o 79 #[v]
  outs : Outs w base v l
  size : base ≤ w.heap.size

section
variable {w w' : World} {base r d c g o i i' : Nat} {data path : List UInt8} {v : Value} {l : List (Nat × Value × List UInt8)}
theorem PS.keep {S : Nat → Prop} (h : PS w base r d c g o data path i v l) (hm : Mod S w w') (h1 : ¬ S r) (h2 : ¬ S d) (h3 : ¬ S g) (h4 : ¬ S o) (h5 : ¬ S 0) (hs : ∀ k, base ≤ k → ¬ S k) : PS w' base r d c g o data path i v l :=
  ⟨h.rd.keep hm h1 h2 h5, h.buf.keep hm h3, h.cell.keep hm h4, h.outs.keep hm hs, Nat.le_trans h.size hm.size⟩
theorem PS.then (h : PS w base r d c g o data path i v l) (hm : Mod Nowhere w w') : PS w' base r d c g o data path i v l :=
  h.keep hm (fun h => h) (fun h => h) (fun h => h) (fun h => h) (fun h => h) (fun _ _ h => h)
theorem PS.read (h : PS w base r d c g o data path i v l) (hs : Seps base r d g o) (hr : Rd w' r d c data i') (hm : Mod (fun x => x = r) w w') : PS w' base r d c g o data path i' v l :=
  ⟨hr, h.buf.keep hm (fun e => hs.rg e.symm), h.cell.keep hm (fun e => hs.ro e.symm), h.outs.keep hm (fun k hk e => by have := hs.rl; omega), Nat.le_trans h.size hm.size⟩
theorem PS.more {wa w2 : World} {v' dv : Value} {off : Nat} {xs : List UInt8} (h : PS w base r d c g o data path i v l) (hs : Seps base r d g o) (hm : Mod Nowhere w wa) (hd : Byt wa base dv xs) (hne : ∀ k, dv.ownBlock = some k → v.ownBlock ≠ some k)
    (hA : w2.ownsRow base 84 2 v' (l.length + 1) ((l.flatMap fun x => [.int .u64 x.1, x.2.1]) ++ [.int .u64 off, dv])) (hB : Mod (fun k => v.ownBlock = some k) wa w2) (hC : v'.ownBlock = v.ownBlock ∨ v'.ownBlock = some wa.heap.size) :
    (w2.cell? ⟨o, 0, none⟩ = some v ∧ w2.frozen? ⟨o, 0, none⟩ = false) ∧ PS (w2.setCell ⟨o, 0, none⟩ v') base r d c g o data path i v' (l ++ [(off, dv, xs)]) ∧ Mod (fun x => x = o ∨ base ≤ x) w (w2.setCell ⟨o, 0, none⟩ v') := by
  have hown : ∀ k, v.ownBlock = some k → base ≤ k := fun k hk => (World.ownsRow.lt h.outs.row k hk).1
  have h1 := hs.rl; have h2 := hs.dl; have h3 := hs.gl; have h4 := hs.ol
  have hno : ∀ x, x < base → ¬ v.ownBlock = some x := fun x hx e => by have := hown x e; omega
  have hcell : Blk w2 o 79 #[v] := (h.cell.keep hm (fun h => h)).keep hB (hno o h4)
  have hw2 : Mod (fun x => base ≤ x) w w2 := (hm.any _).trans hB fun x _ e => hown x e
  have hst := mod_r w2 o 0 v'
  have ho2 := Outs.more h.outs hm hd hne hA hB hC
  have hb0 : 0 < base := by omega
  refine ⟨⟨hcell.cell 0, hcell.frozen 0⟩, ⟨?_, ?_, hcell.put 0 v', ho2.keep hst (fun k hk e => by omega), ?_⟩, (hw2.mono fun x _ hx => .inr hx).trans hst fun x _ e => .inl e⟩
  · exact (h.rd.keep hw2 (by omega) (by omega) (by omega)).keep hst hs.ro hs.d_o (fun e => hs.o0 e.symm)
  · exact (h.buf.keep hw2 (by omega)).keep hst hs.go
  · exact Nat.le_trans h.size (Nat.le_trans hw2.size hst.size)
end

end Go.Proofs.YtkpiioiahdcpjaaDoor
