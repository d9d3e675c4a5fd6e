/- The words of this claim: what a call leaves of the memory (Mod), a block that is known whole (Blk), a row of bytes of the call's own (Byt). -/
import Derived.Test.YtkpiioiahdcpjaaDoorProg
import Derived.WalkKit
import Derived.Below
import Derived.OwnWalk
import Derived.KernelRfl
import Derived.RowKit3
import Derived.Deep.Draws
import Derived.Deep.AppendLies
import Derived.Maps.AppendAt
import Derived.Laws.Rows
import Derived.Laws.OwnMore
import Derived.Laws.BitsLemmas
import Derived.Lib.AppendStr
import Derived.Lib.Hide
namespace Go.Proofs.YtkpiioiahdcpjaaDoor
open Go.RowKit

/-- Of the blocks that were there only those of S may have turned. -/
structure Mod (S : Nat → Prop) (w w' : World) : Prop where
  os : w'.os = w.os
  tape : w'.tape = w.tape
  output : w'.output = w.output
  size : w.heap.size ≤ w'.heap.size
  block : ∀ b, b < w.heap.size → ¬ S b → w'.heap[b]? = w.heap[b]?

def Nowhere : Nat → Prop := fun _ => False

section
variable {S T : Nat → Prop} {a b c w : World}
theorem Mod.refl (S : Nat → Prop) (w : World) : Mod S w w := ⟨rfl, rfl, rfl, Nat.le_refl _, fun _ _ _ => rfl⟩
theorem Mod.trans (h : Mod S a b) (k : Mod T b c) (hT : ∀ x, x < a.heap.size → T x → S x) : Mod S a c :=
  ⟨k.os.trans h.os, k.tape.trans h.tape, k.output.trans h.output, Nat.le_trans h.size k.size,
    fun x hx hs => (k.block x (Nat.lt_of_lt_of_le hx h.size) (fun ht => hs (hT x hx ht))).trans (h.block x hx hs)⟩
theorem Mod.then (h : Mod S a b) (k : Mod Nowhere b c) : Mod S a c := h.trans k fun _ _ ht => ht.elim
theorem Mod.mono (h : Mod S a b) (hT : ∀ x, x < a.heap.size → S x → T x) : Mod T a b :=
  ⟨h.os, h.tape, h.output, h.size, fun x hx ht => h.block x hx fun hs => ht (hT x hx hs)⟩
theorem Mod.any (h : Mod Nowhere a b) (S : Nat → Prop) : Mod S a b := h.mono fun _ _ hs => hs.elim
theorem Mod.drew (h : Mod S a b) : Mod S a b.drew := ⟨h.os, h.tape, h.output, h.size, h.block⟩
theorem Mod.drewN (h : Mod S a b) (n : Nat) : Mod S a (b.drewN n) := ⟨h.os, h.tape, h.output, h.size, h.block⟩
theorem Mod.of_below (h : Below w.heap.size w b) (S : Nat → Prop) : Mod S w b := ⟨h.os, h.tape, h.output, h.size, fun x hx _ => h.block x hx⟩
theorem Mod.below (h : Mod Nowhere w b) : Below w.heap.size w b := ⟨h.os, h.tape, h.output, h.size, fun x hx => h.block x hx id⟩
theorem Mod.of_grown {row : Option Nat} (h : w.grownBy b row) : Mod (fun x => row = some x) w b := ⟨h.os, h.tape, h.output, h.size, fun x hx hs => h.block x hx fun e => hs e.symm⟩
theorem Mod.alloc (h : Mod S a b) (o : Obj) : Mod S a (b.alloc o) :=
  h.then ⟨rfl, rfl, rfl, by simp, fun k hk _ => Below.heap_alloc _ _ _ hk⟩
theorem Mod.setCell (h : Mod S a b) {p : Addr} (hp : p.block < a.heap.size → S p.block) (u : Value) : Mod S a (b.setCell p u) :=
  h.trans (T := fun x => x = p.block) ⟨rfl, rfl, rfl, by simp [World.setCell], fun k _ hk => Below.heap_setCell _ _ _ _ hk⟩ fun x hx e => by subst e; exact hp hx
/-- Behind an append: the row that may have been written is one of S, or new. -/
theorem Mod.grown (h : Mod S a b) {row : Option Nat} (hg : b.grownBy c row) (hr : ∀ k, row = some k → k < a.heap.size → S k) : Mod S a c :=
  h.trans (Mod.of_grown hg) fun x hx e => hr x e hx
theorem Mod.cell (h : Mod S a b) {p : Addr} (hp : p.block < a.heap.size) (hs : ¬ S p.block) : b.cell? p = a.cell? p := World.cell?_of_block (w := a) (h.block p.block hp hs)
theorem Mod.frozen (h : Mod S a b) {p : Addr} (hp : p.block < a.heap.size) (hs : ¬ S p.block) : b.frozen? p = a.frozen? p := World.frozen?_of_block (w := a) (h.block p.block hp hs)
theorem Mod.keeps (h : Mod S a b) {p : Addr} {v : Value} (hv : a.cell? p = some v) (hs : ¬ S p.block) : b.cell? p = some v := (h.cell (World.block_lt_of_cell? a p hv) hs).trans hv
theorem Mod.keeps_drew (h : Mod S a.drew b) {p : Addr} {v : Value} (hv : a.cell? p = some v) (hs : ¬ S p.block) : b.cell? p = some v := Mod.keeps (a := a.drew) h hv hs
theorem Mod.undrew (h : Mod S a.drew b) : Mod S a b := ⟨h.os, h.tape, h.output, h.size, h.block⟩
theorem Mod.size_lt (h : Mod S a b) {x : Nat} (hx : x < a.heap.size) : x < b.heap.size := Nat.lt_of_lt_of_le hx h.size
end

theorem cell_alloc {w : World} {p : Addr} {v : Value} (h : w.cell? p = some v) (o : Obj) : (w.alloc o).cell? p = some v := Mod.keeps ((Mod.refl Nowhere w).alloc o) h id
theorem cell_drew {w : World} {p : Addr} {v : Value} (h : w.cell? p = some v) : w.drew.cell? p = some v := h

/-- Block g holds just these cells, of type t, none frozen. -/
def Blk (w : World) (g : Nat) (t : TypeId) (cs : Array Value) : Prop := w.heap[g]? = some (.cells cs t (0, 0))

section
variable {w w' : World} {g : Nat} {t : TypeId} {cs : Array Value} {S : Nat → Prop}
theorem Blk.lt (h : Blk w g t cs) : g < w.heap.size := by
  rcases Nat.lt_or_ge g w.heap.size with hl | hl
  · exact hl
  · unfold Blk at h; rw [Array.getElem?_eq_none hl] at h; cases h
theorem Blk.cell (h : Blk w g t cs) (i : Nat) : w.cell? ⟨g, i, none⟩ = cs[i]? := cell_of_row w g i cs t (0, 0) h
theorem Blk.frozen (h : Blk w g t cs) (i : Nat) : w.frozen? ⟨g, i, none⟩ = false := frozen_of_row w g i cs t h
theorem Blk.new (w : World) (t : TypeId) (cs : Array Value) : Blk (w.alloc (.cells cs t (0, 0))) w.heap.size t cs := heap_alloc_new w _
theorem Blk.drew (h : Blk w g t cs) : Blk w.drew g t cs := h
theorem Blk.drewN (h : Blk w g t cs) (n : Nat) : Blk (w.drewN n) g t cs := h
theorem Blk.keep (h : Blk w g t cs) (hm : Mod S w w') (hs : ¬ S g) : Blk w' g t cs := (hm.block g h.lt hs).trans h
theorem Blk.alloc (h : Blk w g t cs) (o : Obj) : Blk (w.alloc o) g t cs := (Below.heap_alloc w o g h.lt).trans h
theorem Blk.put (h : Blk w g t cs) (i : Nat) (u : Value) : Blk (w.setCell ⟨g, i, none⟩ u) g t (cs.setIfInBounds i u) := by
  unfold Blk at h ⊢
  simp [World.setCell, Array.getElem?_modify, h]
theorem Blk.far (h : Blk w g t cs) {p : Addr} (hp : g ≠ p.block) (u : Value) : Blk (w.setCell p u) g t cs := (Below.heap_setCell w p u g hp).trans h
theorem Blk.ne (h : Blk w g t cs) {g' : Nat} {t' : TypeId} {cs' : Array Value} (h' : Blk w g' t' cs') (hne : t ≠ t') : g ≠ g' := by
  rintro rfl
  unfold Blk at h h'
  rw [h] at h'
  injection h' with h'
  injection h' with _ ht
  exact hne ht
end

/-- Bytes as cells. -/
def u8s (xs : List UInt8) : List Value := xs.map fun b => Value.int .u8 b.toNat
theorem u8s_length (xs : List UInt8) : (u8s xs).length = xs.length := List.length_map ..
theorem u8s_append (xs ys : List UInt8) : u8s (xs ++ ys) = u8s xs ++ u8s ys := List.map_append ..
theorem u8s_one (xs : List UInt8) : ∀ u ∈ u8s xs, u.oneCell' = true := by
  intro u hu
  obtain ⟨b, _, rfl⟩ := List.mem_map.1 hu
  rfl
theorem u8s_str (s : ByteArray) : Lib.strCells s = u8s s.data.toList := rfl

/-- The value is a slice of bytes of the call's own (blocks from base on) that holds xs. -/
def Byt (w : World) (base : Nat) (v : Value) (xs : List UInt8) : Prop := w.ownsRow base 5 1 v xs.length (u8s xs)

theorem info5 : (Tryd.prog.info? 5).map (fun i => (i.zero, i.size, i.bytes)) = some (some (.int .u8 0), 1, 1) := by kernel_rfl

section
variable {w w' : World} {base : Nat} {v : Value} {xs : List UInt8} {S : Nat → Prop}
theorem own_keep {e size n : Nat} {cs : List Value} (h : w.ownsRow base e size v n cs) (hm : Mod S w w') (hs : ∀ k, v.ownBlock = some k → ¬ S k) : w'.ownsRow base e size v n cs := by
  obtain ⟨h1, h2⟩ := h
  refine ⟨h1, ?_⟩
  rcases h2 with h2 | ⟨g, cap, cur, rfl, hb, hg, r⟩
  · exact .inl h2
  · have hlt : g < w.heap.size := (Array.getElem?_eq_some_iff.1 hg).1
    exact .inr ⟨g, cap, cur, rfl, hb, (hm.block g hlt (hs g rfl)).trans hg, r⟩
theorem Byt.nil (w : World) (base : Nat) : Byt w base (.slice none 0 0) [] := ⟨by simp [u8s], .inl ⟨rfl, rfl⟩⟩
theorem Byt.keep (h : Byt w base v xs) (hm : Mod S w w') (hs : ∀ k, base ≤ k → v.ownBlock = some k → ¬ S k) : Byt w' base v xs :=
  own_keep h hm fun k hk => hs k (h.lt k hk).1 hk
theorem Byt.then (h : Byt w base v xs) (hm : Mod Nowhere w w') : Byt w' base v xs := own_keep h hm fun _ _ hs => hs
theorem Byt.alloc (h : Byt w base v xs) (o : Obj) : Byt (w.alloc o) base v xs := h.then ((Mod.refl _ _).alloc o)
theorem Byt.drew (h : Byt w base v xs) : Byt w.drew base v xs := h
theorem Byt.lt (h : Byt w base v xs) : ∀ k, v.ownBlock = some k → base ≤ k ∧ k < w.heap.size := World.ownsRow.lt h
theorem Byt.mono {base' : Nat} (h : Byt w base v xs) (hb : base' ≤ base) : Byt w base' v xs := by
  obtain ⟨h1, h2⟩ := h
  refine ⟨h1, ?_⟩
  rcases h2 with h2 | ⟨g, cap, cur, hv, hg, r⟩
  · exact .inl h2
  · exact .inr ⟨g, cap, cur, hv, by omega, r⟩
theorem Byt.slice (h : Byt w base v xs) : ∃ A c, v = .slice A xs.length c ∧ xs.length ≤ c := by
  rcases h.2 with ⟨rfl, h0⟩ | ⟨g, cap, cur, rfl, _, _, hc, _⟩
  · exact ⟨none, 0, by rw [h0], by omega⟩
  · exact ⟨_, cap, rfl, hc⟩
end

end Go.Proofs.YtkpiioiahdcpjaaDoor
