/- The trie in memory: exports, nodes, edges. -/
import Derived.Test.YtkpiioiahdcpjaaDoorU
namespace Go.Proofs.YtkpiioiahdcpjaaDoor
open Go.RowKit

/-- An export. -/
structure Exp where
  name : ByteArray
  flags : Nat
  address : Nat
  other : Nat
  imp : ByteArray
  deriving Inhabited

def Exp.cells (e : Exp) : List Value := [.string e.name, .int .u64 e.flags, .int .u64 e.address, .int .u64 e.other, .string e.imp]

/-- The export e lies at block b from cell o on. -/
def ExpAt (w : World) (b o : Nat) (e : Exp) : Prop :=
  w.cell? ⟨b, o, none⟩ = some (.string e.name) ∧ w.cell? ⟨b, o + 1, none⟩ = some (.int .u64 e.flags) ∧ w.cell? ⟨b, o + 2, none⟩ = some (.int .u64 e.address) ∧
  w.cell? ⟨b, o + 3, none⟩ = some (.int .u64 e.other) ∧ w.cell? ⟨b, o + 4, none⟩ = some (.string e.imp)

theorem ExpAt.keep {w w' : World} {b o : Nat} {e : Exp} {S : Nat → Prop} (h : ExpAt w b o e) (hm : Mod S w w') (hs : ¬ S b) : ExpAt w' b o e :=
  ⟨hm.keeps h.1 hs, hm.keeps h.2.1 hs, hm.keeps h.2.2.1 hs, hm.keeps h.2.2.2.1 hs, hm.keeps h.2.2.2.2 hs⟩
theorem ExpAt.lt {w : World} {b o : Nat} {e : Exp} (h : ExpAt w b o e) : b < w.heap.size := World.block_lt_of_cell? w _ h.1

/-- What a node tells of its export. -/
def infoB (e : Exp) : List UInt8 :=
  uleb e.flags ++ if e.flags &&& 8 ≠ 0 then uleb e.other ++ e.imp.data.toList ++ [0] else if e.flags &&& 16 ≠ 0 then uleb e.address ++ uleb e.other else uleb e.address


theorem u8_ofNat (n : Nat) (h : n ≤ 255) : (n : Int) = ((UInt8.ofNat n).toNat : Int) := by
  rw [UInt8.toNat_ofNat']; omega

/-- An edge's label and the place of the node that it leads to, as bytes. -/
def edgeB (e : ByteArray × Nat) : List UInt8 := e.1.data.toList ++ [0] ++ uleb e.2
/-- A node by itself, as bytes. -/
def nodeB (info : List UInt8) (es : List (ByteArray × Nat)) : List UInt8 := uleb info.length ++ info ++ [UInt8.ofNat es.length] ++ es.flatMap edgeB

theorem edgesB_len : ∀ es : List (ByteArray × Nat), (∀ l p, (l, p) ∈ es → l.size ≤ 60 ∧ (uleb p).length ≤ 16) → (es.flatMap edgeB).length ≤ 77 * es.length
  | [], _ => by simp
  | (l, p) :: r, h => by
    have h1 := h l p (by simp)
    have h2 := edgesB_len r (fun l' p' hm => h l' p' (by simp [hm]))
    have h3 : l.data.toList.length = l.size := rfl
    simp only [List.flatMap_cons, List.length_append, edgeB, List.length_cons, List.length_nil] at h2 ⊢
    omega
/-- The slice's row is none of the blocks that were there at first, nor g. -/
def OOk (w0 : World) (g : Nat) (v : Value) : Prop := ∀ x, v.ownBlock = some x → w0.heap.size ≤ x ∧ x ≠ g
theorem OOk.app {w0 : World} {g N : Nat} {v v' : Value} (h : OOk w0 g v) (hat : v'.ownBlock = v.ownBlock ∨ v'.ownBlock = some N) (h1 : w0.heap.size ≤ N) (h2 : g < N) : OOk w0 g v' := fun x hx => by
  rcases hat with e | e
  · exact h x (e ▸ hx)
  · rw [e] at hx
    injection hx with hx
    omega

/-- Edges in memory: label, block of the node below, that node's place. -/
def EdgesAt (w : World) (A : Option Addr) (E : List (ByteArray × Nat × Nat)) : Prop :=
  ∀ (i : Nat) (lab : ByteArray) (id pos : Nat), E[i]? = some (lab, id, pos) →
    ∃ a, A = some ⟨a, 0, none⟩ ∧ w.cell? ⟨a, i * 2, none⟩ = some (.string lab) ∧ w.cell? ⟨a, i * 2 + 1, none⟩ = some (.pointer (some ⟨id, 0, none⟩)) ∧ w.cell? ⟨id, 2, none⟩ = some (.int .u64 pos)
theorem EdgesAt.then {w w' : World} {A : Option Addr} {E : List (ByteArray × Nat × Nat)} (h : EdgesAt w A E) (hm : Mod Nowhere w w') : EdgesAt w' A E := fun i lab id pos hi => by
  obtain ⟨a, h1, h2, h3, h4⟩ := h i lab id pos hi
  exact ⟨a, h1, hm.keeps h2 (fun h => h), hm.keeps h3 (fun h => h), hm.keeps h4 (fun h => h)⟩

end Go.Proofs.YtkpiioiahdcpjaaDoor
