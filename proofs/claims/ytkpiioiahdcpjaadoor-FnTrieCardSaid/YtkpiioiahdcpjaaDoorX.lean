/- The trie's shape, what 'add' does to it (plain), and the trie in memory. -/
import Derived.Test.YtkpiioiahdcpjaaDoorT
namespace Go.Proofs.YtkpiioiahdcpjaaDoor
open Go.RowKit

/-- How far two texts agree. -/
def cpl : List UInt8 → List UInt8 → Nat
  | x :: a, y :: b => if x = y then cpl a b + 1 else 0
  | _, _ => 0
theorem cpl_eq : ∀ (a b : List UInt8) (n : Nat), n ≤ a.length → n ≤ b.length → a.take n = b.take n → (n = a.length ∨ n = b.length ∨ a[n]? ≠ b[n]?) → cpl a b = n
  | [], b, n, h1, _, _, _ => by simp at h1; simp [cpl, h1]
  | x :: a, [], n, _, h2, _, _ => by simp at h2; simp [cpl, h2]
  | x :: a, y :: b, 0, _, _, _, h4 => by
    simp at h4
    simp [cpl, h4]
  | x :: a, y :: b, n + 1, h1, h2, h3, h4 => by
    simp only [List.take_succ_cons, List.cons.injEq] at h3
    simp only [cpl, h3.1, if_true]
    rw [cpl_eq a b n (by simpa using h1) (by simpa using h2) h3.2 (by simpa using h4)]

theorem cpl_le : ∀ a b : List UInt8, cpl a b ≤ b.length
  | [], b => by simp [cpl]
  | x :: a, [] => by simp [cpl]
  | x :: a, y :: b => by
    simp only [cpl]
    split
    · have := cpl_le a b
      simp; omega
    · simp

/-- The edges below a node: label, what is here, the edges further below; then the next edge. -/
inductive Sh where
  | nil : Sh
  | edge (lab : List UInt8) (here : Option Nat) (kids rest : Sh) : Sh

/-- How many edges stand in a row here. -/
def Sh.edges : Sh → Nat
  | .nil => 0
  | .edge _ _ _ rest => rest.edges + 1

/-- 'add' on shapes: below a node whose export is h and whose edges are kids. -/
def addEdges (rest : List UInt8) (j : Nat) : Sh → Sh
  | .nil => .edge rest (some j) .nil .nil
  | .edge lab h kids tl =>
    if hn : cpl lab rest = 0 then .edge lab h kids (addEdges rest j tl)
    else if cpl lab rest < lab.length then
      if rest.drop (cpl lab rest) = [] then .edge (lab.take (cpl lab rest)) (some j) (.edge (lab.drop (cpl lab rest)) h kids .nil) tl
      else .edge (lab.take (cpl lab rest)) none (addEdges (rest.drop (cpl lab rest)) j (.edge (lab.drop (cpl lab rest)) h kids .nil)) tl
    else if rest.drop (cpl lab rest) = [] then .edge lab (some j) kids tl
    else .edge lab h (addEdges (rest.drop (cpl lab rest)) j kids) tl
termination_by sh => (rest.length, sh.edges)
decreasing_by
  · simp [Prod.lex_def, Sh.edges]
  · have := cpl_le lab rest
    simp only [Prod.lex_def, List.length_drop]; omega
  · have := cpl_le lab rest
    simp only [Prod.lex_def, List.length_drop]; omega
def addNode (rest : List UInt8) (j : Nat) (h : Option Nat) (kids : Sh) : Option Nat × Sh := if rest = [] then (some j, kids) else (h, addEdges rest j kids)

theorem addEdges_skip {rest lab : List UInt8} {j : Nat} {h : Option Nat} {kids tl : Sh} (hn : cpl lab rest = 0) : addEdges rest j (.edge lab h kids tl) = .edge lab h kids (addEdges rest j tl) := by
  rw [addEdges, dif_pos hn]
theorem addEdges_split {rest lab : List UInt8} {j n : Nat} {h : Option Nat} {kids tl : Sh} (hc : cpl lab rest = n) (hn : n ≠ 0) (hl : n < lab.length) :
    addEdges rest j (.edge lab h kids tl) = .edge (lab.take n) (addNode (rest.drop n) j none (.edge (lab.drop n) h kids .nil)).1 (addNode (rest.drop n) j none (.edge (lab.drop n) h kids .nil)).2 tl := by
  subst hc
  rw [addEdges, dif_neg hn, if_pos hl]
  unfold addNode
  split <;> rfl
theorem addEdges_down {rest lab : List UInt8} {j n : Nat} {h : Option Nat} {kids tl : Sh} (hc : cpl lab rest = n) (hn : n ≠ 0) (hl : ¬ n < lab.length) :
    addEdges rest j (.edge lab h kids tl) = .edge lab (addNode (rest.drop n) j h kids).1 (addNode (rest.drop n) j h kids).2 tl := by
  subst hc
  rw [addEdges, dif_neg hn, if_neg hl]
  unfold addNode
  split <;> rfl

/-- The edges below a node, in memory: beside the shape each node's block, its slice of edges, its place. -/
inductive Tr where
  | nil : Tr
  | edge (lab : ByteArray) (id : Nat) (here : Option Nat) (es : Value) (pos : Nat) (kids rest : Tr) : Tr

namespace Tr
def num : Tr → Nat
  | nil => 0
  | edge _ _ _ _ _ _ rest => rest.num + 1
def cells : Tr → List Value
  | nil => []
  | edge lab id _ _ _ _ rest => .string lab :: .pointer (some ⟨id, 0, none⟩) :: rest.cells
def foot : Tr → List Nat
  | nil => []
  | edge _ id _ es _ kids rest => id :: (es.ownBlock.toList ++ kids.foot) ++ rest.foot
def sh : Tr → Sh
  | nil => .nil
  | edge lab _ here _ _ kids rest => .edge lab.data.toList here kids.sh rest.sh
def app : Tr → Tr → Tr
  | nil, t => t
  | edge lab id here es pos kids rest, t => edge lab id here es pos kids (rest.app t)
theorem app_nil : ∀ t : Tr, t.app nil = t
  | nil => rfl
  | edge .. => by rw [app, app_nil]
theorem app_assoc : ∀ a b c : Tr, (a.app b).app c = a.app (b.app c)
  | nil, _, _ => rfl
  | edge .., b, c => by rw [app, app, app, app_assoc]
theorem num_app : ∀ a b : Tr, (a.app b).num = a.num + b.num
  | nil, b => by simp [app, num]
  | edge .., b => by rw [app, num, num, num_app]; omega
theorem cells_app : ∀ a b : Tr, (a.app b).cells = a.cells ++ b.cells
  | nil, b => rfl
  | edge .., b => by rw [app, cells, cells, cells_app]; rfl
theorem cells_length : ∀ a : Tr, a.cells.length = a.num * 2
  | nil => rfl
  | edge .. => by rw [cells, num, List.length_cons, List.length_cons, cells_length]; omega
theorem foot_app : ∀ a b : Tr, (a.app b).foot = a.foot ++ b.foot
  | nil, b => rfl
  | edge .., b => by rw [app, foot, foot, foot_app]; simp
end Tr

/-- A node's pointer to its export (the exports begin at block lb, cell lo). -/
def hereV (lb lo : Nat) : Option Nat → Value
  | none => .pointer none
  | some j => .pointer (some ⟨lb, lo + j * 5, none⟩)

/-- A node in memory. -/
def KnotAt (w : World) (base lb lo id : Nat) (here : Option Nat) (es : Value) (pos : Nat) (kids : Tr) : Prop :=
  Blk w id 50 #[hereV lb lo here, es, .int .u64 pos] ∧ w.ownsRow base 52 2 es kids.num kids.cells ∧ base ≤ id
def knotFoot (id : Nat) (es : Value) (kids : Tr) : List Nat := id :: (es.ownBlock.toList ++ kids.foot)

def Tr.At (w : World) (base lb lo : Nat) : Tr → Prop
  | .nil => True
  | .edge _ id here es pos kids rest => KnotAt w base lb lo id here es pos kids ∧ kids.At w base lb lo ∧ rest.At w base lb lo

section
variable {w w' : World} {base lb lo : Nat} {S : Nat → Prop}
theorem KnotAt.keep {id pos : Nat} {here : Option Nat} {es : Value} {kids : Tr} (h : KnotAt w base lb lo id here es pos kids) (hm : Mod S w w') (h1 : ¬ S id) (h2 : ∀ k, es.ownBlock = some k → ¬ S k) : KnotAt w' base lb lo id here es pos kids :=
  ⟨h.1.keep hm h1, own_keep h.2.1 hm h2, h.2.2⟩
theorem Tr.At.keep : ∀ {t : Tr}, t.At w base lb lo → Mod S w w' → (∀ x ∈ t.foot, ¬ S x) → t.At w' base lb lo
  | .nil, _, _, _ => trivial
  | .edge lab id here es pos kids rest, h, hm, hs => by
    obtain ⟨h1, h2, h3⟩ := h
    simp only [Tr.foot, List.cons_append, List.mem_cons, List.mem_append] at hs
    exact ⟨h1.keep hm (hs _ (.inl rfl)) (fun k hk => hs k (.inr (.inl (.inl (by simp [hk]))))), h2.keep hm (fun x hx => hs x (.inr (.inl (.inr hx)))), h3.keep hm (fun x hx => hs x (.inr (.inr hx)))⟩
theorem Tr.At.then {t : Tr} (h : t.At w base lb lo) (hm : Mod Nowhere w w') : t.At w' base lb lo := h.keep hm fun _ _ hs => hs
theorem Tr.At.app : ∀ {a b : Tr}, a.At w base lb lo → b.At w base lb lo → (a.app b).At w base lb lo
  | .nil, _, _, hb => hb
  | .edge .., _, ha, hb => ⟨ha.1, ha.2.1, ha.2.2.app hb⟩
theorem Tr.At.parts : ∀ {a b : Tr}, (a.app b).At w base lb lo → a.At w base lb lo ∧ b.At w base lb lo
  | .nil, _, h => ⟨trivial, h⟩
  | .edge .., _, h => ⟨⟨h.1, h.2.1, h.2.2.parts.1⟩, h.2.2.parts.2⟩
theorem Tr.At.foot_lt : ∀ {t : Tr}, t.At w base lb lo → ∀ x ∈ t.foot, base ≤ x ∧ x < w.heap.size
  | .nil, _, _, hx => by simp [Tr.foot] at hx
  | .edge lab id here es pos kids rest, h, x, hx => by
    obtain ⟨h1, h2, h3⟩ := h
    simp only [Tr.foot, List.cons_append, List.mem_cons, List.mem_append] at hx
    rcases hx with rfl | (hx | hx) | hx
    · exact ⟨h1.2.2, h1.1.lt⟩
    · have : es.ownBlock = some x := by cases he : es.ownBlock <;> simp_all
      exact World.ownsRow.lt h1.2.1 x this
    · exact h2.foot_lt x hx
    · exact h3.foot_lt x hx
end

end Go.Proofs.YtkpiioiahdcpjaaDoor
