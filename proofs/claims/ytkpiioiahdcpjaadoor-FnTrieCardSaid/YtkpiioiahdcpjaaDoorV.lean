/- append onto a row of the call's own, of any element type, at one operation of a walk. -/
import Derived.Test.YtkpiioiahdcpjaaDoorB
namespace Go.Proofs.YtkpiioiahdcpjaaDoor
open Go.RowKit

section
variable {w : World} {ops : Array Oper} {rest : List Oper} {o : Oper} {a : Act} {Q : Exit → Act → World → Prop} {K : Act → World → Prop} {E : Prop}

/-- append(v, x...) at one operation: slices of type t, elements of type e. -/
theorem wp_appx (t e : TypeId) (z : Value) (size bytes : Nat) (ht : Tryd.prog.underlying t = some (.slice e))
    (hinfo : (Tryd.prog.info? e).map (fun i => (i.zero, i.size, i.bytes)) = some (some z, size, bytes)) (hzs : z.cells.size = size) (hsz : 0 < size) (s x : Operand) (ho : o.op = .call { callee := .builtin .append, args := #[s, x], argTypes := #[t, t] })
    (base : Nat) (v : Value) (n : Nat) (xs : List Value) (hs : a.eval s = v) (hown : w.ownsRow base e size v n xs) (m : Nat) (ys : List Value) (hx : Src w size (a.eval x) m ys) (h1 : ∀ u ∈ ys, u.oneCell' = true)
    (hlen : (n + m) * bytes ≤ 140737488355328) (hb0 : 0 < bytes) (hbase : base ≤ w.heap.size)
    (h : ∀ v' w', w'.ownsRow base e size v' (n + m) (xs ++ ys) → Mod (fun k => v.ownBlock = some k) w w' → (v'.ownBlock = v.ownBlock ∨ v'.ownBlock = some w.heap.size) → K (a.put o.dst v') w') :
    Oper.wp Tryd.prog o a w K Q := by
  have hnm : n + m ≤ (n + m) * bytes := Nat.le_mul_of_pos_right _ hb0
  obtain ⟨v', w', hr, h2, h3, h5⟩ := run_append_src (P := Tryd.prog) w base t o.type e z size bytes ht hinfo hzs hsz v n xs hown _ _ _ hx h1 (by simp only [maxLen]; omega) hlen hbase
  unfold Oper.wp execOp
  simp only [ho, resolve, invoke, builtin, Sem.run_bind, Sem.run_pure, Result.andThen_ok, List.map_toArray, List.map_cons, List.map_nil, hs, hr]
  exact h v' w' h2 h3 h5

theorem ev_appx (t e : TypeId) (z : Value) (size bytes : Nat) (ht : Tryd.prog.underlying t = some (.slice e))
    (hinfo : (Tryd.prog.info? e).map (fun i => (i.zero, i.size, i.bytes)) = some (some z, size, bytes)) (hzs : z.cells.size = size) (hsz : 0 < size) (hgd : o.guard = none) (s x : Operand) (ho : o.op = .call { callee := .builtin .append, args := #[s, x], argTypes := #[t, t] })
    (base : Nat) (v : Value) (n : Nat) (xs : List Value) (hs : a.eval s = v) (hown : w.ownsRow base e size v n xs) (m : Nat) (ys : List Value) (hx : Src w size (a.eval x) m ys) (h1 : ∀ u ∈ ys, u.oneCell' = true)
    (hlen : (n + m) * bytes ≤ 140737488355328) (hb0 : 0 < bytes) (hbase : base ≤ w.heap.size)
    (h : ∀ v' w', w'.ownsRow base e size v' (n + m) (xs ++ ys) → Mod (fun k => v.ownBlock = some k) w w' → (v'.ownBlock = v.ownBlock ∨ v'.ownBlock = some w.heap.size) → wpList Tryd.prog ops Q rest (a.put o.dst v') w') :
    wpList Tryd.prog ops Q (o :: rest) a w :=
  wpList_plain hgd fun _ hK => wp_appx t e z size bytes ht hinfo hzs hsz s x ho base v n xs hs hown m ys hx h1 hlen hb0 hbase fun v' w' h1 h2 h3 => hK _ _ (h v' w' h1 h2 h3)

theorem st_appx (t e : TypeId) (z : Value) (size bytes : Nat) (ht : Tryd.prog.underlying t = some (.slice e))
    (hinfo : (Tryd.prog.info? e).map (fun i => (i.zero, i.size, i.bytes)) = some (some z, size, bytes)) (hzs : z.cells.size = size) (hsz : 0 < size) (hgd : o.guard = none) (s x : Operand) (ho : o.op = .call { callee := .builtin .append, args := #[s, x], argTypes := #[t, t] })
    (base : Nat) (v : Value) (n : Nat) (xs : List Value) (hs : a.eval s = v) (hown : w.ownsRow base e size v n xs) (m : Nat) (ys : List Value) (hx : Src w size (a.eval x) m ys) (h1 : ∀ u ∈ ys, u.oneCell' = true)
    (hlen : (n + m) * bytes ≤ 140737488355328) (hb0 : 0 < bytes) (hbase : base ≤ w.heap.size)
    (h : ∀ v' w', w'.ownsRow base e size v' (n + m) (xs ++ ys) → Mod (fun k => v.ownBlock = some k) w w' → (v'.ownBlock = v.ownBlock ∨ v'.ownBlock = some w.heap.size) → K (a.put o.dst v') w') :
    if Region.wanted o (yielded ops a.tmps) = true then Oper.wp Tryd.prog o a w K Q else E := by
  rw [if_pos (wanted_plain hgd)]
  exact wp_appx t e z size bytes ht hinfo hzs hsz s x ho base v n xs hs hown m ys hx h1 hlen hb0 hbase h
end

theorem info52 : (Tryd.prog.info? 52).map (fun i => (i.zero, i.size, i.bytes)) = some (some (.agg #[.string default, .pointer none]), 2, 24) := by kernel_rfl

end Go.Proofs.YtkpiioiahdcpjaaDoor
