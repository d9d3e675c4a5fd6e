/- What the parser finds, plain. -/
import Derived.Test.YtkpiioiahdcpjaaDoorH
namespace Go.Proofs.YtkpiioiahdcpjaaDoor
open Go.RowKit

theorem Tr.edges_app : ∀ a b : Tr, (a.app b).edges = a.edges ++ b.edges
  | .nil, b => rfl
  | .edge .., b => by rw [Tr.app, Tr.edges, Tr.edges, Tr.edges_app]; rfl
theorem drop_len {data xs ys : List UInt8} {i N : Nat} (hN : data.length ≤ N) (h : data.drop i = xs ++ ys) (h0 : 0 < xs.length) : i + xs.length ≤ N := by
  have := congrArg List.length h
  rw [List.length_drop, List.length_append] at this
  omega
/-- Where exports begin, and their texts: below a row of edges. -/
def pts (p : Nat → Nat) : List UInt8 → Tr → List (Nat × List UInt8)
  | _, .nil => []
  | path, .edge lab id here _ _ kids rest => ((if here.isSome then [(p id + 1, path ++ lab.data.toList)] else []) ++ pts p (path ++ lab.data.toList) kids) ++ pts p path rest
def ptsN (p : Nat → Nat) (path : List UInt8) (n : Nd) : List (Nat × List UInt8) := (if n.here.isSome then [(p n.id + 1, path)] else []) ++ pts p path n.kids
theorem pts_edge (p : Nat → Nat) (path : List UInt8) (lab : ByteArray) (id : Nat) (here : Option Nat) (es : Value) (pos : Nat) (kids rest : Tr) :
    pts p path (.edge lab id here es pos kids rest) = ptsN p (path ++ lab.data.toList) ⟨id, here, es, kids⟩ ++ pts p path rest := rfl
theorem pts_app (p : Nat → Nat) (path : List UInt8) : ∀ a b : Tr, pts p path (a.app b) = pts p path a ++ pts p path b
  | .nil, b => rfl
  | .edge .., b => by rw [Tr.app, pts_edge, pts_edge, pts_app p path _ b, List.append_assoc]
theorem pts_length (p : Nat → Nat) : ∀ (path : List UInt8) (t : Tr), (pts p path t).length ≤ t.tot
  | _, .nil => by simp [pts]
  | path, .edge lab id here es pos kids rest => by
    have h1 := pts_length p (path ++ lab.data.toList) kids
    have h2 := pts_length p path rest
    rw [pts_edge]
    unfold ptsN
    simp only [List.length_append, Tr.tot]
    split <;> simp <;> omega
theorem ptsN_length (p : Nat → Nat) (path : List UInt8) (n : Nd) : (ptsN p path n).length ≤ n.kids.tot + 1 := by
  have h1 := pts_length p path n.kids
  unfold ptsN
  simp only [List.length_append]
  split <;> simp <;> omega

/-- Each node's bytes lie at its place. -/
structure Laid (L : List Exp) (p : Nat → Nat) (data : List UInt8) (ns : List Nd) : Prop where
  at' : ∀ n ∈ ns, ∃ rest, data.drop (p n.id) = ndB L p n ++ rest
  info : ∀ n ∈ ns, (infoN L n.here).length ≤ 100
  some' : ∀ n ∈ ns, n.here.isSome = true → 0 < (infoN L n.here).length
  labs : ∀ n ∈ ns, ∀ e ∈ n.kids.edges, Lab e.1.data.toList
  num : ∀ n ∈ ns, n.kids.edges.length ≤ 200
  pos : ∀ x, p x ≤ 2000000
theorem Laid.sub {L : List Exp} {p : Nat → Nat} {data : List UInt8} {ns ms : List Nd} (h : Laid L p data ns) (hs : ∀ n ∈ ms, n ∈ ns) : Laid L p data ms :=
  ⟨fun n hn => h.at' n (hs n hn), fun n hn => h.info n (hs n hn), fun n hn => h.some' n (hs n hn), fun n hn => h.labs n (hs n hn), fun n hn => h.num n (hs n hn), h.pos⟩

/-- What the edges of a row are, as bytes. -/
def rowB (p : Nat → Nat) (t : Tr) : List UInt8 := (t.edges.map fun e => (e.1, p e.2)).flatMap edgeB
theorem rowB_edge (p : Nat → Nat) (lab : ByteArray) (id : Nat) (here : Option Nat) (es : Value) (pos : Nat) (kids rest : Tr) : rowB p (.edge lab id here es pos kids rest) = lab.data.toList ++ (0 :: (uleb (p id) ++ rowB p rest)) := by
  simp [rowB, Tr.edges, edgeB]

/-- What the parser leaves. -/
def ParsePost (w : World) (base r d c g o : Nat) (data path : List UInt8) (v : Value) (l : List (Nat × Value × List UInt8)) (news : List (Nat × List UInt8)) (e : Ending) (w' : World) : Prop :=
  e = .returned .nilIface ∧ ∃ i' v' l', PS w' base r d c g o data path i' v' (l ++ l') ∧ l'.map (fun x => (x.1, x.2.2)) = news ∧ Mod (fun x => x = r ∨ x = g ∨ x = o ∨ base ≤ x) w w'

theorem info84 : (Tryd.prog.info? 84).map (fun i => (i.zero, i.size, i.bytes)) = some (some (.agg #[.int .u64 0, .slice none 0 0]), 2, 32) := by kernel_rfl

theorem QueAt.pre {w : World} {base b off c : Nat} {xs ys : List Value} (h : QueAt w base b off c (xs ++ ys)) : QueAt w base b off c xs :=
  ⟨by have := h.le; rw [List.length_append] at this; omega, h.max, h.new, h.lt, fun j u hu => h.cell j u (by rw [List.getElem?_append_left (List.getElem?_eq_some_iff.1 hu).1]; exact hu), h.there⟩

section
variable {w : World} {ops : Array Oper} {rest : List Oper} {op : Oper} {a : Act} {Q : Exit → Act → World → Prop}
theorem ev_buf (hgd : op.guard = none) (s x : Operand) (ho : op.op = .call { callee := .builtin .append, args := #[s, x], argTypes := #[29, 29] })
    (g C : Nat) (xs ys : List UInt8) (hs : a.eval s = .slice (some ⟨g, 0, none⟩) xs.length C) (hq : QueAt w 0 g 0 C (u8s xs)) (hx : Src w 1 (a.eval x) ys.length (u8s ys)) (h0 : 0 < ys.length) (hroom : xs.length + ys.length ≤ C)
    (h : ∀ w', QueAt w' 0 g 0 C (u8s (xs ++ ys)) → Mod (fun k => k = g) w w' → wpList Tryd.prog ops Q rest (a.put op.dst (.slice (some ⟨g, 0, none⟩) (xs ++ ys).length C)) w') :
    wpList Tryd.prog ops Q (op :: rest) a w :=
  wpList_plain hgd fun _ hK => by
    have lx : (u8s xs).length = xs.length := by simp [u8s]
    have ly : (u8s ys).length = ys.length := by simp [u8s]
    obtain ⟨w', hr, h2, h3⟩ := run_append_buf (P := Tryd.prog) w 29 op.type 5 g C 1 (.int .u8 0) Tryd.underlying29 info5 (u8s xs) (u8s ys) hq (a.eval x) (by rw [ly]; exact hx) (u8s_one ys) (by omega) (by omega)
    rw [lx, ly] at hr
    unfold Oper.wp execOp
    simp only [ho, resolve, invoke, builtin, Sem.run_bind, Sem.run_pure, Result.andThen_ok, List.map_toArray, List.map_cons, List.map_nil, hs, hr]
    rw [← List.length_append]
    exact hK _ _ (h w' (by rw [u8s_append]; exact h2) h3)
end

end Go.Proofs.YtkpiioiahdcpjaaDoor
