/- The arguments opened: a list of exports, a base; what the listed variable io.EOF holds. -/
import Derived.Test.YtkpiioiahdcpjaaDoorBu
import Derived.Test.YtkpiioiahdcpjaaDoorCards
import Derived.ProofKit
import Derived.LaidMore
import Derived.OpenShut
import Derived.Carry
import Derived.Stop.Joined
import Derived.Deep.Slices
namespace Go.Proofs.YtkpiioiahdcpjaaDoor
open Go.ChangeShapes Go.WideShapes Go.ChangeAt Go.RowKit Go.Deep

theorem ownKnob0 : ownKnob Tryd.prog.godebug = none := by kernel_rfl

section
variable {H : Type} {enc : TypeId × Value → H} {W : World} {base : Nat} {sp : Nat → Bool} {held : Bool}

set_option maxRecDepth 100000 in
theorem iface_of {fuel : Nat} {cs : List Value} {name : String} {d : DataW H} {p : List MemPlace} (h : DataW.trod enc Tryd.prog W base sp held fuel 58 cs = some (.iface name d, p)) : ∃ u v, cs = [.iface u v] := by
  cases fuel with
  | zero => simp [DataW.trod] at h
  | succ n =>
    unfold DataW.trod at h
    rw [Tryd.underlying58] at h
    split at h <;> simp_all

set_option maxRecDepth 100000 in
theorem eof_cell (h : laidMetH Tryd.prog Rows.fnTrieRow.laid W) : ∃ t v, W.cell? ⟨0, 0, none⟩ = some (.iface t v) := by
  rw [MakeChecks.laidMetH_plain _ _ _ (by kernel_rfl)] at h
  obtain ⟨ps, ⟨g, t, cs, fuel, p, q, hg, ht, hv, hd, _, _⟩, _, _⟩ := h
  obtain rfl := Option.some.inj ((show Tryd.prog.globalNamed "io.EOF" = some 0 by kernel_rfl).symm.trans hg)
  obtain rfl := Option.some.inj ((show (Tryd.prog.globals[0]?).map (·.type) = some 58 by kernel_rfl).symm.trans ht)
  obtain ⟨u, v, hcs⟩ := iface_of hd
  refine ⟨u, v, ?_⟩
  have := World.var?_cell hg hv 0
  rw [Array.eq_one_of_toList hcs] at this
  simpa using this

theorem u64_nat {n : Int} (h : (Lit.int .u64 n).wf = true) : ∃ k : Nat, n = k := by
  simp only [Lit.wf, Bool.and_eq_true, decide_eq_true_eq] at h
  refine ⟨n.toNat, ?_⟩
  have := h.1
  simp [IntKind.min, IntKind.signed] at this
  omega

theorem c34 : Tryd.prog.cellsOf 34 = 5 := by kernel_rfl
theorem c9 : Tryd.prog.cellsOf 9 = 1 := by kernel_rfl
theorem c23 : Tryd.prog.cellsOf 23 = 1 := by kernel_rfl

set_option maxRecDepth 100000 in
theorem exp_of {n : Nat} {cs : List Value} {x : DataW H × List MemPlace} (h : DataW.trod enc Tryd.prog W base sp held n 34 cs = some x) : ∃ e : Exp, cs = e.cells := by
  obtain ⟨xs, k, _, _, hl, hxl, hf⟩ := DataW.trod_struct Tryd.underlying34 h
  rw [c34] at hl
  match cs, hl, xs, hxl with
  | [v0, v1, v2, v3, v4], _, [y0, y1, y2, y3, y4], _ =>
    have g0 : DataW.trod enc Tryd.prog W base sp held k 9 (List.take (Tryd.prog.cellsOf 9) [v0, v1, v2, v3, v4]) = some y0 := hf 0 _ rfl
    have g1 : DataW.trod enc Tryd.prog W base sp held k 23 (List.take (Tryd.prog.cellsOf 23) [v1, v2, v3, v4]) = some y1 := hf 1 _ rfl
    have g2 : DataW.trod enc Tryd.prog W base sp held k 23 (List.take (Tryd.prog.cellsOf 23) [v2, v3, v4]) = some y2 := hf 2 _ rfl
    have g3 : DataW.trod enc Tryd.prog W base sp held k 23 (List.take (Tryd.prog.cellsOf 23) [v3, v4]) = some y3 := hf 3 _ rfl
    have g4 : DataW.trod enc Tryd.prog W base sp held k 9 (List.take (Tryd.prog.cellsOf 9) [v4]) = some y4 := hf 4 _ rfl
    simp only [c9, c23, List.take] at g0 g1 g2 g3 g4
    obtain ⟨s0, h0, _, _⟩ := DataW.trod_string Tryd.underlying9 g0
    obtain ⟨n1, h1, _, w1⟩ := DataW.trod_int Tryd.underlying23 g1
    obtain ⟨n2, h2, _, w2⟩ := DataW.trod_int Tryd.underlying23 g2
    obtain ⟨n3, h3, _, w3⟩ := DataW.trod_int Tryd.underlying23 g3
    obtain ⟨s4, h4, _, _⟩ := DataW.trod_string Tryd.underlying9 g4
    simp only [List.cons.injEq, and_true] at h0 h1 h2 h3 h4
    obtain ⟨k1, rfl⟩ := u64_nat w1
    obtain ⟨k2, rfl⟩ := u64_nat w2
    obtain ⟨k3, rfl⟩ := u64_nat w3
    subst h0 h1 h2 h3 h4
    exact ⟨⟨s0, k1, k2, k3, s4⟩, rfl⟩

theorem add_at (lb lo i j : Nat) : ((⟨lb, lo, none⟩ : Addr).add (i * 5)).add j = ⟨lb, lo + i * 5 + j, none⟩ := by
  unfold Addr.add
  split <;> split <;> simp_all

/-- The list's slice opened. -/
theorem list_of {v : Value} {d : DataW H} {ps : List MemPlace} (hval : ∃ a len cap, v = .slice a len cap) (h : DataW.Trod enc Tryd.prog W 0 (fun _ => true) true 22 v d ps) : ∃ lb lo L, ListAt W v lb lo L := by
  obtain ⟨a0, len0, cap0, rfl⟩ := hval
  obtain ⟨fuel, hf⟩ := h
  rcases open_slice Tryd.underlying22 hf with ⟨hcs, _⟩ | ⟨a, len, cap, m, n, D, Pl, hcs, _, hl, _, hm, _, hx⟩
  · simp [Value.cells] at hcs
    obtain ⟨rfl, rfl, rfl⟩ := hcs
    exact ⟨0, 0, [], ⟨⟨none, 0, rfl, fun h => by simp at h⟩, fun i e hi => by simp at hi⟩⟩
  · simp [Value.cells] at hcs
    obtain ⟨rfl, rfl, rfl⟩ := hcs
    simp only [if_true] at hm
    subst hm
    by_cases h0 : len0 = 0
    · subst h0
      exact ⟨0, 0, [], ⟨⟨some a, m, rfl, fun h => by simp at h⟩, fun i e hi => by simp at hi⟩⟩
    · have each : ∀ i, i < len0 → ∃ e : Exp, ∀ j v, e.cells[j]? = some v → W.cell? ((a.add (i * 5)).add j) = some v := by
        intro i hi
        obtain ⟨cs', h1, h2⟩ := hx i (by omega)
        rw [c34] at h1
        obtain ⟨_, hlen, hcell⟩ := World.cells?_some h1
        obtain ⟨e, rfl⟩ := exp_of h2
        refine ⟨e, fun j v hj => ?_⟩
        have hj5 : j < 5 := (List.getElem?_eq_some_iff.1 hj).1
        rw [hcell j hj5]
        exact hj
      obtain ⟨E, hE⟩ := choose_lt (α := Exp) (p := fun i e => ∀ j v, e.cells[j]? = some v → W.cell? ((a.add (i * 5)).add j) = some v) each
      obtain ⟨lb, lo, spot⟩ := a
      have hspot : spot = none := by
        have := hE 0 (by omega) 0 _ rfl
        simpa [Addr.add] using World.cell?_spot this
      subst hspot
      refine ⟨lb, lo, (List.range len0).map E, ⟨⟨some ⟨lb, lo, none⟩, m, by simp, fun _ => rfl⟩, fun i e hi => ?_⟩⟩
      have hi' : i < len0 := by have := (List.getElem?_eq_some_iff.1 hi).1; simpa using this
      rw [List.getElem?_map, List.getElem?_range hi', Option.map_some, Option.some.injEq] at hi
      have hc := hE i hi'
      rw [hi] at hc
      simp only [add_at] at hc
      exact ⟨hc 0 _ rfl, hc 1 _ rfl, hc 2 _ rfl, hc 3 _ rfl, hc 4 _ rfl⟩
end
end Go.Proofs.YtkpiioiahdcpjaaDoor
