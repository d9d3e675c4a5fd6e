/- works: the trie of one export comes back. -/
import Derived.Test.YtkpiioiahdcpjaaDoorBq
import Derived.Test.YtkpiioiahdcpjaaDoorBs
namespace Go.Proofs.YtkpiioiahdcpjaaDoor
open Go.RowKit Go.Sort

def e0 : Exp := ⟨⟨#[95, 97]⟩, 0, 1, 0, default⟩
theorem good_e0 : GoodL [e0] := by
  refine ⟨by decide, by simp [texts], fun e he => ?_⟩
  simp only [List.mem_singleton] at he
  subst he
  exact ⟨⟨by decide, by decide⟩, by decide, by decide, by decide, by decide, by decide, fun h => absurd rfl h, fun _ => ⟨by rw [Lib.toList_data]; rfl, fun _ => rfl, by decide, by decide⟩⟩

theorem TrieOut.mod {w w' : World} {L : List Exp} {en : Ending} (h : TrieOut w L en w') : Mod Nowhere w w' := by
  obtain ⟨v, root, es, kids, p, all, _, _, _, _, _, _, _, _, _, _, hm⟩ := h
  exact hm

set_option maxHeartbeats 1600000 in
set_option maxRecDepth 100000 in
theorem works_any (w : World) (heof : ∃ t v, w.cell? ⟨0, 0, none⟩ = some (.iface t v)) : Calls Tryd.prog 6 #[] w fun en w' => en = .returned (.bool true) ∧ Mod Nowhere w w' := by
  have HE := Lib.hid heof
  clear heof
  have hx : ExpsAt (w.alloc (.cells #[.string ⟨#[95, 97]⟩, .int .u64 0, .int .u64 1, .int .u64 0, .string default] 34)) w.heap.size 0 [e0] := by
    have hb := Blk.new w 34 #[.string ⟨#[95, 97]⟩, .int .u64 0, .int .u64 1, .int .u64 0, .string default]
    intro i e hi
    cases i with
    | zero =>
      simp only [List.getElem?_cons_zero, Option.some.injEq] at hi
      subst hi
      exact ⟨hb.cell 0, hb.cell 1, hb.cell 2, hb.cell 3, hb.cell 4⟩
    | succ i => simp at hi
  have hm := (Mod.refl Nowhere w).alloc (.cells #[.string ⟨#[95, 97]⟩, .int .u64 0, .int .u64 1, .int .u64 0, .string default] 34)
  have HX := Lib.hid hx
  have HM := Lib.hid hm
  clear hx hm
  go_enter Tryd.func6, Tryd.ntmps6
  go_wp2_with fail
  refine (trie_out _ w.heap.size 0 1 [e0] HX.out good_e0.namesOk).mono ?_
  intro en w1 ht
  have HM1 := Lib.hid (HM.out.then ht.mod)
  obtain ⟨_, b, n, c, rfl, hcall⟩ := back_any ht good_e0.namesOk (fun e he => (good_e0.2.2 e he).flOk) (Nat.le_refl _) (by obtain ⟨t, v, h⟩ := HE.out; exact ⟨t, v, HM1.out.keeps h id⟩) 0 (by omega)
  clear ht HX HM
  go_wp2_with fail
  refine hcall.mono ?_
  rintro en w2 ⟨v, es, rfl, hp, hrow, hm2⟩
  have hes : es = [e0] := List.perm_singleton.1 hp
  subst hes
  obtain ⟨g, cap, rfl, _, _, hh⟩ := holds_of_row (impCells5 0) hrow (by decide)
  have c0 : w2.cell? ⟨g, 0, none⟩ = some (.string ⟨#[95, 97]⟩) := (HoldsK.cell hh (i := 0) (c := 0) (by decide) (by decide)).1
  have HM2 := Lib.hid (HM1.out.then hm2)
  clear hcall hp hrow hh hm2
  have q1 : ((⟨#[95, 97]⟩ : ByteArray).toList == (⟨#[95, 97]⟩ : ByteArray).toList) = true := by simp
  go_wp2_with fail
  go_ret
  exact ⟨rfl, HM2.out⟩
end Go.Proofs.YtkpiioiahdcpjaaDoor
