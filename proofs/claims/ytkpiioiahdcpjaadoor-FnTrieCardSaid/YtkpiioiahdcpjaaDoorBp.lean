/- Sorted. -/
import Derived.Test.YtkpiioiahdcpjaaDoorBr
import Derived.Test.YtkpiioiahdcpjaaDoorBo
namespace Go.Proofs.YtkpiioiahdcpjaaDoor
open Go.RowKit Go.Lib Go.Sort

theorem expCells5 (e : Exp) : e.cells.length = 5 := rfl
theorem src_exps {w : World} {lb lo c : Nat} {L : List Exp} (h : ExpsAt w lb lo L) : Src w 5 (.slice (some ⟨lb, lo, none⟩) L.length c) L.length (L.flatMap Exp.cells) := by
  refine ⟨flatn_length expCells5 L, _, c, rfl, fun _ => ⟨_, rfl, fun j u hu => ?_⟩⟩
  have hj : j < L.length * 5 := by rw [← flatn_length expCells5 L]; exact (List.getElem?_eq_some_iff.mp hu).1
  have hdiv : j / 5 < L.length := by omega
  have h5 := flatn expCells5 (l := L) (k := j / 5) (e := L[j / 5]) (j := j % 5) (List.getElem?_eq_getElem hdiv) (Nat.mod_lt _ (by omega))
  rw [show j / 5 * 5 + j % 5 = j by omega, hu] at h5
  have ha : (⟨lb, lo, none⟩ : Addr).add j = ⟨lb, lo + (j / 5 * 5 + j % 5), none⟩ := by rw [show j / 5 * 5 + j % 5 = j by omega]; unfold Addr.add; split <;> simp_all
  rw [ha]
  obtain ⟨c0, c1, c2, c3, c4⟩ := h (j / 5) L[j / 5] (List.getElem?_eq_getElem hdiv)
  have hm : j % 5 < 5 := Nat.mod_lt _ (by omega)
  generalize L[j / 5] = e at *
  generalize j / 5 = q at *
  have hcs : j % 5 = 0 ∨ j % 5 = 1 ∨ j % 5 = 2 ∨ j % 5 = 3 ∨ j % 5 = 4 := by omega
  rcases hcs with e0 | e0 | e0 | e0 | e0 <;> rw [e0] at h5 ⊢ <;> simp only [Exp.cells, List.getElem?_cons_zero, List.getElem?_cons_succ, Option.some.injEq] at h5 <;> subst h5 <;> rw [← Nat.add_assoc]
  · exact c0
  · exact c1
  · exact c2
  · exact c3
  · exact c4

theorem info34 : (Tryd.prog.info? 34).map (fun i => (i.zero, i.size, i.bytes)) = some (some (.agg #[.string default, .int .u64 0, .int .u64 0, .int .u64 0, .string default]), 5, 56) := by kernel_rfl

theorem holdsK_mod {enc : Exp → List Value} {w w' : World} {S : Nat → Prop} {g : Nat} {d : Array Exp} (h : HoldsK enc 5 w g 0 d) (hg : g < w.heap.size) (hm : Mod S w w') (hs : ¬ S g) : HoldsK enc 5 w' g 0 d := fun t ht =>
  ⟨hm.keeps (h t ht).1 hs, (hm.frozen hg hs).trans (h t ht).2⟩

set_option maxHeartbeats 800000 in
set_option maxRecDepth 100000 in
theorem sorted20_any (w : World) (lb lo c : Nat) (L : List Exp) (h : ExpsAt w lb lo L) (h1 : 1 ≤ L.length) (h60 : L.length ≤ 60) :
    Calls Tryd.prog 20 #[.slice (some ⟨lb, lo, none⟩) L.length c] w fun e w' => ∃ (blk cap : Nat) (L' : List Exp), e = .returned (.slice (some ⟨blk, 0, none⟩) L.length cap) ∧ L'.Perm L ∧ (L'.Pairwise fun a b => nlt b a = false) ∧ ExpsAt w' blk 0 L' ∧ Mod Nowhere w w' := by
  have HS := Lib.hid (src_exps (c := c) h)
  clear h
  have hown0 : (w.alloc (.cells #[] 34)).ownsRow w.heap.size 34 5 (.slice (some ⟨w.heap.size, 0, none⟩) 0 0) 0 [] :=
    ⟨rfl, .inr ⟨w.heap.size, 0, #[], rfl, Nat.le_refl _, Blk.new w 34 #[], Nat.le_refl _, Nat.zero_le _, rfl, rfl⟩⟩
  have hsrc0 : Hid (Src (w.alloc (.cells #[] 34)) 5 (.slice (some ⟨lb, lo, none⟩) L.length c) L.length (L.flatMap Exp.cells)) := HS.out.keep ((Mod.refl Nowhere w).alloc _) (fun _ _ _ _ h => h) (by omega)
  have HOWN := Lib.hid hown0
  clear hown0
  go_enter Tryd.func20, Tryd.ntmps20
  go_wp2_with (at_builtin; (refine ev_appx 22 34 _ 5 56 Tryd.underlying22 info34 rfl (by decide) rfl (.tmp 4) (.tmp 5) rfl w.heap.size (.slice (some ⟨w.heap.size, 0, none⟩) 0 0) 0 [] rfl HOWN.out L.length (L.flatMap Exp.cells) hsrc0.out ?_ (by omega) (by decide) (by simp) ?_; (intro u hu; obtain ⟨e, _, he⟩ := List.mem_flatMap.1 hu; simp only [Exp.cells, List.mem_cons, List.not_mem_nil, or_false] at he; rcases he with rfl | rfl | rfl | rfl | rfl <;> rfl); intro v w2 hA hB hC; rw [Nat.zero_add, List.nil_append] at hA; obtain ⟨g, cap, rfl, hbg, hlt, hh⟩ := holds_of_row expCells5 hA h1; have HH := Lib.hid hh; have HB := Lib.hid hB; clear hA hB hC hh))
  have hm2 := (Mod.refl Nowhere w2).alloc (.cells #[.slice (some ⟨g, 0, none⟩) L.length cap] 22)
  refine (sort30_any _ g cap w2.heap.size L h1 h60 (holdsK_mod HH.out hlt hm2 id) (hm2.size_lt hlt) ((Blk.new w2 22 #[.slice (some ⟨g, 0, none⟩) L.length cap]).cell 0) (by omega)).mono ?_
  rintro en w3 ⟨rfl, L', hp, hs, hx, hm3⟩
  have cbox : w3.cell? ⟨w2.heap.size, 0, none⟩ = some (.slice (some ⟨g, 0, none⟩) L.length cap) := hm3.keeps ((Blk.new w2 22 #[.slice (some ⟨g, 0, none⟩) L.length cap]).cell 0) (fun h => by have h' : w2.heap.size = g := h; omega)
  have HP := Lib.hid hp
  have HS2 := Lib.hid hs
  have HX := Lib.hid hx
  have HM : Hid (Mod Nowhere w w3) := by
    have h1 : Mod Nowhere w w2 := ((Mod.refl Nowhere w).alloc (.cells #[] 34)).trans HB.out fun x hx e => by injection e with e; have e' : w.heap.size = x := e; omega
    exact (h1.trans hm2 fun _ _ h => h).trans hm3 fun x hx e => by omega
  clear hm2 hp hs hx hm3 HB
  go_wp2_with fail
  go_ret
  exact ⟨g, cap, L', rfl, HP.out, HS2.out, HX.out, HM.out⟩
end Go.Proofs.YtkpiioiahdcpjaaDoor
