/- The walk of spec.(*knot).add. -/
import Derived.Test.YtkpiioiahdcpjaaDoorE
import Derived.Test.YtkpiioiahdcpjaaDoorV
import Derived.StillTailTactics
import Derived.BigRegion
import Derived.Deep.LoopGhost
import Derived.Deep.RegionHeld3
import Derived.Deep.QuietTactic
import Derived.BigQuiet
import Derived.Outline
namespace Go.Proofs.YtkpiioiahdcpjaaDoor
open Go.RowKit

set_option maxHeartbeats 400000 in
set_option maxRecDepth 100000 in
theorem add_here (w : World) (base lb lo id pos j : Nat) (rest : ByteArray) (he : rest.toList.isEmpty = true) (here : Option Nat) (es : Value) (kids : Tr) (hk : KnotAt w base lb lo id here es pos kids) (hne : ∀ k, es.ownBlock = some k → k ≠ id) :
    Calls Tryd.prog 23 #[.pointer (some ⟨id, 0, none⟩), .string rest, .pointer (some ⟨lb, lo + j * 5, none⟩)] w fun e w' => e = .returned (.tuple #[]) ∧ KnotAt w' base lb lo id (some j) es pos kids ∧ Mod (fun x => x = id) w w' := by
  have c0 : w.cell? ⟨id, 0, none⟩ = some (hereV lb lo here) := hk.1.cell 0
  have f0 := hk.1.frozen 0
  have hm : Mod (fun x => x = id) w (w.setCell ⟨id, 0, none⟩ (.pointer (some ⟨lb, lo + j * 5, none⟩))) := Mod.setCell (S := fun x => x = id) (Mod.refl _ _) (p := ⟨id, 0, none⟩) (fun _ => rfl) _
  have HP : Hid (KnotAt (w.setCell ⟨id, 0, none⟩ (.pointer (some ⟨lb, lo + j * 5, none⟩))) base lb lo id (some j) es pos kids) :=
    ⟨hk.1.put 0 _, own_keep hk.2.1 hm hne, hk.2.2⟩
  have HM := Lib.hid hm
  clear hk hm hne
  generalize hereV lb lo here = v0 at c0
  go_enter Tryd.func23, Tryd.ntmps23
  go_wp2_with fail
  refine bodyPost_ret (results_none rfl _ _ _) rfl ?_
  exact ⟨rfl, HP.out, HM.out⟩

theorem Skip.snoc {rest : List UInt8} {lab : ByteArray} {id : Nat} {h : Option Nat} {es : Value} {pos : Nat} {kids : Tr} (hc : cpl lab.data.toList rest = 0) : ∀ {pre : Tr}, Skip rest pre → Skip rest (pre.app (.edge lab id h es pos kids .nil))
  | .nil, _ => ⟨hc, trivial⟩
  | .edge .., hs => ⟨hs.1, Skip.snoc hc hs.2⟩
theorem AddPost.undrew {w : World} {base lb lo id pos j : Nat} {rest : ByteArray} {here : Option Nat} {es : Value} {kids : Tr} {e : Ending} {w' : World} (h : AddPost w.drew base lb lo id pos j rest here es kids e w') : AddPost w base lb lo id pos j rest here es kids e w' := by
  obtain ⟨he, a, b, c, h1, h2, h3, h4, h5, h6, h7⟩ := h
  exact ⟨he, a, b, c, h1, h2, h3, h4.undrew, h5, h6, h7⟩
theorem KnotAt.drew {w : World} {base lb lo id pos : Nat} {here : Option Nat} {es : Value} {kids : Tr} (h : KnotAt w base lb lo id here es pos kids) : KnotAt w.drew base lb lo id here es pos kids := h
theorem Tr.At.drew {w : World} {base lb lo : Nat} {t : Tr} (h : t.At w base lb lo) : t.At w.drew base lb lo := h.then (Mod.refl _ w).drew
theorem split_form (w : World) (o1 o2 : Obj) (a i k : Nat) (u v : Value) (ha : a < w.heap.size) :
    (((w.setCell ⟨a, i, none⟩ u).setCell ⟨a, k, none⟩ v).alloc o1).alloc o2 = (((w.alloc o1).alloc o2).setCell ⟨a, i, none⟩ u).setCell ⟨a, k, none⟩ v := by
  rw [World.setCell_alloc_past _ _ _ _ (by simp; omega), World.setCell_alloc_past _ _ _ _ ha, World.setCell_alloc_past _ _ _ _ (by simp [World.setCell]; omega), World.setCell_alloc_past _ _ _ _ (by simpa [World.setCell] using ha)]

theorem isEmpty_of {s : ByteArray} (h : s.size = 0) : s.toList.isEmpty = true := by
  rw [ByteArray.toList_eq, List.isEmpty_iff]
  exact List.eq_nil_of_length_eq_zero (by simpa using h)
theorem nil_of {s : ByteArray} (h : s.toList.isEmpty = true) : s.data.toList = [] := by
  rw [ByteArray.toList_eq, List.isEmpty_iff] at h
  exact h
theorem add_base (base lb lo j : Nat) (w : World) (id pos : Nat) (rest : ByteArray) (here : Option Nat) (es : Value) (kids : Tr) (hk : KnotAt w base lb lo id here es pos kids) (hat : kids.At w base lb lo)
    (hnd : (knotFoot id es kids).Nodup) (he : rest.toList.isEmpty = true) : Calls Tryd.prog 23 #[.pointer (some ⟨id, 0, none⟩), .string rest, .pointer (some ⟨lb, lo + j * 5, none⟩)] w (AddPost w base lb lo id pos j rest here es kids) := by
  have hn : ∀ k, es.ownBlock = some k → k ≠ id := by
    rintro k h rfl
    simp only [knotFoot, List.nodup_cons, List.mem_append] at hnd
    exact hnd.1 (.inl (own_toList h))
  refine (add_here w base lb lo id pos j rest he here es kids hk hn).mono ?_
  rintro e w' ⟨rfl, h1, h2⟩
  refine ⟨rfl, some j, es, kids, h1, hat.keep h2 ?_, hnd, h2.mono fun x _ h => by subst h; simp [knotFoot], fun x h => .inl h, ?_, fun h => h⟩
  · rintro x hx rfl
    simp only [knotFoot, List.nodup_cons, List.mem_append] at hnd
    exact hnd.1 (.inr hx)
  · unfold addNode
    rw [if_pos (nil_of he)]

theorem app_keep {w w1 w2 : World} {base lb lo id pos : Nat} {here : Option Nat} {es : Value} {kids : Tr} (hk : KnotAt w base lb lo id here es pos kids) (hnd : (knotFoot id es kids).Nodup) (hm1 : Mod Nowhere w w1) (hB : Mod (fun k => es.ownBlock = some k) w1 w2) :
    Blk w2 id 50 #[hereV lb lo here, es, .int .u64 pos] :=
  (hk.1.keep hm1 (fun h => h)).keep hB (fun h => by
      simp only [knotFoot, List.nodup_cons, List.mem_append] at hnd
      exact hnd.1 (.inl (own_toList h)))
theorem Tr.shApp_nil : ∀ t : Tr, t.shApp .nil = t.sh
  | .nil => rfl
  | .edge .. => by rw [Tr.shApp, Tr.sh, Tr.shApp_nil]
theorem addEdges_app_nil {rest : List UInt8} {j : Nat} {pre : Tr} (h : Skip rest pre) : addEdges rest j pre.sh = pre.shApp (addEdges rest j .nil) := by
  rw [← Tr.shApp_nil pre, addEdges_app _ h]
theorem skip_rel {w w' : World} {rest : List UInt8} {kids pre tl ck : Tr} {lab : ByteArray} {cid cpos : Nat} {ch : Option Nat} {ces : Value} (h1 : kids = pre.app (.edge lab cid ch ces cpos ck tl)) (h2 : Skip rest pre) (hc : cpl lab.data.toList rest = 0) (hm : Mod Nowhere w w') :
    ∃ pre' post' : Tr, Value.int .i64 ((pre.num : Int) + 1) = .int .i64 pre'.num ∧ Hid (tl.num = post'.num ∧ kids = pre'.app post' ∧ Skip rest pre' ∧ Mod Nowhere w w') := by
  refine ⟨pre.app (.edge lab cid ch ces cpos ck .nil), tl, ?_, rfl, ?_, h2.snoc hc, hm⟩
  · rw [Tr.num_app]; simp [Tr.num]
  · rw [h1, Tr.app_assoc]; rfl

set_option maxHeartbeats 1600000 in
set_option maxRecDepth 100000 in
theorem add_step (base lb lo j m : Nat) (ih : ∀ (rest : ByteArray), rest.size < m → rest.size ≤ 1000 → ∀ (w : World) (id pos : Nat) (here : Option Nat) (es : Value) (kids : Tr), base ≤ w.heap.size → KnotAt w base lb lo id here es pos kids → kids.At w base lb lo →
      (knotFoot id es kids).Nodup → kids.tot ≤ 1000 → kids.labs → Calls Tryd.prog 23 #[.pointer (some ⟨id, 0, none⟩), .string rest, .pointer (some ⟨lb, lo + j * 5, none⟩)] w (AddPost w base lb lo id pos j rest here es kids))
    (w : World) (id pos : Nat) (rest : ByteArray) (here : Option Nat) (es : Value) (kids : Tr) (hb : base ≤ w.heap.size) (hk : KnotAt w base lb lo id here es pos kids) (hat : kids.At w base lb lo) (hnd : (knotFoot id es kids).Nodup)
    (htot : kids.tot ≤ 1000) (hne : rest.toList.isEmpty = false) (hm : rest.size ≤ m) (hls : kids.labs) (hrs : rest.size ≤ 1000) :
    Calls Tryd.prog 23 #[.pointer (some ⟨id, 0, none⟩), .string rest, .pointer (some ⟨lb, lo + j * 5, none⟩)] w (AddPost w base lb lo id pos j rest here es kids) := by
  have IH := Lib.hid ih
  have c1 : w.cell? ⟨id, 1, none⟩ = some es := hk.1.cell 1
  obtain ⟨A, c, rfl, hcap⟩ := hk.slice
  have hnum : kids.num ≤ 1000 := Nat.le_trans (Tr.num_le _) htot
  have HK := Lib.hid hk
  have HAT := Lib.hid hat
  have HND := Lib.hid hnd
  have HLS := Lib.hid hls
  have HBB : base ≤ w.heap.size := hb
  clear hk ih hat hnd hls
  go_enter Tryd.func23, Tryd.ntmps23
  go_wp2_with fail
  go_loopg [20] kids.num (fun kq v20 wr => ∃ pre post : Tr, v20 = .int .i64 pre.num ∧ Hid (kq = post.num ∧ kids = pre.app post ∧ Skip rest.data.toList pre ∧ Mod Nowhere w wr))
  case atStart => exact ⟨.nil, kids, rfl, rfl, rfl, trivial, Mod.refl _ _⟩
  case round =>
    obtain ⟨pre, post, rfl, H⟩ := hrel
    obtain ⟨hkq, hk1, hk2, hk3⟩ := H
    have HKQ := Lib.hid hkq
    clear hkq
    cases post with
    | nil =>
      have hpre : pre = kids := by rw [hk1, Tr.app_nil]
      subst hpre
      have hend : decide (pre.num < pre.num) = false := by simp
      have hM : Mod Nowhere w wr := hk3
      have c1i : wr.cell? ⟨id, 1, none⟩ = some (.slice A pre.num c) := hM.keeps c1 (fun h => h)
      have f1i : wr.frozen? ⟨id, 1, none⟩ = false := (hM.frozen (World.block_lt_of_cell? w _ c1) (fun h => h)).trans (HK.out.1.frozen 1)
      have li : id < wr.heap.size := World.block_lt_of_cell? wr _ c1i
      have HM := Lib.hid hM
      have HS := Lib.hid hk2
      have HB : base ≤ wr.heap.size := Nat.le_trans hb hM.size
      have htt : (pre.num + 1) * 24 ≤ 140737488355328 := by omega
      have HOWN := Lib.hid (own_keep HK.out.2.1 ((hM.alloc (.cells #[.pointer (some ⟨lb, lo + j * 5, none⟩), .slice none 0 0, .int .u64 0] 50)).alloc (.cells #[.string rest, .pointer (some ⟨wr.heap.size, 0, none⟩)] 52)) (fun _ _ h => h))
      have HSRC : Hid (Src ((wr.alloc (.cells #[.pointer (some ⟨lb, lo + j * 5, none⟩), .slice none 0 0, .int .u64 0] 50)).alloc (.cells #[.string rest, .pointer (some ⟨wr.heap.size, 0, none⟩)] 52)) 2 (.slice (some ⟨wr.heap.size + 1, 0, none⟩) 1 1) 1 [.string rest, .pointer (some ⟨wr.heap.size, 0, none⟩)]) := by
        have h := Blk.new (wr.alloc (.cells #[.pointer (some ⟨lb, lo + j * 5, none⟩), .slice none 0 0, .int .u64 0] 50)) 52 #[.string rest, .pointer (some ⟨wr.heap.size, 0, none⟩)]
        rw [show (wr.alloc (.cells #[.pointer (some ⟨lb, lo + j * 5, none⟩), .slice none 0 0, .int .u64 0] 50)).heap.size = wr.heap.size + 1 by simp] at h
        exact Src.of_blk h rfl
      clear hk1 hk2 hk3 hM
      go_wp2_with (at_builtin; refine ev_appx 48 52 _ 2 24 Tryd.underlying48 info52 rfl (by decide) rfl (.tmp 94) (.tmp 100) rfl base (.slice A pre.num c) pre.num pre.cells rfl HOWN.out 1 [.string rest, .pointer (some ⟨wr.heap.size, 0, none⟩)] HSRC.out ?_ htt (by decide) ?_ ?_; intro u hu; simp only [List.mem_cons, List.not_mem_nil, or_false] at hu; rcases hu with rfl | rfl <;> rfl; exact Nat.le_trans HB (by simp; omega); intro v w2 hA hB hC; have hBk := app_keep HK.out HND.out ((HM.out.alloc _).alloc _) hB; have c2 := hBk.cell 1; have f2 := hBk.frozen 1; clear hBk; obtain ⟨g', cap', rfl, _, _⟩ := hA.form (Nat.succ_pos _); have HA := Lib.hid hA; have HB2 := Lib.hid hB; have HC := Lib.hid hC; clear hA hB hC)
      refine bodyPost_ret (results_none rfl _ _ _) rfl ?_
      have HC2 : (Value.slice (some ⟨g', 0, none⟩) (pre.num + 1) cap').ownBlock = (Value.slice A pre.num c).ownBlock ∨ (Value.slice (some ⟨g', 0, none⟩) (pre.num + 1) cap').ownBlock = some (wr.heap.size + 1 + 1) := by
        have h := HC.out
        simpa using h
      obtain ⟨p1, p2, p3, p4, p5⟩ := append_post HK.out HAT.out HND.out HM.out hb HB2.out HA.out HC2 _ rfl
      refine ⟨rfl, _, _, _, p1, p2, p3, p4, p5, ?_, fun hz => Tr.zero_app.2 ⟨hz, rfl, trivial, trivial⟩⟩
      rw [Tr.sh_app]
      unfold addNode
      rw [if_neg (ne_nil_of hne), addEdges_app_nil HS.out, addEdges]
      rfl
    | edge lab cid ch ces cpos ck tl =>
      have hlt : pre.num < kids.num := by rw [hk1, Tr.num_app]; simp only [Tr.num]; omega
      have hx := hk1 ▸ HK.out
      obtain ⟨a, rfl, x0, x1, f0, f1, _⟩ := hx.edge
      have hls : lab.size ≤ 1000 := by
        have h := HLS.out
        rw [hk1] at h
        exact (Tr.labs_app h).2.1
      have HX : Hid (w.cell? ⟨a, pre.num * 2, none⟩ = some (.string lab) ∧ w.cell? ⟨a, pre.num * 2 + 1, none⟩ = some (.pointer (some ⟨cid, 0, none⟩)) ∧ w.frozen? ⟨a, pre.num * 2, none⟩ = false ∧ w.frozen? ⟨a, pre.num * 2 + 1, none⟩ = false) := ⟨x0, x1, f0, f1⟩
      have x0 := hk3.keeps x0 (fun h => h)
      have x1 := hk3.keeps x1 (fun h => h)
      have HK1 := Lib.hid hk1
      have HK3 := Lib.hid hk3
      have HK2 := Lib.hid hk2
      clear hk1 hk3 hk2 f0 f1 hx
      go_wp2_with fail
      have y0 : (wr.alloc (Obj.cells #[Value.string lab, Value.pointer (some ⟨cid, 0, none⟩)] 52)).cell? ⟨wr.heap.size, 0, none⟩ = some (.string lab) := (Blk.new wr 52 _).cell 0
      have y1 : (wr.alloc (Obj.cells #[Value.string lab, Value.pointer (some ⟨cid, 0, none⟩)] 52)).cell? ⟨wr.heap.size, 1, none⟩ = some (.pointer (some ⟨cid, 0, none⟩)) := (Blk.new wr 52 _).cell 1
      have HM5 : Hid (Mod Nowhere w (wr.alloc (Obj.cells #[Value.string lab, Value.pointer (some ⟨cid, 0, none⟩)] 52))) := HK3.out.alloc _
      have hg : w.heap.size ≤ wr.heap.size := HK3.out.size
      clear x0 x1 HK3
      generalize wr.alloc (Obj.cells #[Value.string lab, Value.pointer (some ⟨cid, 0, none⟩)] 52) = w5 at *
      generalize wr.heap.size = g at *
      go_loopg [8] lab.size (fun kq v8 w6 => ∃ n : Nat, v8 = .int .i64 n ∧ n ≤ lab.size ∧ n ≤ rest.size ∧ Hid (kq = lab.size - n ∧ lab.data.toList.take n = rest.data.toList.take n ∧ Mod Nowhere w w6 ∧
        w6.cell? ⟨g, 0, none⟩ = some (.string lab) ∧ w6.cell? ⟨g, 1, none⟩ = some (.pointer (some ⟨cid, 0, none⟩))))
      case atStart => exact ⟨0, rfl, Nat.zero_le _, Nat.zero_le _, rfl, rfl, HM5.out, y0, y1⟩
      case round =>
        clear y0 y1 HM5
        obtain ⟨n, rfl, hn1, hn2, HN⟩ := hrel
        have y0 := HN.out.2.2.2.1
        by_cases hgo : ∃ (h1 : n < lab.size) (h2 : n < rest.size), lab[n] = rest[n]
        · obtain ⟨ha, hb, hab⟩ := hgo
          have ha' : ((n : Int) < (lab.size : Int)) := by omega
          have hb' : ((n : Int) < (rest.size : Int)) := by omega
          have hc' : (((lab[n].toNat : Int)) == ((rest[n].toNat : Int))) = true := by rw [hab]; simp
          have HC := Lib.hid hab
          clear hab
          go_wp2_with fail
          go_quiet (fail)
          go_wp2_with fail
          go_roundg (lab.size - (n + 1))
          case measure => have := HN.out.1; omega
          case rel =>
            obtain ⟨h1, h2, h3, h4, h5⟩ := HN.out
            refine ⟨n + 1, by go_num, by omega, by omega, rfl, ?_, h3.drewN _, h4, h5⟩
            rw [List.take_add_one, List.take_add_one, h2]
            have e1 : lab.data.toList[n]? = some lab[n] := by rw [List.getElem?_eq_getElem (by simpa using ha)]; rfl
            have e2 : rest.data.toList[n]? = some rest[n] := by rw [List.getElem?_eq_getElem (by simpa using hb)]; rfl
            rw [e1, e2, HC.out]
        · have hcpl : cpl lab.data.toList rest.data.toList = n := by
            refine cpl_eq _ _ _ (by simpa using hn1) (by simpa using hn2) HN.out.2.1 ?_
            by_cases h1 : n = lab.size
            · left; simpa using h1
            · by_cases h2 : n = rest.size
              · right; left; simpa using h2
              · right; right
                intro e
                apply hgo
                have ha : n < lab.size := by omega
                have hb : n < rest.size := by omega
                refine ⟨ha, hb, ?_⟩
                have e1 : lab.data.toList[n]? = some lab[n] := by rw [List.getElem?_eq_getElem (by simpa using ha)]; rfl
                have e2 : rest.data.toList[n]? = some rest[n] := by rw [List.getElem?_eq_getElem (by simpa using hb)]; rfl
                rw [e1, e2] at e
                exact Option.some.inj e
          have HP := Lib.hid hcpl
          clear hcpl
          have hway : (∃ (h1 : n < lab.size) (h2 : n < rest.size), lab[n] ≠ rest[n]) ∨ (n < lab.size ∧ ¬ n < rest.size) ∨ ¬ n < lab.size := by
            by_cases h1 : n < lab.size
            · by_cases h2 : n < rest.size
              · exact .inl ⟨h1, h2, fun e => hgo ⟨h1, h2, e⟩⟩
              · exact .inr (.inl ⟨h1, h2⟩)
            · exact .inr (.inr h1)
          clear hgo
          by_cases hz : n = 0
          · have hz' : ((n : Int) == 0) = true := by subst hz; rfl
            have HZ := Lib.hid hz
            clear hz
            rcases hway with ⟨ha, hb, hab⟩ | ⟨ha, hb⟩ | ha
            · have ha' : ((n : Int) < (lab.size : Int)) := by omega
              have hb' : ((n : Int) < (rest.size : Int)) := by omega
              have hc' : (((lab[n].toNat : Int)) == ((rest[n].toNat : Int))) = false := by
                rw [beq_eq_false_iff_ne]
                intro e
                exact hab (by apply UInt8.toNat_inj.1; omega)
              clear hab
              go_wp2_with fail
              go_quiet (fail)
              go_wp2_with fail
              go_roundg tl.num
              case measure => have := HKQ.out; simp only [Tr.num] at this; omega
              case rel => exact skip_rel HK1.out HK2.out (HP.out.trans HZ.out) (HN.out.2.2.1.drewN _)
            · have ha' : ((n : Int) < (lab.size : Int)) := by omega
              have hb' : decide (n < rest.size) = false := by simp; omega
              clear hb
              go_wp2_with fail
              go_quiet (fail)
              go_wp2_with fail
              go_roundg tl.num
              case measure => have := HKQ.out; simp only [Tr.num] at this; omega
              case rel => exact skip_rel HK1.out HK2.out (HP.out.trans HZ.out) (HN.out.2.2.1.drewN _)
            · have ha' : decide (n < lab.size) = false := by simp; omega
              go_wp2_with fail
              go_quiet (fail)
              go_wp2_with fail
              go_roundg tl.num
              case measure => have := HKQ.out; simp only [Tr.num] at this; omega
              case rel => exact skip_rel HK1.out HK2.out (HP.out.trans HZ.out) (HN.out.2.2.1.drewN _)
          · have hz' : ((n : Int) == 0) = false := by rw [beq_eq_false_iff_ne]; omega
            have HZ := Lib.hid hz
            clear hz
            rcases hway with ⟨ha, hb, hab⟩ | ⟨ha, hb⟩ | ha
            · have ha' : ((n : Int) < (lab.size : Int)) := by omega
              have hb' : ((n : Int) < (rest.size : Int)) := by omega
              have hc' : (((lab[n].toNat : Int)) == ((rest[n].toNat : Int))) = false := by
                rw [beq_eq_false_iff_ne]
                intro e
                exact hab (by apply UInt8.toNat_inj.1; omega)
              clear hab
              go_wp2_with fail
              go_quiet (fail)
              go_wp2_with fail
              have hM : Mod Nowhere w (wr.drewN nq) := HN.out.2.2.1.drewN _
              have c1i : (wr.drewN nq).cell? ⟨id, 1, none⟩ = some (.slice (some ⟨a, 0, none⟩) kids.num c) := hM.keeps c1 (fun h => h)
              have x0i : (wr.drewN nq).cell? ⟨a, pre.num * 2, none⟩ = some (.string lab) := hM.keeps HX.out.1 (fun h => h)
              have x1i : (wr.drewN nq).cell? ⟨a, pre.num * 2 + 1, none⟩ = some (.pointer (some ⟨cid, 0, none⟩)) := hM.keeps HX.out.2.1 (fun h => h)
              have f0i : (wr.drewN nq).frozen? ⟨a, pre.num * 2, none⟩ = false := (hM.frozen (World.block_lt_of_cell? w _ x0) (fun h => h)).trans HX.out.2.2.1
              have f1i : (wr.drewN nq).frozen? ⟨a, pre.num * 2 + 1, none⟩ = false := (hM.frozen (World.block_lt_of_cell? w _ HX.out.2.1) (fun h => h)).trans HX.out.2.2.2
              have y0i : (wr.drewN nq).cell? ⟨g, 0, none⟩ = some (.string lab) := HN.out.2.2.2.1
              have y1i : (wr.drewN nq).cell? ⟨g, 1, none⟩ = some (.pointer (some ⟨cid, 0, none⟩)) := HN.out.2.2.2.2
              have hl1 : (n : Int) ≤ (lab.size : Int) := by omega
              have HM : Hid (Mod Nowhere w (wr.drewN nq)) := hM
              clear y0 hM
              generalize wr.drewN nq = w7 at *
              have la : a < w7.heap.size := World.block_lt_of_cell? w7 _ x0i
              have lg : g < w7.heap.size := World.block_lt_of_cell? w7 _ y0i
              have li : id < w7.heap.size := World.block_lt_of_cell? w7 _ c1i
              have la2 : a < w7.heap.size + 1 := by omega
              have lg2 : g < w7.heap.size + 1 := by omega
              have li2 : id < w7.heap.size + 1 := by omega
              go_region
              generalize hW : (((w7.setCell ⟨a, pre.num * 2, none⟩ (.string (lab.extract 0 n))).setCell ⟨a, pre.num * 2 + 1, none⟩ (.pointer (some ⟨w7.heap.size + 1, 0, none⟩))).alloc (.cells #[.string (lab.extract n lab.size), .pointer (some ⟨cid, 0, none⟩)] 52)).alloc (.cells #[.pointer none, .slice (some ⟨w7.heap.size, 0, none⟩) 1 1, .int .u64 0] 50) = W
              have hW2 := hW.symm.trans (split_form w7 _ _ a (pre.num * 2) (pre.num * 2 + 1) (.string (lab.extract 0 n)) (.pointer (some ⟨w7.heap.size + 1, 0, none⟩)) la)
              have HW := Lib.hid hW2
              clear hW hW2 x0i x1i f0i f1i y0i y1i c1i lg2 li2 la2 lg li la
              obtain ⟨q0, q1, q2, q3, q5⟩ := split_pre (labn := lab.extract 0 n) (labr := lab.extract n lab.size) HK.out HAT.out HND.out HM.out HBB HK1.out HW.out
              have c1i : W.drew.cell? ⟨id, 1, none⟩ = some (.slice (some ⟨a, 0, none⟩) kids.num c) := q5.1.cell 1
              have x1i : W.drew.cell? ⟨a, pre.num * 2 + 1, none⟩ = some (.pointer (some ⟨w7.heap.size + 1, 0, none⟩)) := by
                obtain ⟨a', e', h1', h2', _⟩ := q5.edge
                injection e' with e'
                injection e' with e' _ _
                subst e'
                exact h2'
              have Q := Lib.hid (And.intro q0 (And.intro q1 (And.intro q2 q3)))
              clear q0 q1 q2 q3 q5
              generalize hWd : W.drew = Wd at *
              go_wp2_with fail
              go_still_tail 12, (by kernel_rfl)
              change wpList _ _ _ _ _ Wd.drew
              clear c1i x1i
              generalize hw8 : Wd.drew = w8
              go_wp2_with fail
              have hlabs : (Tr.edge (lab.extract n lab.size) cid ch ces cpos ck .nil).labs := by
                have h := HLS.out
                rw [HK1.out] at h
                exact ⟨by simp; omega, (Tr.labs_app h).2.2.1, trivial⟩
              have htot' : (Tr.edge (lab.extract n lab.size) cid ch ces cpos ck .nil).tot ≤ 1000 := by have := congrArg Tr.tot HK1.out; rw [Tr.tot_app] at this; simp only [Tr.tot] at this ⊢; omega
              have hrz : (rest.extract n rest.size).size < m := by have := HZ.out; simp; omega
              have hrz2 : (rest.extract n rest.size).size ≤ 1000 := by simp; omega
              have hq : base ≤ w8.heap.size ∧ KnotAt w8 base lb lo (w7.heap.size + 1) none (.slice (some ⟨w7.heap.size, 0, none⟩) 1 1) 0 (.edge (lab.extract n lab.size) cid ch ces cpos ck .nil) ∧ (Tr.edge (lab.extract n lab.size) cid ch ces cpos ck .nil).At w8 base lb lo ∧
                  (knotFoot (w7.heap.size + 1) (.slice (some ⟨w7.heap.size, 0, none⟩) 1 1) (.edge (lab.extract n lab.size) cid ch ces cpos ck .nil)).Nodup := by
                subst hw8; subst hWd
                exact ⟨Q.out.1, Q.out.2.1.drew.drew, Q.out.2.2.1.drew.drew, Q.out.2.2.2⟩
              refine (IH.out _ hrz hrz2 w8 (w7.heap.size + 1) 0 none _ _ hq.1 hq.2.1 hq.2.2.1 hq.2.2.2 htot' hlabs).mono ?_
              intro e w9 hp
              subst hw8
              subst hWd
              have HF := Lib.hid (split_fin HK.out HAT.out HND.out HM.out HBB HK1.out HK2.out HP.out HZ.out (by omega) hne (extract_drop rest n) (extract_take lab n (by omega)) (extract_drop lab n) HW.out hp.undrew.undrew)
              have he := hp.1
              subst he
              clear hp hlabs htot' hrz hrz2 hq
              go_wp2_with fail
              refine bodyPost_ret (results_none rfl _ _ _) rfl ?_
              exact HF.out
            · have ha' : ((n : Int) < (lab.size : Int)) := by omega
              have hb' : decide (n < rest.size) = false := by simp; omega
              clear hb
              go_wp2_with fail
              go_quiet (fail)
              go_wp2_with fail
              have hM : Mod Nowhere w (wr.drewN nq) := HN.out.2.2.1.drewN _
              have c1i : (wr.drewN nq).cell? ⟨id, 1, none⟩ = some (.slice (some ⟨a, 0, none⟩) kids.num c) := hM.keeps c1 (fun h => h)
              have x0i : (wr.drewN nq).cell? ⟨a, pre.num * 2, none⟩ = some (.string lab) := hM.keeps HX.out.1 (fun h => h)
              have x1i : (wr.drewN nq).cell? ⟨a, pre.num * 2 + 1, none⟩ = some (.pointer (some ⟨cid, 0, none⟩)) := hM.keeps HX.out.2.1 (fun h => h)
              have f0i : (wr.drewN nq).frozen? ⟨a, pre.num * 2, none⟩ = false := (hM.frozen (World.block_lt_of_cell? w _ x0) (fun h => h)).trans HX.out.2.2.1
              have f1i : (wr.drewN nq).frozen? ⟨a, pre.num * 2 + 1, none⟩ = false := (hM.frozen (World.block_lt_of_cell? w _ HX.out.2.1) (fun h => h)).trans HX.out.2.2.2
              have y0i : (wr.drewN nq).cell? ⟨g, 0, none⟩ = some (.string lab) := HN.out.2.2.2.1
              have y1i : (wr.drewN nq).cell? ⟨g, 1, none⟩ = some (.pointer (some ⟨cid, 0, none⟩)) := HN.out.2.2.2.2
              have hl1 : (n : Int) ≤ (lab.size : Int) := by omega
              have HM : Hid (Mod Nowhere w (wr.drewN nq)) := hM
              clear y0 hM
              generalize wr.drewN nq = w7 at *
              have la : a < w7.heap.size := World.block_lt_of_cell? w7 _ x0i
              have lg : g < w7.heap.size := World.block_lt_of_cell? w7 _ y0i
              have li : id < w7.heap.size := World.block_lt_of_cell? w7 _ c1i
              have la2 : a < w7.heap.size + 1 := by omega
              have lg2 : g < w7.heap.size + 1 := by omega
              have li2 : id < w7.heap.size + 1 := by omega
              go_region
              generalize hW : (((w7.setCell ⟨a, pre.num * 2, none⟩ (.string (lab.extract 0 n))).setCell ⟨a, pre.num * 2 + 1, none⟩ (.pointer (some ⟨w7.heap.size + 1, 0, none⟩))).alloc (.cells #[.string (lab.extract n lab.size), .pointer (some ⟨cid, 0, none⟩)] 52)).alloc (.cells #[.pointer none, .slice (some ⟨w7.heap.size, 0, none⟩) 1 1, .int .u64 0] 50) = W
              have hW2 := hW.symm.trans (split_form w7 _ _ a (pre.num * 2) (pre.num * 2 + 1) (.string (lab.extract 0 n)) (.pointer (some ⟨w7.heap.size + 1, 0, none⟩)) la)
              have HW := Lib.hid hW2
              clear hW hW2 x0i x1i f0i f1i y0i y1i c1i lg2 li2 la2 lg li la
              obtain ⟨q0, q1, q2, q3, q5⟩ := split_pre (labn := lab.extract 0 n) (labr := lab.extract n lab.size) HK.out HAT.out HND.out HM.out HBB HK1.out HW.out
              have c1i : W.drew.cell? ⟨id, 1, none⟩ = some (.slice (some ⟨a, 0, none⟩) kids.num c) := q5.1.cell 1
              have x1i : W.drew.cell? ⟨a, pre.num * 2 + 1, none⟩ = some (.pointer (some ⟨w7.heap.size + 1, 0, none⟩)) := by
                obtain ⟨a', e', h1', h2', _⟩ := q5.edge
                injection e' with e'
                injection e' with e' _ _
                subst e'
                exact h2'
              have Q := Lib.hid (And.intro q0 (And.intro q1 (And.intro q2 q3)))
              clear q0 q1 q2 q3 q5
              generalize hWd : W.drew = Wd at *
              go_wp2_with fail
              go_still_tail 12, (by kernel_rfl)
              change wpList _ _ _ _ _ Wd.drew
              clear c1i x1i
              generalize hw8 : Wd.drew = w8
              go_wp2_with fail
              have hlabs : (Tr.edge (lab.extract n lab.size) cid ch ces cpos ck .nil).labs := by
                have h := HLS.out
                rw [HK1.out] at h
                exact ⟨by simp; omega, (Tr.labs_app h).2.2.1, trivial⟩
              have htot' : (Tr.edge (lab.extract n lab.size) cid ch ces cpos ck .nil).tot ≤ 1000 := by have := congrArg Tr.tot HK1.out; rw [Tr.tot_app] at this; simp only [Tr.tot] at this ⊢; omega
              have hrz : (rest.extract n rest.size).size < m := by have := HZ.out; simp; omega
              have hrz2 : (rest.extract n rest.size).size ≤ 1000 := by simp; omega
              have hq : base ≤ w8.heap.size ∧ KnotAt w8 base lb lo (w7.heap.size + 1) none (.slice (some ⟨w7.heap.size, 0, none⟩) 1 1) 0 (.edge (lab.extract n lab.size) cid ch ces cpos ck .nil) ∧ (Tr.edge (lab.extract n lab.size) cid ch ces cpos ck .nil).At w8 base lb lo ∧
                  (knotFoot (w7.heap.size + 1) (.slice (some ⟨w7.heap.size, 0, none⟩) 1 1) (.edge (lab.extract n lab.size) cid ch ces cpos ck .nil)).Nodup := by
                subst hw8; subst hWd
                exact ⟨Q.out.1, Q.out.2.1.drew.drew, Q.out.2.2.1.drew.drew, Q.out.2.2.2⟩
              refine (IH.out _ hrz hrz2 w8 (w7.heap.size + 1) 0 none _ _ hq.1 hq.2.1 hq.2.2.1 hq.2.2.2 htot' hlabs).mono ?_
              intro e w9 hp
              subst hw8
              subst hWd
              have HF := Lib.hid (split_fin HK.out HAT.out HND.out HM.out HBB HK1.out HK2.out HP.out HZ.out (by omega) hne (extract_drop rest n) (extract_take lab n (by omega)) (extract_drop lab n) HW.out hp.undrew.undrew)
              have he := hp.1
              subst he
              clear hp hlabs htot' hrz hrz2 hq
              go_wp2_with fail
              refine bodyPost_ret (results_none rfl _ _ _) rfl ?_
              exact HF.out
            · have ha' : decide (n < lab.size) = false := by simp; omega
              go_wp2_with fail
              go_quiet (fail)
              go_wp2_with fail
              have hM : Mod Nowhere w (wr.drewN nq) := HN.out.2.2.1.drewN _
              have c1i : (wr.drewN nq).cell? ⟨id, 1, none⟩ = some (.slice (some ⟨a, 0, none⟩) kids.num c) := hM.keeps c1 (fun h => h)
              have x1i : (wr.drewN nq).cell? ⟨a, pre.num * 2 + 1, none⟩ = some (.pointer (some ⟨cid, 0, none⟩)) := hM.keeps HX.out.2.1 (fun h => h)
              have HM : Hid (Mod Nowhere w (wr.drewN nq).drew) := hM.drew
              clear y0 hM
              generalize wr.drewN nq = w7 at *
              go_still_tail 12, (by kernel_rfl)
              change wpList _ _ _ _ _ w7.drew
              clear c1i x1i
              generalize w7.drew = w8 at *
              go_wp2_with fail
              obtain ⟨q1, q2, q3, q4⟩ := down_pre HAT.out HND.out HM.out hb HK1.out
              have hlabs : ck.labs := by
                have h := HLS.out
                rw [HK1.out] at h
                exact (Tr.labs_app h).2.2.1
              have htot' : ck.tot ≤ 1000 := by have := congrArg Tr.tot HK1.out; rw [Tr.tot_app] at this; simp only [Tr.tot] at this; omega
              have hrz : (rest.extract n rest.size).size < m := by have := HZ.out; simp; omega
              have hrz2 : (rest.extract n rest.size).size ≤ 1000 := by simp; omega
              refine (IH.out _ hrz hrz2 w8 cid cpos ch ces ck q1 q2 q3 q4 htot' hlabs).mono ?_
              intro e w9 hp
              have HF := Lib.hid (down_fin HK.out HAT.out HND.out HM.out HK1.out HK2.out HP.out HZ.out ha hne (extract_drop rest n) hp)
              have he := hp.1
              subst he
              clear hp q1 q2 q3 q4 hlabs htot' hrz hrz2
              go_wp2_with fail
              refine bodyPost_ret (results_none rfl _ _ _) rfl ?_
              exact HF.out

/-- add, whole. -/
theorem add_any (base lb lo j : Nat) : ∀ (m : Nat) (rest : ByteArray), rest.size ≤ m → rest.size ≤ 1000 → ∀ (w : World) (id pos : Nat) (here : Option Nat) (es : Value) (kids : Tr), base ≤ w.heap.size → KnotAt w base lb lo id here es pos kids → kids.At w base lb lo →
      (knotFoot id es kids).Nodup → kids.tot ≤ 1000 → kids.labs → Calls Tryd.prog 23 #[.pointer (some ⟨id, 0, none⟩), .string rest, .pointer (some ⟨lb, lo + j * 5, none⟩)] w (AddPost w base lb lo id pos j rest here es kids) := by
  intro m
  induction m with
  | zero =>
    intro rest hm hrs w id pos here es kids hb hk hat hnd htot hls
    exact add_base base lb lo j w id pos rest here es kids hk hat hnd (isEmpty_of (by omega))
  | succ m ih =>
    intro rest hm hrs w id pos here es kids hb hk hat hnd htot hls
    by_cases he : rest.toList.isEmpty = true
    · exact add_base base lb lo j w id pos rest here es kids hk hat hnd he
    · exact add_step base lb lo j (m + 1) (fun r h1 => ih r (by omega)) w id pos rest here es kids hb hk hat hnd htot (by simpa using he) hm hls hrs

end Go.Proofs.YtkpiioiahdcpjaaDoor
