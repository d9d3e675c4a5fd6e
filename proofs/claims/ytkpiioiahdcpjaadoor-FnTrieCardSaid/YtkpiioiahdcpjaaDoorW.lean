/- ParseTrie, ParseTrieExports. -/
import Derived.Test.YtkpiioiahdcpjaaDoorJ
namespace Go.Proofs.YtkpiioiahdcpjaaDoor
open Go.RowKit

theorem QueAt.of_own {w : World} {base g c : Nat} (h : w.ownsRow base 5 1 (.slice (some ⟨g, 0, none⟩) 0 c) 0 []) : QueAt w 0 g 0 c (u8s []) := by
  obtain ⟨_, h2⟩ := h
  rcases h2 with ⟨h2, _⟩ | ⟨g', cap, cur, hv, _, hg, _, hcm, hcs, _⟩
  · cases h2
  · injection hv with e1 _ e3
    injection e1 with e1
    injection e1 with e1 _
    subst e1; subst e3
    have hlt : g < w.heap.size := (Array.getElem?_eq_some_iff.1 hg).1
    refine ⟨Nat.zero_le _, hcm, Nat.zero_le _, hlt, fun j u hu => by simp [u8s] at hu, fun j hj => ?_⟩
    rw [cell_of_row w g (0 + j) cur 5 (0, 0) hg, frozen_of_row w g (0 + j) cur 5 hg, Array.getElem?_eq_getElem (by omega)]
    exact ⟨rfl, rfl⟩
theorem row_mono {w : World} {base base' size n : Nat} {e : TypeId} {v : Value} {xs : List Value} (h : w.ownsRow base e size v n xs) (hb : base' ≤ base) : w.ownsRow base' e size v n xs := by
  obtain ⟨h1, h2⟩ := h
  refine ⟨h1, ?_⟩
  rcases h2 with h2 | ⟨g, cap, cur, hv, hg, r⟩
  · exact .inl h2
  · exact .inr ⟨g, cap, cur, hv, by omega, r⟩
theorem flat2 : ∀ {l : List (Nat × Value × List UInt8)} {k off : Nat} {dv : Value} {path : List UInt8}, l[k]? = some (off, dv, path) → (l.flatMap fun x => [Value.int .u64 x.1, x.2.1])[k * 2]? = some (.int .u64 off) ∧ (l.flatMap fun x => [Value.int .u64 x.1, x.2.1])[k * 2 + 1]? = some dv
  | [], k, off, dv, path, h => by simp at h
  | x :: l, 0, off, dv, path, h => by
    simp only [List.getElem?_cons_zero, Option.some.injEq] at h
    subst h
    exact ⟨rfl, rfl⟩
  | x :: l, k + 1, off, dv, path, h => by
    rw [List.getElem?_cons_succ] at h
    have := flat2 h
    rw [List.flatMap_cons, show (k + 1) * 2 = k * 2 + 1 + 1 by omega]
    exact this
theorem Outs.mono {w : World} {base base' : Nat} {v : Value} {l : List (Nat × Value × List UInt8)} (h : Outs w base v l) (hb : base' ≤ base) : Outs w base' v l := by
  refine ⟨?_, fun x hx => (h.dat x hx).mono hb, h.sep⟩
  obtain ⟨h1, h2⟩ := h.row
  refine ⟨h1, ?_⟩
  rcases h2 with h2 | ⟨g, cap, cur, hv, hg, r⟩
  · exact .inl h2
  · exact .inr ⟨g, cap, cur, hv, by omega, r⟩

set_option maxHeartbeats 800000 in
set_option maxRecDepth 100000 in
theorem parseTrie_any (L : List Exp) (p : Nat → Nat) (data : List UInt8) (r d c i : Nat) (n : Nd) (w : World) (hr : Rd w r d c data i) (hl : Laid L p data (n :: n.kids.nodes)) (h0 : p n.id = 0) (ht : n.kids.tot ≤ 120) :
    Calls Tryd.prog 32 #[.pointer (some ⟨r, 0, none⟩)] w fun e w' => ∃ v l i', e = .returned (.tuple #[v, .nilIface]) ∧ Outs w' w.heap.size v l ∧ l.map (fun x => (x.1, x.2.2)) = ptsN p [] n ∧ Rd w' r d c data i' ∧ Mod (fun x => x = r) w w' := by
  have HR := Lib.hid hr
  have HL := Lib.hid hl
  have hrl := hr.lt_r
  have hdl := hr.lt
  clear hr hl
  go_enter Tryd.func32, Tryd.ntmps32
  obtain ⟨t5, hi5, hz5, hs5, hb5⟩ := info_parts info5
  go_wp2_with (at_make; (refine wpList_make_own w rfl _ _ 29 rfl w.heap.size 5 t5 (.int .u8 0) 1 Tryd.underlying29 hi5 hz5 hs5 .i64 .i64 32768 32768 rfl rfl rfl (by rw [hb5]; decide) (by decide) (Nat.le_refl _) ?_; intro w1 hA hB; have HQ1 := Lib.hid hA; have M1 : Hid (Mod Nowhere w w1) := (Mod.of_grown hB).mono fun x _ e => (by cases e); clear hA hB))
  clear t5 hi5 hz5 hs5 hb5
  have hg1 : w.heap.size < w1.heap.size := (QueAt.of_own HQ1.out).lt
  have hr0 : r ≠ 0 := HR.out.ne0
  have hrd := HR.out.ne
  have HS : Hid (Seps (w1.heap.size + 1) r d w.heap.size w1.heap.size) := ⟨by omega, by omega, by omega, by omega, by omega, by omega, by omega, by omega, by omega, by omega, by omega, hr0, hrd⟩
  have HPS : Hid (PS (w1.alloc (.cells #[.slice none 0 0] 79)) (w1.heap.size + 1) r d c w.heap.size w1.heap.size data [] i (.slice none 0 0) []) :=
    ⟨HR.out.then (M1.out.alloc _), (QueAt.of_own HQ1.out).keep ((Mod.refl Nowhere w1).alloc _) (fun h => h), Blk.new w1 79 _, ⟨⟨rfl, .inl ⟨rfl, rfl⟩⟩, fun x hx => by simp at hx, fun x hx => by simp at hx⟩, by simp⟩
  have M2 : Hid (Mod Nowhere w (w1.alloc (.cells #[.slice none 0 0] 79))) := M1.out.alloc _
  have hcall := parse_any L p data (w1.heap.size + 1) r d c w.heap.size w1.heap.size HS.out n.kids.tot n [] _ i _ [] (Nat.le_refl _) HPS.out HL.out (by simp; omega) (by simp; omega)
  rw [h0] at hcall
  refine hcall.mono ?_
  clear hcall
  rintro en w2 ⟨rfl, i', v', l', hp, hl', hm⟩
  rw [List.nil_append] at hp
  obtain ⟨A, cv, hv⟩ := hp.outs.shape
  subst hv
  have c2 : w2.cell? ⟨w1.heap.size, 0, none⟩ = some (.slice A l'.length cv) := hp.cell.cell 0
  have HO := Lib.hid (hp.outs.mono (base' := w.heap.size) (by omega))
  have HRD := Lib.hid hp.rd
  have HLL := Lib.hid hl'
  have M3 : Hid (Mod (fun x => x = r) w w2) := (M2.out.any (fun x => x = r)).trans hm fun x hx e => by rcases e with e | e | e | e <;> omega
  clear hp hl' hm
  go_wp2_with fail
  go_ret2
  exact ⟨_, l', i', rfl, HO.out, HLL.out, HRD.out, M3.out⟩

theorem info65 : (Tryd.prog.info? 65).map (fun i => (i.zero, i.size, i.bytes)) = some (some (.agg #[.string default, .string default, .int .i64 0, .int .u64 0, .int .u64 0, .string default]), 6, 72) := by kernel_rfl

/-- The exports that stand where the parser found nodes. -/
structure Found (data : List UInt8) (ps : List (Nat × List UInt8)) (es : List Exp) : Prop where
  len : es.length = ps.length
  at' : ∀ (k : Nat) (x : Nat × List UInt8) (e : Exp), ps[k]? = some x → es[k]? = some e → (∃ rest, data.drop x.1 = infoB e ++ rest) ∧ x.2 = e.name.data.toList ∧ FlOk e ∧ x.2 ≠ [] ∧ x.1 ≤ 3000000

set_option maxHeartbeats 1600000 in
set_option maxRecDepth 100000 in
theorem parseExports_any (L : List Exp) (p : Nat → Nat) (data : List UInt8) (r d c i B : Nat) (n : Nd) (w : World) (hr : Rd w r d c data i) (hl : Laid L p data (n :: n.kids.nodes)) (h0 : p n.id = 0) (ht : n.kids.tot ≤ 120) (hB : B ≤ 1099511627776)
    (es : List Exp) (hf : Found data (ptsN p [] n) es) :
    Calls Tryd.prog 21 #[.pointer (some ⟨r, 0, none⟩), .int .u64 B] w fun e w' => ∃ v, e = .returned (.tuple #[v, .nilIface]) ∧ w'.ownsRow w.heap.size 65 6 v es.length (es.flatMap fun e => (expCells e.name e B).toList) ∧ Mod (fun x => x = r) w w' := by
  have HR := Lib.hid hr
  have HF := Lib.hid hf
  have hrl := hr.lt_r
  have hdl := hr.lt
  have hpl : (ptsN p [] n).length ≤ 121 := Nat.le_trans (ptsN_length p [] n) (by omega)
  have hcall := Lib.hid (parseTrie_any L p data r d c i n w hr hl h0 ht)
  clear hr hl hf
  go_enter Tryd.func21, Tryd.ntmps21
  go_wp2_with fail
  refine hcall.out.mono ?_
  rintro en w2 ⟨v2, l, i2, rfl, ho, hll, hrd, hm⟩
  have hlen : l.length = es.length := by rw [HF.out.len, ← hll, List.length_map]
  have hle : es.length ≤ 121 := by rw [HF.out.len]; exact hpl
  obtain ⟨A, cv, hv⟩ := ho.shape
  subst hv
  have HO := Lib.hid ho
  have HLL := Lib.hid hll
  have HRD := Lib.hid hrd
  have HM := Lib.hid hm
  have hsz := hm.size
  have HLEN := Lib.hid hlen
  have hll121 : l.length ≤ 121 := by omega
  clear ho hll hrd hm hcall hlen
  go_wp2_with fail
  go_loopg [6, 25] l.length (fun kq v6 v25 wr => ∃ k : Nat, v25 = .int .i64 k ∧ k ≤ 121 ∧ Hid (kq = l.length - k ∧ k ≤ l.length ∧ (∃ i', Rd wr r d c data i') ∧ wr.ownsRow w2.heap.size 65 6 v6 k ((es.take k).flatMap fun e => (expCells e.name e B).toList) ∧ Mod (fun x => x = r) w2 wr))
  case atStart => exact ⟨0, rfl, by omega, by omega, Nat.zero_le _, ⟨_, HRD.out⟩, ⟨rfl, .inl ⟨rfl, rfl⟩⟩, Mod.refl _ _⟩
  case round =>
    obtain ⟨k, rfl, hk121, H⟩ := hrel
    obtain ⟨hkq, hkl, ⟨i3, hrd⟩, hrow, hm⟩ := H.out
    have HKQ := Lib.hid hkq
    have HRD3 := Lib.hid hrd
    have HROW := Lib.hid hrow
    have HM3 := Lib.hid hm
    clear H hkq hrd hrow hm
    by_cases hlt : k < l.length
    · obtain ⟨⟨off, dv, path⟩, hx⟩ : ∃ x, l[k]? = some x := ⟨_, List.getElem?_eq_getElem hlt⟩
      obtain ⟨e, he⟩ : ∃ e, es[k]? = some e := ⟨_, List.getElem?_eq_getElem (by have := HLEN.out; omega)⟩
      have hps : (ptsN p [] n)[k]? = some (off, path) := by rw [← HLL.out, List.getElem?_map, hx]; rfl
      obtain ⟨⟨rest, hdrop⟩, hpath, hfl, hpne, hoff⟩ := HF.out.at' k _ e hps he
      simp only at hdrop hpath hpne hoff
      have hO3 := HO.out.keep HM3.out (fun x hx e => by omega)
      have hbyt := hO3.dat _ (List.mem_of_getElem? hx)
      simp only at hbyt
      obtain ⟨A4, c4, hdv, _⟩ := hbyt.slice
      obtain ⟨g4, cap4, hv4, _, _⟩ := hO3.row.form (by omega)
      injection hv4 with e1 e2 e3
      subst e1; subst e3
      have x0 : wr.cell? ⟨g4, k * 2, none⟩ = some (.int .u64 off) := by rw [hO3.row.cellAt _ (by omega)]; exact (flat2 hx).1
      have x1 : wr.cell? ⟨g4, k * 2 + 1, none⟩ = some dv := by rw [hO3.row.cellAt _ (by omega)]; exact (flat2 hx).2
      have HBYT := Lib.hid hbyt
      have HDROP := Lib.hid hdrop
      have HPATH := Lib.hid hpath
      have HFL := Lib.hid hfl
      have HE := Lib.hid he
      have hpl0 : 0 < path.length := List.length_pos_iff.2 hpne
      subst hdv
      clear hx hps hdrop hpath hfl hpne hO3 hbyt he
      go_wp2_with fail
      have hgl : r < wr.heap.size := HRD3.out.lt_r
      have y1 : (wr.alloc (.cells #[.int .u64 off, .slice A4 path.length c4] 84)).cell? ⟨wr.heap.size, 1, none⟩ = some (.slice A4 path.length c4) := (Blk.new wr 84 #[.int .u64 off, .slice A4 path.length c4]).cell 1
      have HRA := Lib.hid (HRD3.out.then ((Mod.refl _ _).alloc (.cells #[.int .u64 off, .slice A4 path.length c4] 84)))
      have HBA := Lib.hid (HBYT.out.alloc (.cells #[.int .u64 off, .slice A4 path.length c4] 84))
      have MA : Hid (Mod Nowhere wr (wr.alloc (.cells #[.int .u64 off, .slice A4 path.length c4] 84))) := (Mod.refl _ _).alloc _
      clear x0 x1
      generalize wr.alloc (.cells #[.int .u64 off, .slice A4 path.length c4] 84) = wa at *
      refine (seek_set wa r d c i3 off data HRA.out).mono ?_
      rintro en wb ⟨rfl, hb, mb⟩
      have y1b := mb.keeps y1 (by show ¬ wr.heap.size = r; omega)
      have HBB := Lib.hid (HBA.out.keep mb (fun x hx _ e => by omega))
      have HRB := Lib.hid hb
      have MB := Lib.hid ((HM3.out.then MA.out).trans mb fun _ _ h => h)
      have hconv := byt_string HBB.out hpl0
      have HMB0 := Lib.hid mb
      clear y1 hb mb
      go_wp2_with fail
      refine (read_any wb r d c off B data rest ⟨path.toArray⟩ e HRB.out HFL.out hB HDROP.out).mono ?_
      rintro en wc ⟨t, i4, rfl, ht4, hblk, hrd4, hm4⟩
      have z0 := hblk.cell 0
      have z1 := hblk.cell 1
      have z2 := hblk.cell 2
      have z3 := hblk.cell 3
      have z4 := hblk.cell 4
      have z5 := hblk.cell 5
      simp only [expCells, List.getElem?_toArray, List.getElem?_cons_zero, List.getElem?_cons_succ] at z0 z1 z2 z3 z4 z5
      have HRC := Lib.hid hrd4
      have MC := Lib.hid (MB.out.trans hm4 fun _ _ h => h)
      have MWC : Mod (fun x => x = r) wr wc := ((MA.out.any (fun x => x = r)).trans HMB0.out fun _ _ h => h).trans hm4 fun _ _ h => h
      have HROWC := Lib.hid (own_keep HROW.out MWC (fun x hx e => by have := (World.ownsRow.lt HROW.out x hx).1; omega))
      clear hblk hrd4 hm4 hconv MWC
      have hk1 : k ≤ 120 := by omega
      go_wp2_with (at_builtin; (refine ev_appx 39 65 _ 6 72 Tryd.underlying39 info65 rfl (by decide) rfl (.tmp 52) (.tmp 56) rfl w2.heap.size u6 k ((es.take k).flatMap fun e => (expCells e.name e B).toList) rfl (own_keep (S := Nowhere) HROWC.out ((Mod.refl _ _).alloc _) (fun _ _ h => h)) 1 (expCells ⟨path.toArray⟩ e B).toList (Src.of_blk (Blk.new wc 65 (expCells ⟨path.toArray⟩ e B)) rfl) (by intro u hu; simp only [expCells, List.mem_cons, List.not_mem_nil, or_false] at hu; rcases hu with rfl | rfl | rfl | rfl | rfl | rfl <;> rfl) (by omega) (by decide) ((MC.out.alloc _).size) ?_; intro v7 w7 hA hB hC; have HA := Lib.hid hA; have HB7 := Lib.hid hB; clear hA hB hC))
      have hrow7 : ∀ x, u6.ownBlock = some x → w2.heap.size ≤ x := fun x hx => (World.ownsRow.lt HROWC.out x hx).1
      have MK : Hid (Mod (fun x => w2.heap.size ≤ x) wc w7) := (((Mod.refl Nowhere wc).alloc _).any _).trans HB7.out fun x _ hx => hrow7 x hx
      have h0r : 0 < w2.heap.size := by omega
      go_roundg (l.length - (k + 1))
      case measure => have := HKQ.out; omega
      case rel =>
        refine ⟨k + 1, by go_num, by omega, rfl, hlt, ⟨_, HRC.out.keep MK.out (by omega) (by have := HR.out.lt; omega) (by omega)⟩, ?_, MC.out.trans MK.out fun x hx h => by omega⟩
        have hsym : (⟨path.toArray⟩ : ByteArray) = e.name := by rw [HPATH.out]
        have e7 : ((es.take (k + 1)).flatMap fun e => (expCells e.name e B).toList) = ((es.take k).flatMap fun e => (expCells e.name e B).toList) ++ (expCells e.name e B).toList := by rw [List.take_add_one, HE.out]; simp
        rw [e7, ← hsym]
        exact HA.out
    · have hend : decide (k < l.length) = false := by simp; omega
      have hke : k = l.length := by omega
      subst hke
      go_wp2_with fail
      go_ret2
      refine ⟨u6, rfl, ?_, HM.out.trans HM3.out fun x _ h => h⟩
      have := HROW.out
      rw [HLEN.out, List.take_length] at this
      exact row_mono this (by omega)

end Go.Proofs.YtkpiioiahdcpjaaDoor
