/- The walk of parseTrie. -/
import Derived.Test.YtkpiioiahdcpjaaDoorJ0
import Derived.Deep.RegionLaw
namespace Go.Proofs.YtkpiioiahdcpjaaDoor
open Go.RowKit

set_option maxHeartbeats 12800000 in
set_option maxRecDepth 100000 in
theorem parse_step (L : List Exp) (p : Nat → Nat) (data : List UInt8) (base r d c g o m : Nat) (hs : Seps base r d g o)
    (ih : ∀ (n : Nd) (path : List UInt8) (w : World) (i : Nat) (v : Value) (l : List (Nat × Value × List UInt8)), n.kids.tot < m → PS w base r d c g o data path i v l → Laid L p data (n :: n.kids.nodes) → path.length + 60 * n.kids.tot ≤ 10000 → l.length + n.kids.tot + 1 ≤ 1000 →
      Calls Tryd.prog 49 #[.pointer (some ⟨r, 0, none⟩), .int .u64 (p n.id), .slice (some ⟨g, 0, none⟩) path.length 32768, .pointer (some ⟨o, 0, none⟩)] w (ParsePost w base r d c g o data path v l (ptsN p path n)))
    (n : Nd) (path : List UInt8) (w : World) (i : Nat) (v : Value) (l : List (Nat × Value × List UInt8)) (hm : n.kids.tot ≤ m) (hps : PS w base r d c g o data path i v l) (hlaid : Laid L p data (n :: n.kids.nodes)) (hpl : path.length + 60 * n.kids.tot ≤ 10000) (hll : l.length + n.kids.tot + 1 ≤ 1000) :
    Calls Tryd.prog 49 #[.pointer (some ⟨r, 0, none⟩), .int .u64 (p n.id), .slice (some ⟨g, 0, none⟩) path.length 32768, .pointer (some ⟨o, 0, none⟩)] w (ParsePost w base r d c g o data path v l (ptsN p path n)) := by
  have IH := Lib.hid ih
  have HPS := Lib.hid hps
  have HLAID := Lib.hid hlaid
  have HS := Lib.hid hs
  have hpb : p n.id ≤ 2000000 := hlaid.pos _
  obtain ⟨rest, hrest⟩ := hlaid.at' n (by simp)
  have hinfo := hlaid.info n (by simp)
  have hnum := hlaid.num n (by simp)
  generalize hpos : p n.id = pos at *
  have hts : Hid (data.drop pos = uleb (infoN L n.here).length ++ (infoN L n.here ++ (UInt8.ofNat n.kids.edges.length :: (rowB p n.kids ++ rest)))) := by
    show _ = _
    rw [hrest]
    simp [ndB, nodeB, rowB]
  have hul : uleb (infoN L n.here).length = [UInt8.ofNat (infoN L n.here).length] := uleb_lt (by omega)
  have hd2 : Hid (data.drop (pos + (infoN L n.here).length + 1) = UInt8.ofNat n.kids.edges.length :: (rowB p n.kids ++ rest)) := by
    show _ = _
    rw [show pos + (infoN L n.here).length + 1 = pos + 1 + (infoN L n.here).length by omega, ← List.drop_drop, ← List.drop_drop, hts.out, hul]
    simp
  have HUL := Lib.hid hul
  have hsm := Lib.hid (hlaid.some' n (by simp))
  clear ih hps hlaid hs hrest hul
  generalize hinf : infoN L n.here = info at *
  go_enter Tryd.func49, Tryd.ntmps49
  go_wp2_with fail
  refine (seek_set w r d c i pos data HPS.out.rd).mono ?_
  rintro en w1 ⟨rfl, h1, m1⟩
  have H1 := Lib.hid (HPS.out.read HS.out h1 m1)
  have M1 := Lib.hid m1
  clear h1 m1
  go_wp2_with fail
  refine (readUleb_any w1 r d c pos info.length data _ H1.out.rd hts.out (by omega)).mono ?_
  rintro en w2 ⟨rfl, h2, m2⟩
  have H2 : Hid (PS w2 base r d c g o data path (pos + 1) v l) := by
    have e1 : pos + (uleb info.length).length = pos + 1 := by rw [HUL.out]; rfl
    rw [← e1]; exact H1.out.read HS.out h2 m2
  have M2 := Lib.hid (M1.out.trans m2 fun _ _ h => h)
  clear h2 m2
  rcases hh : n.here with _ | j
  case' none =>
    obtain rfl : info = [] := by rw [← hinf, hh]; rfl
    have hne : ((([] : List UInt8).length : Int) != 0) = false := rfl
    go_wp2_with fail
    obtain ⟨wX, hwX⟩ : ∃ x, x = w2 := ⟨_, rfl⟩
    subst hwX
    have HX0 := H2
    have MX0 : Hid (Mod (fun x => x = r ∨ x = g ∨ x = o ∨ base ≤ x) w wX) := M2.out.mono fun x _ e => .inl e
    have HL : Hid (∃ l1, l = l ++ l1 ∧ l1.map (fun x => (x.1, x.2.2)) = (if n.here.isSome then [(p n.id + 1, path)] else [])) := ⟨[], by simp, by rw [hh]; rfl⟩
    obtain ⟨qX, hqX⟩ : ∃ q, q = pos + ([] : List UInt8).length + 1 := ⟨_, rfl⟩
    refine (seek_set wX r d c _ (pos + ([] : List UInt8).length + 1) data HX0.out.rd).mono ?_
    rintro en wY ⟨rfl, hY, mY⟩
    have HY : Hid (∃ vX lX l1, PS wY base r d c g o data path qX vX lX ∧ lX = l ++ l1 ∧ l1.map (fun x => (x.1, x.2.2)) = (if n.here.isSome then [(p n.id + 1, path)] else [])) := by
      obtain ⟨l1, h1, h2⟩ := HL.out
      exact ⟨_, _, l1, by rw [hqX]; exact HX0.out.read HS.out hY mY, h1, h2⟩
    have hdY : Hid (data.drop qX = UInt8.ofNat n.kids.edges.length :: (rowB p n.kids ++ rest)) := by rw [hqX]; exact hd2.out
    have MY : Hid (Mod (fun x => x = r ∨ x = g ∨ x = o ∨ base ≤ x) w wY) := MX0.out.trans mY fun x _ e => .inl e
    clear hY mY hqX HX0 MX0 HL
  case' some =>
    have hi0 : 0 < info.length := hsm.out (by rw [hh]; rfl)
    have hne : ((info.length : Int) != 0) = true := by rw [bne_iff_ne]; omega
    go_wp2_with fail
    refine (seek_cur w2 r d c _ data H2.out.rd (by omega)).mono ?_
    rintro en w3 ⟨rfl, h3, m3⟩
    have H3 := Lib.hid (H2.out.read HS.out h3 m3)
    have M3 := Lib.hid (M2.out.trans m3 fun _ _ h => h)
    clear h3 m3
    go_wp2_with fail
    obtain ⟨A, cv, hv⟩ := H3.out.outs.shape
    subst hv
    have c3 : w3.cell? ⟨o, 0, none⟩ = some (.slice A l.length cv) := H3.out.cell.cell 0
    have HE : Hid (Byt (w3.alloc (.cells #[] 5)) w3.heap.size (.slice (some ⟨w3.heap.size, 0, none⟩) 0 0) []) := byt_empty w3
    have HSRC : Hid (Src w3 1 (.slice (some ⟨g, 0, none⟩) path.length 32768) path.length (u8s path)) := by have := H3.out.buf.src; rw [show (u8s path).length = path.length by simp [u8s]] at this; exact this
    have hol : o < w3.heap.size := H3.out.cell.lt
    have hwr : IntKind.u64.wrap ((pos : Int) + 1) = (pos : Int) + 1 := wrap_u64_nat (pos + 1) (by omega)
    go_region_law ((first
        | (with_reducible refine st_gate (N := 53) rfl ?_
           refine st_append ?_ (.tmp 51) (.tmp 52) ?_ w3.heap.size (.slice (some ⟨w3.heap.size, 0, none⟩) 0 0) [] ?_ (by (with_reducible repeat (first | exact HE.out | apply Byt.alloc | apply Byt.drew))) path ?_ ?_ ?_ ?_
           · rfl
           · rfl
           · rfl
           · exact HSRC.out.keep (S := Nowhere) (by (with_reducible repeat (first | exact Mod.refl _ _ | apply Mod.alloc | apply Mod.drew))) (fun _ _ _ _ h => h) (by decide)
           · simp; omega
           · simp
           intro v4 w4 hA hB hC
           have hno : ¬ (Value.slice (some ⟨w3.heap.size, 0, none⟩) 0 0).ownBlock = some o := fun e => by injection e with e; exact absurd (show w3.heap.size = o from e) (by omega)
           have c4 : w4.cell? ⟨o, 0, none⟩ = some (.slice A l.length cv) := hB.keeps (by (with_reducible repeat (first | exact c3 | apply cell_alloc | apply cell_drew))) hno
           have M4 : Hid (Mod Nowhere w3 w4) := Mod.trans (by (with_reducible repeat (first | exact Mod.refl _ _ | apply Mod.alloc | apply Mod.drew))) hB (fun x hx e => by injection e with e; exact absurd (show w3.heap.size = x from e) (by omega))
           have H4 := Lib.hid (H3.out.then M4.out)
           obtain ⟨A4, cp4, hv4, _⟩ := Byt.slice (show Byt w4 w3.heap.size v4 path from hA)
           have HD4 : Hid (Byt w4 w3.heap.size (.slice A4 path.length cp4) path) := by rw [← hv4]; exact hA
           have HNE : Hid (∀ k, (Value.slice A4 path.length cp4).ownBlock = some k → (Value.slice A l.length cv).ownBlock ≠ some k) := fun k hk e => by have h1 := (HD4.out.lt k hk).1; have h2 := (World.ownsRow.lt H3.out.outs.row k e).2; omega
           have hol4 : o < w4.heap.size := H4.out.cell.lt
           have c4a := cell_alloc c4 (.cells #[.int .u64 ((pos : Int) + 1), .slice A4 path.length cp4] 84)
           subst hv4
           clear hA hB hC hno)
        | (with_reducible refine st_gate (N := 56) rfl ?_
           refine st_appx 79 84 _ 2 32 Tryd.underlying79 info84 rfl (by decide) ?_ (.tmp 48) (.tmp 55) ?_ base (.slice A l.length cv) l.length (l.flatMap fun x => [.int .u64 x.1, x.2.1]) ?_ (own_keep (S := Nowhere) H4.out.outs.row (by (with_reducible repeat (first | exact Mod.refl _ _ | apply Mod.alloc | apply Mod.drew))) (fun _ _ h => h)) 1 [.int .u64 ((pos : Int) + 1), .slice A4 path.length cp4] ?_ ?_ ?_ (by decide) ?_ ?_
           · rfl
           · rfl
           · rfl
           · exact Src.of_blk (g := w4.heap.size) (t := 84) (cs := #[.int .u64 ((pos : Int) + 1), .slice A4 path.length cp4]) (by (with_reducible repeat (first | exact Blk.new _ _ _ | apply Blk.drew))) rfl
           · intro u hu; simp only [List.mem_cons, List.not_mem_nil, or_false] at hu; rcases hu with rfl | rfl <;> rfl
           · omega
           · exact Nat.le_trans H4.out.size (Mod.size (S := Nowhere) (by (with_reducible repeat (first | exact Mod.refl _ _ | apply Mod.alloc | apply Mod.drew))))
           intro v5 w5 hA hB hC
           obtain ⟨g5, cp5, hv5, _, _⟩ := hA.form (Nat.succ_pos _)
           subst hv5
           have hPM := PS.more (off := pos + 1) (xs := path) H4.out HS.out (by (with_reducible repeat (first | exact Mod.refl _ _ | apply Mod.alloc | apply Mod.drew))) ((HD4.out.mono H3.out.size).then (by (with_reducible repeat (first | exact Mod.refl _ _ | apply Mod.alloc | apply Mod.drew)))) HNE.out hA hB hC
           have c5 := hPM.1.1
           have f5 := hPM.1.2
           have H5 := Lib.hid hPM.2
           clear hPM hA hB hC)
        | fail))
    all_goals (
    have HX0 : Hid (PS (w5.setCell ⟨o, 0, none⟩ (.slice (some ⟨g5, 0, none⟩) (l.length + 1) cp5)) base r d c g o data path (pos + 1) (.slice (some ⟨g5, 0, none⟩) (l.length + 1) cp5) (l ++ [(pos + 1, .slice A4 path.length cp4, path)])) := H5.out.1
    have MX0 : Hid (Mod (fun x => x = r ∨ x = g ∨ x = o ∨ base ≤ x) w (w5.setCell ⟨o, 0, none⟩ (.slice (some ⟨g5, 0, none⟩) (l.length + 1) cp5))) :=
      ((M3.out.then M4.out).mono fun x _ e => .inl e).trans H5.out.2 fun x _ e => e.elim (fun e => .inr (.inr (.inl e))) (fun e => .inr (.inr (.inr e)))
    have HL : Hid (∃ l1, l ++ [(pos + 1, .slice A4 path.length cp4, path)] = l ++ l1 ∧ l1.map (fun x : Nat × Value × List UInt8 => (x.1, x.2.2)) = (if n.here.isSome then [(p n.id + 1, path)] else [])) := ⟨_, rfl, by rw [hh, hpos]; rfl⟩
    clear c3 c4 c4a c5 f5 H5
    generalize w5.setCell ⟨o, 0, none⟩ (.slice (some ⟨g5, 0, none⟩) (l.length + 1) cp5) = wX at *
    go_wp2_with fail
    obtain ⟨qX, hqX⟩ : ∃ q, q = pos + info.length + 1 := ⟨_, rfl⟩
    refine (seek_set wX r d c _ (pos + info.length + 1) data HX0.out.rd).mono ?_
    rintro en wY ⟨rfl, hY, mY⟩
    have HY : Hid (∃ vX lX l1, PS wY base r d c g o data path qX vX lX ∧ lX = l ++ l1 ∧ l1.map (fun x => (x.1, x.2.2)) = (if n.here.isSome then [(p n.id + 1, path)] else [])) := by
      obtain ⟨l1, h1, h2⟩ := HL.out
      exact ⟨_, _, l1, by rw [hqX]; exact HX0.out.read HS.out hY mY, h1, h2⟩
    have hdY : Hid (data.drop qX = UInt8.ofNat n.kids.edges.length :: (rowB p n.kids ++ rest)) := by rw [hqX]; exact hd2.out
    have MY : Hid (Mod (fun x => x = r ∨ x = g ∨ x = o ∨ base ≤ x) w wY) := MX0.out.trans mY fun x _ e => .inl e
    clear hY mY hqX HX0 MX0 HL
    )
  all_goals (
    obtain ⟨vX, lX, l1, hpsX, hlX, hl1⟩ := HY.out
    have HPSX := Lib.hid hpsX
    have HLX := Lib.hid hlX
    have HL1 := Lib.hid hl1
    clear HY hpsX hlX hl1
    go_wp2_with fail
    have hb11 : data[qX]? = some (UInt8.ofNat n.kids.edges.length) := by
      have := congrArg (fun l => l[0]?) hdY.out
      simpa using this
    refine (readByte_any wY r d c qX data HPSX.out.rd _ hb11).mono ?_
    rintro en wZ ⟨rfl, hZ, mZ⟩
    have HZ := Lib.hid (HPSX.out.read HS.out hZ mZ)
    have MZ : Hid (Mod (fun x => x = r ∨ x = g ∨ x = o ∨ base ≤ x) w wZ) := MY.out.trans mZ fun x _ e => .inl e
    have hdZ : Hid (data.drop (qX + 1) = rowB p n.kids ++ rest) := by
      show _ = _
      rw [← List.drop_drop, hdY.out]; rfl
    have hcnt : (UInt8.ofNat n.kids.edges.length).toNat = n.kids.num := by rw [UInt8.toNat_ofNat', Tr.edges_length] at *; omega
    have hnn : n.kids.num ≤ 200 := by rw [← Tr.edges_length]; exact hnum
    clear hZ mZ hb11
    rw [hcnt]
    clear hcnt
    go_wp2_with fail
    go_loopg [14] n.kids.num (fun kq v14 wr => ∃ pre post : Tr, v14 = .int .i64 pre.num ∧ Hid (kq = post.num ∧ n.kids = pre.app post ∧ ∃ i v' l2, data.drop i = rowB p post ++ rest ∧ PS wr base r d c g o data path i v' (lX ++ l2) ∧ l2.map (fun x => (x.1, x.2.2)) = pts p path pre ∧ Mod (fun x => x = r ∨ x = g ∨ x = o ∨ base ≤ x) w wr))
    case atStart => exact ⟨.nil, n.kids, rfl, rfl, rfl, qX + 1, vX, [], hdZ.out, by rw [List.append_nil]; exact HZ.out, rfl, MZ.out⟩
    case round =>
      clear hdZ HZ MZ
      obtain ⟨pre, post, rfl, H⟩ := hrel
      obtain ⟨hkq, hk, i0, v0, l2, hd0, hps0, hl2, hm0⟩ := H.out
      clear H
      have HKQ := Lib.hid hkq
      have HK := Lib.hid hk
      have HD0 := Lib.hid hd0
      have HP0 := Lib.hid hps0
      have HL2 := Lib.hid hl2
      have HM0 := Lib.hid hm0
      clear hkq hd0 hps0 hl2 hm0
      cases post with
      | nil =>
        have hpre : pre = n.kids := by rw [hk, Tr.app_nil]
        have hend : decide (pre.num < n.kids.num) = false := by rw [hpre]; simp
        clear hk
        go_wp2_with fail
        go_ret
        refine ⟨rfl, i0, v0, l1 ++ l2, ?_, ?_, HM0.out⟩
        · rw [← List.append_assoc, ← HLX.out]; exact HP0.out
        · unfold ptsN
          rw [List.map_append, HL1.out, HL2.out, hpre]
      | edge lab cid ch ces cpos ck tl =>
        have hlt : pre.num < n.kids.num := by rw [hk, Tr.num_app]; simp only [Tr.num]; omega
        have hprn : pre.num < 200 := by omega
        have HCH : Hid ((⟨cid, ch, ces, ck⟩ : Nd) ∈ n.kids.nodes) := Tr.tops_sub (by rw [HK.out, Tr.tops_app]; simp [Tr.tops])
        have hlab : Hid (Lab lab.data.toList) := HLAID.out.labs n (by simp) (lab, cid) (by rw [HK.out, Tr.edges_app]; simp [Tr.edges])
        have hctot : Hid (pre.tot + ck.tot + tl.tot + 1 = n.kids.tot) := by show _ = _; rw [HK.out, Tr.tot_app]; simp only [Tr.tot]; omega
        have hd1 : Hid (data.drop i0 = lab.data.toList ++ (0 :: (uleb (p cid) ++ (rowB p tl ++ rest)))) := by
          show _ = _
          rw [HD0.out, rowB_edge]; simp
        have hll60 : lab.data.toList.length ≤ 60 := hlab.out.2.1
        have hll0 : 0 < lab.data.toList.length := List.length_pos_iff.2 hlab.out.1
        clear hk
        obtain ⟨t5, hi5, hz5, hs5, hb5⟩ := info_parts info5
        go_wp2_with (at_make; (refine wpList_make_own wr rfl _ _ 29 rfl wr.heap.size 5 t5 (.int .u8 0) 1 Tryd.underlying29 hi5 hz5 hs5 .i64 .i64 100 100 rfl rfl rfl (by rw [hb5]; decide) (by decide) (Nat.le_refl _) ?_; intro w1 hA hB; have HT1 : Hid (Byt w1 wr.heap.size (.slice (some ⟨wr.heap.size, 0, none⟩) 0 100) []) := hA; have MT1 : Hid (Mod Nowhere wr w1) := (Mod.of_grown hB).mono fun x _ e => (by cases e); clear hA hB))
        clear t5 hi5 hz5 hs5 hb5
        obtain ⟨w0, hw0⟩ : ∃ x, x = wr := ⟨_, rfl⟩
        subst hw0
        obtain ⟨gk0, hgk0⟩ : ∃ x, x = gk := ⟨_, rfl⟩
        subst hgk0
        have HW0 : base ≤ w0.heap.size := HP0.out.size
        have hrb := HS.out.rl
        have hdb := HS.out.dl
        have hr0 := HS.out.r0
        generalize hls : lab.data.toList = xs at *
        go_loopg [15] xs.length (fun kq v15 wr => Hid (∃ k, kq = xs.length - k ∧ k ≤ xs.length ∧ Byt wr w0.heap.size v15 (xs.take k) ∧ Rd wr r d c data (i0 + k) ∧ Mod (fun x => x = r) w0 wr))
        case atStart => exact ⟨0, rfl, Nat.zero_le _, HT1.out, HP0.out.rd.then MT1.out, MT1.out.any _⟩
        case round =>
          clear HT1 MT1
          obtain ⟨k, hkq, hk, hby, hrd, hmod⟩ := hrel.out
          have HKQ2 := Lib.hid hkq
          have HBY := Lib.hid hby
          have HRD := Lib.hid hrd
          have HM := Lib.hid hmod
          clear hrel hkq hby hrd hmod
          by_cases hlt2 : k < xs.length
          · have hbj : data[i0 + k]? = some xs[k] := by
              have : (data.drop i0)[k]? = some xs[k] := by rw [hd1.out, List.getElem?_append_left hlt2, List.getElem?_eq_getElem hlt2]
              simpa using this
            have hne0 : xs[k] ≠ 0 := hlab.out.2.2 _ (List.getElem_mem hlt2)
            have HT : Hid (xs.take (k + 1) = xs.take k ++ [xs[k]]) := by
              show _ = _
              rw [List.take_add_one, List.getElem?_eq_getElem hlt2]; rfl
            generalize xs[k] = b at *
            have hz : ((b.toNat : Int) == 0) = false := by
              rw [beq_eq_false_iff_ne]
              intro e0
              exact hne0 (by apply UInt8.toNat_inj.1; simp; omega)
            go_wp2_with fail
            refine (readByte_any wr r d c (i0 + k) data HRD.out b hbj).mono ?_
            rintro en w5 ⟨rfl, h5, m5⟩
            obtain ⟨et, ev, heof⟩ := h5.eof
            have hcmp := eql_nil_held w5 et ev
            have HB5 := Lib.hid (HBY.out.keep m5 (fun x hx e => by omega))
            have H5 := Lib.hid h5
            have M5 := Lib.hid (HM.out.trans m5 fun _ _ h => h)
            clear h5 m5
            go_wp2_with (at_builtin; (refine ev_append rfl (.tmp 90) (.tmp 92) rfl w0.heap.size u15 (xs.take k) rfl (HB5.out.then ((Mod.refl _ _).alloc _)) [b] (src_one (Blk.new w5 5 _) rfl) (by simp; omega) ((M5.out.alloc _).size) ?_; intro v6 w6 hA hB hC; have HA := Lib.hid hA; have HB6 := Lib.hid hB; clear hA hB hC))
            have hkeep : Hid (Mod (fun x => w0.heap.size ≤ x) w5 w6) := (((Mod.refl Nowhere w5).alloc _).any _).trans HB6.out fun x _ hx => (HB5.out.lt x hx).1
            go_roundg (xs.length - (k + 1))
            case measure => have := HKQ2.out; omega
            case rel =>
              refine ⟨k + 1, rfl, hlt2, ?_, H5.out.keep hkeep.out (by omega) (by omega) (by omega), M5.out.trans hkeep.out fun x hx h => by omega⟩
              rw [HT.out]; exact HA.out
          · have hke : k = xs.length := by omega
            subst hke
            have hbj : data[i0 + xs.length]? = some (0 : UInt8) := by
              have : (data.drop i0)[xs.length]? = some (0 : UInt8) := by rw [hd1.out, List.getElem?_append_right (Nat.le_refl _)]; simp
              simpa using this
            have hby : Byt wr w0.heap.size u15 xs := by have := HBY.out; rwa [List.take_length] at this
            have hd5 : Hid (data.drop (i0 + xs.length + 1) = uleb (p cid) ++ (rowB p tl ++ rest)) := by
              show _ = _
              rw [← List.drop_drop, ← List.drop_drop, hd1.out]; simp
            go_wp2_with fail
            refine (readByte_any wr r d c (i0 + xs.length) data HRD.out 0 hbj).mono ?_
            rintro en w5 ⟨rfl, h5, m5⟩
            obtain ⟨et, ev, heof⟩ := h5.eof
            have hcmp := eql_nil_held w5 et ev
            have HB5 := Lib.hid (hby.keep m5 (fun x hx e => by omega))
            have H5 := Lib.hid h5
            have M5 := Lib.hid (HM.out.trans m5 fun _ _ h => h)
            clear h5 m5 hby HBY
            go_wp2_with fail
            refine (readUleb_any w5 r d c _ (p cid) data _ H5.out hd5.out (by have := HLAID.out.pos cid; omega)).mono ?_
            rintro en w6 ⟨rfl, h6, m6⟩
            have hic : i0 + xs.length + 1 + (uleb (p cid)).length ≤ 2000000 := drop_len h6.len hd5.out (uleb_pos _)
            have HB6 := Lib.hid (HB5.out.keep m6 (fun x hx e => by omega))
            have H6 := Lib.hid h6
            have M6 := Lib.hid (M5.out.trans m6 fun _ _ h => h)
            have hd6 : Hid (data.drop (i0 + xs.length + 1 + (uleb (p cid)).length) = rowB p tl ++ rest) := by
              show _ = _
              rw [← List.drop_drop, hd5.out, List.drop_left]
            clear h6 m6
            generalize i0 + xs.length + 1 + (uleb (p cid)).length = ic at *
            go_wp2_with fail
            refine (seek_cur w6 r d c ic data H6.out (by omega)).mono ?_
            rintro en w7 ⟨rfl, h7, m7⟩
            have HB7 := Lib.hid (HB6.out.keep m7 (fun x hx e => by omega))
            have HP7 := Lib.hid (HP0.out.read HS.out h7 (M6.out.trans m7 fun _ _ h => h))
            have M7 := Lib.hid (M6.out.trans m7 fun _ _ h => h)
            clear h7 m7
            have hct := hctot.out
            go_wp2_with (at_builtin; (refine ev_buf rfl (.tmp 109) (.tmp 110) rfl g 32768 path xs rfl HP7.out.buf HB7.out.src hll0 (by omega) ?_; intro w8 hA hB; have HQ8 := Lib.hid hA; have M8 := Lib.hid hB; clear hA hB))
            have HP8 : Hid (PS w8 base r d c g o data (path ++ xs) ic v0 (lX ++ l2)) :=
              ⟨HP7.out.rd.keep M8.out HS.out.rg HS.out.dg (fun e => HS.out.g0 e.symm), HQ8.out, HP7.out.cell.keep M8.out (fun e => HS.out.go e.symm), HP7.out.outs.keep M8.out (fun x hx e => by have := HS.out.gl; omega), Nat.le_trans HP7.out.size M8.out.size⟩
            rw [← List.length_append]
            have hsub : Laid L p data (⟨cid, ch, ces, ck⟩ :: ck.nodes) := HLAID.out.sub (by
              intro x hx
              rw [List.mem_cons] at hx
              refine List.mem_cons_of_mem _ ?_
              rcases hx with rfl | hx
              · exact HCH.out
              · exact Tr.closed (n := ⟨cid, ch, ces, ck⟩) HCH.out hx)
            have hb1 : (path ++ xs).length + 60 * ck.tot ≤ 10000 := by rw [List.length_append]; omega
            have hb2 : (lX ++ l2).length + ck.tot + 1 ≤ 1000 := by
              have e1 := congrArg List.length HLX.out
              have e2 := congrArg List.length HL1.out
              have e3 := congrArg List.length HL2.out
              have e4 := pts_length p path pre
              rw [List.length_append] at e1 ⊢
              rw [List.length_map] at e2 e3
              have e5 : (if n.here.isSome then [(p n.id + 1, path)] else [] : List (Nat × List UInt8)).length ≤ 1 := by split <;> simp
              omega
            have ih9 := IH.out ⟨cid, ch, ces, ck⟩ (path ++ xs) w8 ic v0 (lX ++ l2) (by show ck.tot < m; omega) HP8.out hsub hb1 hb2
            clear hsub hb1 hb2
            refine ih9.mono ?_
            clear ih9
            rintro en w9 ⟨rfl, i9, v9, l9, hp9, hl9, hm9⟩
            have HP9 : Hid (PS w9 base r d c g o data path i9 v9 (lX ++ (l2 ++ l9))) := by
              rw [← List.append_assoc]
              exact ⟨hp9.rd, (by have := hp9.buf; rw [u8s_append] at this; exact this.pre), hp9.cell, hp9.outs, hp9.size⟩
            have HL9 := Lib.hid hl9
            have M9 : Hid (Mod (fun x => x = r ∨ x = g ∨ x = o ∨ base ≤ x) w w9) := ((HM0.out.trans M7.out fun x _ e => .inl e).trans M8.out fun x _ e => .inr (.inl e)).trans hm9 fun x _ e => e
            clear hp9 hl9 hm9
            go_wp2_with fail
            refine (seek_set w9 r d c _ ic data HP9.out.rd).mono ?_
            rintro en w10 ⟨rfl, h10, m10⟩
            have HP10 := Lib.hid (HP9.out.read HS.out h10 m10)
            have M10 : Hid (Mod (fun x => x = r ∨ x = g ∨ x = o ∨ base ≤ x) w w10) := M9.out.trans m10 fun x _ e => .inl e
            clear h10 m10
            go_wp2_with fail
            go_roundg tl.num
            case measure => have := HKQ.out; simp only [Tr.num] at this; omega
            case rel =>
              refine ⟨pre.app (.edge lab cid ch ces cpos ck .nil), tl, ?_, rfl, ?_, ic, v9, l2 ++ l9, hd6.out, HP10.out, ?_, M10.out⟩
              · rw [Tr.num_app]; simp only [Tr.num]; go_num
              · rw [HK.out, Tr.app_assoc]; rfl
              · rw [List.map_append, HL2.out, HL9.out, pts_app, pts_edge, hls]
                simp [pts])

/-- parseTrie, whole. -/
theorem parse_any (L : List Exp) (p : Nat → Nat) (data : List UInt8) (base r d c g o : Nat) (hs : Seps base r d g o) : ∀ (m : Nat) (n : Nd) (path : List UInt8) (w : World) (i : Nat) (v : Value) (l : List (Nat × Value × List UInt8)), n.kids.tot ≤ m → PS w base r d c g o data path i v l → Laid L p data (n :: n.kids.nodes) →
    path.length + 60 * n.kids.tot ≤ 10000 → l.length + n.kids.tot + 1 ≤ 1000 →
    Calls Tryd.prog 49 #[.pointer (some ⟨r, 0, none⟩), .int .u64 (p n.id), .slice (some ⟨g, 0, none⟩) path.length 32768, .pointer (some ⟨o, 0, none⟩)] w (ParsePost w base r d c g o data path v l (ptsN p path n)) := by
  intro m
  induction m with
  | zero =>
    intro n path w i v l hm
    exact parse_step L p data base r d c g o 0 hs (fun n' _ _ _ _ _ h => absurd h (Nat.not_lt_zero _)) n path w i v l hm
  | succ m ih =>
    intro n path w i v l hm
    exact parse_step L p data base r d c g o (m + 1) hs (fun n' path' w' i' v' l' h => ih n' path' w' i' v' l' (by omega)) n path w i v l hm

end Go.Proofs.YtkpiioiahdcpjaaDoor
