/- machotrie.Exports, impl.exports. -/
import Derived.Test.YtkpiioiahdcpjaaDoorW
namespace Go.Proofs.YtkpiioiahdcpjaaDoor
open Go.RowKit

theorem byt_dat {w : World} {base d c : Nat} {xs : List UInt8} (h : Byt w base (.slice (some ⟨d, 0, none⟩) xs.length c) xs) (h0 : 0 < xs.length) : (∀ (j : Nat) (b : UInt8), xs[j]? = some b → w.cell? ⟨d, j, none⟩ = some (.int .u8 b.toNat)) ∧ d < w.heap.size := by
  refine ⟨fun j b hj => ?_, (h.lt d rfl).2⟩
  have h2 := World.ownsRow.cellAt h j (by have := (List.getElem?_eq_some_iff.1 hj).1; omega)
  rw [h2]
  simp [u8s, hj]

/-- The cells of an impl.Export. -/
def impCells (e : Exp) (B : Nat) : List Value := [.string e.name, .int .u64 e.flags, .int .u64 (addrOf e B), .int .u64 (otherOf e B), .string e.imp]

set_option maxHeartbeats 800000 in
set_option maxRecDepth 100000 in
theorem exports13_any (L : List Exp) (p : Nat → Nat) (data : List UInt8) (base d c B : Nat) (n : Nd) (w : World) (hd : Byt w base (.slice (some ⟨d, 0, none⟩) data.length c) data) (hdl : 0 < data.length ∧ data.length ≤ 2000000) (heof : ∃ t v, w.cell? ⟨0, 0, none⟩ = some (.iface t v))
    (hl : Laid L p data (n :: n.kids.nodes)) (h0 : p n.id = 0) (ht : n.kids.tot ≤ 120) (hB : B ≤ 1099511627776) (es : List Exp) (hf : Found data (ptsN p [] n) es) :
    Calls Tryd.prog 13 #[.slice (some ⟨d, 0, none⟩) data.length c, .int .u64 B] w fun e w' => ∃ v, e = .returned (.tuple #[v, .bool true]) ∧ w'.ownsRow w.heap.size 65 6 v es.length (es.flatMap fun e => (expCells e.name e B).toList) ∧ Mod Nowhere w w' := by
  have HD := Lib.hid (byt_dat hd hdl.1)
  have HE := Lib.hid heof
  have HL := Lib.hid hl
  have HF := Lib.hid hf
  clear hd heof hl hf
  go_enter Tryd.func13, Tryd.ntmps13
  go_wp2_with fail
  refine (newReader_any w d c data HD.out.1 HD.out.2 HE.out hdl.2).mono ?_
  rintro en w1 ⟨r, rfl, hr, hrd, hm⟩
  have HRD := Lib.hid hrd
  have HM := Lib.hid hm
  clear hrd hm
  go_wp2_with fail
  refine (parseExports_any L p data r d c 0 B n w1 HRD.out HL.out h0 ht hB es HF.out).mono ?_
  rintro en w2 ⟨v, rfl, hrow, hm2⟩
  have HROW := Lib.hid (row_mono hrow HM.out.size)
  have HM2 : Hid (Mod Nowhere w w2) := HM.out.trans hm2 fun x hx e => by omega
  clear hrow hm2
  go_wp2_with fail
  go_quiet (fail)
  go_wp2_with fail
  go_ret2
  exact ⟨v, rfl, HROW.out, HM2.out.drewN _⟩

theorem info38 : (Tryd.prog.info? 38).map (fun i => (i.zero, i.size, i.bytes)) = some (some (.agg #[.string default, .int .u64 0, .int .u64 0, .int .u64 0, .string default]), 5, 56) := by kernel_rfl

theorem src_imp (w : World) (o : Obj) (e : Exp) (B : Nat) : Src ((w.alloc o).alloc (.cells #[.string e.name, .int .u64 e.flags, .int .u64 (addrOf e B), .int .u64 (otherOf e B), .string e.imp] 38)) 5 (.slice (some ⟨w.heap.size + 1, 0, none⟩) 1 1) 1 (impCells e B) := by
  have h := Blk.new (w.alloc o) 38 #[.string e.name, .int .u64 e.flags, .int .u64 (addrOf e B), .int .u64 (otherOf e B), .string e.imp]
  rw [show (w.alloc o).heap.size = w.heap.size + 1 by simp] at h
  exact Src.of_blk h rfl
theorem flat6 {B : Nat} : ∀ {es : List Exp} {k : Nat} {e : Exp} {j : Nat}, es[k]? = some e → j < 6 → (es.flatMap fun e => (expCells e.name e B).toList)[k * 6 + j]? = (expCells e.name e B)[j]?
  | [], k, e, j, h, _ => by simp at h
  | x :: l, 0, e, j, h, hj => by
    simp only [List.getElem?_cons_zero, Option.some.injEq] at h
    subst h
    rw [List.flatMap_cons, Nat.zero_mul, Nat.zero_add, List.getElem?_append_left (by simpa [expCells] using hj), Array.getElem?_toList]
  | x :: l, k + 1, e, j, h, hj => by
    rw [List.getElem?_cons_succ] at h
    have h2 := flat6 (B := B) h hj
    rw [List.flatMap_cons, List.getElem?_append_right (by simp [expCells]; omega)]
    rw [show (k + 1) * 6 + j - (expCells x.name x B).toList.length = k * 6 + j by simp [expCells]; omega]
    exact h2

set_option maxHeartbeats 1600000 in
set_option maxRecDepth 100000 in
theorem exports15_any (B base : Nat) (es : List Exp) (v : Value) (w : World) (h : w.ownsRow base 65 6 v es.length (es.flatMap fun e => (expCells e.name e B).toList)) (hn : es.length ≤ 121) (hfl : ∀ e ∈ es, e.flags < 32) :
    Calls Tryd.prog 15 #[v] w fun e w' => ∃ v', e = .returned v' ∧ w'.ownsRow w.heap.size 38 5 v' es.length (es.flatMap fun e => impCells e B) ∧ Mod Nowhere w w' := by
  have hsh : ∃ A c, v = .slice A es.length c := by
    rcases h.2 with ⟨rfl, h0⟩ | ⟨g, cap, cur, rfl, _⟩
    · exact ⟨none, 0, by rw [h0]⟩
    · exact ⟨_, cap, rfl⟩
  obtain ⟨A, c, rfl⟩ := hsh
  have H := Lib.hid h
  have HFL := Lib.hid hfl
  clear h hfl
  go_enter Tryd.func15, Tryd.ntmps15
  go_wp2_with fail
  go_loopg [3, 8] es.length (fun kq v3 v8 wr => ∃ k : Nat, v8 = .int .i64 k ∧ k ≤ 121 ∧ Hid (kq = es.length - k ∧ k ≤ es.length ∧ wr.ownsRow w.heap.size 38 5 v3 k ((es.take k).flatMap fun e => impCells e B) ∧ Mod Nowhere w wr))
  case atStart => exact ⟨0, rfl, by omega, rfl, Nat.zero_le _, ⟨rfl, .inl ⟨rfl, rfl⟩⟩, Mod.refl _ _⟩
  case round =>
    obtain ⟨k, rfl, hk121, H2⟩ := hrel
    obtain ⟨hkq, hkl, hrow, hm⟩ := H2.out
    have HKQ := Lib.hid hkq
    have HROW := Lib.hid hrow
    have HM := Lib.hid hm
    clear H2 hkq hrow hm
    by_cases hlt : k < es.length
    · obtain ⟨e, he⟩ : ∃ e, es[k]? = some e := ⟨_, List.getElem?_eq_getElem hlt⟩
      have hr := own_keep H.out HM.out (fun _ _ h => h)
      obtain ⟨g4, cap4, hv4, _, _⟩ := hr.form (by omega)
      injection hv4 with e1 e2 e3
      subst e1; subst e3
      have hcell : ∀ j, j < 6 → wr.cell? ⟨g4, k * 6 + j, none⟩ = (expCells e.name e B)[j]? := fun j hj => by rw [hr.cellAt _ (by omega)]; exact flat6 he hj
      have x0 : wr.cell? ⟨g4, k * 6, none⟩ = (expCells e.name e B)[0]? := hcell 0 (by omega)
      have x1 := hcell 1 (by omega)
      have x2 := hcell 2 (by omega)
      have x3 := hcell 3 (by omega)
      have x4 := hcell 4 (by omega)
      have x5 := hcell 5 (by omega)
      simp only [expCells, List.getElem?_toArray, List.getElem?_cons_zero, List.getElem?_cons_succ] at x0 x1 x2 x3 x4 x5
      have hfe : e.flags < 32 := HFL.out e (List.mem_of_getElem? he)
      have HE := Lib.hid he
      have hk1 : k ≤ 120 := by omega
      clear hr hcell he
      go_wp2_with (at_builtin; (refine ev_appx 26 38 _ 5 56 Tryd.underlying26 info38 rfl (by decide) rfl (.tmp 12) (.tmp 25) rfl w.heap.size u3 k ((es.take k).flatMap fun e => impCells e B) rfl (own_keep (S := Nowhere) HROW.out (((Mod.refl _ _).alloc _).alloc _) (fun _ _ h => h)) 1 (impCells e B) (src_imp wr _ e B) (by intro u hu; simp only [impCells, List.mem_cons, List.not_mem_nil, or_false] at hu; rcases hu with rfl | rfl | rfl | rfl | rfl <;> rfl) (by omega) (by decide) (((HM.out.alloc _).alloc _).size) ?_; intro v7 w7 hA hB hC; have HA := Lib.hid hA; have HB7 := Lib.hid hB; clear hA hB hC))
      go_roundg (es.length - (k + 1))
      case measure => have := HKQ.out; omega
      case rel =>
        refine ⟨k + 1, by go_num, by omega, rfl, hlt, ?_, ((HM.out.alloc _).alloc _).trans HB7.out fun x hx hs => by have := (World.ownsRow.lt HROW.out x hs).1; omega⟩
        have e7 : ((es.take (k + 1)).flatMap fun e => impCells e B) = ((es.take k).flatMap fun e => impCells e B) ++ impCells e B := by rw [List.take_add_one, HE.out]; simp
        rw [e7]
        exact HA.out
    · have hend : decide (k < es.length) = false := by simp; omega
      have hke : k = es.length := by omega
      subst hke
      go_wp2_with fail
      go_ret
      refine ⟨u3, rfl, ?_, HM.out⟩
      have := HROW.out
      rwa [List.take_length] at this

end Go.Proofs.YtkpiioiahdcpjaaDoor
