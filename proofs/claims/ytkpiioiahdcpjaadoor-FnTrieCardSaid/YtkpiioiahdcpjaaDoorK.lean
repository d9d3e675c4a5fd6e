/- The reader of bytes: NewReader, ReadByte, Seek. -/
import Derived.Test.YtkpiioiahdcpjaaDoorF
import Derived.BigQuiet
import Derived.Deep.QuietTactic
namespace Go.Proofs.YtkpiioiahdcpjaaDoor
open Go.RowKit

/-- A reader at block r over the bytes at block d, at place i. -/
structure Rd (w : World) (r d c : Nat) (data : List UInt8) (i : Nat) : Prop where
  blk : ∃ pr : Int, Blk w r 91 #[.slice (some ⟨d, 0, none⟩) data.length c, .int .i64 i, .int .i64 pr]
  dat : ∀ (j : Nat) (b : UInt8), data[j]? = some b → w.cell? ⟨d, j, none⟩ = some (.int .u8 b.toNat)
  lt : d < w.heap.size
  ne : d ≠ r
  ne0 : r ≠ 0
  eof : ∃ t v, w.cell? ⟨0, 0, none⟩ = some (.iface t v)
  len : data.length ≤ 2000000

section
variable {w w' : World} {r d c i : Nat} {data : List UInt8}
theorem Rd.keep {S : Nat → Prop} (h : Rd w r d c data i) (hm : Mod S w w') (h1 : ¬ S r) (h2 : ¬ S d) (h3 : ¬ S 0) : Rd w' r d c data i := by
  obtain ⟨et, ev, he⟩ := h.eof
  obtain ⟨pr, hb⟩ := h.blk
  exact ⟨⟨pr, hb.keep hm h1⟩, fun j b hj => hm.keeps (h.dat j b hj) h2, hm.size_lt h.lt, h.ne, h.ne0, ⟨et, ev, hm.keeps he h3⟩, h.len⟩
theorem Rd.then (h : Rd w r d c data i) (hm : Mod Nowhere w w') : Rd w' r d c data i := h.keep hm (fun h => h) (fun h => h) (fun h => h)
theorem Rd.lt_r (h : Rd w r d c data i) : r < w.heap.size := by obtain ⟨pr, hb⟩ := h.blk; exact hb.lt
theorem Rd.drew (h : Rd w r d c data i) : Rd w.drew r d c data i := h.then (Mod.refl _ w).drew
theorem Rd.undrew (h : Rd w.drew r d c data i) : Rd w r d c data i := by
  obtain ⟨pr, hb⟩ := h.blk
  exact ⟨⟨pr, hb⟩, h.dat, h.lt, h.ne, h.ne0, h.eof, h.len⟩
theorem Rd.put (h : Rd w r d c data i) (k : Nat) : Rd (w.setCell ⟨r, 1, none⟩ (.int .i64 k)) r d c data k := by
  obtain ⟨pr, hb⟩ := h.blk
  have hm : Mod (fun x => x = r) w (w.setCell ⟨r, 1, none⟩ (.int .i64 k)) := Mod.setCell (S := fun x => x = r) (Mod.refl _ _) (p := ⟨r, 1, none⟩) (fun _ => rfl) _
  exact ⟨⟨pr, hb.put 1 _⟩, fun j b hj => hm.keeps (h.dat j b hj) h.ne, hm.size_lt h.lt, h.ne, h.ne0, h.eof.imp fun _ ⟨v, he⟩ => ⟨v, hm.keeps he (fun e => h.ne0 e.symm)⟩, h.len⟩
theorem Rd.prev (h : Rd w r d c data i) (k : Int) : Rd (w.setCell ⟨r, 2, none⟩ (.int .i64 k)) r d c data i := by
  obtain ⟨pr, hb⟩ := h.blk
  have hm : Mod (fun x => x = r) w (w.setCell ⟨r, 2, none⟩ (.int .i64 k)) := Mod.setCell (S := fun x => x = r) (Mod.refl _ _) (p := ⟨r, 2, none⟩) (fun _ => rfl) _
  exact ⟨⟨k, hb.put 2 _⟩, fun j b hj => hm.keeps (h.dat j b hj) h.ne, hm.size_lt h.lt, h.ne, h.ne0, h.eof.imp fun _ ⟨v, he⟩ => ⟨v, hm.keeps he (fun e => h.ne0 e.symm)⟩, h.len⟩
theorem mod_r (w : World) (r k : Nat) (v : Value) : Mod (fun x => x = r) w (w.setCell ⟨r, k, none⟩ v) := Mod.setCell (S := fun x => x = r) (Mod.refl _ _) (p := ⟨r, k, none⟩) (fun _ => rfl) _
end

theorem equalIn_nil_held {P : Program} (w : World) (d : Nat) (t u : TypeId) (x : Value) (h : P.underlying t = some (.interface (P.methodsAt t))) : (Op.equalIn (d + 1) t .nilIface (.iface u x)).run P w = .ok false w := by
  simp [Op.equalIn, run_underlying h]
/-- nil is not the end of input. -/
theorem eql_nil_held (w : World) (t : TypeId) (v : Value) : (binOp .eql 58 .nilIface (.iface t v)).run Tryd.prog w = .ok (.bool false) w := by
  have h : Tryd.prog.underlying 58 = some (.interface (Tryd.prog.methodsAt 58)) := by kernel_rfl
  have h2 : (Op.equal 58 .nilIface (.iface t v)).run Tryd.prog w = .ok false w := equalIn_nil_held w 9999 58 t v h
  simp only [binOp]
  simp [h2]

set_option maxHeartbeats 400000 in
set_option maxRecDepth 100000 in
theorem readByte_any (w : World) (r d c i : Nat) (data : List UInt8) (h : Rd w r d c data i) (b : UInt8) (hb : data[i]? = some b) :
    Calls Tryd.prog 52 #[.pointer (some ⟨r, 0, none⟩)] w fun e w' => e = .returned (.tuple #[.int .u8 b.toNat, .nilIface]) ∧ Rd w' r d c data (i + 1) ∧ Mod (fun x => x = r) w w' := by
  obtain ⟨pr, hB⟩ := h.blk
  have f2 : w.frozen? ⟨r, 2, none⟩ = false := hB.frozen 2
  have x2 : w.cell? ⟨r, 2, none⟩ = some (.int .i64 pr) := hB.cell 2
  have hil : i < data.length := (List.getElem?_eq_some_iff.1 hb).1
  have hlen := h.len
  have h1 := h.prev (-1)
  have HM1 := Lib.hid (mod_r w r 2 (.int .i64 (-1)))
  have hge : decide (data.length ≤ i) = false := by simp; omega
  have H1 := Lib.hid h1
  clear h hB
  go_enter Tryd.func52, Tryd.ntmps52
  go_wp2_with fail
  clear x2 f2
  generalize w.setCell ⟨r, 2, none⟩ (.int .i64 (-1)) = w1 at *
  obtain ⟨pr1, hB1⟩ := H1.out.blk
  have y0 : w1.cell? ⟨r, 0, none⟩ = some (.slice (some ⟨d, 0, none⟩) data.length c) := hB1.cell 0
  have y1 : w1.cell? ⟨r, 1, none⟩ = some (.int .i64 i) := hB1.cell 1
  have g1 : w1.frozen? ⟨r, 1, none⟩ = false := hB1.frozen 1
  have yd : w1.cell? ⟨d, i, none⟩ = some (.int .u8 b.toNat) := H1.out.dat i b hb
  clear hB1 h1
  go_quiet (fail)
  go_wp2_with fail
  go_quiet (fail)
  go_wp2_with fail
  go_ret2
  rename_i n1
  generalize n1 + nq = nn
  have hd : Rd (w1.drewN nn) r d c data i := H1.out.then ((Mod.refl _ w1).drewN _)
  refine ⟨rfl, hd.put (i + 1), (HM1.out.drewN nn).trans (mod_r _ r 1 _) fun x _ hx => hx⟩

set_option maxHeartbeats 400000 in
set_option maxRecDepth 100000 in
/-- Seek from the start. -/
theorem seek_set (w : World) (r d c i k : Nat) (data : List UInt8) (h : Rd w r d c data i) :
    Calls Tryd.prog 34 #[.pointer (some ⟨r, 0, none⟩), .int .i64 k, .int .i64 0] w fun e w' => e = .returned (.tuple #[.int .i64 k, .nilIface]) ∧ Rd w' r d c data k ∧ Mod (fun x => x = r) w w' := by
  obtain ⟨pr, hB⟩ := h.blk
  have f2 : w.frozen? ⟨r, 2, none⟩ = false := hB.frozen 2
  have x2 : w.cell? ⟨r, 2, none⟩ = some (.int .i64 pr) := hB.cell 2
  have h1 := h.prev (-1)
  have HM1 := Lib.hid (mod_r w r 2 (.int .i64 (-1)))
  have H1 := Lib.hid h1
  have hk : decide ((k : Int) < 0) = false := by simp
  clear h hB
  obtain ⟨pr1, hB1⟩ := H1.out.blk
  have y1 : (w.setCell ⟨r, 2, none⟩ (.int .i64 (-1))).cell? ⟨r, 1, none⟩ = some (.int .i64 i) := hB1.cell 1
  have g1 : (w.setCell ⟨r, 2, none⟩ (.int .i64 (-1))).frozen? ⟨r, 1, none⟩ = false := hB1.frozen 1
  clear hB1 h1
  go_enter Tryd.func34, Tryd.ntmps34
  go_wp2_with fail
  go_ret2
  exact ⟨rfl, H1.out.put k, HM1.out.trans (mod_r _ r 1 _) fun x _ hx => hx⟩

set_option maxHeartbeats 400000 in
set_option maxRecDepth 100000 in
/-- Where the reader is. -/
theorem seek_cur (w : World) (r d c i : Nat) (data : List UInt8) (h : Rd w r d c data i) (hi : i ≤ 4000000) :
    Calls Tryd.prog 34 #[.pointer (some ⟨r, 0, none⟩), .int .i64 0, .int .i64 1] w fun e w' => e = .returned (.tuple #[.int .i64 i, .nilIface]) ∧ Rd w' r d c data i ∧ Mod (fun x => x = r) w w' := by
  obtain ⟨pr, hB⟩ := h.blk
  have f2 : w.frozen? ⟨r, 2, none⟩ = false := hB.frozen 2
  have x2 : w.cell? ⟨r, 2, none⟩ = some (.int .i64 pr) := hB.cell 2
  have h1 := h.prev (-1)
  have HM1 := Lib.hid (mod_r w r 2 (.int .i64 (-1)))
  have H1 := Lib.hid h1
  have hk : decide ((i : Int) < 0) = false := by simp
  clear h hB
  obtain ⟨pr1, hB1⟩ := H1.out.blk
  have y1 : (w.setCell ⟨r, 2, none⟩ (.int .i64 (-1))).cell? ⟨r, 1, none⟩ = some (.int .i64 i) := hB1.cell 1
  have g1 : (w.setCell ⟨r, 2, none⟩ (.int .i64 (-1))).frozen? ⟨r, 1, none⟩ = false := hB1.frozen 1
  clear hB1 h1
  go_enter Tryd.func34, Tryd.ntmps34
  go_wp2_with fail
  go_ret2
  exact ⟨rfl, H1.out.put i, HM1.out.trans (mod_r _ r 1 _) fun x _ hx => hx⟩

set_option maxHeartbeats 400000 in
set_option maxRecDepth 100000 in
theorem newReader_any (w : World) (d c : Nat) (data : List UInt8) (hd : ∀ (j : Nat) (b : UInt8), data[j]? = some b → w.cell? ⟨d, j, none⟩ = some (.int .u8 b.toNat)) (hlt : d < w.heap.size) (heof : ∃ t v, w.cell? ⟨0, 0, none⟩ = some (.iface t v)) (hl : data.length ≤ 2000000) :
    Calls Tryd.prog 22 #[.slice (some ⟨d, 0, none⟩) data.length c] w fun e w' => ∃ r, e = .returned (.pointer (some ⟨r, 0, none⟩)) ∧ w.heap.size ≤ r ∧ Rd w' r d c data 0 ∧ Mod Nowhere w w' := by
  have HD := Lib.hid hd
  clear hd
  go_enter Tryd.func22, Tryd.ntmps22
  go_wp2_with fail
  go_ret
  have hm := (Mod.refl Nowhere w).alloc (.cells #[.slice (some ⟨d, 0, none⟩) data.length c, .int .i64 0, .int .i64 (-1)] 91)
  exact ⟨w.heap.size, rfl, Nat.le_refl _, ⟨⟨-1, Blk.new w 91 _⟩, fun j b hj => hm.keeps (HD.out j b hj) (fun h => h), hm.size_lt hlt, by omega, by omega, heof.imp fun _ ⟨v, he⟩ => ⟨v, hm.keeps he (fun h => h)⟩, hl⟩, hm⟩

end Go.Proofs.YtkpiioiahdcpjaaDoor
