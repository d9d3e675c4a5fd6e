/- impl.Trie. -/
import Derived.Test.YtkpiioiahdcpjaaDoorZ
import Derived.Defers
import Derived.Recover
import Derived.Laws.Pointers
namespace Go.Proofs.YtkpiioiahdcpjaaDoor
open Go.RowKit

theorem catch_idle (p q : Addr) (w : World) :
    CallsD Tryd.prog 12 #[.pointer (some p), .pointer (some q)] .returning w fun e u' w' => e = .returned (.tuple #[]) ∧ u' = .returning ∧ w' = w := by
  refine callsD_of_wpS Tryd.func12 rfl fun c₀ cs hu => ?_
  apply wpS_seq
  apply wpS_region
  simp [wpOpsS, go_sem, recoverD, hu, Tryd.ntmps12, Exit.thenS]
  refine wpS_cond (t := false) (by simp [Act.eval, Array.replicate]) ?_
  simp only [Bool.false_eq_true, if_false]
  refine wpS_of_wp (wp_skip ?_)
  cases c₀
  simp_all [bodyPostS, results, Tryd.results12]

theorem row_shape {w : World} {base size n : Nat} {e : TypeId} {v : Value} {xs : List Value} (h : w.ownsRow base e size v n xs) : ∃ A c, v = .slice A n c := by
  rcases h.2 with ⟨rfl, h0⟩ | ⟨g, cap, cur, rfl, _⟩
  · exact ⟨none, 0, by rw [h0]⟩
  · exact ⟨_, cap, rfl⟩

set_option maxHeartbeats 1600000 in
set_option maxRecDepth 100000 in
theorem implTrie_any (L : List Exp) (p : Nat → Nat) (data : List UInt8) (base b c B : Nat) (n : Nd) (w : World) (hd : Byt w base (.slice (some ⟨b, 0, none⟩) data.length c) data) (hdl : 0 < data.length ∧ data.length ≤ 2000000) (heof : ∃ t v, w.cell? ⟨0, 0, none⟩ = some (.iface t v))
    (hl : Laid L p data (n :: n.kids.nodes)) (h0 : p n.id = 0) (ht : n.kids.tot ≤ 120) (hB : B ≤ 1099511627776) (es : List Exp) (hf : Found data (ptsN p [] n) es) (hes : es.length ≤ 121) (hfl : ∀ e ∈ es, e.flags < 32) :
    Calls Tryd.prog 7 #[.slice (some ⟨b, 0, none⟩) data.length c, .int .u64 B] w fun e w' => ∃ v, e = .returned (.tuple #[v, .bool true]) ∧ w'.ownsRow w.heap.size 38 5 v es.length (es.flatMap fun e => impCells e B) ∧ Mod Nowhere w w' := by
  have hmf : ∀ (fn : Fn) (first cap : Array Value) (w : World), (Instr.makeFunc fn first cap).run Tryd.prog w = .ok (.func fn first cap) w := fun _ _ _ _ => rfl
  have HD := Lib.hid hd
  have HE := Lib.hid heof
  have HL := Lib.hid hl
  have HF := Lib.hid hf
  have HFL := Lib.hid hfl
  clear hd heof hl hf hfl
  go_enter_defers Tryd.func7, Tryd.ntmps7
  go_wp2_with fail
  have BA : Hid (Blk ((w.alloc (.cells #[.slice none 0 0] 26)).alloc (.cells #[.bool false] 4)) w.heap.size 26 #[.slice none 0 0]) := (Blk.new w 26 _).alloc _
  have BB : Hid (Blk ((w.alloc (.cells #[.slice none 0 0] 26)).alloc (.cells #[.bool false] 4)) (w.heap.size + 1) 4 #[.bool false]) := by
    have h := Blk.new (w.alloc (.cells #[.slice none 0 0] 26)) 4 #[.bool false]
    rwa [show (w.alloc (.cells #[.slice none 0 0] 26)).heap.size = w.heap.size + 1 by simp] at h
  have M2 : Hid (Mod Nowhere w ((w.alloc (.cells #[.slice none 0 0] 26)).alloc (.cells #[.bool false] 4))) := ((Mod.refl _ _).alloc _).alloc _
  generalize (w.alloc (.cells #[.slice none 0 0] 26)).alloc (.cells #[.bool false] 4) = w2 at *
  refine (clone_any w2 base b c data (HD.out.then M2.out) hdl.2).mono ?_
  rintro en w3 ⟨v3, rfl, hb3, hm3⟩
  obtain ⟨d, c3, hv3, _, _⟩ := World.ownsRow.form hb3 hdl.1
  subst hv3
  have HB3 := Lib.hid hb3
  have M3 := Lib.hid hm3
  clear hb3 hm3
  go_wp2_with fail
  refine (exports13_any L p data w2.heap.size d c3 B n w3 HB3.out hdl (HE.out.imp fun _ ⟨v, he⟩ => ⟨v, (M2.out.then M3.out).keeps he (fun h => h)⟩) HL.out h0 ht hB es HF.out).mono ?_
  rintro en w4 ⟨v4, rfl, hr4, hm4⟩
  have HR4 := Lib.hid hr4
  have M4 := Lib.hid hm4
  clear hr4 hm4
  go_wp2_with fail
  refine (exports15_any B w3.heap.size es v4 w4 HR4.out hes HFL.out).mono ?_
  rintro en w5 ⟨v5, rfl, hr5, hm5⟩
  obtain ⟨A5, c5, hv5⟩ := row_shape hr5
  subst hv5
  have HR5 := Lib.hid hr5
  have M5 : Hid (Mod Nowhere w2 w5) := (M3.out.then M4.out).then hm5
  have M45 := Lib.hid hm5
  clear hr5 hm5
  have BA5 := BA.out.keep M5.out (fun h => h)
  have BB5 := BB.out.keep M5.out (fun h => h)
  have xa := BA5.cell 0
  have fa := BA5.frozen 0
  have xb := BB5.cell 0
  have fb := BB5.frozen 0
  clear BA5 BB5
  go_wp2_with fail
  have hlt5 : w.heap.size + 1 < w5.heap.size := (BB.out.keep M5.out (fun h => h)).lt
  have MF : Hid (Mod Nowhere w ((w5.setCell ⟨w.heap.size, 0, none⟩ (.slice A5 es.length c5)).setCell ⟨w.heap.size + 1, 0, none⟩ (.bool true))) :=
    ((M2.out.then M5.out).trans (mod_r w5 w.heap.size 0 _) fun x hx e => by omega).trans (mod_r _ (w.heap.size + 1) 0 _) fun x hx e => by omega
  have hs34 : w2.heap.size ≤ w4.heap.size := (M3.out.then M4.out).size
  have hs4 : w.heap.size + 1 < w4.heap.size := Nat.lt_of_lt_of_le BB.out.lt hs34
  have HRF : Hid (((w5.setCell ⟨w.heap.size, 0, none⟩ (.slice A5 es.length c5)).setCell ⟨w.heap.size + 1, 0, none⟩ (.bool true)).ownsRow w.heap.size 38 5 (.slice A5 es.length c5) es.length (es.flatMap fun e => impCells e B)) := by
    have hge : ∀ k, (Value.slice A5 es.length c5).ownBlock = some k → w4.heap.size ≤ k := fun k hk => (World.ownsRow.lt HR5.out k hk).1
    exact row_mono (own_keep (own_keep HR5.out (mod_r w5 w.heap.size 0 (.slice A5 es.length c5)) (fun k hk e => by have := hge k hk; omega)) (mod_r _ (w.heap.size + 1) 0 (.bool true)) (fun k hk e => by have := hge k hk; omega)) (by omega)
  have ya : ((w5.setCell ⟨w.heap.size, 0, none⟩ (.slice A5 es.length c5)).setCell ⟨w.heap.size + 1, 0, none⟩ (.bool true)).cell? ⟨w.heap.size, 0, none⟩ = some (.slice A5 es.length c5) := by
    have h := ((BA.out.keep M5.out (fun h => h)).put 0 (.slice A5 es.length c5)).keep (mod_r _ (w.heap.size + 1) 0 (.bool true)) (fun e => by omega)
    exact h.cell 0
  have yb : ((w5.setCell ⟨w.heap.size, 0, none⟩ (.slice A5 es.length c5)).setCell ⟨w.heap.size + 1, 0, none⟩ (.bool true)).cell? ⟨w.heap.size + 1, 0, none⟩ = some (.bool true) := by
    have h := ((BB.out.keep M5.out (fun h => h)).keep (mod_r _ w.heap.size 0 (.slice A5 es.length c5)) (fun e => by omega)).put 0 (.bool true)
    exact h.cell 0
  clear xa xb fa fb
  generalize (w5.setCell ⟨w.heap.size, 0, none⟩ (.slice A5 es.length c5)).setCell ⟨w.heap.size + 1, 0, none⟩ (.bool true) = wF at *
  refine leaves_cons (f := 12) (args := #[.pointer (some ⟨w.heap.size, 0, none⟩), .pointer (some ⟨w.heap.size + 1, 0, none⟩)]) (by simp) (by simp [go_sem]) ?_
  refine (catch_idle _ _ _).mono ?_
  rintro e u' w'' ⟨rfl, rfl, rfl⟩
  simp [Leaves, settle, results, Tryd.results7, go_sem, ya, yb]
  exact ⟨HRF.out, MF.out⟩

end Go.Proofs.YtkpiioiahdcpjaaDoor
