/- The walk of spec.trie. -/
import Derived.Test.YtkpiioiahdcpjaaDoorS
import Derived.Test.YtkpiioiahdcpjaaDoorD
namespace Go.Proofs.YtkpiioiahdcpjaaDoor
open Go.RowKit

/-- The exports lie at block lb from cell lo on. -/
def ExpsAt (w : World) (lb lo : Nat) (L : List Exp) : Prop := ∀ (i : Nat) (e : Exp), L[i]? = some e → ExpAt w lb (lo + i * 5) e
theorem ExpsAt.then {w w' : World} {lb lo : Nat} {L : List Exp} (h : ExpsAt w lb lo L) (hm : Mod Nowhere w w') : ExpsAt w' lb lo L := fun i e hi => (h i e hi).keep hm (fun h => h)

theorem addNode_tot (x : List UInt8) (k : Nat) (h : Option Nat) (s : Sh) : (addNode x k h s).2.tot ≤ s.tot + 2 := by
  unfold addNode; split
  · simp
  · exact addEdges_tot x k s
theorem addNode_all {P : List UInt8 → Prop} (hP : ∀ l n, P l → 0 < n → n < l.length → P (l.take n) ∧ P (l.drop n)) (x : List UInt8) (k : Nat) (h : Option Nat) (s : Sh) (hx : P x) (hs : s.all P) : (addNode x k h s).2.all P := by
  unfold addNode; split
  · exact hs
  · exact addEdges_all hP x k s hx hs
def short (l : List UInt8) : Prop := l.length ≤ 1000
theorem short_cut (l : List UInt8) (n : Nat) (h : short l) (_ : 0 < n) (_ : n < l.length) : short (l.take n) ∧ short (l.drop n) := by
  unfold short at *; simp; omega
def texts (L : List Exp) : List (List UInt8) := L.map fun e => e.name.data.toList

/-- The trie while it is made: k exports have been added. -/
structure Trie1 (w w' : World) (lb lo root : Nat) (L : List Exp) (k : Nat) (h : Option Nat) (es : Value) (kids : Tr) : Prop where
  knot : KnotAt w' w.heap.size lb lo root h es 0 kids
  at' : kids.At w' w.heap.size lb lo
  nodup : (knotFoot root es kids).Nodup
  mod : Mod Nowhere w w'
  sh : trieOf ((texts L).drop k) k (h, kids.sh) = trieOf (texts L) 0 (none, .nil)
  tot : kids.sh.tot ≤ 2 * k
  all : kids.sh.all short
  zero : kids.zero

theorem Trie1.base {w w' : World} {lb lo root : Nat} {L : List Exp} {k : Nat} {h : Option Nat} {es : Value} {kids : Tr} (t : Trie1 w w' lb lo root L k h es kids) (x : Nat) (hx : x ∈ knotFoot root es kids) : w.heap.size ≤ x := (knot_lt t.knot t.at' x hx).1

theorem Trie1.step {w w' w2 : World} {lb lo root : Nat} {L : List Exp} {k : Nat} {h : Option Nat} {es : Value} {kids : Tr} {e : Exp} {en : Ending} (t : Trie1 w w' lb lo root L k h es kids) (hk : L[k]? = some e) (hs : e.name.size ≤ 60)
    (hp : AddPost w' w.heap.size lb lo root 0 k e.name h es kids en w2) : en = .returned (.tuple #[]) ∧ ∃ h2 es2 kids2, Trie1 w w2 lb lo root L (k + 1) h2 es2 kids2 := by
  obtain ⟨he, h2, es2, kids2, p1, p2, p3, p4, p5, p6, p7⟩ := hp
  refine ⟨he, h2, es2, kids2, p1, p2, p3, ?_, ?_, ?_, ?_, p7 t.zero⟩
  · refine t.mod.trans p4 fun x hx hm => ?_
    have := t.base x hm
    omega
  · rw [← t.sh]
    have hd : (texts L).drop k = e.name.data.toList :: (texts L).drop (k + 1) := by
      have : (texts L)[k]? = some e.name.data.toList := by unfold texts; rw [List.getElem?_map, hk]; rfl
      obtain ⟨h1, h2⟩ := List.getElem?_eq_some_iff.1 this
      rw [List.drop_eq_getElem_cons h1, h2]
    rw [hd, trieOf, p6]
  · have := addNode_tot e.name.data.toList k h kids.sh
    rw [← p6] at this
    have := t.tot
    simp only at *; omega
  · have := addNode_all short_cut e.name.data.toList k h kids.sh (by unfold short; simp; omega) t.all
    rw [← p6] at this
    exact this

set_option maxHeartbeats 800000 in
set_option maxRecDepth 100000 in
theorem trie_any (w : World) (lb lo c : Nat) (L : List Exp) (hL : ExpsAt w lb lo L) (hn : L.length ≤ 60) (hx : ∀ e ∈ L, e.name.size ≤ 60) :
    Calls Tryd.prog 16 #[.slice (some ⟨lb, lo, none⟩) L.length c] w fun e w' => ∃ (root : Nat) (h : Option Nat) (es : Value) (kids : Tr), e = .returned (.pointer (some ⟨root, 0, none⟩)) ∧ Trie1 w w' lb lo root L L.length h es kids := by
  go_enter Tryd.func16, Tryd.ntmps16
  go_wp2_with fail
  go_loopg [9] L.length (fun kq v9 wr => ∃ k : Nat, v9 = .int .i64 k ∧ k ≤ L.length ∧ Hid (kq = L.length - k ∧ ∃ h es kids, Trie1 w wr lb lo w.heap.size L k h es kids))
  case atStart =>
    refine ⟨0, rfl, Nat.zero_le _, by omega, none, .slice none 0 0, .nil, ⟨Blk.new w 50 _, ⟨rfl, .inl ⟨rfl, rfl⟩⟩, Nat.le_refl _⟩, trivial, ?_, (Mod.refl _ _).alloc _, by simp [Tr.sh], by simp [Tr.sh, Sh.tot], trivial, trivial⟩
    have e0 : (Value.slice none 0 0).ownBlock.toList = [] := rfl
    simp [knotFoot, Tr.foot, e0]
  case round =>
    obtain ⟨k, rfl, hk, H⟩ := hrel
    by_cases hlt : k < L.length
    · have HLT : ((k : Int) < (L.length : Int)) := by omega
      have hkq := H.out.1
      obtain ⟨h, es, kids, ht⟩ := H.out.2
      have hLk : L[k]? = some L[k] := List.getElem?_eq_getElem hlt
      have hc := (hL.then ht.mod) k L[k] hLk
      have c0 : wr.cell? ⟨lb, lo + k * 5, none⟩ = some (.string L[k].name) := hc.1
      have hsz := hx L[k] (List.getElem_mem hlt)
      have HT := Lib.hid ht
      have HKQ := Lib.hid hkq
      have HLk := Lib.hid hLk
      clear H ht hkq hLk hc
      generalize L[k] = e at *
      go_wp2_with fail
      go_still_tail 9, (by kernel_rfl)
      change wpList _ _ _ _ _ wr.drew
      clear c0
      generalize hw8 : wr.drew = w8
      go_wp2_with fail
      subst hw8
      refine (add_any w.heap.size lb lo k 60 e.name hsz (by omega) wr.drew w.heap.size 0 h es kids HT.out.mod.size HT.out.knot.drew HT.out.at'.drew HT.out.nodup (by rw [← Tr.sh_tot]; have := HT.out.tot; omega) (Tr.labs_of HT.out.all)).mono ?_
      intro en w9 hp
      obtain ⟨he, hst⟩ := HT.out.step HLk.out hsz hp.undrew
      subst he
      have HST := Lib.hid hst
      clear hp hst
      go_wp2_with fail
      go_roundg (L.length - (k + 1))
      case measure => have := HKQ.out; omega
      case rel => exact ⟨k + 1, by go_num, by omega, by omega, HST.out⟩
    · have hend : decide (k < L.length) = false := by simp; omega
      have e : k = L.length := by omega
      subst e
      obtain ⟨h, es, kids, ht⟩ := H.out.2
      have HT := Lib.hid ht
      clear H ht
      go_wp2_with fail
      go_ret
      exact ⟨_, h, es, kids, rfl, HT.out⟩

end Go.Proofs.YtkpiioiahdcpjaaDoor
