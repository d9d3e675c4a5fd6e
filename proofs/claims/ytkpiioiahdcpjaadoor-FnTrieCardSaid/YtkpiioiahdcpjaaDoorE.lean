/- The trie in memory: what becomes of it when a part of it turns. -/
import Derived.Test.YtkpiioiahdcpjaaDoorX
namespace Go.Proofs.YtkpiioiahdcpjaaDoor
open Go.RowKit

theorem foot_edge (lab : ByteArray) (id : Nat) (h : Option Nat) (es : Value) (pos : Nat) (kids tl : Tr) : (Tr.edge lab id h es pos kids tl).foot = knotFoot id es kids ++ tl.foot := rfl
theorem own_mem {es : Value} {k : Nat} (id : Nat) (kids : Tr) (h : es.ownBlock = some k) : k ∈ knotFoot id es kids := by
  simp [knotFoot, h]
theorem knot_lt {w : World} {base lb lo id pos : Nat} {here : Option Nat} {es : Value} {kids : Tr} (hk : KnotAt w base lb lo id here es pos kids) (hat : kids.At w base lb lo) : ∀ x ∈ knotFoot id es kids, base ≤ x ∧ x < w.heap.size := fun x hx => by
  simp only [knotFoot, List.mem_cons, List.mem_append] at hx
  rcases hx with rfl | hx | hx
  · exact ⟨hk.2.2, hk.1.lt⟩
  · have : es.ownBlock = some x := by cases he : es.ownBlock <;> simp_all
    exact World.ownsRow.lt hk.2.1 x this
  · exact hat.foot_lt x hx
theorem knotFoot_app (id : Nat) (es : Value) (a b : Tr) : knotFoot id es (a.app b) = id :: (es.ownBlock.toList ++ a.foot ++ b.foot) := by
  simp [knotFoot, Tr.foot_app]

/-- One node below has turned: what becomes of the node above it. -/
theorem down_post {w w' : World} {base lb lo id pos cid cpos : Nat} {here ch ch' : Option Nat} {es ces ces' : Value} {pre tl ck ck' : Tr} {lab : ByteArray}
    (hk : KnotAt w base lb lo id here es pos (pre.app (.edge lab cid ch ces cpos ck tl))) (hat : (pre.app (.edge lab cid ch ces cpos ck tl)).At w base lb lo)
    (hnd : (knotFoot id es (pre.app (.edge lab cid ch ces cpos ck tl))).Nodup)
    (hk' : KnotAt w' base lb lo cid ch' ces' cpos ck') (hat' : ck'.At w' base lb lo) (hnd' : (knotFoot cid ces' ck').Nodup)
    (hm : Mod (· ∈ knotFoot cid ces ck) w w') (hsub : ∀ x ∈ knotFoot cid ces' ck', x ∈ knotFoot cid ces ck ∨ w.heap.size ≤ x) :
    KnotAt w' base lb lo id here es pos (pre.app (.edge lab cid ch' ces' cpos ck' tl)) ∧ (pre.app (.edge lab cid ch' ces' cpos ck' tl)).At w' base lb lo ∧
    (knotFoot id es (pre.app (.edge lab cid ch' ces' cpos ck' tl))).Nodup ∧ Mod (· ∈ knotFoot id es (pre.app (.edge lab cid ch ces cpos ck tl))) w w' ∧
    ∀ x ∈ knotFoot id es (pre.app (.edge lab cid ch' ces' cpos ck' tl)), x ∈ knotFoot id es (pre.app (.edge lab cid ch ces cpos ck tl)) ∨ w.heap.size ≤ x := by
  have hlt := knot_lt hk hat
  rw [knotFoot_app, foot_edge] at hnd hlt
  simp only [List.nodup_cons, List.nodup_append, List.mem_append, List.mem_cons] at hnd hlt
  obtain ⟨hid, ⟨⟨hown, hpre, hop⟩, ⟨hc, htl, hct⟩, hall⟩⟩ := hnd
  have nid : id ∉ knotFoot cid ces ck := fun h => hid (.inr (.inl h))
  have nown : ∀ k, es.ownBlock = some k → k ∉ knotFoot cid ces ck := fun k hk h => hall k (.inl (by simp [hk])) k (.inl h) rfl
  have npre : ∀ x ∈ pre.foot, x ∉ knotFoot cid ces ck := fun x hx h => hall x (.inr hx) x (.inl h) rfl
  have ntl : ∀ x ∈ tl.foot, x ∉ knotFoot cid ces ck := fun x hx h => hct x h x hx rfl
  obtain ⟨hpat, hcat⟩ := hat.parts
  refine ⟨⟨hk.1.keep hm nid, ?_, hk.2.2⟩, hpat.keep hm npre |>.app ⟨hk', hat', hcat.2.2.keep hm ntl⟩, ?_, ?_, ?_⟩
  · have := own_keep hk.2.1 hm nown
    rw [Tr.num_app, Tr.cells_app] at this ⊢
    exact this
  · rw [knotFoot_app, foot_edge]
    have lid := (hlt id (.inl rfl)).2
    have lown : ∀ k, k ∈ es.ownBlock.toList → k < w.heap.size := fun k hk => (hlt k (.inr (.inl (.inl hk)))).2
    have lpre : ∀ k ∈ pre.foot, k < w.heap.size := fun k hk => (hlt k (.inr (.inl (.inr hk)))).2
    have ltl : ∀ k ∈ tl.foot, k < w.heap.size := fun k hk => (hlt k (.inr (.inr (.inr hk)))).2
    simp only [List.nodup_cons, List.nodup_append, List.mem_append]
    refine ⟨?_, ⟨hown, hpre, hop⟩, ⟨hnd', htl, ?_⟩, ?_⟩
    · rintro ((h | h) | (h | h))
      · exact hid (.inl (.inl h))
      · exact hid (.inl (.inr h))
      · rcases hsub id h with h | h
        · exact nid h
        · omega
      · exact hid (.inr (.inr h))
    · rintro x hx y hy rfl
      rcases hsub x hx with h | h
      · exact hct x h x hy rfl
      · have := ltl x hy; omega
    · rintro x hx y hy rfl
      rcases hy with hy | hy
      · rcases hsub x hy with h | h
        · exact hall x hx x (.inl h) rfl
        · rcases hx with hx | hx
          · have := lown x hx; omega
          · have := lpre x hx; omega
      · exact hall x hx x (.inr hy) rfl
  · refine hm.mono fun x _ hx => ?_
    rw [knotFoot_app, foot_edge]
    simp only [List.mem_cons, List.mem_append]
    exact .inr (.inr (.inl hx))
  · intro x hx
    rw [knotFoot_app, foot_edge] at hx ⊢
    simp only [List.mem_cons, List.mem_append] at hx ⊢
    rcases hx with hx | (hx | hx) | (hx | hx)
    · exact .inl (.inl hx)
    · exact .inl (.inr (.inl (.inl hx)))
    · exact .inl (.inr (.inl (.inr hx)))
    · rcases hsub x hx with h | h
      · exact .inl (.inr (.inr (.inl h)))
      · exact .inr h
    · exact .inl (.inr (.inr (.inr hx)))

theorem KnotAt.slice {w : World} {base lb lo id pos : Nat} {here : Option Nat} {es : Value} {kids : Tr} (h : KnotAt w base lb lo id here es pos kids) : ∃ A c, es = .slice A kids.num c ∧ kids.num ≤ c := by
  rcases h.2.1.2 with ⟨rfl, h0⟩ | ⟨g, cap, cur, rfl, _, _, hc, _⟩
  · exact ⟨none, 0, by rw [h0], by omega⟩
  · exact ⟨_, cap, rfl, hc⟩
theorem KnotAt.edge {w : World} {base lb lo id pos cid cpos n c : Nat} {A : Option Addr} {here ch : Option Nat} {ces : Value} {pre tl ck : Tr} {lab : ByteArray}
    (h : KnotAt w base lb lo id here (.slice A n c) pos (pre.app (.edge lab cid ch ces cpos ck tl))) :
    ∃ a, A = some ⟨a, 0, none⟩ ∧ w.cell? ⟨a, pre.num * 2, none⟩ = some (.string lab) ∧ w.cell? ⟨a, pre.num * 2 + 1, none⟩ = some (.pointer (some ⟨cid, 0, none⟩)) ∧
      w.frozen? ⟨a, pre.num * 2, none⟩ = false ∧ w.frozen? ⟨a, pre.num * 2 + 1, none⟩ = false ∧ n = (pre.app (.edge lab cid ch ces cpos ck tl)).num := by
  obtain ⟨_, hown, _⟩ := h
  obtain ⟨g, cap, hv, _, _⟩ := hown.form (by rw [Tr.num_app]; simp only [Tr.num]; omega)
  injection hv with h1 h2 h3
  subst h1; subst h2; subst h3
  have hl : (pre.app (.edge lab cid ch ces cpos ck tl)).cells.length = (pre.app (.edge lab cid ch ces cpos ck tl)).num * 2 := Tr.cells_length _
  have hn : (pre.app (.edge lab cid ch ces cpos ck tl)).num = pre.num + tl.num + 1 := by rw [Tr.num_app]; simp [Tr.num]; omega
  refine ⟨g, rfl, ?_, ?_, hown.frozenAt _, hown.frozenAt _, rfl⟩
  · rw [hown.cellAt _ (by omega), Tr.cells_app, List.getElem?_append_right (by rw [Tr.cells_length]; omega), Tr.cells_length]
    simp [Tr.cells]
  · rw [hown.cellAt _ (by omega), Tr.cells_app, List.getElem?_append_right (by rw [Tr.cells_length]; omega), Tr.cells_length]
    simp [Tr.cells]


theorem own_list (a o : Nat) (s : Option Nat) (n c : Nat) : (Value.slice (some ⟨a, o, s⟩) n c).ownBlock.toList = [a] := rfl
theorem own_toList {es : Value} {k : Nat} (h : es.ownBlock = some k) : k ∈ es.ownBlock.toList := by simp [h]

theorem Tr.At.none {w : World} {base lb lo : Nat} : Tr.nil.At w base lb lo := trivial

theorem set_two {xs ys : List Value} {a b a' b' : Value} {p : Nat} (hp : xs.length = p * 2) : ((xs ++ a :: b :: ys).set (p * 2) a').set (p * 2 + 1) b' = xs ++ a' :: b' :: ys := by
  rw [← hp]
  rw [List.set_append_right _ _ (Nat.le_refl _), Nat.sub_self, List.set_append_right _ _ (by omega)]
  simp

/-- An edge has been parted: a new node stands between. -/
theorem split_post {w w0 : World} {base lb lo id pos cid cpos a n c : Nat} {here ch : Option Nat} {ces : Value} {pre tl ck : Tr} {lab labn labr : ByteArray}
    (hk : KnotAt w base lb lo id here (.slice (some ⟨a, 0, none⟩) n c) pos (pre.app (.edge lab cid ch ces cpos ck tl))) (hat : (pre.app (.edge lab cid ch ces cpos ck tl)).At w base lb lo)
    (hnd : (knotFoot id (.slice (some ⟨a, 0, none⟩) n c) (pre.app (.edge lab cid ch ces cpos ck tl))).Nodup) (hm0 : Mod Nowhere w w0) (hb : base ≤ w.heap.size) :
    ∀ W, W = (((w0.alloc (.cells #[.string labr, .pointer (some ⟨cid, 0, none⟩)] 52)).alloc (.cells #[.pointer none, .slice (some ⟨w0.heap.size, 0, none⟩) 1 1, .int .u64 0] 50)).setCell ⟨a, pre.num * 2, none⟩ (.string labn)).setCell ⟨a, pre.num * 2 + 1, none⟩ (.pointer (some ⟨w0.heap.size + 1, 0, none⟩)) →
    KnotAt W base lb lo id here (.slice (some ⟨a, 0, none⟩) n c) pos (pre.app (.edge labn (w0.heap.size + 1) none (.slice (some ⟨w0.heap.size, 0, none⟩) 1 1) 0 (.edge labr cid ch ces cpos ck .nil) tl)) ∧
    (pre.app (.edge labn (w0.heap.size + 1) none (.slice (some ⟨w0.heap.size, 0, none⟩) 1 1) 0 (.edge labr cid ch ces cpos ck .nil) tl)).At W base lb lo ∧
    (knotFoot id (.slice (some ⟨a, 0, none⟩) n c) (pre.app (.edge labn (w0.heap.size + 1) none (.slice (some ⟨w0.heap.size, 0, none⟩) 1 1) 0 (.edge labr cid ch ces cpos ck .nil) tl))).Nodup ∧
    Mod (· ∈ knotFoot id (.slice (some ⟨a, 0, none⟩) n c) (pre.app (.edge lab cid ch ces cpos ck tl))) w W ∧
    (∀ x ∈ knotFoot id (.slice (some ⟨a, 0, none⟩) n c) (pre.app (.edge labn (w0.heap.size + 1) none (.slice (some ⟨w0.heap.size, 0, none⟩) 1 1) 0 (.edge labr cid ch ces cpos ck .nil) tl)), x ∈ knotFoot id (.slice (some ⟨a, 0, none⟩) n c) (pre.app (.edge lab cid ch ces cpos ck tl)) ∨ w.heap.size ≤ x) := by
  intro W hW
  have hlt := knot_lt hk hat
  have hnd0 := hnd
  have hsz := hm0.size
  have hza : a < w.heap.size := (hlt a (own_mem (k := a) _ _ rfl)).2
  have ha0 : a ∈ knotFoot id (.slice (some ⟨a, 0, none⟩) n c) (pre.app (.edge lab cid ch ces cpos ck tl)) := own_mem _ _ rfl
  rw [knotFoot_app, foot_edge] at hnd hlt
  simp only [knotFoot, own_list, List.cons_append, List.nil_append, List.nodup_cons, List.nodup_append, List.mem_append, List.mem_cons] at hnd hlt
  -- the world behind the two new blocks
  have hm1 : Mod Nowhere w ((w0.alloc (.cells #[.string labr, .pointer (some ⟨cid, 0, none⟩)] 52)).alloc (.cells #[.pointer none, .slice (some ⟨w0.heap.size, 0, none⟩) 1 1, .int .u64 0] 50)) := (hm0.alloc _).alloc _
  have hbA : Blk ((w0.alloc (.cells #[.string labr, .pointer (some ⟨cid, 0, none⟩)] 52)).alloc (.cells #[.pointer none, .slice (some ⟨w0.heap.size, 0, none⟩) 1 1, .int .u64 0] 50)) w0.heap.size 52 #[.string labr, .pointer (some ⟨cid, 0, none⟩)] := (Blk.new w0 52 _).alloc _
  have hbB : Blk ((w0.alloc (.cells #[.string labr, .pointer (some ⟨cid, 0, none⟩)] 52)).alloc (.cells #[.pointer none, .slice (some ⟨w0.heap.size, 0, none⟩) 1 1, .int .u64 0] 50)) (w0.heap.size + 1) 50 #[.pointer none, .slice (some ⟨w0.heap.size, 0, none⟩) 1 1, .int .u64 0] := by
    have := Blk.new (w0.alloc (.cells #[.string labr, .pointer (some ⟨cid, 0, none⟩)] 52)) 50 #[.pointer none, .slice (some ⟨w0.heap.size, 0, none⟩) 1 1, .int .u64 0]
    simpa using this
  generalize (w0.alloc (.cells #[.string labr, .pointer (some ⟨cid, 0, none⟩)] 52)).alloc (.cells #[.pointer none, .slice (some ⟨w0.heap.size, 0, none⟩) 1 1, .int .u64 0] 50) = w1 at *
  have hmW : Mod (fun x => x = a) w1 W := by
    rw [hW]
    exact Mod.setCell (S := fun x => x = a) (Mod.setCell (S := fun x => x = a) (Mod.refl _ _) (p := ⟨a, pre.num * 2, none⟩) (fun _ => rfl) _) (p := ⟨a, pre.num * 2 + 1, none⟩) (fun _ => rfl) _
  have hmWw : Mod (fun x => x = a) w W := (hm1.any _).trans hmW fun _ _ h => h
  obtain ⟨hpat, hcat⟩ := hat.parts
  have hown : W.ownsRow base 52 2 (.slice (some ⟨a, 0, none⟩) n c) n ((((pre.app (.edge lab cid ch ces cpos ck tl)).cells).set (pre.num * 2) (.string labn)).set (pre.num * 2 + 1) (.pointer (some ⟨w0.heap.size + 1, 0, none⟩))) := by
    have h1 := own_keep hk.2.1 hm1 fun _ _ h => h
    have hn : (pre.app (.edge lab cid ch ces cpos ck tl)).num = n := by
      obtain ⟨_, _, _, _, _, _, hn⟩ := hk.edge
      exact hn.symm
    rw [hn] at h1
    rw [hW]
    exact ((h1.stored _ _).1.stored _ _).1
  have hne : ∀ x, x < w.heap.size → x ≠ w0.heap.size ∧ x ≠ w0.heap.size + 1 := fun x hx => by omega
  have hid : id ≠ a := fun e => by simp_all
  refine ⟨⟨(hk.1.keep hmWw hid), ?_, hk.2.2⟩, ?_, ?_, ?_, ?_⟩
  · have hn : (pre.app (.edge lab cid ch ces cpos ck tl)).num = n := by
      obtain ⟨_, _, _, _, _, _, hn⟩ := hk.edge
      exact hn.symm
    rw [Tr.cells_app, Tr.cells, set_two (Tr.cells_length pre)] at hown
    rw [Tr.num_app] at hn ⊢
    rw [Tr.cells_app, Tr.cells]
    simp only [Tr.num] at hn ⊢
    rw [hn]
    exact hown
  · refine (hpat.keep hmWw ?_).app ⟨⟨hbB.keep hmW (by omega), ?_, by omega⟩, ⟨hcat.1.keep hmWw ?_ ?_, hcat.2.1.keep hmWw ?_, trivial⟩, hcat.2.2.keep hmWw ?_⟩
    · rintro x hx rfl; simp_all
    · have h2 : W.heap[w0.heap.size]? = some (.cells #[.string labr, .pointer (some ⟨cid, 0, none⟩)] 52 (0, 0)) := hbA.keep hmW (by omega)
      exact ⟨rfl, .inr ⟨w0.heap.size, 1, _, rfl, by omega, h2, Nat.le_refl _, by simp [maxLen], rfl, rfl⟩⟩
    · rintro rfl; simp_all
    · rintro k hk' rfl; have := own_toList hk'; simp_all
    · rintro x hx rfl; simp_all
    · rintro x hx rfl; simp_all
  · rw [knotFoot_app, foot_edge]
    simp only [knotFoot, Tr.foot, own_list, List.cons_append, List.nil_append, List.append_nil, List.nodup_cons, List.nodup_append, List.mem_append, List.mem_cons]
    clear hk hat hnd0 hm0 hW hm1 hbA hbB hmW hmWw hpat hcat hown ha0
    generalize ces.ownBlock.toList = O at *
    grind
  · exact hmWw.mono fun x _ hx => by subst hx; exact ha0
  · intro x hx
    rw [knotFoot_app, foot_edge] at hx ⊢
    simp only [knotFoot, Tr.foot, own_list, List.cons_append, List.nil_append, List.append_nil, List.mem_append, List.mem_cons] at hx ⊢
    clear hk hat hnd0 hm0 hW hm1 hbA hbB hmW hmWw hpat hcat hown ha0 hnd hlt hne
    generalize ces.ownBlock.toList = O at *
    grind


/-- An edge to a new node has been appended. -/
theorem append_post {w w0 w2 : World} {base lb lo id pos j : Nat} {here : Option Nat} {es v : Value} {kids : Tr} {rest : ByteArray}
    (hk : KnotAt w base lb lo id here es pos kids) (hat : kids.At w base lb lo) (hnd : (knotFoot id es kids).Nodup) (hm0 : Mod Nowhere w w0) (hb : base ≤ w.heap.size)
    (hm2 : Mod (fun k => es.ownBlock = some k) ((w0.alloc (.cells #[.pointer (some ⟨lb, lo + j * 5, none⟩), .slice none 0 0, .int .u64 0] 50)).alloc (.cells #[.string rest, .pointer (some ⟨w0.heap.size, 0, none⟩)] 52)) w2)
    (hown : w2.ownsRow base 52 2 v (kids.num + 1) (kids.cells ++ [.string rest, .pointer (some ⟨w0.heap.size, 0, none⟩)])) (hatv : v.ownBlock = es.ownBlock ∨ v.ownBlock = some (w0.heap.size + 1 + 1)) :
    ∀ W, W = w2.setCell ⟨id, 1, none⟩ v →
    KnotAt W base lb lo id here v pos (kids.app (.edge rest w0.heap.size (some j) (.slice none 0 0) 0 .nil .nil)) ∧ (kids.app (.edge rest w0.heap.size (some j) (.slice none 0 0) 0 .nil .nil)).At W base lb lo ∧
    (knotFoot id v (kids.app (.edge rest w0.heap.size (some j) (.slice none 0 0) 0 .nil .nil))).Nodup ∧ Mod (· ∈ knotFoot id es kids) w W ∧
    (∀ x ∈ knotFoot id v (kids.app (.edge rest w0.heap.size (some j) (.slice none 0 0) 0 .nil .nil)), x ∈ knotFoot id es kids ∨ w.heap.size ≤ x) := by
  intro W hW
  have hlt := knot_lt hk hat
  have hsz := hm0.size
  have hm1 : Mod Nowhere w ((w0.alloc (.cells #[.pointer (some ⟨lb, lo + j * 5, none⟩), .slice none 0 0, .int .u64 0] 50)).alloc (.cells #[.string rest, .pointer (some ⟨w0.heap.size, 0, none⟩)] 52)) := (hm0.alloc _).alloc _
  have hbB : Blk ((w0.alloc (.cells #[.pointer (some ⟨lb, lo + j * 5, none⟩), .slice none 0 0, .int .u64 0] 50)).alloc (.cells #[.string rest, .pointer (some ⟨w0.heap.size, 0, none⟩)] 52)) w0.heap.size 50 #[.pointer (some ⟨lb, lo + j * 5, none⟩), .slice none 0 0, .int .u64 0] := (Blk.new w0 50 _).alloc _
  generalize (w0.alloc (.cells #[.pointer (some ⟨lb, lo + j * 5, none⟩), .slice none 0 0, .int .u64 0] 50)).alloc (.cells #[.string rest, .pointer (some ⟨w0.heap.size, 0, none⟩)] 52) = w1 at *
  have hes : ∀ k, es.ownBlock = some k → k ∈ knotFoot id es kids := fun k hk => own_mem _ _ hk
  have hmW : Mod (fun x => x = id ∨ es.ownBlock = some x) w1 W := by
    rw [hW]
    exact Mod.setCell (S := fun x => x = id ∨ es.ownBlock = some x) (hm2.mono fun _ _ h => .inr h) (p := ⟨id, 1, none⟩) (fun _ => .inl rfl) _
  have hmWw : Mod (fun x => x = id ∨ es.ownBlock = some x) w W := (hm1.any _).trans hmW fun _ _ h => h
  have hidl := (hlt id (by simp [knotFoot])).2
  have hne : ∀ k, es.ownBlock = some k → k < w.heap.size := fun k h => (hlt k (hes k h)).2
  have hidv : ∀ k, v.ownBlock = some k → k ≠ id ∧ (es.ownBlock = some k ∨ w.heap.size ≤ k) ∧ k ≠ w0.heap.size ∧ k ∉ kids.foot := by
    intro k hk'
    simp only [knotFoot, List.nodup_cons, List.nodup_append, List.mem_append] at hnd
    rcases hatv with e | e
    · rw [e] at hk'
      have h1 := own_toList hk'
      have h2 := hne k hk'
      refine ⟨?_, .inl hk', by omega, ?_⟩
      · rintro rfl; exact hnd.1 (.inl h1)
      · intro h; exact hnd.2.2.2 k h1 k h rfl
    · rw [e] at hk'
      injection hk' with hk'
      refine ⟨by omega, .inr (by omega), by omega, fun h => ?_⟩
      have := (hat.foot_lt k h).2
      omega
  have hkeep : ∀ x ∈ kids.foot, ¬ (x = id ∨ es.ownBlock = some x) := by
    simp only [knotFoot, List.nodup_cons, List.nodup_append, List.mem_append] at hnd
    rintro x hx (rfl | h)
    · exact hnd.1 (.inr hx)
    · exact hnd.2.2.2 x (own_toList h) x hx rfl
  refine ⟨⟨?_, ?_, hk.2.2⟩, (hat.keep hmWw hkeep).app ⟨⟨hbB.keep hmW ?_, ⟨rfl, .inl ⟨rfl, rfl⟩⟩, by omega⟩, trivial, trivial⟩, ?_, ?_, ?_⟩
  · have h2 : Blk w2 id 50 #[hereV lb lo here, es, .int .u64 pos] := (hk.1.keep hm1 (fun h => h)).keep hm2 (fun h => by
      simp only [knotFoot, List.nodup_cons, List.mem_append] at hnd
      exact hnd.1 (.inl (own_toList h)))
    rw [hW]
    exact h2.put 1 v
  · rw [hW, Tr.num_app, Tr.cells_app]
    refine own_keep (S := fun x => x = id) hown (Mod.setCell (S := fun x => x = id) (Mod.refl _ _) (p := ⟨id, 1, none⟩) (fun _ => rfl) _) fun k h => (hidv k h).1
  · rintro (h | h)
    · omega
    · have := hne _ h; omega
  · have hv : ∀ k, k ∈ v.ownBlock.toList → k ≠ id ∧ k ≠ w0.heap.size ∧ k ∉ kids.foot := fun k h => by
      have h' : v.ownBlock = some k := by cases hb : v.ownBlock <;> simp_all
      have := hidv k h'
      exact ⟨this.1, this.2.2.1, this.2.2.2⟩
    have hvn : v.ownBlock.toList.Nodup := by cases v.ownBlock <;> simp
    have hkl : ∀ x ∈ kids.foot, x < w.heap.size := fun x hx => (hat.foot_lt x hx).2
    rw [knotFoot_app, foot_edge]
    have e0 : (Value.slice none 0 0).ownBlock.toList = [] := rfl
    simp only [knotFoot, Tr.foot, e0, List.append_nil, List.nil_append, List.nodup_cons, List.nodup_append, List.mem_append, List.mem_cons] at hnd ⊢
    clear hk hat hm0 hW hm1 hbB hmW hmWw hown hidv hkeep hm2 hatv
    generalize v.ownBlock.toList = O at *
    grind
  · refine hmWw.mono fun x _ hx => ?_
    rcases hx with rfl | hx
    · simp [knotFoot]
    · exact hes x hx
  · intro x hx
    rw [knotFoot_app, foot_edge] at hx
    have e0 : (Value.slice none 0 0).ownBlock.toList = [] := rfl
    simp only [knotFoot, Tr.foot, e0, List.append_nil, List.nil_append, List.mem_append, List.mem_cons] at hx
    rcases hx with rfl | (hx | hx) | hx
    · exact .inl (by simp [knotFoot])
    · have h' : v.ownBlock = some x := by cases hb : v.ownBlock <;> simp_all
      rcases (hidv x h').2.1 with h | h
      · exact .inl (hes x h)
      · exact .inr h
    · exact .inl (by simp [knotFoot, hx])
    · simp at hx; exact .inr (by omega)


/-- None of these edges begins as the text does. -/
def Skip (rest : List UInt8) : Tr → Prop
  | .nil => True
  | .edge lab _ _ _ _ _ tl => cpl lab.data.toList rest = 0 ∧ Skip rest tl

/-- All places are still 0. -/
def Tr.zero : Tr → Prop
  | .nil => True
  | .edge _ _ _ _ pos kids rest => pos = 0 ∧ kids.zero ∧ rest.zero
theorem Tr.zero_app : ∀ {a b : Tr}, (a.app b).zero ↔ a.zero ∧ b.zero
  | .nil, _ => by simp [Tr.app, Tr.zero]
  | .edge .., _ => by simp only [Tr.app, Tr.zero, Tr.zero_app]; exact ⟨fun ⟨h1, h2, h3, h4⟩ => ⟨⟨h1, h2, h3⟩, h4⟩, fun ⟨⟨h1, h2, h3⟩, h4⟩ => ⟨h1, h2, h3, h4⟩⟩

/-- What the walk of add tells of the node. -/
def AddPost (w : World) (base lb lo id pos j : Nat) (rest : ByteArray) (here : Option Nat) (es : Value) (kids : Tr) (e : Ending) (w' : World) : Prop :=
  e = .returned (.tuple #[]) ∧ ∃ (here' : Option Nat) (es' : Value) (kids' : Tr), KnotAt w' base lb lo id here' es' pos kids' ∧ kids'.At w' base lb lo ∧ (knotFoot id es' kids').Nodup ∧
    Mod (· ∈ knotFoot id es kids) w w' ∧ (∀ x ∈ knotFoot id es' kids', x ∈ knotFoot id es kids ∨ w.heap.size ≤ x) ∧ (here', kids'.sh) = addNode rest.data.toList j here kids.sh ∧ (kids.zero → kids'.zero)

/-- How many edges there are in all. -/
def Tr.tot : Tr → Nat
  | .nil => 0
  | .edge _ _ _ _ _ kids rest => kids.tot + rest.tot + 1
theorem Tr.num_le : ∀ t : Tr, t.num ≤ t.tot
  | .nil => Nat.le_refl _
  | .edge _ _ _ _ _ kids rest => by have := Tr.num_le rest; simp only [Tr.num, Tr.tot]; omega
theorem Tr.tot_app : ∀ a b : Tr, (a.app b).tot = a.tot + b.tot
  | .nil, b => by simp [Tr.app, Tr.tot]
  | .edge .., b => by rw [Tr.app, Tr.tot, Tr.tot, Tr.tot_app]; omega
/-- All labels are short. -/
def Tr.labs : Tr → Prop
  | .nil => True
  | .edge lab _ _ _ _ kids rest => lab.size ≤ 1000 ∧ kids.labs ∧ rest.labs
theorem Tr.labs_app : ∀ {a b : Tr}, (a.app b).labs → a.labs ∧ b.labs
  | .nil, _, h => ⟨trivial, h⟩
  | .edge .., _, h => ⟨⟨h.1, h.2.1, (Tr.labs_app h.2.2).1⟩, (Tr.labs_app h.2.2).2⟩

/-- The shape of these edges, and behind them others. -/
def Tr.shApp : Tr → Sh → Sh
  | .nil, s => s
  | .edge lab _ here _ _ kids rest, s => .edge lab.data.toList here kids.sh (rest.shApp s)
theorem Tr.sh_app : ∀ a b : Tr, (a.app b).sh = a.shApp b.sh
  | .nil, _ => rfl
  | .edge .., b => by rw [Tr.app, Tr.sh, Tr.shApp, Tr.sh_app]
theorem addEdges_app {rest : List UInt8} {j : Nat} : ∀ {pre : Tr} (s : Sh), Skip rest pre → addEdges rest j (pre.shApp s) = pre.shApp (addEdges rest j s)
  | .nil, _, _ => rfl
  | .edge .., s, h => by rw [Tr.shApp, addEdges_skip h.1, addEdges_app s h.2, Tr.shApp]

theorem extract_drop (s : ByteArray) (n : Nat) : (s.extract n s.size).data.toList = s.data.toList.drop n := by
  simp
  exact List.take_of_length_le (by simp)
theorem extract_take (s : ByteArray) (n : Nat) (h : n ≤ s.size) : (s.extract 0 n).data.toList = s.data.toList.take n := by
  simp
theorem ne_nil_of {s : ByteArray} (h : s.toList.isEmpty = false) : s.data.toList ≠ [] := by
  rw [ByteArray.toList_eq] at h
  intro e
  rw [e] at h
  cases h

/-- The call of itself on the node below has ended. -/
theorem down_fin {w w8 : World} {base lb lo id pos cid cpos j n : Nat} {here ch : Option Nat} {es ces : Value} {kids pre tl ck : Tr} {lab rest rest' : ByteArray} {e : Ending} {w' : World}
    (hk : KnotAt w base lb lo id here es pos kids) (hat : kids.At w base lb lo) (hnd : (knotFoot id es kids).Nodup) (hm : Mod Nowhere w w8)
    (h1 : kids = pre.app (.edge lab cid ch ces cpos ck tl)) (hs : Skip rest.data.toList pre) (hc : cpl lab.data.toList rest.data.toList = n) (hn : n ≠ 0) (hl : ¬ n < lab.size)
    (hne : rest.toList.isEmpty = false) (hr : rest'.data.toList = rest.data.toList.drop n)
    (hp : AddPost w8 base lb lo cid cpos j rest' ch ces ck e w') : AddPost w base lb lo id pos j rest here es kids e w' := by
  subst h1
  obtain ⟨he, ch', ces', ck', k1, k2, k3, k4, k5, k6, k7⟩ := hp
  have hk8 := hk.keep hm (fun h => h) (fun _ _ h => h)
  have hat8 := hat.then hm
  obtain ⟨d1, d2, d3, d4, d5⟩ := down_post hk8 hat8 hnd k1 k2 k3 k4 k5
  refine ⟨he, here, es, _, d1, d2, d3, (hm.any _).trans d4 fun _ _ h => h, fun x hx => ?_, ?_, fun hz => ?_⟩
  · rcases d5 x hx with h | h
    · exact .inl h
    · exact .inr (Nat.le_trans hm.size h)
  · have hl' : ¬ n < lab.data.toList.length := by simpa using hl
    unfold addNode
    rw [if_neg (ne_nil_of hne), Tr.sh_app, Tr.sh_app, addEdges_app _ hs]
    simp only [Tr.sh]
    rw [addEdges_down hc hn hl', ← hr, ← k6]
  · rw [Tr.zero_app] at hz ⊢
    exact ⟨hz.1, hz.2.1, k7 hz.2.2.1, hz.2.2.2⟩


/-- The call of itself on the node that stands between has ended. -/
theorem split_fin {w w0 W : World} {base lb lo id pos cid cpos j n a k c : Nat} {here ch : Option Nat} {ces : Value} {kids pre tl ck : Tr} {lab labn labr rest rest' : ByteArray} {e : Ending} {w' : World}
    (hk : KnotAt w base lb lo id here (.slice (some ⟨a, 0, none⟩) k c) pos kids) (hat : kids.At w base lb lo) (hnd : (knotFoot id (.slice (some ⟨a, 0, none⟩) k c) kids).Nodup) (hm : Mod Nowhere w w0) (hb : base ≤ w.heap.size)
    (h1 : kids = pre.app (.edge lab cid ch ces cpos ck tl)) (hs : Skip rest.data.toList pre) (hc : cpl lab.data.toList rest.data.toList = n) (hn : n ≠ 0) (hl : n < lab.size)
    (hne : rest.toList.isEmpty = false) (hr : rest'.data.toList = rest.data.toList.drop n) (hln : labn.data.toList = lab.data.toList.take n) (hlr : labr.data.toList = lab.data.toList.drop n)
    (hW : W = (((w0.alloc (.cells #[.string labr, .pointer (some ⟨cid, 0, none⟩)] 52)).alloc (.cells #[.pointer none, .slice (some ⟨w0.heap.size, 0, none⟩) 1 1, .int .u64 0] 50)).setCell ⟨a, pre.num * 2, none⟩ (.string labn)).setCell ⟨a, pre.num * 2 + 1, none⟩ (.pointer (some ⟨w0.heap.size + 1, 0, none⟩)))
    (hp : AddPost W base lb lo (w0.heap.size + 1) 0 j rest' none (.slice (some ⟨w0.heap.size, 0, none⟩) 1 1) (.edge labr cid ch ces cpos ck .nil) e w') : AddPost w base lb lo id pos j rest here (.slice (some ⟨a, 0, none⟩) k c) kids e w' := by
  subst h1
  obtain ⟨s1, s2, s3, s4, s5⟩ := split_post (labn := labn) (labr := labr) hk hat hnd hm hb W hW
  obtain ⟨he, ch', ces', ck', k1, k2, k3, k4, k5, k6, k7⟩ := hp
  obtain ⟨d1, d2, d3, d4, d5⟩ := down_post s1 s2 s3 k1 k2 k3 k4 k5
  refine ⟨he, here, _, _, d1, d2, d3, s4.trans d4 fun x hx h => ?_, fun x hx => ?_, ?_, fun hz => ?_⟩
  · rcases s5 x h with h | h
    · exact h
    · omega
  · rcases d5 x hx with h | h
    · exact s5 x h
    · exact .inr (Nat.le_trans s4.size h)
  · have hl' : n < lab.data.toList.length := by simpa using hl
    unfold addNode
    rw [if_neg (ne_nil_of hne), Tr.sh_app, Tr.sh_app, addEdges_app _ hs]
    simp only [Tr.sh]
    rw [addEdges_split hc hn hl', ← hr, ← hln, ← hlr]
    simp only [Tr.sh] at k6
    rw [← k6]
  · rw [Tr.zero_app] at hz ⊢
    exact ⟨hz.1, rfl, k7 ⟨hz.2.1, hz.2.2.1, trivial⟩, hz.2.2.2⟩

/-- What the call of itself asks of the node that stands between. -/
theorem split_pre {w w0 W : World} {base lb lo id pos cid cpos a k c : Nat} {here ch : Option Nat} {ces : Value} {kids pre tl ck : Tr} {lab labn labr : ByteArray}
    (hk : KnotAt w base lb lo id here (.slice (some ⟨a, 0, none⟩) k c) pos kids) (hat : kids.At w base lb lo) (hnd : (knotFoot id (.slice (some ⟨a, 0, none⟩) k c) kids).Nodup) (hm : Mod Nowhere w w0) (hb : base ≤ w.heap.size)
    (h1 : kids = pre.app (.edge lab cid ch ces cpos ck tl))
    (hW : W = (((w0.alloc (.cells #[.string labr, .pointer (some ⟨cid, 0, none⟩)] 52)).alloc (.cells #[.pointer none, .slice (some ⟨w0.heap.size, 0, none⟩) 1 1, .int .u64 0] 50)).setCell ⟨a, pre.num * 2, none⟩ (.string labn)).setCell ⟨a, pre.num * 2 + 1, none⟩ (.pointer (some ⟨w0.heap.size + 1, 0, none⟩))) :
    base ≤ W.heap.size ∧ KnotAt W base lb lo (w0.heap.size + 1) none (.slice (some ⟨w0.heap.size, 0, none⟩) 1 1) 0 (.edge labr cid ch ces cpos ck .nil) ∧ (Tr.edge labr cid ch ces cpos ck .nil).At W base lb lo ∧
    (knotFoot (w0.heap.size + 1) (.slice (some ⟨w0.heap.size, 0, none⟩) 1 1) (.edge labr cid ch ces cpos ck .nil)).Nodup ∧
    KnotAt W base lb lo id here (.slice (some ⟨a, 0, none⟩) k c) pos (pre.app (.edge labn (w0.heap.size + 1) none (.slice (some ⟨w0.heap.size, 0, none⟩) 1 1) 0 (.edge labr cid ch ces cpos ck .nil) tl)) := by
  subst h1
  obtain ⟨s1, s2, s3, s4, s5⟩ := split_post (labn := labn) (labr := labr) hk hat hnd hm hb W hW
  have hp := s2.parts.2
  refine ⟨Nat.le_trans hb s4.size, hp.1, hp.2.1, ?_, s1⟩
  rw [knotFoot_app, foot_edge] at s3
  have := (List.nodup_cons.1 s3).2
  exact (List.nodup_append.1 (List.nodup_append.1 this).2.1).1

/-- .. and of a node that was there. -/
theorem down_pre {w w8 : World} {base lb lo id cid cpos : Nat} {ch : Option Nat} {es ces : Value} {kids pre tl ck : Tr} {lab : ByteArray}
    (hat : kids.At w base lb lo) (hnd : (knotFoot id es kids).Nodup) (hm : Mod Nowhere w w8) (hb : base ≤ w.heap.size)
    (h1 : kids = pre.app (.edge lab cid ch ces cpos ck tl)) : base ≤ w8.heap.size ∧ KnotAt w8 base lb lo cid ch ces cpos ck ∧ ck.At w8 base lb lo ∧ (knotFoot cid ces ck).Nodup := by
  subst h1
  have hp := (hat.then hm).parts.2
  refine ⟨Nat.le_trans hb hm.size, hp.1, hp.2.1, ?_⟩
  rw [knotFoot_app, foot_edge] at hnd
  have := (List.nodup_cons.1 hnd).2
  exact (List.nodup_append.1 (List.nodup_append.1 this).2.1).1

end Go.Proofs.YtkpiioiahdcpjaaDoor
