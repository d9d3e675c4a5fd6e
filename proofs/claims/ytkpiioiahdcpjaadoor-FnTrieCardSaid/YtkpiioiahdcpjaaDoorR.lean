/- The walk of spec.Trie. -/
import Derived.Test.YtkpiioiahdcpjaaDoorF
namespace Go.Proofs.YtkpiioiahdcpjaaDoor
open Go.RowKit

theorem info44 : (Tryd.prog.info? 44).map (fun i => (i.zero, i.size, i.bytes)) = some (some (.pointer none), 1, 8) := by kernel_rfl

section
variable {w : World} {ops : Array Oper} {rest : List Oper} {o : Oper} {a : Act} {Q : Exit → Act → World → Prop} {K : Act → World → Prop} {E : Prop}
theorem ev_que (t e : TypeId) (z : Value) (bytes : Nat) (ht : Tryd.prog.underlying t = some (.slice e))
    (hinfo : (Tryd.prog.info? e).map (fun i => (i.zero, i.size, i.bytes)) = some (some z, 1, bytes)) (hzs : z.cells.size = 1) (hgd : o.guard = none) (s x : Operand) (ho : o.op = .call { callee := .builtin .append, args := #[s, x], argTypes := #[t, t] })
    (base : Nat) (v : Value) (xs : List Value) (hs : a.eval s = v) (hown : Que w base v xs) (u : Value) (hx : Src w 1 (a.eval x) 1 [u]) (h1 : u.oneCell' = true)
    (h63 : xs.length + 1 ≤ maxLen) (hlen : (xs.length + 1) * bytes ≤ 140737488355328) (hbase : base ≤ w.heap.size)
    (h : ∀ v' w', Que w' base v' (xs ++ [u]) → Mod (fun k => v.ownBlock = some k) w w' → (v'.ownBlock = v.ownBlock ∨ v'.ownBlock = some w.heap.size) → wpList Tryd.prog ops Q rest (a.put o.dst v') w') :
    wpList Tryd.prog ops Q (o :: rest) a w :=
  wpList_plain hgd fun _ hK => by
    obtain ⟨v', w', hr, h2, h3, h5⟩ := run_append_que (P := Tryd.prog) w base t o.type e z bytes ht hinfo hzs v xs hown _ u hx h1 h63 hlen hbase
    unfold Oper.wp execOp
    simp only [ho, resolve, invoke, builtin, Sem.run_bind, Sem.run_pure, Result.andThen_ok, List.map_toArray, List.map_cons, List.map_nil, hs, hr]
    exact hK _ _ (h v' w' h2 h3 h5)
end

def Nd.ptr (n : Nd) : Value := .pointer (some ⟨n.id, 0, none⟩)

/-- The walk over the trie: what has been reached, what waits. -/
structure BfsP (T : Tr) (root : Nd) (all que : List Nd) : Prop where
  perm : (all ++ que.flatMap fun n => n :: n.kids.nodes).Perm T.nodes
  head : (all ++ que).head? = some root
theorem BfsP.step {T : Tr} {root q : Nd} {all qs : List Nd} (h : BfsP T root all (q :: qs)) : BfsP T root (all ++ [q]) (qs ++ q.kids.tops) := by
  refine ⟨?_, ?_⟩
  · refine List.Perm.trans ?_ h.perm
    rw [List.flatMap_append, ← Tr.nodes_tops, List.flatMap_cons, List.append_assoc]
    refine List.Perm.append_left _ ?_
    simp only [List.cons_append, List.nil_append]
    exact List.Perm.cons _ List.perm_append_comm
  · rw [← h.head]; cases all <;> simp
theorem BfsP.sub {T : Tr} {root n : Nd} {all que : List Nd} (h : BfsP T root all que) (hn : n ∈ que) : n ∈ T.nodes :=
  h.perm.mem_iff.1 (List.mem_append.2 (.inr (List.mem_flatMap.2 ⟨n, hn, by simp⟩)))
theorem BfsP.count {T : Tr} {root : Nd} {all que : List Nd} (h : BfsP T root all que) : all.length + que.length ≤ T.tot := by
  have h1 := h.perm.length_eq
  rw [Tr.nodes_length, List.length_append] at h1
  have h2 : que.length ≤ (que.flatMap fun n => n :: n.kids.nodes).length := by
    clear h1 h
    induction que with
    | nil => simp
    | cons q qs ih => rw [List.flatMap_cons, List.length_append, List.length_cons, List.length_cons]; omega
  omega

structure BfsM (w1 wr : World) (base : Nat) (all que : List Nd) (va vq : Value) : Prop where
  all : wr.ownsRow base 44 1 va all.length (all.map Nd.ptr)
  que : Que wr base vq (que.map Nd.ptr)
  ne : ∀ k, va.ownBlock = some k → vq.ownBlock ≠ some k
  mod : Mod Nowhere w1 wr
  base : base = w1.heap.size

theorem bfs_all {w1 wr wa w2 : World} {base : Nat} {all que : List Nd} {va vq va' : Value} {q : Nd} (h : BfsM w1 wr base all que va vq) (hm : Mod Nowhere wr wa) (hA : w2.ownsRow base 44 1 va' (all.length + 1) (all.map Nd.ptr ++ [q.ptr]))
    (hB : Mod (fun k => va.ownBlock = some k) wa w2) (hC : va'.ownBlock = va.ownBlock ∨ va'.ownBlock = some wa.heap.size) : BfsM w1 w2 base (all ++ [q]) que va' vq := by
  have hq := h.que.then hm
  have hbase := h.base
  refine ⟨by simpa using hA, hq.keep hB (fun k hk e => h.ne k e hk), ?_, ?_, hbase⟩
  · intro k hk e
    rcases hC with hc | hc
    · exact h.ne k (hc ▸ hk) e
    · rw [hc] at hk
      have := (hq.lt k e).2
      injection hk with hk
      omega
  · refine (h.mod.then hm).trans hB fun x hx e => ?_
    have := (World.ownsRow.lt h.all x e).1
    omega
theorem bfs_que {w1 wr wa w2 : World} {base : Nat} {all que : List Nd} {va vq vq' : Value} {q : Nd} (h : BfsM w1 wr base all que va vq) (hm : Mod Nowhere wr wa) (hA : Que w2 base vq' (que.map Nd.ptr ++ [q.ptr]))
    (hB : Mod (fun k => vq.ownBlock = some k) wa w2) (hC : vq'.ownBlock = vq.ownBlock ∨ vq'.ownBlock = some wa.heap.size) : BfsM w1 w2 base all (que ++ [q]) va vq' := by
  have ha := own_keep h.all hm (fun _ _ h => h)
  have hbase := h.base
  refine ⟨own_keep ha hB (fun k hk e => h.ne k hk e), by simpa using hA, ?_, ?_, hbase⟩
  · intro k hk e
    rcases hC with hc | hc
    · exact h.ne k hk (hc ▸ e)
    · rw [hc] at e
      have := (World.ownsRow.lt ha k hk).2
      injection e with e
      omega
  · refine (h.mod.then hm).trans hB fun x hx e => ?_
    have := (h.que.lt x e).1
    omega
theorem src_alloc2 (w : World) (o : Obj) (u : Value) : Src ((w.alloc o).alloc (.cells #[u] 44)) 1 (.slice (some ⟨w.heap.size + 1, 0, none⟩) 1 1) 1 [u] := by
  have h := Blk.new (w.alloc o) 44 #[u]
  rw [show (w.alloc o).heap.size = w.heap.size + 1 by simp] at h
  exact Src.of_blk h rfl
theorem bfs_drop {w1 wr : World} {base : Nat} {all qs : List Nd} {va : Value} {q : Nd} {b off c : Nat} (h : BfsM w1 wr base all (q :: qs) va (.slice (some ⟨b, off, none⟩) (qs.length + 1) c)) :
    BfsM w1 wr base all qs va (.slice (if c = 1 then some ⟨b, off, none⟩ else some ⟨b, off + 1, none⟩) qs.length (c - 1)) := by
  obtain ⟨b', off', c', e, hq⟩ := h.que
  injection e with e1 e2 e3
  injection e1 with e1
  injection e1 with e1 e4
  subst e1; subst e4; subst e3
  refine ⟨h.all, ?_, fun k hk e => h.ne k hk ?_, h.mod, h.base⟩
  · have := hq.tail
    simpa using this
  · by_cases hc : c = 1
    · rw [if_pos hc] at e; exact e
    · rw [if_neg hc] at e; exact e

/-- What the writer of a trie leaves. -/
def TrieOut (w : World) (L : List Exp) (e : Ending) (w' : World) : Prop :=
  ∃ (v : Value) (root : Nat) (es : Value) (kids : Tr) (p : Nat → Nat) (all : List Nd), e = .returned v ∧ all.Perm (rootT root es kids).nodes ∧ all.head? = some ⟨root, none, es, kids⟩ ∧ (kids.sh.terms []).Perm (numbered (texts L) 0) ∧
    kids.sh.all Lab ∧ kids.tot ≤ 120 ∧ TOk L (rootT root es kids) ∧ (∀ x, p x ≤ capC) ∧ (∀ (i : Nat) (n : Nd), all[i]? = some n → p n.id = offAt (fun p n => (ndB L p n).length) p all i) ∧
    Byt w' w.heap.size v (all.flatMap (ndB L p)) ∧ Mod Nowhere w w'

/-- While places are sought. -/
structure Fix (w w1 wr : World) (lb lo : Nat) (T : Tr) (p : Nat → Nat) (all : List Nd) (va : Value) : Prop where
  nodes : NodesAt wr w.heap.size lb lo p T.nodes
  row : wr.ownsRow w1.heap.size 44 1 va all.length (all.map Nd.ptr)
  mod : Mod Nowhere w wr
theorem Fix.then {w w1 wr w' : World} {lb lo : Nat} {T : Tr} {p : Nat → Nat} {all : List Nd} {va : Value} (h : Fix w w1 wr lb lo T p all va) (hm : Mod Nowhere wr w') : Fix w w1 w' lb lo T p all va :=
  ⟨h.nodes.then hm, own_keep h.row hm (fun _ _ h => h), h.mod.then hm⟩
theorem Fix.put {w w1 wr : World} {lb lo : Nat} {L : List Exp} {T : Tr} {p : Nat → Nat} {all : List Nd} {va : Value} (h : Fix w w1 wr lb lo T p all va) (ok : TOk L T) (hN : NodesAt w1 w.heap.size lb lo (fun _ => 0) T.nodes) {n : Nd} (hn : n ∈ T.nodes) (v : Nat) :
    Fix w w1 (wr.setCell ⟨n.id, 2, none⟩ (.int .u64 v)) lb lo T (upd p n.id v) all va := by
  have hm : Mod (fun x => x = n.id) wr (wr.setCell ⟨n.id, 2, none⟩ (.int .u64 v)) := Mod.setCell (S := fun x => x = n.id) (Mod.refl _ _) (p := ⟨n.id, 2, none⟩) (fun _ => rfl) _
  refine ⟨h.nodes.put n.id v (fun m hm e => Tr.own_ids ok.foot hm e (List.mem_map.2 ⟨n, hn, rfl⟩)), own_keep h.row hm (fun k hk e => ?_), h.mod.trans hm fun x hx e => ?_⟩
  · have h1 := (World.ownsRow.lt h.row k hk).1
    have h2 := (hN n hn).1.lt
    omega
  · have := (hN n hn).2.2
    omega

set_option maxHeartbeats 1600000 in
set_option maxRecDepth 100000 in
theorem trie_out (w : World) (lb lo c : Nat) (L : List Exp) (hL : ExpsAt w lb lo L) (ok : NamesOk L) :
    Calls Tryd.prog 8 #[.slice (some ⟨lb, lo, none⟩) L.length c] w (TrieOut w L) := by
  have HL := Lib.hid hL
  have OK := Lib.hid ok
  have hn : L.length ≤ 60 := ok.len
  have hx : ∀ e ∈ L, e.name.size ≤ 60 := fun e he => by simpa using (ok.lab e he).2.1
  clear hL ok
  go_enter Tryd.func8, Tryd.ntmps8
  go_wp2_with fail
  refine (trie_any w lb lo c L HL.out hn hx).mono ?_
  rintro en w1 ⟨root, h, es, kids, rfl, ht⟩
  obtain ⟨rfl, htm, hta, htt, htk⟩ := tok_of ht OK.out
  have HTM := Lib.hid htm
  have HTA := Lib.hid hta
  have HTT := Lib.hid htt
  have HTK := Lib.hid htk
  have HMOD := Lib.hid ht.mod
  have hT : (rootT root es kids).tot ≤ 121 := by unfold rootT; simp only [Tr.tot]; omega
  have HN : Hid (NodesAt w1 w.heap.size lb lo (fun _ => 0) (rootT root es kids).nodes) := nodes_at (t := rootT root es kids) ⟨ht.knot, ht.at', trivial⟩ ⟨rfl, ht.zero, trivial⟩
  have hstart : Hid (BfsP (rootT root es kids) ⟨root, none, es, kids⟩ [] [⟨root, none, es, kids⟩]) := ⟨by simp [Tr.nodes, rootT], rfl⟩
  clear ht htm hta htt htk
  generalize hTd : rootT root es kids = T at *
  have hstartM : Hid (BfsM w1 (w1.alloc (.cells #[.pointer (some ⟨root, 0, none⟩)] 44)) w1.heap.size [] [⟨root, none, es, kids⟩] (.slice none 0 0) (.slice (some ⟨w1.heap.size, 0, none⟩) 1 1)) :=
    ⟨⟨rfl, .inl ⟨rfl, rfl⟩⟩, Que.new w1 44 _ (Nat.le_refl _), fun k hk => (by cases hk), (Mod.refl _ _).alloc _, rfl⟩
  have HTd := Lib.hid hTd
  clear hTd
  go_wp2_with fail
  go_loopg [4, 5] T.tot (fun kq v4 v5 wr => Hid (∃ all que : List Nd, kq = (que.flatMap fun n => n :: n.kids.nodes).length ∧ BfsP T ⟨root, none, es, kids⟩ all que ∧ BfsM w1 wr w1.heap.size all que v4 v5))
  case atStart => refine ⟨[], [⟨root, none, es, kids⟩], ?_, hstart.out, hstartM.out⟩; have := hstart.out.perm.length_eq; rw [Tr.nodes_length] at this; simpa using this.symm
  case round =>
    clear hstart hstartM
    obtain ⟨all, que, hkq, hp, hm⟩ := hrel.out
    clear hrel
    obtain ⟨b, off, cq, hv, hq⟩ := hm.que
    subst hv
    have HKQ := Lib.hid hkq
    have HP := Lib.hid hp
    have HM := Lib.hid hm
    rw [List.length_map]
    cases que with
    | nil =>
      have hperm : all.Perm T.nodes := by simpa using hp.perm
      have hhead : all.head? = some ⟨root, none, es, kids⟩ := by simpa using hp.head
      have hcnt : all.length = T.tot := by rw [hperm.length_eq, Tr.nodes_length]
      have hTp : 0 < T.tot := by rw [← HTd.out]; simp [rootT, Tr.tot]
      have hall : all.length ≤ 121 := by omega
      have hF : Fix w w1 wr lb lo T (fun _ => 0) all u4 := ⟨HN.out.then hm.mod, hm.all, HMOD.out.then hm.mod⟩
      obtain ⟨g, ca, hva, _, _⟩ := hm.all.form (by omega)
      subst hva
      have hlk := lenOk HTK.out hT hperm
      have hP0 : Places (fun p n => (ndB L p n).length) capC all (fun _ => 0) := ⟨fun _ _ _ => Nat.zero_le _, fun _ => Nat.zero_le _⟩
      clear hcnt
      have HPERM := Lib.hid hperm
      have HHEAD := Lib.hid hhead
      have HF := Lib.hid hF
      have HLK := Lib.hid hlk
      have HP0 := Lib.hid hP0
      clear hkq hp hm hq hperm hhead hF hlk hP0 HM HP HKQ
      go_wp2_with fail
      obtain ⟨gk0, hgk0⟩ : ∃ g, g = gk := ⟨_, rfl⟩
      subst hgk0
      go_loopg [8] (climb capC all (fun _ => 0) + 1) (fun kq v8 wr => ∃ ch, v8 = .bool ch ∧ Hid (∃ p, (ch = true → kq = climb capC all p + 1) ∧ (ch = false → ∀ (i : Nat) (n : Nd), all[i]? = some n → p n.id = offAt (fun p n => (ndB L p n).length) p all i) ∧
        Places (fun p n => (ndB L p n).length) capC all p ∧ Fix w w1 wr lb lo T p all (.slice (some ⟨g, 0, none⟩) all.length ca)))
      case atStart => exact ⟨true, rfl, _, fun _ => rfl, fun h => (by cases h), HP0.out, HF.out⟩
      case round =>
        clear HP0 HF
        obtain ⟨ch, rfl, H⟩ := hrel
        cases ch with
        | false =>
          obtain ⟨p, _, hcons, hpl, hf⟩ := H.out
          have HCONS := Lib.hid (hcons rfl)
          have HPL := Lib.hid hpl
          have HF := Lib.hid hf
          have hbl : Hid (∀ x, p x < 1180591620717411303424) := fun x => Nat.lt_of_le_of_lt (hpl.bound x) capC_small
          clear H hcons hpl hf
          go_wp2_with fail
          obtain ⟨w4, hw4⟩ : ∃ x, x = wr := ⟨_, rfl⟩
          subst hw4
          go_loopg [12, 73] all.length (fun kq v12 v73 wr => ∃ i : Nat, v73 = .int .i64 i ∧ i ≤ 121 ∧ Hid (kq = all.length - i ∧ i ≤ all.length ∧ Mod Nowhere w4 wr ∧ Byt wr w4.heap.size v12 ((all.take i).flatMap (ndB L p)) ∧ ((all.take i).flatMap (ndB L p)).length ≤ i * 16000))
          case atStart => exact ⟨0, rfl, by omega, rfl, Nat.zero_le _, Mod.refl _ _, Byt.nil _ _, by simp⟩
          case round =>
            obtain ⟨i, rfl, hi, H⟩ := hrel
            obtain ⟨hkq, hile, hmod, hbyt, hbl2⟩ := H.out
            have HKQ := Lib.hid hkq
            have HM := Lib.hid hmod
            have HB := Lib.hid hbyt
            have HBL := Lib.hid hbl2
            clear H hkq hmod hbyt hbl2
            by_cases hil : i < all.length
            · obtain ⟨nd, hnd⟩ : ∃ nd, all[i]? = some nd := ⟨_, List.getElem?_eq_getElem hil⟩
              have hmem : nd ∈ T.nodes := HPERM.out.mem_iff.1 (List.mem_of_getElem? hnd)
              have hf := HF.out.then HM.out
              have x0 : wr.cell? ⟨g, i, none⟩ = some (.pointer (some ⟨nd.id, 0, none⟩)) := by
                have := hf.row.cellAt i (by omega)
                rw [this, List.getElem?_map, hnd]; rfl
              have HFi := Lib.hid hf
              have HND := Lib.hid hnd
              have HMEM := Lib.hid hmem
              have hbn : Hid ((ndB L p nd).length ≤ 16000) := HLK.out.bound p HPL.out.bound nd (List.mem_of_getElem? hnd)
              clear hf hnd hmem
              go_wp2_with fail
              refine (bytes_node HTK.out (HL.out.then HFi.out.mod) HFi.out.nodes hbl.out HMEM.out).mono ?_
              rintro en w3 ⟨v3, rfl, hb3, hm3⟩
              have HB3 := Lib.hid hb3
              have HM3 := Lib.hid hm3
              clear hb3 hm3
              go_wp2_with (at_builtin; (refine ev_append rfl (.tmp 77) (.tmp 79) rfl w4.heap.size u12 ((all.take i).flatMap (ndB L p)) rfl (HB.out.then HM3.out) (ndB L p nd) HB3.out.src (by have := hbn.out; have := HBL.out; omega) (HM.out.then HM3.out).size ?_; intro v5 w5 hA hB hC; have HA := Lib.hid hA; have HB5 := Lib.hid hB; clear hA hB hC))
              go_roundg (all.length - (i + 1))
              case measure => have := HKQ.out; omega
              case rel =>
                have e : (all.take (i + 1)).flatMap (ndB L p) = (all.take i).flatMap (ndB L p) ++ ndB L p nd := by rw [List.take_add_one, HND.out]; simp
                refine ⟨i + 1, by go_num, by omega, rfl, hil, (HM.out.then HM3.out).trans HB5.out fun x hx hs => ?_, ?_, ?_⟩
                · have := (HB.out.lt x hs).1; omega
                · rw [e]; exact HA.out
                · rw [e, List.length_append]; have := hbn.out; have := HBL.out; omega
            · have hend : decide (i < all.length) = false := by simp; omega
              have hie : i = all.length := by omega
              subst hie
              go_wp2_with fail
              go_ret
              refine ⟨u12, root, es, kids, p, all, rfl, ?_, HHEAD.out, HTM.out, HTA.out, HTT.out, ?_, HPL.out.bound, HCONS.out, ?_, HF.out.mod.then HM.out⟩
              · rw [HTd.out]; exact HPERM.out
              · rw [HTd.out]; exact HTK.out
              · have := HB.out
                rw [List.take_length] at this
                exact this.mono HF.out.mod.size
        | true =>
          obtain ⟨p0, hk0, _, hpl, hf⟩ := H.out
          have HK0 := Lib.hid (hk0 rfl)
          have HPL := Lib.hid hpl
          have HF := Lib.hid hf
          clear H hk0 hpl hf
          go_wp2_with fail
          obtain ⟨gk1, hgk1⟩ : ∃ g, g = gk := ⟨_, rfl⟩
          subst hgk1
          go_loopg [8, 9, 50] all.length (fun kq v8 v9 v50 wr => ∃ (i at' : Nat) (ch : Bool), v8 = .bool ch ∧ v9 = .int .u64 at' ∧ v50 = .int .i64 i ∧ i ≤ 121 ∧ at' ≤ 2000000 ∧ Hid (kq = all.length - i ∧ i ≤ all.length ∧ ∃ p, Pass (fun p n => (ndB L p n).length) capC all p0 i p at' ch ∧ Fix w w1 wr lb lo T p all (.slice (some ⟨g, 0, none⟩) all.length ca)))
          case atStart => exact ⟨0, 0, false, rfl, rfl, rfl, by omega, by omega, rfl, Nat.zero_le _, p0, Pass.start HPL.out, HF.out⟩
          case round =>
            clear HF
            obtain ⟨i, at', ch, rfl, rfl, rfl, hi, hat, H⟩ := hrel
            obtain ⟨hkq, hile, p, hps, hf⟩ := H.out
            clear H
            by_cases hil : i < all.length
            · obtain ⟨nd, hnd⟩ : ∃ nd, all[i]? = some nd := ⟨_, List.getElem?_eq_getElem hil⟩
              have hmem : nd ∈ T.nodes := HPERM.out.mem_iff.1 (List.mem_of_getElem? hnd)
              have x0 : wr.cell? ⟨g, i, none⟩ = some (.pointer (some ⟨nd.id, 0, none⟩)) := by
                have := hf.row.cellAt i (by omega)
                rw [this, List.getElem?_map, hnd]; rfl
              have x1 : wr.cell? ⟨nd.id, 2, none⟩ = some (.int .u64 (p nd.id)) := hf.nodes.pos hmem
              have f1 : wr.frozen? ⟨nd.id, 2, none⟩ = false := (hf.nodes nd hmem).1.frozen 2
              have HND := Lib.hid hnd
              have HMEM := Lib.hid hmem
              have HPS := Lib.hid hps
              have HF := Lib.hid hf
              have HKQ := Lib.hid hkq
              have hpb : p nd.id ≤ 2000000 := hps.bound _
              have hbl : Hid (∀ x, p x < 1180591620717411303424) := fun x => Nat.lt_of_le_of_lt (hps.bound x) capC_small
              clear hkq hps hf hnd hmem
              generalize hpid : p nd.id = pid at *
              by_cases he : pid = at'
              · have heq : ((pid : Int) != (at' : Int)) = false := by rw [he]; simp
                have HPS3 : Hid (Pass (fun p n => (ndB L p n).length) capC all p0 (i + 1) p (at' + (ndB L p nd).length) ch) := HPS.out.keep HLK.out HND.out (hpid.trans he)
                go_wp2_with fail
                refine (bytes_node HTK.out (HL.out.then HF.out.mod) HF.out.nodes hbl.out HMEM.out).mono ?_
                rintro en w3 ⟨v3, rfl, hb3, hm3⟩
                obtain ⟨A3, c3, rfl, hc3⟩ := hb3.slice
                have HF3 := Lib.hid (HF.out.then hm3)
                have hat2 : at' + (ndB L (p) nd).length ≤ 2000000 := Nat.le_trans HPS3.out.hi (offAt_le HLK.out HPS3.out.bound _)
                clear hb3 hm3
                generalize (ndB L (p) nd).length = ln at *
                go_wp2_with fail
                go_roundg (all.length - (i + 1))
                case measure => have := HKQ.out; omega
                case rel => exact ⟨i + 1, at' + ln, ch, rfl, by go_num, by go_num, by omega, hat2, rfl, hil, _, HPS3.out, HF3.out⟩
              · have heq : ((pid : Int) != (at' : Int)) = true := by simp; omega
                have HPS3 : Hid (Pass (fun p n => (ndB L p n).length) capC all p0 (i + 1) (upd p nd.id at') (at' + (ndB L (upd p nd.id at') nd).length) true) := HPS.out.turn HLK.out HPL.out HND.out (by rw [hpid]; exact he)
                have HF2 := Lib.hid (HF.out.put HTK.out HN.out HMEM.out at')
                have hbl : Hid (∀ x, upd p nd.id at' x < 1180591620717411303424) := fun x => Nat.lt_of_le_of_lt (HPS3.out.bound x) capC_small
                go_wp2_with fail
                refine (bytes_node HTK.out (HL.out.then HF2.out.mod) HF2.out.nodes hbl.out HMEM.out).mono ?_
                rintro en w3 ⟨v3, rfl, hb3, hm3⟩
                obtain ⟨A3, c3, rfl, hc3⟩ := hb3.slice
                have HF3 := Lib.hid (HF2.out.then hm3)
                have hat2 : at' + (ndB L (upd p nd.id at') nd).length ≤ 2000000 := Nat.le_trans HPS3.out.hi (offAt_le HLK.out HPS3.out.bound _)
                clear hb3 hm3
                generalize (ndB L (upd p nd.id at') nd).length = ln at *
                go_wp2_with fail
                go_roundg (all.length - (i + 1))
                case measure => have := HKQ.out; omega
                case rel => exact ⟨i + 1, at' + ln, true, rfl, by go_num, by go_num, by omega, hat2, rfl, hil, _, HPS3.out, HF3.out⟩
            · have hend : decide (i < all.length) = false := by simp; omega
              have hie : i = all.length := by omega
              subst hie
              have HPS := Lib.hid hps
              have HF := Lib.hid hf
              clear hps hf hkq
              cases ch with
              | false =>
                go_wp2_with fail
                go_roundg 0
                case measure => rw [HK0.out]; exact Nat.succ_pos _
                case rel => exact ⟨false, rfl, p, fun h => (by cases h), fun _ i n hin => (HPS.out.same rfl).2 i n (List.getElem?_eq_some_iff.1 hin).1 hin, HPS.out.places, HF.out⟩
              | true =>
                go_wp2_with fail
                go_roundg (climb capC all p + 1)
                case measure => rw [HK0.out]; exact Nat.succ_lt_succ HPS.out.climbs
                case rel => exact ⟨true, rfl, p, fun _ => rfl, fun h => (by cases h), HPS.out.places, HF.out⟩
    | cons q qs =>
      have c0 : wr.cell? ⟨b, off, none⟩ = some (.pointer (some ⟨q.id, 0, none⟩)) := hq.cell 0 _ rfl
      have hlen : ((qs.length + 1 : Nat) : Int) > 0 := by omega
      have HQ := Lib.hid (hp.sub (List.mem_cons_self))
      obtain ⟨A, ce, hes, hce⟩ := (HN.out q HQ.out).slice
      have HES := Lib.hid hes
      have HCN := Lib.hid (hp.count)
      have hkt := Lib.hid (Tr.tot_nodes q HQ.out)
      have hnn : q.kids.num ≤ 300 := by have := Tr.num_le q.kids; have := hkt.out; omega
      clear hkq hp hm hq hes
      go_wp2_with (at_builtin; (refine ev_appx 46 44 _ 1 8 Tryd.underlying46 info44 rfl (by decide) rfl (.tmp 24) (.tmp 28) rfl w1.heap.size u4 all.length (all.map Nd.ptr) rfl (own_keep HM.out.all ((Mod.refl Nowhere wr).alloc (.cells #[.pointer (some ⟨q.id, 0, none⟩)] 44)) (fun _ _ h => h)) 1 [q.ptr] (Src.of_blk (Blk.new wr 44 #[q.ptr]) rfl) (by intro u hu; simp only [List.mem_cons, List.not_mem_nil, or_false] at hu; subst hu; rfl) (by have := HCN.out; omega) (by decide) (Nat.le_trans HM.out.mod.size (by simp)) ?_; intro v4' w2 hA hB hC; have hM2 := bfs_all HM.out ((Mod.refl Nowhere wr).alloc _) hA hB hC; obtain ⟨b', off', cq', hv', hq'⟩ := hM2.que; have c1 : w2.cell? ⟨b, off, none⟩ = some (.pointer (some ⟨q.id, 0, none⟩)) := (by injection hv' with e1 e2 e3; injection e1 with e1; injection e1 with e1 e4; subst e1; subst e4; exact hq'.cell 0 _ rfl); have c2 : w2.cell? ⟨q.id, 1, none⟩ = some (.slice A q.kids.num ce) := (HES.out ▸ (HN.out.then hM2.mod q HQ.out).1.cell 1); have HM2 := Lib.hid hM2; clear hA hB hC hq' hv' hM2))
      clear c0 c1 c2
      obtain ⟨gk0, hgk0⟩ : ∃ g, g = gk := ⟨_, rfl⟩
      subst hgk0
      go_loopg [5, 37] q.kids.num (fun kq2 v5 v37 wr2 => ∃ pre post : Tr, v37 = .int .i64 pre.num ∧ Hid (kq2 = post.num ∧ q.kids = pre.app post ∧ BfsM w1 wr2 w1.heap.size (all ++ [q]) (q :: (qs ++ pre.tops)) v4' v5))
      case atStart => exact ⟨.nil, q.kids, rfl, rfl, rfl, by simpa [Tr.tops] using HM2.out⟩
      case round =>
        obtain ⟨pre, post, rfl, H⟩ := hrel
        obtain ⟨hkq2, hk, hm⟩ := H.out
        clear H
        have HKQ2 := Lib.hid hkq2
        have HK := Lib.hid hk
        cases post with
        | nil =>
          obtain ⟨b2, off2, cq2, hv2, hq2⟩ := hm.que
          subst hv2
          have hpre : pre = q.kids := by rw [hk, Tr.app_nil]
          have hend : decide (pre.num < q.kids.num) = false := by rw [hpre]; simp
          have HPS : Hid (BfsP T ⟨root, none, es, kids⟩ (all ++ [q]) (qs ++ pre.tops)) := by rw [hpre]; exact HP.out.step
          have HME : Hid (((qs ++ pre.tops).flatMap fun n => n :: n.kids.nodes).length < gk0) := by
            rw [hpre, HKQ.out, List.flatMap_append, ← Tr.nodes_tops, List.flatMap_cons]
            show (_ : Nat) < _
            rw [List.length_append, List.length_append, List.length_cons]; omega
          clear hpre hkq2 hk
          generalize qs ++ pre.tops = rs at *
          rw [List.length_map, List.length_cons] at *
          have hl1 : (1 : Int) ≤ ((rs.length + 1 : Nat) : Int) := by omega
          have HM3 := Lib.hid (bfs_drop hm)
          clear hm hq2
          by_cases hc1 : cq2 = 1
          · subst hc1
            go_wp2_with fail
            go_roundg (rs.flatMap fun n => n :: n.kids.nodes).length
            case measure => exact HME.out
            case rel => exact ⟨_, rs, rfl, HPS.out, by simpa using HM3.out⟩
          · have HM4 : Hid (BfsM w1 wr w1.heap.size (all ++ [q]) rs v4' (.slice (some ⟨b2, off2 + 1, none⟩) rs.length (cq2 - 1))) := by have := HM3.out; rw [if_neg hc1] at this; exact this
            go_wp2_with fail
            go_roundg (rs.flatMap fun n => n :: n.kids.nodes).length
            case measure => exact HME.out
            case rel => exact ⟨_, rs, rfl, HPS.out, HM4.out⟩
        | edge lab cid ch ces cpos ck tl =>
          have hlt : pre.num < q.kids.num := by rw [hk, Tr.num_app]; simp only [Tr.num]; omega
          have hx := hk ▸ HES.out ▸ (HN.out.then hm.mod q HQ.out)
          obtain ⟨a, rfl, x0, x1, _, _, _⟩ := hx.edge
          have HM3 := Lib.hid hm
          have hk1 : q.kids = (pre.app (.edge lab cid ch ces cpos ck .nil)).app tl := by rw [hk, Tr.app_assoc]; rfl
          have HK1 := Lib.hid hk1
          have hcn2 : Hid ((q :: (qs ++ pre.tops)).length + 1 ≤ 300) := by
            have h1 := HCN.out
            have h2 := Tr.num_le q.kids
            have h3 := hkt.out
            have h4 := Tr.tops_length pre
            show (_ : Nat) ≤ _
            simp only [List.length_cons, List.length_append] at h1 ⊢
            omega
          clear hm hk hk1 hkq2 hx
          go_wp2_with (at_builtin; (refine ev_que 46 44 _ 8 Tryd.underlying46 info44 rfl rfl (.tmp 41) (.tmp 44) rfl w1.heap.size u5 ((q :: (qs ++ pre.tops)).map Nd.ptr) rfl (HM3.out.que.then (((Mod.refl Nowhere wr).alloc (.cells #[.string lab, .pointer (some ⟨cid, 0, none⟩)] 52)).alloc (.cells #[.pointer (some ⟨cid, 0, none⟩)] 44))) (.pointer (some ⟨cid, 0, none⟩)) (src_alloc2 wr _ _) rfl (by have := hcn2.out; rw [List.length_map]; simp only [maxLen]; omega) (by have := hcn2.out; rw [List.length_map]; omega) (Nat.le_trans HM3.out.mod.size (by simp; omega)) ?_; intro v5' w3 hA hB hC; have HM5 := Lib.hid (bfs_que (q := ⟨cid, ch, ces, ck⟩) HM3.out (((Mod.refl Nowhere wr).alloc _).alloc _) hA hB hC); clear hA hB hC))
          go_roundg tl.num
          case measure => have := HKQ2.out; simp only [Tr.num] at this; omega
          case rel =>
            refine ⟨pre.app (.edge lab cid ch ces cpos ck .nil), tl, ?_, rfl, HK1.out, ?_⟩
            · rw [Tr.num_app]; simp only [Tr.num]; go_num
            · rw [Tr.tops_app]; simpa [Tr.tops] using HM5.out

end Go.Proofs.YtkpiioiahdcpjaaDoor
