import Derived.Test.Qxb6605700aGr3
namespace Go.Proofs.Qxb6605700a
open Go.ChangeShapes Go.WideShapes Go.ChangeAt Go.RowKit
set_option linter.unusedVariables false

theorem wpList_box_hid {ops : Array Oper} {rest : List Oper} {o : Oper} {a : Act} {w : World} {Q : Exit → Act → World → Prop} (hg : o.guard = none) (t : TypeId) (x : Operand) (ho : o.op = .box t x)
    (cells : Array Value) (hx : a.eval x = .agg cells)
    (h : ∀ w1 g, Hid (g = w.heap.size ∧ w1 = w.alloc (.cells cells t)) → wpList Try.prog ops Q rest (a.put o.dst (.pointer (some ⟨g, 0, none⟩))) w1) : wpList Try.prog ops Q (o :: rest) a w :=
  wpList_box_abs hg t x ho cells hx (fun w1 g e1 e2 => h w1 g ⟨e1, e2.out⟩)

theorem info4 : (Try.prog.info? 4).map (fun i => (i.zero, i.size, i.bytes)) = some (some (.bool false), 1, 1) := by kernel_rfl
theorem info24 : (Try.prog.info? 24).map (fun i => (i.zero, i.size, i.bytes)) = some (some (.pointer none), 1, 8) := by kernel_rfl
theorem info30 : (Try.prog.info? 30).map (fun i => (i.zero, i.size, i.bytes)) = some (some (.slice none 0 0), 1, 24) := by kernel_rfl

theorem St.start {w wr w5 : World} {n gP gT gM gO nn lo : Nat} {F : ByteArray → Nat} (h : Ph w n gP gT gM lo n nn F wr) (e : gO = wr.heap.size)
    (ho : w5.ownsRow w.heap.size 4 1 (.slice (some ⟨gO, 0, none⟩) n n) n (madeCells (Value.bool false).cells (n * 1)).toList) (hg : wr.grownBy w5 none) :
    St w n gP gT gM gO nn F (fun j => OwnedBy [] (some j)) [] (.slice none 0 0) (.slice none 0 0) [] w5 := by
  have b1 : Below wr.heap.size wr w5 := (Below.refl _ _).grown hg (Nat.le_refl _) (by intro k hk; cases hk)
  have h5 := h.later b1
  have k1 := blk_of_owns ho
  rw [Nat.mul_one] at k1
  refine ⟨⟨h5.below, h5.pt, h5.pts, h5.map, by simp, by simp⟩, by rw [e]; exact h.below.size, k1, fun j hj => ⟨false, ?_, by simp [OwnedBy]⟩, Own.nil _ _ _ _, Own.nil _ _ _ _, by simp⟩
  have B1 := (block_of_owns ho).1
  have hm : (madeCells (Value.bool false).cells (n * 1)).toList[j]? = some (.bool false) := by
    show (madeCells #[Value.bool false] (n * 1)).toList[j]? = _
    rw [toList_madeCells_one, Nat.mul_one, List.getElem?_replicate, if_pos hj]
  simp only [World.cell?, B1]
  simpa using hm

theorem Tl.Ok.cur {t : Tl} {w w4 w5 : World} {gP : Nat} {fs : List FS} {allV v' : Value} {c : FS} (ht : t.Ok w4 gP) (hc : Cu w fs allV c w4) (hg : w4.grownBy w5 c.v.ownBlock) : t.Ok (w5.setCell ⟨c.b, 9, none⟩ v') gP := by
  have h5 : t.Ok w5 gP := ht.keep (hg.block t.b ht.blk.lt (ht.blk.neOwn hc.ok.own (by decide)))
  have hB5 : Blk w5 c.b 32 10 := hc.ok.blk.keep (hg.block c.b hc.ok.blk.lt (hc.ok.blk.neOwn hc.ok.own (by decide)))
  exact h5.keep ((grown_setCell w5 c.b 9 v').block t.b h5.blk.lt (by simpa using blk_ne h5.blk hB5 (by decide)))
theorem Tl.Ok.setO {t : Tl} {w : World} {gP gO n j : Nat} {v : Value} (ht : t.Ok w gP) (hO : Blk w gO 4 n) : t.Ok (w.setCell ⟨gO, j, none⟩ v) gP :=
  ht.keep ((grown_setCell w gO j v).block t.b ht.blk.lt (by simpa using blk_ne ht.blk hO (by decide)))

/-- The new tool. -/
theorem Tl.Ok.fresh (w : World) (gP : Nat) (s : ByteArray) : (Tl.mk w.heap.size s none).Ok (w.alloc (.cells #[.string s, .string ByteArray.empty, .string ByteArray.empty, .string ByteArray.empty, .pointer none] 58)) gP := by
  have hbk : (w.alloc (.cells #[.string s, .string ByteArray.empty, .string ByteArray.empty, .string ByteArray.empty, .pointer none] 58)).heap[w.heap.size]? = some (.cells #[.string s, .string ByteArray.empty, .string ByteArray.empty, .string ByteArray.empty, .pointer none] 58 (0, 0)) := heap_alloc_new w _
  refine ⟨by simp only [World.cell?, hbk]; rfl, by simp only [World.cell?, hbk]; rfl, by simp only [World.cell?, hbk]; rfl, ⟨_, hbk, rfl⟩⟩
theorem Tl.Ok.give {w : World} {gP g j : Nat} {s : ByteArray} (h : (Tl.mk g s none).Ok w gP) : (Tl.mk g s (some j)).Ok (w.setCell ⟨g, 4, none⟩ (PP gP j)) gP := by
  refine ⟨?_, ?_, set_same h.pkg, h.blk.set 4 _⟩
  · rw [set_other (by decide)]; exact h.path
  · rw [set_other (by decide)]; exact h.sha

theorem row_files {w : World} {ao : Option Addr} {xs : List Fl} (h : Row bptr w ao (xs.map Fl.b)) : Row Fl.enc w ao xs := by
  rcases h with h | ⟨b, off, rfl, hc⟩
  · exact .inl (by simpa using h)
  · exact .inr ⟨b, off, rfl, fun i x hi => hc i x.b (by simp [hi])⟩

def GPost (w : World) (n : Nat) (rs1 rs2 : List SR) (e : Ending) (w' : World) : Prop :=
  ∃ gG gP pa oa, e = .returned (.tuple #[.pointer (some ⟨gG, 0, none⟩), .slice pa n n, .slice oa n n]) ∧ Below w.heap.size w w' ∧ GOk w' n gG gP pa oa (ownerOf rs1 rs2 n)

theorem gok_rows {w wr : World} {n gP gT gM gO nn : Nat} {F : ByteArray → Nat} {fs : List FS} {filesV allV : Value} {allT : List Tl} {f : Nat → Bool} (h : St w n gP gT gM gO nn F (fun j => OwnedBy allT (some j)) fs filesV allV allT wr) (hf : ∀ i, f i = true ↔ OwnedBy allT (some i)) :
    Row (PP gP) wr (some ⟨gT, 0, none⟩) (List.range n) ∧ Row Value.bool wr (some ⟨gO, 0, none⟩) ((List.range n).map f) := by
  refine ⟨.inr ⟨gT, 0, rfl, fun i x hi => ?_⟩, .inr ⟨gO, 0, rfl, fun i b hi => ?_⟩⟩
  · have hl := lt_of_get hi
    rw [List.length_range] at hl
    rw [List.getElem?_range hl] at hi
    simp at hi
    subst hi
    rw [Nat.zero_add]
    exact h.x.pts i hl
  · have hl := lt_of_get hi
    rw [List.length_map, List.length_range] at hl
    rw [List.getElem?_map, List.getElem?_range hl] at hi
    simp at hi
    subst hi
    obtain ⟨b, h1, h2⟩ := h.obs i hl
    rw [Nat.zero_add, h1]
    have : b = f i := by
      rw [Bool.eq_iff_iff, h2, hf i]
    rw [this]

theorem gok_many {w wr w' : World} {n gP gT gM gO nn gG cf : Nat} {F : ByteArray → Nat} {fs : List FS} {fa : Option Addr} {allV : Value} {allT : List Tl} {f : Nat → Bool} (h : St w n gP gT gM gO nn F (fun j => OwnedBy allT (some j)) fs (.slice fa (fs.map FS.b).length cf) allV allT wr) (hf : ∀ i, f i = true ↔ OwnedBy allT (some i))
    (ht : allT = fs.flatMap FS.ts) (hnd : (allT.map Tl.b).Nodup) (hl : allT.length ≤ 1048576) (hl2 : fs.length ≤ 1048576) (hB : Below wr.heap.size wr w') (h1 : w'.cell? ⟨gG, 1, none⟩ = some (.slice fa (fs.map FS.b).length cf)) (h3 : w'.cell? ⟨gG, 3, none⟩ = some (.slice (some ⟨gT, 0, none⟩) n n)) (hr : Row bptr wr fa (fs.map FS.b)) :
    GOk w' n gG gP (some ⟨gT, 0, none⟩) (some ⟨gO, 0, none⟩) f := by
  obtain ⟨xs, e1, e2, hxs⟩ := FS.toFls (g := gP) fs h.x.fok (fun f' hf' t ht' => h.x.tok t (by rw [ht]; exact List.mem_flatMap.2 ⟨f', hf', ht'⟩))
  have ea : allTools xs = allT := by
    unfold allTools
    rw [ht, List.flatMap_def, List.flatMap_def, e2]
  obtain ⟨r1, r2⟩ := gok_rows h hf
  refine ⟨⟨fa, _, cf, xs, ?_, h1, (row_files (by rw [e1]; exact hr)).later hB, fun x hx => (hxs x hx).later hB, by rw [ea]; exact hnd, by rw [ea]; exact hl, by simpa using hl2, by rw [ea]; exact hf⟩, h3, r1.later hB, r2.later hB⟩
  rw [← e1, List.length_map]

theorem gok_one {w wr w' : World} {n gP gT gM gO nn gG gF : Nat} {F : ByteArray → Nat} {fs : List FS} {filesV allV : Value} {allT : List Tl} {f : Nat → Bool} {c : FS} (h : St w n gP gT gM gO nn F (fun j => OwnedBy allT (some j)) fs filesV allV allT wr) (hc : Cu w fs allV c wr) (hf : ∀ i, f i = true ↔ OwnedBy allT (some i))
    (ht : c.ts = allT.reverse) (hnd : (allT.map Tl.b).Nodup) (hl : allT.length ≤ 1048576) (hB : Below wr.heap.size wr w') (hF : w'.cell? ⟨gF, 0, none⟩ = some (bptr c.b)) (h1 : w'.cell? ⟨gG, 1, none⟩ = some (.slice (some ⟨gF, 0, none⟩) 1 1)) (h3 : w'.cell? ⟨gG, 3, none⟩ = some (.slice (some ⟨gT, 0, none⟩) n n)) :
    GOk w' n gG gP (some ⟨gT, 0, none⟩) (some ⟨gO, 0, none⟩) f := by
  obtain ⟨x, e1, e2, hx⟩ := FS.toFl (g := gP) hc.ok (fun t ht' => h.x.tok t (by rw [ht] at ht'; exact List.mem_reverse.1 ht'))
  have ea : allTools [x] = allT.reverse := by unfold allTools; simp [e2, ht]
  obtain ⟨r1, r2⟩ := gok_rows h hf
  refine ⟨⟨some ⟨gF, 0, none⟩, 1, 1, [x], rfl, h1, .inr ⟨gF, 0, rfl, fun i y hi => ?_⟩, fun y hy => ?_, ?_, by rw [ea]; simpa using hl, by omega, fun i => ?_⟩, h3, r1.later hB, r2.later hB⟩
  · match i, hi with
    | 0, hi =>
      simp at hi
      subst hi
      unfold Fl.enc
      rw [e1]
      exact hF
  · simp at hy
    subst hy
    exact hx.later hB
  · rw [ea, List.map_reverse]
    exact ((List.reverse_perm _).nodup_iff).2 hnd
  · rw [ea, hf i]
    unfold OwnedBy
    simp

end Go.Proofs.Qxb6605700a
