import Derived.Test.Qxb6605700aGr1
namespace Go.Proofs.Qxb6605700a
open Go.ChangeShapes Go.WideShapes Go.ChangeAt Go.RowKit
set_option linter.unusedVariables false

/-! ### the second half of zzToolGraph: what lies where -/
theorem Own.ty {α : Type} {enc : α → Value} {w : World} {B e : Nat} {v : Value} {xs : List α} (h : Own enc w B e v xs) : ∀ k, v.ownBlock = some k → ∃ cs, w.heap[k]? = some (.cells cs e (0, 0)) := by
  intro k hk
  obtain ⟨_, h2⟩ := h
  rcases h2 with ⟨rfl, _⟩ | ⟨g, cap, cur, rfl, hB, hg, _⟩
  · simp [Value.ownBlock] at hk
  · simp [Value.ownBlock] at hk
    subst hk
    exact ⟨cur, hg⟩
theorem Own.lt {α : Type} {enc : α → Value} {w : World} {B e : Nat} {v : Value} {xs : List α} (h : Own enc w B e v xs) : ∀ k, v.ownBlock = some k → k < w.heap.size := fun k hk => (World.ownsRow.lt h k hk).2
theorem Blk.neOwn {α : Type} {enc : α → Value} {w : World} {B e g t m : Nat} {v : Value} {xs : List α} (hb : Blk w g t m) (h : Own enc w B e v xs) (hne : t ≠ e) : some g ≠ v.ownBlock := by
  intro hk
  obtain ⟨cs, hc⟩ := h.ty g hk.symm
  obtain ⟨cs', hc', _⟩ := hb
  rw [hc] at hc'
  simp at hc'
  exact hne hc'.2.symm
theorem MapOf.neOwn {α : Type} {enc : α → Value} {w : World} {B e m nn : Nat} {F : ByteArray → Nat} {v : Value} {xs : List α} (hm : MapOf w m nn F) (h : Own enc w B e v xs) : some m ≠ v.ownBlock := by
  intro hk
  obtain ⟨cs, hc⟩ := h.ty m hk.symm
  obtain ⟨es, c, hc'⟩ := hm.isMap
  rw [hc] at hc'
  simp at hc'
/-- u's row is not v's. -/
def Apart (u : Value) (r : Option Nat) : Prop := u.ownBlock = none ∨ u.ownBlock ≠ r
theorem Own.apart {α β : Type} {enc : α → Value} {enc' : β → Value} {w : World} {B e B' e' : Nat} {v v' : Value} {xs : List α} {ys : List β} (h : Own enc w B e v xs) (h' : Own enc' w B' e' v' ys) (hne : e ≠ e') : Apart v v'.ownBlock := by
  cases hk : v.ownBlock with
  | none => exact .inl hk
  | some k =>
    right
    rw [hk]
    obtain ⟨cs, hc⟩ := h.ty k hk
    exact Blk.neOwn ⟨cs, hc, rfl⟩ h' hne
theorem Own.apartBlk {α : Type} {enc : α → Value} {w : World} {B e g t m : Nat} {v : Value} {xs : List α} (h : Own enc w B e v xs) (hb : Blk w g t m) (hne : e ≠ t) : Apart v (some g) := by
  right
  exact fun e1 => hb.neOwn h (fun e2 => hne e2.symm) e1.symm
theorem apart_nil (r : Option Nat) : Apart (.slice none 0 0) r := .inl rfl

/-- A file: its block, its tools. -/
structure FS where
  b : Nat
  v : Value
  ts : List Tl
structure FS.Ok (f : FS) (w : World) (B : Nat) : Prop where
  cell : w.cell? ⟨f.b, 9, none⟩ = some f.v
  blk : Blk w f.b 32 10
  own : Own Tl.enc w B 56 f.v f.ts
  low : B ≤ f.b
theorem FS.Ok.kept {f : FS} {w w' : World} {B : Nat} {row : Option Nat} (h : f.Ok w B) (hg : w.grownBy w' row) (h1 : some f.b ≠ row) (h2 : Apart f.v row) : f.Ok w' B :=
  ⟨by rw [World.cell?_of_block (w := w) (a := ⟨f.b, 9, none⟩) (hg.block f.b h.blk.lt h1)]; exact h.cell, h.blk.keep (hg.block f.b h.blk.lt h1), h.own.kept hg h2, h.low⟩

def bptr (b : Nat) : Value := .pointer (some ⟨b, 0, none⟩)

/-- What is not turned any more (but by new blocks). -/
structure Sx (w : World) (n gP gT gM nn : Nat) (F : ByteArray → Nat) (fs : List FS) (allT : List Tl) (wr : World) : Prop where
  below : Below w.heap.size w wr
  pt : Blk wr gT 28 n
  pts : ∀ j, j < n → wr.cell? ⟨gT, j, none⟩ = some (PP gP j)
  map : MapOf wr gM nn F
  tok : ∀ t ∈ allT, t.Ok wr gP
  fok : ∀ f ∈ fs, f.Ok wr w.heap.size
theorem Sx.kept {w wr w' : World} {n gP gT gM nn : Nat} {F : ByteArray → Nat} {fs : List FS} {allT : List Tl} {row : Option Nat} (h : Sx w n gP gT gM nn F fs allT wr) (hg : wr.grownBy w' row) (hr : ∀ k, row = some k → w.heap.size ≤ k)
    (h1 : some gT ≠ row) (h2 : some gM ≠ row) (h3 : ∀ t ∈ allT, some t.b ≠ row) (h4 : ∀ f ∈ fs, some f.b ≠ row ∧ Apart f.v row) : Sx w n gP gT gM nn F fs allT w' :=
  ⟨h.below.grown hg h.below.size hr, h.pt.keep (hg.block gT h.pt.lt h1), fun j hj => by rw [World.cell?_of_block (w := wr) (a := ⟨gT, j, none⟩) (hg.block gT h.pt.lt h1)]; exact h.pts j hj, h.map.kept hg h2, fun t ht => (h.tok t ht).keep (hg.block t.b (h.tok t ht).blk.lt (h3 t ht)), fun f hf => (h.fok f hf).kept hg (h4 f hf).1 (h4 f hf).2⟩
/-- The block x of another type than theirs. -/
theorem Sx.keptBlk {w wr w' : World} {n gP gT gM nn : Nat} {F : ByteArray → Nat} {fs : List FS} {allT : List Tl} {x t m : Nat} (h : Sx w n gP gT gM nn F fs allT wr) (hg : wr.grownBy w' (some x)) (hx : w.heap.size ≤ x) (hb : Blk wr x t m)
    (h1 : t ≠ 28) (h2 : t ≠ 58) (h3 : t ≠ 56) (h4 : ∀ f ∈ fs, f.b ≠ x) : Sx w n gP gT gM nn F fs allT w' :=
  h.kept hg (by intro k hk; cases hk; exact hx) (by simpa using blk_ne h.pt hb (Ne.symm h1)) (by simpa using h.map.blkNe hb) (fun t ht => by simpa using blk_ne (h.tok t ht).blk hb (Ne.symm h2)) (fun f hf => ⟨by simpa using h4 f hf, (h.fok f hf).own.apartBlk hb (Ne.symm h3)⟩)
/-- The block of a row of another type than theirs (56: the rows are told apart). -/
theorem Sx.keptOwn {α : Type} {enc : α → Value} {w wr w' : World} {n gP gT gM nn e : Nat} {F : ByteArray → Nat} {fs : List FS} {allT : List Tl} {v : Value} {xs : List α} (h : Sx w n gP gT gM nn F fs allT wr) (hg : wr.grownBy w' v.ownBlock) (ho : Own enc wr w.heap.size e v xs)
    (h1 : e ≠ 28) (h2 : e ≠ 58) (h3 : e ≠ 32) (h4 : ∀ f ∈ fs, Apart f.v v.ownBlock) : Sx w n gP gT gM nn F fs allT w' :=
  h.kept hg (Own.from ho) (h.pt.neOwn ho (Ne.symm h1)) (h.map.neOwn ho) (fun t ht => (h.tok t ht).blk.neOwn ho (Ne.symm h2)) (fun f hf => ⟨(h.fok f hf).blk.neOwn ho (Ne.symm h3), h4 f hf⟩)

structure St (w : World) (n gP gT gM gO nn : Nat) (F : ByteArray → Nat) (S : Nat → Prop) (fs : List FS) (filesV : Value) (allV : Value) (allT : List Tl) (wr : World) : Prop where
  x : Sx w n gP gT gM nn F fs allT wr
  hO : w.heap.size ≤ gO
  ob : Blk wr gO 4 n
  obs : ∀ j, j < n → ∃ b : Bool, wr.cell? ⟨gO, j, none⟩ = some (.bool b) ∧ (b = true ↔ S j)
  all : Own Tl.enc wr w.heap.size 56 allV allT
  files : Own bptr wr w.heap.size 24 filesV (fs.map FS.b)
  sep : ∀ f ∈ fs, Apart f.v allV.ownBlock
/-- The file in hand. -/
structure Cu (w : World) (fs : List FS) (allV : Value) (c : FS) (wr : World) : Prop where
  ok : c.Ok wr w.heap.size
  ne : ∀ f ∈ fs, f.b ≠ c.b ∧ Apart f.v c.v.ownBlock
  sep : Apart c.v allV.ownBlock ∧ Apart allV c.v.ownBlock

theorem keepObs {wr w' : World} {gO n : Nat} {S : Nat → Prop} (h : ∀ j, j < n → ∃ b : Bool, wr.cell? ⟨gO, j, none⟩ = some (.bool b) ∧ (b = true ↔ S j)) (e : w'.heap[gO]? = wr.heap[gO]?) : ∀ j, j < n → ∃ b : Bool, w'.cell? ⟨gO, j, none⟩ = some (.bool b) ∧ (b = true ↔ S j) := fun j hj => by
  obtain ⟨b, h1, h2⟩ := h j hj
  exact ⟨b, by rw [World.cell?_of_block (w := wr) (a := ⟨gO, j, none⟩) e]; exact h1, h2⟩

theorem St.later {w wr w' : World} {n gP gT gM gO nn : Nat} {F : ByteArray → Nat} {S : Nat → Prop} {fs : List FS} {filesV allV : Value} {allT : List Tl} (h : St w n gP gT gM gO nn F S fs filesV allV allT wr) (hb : Below wr.heap.size wr w') : St w n gP gT gM gO nn F S fs filesV allV allT w' := by
  have hg := below_grown hb
  have ap : ∀ v : Value, Apart v none := fun v => by cases hk : v.ownBlock with
    | none => exact .inl hk
    | some k => exact .inr (by rw [hk]; simp)
  exact ⟨h.x.kept hg (by intro k hk; cases hk) (by simp) (by simp) (fun _ _ => by simp) (fun f _ => ⟨by simp, ap _⟩), h.hO, h.ob.later hb, keepObs h.obs (hb.block gO h.ob.lt), h.all.later hb, h.files.later hb, h.sep⟩
theorem Cu.later {w wr w' : World} {fs : List FS} {allV : Value} {c : FS} (h : Cu w fs allV c wr) (hb : Below wr.heap.size wr w') : Cu w fs allV c w' := by
  have ap : ∀ v : Value, Apart v none := fun v => by cases hk : v.ownBlock with
    | none => exact .inl hk
    | some k => exact .inr (by rw [hk]; simp)
  exact ⟨h.ok.kept (below_grown hb) (by simp) (ap _), h.ne, h.sep⟩

/-- owned[j] = true. -/
theorem St.setO {w wr : World} {n gP gT gM gO nn : Nat} {F : ByteArray → Nat} {S : Nat → Prop} {fs : List FS} {filesV allV : Value} {allT : List Tl} (h : St w n gP gT gM gO nn F S fs filesV allV allT wr) (j : Nat) (hj : j < n) : St w n gP gT gM gO nn F (fun i => S i ∨ i = j) fs filesV allV allT (wr.setCell ⟨gO, j, none⟩ (.bool true)) := by
  have hg := grown_setCell wr gO j (.bool true)
  refine ⟨h.x.keptBlk hg h.hO h.ob (by decide) (by decide) (by decide) (fun f hf => blk_ne (h.x.fok f hf).blk h.ob (by decide)), h.hO, h.ob.set j _, fun i hi => ?_, h.all.kept hg (h.all.apartBlk h.ob (by decide)), h.files.kept hg (h.files.apartBlk h.ob (by decide)), h.sep⟩
  obtain ⟨b, h1, h2⟩ := h.obs i hi
  by_cases e : i = j
  · subst e; exact ⟨true, set_same h1, by simp⟩
  · exact ⟨b, by rw [set_other (fun x => e x.symm)]; exact h1, by rw [h2]; simp [e]⟩
theorem Cu.setO {w wr : World} {fs : List FS} {allV : Value} {c : FS} {gO n : Nat} (h : Cu w fs allV c wr) (hO : Blk wr gO 4 n) (j : Nat) (v : Value) : Cu w fs allV c (wr.setCell ⟨gO, j, none⟩ v) :=
  ⟨h.ok.kept (grown_setCell wr gO j v) (by simpa using blk_ne h.ok.blk hO (by decide)) (h.ok.own.apartBlk hO (by decide)), h.ne, h.sep⟩

/-- f.Tools = append(f.Tools, t). -/
theorem St.cur {w w4 w5 : World} {n gP gT gM gO nn : Nat} {F : ByteArray → Nat} {S : Nat → Prop} {fs : List FS} {filesV allV v' : Value} {allT ts' : List Tl} {c : FS} (h : St w n gP gT gM gO nn F S fs filesV allV allT w4) (hc : Cu w fs allV c w4)
    (hg : w4.grownBy w5 c.v.ownBlock) (ho : Own Tl.enc w5 w.heap.size 56 v' ts') (hat : v'.ownBlock = c.v.ownBlock ∨ v'.ownBlock = some w4.heap.size) :
    Blk w5 c.b 32 10 ∧ St w n gP gT gM gO nn F S fs filesV allV allT (w5.setCell ⟨c.b, 9, none⟩ v') ∧ Cu w fs allV ⟨c.b, v', ts'⟩ (w5.setCell ⟨c.b, 9, none⟩ v') := by
  have hB5 : Blk w5 c.b 32 10 := hc.ok.blk.keep (hg.block c.b hc.ok.blk.lt (hc.ok.blk.neOwn hc.ok.own (by decide)))
  have hS5 : St w n gP gT gM gO nn F S fs filesV allV allT w5 :=
    ⟨h.x.keptOwn hg hc.ok.own (by decide) (by decide) (by decide) (fun f hf => (hc.ne f hf).2), h.hO, h.ob.keep (hg.block gO h.ob.lt (h.ob.neOwn hc.ok.own (by decide))), keepObs h.obs (hg.block gO h.ob.lt (h.ob.neOwn hc.ok.own (by decide))), h.all.kept hg hc.sep.2, h.files.kept hg (h.files.apart hc.ok.own (by decide)), h.sep⟩
  have hg6 := grown_setCell w5 c.b 9 v'
  have hS6 : St w n gP gT gM gO nn F S fs filesV allV allT (w5.setCell ⟨c.b, 9, none⟩ v') :=
    ⟨hS5.x.keptBlk hg6 hc.ok.low hB5 (by decide) (by decide) (by decide) (fun f hf => (hc.ne f hf).1), hS5.hO, hS5.ob.keep (hg6.block gO hS5.ob.lt (by simpa using blk_ne hS5.ob hB5 (by decide))), keepObs hS5.obs (hg6.block gO hS5.ob.lt (by simpa using blk_ne hS5.ob hB5 (by decide))), hS5.all.kept hg6 (hS5.all.apartBlk hB5 (by decide)), hS5.files.kept hg6 (hS5.files.apartBlk hB5 (by decide)), hS5.sep⟩
  refine ⟨hB5, hS6, ⟨⟨?_, hB5.set 9 _, ho.kept hg6 (ho.apartBlk hB5 (by decide)), hc.ok.low⟩, fun f hf => ⟨(hc.ne f hf).1, ?_⟩, ?_, ?_⟩⟩
  · obtain ⟨u, hu⟩ := hB5.cell (show 9 < 10 by decide)
    exact set_same hu
  · rcases hat with e | e
    · show Apart f.v v'.ownBlock
      rw [e]; exact (hc.ne f hf).2
    · show Apart f.v v'.ownBlock
      rw [e]
      cases hk : f.v.ownBlock with
      | none => exact .inl hk
      | some k =>
        have := (h.x.fok f hf).own.lt k hk
        exact .inr (by rw [hk]; simp; omega)
  · show Apart v' allV.ownBlock
    rcases hat with e | e
    · have := hc.sep.1
      unfold Apart at this ⊢
      rw [e]; exact this
    · right
      rw [e]
      intro e1
      have := h.all.lt _ e1.symm
      omega
  · show Apart allV v'.ownBlock
    rcases hat with e | e
    · rw [e]; exact hc.sep.2
    · rw [e]
      cases hk : allV.ownBlock with
      | none => exact .inl hk
      | some k =>
        have := h.all.lt k hk
        exact .inr (by rw [hk]; simp; omega)

/-- all = append(all, t). -/
theorem St.allUp {w w7 w8 : World} {n gP gT gM gO nn : Nat} {F : ByteArray → Nat} {S : Nat → Prop} {fs : List FS} {filesV allV v' : Value} {allT : List Tl} {t : Tl} {c : FS} (h : St w n gP gT gM gO nn F S fs filesV allV allT w7) (hc : Cu w fs allV c w7)
    (ht : t.Ok w7 gP) (hg : w7.grownBy w8 allV.ownBlock) (ho : Own Tl.enc w8 w.heap.size 56 v' (allT ++ [t])) (hat : v'.ownBlock = allV.ownBlock ∨ v'.ownBlock = some w7.heap.size) :
    St w n gP gT gM gO nn F S fs filesV v' (allT ++ [t]) w8 ∧ Cu w fs v' c w8 := by
  have hX := h.x.keptOwn hg h.all (by decide) (by decide) (by decide) h.sep
  have ht8 : t.Ok w8 gP := ht.keep (hg.block t.b ht.blk.lt (ht.blk.neOwn h.all (by decide)))
  have far : ∀ v : Value, ∀ ts : List Tl, Own Tl.enc w7 w.heap.size 56 v ts → Apart v allV.ownBlock → Apart v v'.ownBlock := fun v ts hv ha => by
    rcases hat with e | e
    · rw [e]; exact ha
    · rw [e]
      cases hk : v.ownBlock with
      | none => exact .inl hk
      | some k =>
        have := hv.lt k hk
        exact .inr (by rw [hk]; simp; omega)
  refine ⟨⟨⟨hX.below, hX.pt, hX.pts, hX.map, fun x hx => ?_, hX.fok⟩, h.hO, h.ob.keep (hg.block gO h.ob.lt (h.ob.neOwn h.all (by decide))), keepObs h.obs (hg.block gO h.ob.lt (h.ob.neOwn h.all (by decide))), ho, h.files.kept hg (h.files.apart h.all (by decide)), fun f hf => far _ _ (h.x.fok f hf).own (h.sep f hf)⟩, ⟨hc.ok.kept hg (hc.ok.blk.neOwn h.all (by decide)) hc.sep.1, hc.ne, far _ _ hc.ok.own hc.sep.1, ?_⟩⟩
  · rw [List.mem_append] at hx
    rcases hx with hx | hx
    · exact hX.tok x hx
    · simp at hx; subst hx; exact ht8
  · rcases hat with e | e
    · have := hc.sep.2
      unfold Apart at this ⊢
      rw [e]; exact this
    · right
      rw [e]
      intro e1
      have := hc.ok.own.lt _ e1.symm
      omega

/-- files = append(files, f). -/
theorem St.filesUp {w w7 w8 : World} {n gP gT gM gO nn : Nat} {F : ByteArray → Nat} {S : Nat → Prop} {fs : List FS} {filesV allV v' : Value} {allT : List Tl} {c : FS} (h : St w n gP gT gM gO nn F S fs filesV allV allT w7) (hc : Cu w fs allV c w7)
    (hg : w7.grownBy w8 filesV.ownBlock) (ho : Own bptr w8 w.heap.size 24 v' (fs.map FS.b ++ [c.b])) : St w n gP gT gM gO nn F S (fs ++ [c]) v' allV allT w8 := by
  have hX := h.x.keptOwn hg h.files (by decide) (by decide) (by decide) (fun f hf => (h.x.fok f hf).own.apart h.files (by decide))
  have hc8 : c.Ok w8 w.heap.size := hc.ok.kept hg (hc.ok.blk.neOwn h.files (by decide)) (hc.ok.own.apart h.files (by decide))
  refine ⟨⟨hX.below, hX.pt, hX.pts, hX.map, hX.tok, fun f hf => ?_⟩, h.hO, h.ob.keep (hg.block gO h.ob.lt (h.ob.neOwn h.files (by decide))), keepObs h.obs (hg.block gO h.ob.lt (h.ob.neOwn h.files (by decide))), h.all.kept hg (h.all.apart h.files (by decide)), by rw [List.map_append]; exact ho, fun f hf => ?_⟩
  · rw [List.mem_append] at hf
    rcases hf with hf | hf
    · exact hX.fok f hf
    · simp at hf; subst hf; exact hc8
  · rw [List.mem_append] at hf
    rcases hf with hf | hf
    · exact h.sep f hf
    · simp at hf; subst hf; exact hc.sep.1

/-- f := &File{..}. -/
theorem St.newFile {w wr : World} {n gP gT gM gO nn : Nat} {F : ByteArray → Nat} {S : Nat → Prop} {fs : List FS} {filesV allV : Value} {allT : List Tl} (h : St w n gP gT gM gO nn F S fs filesV allV allT wr) (cs : Array Value) (h10 : cs.size = 10) (h9 : cs[9]? = some (.slice none 0 0)) :
    Cu w fs allV ⟨wr.heap.size, .slice none 0 0, []⟩ (wr.alloc (.cells cs 32)) := by
  have hbk : (wr.alloc (.cells cs 32)).heap[wr.heap.size]? = some (.cells cs 32 (0, 0)) := heap_alloc_new wr _
  refine ⟨⟨by simp only [World.cell?, hbk]; exact h9, ⟨cs, hbk, h10⟩, Own.nil _ _ _ _, h.x.below.size⟩, fun f hf => ⟨?_, ?_⟩, .inl rfl, ?_⟩
  · have := (h.x.fok f hf).blk.lt
    show f.b ≠ wr.heap.size
    omega
  · cases hk : f.v.ownBlock with
    | none => exact .inl hk
    | some k => exact .inr (by rw [hk]; simp [Value.ownBlock])
  · cases hk : allV.ownBlock with
    | none => exact .inl hk
    | some k => exact .inr (by rw [hk]; simp [Value.ownBlock])

end Go.Proofs.Qxb6605700a
