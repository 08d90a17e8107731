import Derived.Test.Qxb6605700aLay
namespace Go.Proofs.Qxb6605700a
open Go.ChangeShapes Go.WideShapes Go.ChangeAt Go.RowKit
set_option linter.unusedVariables false

/-! ### tools -/
/-- A tool: its block, its path, the package that owns it. -/
structure Tl where
  b : Nat
  path : ByteArray
  pkg : Option Nat
def Tl.enc (t : Tl) : Value := .pointer (some ⟨t.b, 0, none⟩)
/-- The tool lies so in w (g: the packages' block). -/
structure Tl.Ok (t : Tl) (w : World) (g : Nat) : Prop where
  path : w.cell? ⟨t.b, 0, none⟩ = some (.string t.path)
  sha : w.cell? ⟨t.b, 2, none⟩ = some (.string ByteArray.empty)
  pkg : w.cell? ⟨t.b, 4, none⟩ = some (K g t.pkg)
  blk : Blk w t.b 58 5
theorem Tl.Ok.keep {t : Tl} {w w' : World} {g : Nat} (h : t.Ok w g) (e : w'.heap[t.b]? = w.heap[t.b]?) : t.Ok w' g :=
  ⟨by rw [World.cell?_of_block (w := w) (w' := w') (a := ⟨t.b, 0, none⟩) e]; exact h.path, by rw [World.cell?_of_block (w := w) (w' := w') (a := ⟨t.b, 2, none⟩) e]; exact h.sha, by rw [World.cell?_of_block (w := w) (w' := w') (a := ⟨t.b, 4, none⟩) e]; exact h.pkg, h.blk.keep e⟩
theorem Tl.Ok.later {t : Tl} {w w' : World} {g : Nat} (h : t.Ok w g) (hb : Below w.heap.size w w') : t.Ok w' g := h.keep (hb.block t.b h.blk.lt)

theorem sortWorld_block {α : Type} [Inhabited α] (enc : α → Value) (w : World) (blk off m : Nat) (dk : Array α) (os : Array Obj) {k : Nat} (hk : k < w.heap.size) (hne : k ≠ blk) : (sortWorld enc w blk off m dk os).heap[k]? = w.heap[k]? := by
  unfold sortWorld
  rw [Sort.heap_grow_old _ _ (by simpa using hk)]
  simp [Sort.putRow, Sort.mapBlock, Array.getElem?_modify, Ne.symm hne]

theorem orZ_zero (x : Int) : orZ x 0 = x := by
  unfold orZ
  split
  · rfl
  · rename_i h; simp at h; exact h.symm

/-- How two tools compare. -/
def cmpT {g : Nat} {w : World} (x y : { t : Tl // t.Ok w g }) : Int := cmpS x.1.path y.1.path
theorem swoT {g : Nat} {w : World} [Inhabited { t : Tl // t.Ok w g }] : Sort.SWO (ltOf (cmpT (g := g) (w := w))) where
  irrefl x := by simp [ltOf, cmpT, cmpS, cb_refl]
  trans x y z h1 h2 := by
    have h1' : cmpT x y < 0 := of_decide_eq_true h1
    have h2' : cmpT y z < 0 := of_decide_eq_true h2
    unfold cmpT cmpS at h1' h2'
    exact decide_eq_true ((cb_trans _ _ _ (by omega) (by omega)).2 (.inl h1'))
  ntrans x y z h1 h2 := by
    have h1' : ¬ cmpT x y < 0 := of_decide_eq_false h1
    have h2' : ¬ cmpT y z < 0 := of_decide_eq_false h2
    unfold cmpT cmpS at h1' h2'
    have a1 := cb_anti x.1.path.data.toList y.1.path.data.toList
    have a2 := cb_anti y.1.path.data.toList z.1.path.data.toList
    have a3 := cb_anti x.1.path.data.toList z.1.path.data.toList
    have := (cb_trans z.1.path.data.toList y.1.path.data.toList x.1.path.data.toList (by omega) (by omega)).1
    refine decide_eq_false ?_
    unfold cmpT cmpS
    omega

theorem cmpS_empty : cmpS ByteArray.empty ByteArray.empty = 0 := cb_refl _

set_option maxRecDepth 100000 in
theorem sortFunc (g B : Nat) (v : Value) (ts : List Tl) (w : World) (hok : ∀ t ∈ ts, t.Ok w g) (hown : Own Tl.enc w B 56 v ts) (hn : ts.length ≤ 1048576) :
    Calls Try.prog 25 #[v, .func (.func 26) #[] #[]] w fun e w' => e = .returned (.tuple #[]) ∧ ∃ ts' : List Tl, ts'.Perm ts ∧ Below B w w' ∧ (∃ ao c, v = .slice ao ts'.length c ∧ Row Tl.enc w' ao ts') ∧ ∀ t ∈ ts', t.Ok w' g := by
  by_cases hnil : ts = []
  · subst hnil
    obtain ⟨ao, c, rfl, hrow, _⟩ := hown.slice
    have hcon := AnyF.slices_SortFunc_none (P := Try.prog) (ρ := sortTools_ren) { sortTools with } ao c (.func (.func 26) #[] #[]) w
    change Calls Try.prog 25 _ _ _ at hcon
    refine hcon.mono ?_
    rintro e w' ⟨rfl, rfl⟩
    exact ⟨rfl, [], List.Perm.refl _, Below.refl _ _, ⟨ao, c, rfl, hrow⟩, fun t ht => (by cases ht)⟩
  · obtain ⟨t0, ts0, rfl⟩ := List.exists_cons_of_ne_nil hnil
    have hInh : Inhabited { t : Tl // t.Ok w g } := ⟨⟨t0, hok t0 (.head _)⟩⟩
    generalize hts : t0 :: ts0 = ts at *
    obtain ⟨h1, h2⟩ := hown
    rcases h2 with ⟨rfl, hn0⟩ | ⟨gb, cap, cur, rfl, hB, hg, hnc, hcm, hs, ht⟩
    · exact absurd (List.eq_nil_of_length_eq_zero hn0) hnil
    · have hgl : gb < w.heap.size := lt_of_block hg
      have hrow : ∀ i t, ts[i]? = some t → w.cell? ⟨gb, 0 + i, none⟩ = some t.enc := fun i t hi => by
        have e1 : (ts.map Tl.enc)[i]? = some t.enc := by simp [hi]
        rw [← ht] at e1
        have hlt := lt_of_get hi
        rw [List.getElem?_take_of_lt (by omega)] at e1
        rw [Nat.zero_add]
        simpa [World.cell?, hg] using e1
      let d : Array { t : Tl // t.Ok w g } := (ts.attachWith (fun t => t.Ok w g) hok).toArray
      have hd : d.size = ts.length := by simp [d]
      have hmap : d.toList.map Subtype.val = ts := by simp [d]
      have hdi : ∀ j, j < d.size → ts[j]? = some (d[j]!).1 := fun j hj => by
        have : (d.toList.map Subtype.val)[j]? = some (d[j]!).1 := by simp [hj]
        rwa [hmap] at this
      have hH : Sort.Holds (fun t : { t : Tl // t.Ok w g } => t.1.enc) w gb 0 d := fun j hj => ⟨hrow j _ (hdi j hj), by simp [World.frozen?, hg]⟩
      have hfar : ∀ t : Tl, t.Ok w g → t.b ≠ gb := fun t ht e => by
        obtain ⟨cs, hc, _⟩ := ht.blk
        rw [e, hg] at hc
        simp at hc
      have hcmp : CmpLays1 Try.prog 26 #[] (fun t : { t : Tl // t.Ok w g } => t.1.enc) cmpT gb 0 d.size w := by
        intro m os dk hs x y
        have kx := x.2.keep (sortWorld_block (fun t : { t : Tl // t.Ok w g } => t.1.enc) w gb 0 m dk os x.2.blk.lt (hfar _ x.2))
        have ky := y.2.keep (sortWorld_block (fun t : { t : Tl // t.Ok w g } => t.1.enc) w gb 0 m dk os y.2.blk.lt (hfar _ y.2))
        refine (byPathAndContent x.1.b y.1.b x.1.path y.1.path ByteArray.empty ByteArray.empty _ kx.path kx.sha ky.path ky.sha).mono ?_
        rintro e w' ⟨rfl, q, o, rfl⟩
        exact ⟨by rw [cmpS_empty, orZ_zero]; rfl, q, #[o], Sort.alloc_eq_grow _ _⟩
      have eg : ∀ args w, (callFunc 26 args).run Try.prog w = .ok (.enter 26 args) w := enters_of Try.func26 (by kernel_rfl) rfl
      have hcon := Any.slices_SortFunc sortTools (fun t : { t : Tl // t.Ok w g } => t.1.enc) (fun _ => rfl) cmpT swoT 26 #[] gb 0 cap d w eg hcmp hH hgl (by omega)
      change Calls Try.prog 25 _ _ _ at hcon
      rw [hd] at hcon
      refine hcon.mono ?_
      rintro e w' ⟨rfl, d', m, os, hperm, -, rfl⟩
      have hp : d'.toList.Perm d.toList := by
        obtain ⟨p1, p2, p3⟩ := hperm
        have e1 : d'.extract 0 ts.length = d' := by rw [Array.extract_eq_self_of_le (by omega)]
        have e2 : d.extract 0 ts.length = d := by rw [Array.extract_eq_self_of_le (by omega)]
        rwa [e1, e2] at p3
      have hsz : d'.size = d.size := hperm.1
      have hH' := Sort.holds_grow _ _ os gb 0 d' (by simpa using hgl) (Sort.holds_putRow _ (Sort.ahead w m) gb 0 d d' (Sort.holds_ahead _ w m gb 0 d hH) hsz)
      refine ⟨rfl, d'.toList.map Subtype.val, ?_, ?_, ⟨some ⟨gb, 0, none⟩, cap, ?_, .inr ⟨gb, 0, rfl, fun i t hi => ?_⟩⟩, ?_⟩
      · rw [← hmap]
        exact hp.map _
      · refine ⟨rfl, rfl, rfl, by simp [sortWorld], fun k hk => sortWorld_block _ _ _ _ _ _ _ (by omega) (by omega)⟩
      · simp [hsz, hd]
      · have hlt := lt_of_get hi
        simp at hlt
        have : t = (d'[i]!).1 := by simp [hlt] at hi ⊢; exact hi.symm
        rw [this]
        exact (hH' i hlt).1
      · intro t ht
        simp at ht
        obtain ⟨hOk, _⟩ := ht
        exact hOk.keep (sortWorld_block _ _ _ _ _ _ _ hOk.blk.lt (hfar _ hOk))

end Go.Proofs.Qxb6605700a
