import PyProof.Rows.All
import Wide.All
import OpenK.AllK
import Wide.FinOn
import Lean
import PySem.Challenge.RW_sc0002_01
set_option Elab.async false
set_option compiler.extract_closed false
set_option maxRecDepth 100000
set_option linter.unusedVariables false
section
open PySem PySem.W PyProof.Rows PySem.Calls
namespace Mine
theorem said : PySem.Challenge.rw_sc0002_01.wellSaid = true := by
 rw [PySem.W.Fast.te9446332074065402090]
 kernel_rfl
end Mine
end
section
open PySem PySem.W PyProof.Rows
namespace Mine
noncomputable abbrev AnyTy : Type 1 := {α : Type} → (as : Array α) → (α → Bool) → (start : optParam Nat 0) → (stop : optParam Nat as.size) → Bool
noncomputable def anyF {α : Type} (as : Array α) (p : α → Bool) (start stop : Nat) : Bool :=
 Bool.rec (Array.any as p start stop) (Bool.rec (Array.any as p start stop) (PySem.W.R.anyR as.toList p) (Nat.beq stop as.toList.length)) (Nat.beq start 0)
theorem any_eq : @Eq AnyTy @Array.any.{0} @anyF := by
 funext α as p start stop
 show Array.any as p start stop = anyF as p start stop
 unfold anyF
 cases h : Nat.beq start 0 with
 | false => rfl
 | true =>
  cases h2 : Nat.beq stop as.toList.length with
  | false => rfl
  | true =>
   have e1 := Nat.eq_of_beq_eq_true h
   have e2 := Nat.eq_of_beq_eq_true h2
   subst e1
   subst e2
   show as.any p 0 as.toList.length = _
   rw [← PySem.W.R.anyR_eq]
   rw [show as.toList.length = as.size from rfl]
   exact (Array.any_toList).symm
inductive Over : Builtin → Type 1 where
 | mk (F : AnyTy → Builtin) (a : AnyTy) : Over (F @a)
noncomputable def overAll (F : AnyTy → Builtin) : ∀ g : AnyTy, Over (F @g) := fun g => .mk F @g
noncomputable def Over.fn : {b : Builtin} → Over b → AnyTy → Builtin
 | _, .mk F _ => F
set_option maxHeartbeats 4000000 in
noncomputable def overNew : Over PySem.W.Fast.tw4202317264376624991 := by
 delta PySem.W.Fast.tw4202317264376624991
 generalize @Array.any.{0} = g
 revert g
 exact overAll _
noncomputable def newF : Builtin := overNew.fn @anyF
theorem newF_eq : Builtin.«type.__new__» = newF := by
 refine PySem.W.Fast.te4202317264376624991.trans ?_
 have e : PySem.W.Fast.tw4202317264376624991 = overNew.fn @Array.any.{0} := by kernel_rfl
 exact e.trans (congrArg overNew.fn any_eq)
noncomputable def tab (id : String) : Option Builtin := Bool.rec (PySem.W.Fast.tw14364793385576792824 id) (some newF) (Nat.beq (PySem.code id) (PySem.code "type.__new__"))
theorem tab_eq : @treeTable = @tab := by
 funext id
 unfold tab
 cases h : Nat.beq (PySem.code id) (PySem.code "type.__new__") with
 | false => rw [PySem.W.Fast.te14364793385576792824]
 | true =>
  have e := PySem.code_inj _ _ (Nat.eq_of_beq_eq_true h)
  subst e
  show treeTable "type.__new__" = some newF
  rw [← newF_eq]
  kernel_rfl
end Mine
end
section
set_option autoImplicit false
namespace Mine
theorem hide {P : Prop} (h : ∀ G : Prop, (P → G) → G) : P := h P id
noncomputable def firstAt (l y : List Nat) (lo hi : Nat) : Option Nat := (List.range' lo (hi + 1 - lo)).find? fun i => decide (i + y.length ≤ hi) && ((l.drop i).take y.length == y)
structure Win where
 a : List Nat
 b : List Nat
 act : Nat → Bool
 alo : Nat
 ahi : Nat
 blo : Nat
 bhi : Nat
structure Win.Ok (w : Win) : Prop where
 a1 : w.alo ≤ w.ahi
 a2 : w.ahi ≤ w.a.length
 b1 : w.blo ≤ w.bhi
 b2 : w.bhi ≤ w.b.length
structure Win.Blk (w : Win) (i j n : Nat) : Prop where
 i0 : w.alo ≤ i
 i1 : i + n ≤ w.ahi
 j0 : w.blo ≤ j
 j1 : j + n ≤ w.bhi
 eq : ∀ t, t < n → ∃ x, w.a[i + t]? = some x ∧ w.b[j + t]? = some x ∧ w.act x = true
noncomputable def Win.Best (w : Win) (i j k : Nat) : Prop :=
 (k = 0 ∧ i = w.alo ∧ j = w.blo ∧ ∀ i' j', ¬ w.Blk i' j' 1) ∨
 (0 < k ∧ w.Blk i j k ∧ ∀ i' j' n, w.Blk i' j' n → 0 < n → n ≤ k ∧ (n = k → i < i' ∨ (i = i' ∧ j ≤ j')))
theorem Win.Blk.less {w : Win} {i j n m : Nat} (h : w.Blk i j n) (hm : m ≤ n) : w.Blk i j m :=
 ⟨h.i0, by have := h.i1; lia, h.j0, by have := h.j1; lia, fun t ht => h.eq t (by lia)⟩
theorem Win.best_unique {w : Win} {i j k i' j' k' : Nat} (h : w.Best i j k) (h' : w.Best i' j' k') : i = i' ∧ j = j' ∧ k = k' := by
 rcases h with ⟨rfl, rfl, rfl, hn⟩ | ⟨hk, hb, hm⟩
 ·rcases h' with ⟨rfl, rfl, rfl, _⟩ | ⟨hk', hb', _⟩
  ·exact ⟨rfl, rfl, rfl⟩
  ·exact absurd (hb'.less hk') (hn _ _)
 ·rcases h' with ⟨rfl, rfl, rfl, hn'⟩ | ⟨hk', hb', hm'⟩
  ·exact absurd (hb.less hk) (hn' _ _)
  ·have h1 := hm _ _ _ hb' hk'
   have h2 := hm' _ _ _ hb hk
   have e : k = k' := by lia
   have h3 := h1.2 e.symm
   have h4 := h2.2 e
   lia
noncomputable def dots (act : Nat → Bool) (b : List Nat) : List Nat := b.map fun c => if act c then c else 46
theorem firstAt_some {l y : List Nat} {lo hi i : Nat} (h : firstAt l y lo hi = some i) : lo ≤ i ∧ i + y.length ≤ hi ∧ (l.drop i).take y.length = y ∧ ∀ k, lo ≤ k → k + y.length ≤ hi → (l.drop k).take y.length = y → i ≤ k := by
 unfold firstAt at h
 rw [List.find?_eq_some_iff_append] at h
 obtain ⟨h1, as, bs, e, h2⟩ := h
 simp only [Bool.and_eq_true, decide_eq_true_eq, beq_iff_eq] at h1
 have hm : i ∈ List.range' lo (hi + 1 - lo) := by rw [e]; simp
 simp only [List.mem_range'_1] at hm
 refine ⟨hm.1, h1.1, h1.2, fun k hk hk2 hk3 => ?_⟩
 refine Nat.le_of_not_lt fun hlt => ?_
 have hkm : k ∈ List.range' lo (hi + 1 - lo) := by simp only [List.mem_range'_1]; lia
 have hka : k ∈ as := by
  rw [e] at hkm
  rcases List.mem_append.mp hkm with h | h
  ·exact h
  ·exfalso
   have hs : (as ++ i :: bs).Pairwise (· < ·) := by rw [← e]; exact List.pairwise_lt_range'
   have := (List.pairwise_append.mp hs).2.1
   rcases List.mem_cons.mp h with rfl | h
   ·lia
   ·have := (List.pairwise_cons.mp this).1 k h
    lia
 have := h2 k hka
 simp [hk2, hk3] at this
theorem firstAt_none {l y : List Nat} {lo hi : Nat} (h : firstAt l y lo hi = none) : ∀ k, lo ≤ k → k + y.length ≤ hi → (l.drop k).take y.length ≠ y := by
 intro k hk hk2 hk3
 unfold firstAt at h
 rw [List.find?_eq_none] at h
 have := h k (by simp only [List.mem_range'_1]; lia)
 simp [hk2, hk3] at this
theorem take_eq_iff {l y : List Nat} {i : Nat} : (l.drop i).take y.length = y ↔ ∀ t, t < y.length → l[i + t]? = y[t]? := by
 constructor
 ·intro h t ht
  have := congrArg (fun m => m[t]?) h
  simp only [List.getElem?_take, List.getElem?_drop, ht, if_true] at this
  exact this
 ·intro h
  apply List.ext_getElem?
  intro t
  rw [List.getElem?_take, List.getElem?_drop]
  split
  ·exact h t ‹_›
  ·rename_i hn
   exact (List.getElem?_eq_none (by lia)).symm
theorem blk_iff {w : Win} (ok : w.Ok) (hdot : ∀ x ∈ w.a, x ≠ 46) {i j n : Nat} (hi : w.alo ≤ i) (hi1 : i + n ≤ w.ahi) (hj : w.blo ≤ j) (hj1 : j + n ≤ w.bhi) :
  (((dots w.act w.b).drop j).take ((w.a.drop i).take n).length = (w.a.drop i).take n) ↔ w.Blk i j n := by
 have hlen : ((w.a.drop i).take n).length = n := by
  have := ok.a2
  simp; lia
 rw [take_eq_iff, hlen]
 constructor
 ·intro h
  refine ⟨hi, hi1, hj, hj1, fun t ht => ?_⟩
  have h1 := h t ht
  rw [List.getElem?_take, if_pos ht, List.getElem?_drop] at h1
  have hlt : i + t < w.a.length := by have := ok.a2; lia
  have hlt2 : j + t < w.b.length := by have := ok.b2; lia
  rw [List.getElem?_eq_getElem hlt] at h1
  unfold dots at h1
  rw [List.getElem?_map, List.getElem?_eq_getElem hlt2, Option.map_some] at h1
  injection h1 with h1
  refine ⟨w.a[i + t], List.getElem?_eq_getElem hlt, ?_, ?_⟩
  ·rw [List.getElem?_eq_getElem hlt2]
   split at h1
   ·rw [h1]
   ·exact absurd h1.symm (hdot _ (List.getElem_mem hlt))
  ·split at h1
   ·rename_i hc; rw [← h1]; exact hc
   ·exact absurd h1.symm (hdot _ (List.getElem_mem hlt))
 ·intro h t ht
  obtain ⟨x, hx, hy, hact⟩ := h.eq t ht
  rw [List.getElem?_take, if_pos ht, List.getElem?_drop, hx]
  unfold dots
  rw [List.getElem?_map, hy, Option.map_some, if_pos hact]
noncomputable def hit (w : Win) (i n : Nat) : Option Nat := firstAt (dots w.act w.b) ((w.a.drop i).take n) w.blo w.bhi
theorem hit_some {w : Win} (ok : w.Ok) (hdot : ∀ x ∈ w.a, x ≠ 46) {i n j : Nat} (hi : w.alo ≤ i) (hi1 : i + n ≤ w.ahi) (h : hit w i n = some j) : w.Blk i j n ∧ ∀ j', w.Blk i j' n → j ≤ j' := by
 have hlen : ((w.a.drop i).take n).length = n := by
  have := ok.a2
  simp; lia
 obtain ⟨h1, h2, h3, h4⟩ := firstAt_some h
 rw [hlen] at h2
 refine ⟨(blk_iff ok hdot hi hi1 h1 h2).mp h3, fun j' hb => ?_⟩
 refine h4 j' hb.j0 (by rw [hlen]; exact hb.j1) ((blk_iff ok hdot hi hi1 hb.j0 hb.j1).mpr hb)
theorem hit_none {w : Win} (ok : w.Ok) (hdot : ∀ x ∈ w.a, x ≠ 46) {i n : Nat} (hi : w.alo ≤ i) (hi1 : i + n ≤ w.ahi) (h : hit w i n = none) : ∀ j, ¬ w.Blk i j n := by
 have hlen : ((w.a.drop i).take n).length = n := by
  have := ok.a2
  simp; lia
 intro j hb
 exact firstAt_none h j hb.j0 (by rw [hlen]; exact hb.j1) ((blk_iff ok hdot hi hi1 hb.j0 hb.j1).mpr hb)
noncomputable def grow (w : Win) (i : Nat) : Nat → Nat × Nat → Nat × Nat
 | 0, s => s
 | f + 1, s => if i + s.1 < w.ahi ∧ (hit w i (s.1 + 1)).isSome = true then grow w i f (s.1 + 1, i) else s
noncomputable def scanTo (w : Win) (n : Nat) : Nat × Nat := (List.range n).foldl (fun s k => grow w (w.alo + k) (w.ahi + 1) s) (0, w.alo)
structure GInv (w : Win) (i : Nat) (s : Nat × Nat) : Prop where
 top : ∀ i' j n, i' < i → w.Blk i' j n → n ≤ s.1 ∧ (n = s.1 → 0 < n → s.2 ≤ i')
 zero : s.1 = 0 → s.2 = w.alo
 pos : 0 < s.1 → ∃ j, w.Blk s.2 j s.1
theorem grow_inv {w : Win} (ok : w.Ok) (hdot : ∀ x ∈ w.a, x ≠ 46) {i : Nat} (hi : w.alo ≤ i) (hi2 : i < w.ahi) : ∀ (f : Nat) (s : Nat × Nat), w.ahi ≤ f + (i + s.1) → (0 < s.1 → s.2 ≤ i) → GInv w i s → GInv w (i + 1) (grow w i f s) ∧ (0 < (grow w i f s).1 → (grow w i f s).2 ≤ i)
 | f, s, hf, hs, g => by
  have stop : (¬ (i + s.1 < w.ahi ∧ (hit w i (s.1 + 1)).isSome = true)) → GInv w (i + 1) s := by
   intro hc
   have hno : ∀ j, ¬ w.Blk i j (s.1 + 1) := by
    intro j hb
    have h1 := hb.i1
    have h2 : i + s.1 < w.ahi := by lia
    cases e : hit w i (s.1 + 1) with
    | none => exact hit_none ok hdot hi (by lia) e j hb
    | some j' => exact hc ⟨h2, by rw [e]; rfl⟩
   refine ⟨fun i' j n hi' hb => ?_, g.zero, g.pos⟩
   rcases Nat.lt_succ_iff_lt_or_eq.mp hi' with h | rfl
   ·exact g.top i' j n h hb
   ·have hn : n ≤ s.1 := Nat.le_of_not_lt fun hlt => hno j (hb.less hlt)
    exact ⟨hn, fun e hp => hs (by lia)⟩
  cases f with
  | zero =>
   have : ¬ (i + s.1 < w.ahi ∧ (hit w i (s.1 + 1)).isSome = true) := fun h => by lia
   exact ⟨stop this, hs⟩
  | succ f =>
   unfold grow
   split
   ·rename_i hc
    obtain ⟨h1, h2⟩ := hc
    obtain ⟨j, e⟩ := Option.isSome_iff_exists.mp h2
    have hb := (hit_some ok hdot hi (by lia) e).1
    refine grow_inv ok hdot hi hi2 f (s.1 + 1, i) (by dsimp only; lia) (fun _ => Nat.le_refl _) ⟨fun i' j' n hi' hb' => ?_, fun h => absurd h (Nat.succ_ne_zero _), fun _ => ⟨j, hb⟩⟩
    have := (g.top i' j' n hi' hb').1
    exact ⟨by dsimp only; lia, fun e => by dsimp only at e; lia⟩
   ·rename_i hc
    exact ⟨stop hc, hs⟩
theorem scan_inv {w : Win} (ok : w.Ok) (hdot : ∀ x ∈ w.a, x ≠ 46) : ∀ n, w.alo + n ≤ w.ahi → GInv w (w.alo + n) (scanTo w n) ∧ (0 < (scanTo w n).1 → (scanTo w n).2 < w.alo + n)
 | 0, _ => by
  refine ⟨⟨fun i' j n hi' hb => ?_, fun _ => rfl, fun h => absurd h (Nat.lt_irrefl _)⟩, fun h => absurd h (Nat.lt_irrefl _)⟩
  have := hb.i0
  lia
 | n + 1, h => by
  obtain ⟨g, hs⟩ := scan_inv ok hdot n (by lia)
  have e : scanTo w (n + 1) = grow w (w.alo + n) (w.ahi + 1) (scanTo w n) := by
   unfold scanTo
   rw [List.range_succ, List.foldl_append]; rfl
  rw [e]
  obtain ⟨g', hs'⟩ := grow_inv ok hdot (i := w.alo + n) (by lia) (by lia) (w.ahi + 1) (scanTo w n) (by lia) (fun h => Nat.le_of_lt (hs h)) g
  exact ⟨g', fun h => by have := hs' h; lia⟩
noncomputable def placeOf (w : Win) (s : Nat × Nat) : Nat := if s.1 = 0 then w.blo else (hit w s.2 s.1).getD 0
theorem scan_best {w : Win} (ok : w.Ok) (hdot : ∀ x ∈ w.a, x ≠ 46) : w.Best (scanTo w (w.ahi - w.alo)).2 (placeOf w (scanTo w (w.ahi - w.alo))) (scanTo w (w.ahi - w.alo)).1 := by
 have h1 := ok.a1
 obtain ⟨g, _⟩ := scan_inv ok hdot (w.ahi - w.alo) (by lia)
 rw [show w.alo + (w.ahi - w.alo) = w.ahi by lia] at g
 generalize scanTo w (w.ahi - w.alo) = s at g
 obtain ⟨size, start⟩ := s
 by_cases h0 : size = 0
 ·subst h0
  refine .inl ⟨rfl, g.zero rfl, by unfold placeOf; simp, fun i' j' hb => ?_⟩
  have h2 := hb.i1
  have := (g.top i' j' 1 (by lia) hb).1
  dsimp only at this
  lia
 ·have hp : 0 < size := Nat.pos_of_ne_zero h0
  obtain ⟨j, hb⟩ := g.pos hp
  dsimp only at hb
  have hpl : placeOf w (size, start) = (hit w start size).getD 0 := by unfold placeOf; simp [h0]
  cases e : hit w start size with
  | none => exact absurd hb (hit_none ok hdot hb.i0 hb.i1 e j)
  | some j0 =>
   obtain ⟨hb0, hmin⟩ := hit_some ok hdot hb.i0 hb.i1 e
   rw [hpl, e]
   refine .inr ⟨hp, hb0, fun i' j' n hb' hn => ?_⟩
   have h2 := hb'.i1
   obtain ⟨t1, t2⟩ := g.top i' j' n (by lia) hb'
   refine ⟨t1, fun en => ?_⟩
   have h3 := t2 en hn
   dsimp only at h3 en
   rcases Nat.lt_or_eq_of_le h3 with h | h
   ·exact .inl h
   ·refine .inr ⟨h, hmin j' ?_⟩
    rw [h, ← en]; exact hb'
end Mine
end
section
set_option autoImplicit false
namespace Mine
noncomputable def places (b : List Nat) (x : Nat) : List Nat := (List.range b.length).filter fun j => b[j]? == some x
noncomputable def idx (w : Win) (i : Nat) : List Nat := match w.a[i]? with
 | some x => if w.act x then (places w.b x).filter fun j => decide (w.blo ≤ j) && decide (j < w.bhi) else []
 | none => []
noncomputable def row (w : Win) (prev : Nat → Nat) (i : Nat) (j : Nat) : Nat := if j ∈ idx w i then (if j = 0 then 0 else prev (j - 1)) + 1 else 0
noncomputable def rowE (w : Win) : Nat → Nat → Nat
 | 0 => fun _ => 0
 | n + 1 => row w (rowE w n) (w.alo + n)
theorem mem_idx {w : Win} {i j : Nat} : j ∈ idx w i ↔ (w.blo ≤ j ∧ j < w.bhi) ∧ ∃ x, w.a[i]? = some x ∧ w.b[j]? = some x ∧ w.act x = true := by
 unfold idx places
 cases e : w.a[i]? with
 | none => simp
 | some x =>
  dsimp only
  split
  ·rename_i hx
   simp only [List.mem_filter, List.mem_range, Bool.and_eq_true, decide_eq_true_eq, beq_iff_eq]
   constructor
   ·rintro ⟨⟨_, h2⟩, h3⟩
    exact ⟨h3, x, rfl, h2, hx⟩
   ·rintro ⟨h3, y, h4, h5, _⟩
    cases h4
    exact ⟨⟨(List.getElem?_eq_some_iff.mp h5).1, h5⟩, h3⟩
  ·rename_i hx
   simp only [List.not_mem_nil, false_iff]
   rintro ⟨_, y, h4, _, h6⟩
   cases h4
   exact hx h6
theorem idx_sorted (w : Win) (i : Nat) : (idx w i).Pairwise (· < ·) := by
 unfold idx places
 cases w.a[i]? with
 | none => exact .nil
 | some x =>
  dsimp only
  split
  ·exact (List.pairwise_lt_range.filter _).filter _
  ·exact .nil
theorem key_row {k j : Nat} (h1 : 0 < k) (r : Nat) : k + 1 ≤ (if j = 0 then 0 else r) + 1 ↔ 0 < j ∧ k ≤ r := by
 by_cases q : j = 0
 ·rw [if_pos q]
  exact ⟨fun h => absurd (Nat.le_of_succ_le_succ h) (Nat.not_le_of_lt h1), fun h => absurd q (Nat.ne_of_gt h.1)⟩
 ·rw [if_neg q]
  exact ⟨fun h => ⟨Nat.pos_of_ne_zero q, Nat.le_of_succ_le_succ h⟩, fun h => Nat.succ_le_succ h.2⟩
theorem blk_snoc {w : Win} {i j k : Nat} (hb : w.Blk i j k) (h1 : w.Blk (i + k) (j + k) 1) : w.Blk i j (k + 1) :=
 ⟨hb.i0, h1.i1, hb.j0, h1.j1, fun t ht => by
  rcases Nat.lt_or_ge t k with h | h
  ·exact hb.eq t h
  ·obtain rfl : t = k := Nat.le_antisymm (Nat.le_of_lt_succ ht) h
   exact h1.eq 0 Nat.zero_lt_one⟩
theorem blk_last {w : Win} {i j k : Nat} (hb : w.Blk i j (k + 1)) : j + k ∈ idx w (i + k) :=
 mem_idx.mpr ⟨⟨Nat.le_trans hb.j0 (Nat.le_add_right _ _), hb.j1⟩, hb.eq k (Nat.lt_succ_self k)⟩
theorem blk_one {w : Win} {i j : Nat} (h0 : w.alo ≤ i) (h1 : i < w.ahi) (hj : j ∈ idx w i) : w.Blk i j 1 := by
 obtain ⟨⟨hj1, hj2⟩, x, hx⟩ := mem_idx.mp hj
 refine ⟨h0, h1, hj1, hj2, fun t ht => ?_⟩
 obtain rfl : t = 0 := Nat.lt_one_iff.mp ht
 exact ⟨x, hx⟩
theorem rowE_le {w : Win} : ∀ (n : Nat), w.alo + n ≤ w.ahi → ∀ j m, 0 < m → (m ≤ rowE w n j ↔ m ≤ n ∧ m ≤ j + 1 ∧ w.Blk (w.alo + n - m) (j + 1 - m) m)
 | 0, _, j, m, hm => ⟨fun h => absurd h (Nat.not_le_of_lt hm), fun h => absurd h.1 (Nat.not_le_of_lt hm)⟩
 | n + 1, hn, j, 0, hm => absurd hm (Nat.lt_irrefl 0)
 | n + 1, hn, j, k + 1, _ => by
  have ih := rowE_le (w := w) n (Nat.le_of_succ_le hn)
  show k + 1 ≤ row w (rowE w n) (w.alo + n) j ↔ _
  have e1 : w.alo + (n + 1) - (k + 1) = w.alo + n - k := Nat.add_sub_add_right (w.alo + n) 1 k
  rw [e1, Nat.add_sub_add_right]
  unfold row
  split
  ·rename_i hj
   have one : w.Blk (w.alo + n) j 1 := blk_one (Nat.le_add_right _ _) hn hj
   rcases Nat.eq_zero_or_pos k with rfl | hk
   ·exact ⟨fun _ => ⟨Nat.succ_le_succ (Nat.zero_le _), Nat.succ_le_succ (Nat.zero_le _), one⟩, fun _ => Nat.succ_le_succ (Nat.zero_le _)⟩
   ·rw [key_row hk, ih (j - 1) k hk]
    constructor
    ·rintro ⟨h0, h2, h3, hb⟩
     rw [Nat.sub_add_cancel h0] at h3 hb
     refine ⟨Nat.succ_le_succ h2, Nat.succ_le_succ h3, blk_snoc hb ?_⟩
     rw [Nat.sub_add_cancel h3, Nat.sub_add_cancel (Nat.le_trans h2 (Nat.le_add_left _ _))]
     exact one
    ·rintro ⟨h2, h3, hb⟩
     have h0 : 0 < j := Nat.lt_of_lt_of_le hk (Nat.le_of_succ_le_succ h3)
     rw [Nat.sub_add_cancel h0]
     exact ⟨h0, Nat.le_of_succ_le_succ h2, Nat.le_of_succ_le_succ h3, hb.less (Nat.le_succ k)⟩
  ·rename_i hj
   refine ⟨fun h => absurd h (Nat.not_succ_le_zero k), fun ⟨h2, h3, hb⟩ => absurd ?_ hj⟩
   have := blk_last hb
   rw [Nat.sub_add_cancel (Nat.le_of_succ_le_succ h3), Nat.sub_add_cancel (Nat.le_trans (Nat.le_of_succ_le_succ h2) (Nat.le_add_left _ _))] at this
   exact this
noncomputable def fm (s p : Nat × Nat × Nat) : Nat × Nat × Nat := if s.2.2 < p.2.2 then (p.1 + 1 - p.2.2, p.2.1 + 1 - p.2.2, p.2.2) else s
theorem fm_fold : ∀ (L : List (Nat × Nat × Nat)) (s : Nat × Nat × Nat), (L.foldl fm s = s ∧ ∀ p ∈ L, p.2.2 ≤ s.2.2) ∨
  ∃ L1 p L2, L = L1 ++ p :: L2 ∧ L.foldl fm s = (p.1 + 1 - p.2.2, p.2.1 + 1 - p.2.2, p.2.2) ∧ s.2.2 < p.2.2 ∧ (∀ q ∈ L1, q.2.2 < p.2.2) ∧ ∀ q ∈ L2, q.2.2 ≤ p.2.2
 | [], s => .inl ⟨rfl, fun _ h => nomatch h⟩
 | c :: r, s => by
  rw [List.foldl_cons]
  by_cases hc : s.2.2 < c.2.2
  ·have e : fm s c = (c.1 + 1 - c.2.2, c.2.1 + 1 - c.2.2, c.2.2) := by unfold fm; rw [if_pos hc]
   rw [e]
   rcases fm_fold r (c.1 + 1 - c.2.2, c.2.1 + 1 - c.2.2, c.2.2) with ⟨h1, h2⟩ | ⟨L1, p, L2, h1, h2, h3, h4, h5⟩
   ·exact .inr ⟨[], c, r, rfl, h1, hc, fun _ h => (List.not_mem_nil h).elim, h2⟩
   ·refine .inr ⟨c :: L1, p, L2, by rw [h1]; rfl, h2, Nat.lt_trans hc h3, fun q hq => ?_, h5⟩
    rcases List.mem_cons.mp hq with rfl | hq
    ·exact h3
    ·exact h4 q hq
  ·have e : fm s c = s := by unfold fm; rw [if_neg hc]
   rw [e]
   rcases fm_fold r s with ⟨h1, h2⟩ | ⟨L1, p, L2, h1, h2, h3, h4, h5⟩
   ·refine .inl ⟨h1, fun q hq => ?_⟩
    rcases List.mem_cons.mp hq with rfl | hq
    ·lia
    ·exact h2 q hq
   ·refine .inr ⟨c :: L1, p, L2, by rw [h1]; rfl, h2, h3, fun q hq => ?_, h5⟩
    rcases List.mem_cons.mp hq with rfl | hq
    ·lia
    ·exact h4 q hq
noncomputable def cells (w : Win) (n : Nat) : List (Nat × Nat × Nat) := (idx w (w.alo + n)).map fun j => (w.alo + n, j, rowE w (n + 1) j)
noncomputable def allCells (w : Win) (n : Nat) : List (Nat × Nat × Nat) := (List.range n).flatMap (cells w)
noncomputable def bestE (w : Win) (n : Nat) : Nat × Nat × Nat := (allCells w n).foldl fm (w.alo, w.blo, 0)
theorem bestE_succ (w : Win) (n : Nat) : bestE w (n + 1) = (cells w n).foldl fm (bestE w n) := by
 unfold bestE allCells
 rw [List.range_succ, List.flatMap_append, List.foldl_append]
 simp
noncomputable def lexLt (p q : Nat × Nat × Nat) : Prop := p.1 < q.1 ∨ (p.1 = q.1 ∧ p.2.1 < q.2.1)
theorem cells_sorted (w : Win) (n : Nat) : (cells w n).Pairwise lexLt := by
 unfold cells
 rw [List.pairwise_map]
 exact (idx_sorted w _).imp fun h => .inr ⟨rfl, h⟩
theorem all_sorted (w : Win) : ∀ n, (allCells w n).Pairwise lexLt
 | 0 => .nil
 | n + 1 => by
  unfold allCells
  rw [List.range_succ, List.flatMap_append, List.pairwise_append]
  refine ⟨all_sorted w n, by simpa using cells_sorted w n, ?_⟩
  intro p hp q hq
  simp only [List.flatMap_cons, List.flatMap_nil, List.append_nil] at hq
  obtain ⟨k, hk, hp⟩ := List.mem_flatMap.mp hp
  unfold cells at hp hq
  obtain ⟨j, _, rfl⟩ := List.mem_map.mp hp
  obtain ⟨j', _, rfl⟩ := List.mem_map.mp hq
  have := List.mem_range.mp hk
  exact .inl (by dsimp only; lia)
theorem fin3 {a b i j n : Nat} (h1 : n + 1 ≤ a + 1) (h : a < i + n ∨ a = i + n ∧ b < j + n) : a + 1 - (n + 1) < i ∨ (a + 1 - (n + 1) = i ∧ b + 1 - (n + 1) ≤ j) := by
 rw [Nat.add_sub_add_right, Nat.add_sub_add_right]
 rcases h with h | ⟨rfl, h⟩
 ·exact .inl (Nat.sub_lt_right_of_lt_add (Nat.le_of_succ_le_succ h1) h)
 ·exact .inr ⟨Nat.add_sub_cancel .., Nat.sub_le_of_le_add (Nat.le_of_lt h)⟩
theorem bestE_best {w : Win} (ok : w.Ok) : w.Best (bestE w (w.ahi - w.alo)).1 (bestE w (w.ahi - w.alo)).2.1 (bestE w (w.ahi - w.alo)).2.2 := by
 have h1 := ok.a1
 have inCells : ∀ i j n, w.Blk i j (n + 1) → ∃ k, (i + n, j + n, k) ∈ allCells w (w.ahi - w.alo) ∧ n + 1 ≤ k := by
  intro i j n hb
  obtain ⟨d, rfl⟩ := Nat.exists_eq_add_of_le hb.i0
  have hj := blk_last hb
  have hd : d + n < w.ahi - w.alo := Nat.lt_sub_of_add_lt (by have := hb.i1; omega)
  have hd' : w.alo + (d + n + 1) ≤ w.ahi := by have := hb.i1; omega
  refine ⟨rowE w (d + n + 1) (j + n), ?_, ?_⟩
  ·unfold allCells
   refine List.mem_flatMap.mpr ⟨d + n, List.mem_range.mpr hd, ?_⟩
   unfold cells
   rw [Nat.add_assoc w.alo] at hj ⊢
   exact List.mem_map.mpr ⟨j + n, hj, rfl⟩
  ·refine (rowE_le (w := w) (d + n + 1) hd' (j + n) (n + 1) (Nat.succ_pos n)).mpr ⟨Nat.succ_le_succ (Nat.le_add_left _ _), Nat.succ_le_succ (Nat.le_add_left _ _), ?_⟩
   have e1 : w.alo + (d + n + 1) - (n + 1) = w.alo + d := by rw [Nat.add_assoc d, ← Nat.add_assoc, Nat.add_sub_cancel]
   rw [e1, Nat.add_assoc j, Nat.add_sub_cancel]
   exact hb
 have cellIs : ∀ p ∈ allCells w (w.ahi - w.alo), 0 < p.2.2 → w.Blk (p.1 + 1 - p.2.2) (p.2.1 + 1 - p.2.2) p.2.2 ∧ p.2.2 ≤ p.1 + 1 := by
  intro p hp h0
  unfold allCells at hp
  obtain ⟨k, hk, hp⟩ := List.mem_flatMap.mp hp
  unfold cells at hp
  obtain ⟨j, _, rfl⟩ := List.mem_map.mp hp
  have hk := List.mem_range.mp hk
  obtain ⟨a1, _, a3⟩ := (rowE_le (w := w) (k + 1) (by clear inCells h0; omega) j _ h0).mp (Nat.le_refl _)
  exact ⟨a3, Nat.le_trans a1 (Nat.succ_le_succ (Nat.le_add_left _ _))⟩
 have hsort := all_sorted w (w.ahi - w.alo)
 rcases fm_fold (allCells w (w.ahi - w.alo)) (w.alo, w.blo, 0) with ⟨e, hz⟩ | ⟨L1, p, L2, e, he, hp0, hL1, hL2⟩
 ·have e' : bestE w (w.ahi - w.alo) = (w.alo, w.blo, 0) := e
  rw [e']
  refine .inl ⟨rfl, rfl, rfl, fun i' j' hb => ?_⟩
  obtain ⟨k, hk, hle⟩ := inCells i' j' 0 hb
  exact absurd (Nat.le_trans hle (hz _ hk)) (Nat.not_succ_le_zero 0)
 ·have e' : bestE w (w.ahi - w.alo) = (p.1 + 1 - p.2.2, p.2.1 + 1 - p.2.2, p.2.2) := he
  rw [e']
  have hpos : 0 < p.2.2 := hp0
  have hpm : p ∈ allCells w (w.ahi - w.alo) := by rw [e]; simp
  obtain ⟨hpb, hp1⟩ := cellIs p hpm hpos
  refine .inr ⟨hpos, hpb, fun i' j' n hb hn => ?_⟩
  cases n with
  | zero => exact absurd hn (Nat.lt_irrefl 0)
  | succ n =>
   obtain ⟨k, hk, hle⟩ := inCells i' j' n hb
   rw [e] at hk
   have hkp : k ≤ p.2.2 := by
    rcases List.mem_append.mp hk with h | h
    ·exact Nat.le_of_lt (hL1 _ h)
    ·rcases List.mem_cons.mp h with h | h
     ·rw [← h]; exact Nat.le_refl _
     ·exact hL2 _ h
   refine ⟨Nat.le_trans hle hkp, fun en => ?_⟩
   replace en : n + 1 = p.2.2 := en
   show p.1 + 1 - p.2.2 < i' ∨ (p.1 + 1 - p.2.2 = i' ∧ p.2.1 + 1 - p.2.2 ≤ j')
   rw [← en]
   rcases List.mem_append.mp hk with h | h
   ·exact absurd (Nat.lt_of_le_of_lt hle (by rw [en]; exact hL1 _ h)) (Nat.lt_irrefl _)
   ·rcases List.mem_cons.mp h with h | h
    ·rw [← h, Nat.add_sub_add_right, Nat.add_sub_add_right, Nat.add_sub_cancel, Nat.add_sub_cancel]
     exact .inr ⟨rfl, Nat.le_refl _⟩
    ·rw [e] at hsort
     exact fin3 (by rw [en]; exact hp1) ((List.pairwise_cons.mp (List.pairwise_append.mp hsort).2.1).1 _ h)
end Mine
end
section
set_option autoImplicit false
namespace Mine
noncomputable abbrev Code5 := Nat × Nat × Nat × Nat × Nat
noncomputable def gap (i j p q : Nat) : List Code5 := if i < p ∧ j < q then [(0, i, p, j, q)] else if i < p then [(1, i, p, j, q)] else if j < q then [(2, i, p, j, q)] else []
noncomputable def opc (i j : Nat) : List (Nat × Nat × Nat) → List Code5
 | [] => []
 | (a, b, k) :: r => gap i j a b ++ (if k = 0 then [] else [(3, a, a + k, b, b + k)]) ++ opc (a + k) (b + k) r
noncomputable def joinGo (la lb : Nat) : Nat × Nat × Nat → List (Nat × Nat × Nat) → List (Nat × Nat × Nat)
 | (i1, j1, k1), [] => (if k1 = 0 then [] else [(i1, j1, k1)]) ++ [(la, lb, 0)]
 | (i1, j1, k1), (i2, j2, k2) :: r => if i1 + k1 = i2 ∧ j1 + k1 = j2 then joinGo la lb (i1, j1, k1 + k2) r else (if k1 = 0 then [] else [(i1, j1, k1)]) ++ joinGo la lb (i2, j2, k2) r
noncomputable def lawGap (i j p q : Nat) (c : List Code5) : List Code5 := if i < p ∨ j < q then (if i = p then 2 else if j = q then 1 else 0, i, p, j, q) :: c else c
noncomputable def lawEq (many p q : Nat) (c : List Code5) : List Code5 :=
 if p < many then
  match c with
  | (3, x, _, y, _) :: r => (3, x, p + 1, y, q + 1) :: r
  | _ => (3, p, p + 1, q, q + 1) :: c
 else c
noncomputable def lawGo (many : Nat) : List Code5 → Nat → Nat → List (Nat × Nat) → List Code5
 | c, _, _, [] => c
 | c, i, j, (p, q) :: r => lawGo many (lawEq many p q (lawGap i j p q c)) (p + 1) (q + 1) r
noncomputable def lawCodes (pairs : List (Nat × Nat)) (many more : Nat) : List Code5 := (lawGo many [] 0 0 (pairs ++ [(many, more)])).reverse
noncomputable def pairsOf : Nat × Nat × Nat → List (Nat × Nat)
 | (i, j, k) => (List.range k).map fun t => (i + t, j + t)
noncomputable def flat (bs : List (Nat × Nat × Nat)) : List (Nat × Nat) := bs.flatMap pairsOf
theorem lawGap_gap {i j p q : Nat} (hp : i ≤ p) (hq : j ≤ q) (c : List Code5) : lawGap i j p q c = (gap i j p q).reverse ++ c := by
 unfold lawGap gap
 by_cases h1 : i < p <;> by_cases h2 : j < q
 ·have : ¬ i = p := by lia
  have : ¬ j = q := by lia
  simp [*]
 ·have : ¬ i = p := by lia
  have : j = q := by lia
  simp [*]
 ·have : i = p := by lia
  simp [*]
 ·simp [h1, h2]
theorem pairs_succ (i j k : Nat) : pairsOf (i, j, k + 1) = (i, j) :: pairsOf (i + 1, j + 1, k) := by
 show List.map (fun t => (i + t, j + t)) (List.range (k + 1)) = (i, j) :: List.map (fun t => (i + 1 + t, j + 1 + t)) (List.range k)
 rw [List.range_succ_eq_map, List.map_cons, List.map_map]
 simp only [Nat.add_zero]
 congr 1
 apply List.map_congr_left
 intro t _
 simp only [Function.comp]
 congr 1 <;> lia
theorem run_on (many : Nat) : ∀ (k i j x y : Nat) (c : List Code5) (r : List (Nat × Nat)), i + k ≤ many →
  lawGo many ((3, x, i, y, j) :: c) i j (pairsOf (i, j, k) ++ r) = lawGo many ((3, x, i + k, y, j + k) :: c) (i + k) (j + k) r
 | 0, i, j, x, y, c, r, _ => by simp [pairsOf]
 | k + 1, i, j, x, y, c, r, h => by
  rw [pairs_succ, List.cons_append, lawGo]
  have e1 : lawGap i j i j ((3, x, i, y, j) :: c) = (3, x, i, y, j) :: c := by unfold lawGap; simp
  have e2 : lawEq many i j ((3, x, i, y, j) :: c) = (3, x, i + 1, y, j + 1) :: c := by
   unfold lawEq
   rw [if_pos (by lia)]
   rfl
  rw [e1, e2, run_on many k (i + 1) (j + 1) x y c r (by lia)]
  have e3 : i + 1 + k = i + (k + 1) := by lia
  have e4 : j + 1 + k = j + (k + 1) := by lia
  rw [e3, e4]
noncomputable def notEq : List Code5 → Prop
 | (3, _) :: _ => False
 | _ => True
theorem lawEq_new {many p q : Nat} {c : List Code5} (hp : p < many) (hc : notEq c) : lawEq many p q c = (3, p, p + 1, q, q + 1) :: c := by
 unfold lawEq
 rw [if_pos hp]
 split
 ·exact hc.elim
 ·rfl
theorem run_new (many : Nat) {k i j p q : Nat} {c : List Code5} {r : List (Nat × Nat)} (hk : 0 < k) (hp : i ≤ p) (hq : j ≤ q) (hm : p + k ≤ many) (hc : i < p ∨ j < q ∨ notEq c) :
  lawGo many c i j (pairsOf (p, q, k) ++ r) = lawGo many ((3, p, p + k, q, q + k) :: ((gap i j p q).reverse ++ c)) (p + k) (q + k) r := by
 obtain ⟨k, rfl⟩ : ∃ k', k = k' + 1 := ⟨k - 1, by lia⟩
 rw [pairs_succ, List.cons_append, lawGo, lawGap_gap hp hq]
 have hne : notEq ((gap i j p q).reverse ++ c) := by
  unfold gap
  split
  ·exact trivial
  ·split
   ·exact trivial
   ·split
    ·exact trivial
    ·rename_i h1 h2 h3
     rcases hc with h | h | h
     ·exact absurd h h2
     ·exact absurd h h3
     ·exact h
 rw [lawEq_new (by lia) hne, run_on many k (p + 1) (q + 1) p q _ r (by lia)]
 have e3 : p + 1 + k = p + (k + 1) := by lia
 have e4 : q + 1 + k = q + (k + 1) := by lia
 rw [e3, e4]
noncomputable def Chain (la lb : Nat) : Nat → Nat → List (Nat × Nat × Nat) → Prop
 | i, j, [] => i ≤ la ∧ j ≤ lb
 | i, j, (a, b, k) :: r => i ≤ a ∧ j ≤ b ∧ 0 < k ∧ Chain la lb (a + k) (b + k) r
theorem Chain.le {la lb : Nat} : ∀ {r : List (Nat × Nat × Nat)} {i j : Nat}, Chain la lb i j r → i ≤ la ∧ j ≤ lb
 | [], _, _, h => h
 | (a, b, k) :: r, i, j, ⟨h1, h2, h3, h4⟩ => by
  have := Chain.le h4
  lia
theorem codes_go (la lb : Nat) : ∀ (r : List (Nat × Nat × Nat)) (i j i1 j1 k1 : Nat) (c : List Code5), 0 < k1 → i ≤ i1 → j ≤ j1 → Chain la lb (i1 + k1) (j1 + k1) r →
  (lawGo la ((3, i1, i1 + k1, j1, j1 + k1) :: ((gap i j i1 j1).reverse ++ c)) (i1 + k1) (j1 + k1) (flat r ++ [(la, lb)])).reverse = c.reverse ++ opc i j (joinGo la lb (i1, j1, k1) r)
 | [], i, j, i1, j1, k1, c, hk, hi, hj, hch => by
  have hle : i1 + k1 ≤ la ∧ j1 + k1 ≤ lb := hch
  show (lawGo la _ _ _ [(la, lb)]).reverse = _
  have hk' : k1 ≠ 0 := by lia
  rw [lawGo, lawGo, lawGap_gap hle.1 hle.2]
  unfold lawEq
  rw [if_neg (Nat.lt_irrefl _)]
  simp only [joinGo, if_neg hk', List.cons_append, List.nil_append, opc, if_true, List.append_nil]
  simp
 | (i2, j2, k2) :: r, i, j, i1, j1, k1, c, hk, hi, hj, hch => by
  obtain ⟨h1, h2, h3, h4⟩ := hch
  have hle := h4.le
  have ef : flat ((i2, j2, k2) :: r) ++ [(la, lb)] = pairsOf (i2, j2, k2) ++ (flat r ++ [(la, lb)]) := by
   unfold flat; simp
  rw [ef]
  by_cases hadj : i1 + k1 = i2 ∧ j1 + k1 = j2
  ·obtain ⟨rfl, rfl⟩ := hadj
   rw [run_on la k2 _ _ _ _ _ _ hle.1]
   have e := codes_go la lb r i j i1 j1 (k1 + k2) c (by lia) hi hj (by rw [← Nat.add_assoc, ← Nat.add_assoc]; exact h4)
   rw [← Nat.add_assoc, ← Nat.add_assoc] at e
   rw [e]
   simp [joinGo]
  ·have hlt : i1 + k1 < i2 ∨ j1 + k1 < j2 := by lia
   rw [run_new la h3 h1 h2 hle.1 (by rcases hlt with h | h <;> simp [h])]
   have e := codes_go la lb r (i1 + k1) (j1 + k1) i2 j2 k2 ((3, i1, i1 + k1, j1, j1 + k1) :: ((gap i j i1 j1).reverse ++ c)) h3 h1 h2 h4
   rw [e]
   have hk' : k1 ≠ 0 := by lia
   simp only [joinGo, if_neg hadj, if_neg hk', List.cons_append, List.nil_append, opc]
   simp
theorem codes_eq {la lb : Nat} {bs : List (Nat × Nat × Nat)} (h : Chain la lb 0 0 bs) : lawCodes (flat bs) la lb = opc 0 0 (joinGo la lb (0, 0, 0) bs) := by
 unfold lawCodes
 cases bs with
 | nil =>
  have h' : 0 ≤ la ∧ 0 ≤ lb := h
  show (lawGo la [] 0 0 [(la, lb)]).reverse = _
  rw [lawGo, lawGo, lawGap_gap h'.1 h'.2]
  unfold lawEq
  rw [if_neg (Nat.lt_irrefl _)]
  simp [joinGo, opc]
 | cons b r =>
  obtain ⟨i2, j2, k2⟩ := b
  obtain ⟨h1, h2, h3, h4⟩ := h
  have hle := h4.le
  have ef : flat ((i2, j2, k2) :: r) ++ [(la, lb)] = pairsOf (i2, j2, k2) ++ (flat r ++ [(la, lb)]) := by
   unfold flat; simp
  rw [ef, run_new la h3 h1 h2 hle.1 (.inr (.inr (show notEq [] from trivial))), codes_go la lb r 0 0 i2 j2 k2 [] h3 h1 h2 h4]
  by_cases hadj : (0 : Nat) + 0 = i2 ∧ (0 : Nat) + 0 = j2
  ·obtain ⟨rfl, rfl⟩ := hadj
   simp [joinGo]
  ·simp only [joinGo, if_neg hadj]
   simp
end Mine
end
section
set_option autoImplicit false
namespace Mine
noncomputable def run1 (p : Nat → Bool) : List Nat → List Nat → Nat
 | x :: r, y :: s => if x = y ∧ p x = true then run1 p r s + 1 else 0
 | _, _ => 0
noncomputable def reach (one two junk : List Nat) : Nat :=
 run1 (fun x => !junk.contains x) one two + run1 (fun x => junk.contains x) (one.drop (run1 (fun x => !junk.contains x) one two)) (two.drop (run1 (fun x => !junk.contains x) one two))
theorem run1_le (p : Nat → Bool) : ∀ one two, run1 p one two ≤ one.length ∧ run1 p one two ≤ two.length
 | [], two => by simp [run1]
 | x :: r, [] => by simp [run1]
 | x :: r, y :: s => by
  have := run1_le p r s
  unfold run1
  split <;> simp <;> lia
theorem reach_le (one two junk : List Nat) : reach one two junk ≤ one.length ∧ reach one two junk ≤ two.length := by
 unfold reach
 have h1 := run1_le (fun x => !junk.contains x) one two
 have h2 := run1_le (fun x => junk.contains x) (one.drop (run1 (fun x => !junk.contains x) one two)) (two.drop (run1 (fun x => !junk.contains x) one two))
 simp only [List.length_drop] at h2
 lia
noncomputable def seg (l : List Nat) (i j : Nat) : List Nat := (l.drop i).take (j - i)
theorem seg_length {l : List Nat} {i j : Nat} (hj : j ≤ l.length) : (seg l i j).length = j - i := by
 unfold seg; simp; lia
noncomputable def longest (w : Win) (junk : List Nat) : Nat × Nat × Nat :=
 let s := bestE w (w.ahi - w.alo)
 let back := reach (seg w.a w.alo s.1).reverse (seg w.b w.blo s.2.1).reverse junk
 let fore := reach (seg w.a (s.1 + s.2.2) w.ahi) (seg w.b (s.2.1 + s.2.2) w.bhi) junk
 (s.1 - back, s.2.1 - back, back + s.2.2 + fore)
theorem best_in {w : Win} (ok : w.Ok) {i j k : Nat} (h : w.Best i j k) : w.alo ≤ i ∧ i + k ≤ w.ahi ∧ w.blo ≤ j ∧ j + k ≤ w.bhi := by
 have h1 := ok.a1
 have h2 := ok.b1
 rcases h with ⟨rfl, rfl, rfl, _⟩ | ⟨_, hb, _⟩
 ·lia
 ·exact ⟨hb.i0, hb.i1, hb.j0, hb.j1⟩
theorem long_num {x y n B F alo ahi blo bhi : Nat} (b1 : alo ≤ x) (b2 : x + n ≤ ahi) (b3 : blo ≤ y) (b4 : y + n ≤ bhi) (r1 : B ≤ x - alo ∧ B ≤ y - blo) (r2 : F ≤ ahi - (x + n) ∧ F ≤ bhi - (y + n)) : alo ≤ x - B ∧ x - B + (B + n + F) ≤ ahi ∧ blo ≤ y - B ∧ y - B + (B + n + F) ≤ bhi := by lia
theorem longest_in {w : Win} (ok : w.Ok) (junk : List Nat) : w.alo ≤ (longest w junk).1 ∧ (longest w junk).1 + (longest w junk).2.2 ≤ w.ahi ∧ w.blo ≤ (longest w junk).2.1 ∧ (longest w junk).2.1 + (longest w junk).2.2 ≤ w.bhi := by
 obtain ⟨b1, b2, b3, b4⟩ := best_in ok (bestE_best ok)
 have h1 := ok.a2
 have h2 := ok.b2
 have r1 := reach_le (seg w.a w.alo (bestE w (w.ahi - w.alo)).1).reverse (seg w.b w.blo (bestE w (w.ahi - w.alo)).2.1).reverse junk
 have r2 := reach_le (seg w.a ((bestE w (w.ahi - w.alo)).1 + (bestE w (w.ahi - w.alo)).2.2) w.ahi) (seg w.b ((bestE w (w.ahi - w.alo)).2.1 + (bestE w (w.ahi - w.alo)).2.2) w.bhi) junk
 rw [List.length_reverse, List.length_reverse, seg_length (by lia), seg_length (by lia)] at r1
 rw [seg_length (by lia), seg_length (by lia)] at r2
 unfold longest
 exact long_num b1 b2 b3 b4 r1 r2
noncomputable def blocks (a b : List Nat) (act : Nat → Bool) (junk : List Nat) : Nat → Nat → Nat → Nat → Nat → List (Nat × Nat × Nat)
 | 0, _, _, _, _ => []
 | f + 1, alo, ahi, blo, bhi =>
  let x := longest ⟨a, b, act, alo, ahi, blo, bhi⟩ junk
  if x.2.2 = 0 then [] else blocks a b act junk f alo x.1 blo x.2.1 ++ x :: blocks a b act junk f (x.1 + x.2.2) ahi (x.2.1 + x.2.2) bhi
theorem Chain.start {la lb : Nat} : ∀ {r : List (Nat × Nat × Nat)} {i j i' j' : Nat}, i' ≤ i → j' ≤ j → Chain la lb i j r → Chain la lb i' j' r
 | [], _, _, _, _, h1, h2, h => ⟨Nat.le_trans h1 h.1, Nat.le_trans h2 h.2⟩
 | (a, b, k) :: r, _, _, _, _, h1, h2, ⟨g1, g2, g3, g4⟩ => ⟨Nat.le_trans h1 g1, Nat.le_trans h2 g2, g3, g4⟩
theorem Chain.append {p q la lb : Nat} : ∀ {l r : List (Nat × Nat × Nat)} {i j : Nat}, Chain p q i j l → Chain la lb p q r → Chain la lb i j (l ++ r)
 | [], _, _, _, h, h' => h'.start h.1 h.2
 | (a, b, k) :: l, r, _, _, ⟨g1, g2, g3, g4⟩, h' => ⟨g1, g2, g3, g4.append h'⟩
theorem blocks_succ (a b : List Nat) (act : Nat → Bool) (junk : List Nat) (f alo ahi blo bhi : Nat) : blocks a b act junk (f + 1) alo ahi blo bhi =
  if (longest ⟨a, b, act, alo, ahi, blo, bhi⟩ junk).2.2 = 0 then [] else
   blocks a b act junk f alo (longest ⟨a, b, act, alo, ahi, blo, bhi⟩ junk).1 blo (longest ⟨a, b, act, alo, ahi, blo, bhi⟩ junk).2.1 ++
    longest ⟨a, b, act, alo, ahi, blo, bhi⟩ junk :: blocks a b act junk f ((longest ⟨a, b, act, alo, ahi, blo, bhi⟩ junk).1 + (longest ⟨a, b, act, alo, ahi, blo, bhi⟩ junk).2.2) ahi
     ((longest ⟨a, b, act, alo, ahi, blo, bhi⟩ junk).2.1 + (longest ⟨a, b, act, alo, ahi, blo, bhi⟩ junk).2.2) bhi := rfl
theorem chain_nil {la lb i j : Nat} (h1 : i ≤ la) (h2 : j ≤ lb) : Chain la lb i j [] := ⟨h1, h2⟩
theorem chain_cons {la lb i j a b k : Nat} {r : List (Nat × Nat × Nat)} (h1 : i ≤ a) (h2 : j ≤ b) (h3 : 0 < k) (h4 : Chain la lb (a + k) (b + k) r) : Chain la lb i j ((a, b, k) :: r) := ⟨h1, h2, h3, h4⟩
theorem blocks_chain (a b : List Nat) (act : Nat → Bool) (junk : List Nat) (f : Nat) : ∀ (alo ahi blo bhi : Nat), alo ≤ ahi → ahi ≤ a.length → blo ≤ bhi → bhi ≤ b.length → Chain ahi bhi alo blo (blocks a b act junk f alo ahi blo bhi) := by
 induction f with
 | zero => intro alo ahi blo bhi h1 h2 h3 h4; exact chain_nil h1 h3
 | succ f ih =>
  intro alo ahi blo bhi h1 h2 h3 h4
  have hin := longest_in (w := ⟨a, b, act, alo, ahi, blo, bhi⟩) ⟨h1, h2, h3, h4⟩ junk
  rw [blocks_succ]
  generalize longest ⟨a, b, act, alo, ahi, blo, bhi⟩ junk = x at hin
  obtain ⟨i, j, k⟩ := x
  dsimp only at hin ⊢
  split
  ·exact chain_nil h1 h3
  ·rename_i hk
   have c1 := ih alo i blo j (by lia) (by lia) (by lia) (by lia)
   have c2 := ih (i + k) ahi (j + k) bhi (by lia) (by lia) (by lia) (by lia)
   exact c1.append (chain_cons (Nat.le_refl _) (Nat.le_refl _) (by lia) c2)
theorem blocks_stable (a b : List Nat) (act : Nat → Bool) (junk : List Nat) (f : Nat) : ∀ (f' alo ahi blo bhi : Nat), alo ≤ ahi → ahi ≤ a.length → blo ≤ bhi → bhi ≤ b.length → ahi - alo < f → ahi - alo < f' → blocks a b act junk f alo ahi blo bhi = blocks a b act junk f' alo ahi blo bhi := by
 induction f with
 | zero => intro f' alo ahi blo bhi h1 h2 h3 h4 h5 h6; lia
 | succ f ih =>
  intro f' alo ahi blo bhi h1 h2 h3 h4 h5 h6
  obtain ⟨f', rfl⟩ : ∃ g, f' = g + 1 := ⟨f' - 1, by lia⟩
  have hin := longest_in (w := ⟨a, b, act, alo, ahi, blo, bhi⟩) ⟨h1, h2, h3, h4⟩ junk
  rw [blocks_succ, blocks_succ]
  generalize longest ⟨a, b, act, alo, ahi, blo, bhi⟩ junk = x at hin
  obtain ⟨i, j, k⟩ := x
  dsimp only at hin ⊢
  split
  ·rfl
  ·rename_i hk
   rw [ih f' alo i blo j (by lia) (by lia) (by lia) (by lia) (by lia) (by lia), ih f' (i + k) ahi (j + k) bhi (by lia) (by lia) (by lia) (by lia) (by lia) (by lia)]
end Mine
end
section
set_option autoImplicit false
namespace Mine
theorem blocks_empty (a b : List Nat) (act : Nat → Bool) (junk : List Nat) (f alo ahi blo bhi : Nat) (h1 : alo ≤ ahi) (h2 : ahi ≤ a.length) (h3 : blo ≤ bhi) (h4 : bhi ≤ b.length) (h : alo = ahi ∨ blo = bhi) : blocks a b act junk f alo ahi blo bhi = [] := by
 cases f with
 | zero => rfl
 | succ f =>
  have hin := longest_in (w := ⟨a, b, act, alo, ahi, blo, bhi⟩) ⟨h1, h2, h3, h4⟩ junk
  rw [blocks_succ, if_pos]
  dsimp only at hin
  lia
noncomputable def longestLaw (w : Win) (junk : List Nat) : Nat × Nat × Nat :=
 let s := scanTo w (w.ahi - w.alo)
 let place := placeOf w s
 let back := reach (seg w.a w.alo s.2).reverse (seg w.b w.blo place).reverse junk
 let fore := reach (seg w.a (s.2 + s.1) w.ahi) (seg w.b (place + s.1) w.bhi) junk
 (s.2 - back, place - back, back + s.1 + fore)
theorem longest_law {w : Win} (ok : w.Ok) (hdot : ∀ x ∈ w.a, x ≠ 46) (junk : List Nat) : longestLaw w junk = longest w junk := by
 obtain ⟨e1, e2, e3⟩ := Win.best_unique (scan_best ok hdot) (bestE_best ok)
 unfold longestLaw longest
 dsimp only
 rw [e1, e2, e3]
noncomputable def lawPairs (a b : List Nat) (act : Nat → Bool) (junk : List Nat) : Nat → Nat → Nat → Nat → Nat → List (Nat × Nat)
 | 0, _, _, _, _ => []
 | f + 1, alo, ahi, blo, bhi =>
  let x := longestLaw ⟨a, b, act, alo, ahi, blo, bhi⟩ junk
  if x.2.2 = 0 then [] else lawPairs a b act junk f alo x.1 blo x.2.1 ++ pairsOf x ++ lawPairs a b act junk f (x.1 + x.2.2) ahi (x.2.1 + x.2.2) bhi
theorem lawPairs_succ (a b : List Nat) (act : Nat → Bool) (junk : List Nat) (f alo ahi blo bhi : Nat) : lawPairs a b act junk (f + 1) alo ahi blo bhi =
  if (longestLaw ⟨a, b, act, alo, ahi, blo, bhi⟩ junk).2.2 = 0 then [] else
   lawPairs a b act junk f alo (longestLaw ⟨a, b, act, alo, ahi, blo, bhi⟩ junk).1 blo (longestLaw ⟨a, b, act, alo, ahi, blo, bhi⟩ junk).2.1 ++
    pairsOf (longestLaw ⟨a, b, act, alo, ahi, blo, bhi⟩ junk) ++ lawPairs a b act junk f ((longestLaw ⟨a, b, act, alo, ahi, blo, bhi⟩ junk).1 + (longestLaw ⟨a, b, act, alo, ahi, blo, bhi⟩ junk).2.2) ahi
     ((longestLaw ⟨a, b, act, alo, ahi, blo, bhi⟩ junk).2.1 + (longestLaw ⟨a, b, act, alo, ahi, blo, bhi⟩ junk).2.2) bhi := rfl
theorem flat_append (l r : List (Nat × Nat × Nat)) : flat (l ++ r) = flat l ++ flat r := List.flatMap_append
theorem flat_cons (x : Nat × Nat × Nat) (r : List (Nat × Nat × Nat)) : flat (x :: r) = pairsOf x ++ flat r := List.flatMap_cons
theorem lawPairs_eq (a b : List Nat) (act : Nat → Bool) (junk : List Nat) (hdot : ∀ x ∈ a, x ≠ 46) (f : Nat) : ∀ (alo ahi blo bhi : Nat), alo ≤ ahi → ahi ≤ a.length → blo ≤ bhi → bhi ≤ b.length →
  lawPairs a b act junk f alo ahi blo bhi = flat (blocks a b act junk f alo ahi blo bhi) := by
 induction f with
 | zero => intros; rfl
 | succ f ih =>
  intro alo ahi blo bhi h1 h2 h3 h4
  have ok : Win.Ok ⟨a, b, act, alo, ahi, blo, bhi⟩ := ⟨h1, h2, h3, h4⟩
  have hin := longest_in ok junk
  rw [blocks_succ, lawPairs_succ, longest_law ok hdot]
  generalize longest ⟨a, b, act, alo, ahi, blo, bhi⟩ junk = x at hin
  obtain ⟨i, j, k⟩ := x
  dsimp only at hin ⊢
  split
  ·rfl
  ·rename_i hk
   rw [flat_append, flat_cons, ih alo i blo j (by lia) (by lia) (by lia) (by lia), ih (i + k) ahi (j + k) bhi (by lia) (by lia) (by lia) (by lia), List.append_assoc]
noncomputable def allBlocks (a b : List Nat) (act : Nat → Bool) (junk : List Nat) : List (Nat × Nat × Nat) := blocks a b act junk (a.length + 1) 0 a.length 0 b.length
theorem told_eq (a b : List Nat) (act : Nat → Bool) (junk : List Nat) (hdot : ∀ x ∈ a, x ≠ 46) :
  lawCodes (lawPairs a b act junk (a.length + 1) 0 a.length 0 b.length) a.length b.length = opc 0 0 (joinGo a.length b.length (0, 0, 0) (allBlocks a b act junk)) := by
 rw [lawPairs_eq a b act junk hdot _ _ _ _ _ (Nat.zero_le _) (Nat.le_refl _) (Nat.zero_le _) (Nat.le_refl _)]
 exact codes_eq (blocks_chain a b act junk _ _ _ _ _ (Nat.zero_le _) (Nat.le_refl _) (Nat.zero_le _) (Nat.le_refl _))
noncomputable def winBlocks (a b : List Nat) (act : Nat → Bool) (junk : List Nat) (q : Nat × Nat × Nat × Nat) : List (Nat × Nat × Nat) := blocks a b act junk (a.length + 1) q.1 q.2.1 q.2.2.1 q.2.2.2
noncomputable def WinOk (a b : List Nat) (q : Nat × Nat × Nat × Nat) : Prop := q.1 ≤ q.2.1 ∧ q.2.1 ≤ a.length ∧ q.2.2.1 ≤ q.2.2.2 ∧ q.2.2.2 ≤ b.length
theorem winBlocks_none (a b : List Nat) (act : Nat → Bool) (junk : List Nat) {alo ahi blo bhi : Nat} (h : WinOk a b (alo, ahi, blo, bhi)) (hk : (longest ⟨a, b, act, alo, ahi, blo, bhi⟩ junk).2.2 = 0) : winBlocks a b act junk (alo, ahi, blo, bhi) = [] := by
 unfold winBlocks
 rw [blocks_succ, if_pos hk]
theorem winBlocks_some (a b : List Nat) (act : Nat → Bool) (junk : List Nat) {alo ahi blo bhi i j k : Nat} (h : WinOk a b (alo, ahi, blo, bhi)) (hx : longest ⟨a, b, act, alo, ahi, blo, bhi⟩ junk = (i, j, k)) (hk : k ≠ 0) :
  winBlocks a b act junk (alo, ahi, blo, bhi) = winBlocks a b act junk (alo, i, blo, j) ++ (i, j, k) :: winBlocks a b act junk (i + k, ahi, j + k, bhi) ∧
  (¬ (alo < i ∧ blo < j) → winBlocks a b act junk (alo, i, blo, j) = []) ∧ (¬ (i + k < ahi ∧ j + k < bhi) → winBlocks a b act junk (i + k, ahi, j + k, bhi) = []) ∧
  WinOk a b (alo, i, blo, j) ∧ WinOk a b (i + k, ahi, j + k, bhi) := by
 obtain ⟨h1, h2, h3, h4⟩ := h
 dsimp only at h1 h2 h3 h4
 have hin := longest_in (w := ⟨a, b, act, alo, ahi, blo, bhi⟩) ⟨h1, h2, h3, h4⟩ junk
 rw [hx] at hin
 dsimp only at hin
 refine ⟨?_, ?_, ?_, ⟨?_, ?_, ?_, ?_⟩, ⟨?_, ?_, ?_, ?_⟩⟩
 ·unfold winBlocks
  dsimp only
  rw [blocks_succ, hx, if_neg hk]
  dsimp only
  rw [blocks_stable a b act junk a.length (a.length + 1) alo i blo j (by lia) (by lia) (by lia) (by lia) (by lia) (by lia),
   blocks_stable a b act junk a.length (a.length + 1) (i + k) ahi (j + k) bhi (by lia) (by lia) (by lia) (by lia) (by lia) (by lia)]
 ·intro hn
  exact blocks_empty a b act junk _ _ _ _ _ (by dsimp only; lia) (by dsimp only; lia) (by dsimp only; lia) (by dsimp only; lia) (by dsimp only; lia)
 ·intro hn
  exact blocks_empty a b act junk _ _ _ _ _ (by dsimp only; lia) (by dsimp only; lia) (by dsimp only; lia) (by dsimp only; lia) (by dsimp only; lia)
 all_goals (dsimp only; lia)
end Mine
end
section
set_option autoImplicit false
namespace Mine
theorem Chain.first {la lb : Nat} : ∀ {r : List (Nat × Nat × Nat)} {i j : Nat}, Chain la lb i j r → ∀ p ∈ r, i ≤ p.1
 | [], _, _, _, p, hp => nomatch hp
 | (a, b, k) :: r, i, j, ⟨h1, h2, h3, h4⟩, p, hp => by
  rcases List.mem_cons.mp hp with rfl | hp
  ·exact h1
  ·have := h4.first p hp
   lia
theorem Chain.rises {la lb : Nat} : ∀ {r : List (Nat × Nat × Nat)} {i j : Nat}, Chain la lb i j r → r.Pairwise fun p q => p.1 < q.1
 | [], _, _, _ => .nil
 | (a, b, k) :: r, i, j, ⟨h1, h2, h3, h4⟩ => by
  refine List.pairwise_cons.mpr ⟨fun p hp => ?_, h4.rises⟩
  have := h4.first p hp
  dsimp only
  lia
theorem sorted_is {l r : List (Nat × Nat × Nat)} (hp : l.Perm r) (hr : r.Pairwise fun p q => p.1 < q.1) (hl : l.Pairwise fun p q => p.1 ≤ q.1) : l = r := by
 refine hp.eq_of_pairwise (le := fun p q => p.1 ≤ q.1) ?_ hl (hr.imp fun h => Nat.le_of_lt h)
 intro a b ha hb h1 h2
 have ha' := hp.mem_iff.mp ha
 have e : a.1 = b.1 := Nat.le_antisymm h1 h2
 clear hp hl ha h1 h2
 induction r with
 | nil => cases hb
 | cons c r ih =>
  obtain ⟨g1, g2⟩ := List.pairwise_cons.mp hr
  rcases List.mem_cons.mp ha' with rfl | ha''
  ·rcases List.mem_cons.mp hb with rfl | hb'
   ·rfl
   ·have := g1 _ hb'; lia
  ·rcases List.mem_cons.mp hb with rfl | hb'
   ·have := g1 _ ha''; lia
   ·exact ih g2 hb' ha''
end Mine
end
section
set_option autoImplicit false
namespace Mine
theorem stack_none {a b : List Nat} {act : Nat → Bool} {junk : List Nat} {M all : List (Nat × Nat × Nat)} {Q : List (Nat × Nat × Nat × Nat)} {alo ahi blo bhi : Nat} (h : WinOk a b (alo, ahi, blo, bhi)) (hk : (longest ⟨a, b, act, alo, ahi, blo, bhi⟩ junk).2.2 = 0)
  (hp : (M ++ (Q ++ [(alo, ahi, blo, bhi)]).flatMap (winBlocks a b act junk)).Perm all) : (M ++ Q.flatMap (winBlocks a b act junk)).Perm all := by
 rw [List.flatMap_append, List.flatMap_singleton, winBlocks_none a b act junk h hk, List.append_nil] at hp
 exact hp
theorem stack_some {a b : List Nat} {act : Nat → Bool} {junk : List Nat} {M all : List (Nat × Nat × Nat)} {Q : List (Nat × Nat × Nat × Nat)} {alo ahi blo bhi i j k : Nat} (h : WinOk a b (alo, ahi, blo, bhi)) (hx : longest ⟨a, b, act, alo, ahi, blo, bhi⟩ junk = (i, j, k)) (hk : k ≠ 0)
  (hp : (M ++ (Q ++ [(alo, ahi, blo, bhi)]).flatMap (winBlocks a b act junk)).Perm all) :
  ((M ++ [(i, j, k)]) ++ (Q ++ (if alo < i ∧ blo < j then [(alo, i, blo, j)] else []) ++ (if i + k < ahi ∧ j + k < bhi then [(i + k, ahi, j + k, bhi)] else [])).flatMap (winBlocks a b act junk)).Perm all ∧
  WinOk a b (alo, i, blo, j) ∧ WinOk a b (i + k, ahi, j + k, bhi) := by
 obtain ⟨e, h1, h2, h3, h4⟩ := winBlocks_some a b act junk h hx hk
 refine ⟨?_, h3, h4⟩
 have e1 : (if alo < i ∧ blo < j then [(alo, i, blo, j)] else []).flatMap (winBlocks a b act junk) = winBlocks a b act junk (alo, i, blo, j) := by
  split
  ·simp
  ·rename_i hc; rw [h1 hc]; rfl
 have e2 : (if i + k < ahi ∧ j + k < bhi then [(i + k, ahi, j + k, bhi)] else []).flatMap (winBlocks a b act junk) = winBlocks a b act junk (i + k, ahi, j + k, bhi) := by
  split
  ·simp
  ·rename_i hc; rw [h2 hc]; rfl
 rw [List.flatMap_append, List.flatMap_append, e1, e2]
 rw [List.flatMap_append, List.flatMap_singleton, e] at hp
 refine List.Perm.trans ?_ hp
 generalize winBlocks a b act junk (alo, i, blo, j) = X
 generalize winBlocks a b act junk (i + k, ahi, j + k, bhi) = Y
 generalize Q.flatMap (winBlocks a b act junk) = Z
 rw [List.append_assoc]
 refine List.Perm.append_left M ?_
 show ((i, j, k) :: (Z ++ X ++ Y)).Perm (Z ++ (X ++ (i, j, k) :: Y))
 rw [← List.append_assoc]
 exact List.perm_middle.symm
noncomputable def winSize (q : Nat × Nat × Nat × Nat) : Nat := 2 * (q.2.1 - q.1) + 1
noncomputable def stackSize (Q : List (Nat × Nat × Nat × Nat)) : Nat := (Q.map winSize).sum
theorem stackSize_append (P Q : List (Nat × Nat × Nat × Nat)) : stackSize (P ++ Q) = stackSize P + stackSize Q := by
 unfold stackSize; rw [List.map_append, List.sum_append]
theorem stackSize_one (q : Nat × Nat × Nat × Nat) : stackSize [q] = winSize q := by simp [stackSize]
theorem stack_num {s A B alo ahi i k : Nat} (hk : k ≠ 0) (h1 : alo ≤ i) (h2 : i + k ≤ ahi) (e1 : A ≤ 2 * (i - alo) + 1) (e2 : B ≤ 2 * (ahi - (i + k)) + 1) : s + A + B < s + (2 * (ahi - alo) + 1) := by lia
theorem stack_less {Q : List (Nat × Nat × Nat × Nat)} {alo ahi blo bhi i j k : Nat} (hk : k ≠ 0) (h1 : alo ≤ i) (h2 : i + k ≤ ahi) :
  stackSize (Q ++ (if alo < i ∧ blo < j then [(alo, i, blo, j)] else []) ++ (if i + k < ahi ∧ j + k < bhi then [(i + k, ahi, j + k, bhi)] else [])) < stackSize (Q ++ [(alo, ahi, blo, bhi)]) := by
 rw [stackSize_append, stackSize_append, stackSize_append, stackSize_one]
 have e1 : stackSize (if alo < i ∧ blo < j then [(alo, i, blo, j)] else []) ≤ 2 * (i - alo) + 1 := by
  split
  ·rw [stackSize_one]; exact Nat.le_refl _
  ·exact Nat.zero_le _
 have e2 : stackSize (if i + k < ahi ∧ j + k < bhi then [(i + k, ahi, j + k, bhi)] else []) ≤ 2 * (ahi - (i + k)) + 1 := by
  split
  ·rw [stackSize_one]; exact Nat.le_refl _
  ·exact Nat.zero_le _
 have e3 : winSize (alo, ahi, blo, bhi) = 2 * (ahi - alo) + 1 := rfl
 rw [e3]
 exact stack_num hk h1 h2 e1 e2
theorem rub_one (act : Nat → Bool) (ch : Nat) (b : List Nat) : (dots act b).map (fun n => if n = ch then 46 else n) = dots (fun x => act x && x != ch) b := by
 unfold dots
 rw [List.map_map]
 apply List.map_congr_left
 intro x _
 show (if (if act x = true then x else 46) = ch then 46 else if act x = true then x else 46) = if (act x && x != ch) = true then x else 46
 cases act x <;> by_cases h : x = ch <;> simp [h]
theorem rub_none (b : List Nat) : dots (fun x => true) b = b := by
 unfold dots; simp
noncomputable def rubAct (L : List Nat) (cond : Nat → Bool) (x : Nat) : Bool := !(L.contains x && cond x)
theorem rub_step (L : List Nat) (cond : Nat → Bool) (ch : Nat) (b : List Nat) :
  (if cond ch then (dots (rubAct L cond) b).map (fun n => if n = ch then 46 else n) else dots (rubAct L cond) b) = dots (rubAct (L ++ [ch]) cond) b := by
 by_cases hc : cond ch = true
 ·rw [if_pos hc, rub_one]
  congr 1
  funext x
  unfold rubAct
  by_cases h : x = ch
  ·subst h; simp [hc]
  ·have : (x != ch) = true := by simpa using h
   simp [this, h]
 ·rw [if_neg hc]
  congr 1
  funext x
  unfold rubAct
  by_cases h : x = ch
  ·subst h
   have : cond x = false := by simpa using hc
   simp [this]
  ·simp [h]
theorem rub_nil (cond : Nat → Bool) (b : List Nat) : dots (rubAct [] cond) b = b := by
 have : rubAct [] cond = fun _ => true := by funext x; simp [rubAct]
 rw [this, rub_none]
theorem places_snoc (b : List Nat) (y x : Nat) : places (b ++ [y]) x = places b x ++ if y = x then [b.length] else [] := by
 unfold places
 rw [List.length_append, List.length_singleton, List.range_succ, List.filter_append]
 congr 1
 ·apply List.filter_congr
  intro j hj
  rw [List.getElem?_append_left (List.mem_range.mp hj)]
 ·by_cases h : y = x <;> simp [h]
theorem places_length (b : List Nat) (x : Nat) : (places b x).length = b.count x := by
 obtain ⟨r, rfl⟩ : ∃ r : List Nat, b = r.reverse := ⟨b.reverse, by simp⟩
 induction r with
 | nil => rfl
 | cons y r ih =>
  rw [List.reverse_cons, places_snoc, List.length_append, ih, List.count_append]
  congr 1
  by_cases h : y = x <;> simp [h]
end Mine
end
section
set_option autoImplicit false
namespace Mine
section
variable {a b : List Nat} {act act' : Nat → Bool} (h : ∀ x ∈ a, act x = act' x)
include h
theorem idx_congr (alo ahi blo bhi i : Nat) : idx ⟨a, b, act, alo, ahi, blo, bhi⟩ i = idx ⟨a, b, act', alo, ahi, blo, bhi⟩ i := by
 unfold idx
 dsimp only
 cases e : a[i]? with
 | none => rfl
 | some x => simp only [h x (List.mem_of_getElem? e)]
theorem rowE_congr (alo ahi blo bhi n : Nat) : rowE ⟨a, b, act, alo, ahi, blo, bhi⟩ n = rowE ⟨a, b, act', alo, ahi, blo, bhi⟩ n := by
 induction n with
 | zero => rfl
 | succ n ih =>
  show row _ (rowE _ n) _ = row _ (rowE _ n) _
  rw [ih]
  funext j
  unfold row
  rw [idx_congr h]
theorem cells_congr (alo ahi blo bhi n : Nat) : cells ⟨a, b, act, alo, ahi, blo, bhi⟩ n = cells ⟨a, b, act', alo, ahi, blo, bhi⟩ n := by
 unfold cells
 rw [idx_congr h, rowE_congr h]
theorem bestE_congr (alo ahi blo bhi n : Nat) : bestE ⟨a, b, act, alo, ahi, blo, bhi⟩ n = bestE ⟨a, b, act', alo, ahi, blo, bhi⟩ n := by
 induction n with
 | zero => rfl
 | succ n ih => rw [bestE_succ, bestE_succ, ih, cells_congr h]
theorem longest_congr (junk : List Nat) (alo ahi blo bhi : Nat) : longest ⟨a, b, act, alo, ahi, blo, bhi⟩ junk = longest ⟨a, b, act', alo, ahi, blo, bhi⟩ junk := by
 unfold longest
 dsimp only
 rw [bestE_congr h]
theorem blocks_congr (junk : List Nat) : ∀ (f alo ahi blo bhi : Nat), blocks a b act junk f alo ahi blo bhi = blocks a b act' junk f alo ahi blo bhi := by
 intro f
 induction f with
 | zero => intros; rfl
 | succ f ih =>
  intro alo ahi blo bhi
  rw [blocks_succ, blocks_succ, longest_congr h, ih, ih]
theorem allBlocks_congr (junk : List Nat) : allBlocks a b act junk = allBlocks a b act' junk := blocks_congr h junk _ _ _ _ _
end
end Mine
end
section
set_option autoImplicit false
namespace Mine
theorem seg_get {l : List Nat} {lo hi t : Nat} (h : lo + t < hi) (hh : hi ≤ l.length) : (seg l lo hi)[t]? = some (l[lo + t]'(by omega)) := by
 unfold seg
 rw [List.getElem?_take_of_lt (by omega), List.getElem?_drop, List.getElem?_eq_getElem (by omega)]
theorem rev_num {lo hi t : Nat} (h : t < hi - lo) : lo + (hi - lo - 1 - t) = hi - 1 - t := by lia
theorem segrev_get {l : List Nat} {lo hi t : Nat} (h : t < hi - lo) (hh : hi ≤ l.length) : (seg l lo hi).reverse[t]? = some (l[hi - 1 - t]'(by omega)) := by
 have hl := seg_length (l := l) (i := lo) hh
 rw [List.getElem?_reverse (by omega), hl, seg_get (by omega) hh]
 congr 2
 exact rev_num h
theorem lb1 {i lo t n : Nat} (hn : n = i - lo) (h : (lo : Int) < (i : Int) - (t : Int)) : t < n := by omega
theorem lb0 {i lo t n : Nat} (hn : n = i - lo) (h : ¬ (lo : Int) < (i : Int) - (t : Int)) : n ≤ t := by omega
theorem lbi {i lo t n m : Nat} (hn : n = i - lo) (h : t < n) (hm : i ≤ m) : i - 1 - t < m := by omega
theorem lbc {i lo t n : Nat} (hn : n = i - lo) (h : t < n) : (i : Int) - (t : Int) - 1 = ((i - 1 - t : Nat) : Int) := by omega
theorem lf1 {i k r t hi n : Nat} (hn : n = hi - (i + k)) (h : (i : Int) - (r : Int) + ((k : Int) + (r : Int) + (t : Int)) < (hi : Int)) : t < n := by omega
theorem lf0 {i k r t hi n : Nat} (hn : n = hi - (i + k)) (h : ¬ (i : Int) - (r : Int) + ((k : Int) + (r : Int) + (t : Int)) < (hi : Int)) : n ≤ t := by omega
theorem lfs {p hi t n : Nat} (hn : n = hi - p) (h : t < n) : p + t < hi := by omega
theorem lfc (i k r t : Nat) : (i : Int) - (r : Int) + ((k : Int) + (r : Int) + (t : Int)) = ((i + k + t : Nat) : Int) := by omega
theorem lsi {i lo B n : Nat} (hn : n = i - lo) (h : B ≤ n) : (i : Int) - (B : Int) = ((i - B : Nat) : Int) := by omega
theorem lr1 {a r : Nat} (h : r ≤ a + 1) : (a : Int) - (r : Int) + 1 = ((a + 1 - r : Nat) : Int) := by omega
theorem lr2 {a m r : Nat} (h : r ≤ m + 1) : (a : Int) + (m : Int) - (r : Int) + 1 = ((a + m + 1 - r : Nat) : Int) := by omega
theorem lj1 {j : Nat} (h : ¬ j = 0) : ((j : Int) - 1).toNat = j - 1 := by omega
theorem ltn {a b : Nat} (h : a ≤ b) : ((b : Int) - (a : Int)).toNat = b - a := by omega
theorem lp1 (a s : Nat) : a + s + 1 - a = s + 1 := by omega
theorem lp2 {a s n : Nat} (h : a + s < n) : n - (a + (s + 1)) < n - (a + s) := by omega
theorem lp3 {n f a s : Nat} (h : n < f + (a + s)) (c : a + s < n) : n < f - 1 + (a + (s + 1)) := by omega
theorem lp4 {n f a : Nat} (h : n < f + a) (c : a < n) : f = f - 1 + 1 := by omega
theorem lp5 {a b lo : Nat} (h : b ≤ a - lo) : (a : Int) - (b : Int) = ((a - b : Nat) : Int) := by omega
theorem lp6 {a b lo : Nat} (h0 : lo ≤ a) (h : b ≤ a - lo) : lo ≤ a - b := by omega
theorem lp7 {a b s f hi lo : Nat} (h : a + s ≤ hi) (hb : b ≤ a - lo) (hf : f ≤ hi - (a + s)) : a - b + (b + s + f) ≤ hi := by omega
theorem lp8 {x y lo hi f : Nat} (hf : hi - lo < f + 1) (q : x + y ≤ hi) (hy : y ≠ 0) (q1 : lo ≤ x) : x - lo < f := by omega
theorem lp9 {x y lo hi f : Nat} (hf : hi - lo < f + 1) (q : x + y ≤ hi) (hy : y ≠ 0) (q1 : lo ≤ x) : hi - (x + y) < f := by omega
theorem lsub {n t : Nat} (h : t < n) : n - (t + 1) < n - t := by omega
theorem lcast1 (i : Int) (t : Nat) : i - (t : Int) - 1 = i - ((t + 1 : Nat) : Int) := by omega
theorem lk1 (k : Int) (t r : Nat) : k + (t : Int) + (r : Int) + 1 = k + ((t + 1 : Nat) : Int) + (r : Int) := by omega
theorem lk2 (k : Int) (r t : Nat) : k + (r : Int) + (t : Int) + 1 = k + (r : Int) + ((t + 1 : Nat) : Int) := by omega
theorem lad (t x : Nat) : t + (x + 1) = t + 1 + x := by omega
theorem run1_step' {p : Nat → Bool} {X Y : List Nat} {t x : Nat} (hx : X[t]? = some x) (hy : Y[t]? = some x) (hp : p x = true) : run1 p (X.drop t) (Y.drop t) = run1 p (X.drop (t + 1)) (Y.drop (t + 1)) + 1 := by
 obtain ⟨h1, h2⟩ := List.getElem?_eq_some_iff.mp hx
 obtain ⟨h3, h4⟩ := List.getElem?_eq_some_iff.mp hy
 rw [List.drop_eq_getElem_cons h1, List.drop_eq_getElem_cons h3, run1, if_pos ⟨by rw [h2, h4], by rw [h2]; exact hp⟩]
theorem run1_end1 {p : Nat → Bool} {X Y : List Nat} {t : Nat} (h : X.length ≤ t) : run1 p (X.drop t) (Y.drop t) = 0 := by
 rw [List.drop_eq_nil_of_le h]; rfl
theorem run1_end2 {p : Nat → Bool} {X Y : List Nat} {t : Nat} (h : Y.length ≤ t) : run1 p (X.drop t) (Y.drop t) = 0 := by
 rw [List.drop_eq_nil_of_le h]; cases X.drop t <;> rfl
theorem run1_end3 {p : Nat → Bool} {X Y : List Nat} {t x y : Nat} (hx : X[t]? = some x) (hy : Y[t]? = some y) (h : x = y → p x = false) : run1 p (X.drop t) (Y.drop t) = 0 := by
 obtain ⟨h1, h2⟩ := List.getElem?_eq_some_iff.mp hx
 obtain ⟨h3, h4⟩ := List.getElem?_eq_some_iff.mp hy
 rw [List.drop_eq_getElem_cons h1, List.drop_eq_getElem_cons h3, run1, if_neg]
 rintro ⟨e, q⟩
 rw [h2, h4] at e
 rw [h2, h e] at q
 cases q
theorem places_nil {b : List Nat} {x : Nat} (h : x ∉ b) : places b x = [] := by
 unfold places
 rw [List.filter_eq_nil_iff]
 intro j hj q
 exact h (List.mem_of_getElem? (by simpa using q))
theorem places_sorted (b : List Nat) (x : Nat) : (places b x).Pairwise (· < ·) := List.pairwise_lt_range.filter _
end Mine
end
section
open PySem PySem.W PyProof.Rows PySem.Calls
namespace Mine
noncomputable def z : Value → Value
 | .int i _ => .int i 0
 | .str x _ => .str x 0
 | .float b _ => .float b 0
 | .bytes b _ => .bytes b 0
 | v => v
theorem z_int {v : Value} {i : Int} (h : z v = .int i 0) : ∃ t, v = .int i t := by
 cases v <;> simp [z] at h; exact ⟨_, by rw [h]⟩
theorem z_str {v : Value} {x : Str} (h : z v = .str x 0) : ∃ t, v = .str x t := by
 cases v <;> simp [z] at h; exact ⟨_, by rw [h]⟩
theorem z_ref {v : Value} {a : Addr} (h : z v = .ref a) : v = .ref a := by
 cases v <;> simp [z] at h; rw [h]
theorem z_none {v : Value} (h : z v = .none) : v = .none := by
 cases v <;> simp [z] at h; rfl
theorem z_bool {v : Value} {b : Bool} (h : z v = .bool b) : v = .bool b := by
 cases v <;> simp [z] at h; rw [h]
theorem z_type {v : Value} {b : String} (h : z v = .type b) : v = .type b := by
 cases v <;> simp [z] at h; rw [h]
theorem z_builtin {v : Value} {b : String} (h : z v = .builtin b) : v = .builtin b := by
 cases v <;> simp [z] at h; rw [h]
theorem z_z (v : Value) : z (z v) = z v := by cases v <;> rfl
noncomputable abbrev PW : Program := PySem.Challenge.pw_sc0002_01
inductive AObj where
 | list (vs : List Value)
 | tup (vs : List Value)
 | mat (C : Addr) (vs : List Value)
 | dictS (kvs : List (Str × Value))
 | dictI (kvs : List (Int × Value))
 | setS (S : Str → Bool) (n : Nat)
 | inst (C dx : Addr)
 | bm (f self : Value)
 | attrs (f : Str → Option Value)
 | rng (a b : Int)
 | enm (it : Addr)
 | lit (l : Addr)
 | kview (d : Addr)
 | iview (d : Addr)
 | cell (v : Option Value)
 | raw (o : Obj)
noncomputable def tagA : Option AObj → Nat
 | none => 0
 | some o => o.ctorIdx + 1
theorem ne_hp {hp : Addr → Option AObj} {a b : Addr} {x y : Option AObj} (h2 : hp a = x) (h1 : hp b = y) (h : Nat.beq (tagA x) (tagA y) = false) : a ≠ b := fun q => by
 rw [q, h1] at h2
 rw [h2, Nat.beq_refl] at h
 cases h
noncomputable def zz {K : Type} (l : List (K × Value)) : List (K × Value) := l.map fun p => (p.1, z p.2)
structure SG (w : World) (es : List (Int × Value)) (t : SetTable) (S : Str → Bool) : Prop where
 elems : ElemsOf (PySem.strKind PW w) es
 mem : ∀ k, S k = true ↔ ∃ e ∈ es, (PySem.strKind PW w).is k e.2 = true
 room : es.length < scanBound
 fits : t.fits es.length = true
 led : t.led = !(w.params.followText "set-order")
 plain : es ≠ [] → t.plain = false
 nodup : (es.map fun e => z e.2).Nodup
noncomputable def SetW (w : World) (h : Heap) (a : Addr) (S : Str → Bool) (n : Nat) : Prop :=
 ∃ es ep t, h.get? a = some ⟨.type "set", none, .set es ep t, #[]⟩ ∧ SG w es.toList t S ∧ es.size = n
noncomputable def holds (w : World) : AObj → Heap → Addr → Prop
 | .list vs, h, a => ∃ (xs : List Value) (n : Nat), h.get? a = some ⟨.type "list", none, .seq xs.toArray n, #[]⟩ ∧ xs.map z = vs
 | .tup vs, h, a => ∃ (xs : List Value) (n : Nat), h.get? a = some ⟨.type "tuple", none, .seq xs.toArray n, #[]⟩ ∧ xs.map z = vs
 | .mat C vs, h, a => ∃ (xs : List Value) (n : Nat) (dx : Addr), h.get? a = some ⟨.ref C, some dx, .seq xs.toArray n, #[]⟩ ∧ xs.map z = vs
 | .dictS kvs, h, a => ∃ kvs', h.DictOf (strKind PW w) a kvs' ∧ zz kvs' = kvs
 | .dictI kvs, h, a => ∃ kvs', h.DictOf (intKind PW w) a kvs' ∧ zz kvs' = kvs
 | .setS S n, h, a => SetW w h a S n
 | .inst C dx, h, a => ∃ sl, h.get? a = some ⟨.ref C, some dx, .plain, sl⟩
 | .bm f self, h, a => h.get? a = some ⟨.type "builtin_function_or_method", none, .fields #[f, self], #[]⟩
 | .attrs f, h, a => ∃ m, h.Ns1 a m ∧ ∀ x, (m x).map z = f x
 | .rng i j, h, a => ∃ t u v, IsRange h a i j 1 t u v
 | .enm it, h, a => IsEnum h a it 0 .none
 | .lit l, h, a => h.IsListIter a l 0
 | .kview d, h, a => h.get? a = some { cls := .type "dict_keys", data := .fields #[.ref d] }
 | .iview d, h, a => h.get? a = some { cls := .type "dict_items", data := .fields #[.ref d] }
 | .cell v, h, a => ∃ u, h.IsCell a u ∧ u.map z = v
 | .raw o, h, a => h.get? a = some o
theorem holds_eq {w : World} {o : AObj} {h h' : Heap} {a : Addr} (e : h'.get? a = h.get? a) (x : holds w o h a) : holds w o h' a := by
 cases o with
 | list vs => obtain ⟨xs, n, h1, h2⟩ := x; exact ⟨xs, n, e.trans h1, h2⟩
 | tup vs => obtain ⟨xs, n, h1, h2⟩ := x; exact ⟨xs, n, e.trans h1, h2⟩
 | mat C vs => obtain ⟨xs, n, dx, h1, h2⟩ := x; exact ⟨xs, n, dx, e.trans h1, h2⟩
 | dictS kvs => obtain ⟨k, ⟨o, es, ep, h1, h2⟩, h3⟩ := x; exact ⟨k, ⟨o, es, ep, e.trans h1, h2⟩, h3⟩
 | dictI kvs => obtain ⟨k, ⟨o, es, ep, h1, h2⟩, h3⟩ := x; exact ⟨k, ⟨o, es, ep, e.trans h1, h2⟩, h3⟩
 | setS S n => obtain ⟨es, ep, t, h1, h2⟩ := x; exact ⟨es, ep, t, e.trans h1, h2⟩
 | inst C dx => obtain ⟨sl, h1⟩ := x; exact ⟨sl, e.trans h1⟩
 | bm f self => exact e.trans x
 | attrs f => obtain ⟨m, ⟨o, es, ep, h1, h2⟩, h3⟩ := x; exact ⟨m, ⟨o, es, ep, e.trans h1, h2⟩, h3⟩
 | rng i j => obtain ⟨t, u, v, h1⟩ := x; exact ⟨t, u, v, e.trans h1⟩
 | enm it => exact Eq.trans e x
 | lit l => obtain ⟨o, h1, h2⟩ := x; exact ⟨o, e.trans h1, h2⟩
 | kview d => exact Eq.trans e x
 | iview d => exact Eq.trans e x
 | cell v => obtain ⟨u, ⟨o, h1, h2⟩, h3⟩ := x; exact ⟨u, ⟨o, e.trans h1, h2⟩, h3⟩
 | raw o => exact Eq.trans e x
theorem holds_some {w : World} {o : AObj} {h : Heap} {a : Addr} (x : holds w o h a) : ∃ ob, h.get? a = some ob := by
 cases o with
 | list vs => obtain ⟨xs, n, h1, h2⟩ := x; exact ⟨_, h1⟩
 | tup vs => obtain ⟨xs, n, h1, h2⟩ := x; exact ⟨_, h1⟩
 | mat C vs => obtain ⟨xs, n, dx, h1, h2⟩ := x; exact ⟨_, h1⟩
 | dictS kvs => obtain ⟨k, ⟨o, es, ep, h1, h2⟩, h3⟩ := x; exact ⟨_, h1⟩
 | dictI kvs => obtain ⟨k, ⟨o, es, ep, h1, h2⟩, h3⟩ := x; exact ⟨_, h1⟩
 | setS S n => obtain ⟨es, ep, t, h1, h2⟩ := x; exact ⟨_, h1⟩
 | inst C dx => obtain ⟨sl, h1⟩ := x; exact ⟨_, h1⟩
 | bm f self => exact ⟨_, x⟩
 | attrs f => obtain ⟨m, ⟨o, es, ep, h1, h2⟩, h3⟩ := x; exact ⟨_, h1⟩
 | rng i j => obtain ⟨t, u, v, h1⟩ := x; exact ⟨_, h1⟩
 | enm it => exact ⟨_, x⟩
 | lit l => obtain ⟨o, h1, h2⟩ := x; exact ⟨_, h1⟩
 | kview d => exact ⟨_, x⟩
 | iview d => exact ⟨_, x⟩
 | cell v => obtain ⟨u, ⟨o, h1, h2⟩, h3⟩ := x; exact ⟨o, h1⟩
 | raw o => exact ⟨o, x⟩
theorem holds_keep {w : World} {o : AObj} {h h' : Heap} {a : Addr} (k : ∀ ob, h.get? a = some ob → h'.get? a = some ob) (x : holds w o h a) : holds w o h' a := by
 obtain ⟨ob, e⟩ := holds_some x
 exact holds_eq ((k ob e).trans e.symm) x
structure Cx where
 w : World
 A : Around
 h₀ : Heap
 env : Env
 g : Array GenState
 o : OsState
structure St where
 loc : Str → Option Value
 hp : Addr → Option AObj
structure Fr1 (h₀ : Heap) (L : Addr) (h : Heap) (m : Str → Option Value) : Prop where
 ns : h.Ns L m
 keep : ∀ b o, h₀.get? b = some o → h.get? b = some o
theorem Fr1.set {h₀ h h' : Heap} {L : Addr} {m m' : Str → Option Value} (F : Fr1 h₀ L h m) (ho : h₀.get? L = none) (hn : h'.Ns L m') (hs : Heap.SameBut L h h') : Fr1 h₀ L h' m' :=
 ⟨hn, fun b o e => (hs.2 b fun q => by rw [q, ho] at e; cases e).trans (F.keep b o e)⟩
structure Mod (c : Cx) (st : St) (s : Shared) : Prop where
 fr : ∃ m, Fr1 c.h₀ c.env.locals s.heap m ∧ ∀ x, (m x).map z = st.loc x
 hp : ∀ a o, st.hp a = some o → holds c.w o s.heap a ∧ a ≠ c.env.locals ∧ c.h₀.get? a = none
 g : s.gens = c.g
 o : s.os = c.o
structure WP {α : Type} (c : Cx) (t : Sem α) (st : St) (Φ : α → St → Prop) : Prop where
 of ::
 run : ∀ s, Mod c st s → wpAny (model PW c.w) c.A t (fun v s' => ∃ st', Mod c st' s' ∧ Φ v st') (fun _ _ => False) s
section
variable {α β : Type} {c : Cx} {st : St}
theorem WP.mono {t : Sem α} {Φ Ψ : α → St → Prop} (h : WP c t st Φ) (k : ∀ v st', Φ v st' → Ψ v st') : WP c t st Ψ := .of fun s hs => wpAny_mono (h.run s hs) (fun v _ ⟨st', m, p⟩ => ⟨st', m, k v st' p⟩) fun _ _ e => e
theorem WP.pure {v : α} {Φ : α → St → Prop} (h : Φ v st) : WP c (pure v) st Φ := .of fun _ hs => wpAny_pure ⟨st, hs, h⟩
theorem WP.bind {t : Sem α} {f : α → Sem β} {Φ : β → St → Prop} (h : WP c t st (fun a st' => WP c (f a) st' Φ)) : WP c (t >>= f) st Φ := .of fun s hs => wpAny_bind (wpAny_mono (h.run s hs) (fun _ s' ⟨_, m, p⟩ => p.run s' m) fun _ _ e => e)
theorem WP.thru {t : Sem α} {Φ : α → St → Prop} (h : WP c t st Φ) {s : Shared} (hs : Mod c st s) {Q : α → Shared → Prop}
  (k : ∀ v s' st', Mod c st' s' → Φ v st' → Q v s') : wpAny (model PW c.w) c.A t Q (fun _ _ => False) s :=
 wpAny_mono (h.run s hs) (fun v s' ⟨st', m, p⟩ => k v s' st' m p) fun _ _ e => e
end
noncomputable def EX (c : Cx) (e : Expr) (st : St) (Φ : Value → St → Prop) : Prop := WP c (eval e c.env) st fun v st' => Φ (z v) st'
noncomputable def BIN (c : Cx) (op : Operator) (a b : Value) (st : St) (Φ : Value → St → Prop) : Prop :=
 ∀ u v, z u = a → z v = b → WP c (binaryOp op u v) st fun r st' => Φ (z r) st'
noncomputable def IOP (c : Cx) (op : Operator) (a b : Value) (st : St) (Φ : Value → St → Prop) : Prop :=
 ∀ u v, z u = a → z v = b → WP c (inplaceOp op u v) st fun r st' => Φ (z r) st'
noncomputable def CMP (c : Cx) (op : CmpOp) (a b : Value) (st : St) (Φ : Value → St → Prop) : Prop :=
 ∀ u v, z u = a → z v = b → WP c (compareOp op u v) st fun r st' => Φ (z r) st'
noncomputable def TRU (c : Cx) (a : Value) (st : St) (Φ : Bool → St → Prop) : Prop := ∀ u, z u = a → WP c (truthy u) st Φ
noncomputable def TS (c : Cx) (e : Expr) (st : St) (Φ : Bool → St → Prop) : Prop := WP c (isTrue e c.env (eval e c.env)) st Φ
inductive AF where
 | next | brk | cont
 | ret (v : Value)
noncomputable def zf : Flow → AF
 | .next => .next
 | .brk => .brk
 | .cont => .cont
 | .ret v => .ret (z v)
noncomputable def XS (c : Cx) (e : Stmt) (st : St) (Φ : AF → St → Prop) : Prop := WP c (exec e c.env) st fun f st' => Φ (zf f) st'
noncomputable def XB (c : Cx) (e : List Stmt) (st : St) (Φ : AF → St → Prop) : Prop := WP c (execs e c.env) st fun f st' => Φ (zf f) st'
section
variable {c : Cx} {st : St} {Φ : Value → St → Prop} {Ψ : AF → St → Prop} {B : Bool → St → Prop}
theorem XB_nil (h : Ψ .next st) : XB c [] st Ψ := .of fun s hs => wpAny_execs_nil ⟨st, hs, h⟩
noncomputable def nextOr (c : Cx) (rest : List Stmt) (Ψ : AF → St → Prop) : AF → St → Prop
 | .next, st => XB c rest st Ψ
 | f, st => Ψ f st
theorem XB_cons {x : Stmt} {rest : List Stmt} (h : XS c x st (nextOr c rest Ψ)) : XB c (x :: rest) st Ψ := .of fun s hs =>
 wpAny_execs_cons (wpAny_mono (h.run s hs) (fun f s' ⟨st', m, p⟩ => by
  cases f with
  | next => exact p.run s' m
  | brk => exact ⟨st', m, p⟩
  | cont => exact ⟨st', m, p⟩
  | ret v => exact ⟨st', m, p⟩) fun _ _ e => e)
theorem EX_int {i : Int} {k pos} (h : Φ (.int i 0) st) : EX c (.Constant (.int i) k pos) st Φ := .of fun s hs =>
 wpAny_Constant_int ⟨st, ⟨hs.fr, hs.hp, hs.g, hs.o⟩, h⟩
theorem EX_str {i : Str} {k pos} (h : Φ (.str i 0) st) : EX c (.Constant (.str i) k pos) st Φ := .of fun s hs =>
 wpAny_Constant_str ⟨st, ⟨hs.fr, hs.hp, hs.g, hs.o⟩, h⟩
theorem EX_none {k pos} (h : Φ .none st) : EX c (.Constant .none k pos) st Φ := .of fun s hs => wpAny_Constant_none ⟨st, hs, h⟩
theorem EX_bool {b k pos} (h : Φ (.bool b) st) : EX c (.Constant (.bool b) k pos) st Φ := .of fun s hs => wpAny_Constant_bool ⟨st, hs, h⟩
theorem EX_local {x : Str} {pos : Pos} {v : Value} (hk : c.env.scope.kind = .function) (hl : c.env.kindOf x = some .local) (hd : (x == ("__debug__" : Str)) = false) (hv : st.loc x = some v) (h : Φ v st) :
  EX c (.Name x pos) st Φ := .of fun s hs => by
 obtain ⟨m, F, hm⟩ := hs.fr
 have e := hm x
 rw [hv] at e
 obtain ⟨u, e1, e2⟩ := Option.map_eq_some_iff.mp e
 exact wpAny_Name (wpAny_loadName_local hk hl F.ns e1 ⟨st, hs, by show Φ (z u) st; rw [e2]; exact h⟩) hd
theorem EX_BinOp {l r : Expr} {op : Operator} {pos : Pos} (h : EX c l st fun a st1 => EX c r st1 fun b st2 => BIN c op a b st2 Φ) : EX c (.BinOp l op r pos) st Φ := .of fun s hs =>
 wpAny_BinOp (WP.thru h hs fun _ _ _ m1 h1 => WP.thru h1 m1 fun _ _ _ m2 h2 => (h2 _ _ rfl rfl).run _ m2)
theorem EX_Compare {l r : Expr} {op : CmpOp} {pos : Pos} (hm : behindInMarks op r = false) (h : EX c l st fun a st1 => EX c r st1 fun b st2 => CMP c op a b st2 Φ) : EX c (.Compare l [op] [r] pos) st Φ := .of fun s hs =>
 wpAny_Compare1 (WP.thru h hs fun _ _ _ m1 h1 => WP.thru h1 m1 fun _ _ _ m2 h2 => (h2 _ _ rfl rfl).run _ m2) hm
theorem TS_Compare {l r : Expr} {op : CmpOp} {pos : Pos} (hm : behindInMarks op r = false) (h : EX c l st fun a st1 => EX c r st1 fun b st2 => CMP c op a b st2 fun v st3 => TRU c v st3 B) : TS c (.Compare l [op] [r] pos) st B := .of fun s hs =>
 wpAny_isTrue_Compare1 (WP.thru h hs fun _ _ _ m1 h1 => WP.thru h1 m1 fun _ _ _ m2 h2 => WP.thru (h2 _ _ rfl rfl) m2 fun _ _ _ m3 h3 => (h3 _ rfl).run _ m3) hm
theorem TS_Not {x : Expr} {pos : Pos} (h : TS c x st fun b st' => B (!b) st') : TS c (.UnaryOp .Not x pos) st B := .of fun s hs => wpAny_isTrue_Not (h.run s hs)
theorem TS_plain {e : Expr} (he : isTrue e c.env (eval e c.env) = (do let v ← eval e c.env; standAt e.pos; holding [v] (truthy v))) (h : EX c e st fun a st1 => TRU c a st1 B) : TS c e st B := .of fun s hs =>
 wpAny_isTrue_value (WP.thru h hs fun _ _ _ m1 h1 => (h1 _ rfl).run _ m1) he
noncomputable def AND (c : Cx) (es : List Expr) (st : St) (B : Bool → St → Prop) : Prop := WP c (allTrue .And es c.env) st B
theorem TS_And {es : List Expr} {pos : Pos} (h : AND c es st B) : TS c (.BoolOp .And es pos) st B := .of fun s hs => wpAny_isTrue_BoolOp (h.run s hs)
theorem AND_nil (h : B true st) : AND c [] st B := .of fun s hs => wpAny_allTrue_And_nil ⟨st, hs, h⟩
theorem AND_cons {x : Expr} {rest : List Expr} (h : TS c x st fun b st' => if b then AND c rest st' B else B false st') : AND c (x :: rest) st B := .of fun s hs =>
 wpAny_allTrue_And_cons (WP.thru h hs fun b s' st' m p => by
  cases b with
  | true => exact p.run s' m
  | false => exact ⟨st', m, p⟩)
theorem EX_IfExp {t b o : Expr} {pos : Pos} (h : TS c t st fun x st' => if x then EX c b st' Φ else EX c o st' Φ) : EX c (.IfExp t b o pos) st Φ := .of fun s hs =>
 wpAny_IfExp (WP.thru h hs fun b s' st' m p => by
  cases b with
  | true => exact p.run s' m
  | false => exact p.run s' m)
theorem XS_If {t : Expr} {b o : List Stmt} {pos : Pos} (h : TS c t st fun x st' => if x then XB c b st' Ψ else XB c o st' Ψ) : XS c (.If t b o pos) st Ψ := .of fun s hs =>
 wpAny_If (WP.thru h hs fun b s' st' m p => by
  cases b with
  | true => exact p.run s' m
  | false => exact p.run s' m)
theorem XS_Return {e : Expr} {pos : Pos} (h : EX c e st fun v st' => Ψ (.ret v) st') : XS c (.Return (some e) pos) st Ψ := .of fun s hs => wpAny_Return_some (h.run s hs)
theorem XS_Break {pos : Pos} (h : Ψ .brk st) : XS c (.Break pos) st Ψ := .of fun s hs => wpAny_Break ⟨st, hs, h⟩
theorem XS_Continue {pos : Pos} (h : Ψ .cont st) : XS c (.Continue pos) st Ψ := .of fun s hs => wpAny_Continue ⟨st, hs, h⟩
theorem XS_Expr {e : Expr} {pos : Pos} (hi : interactive c.env = false) (hsw : swapsWith e none pos.line c.env = pure false) (h : EX c e st fun _ st' => Ψ .next st') : XS c (.Expr e pos) st Ψ := .of fun s hs =>
 wpAny_Expr_any (h.run s hs) hi hsw
noncomputable def St.set (st : St) (x : Str) (v : Value) : St := ⟨fun y => if y = x then some v else st.loc y, st.hp⟩
theorem Mod.setName {h' : Heap} {x : Str} {v : Value} {s : Shared} {m : Str → Option Value} {tk : Nat} (hs : Mod c st s) (F : Fr1 c.h₀ c.env.locals s.heap m) (hm : ∀ x, (m x).map z = st.loc x) (ho : c.h₀.get? c.env.locals = none)
  (hn : h'.Ns c.env.locals (fun y => if y = x then some v else m y)) (sb : Heap.SameBut c.env.locals s.heap h') : Mod c (st.set x (z v)) { s with heap := h', toks := tk } :=
 ⟨⟨_, F.set ho hn sb, fun y => by
   show Option.map z (if y = x then some v else m y) = if y = x then some (z v) else st.loc y
   by_cases e : y = x
   ·simp [e]
   ·simp [e, hm y]⟩,
  fun a o e => by
   obtain ⟨h1, h2, h3⟩ := hs.hp a o e
   exact ⟨holds_eq (sb.2 a h2) h1, h2, h3⟩, hs.g, hs.o⟩
theorem WP_store {x : Str} {v : Value} {Q : Unit → St → Prop} (hk : c.env.scope.kind = .function) (hl : c.env.kindOf x = some .local) (ho : c.h₀.get? c.env.locals = none) (h : Q () (st.set x (z v))) : WP c (storeName c.env x v) st Q := .of fun s hs => by
 obtain ⟨m, F, hm⟩ := hs.fr
 exact wpAny_storeName_local hl F.ns (fun h' hn sb => ⟨_, hs.setName F hm ho hn sb, h⟩) (by rw [hk]; rfl)
theorem XS_AssignName {x : Str} {e : Expr} {p q : Pos} (hk : c.env.scope.kind = .function) (hl : c.env.kindOf x = some .local) (ho : c.h₀.get? c.env.locals = none) (hsw : swapsWith e (some (.Name x p)) q.line c.env = pure false)
  (h : EX c e st fun v st' => Ψ .next (st'.set x v)) : XS c (.Assign [.Name x p] e q) st Ψ := .of fun s hs =>
 wpAny_Assign_Name (WP.thru h hs fun _ s' _ m1 h1 => WP.thru (WP_store (Q := fun _ st' => Ψ .next st') hk hl ho h1) m1 fun _ _ st' m2 h2 => ⟨st', m2, h2⟩) hsw
theorem XS_AugName {x : Str} {e : Expr} {op : Operator} {p q : Pos} (hk : c.env.scope.kind = .function) (hl : c.env.kindOf x = some .local) (ho : c.h₀.get? c.env.locals = none) {a : Value} (hv : st.loc x = some a)
  (h : EX c e st fun v st' => IOP c op a v st' fun r st'' => Ψ .next (st''.set x r)) : XS c (.AugAssign (.Name x p) op e q) st Ψ := .of fun s hs => by
 obtain ⟨m, F, hm⟩ := hs.fr
 have e1 := hm x
 rw [hv] at e1
 obtain ⟨u, e1, e2⟩ := Option.map_eq_some_iff.mp e1
 exact wpAny_AugAssign_Name (wpAny_loadName_local hk hl F.ns e1 (WP.thru h hs fun _ s' _ m1 h1 =>
  WP.thru (h1 u _ e2 rfl) m1 fun _ _ _ m2 h2 => WP.thru (WP_store (Q := fun _ st' => Ψ .next st') hk hl ho h2) m2 fun _ _ st' m3 h3 => ⟨st', m3, h3⟩))
end
end Mine
end
section
open PySem PySem.W PyProof.Rows PySem.Calls
namespace Mine
section
variable {c : Cx} {st : St}
theorem Mod.toks {s : Shared} {tk : Nat} (hs : Mod c st s) : Mod c st { s with toks := tk } := ⟨hs.fr, hs.hp, hs.g, hs.o⟩
theorem Mod.keep {s : Shared} {h' : Heap} {tk : Nat} (hs : Mod c st s) (k : ∀ b o, s.heap.get? b = some o → h'.get? b = some o) : Mod c st { s with heap := h', toks := tk } := by
 obtain ⟨m, F, hm⟩ := hs.fr
 exact ⟨⟨m, ⟨F.ns.keeps k, fun b o e => k b o (F.keep b o e)⟩, hm⟩, fun a o e => by
  obtain ⟨h1, h2, h3⟩ := hs.hp a o e
  exact ⟨holds_keep (fun ob e => k a ob e) h1, h2, h3⟩, hs.g, hs.o⟩
noncomputable def St.put (st : St) (a : Addr) (o : AObj) : St := ⟨st.loc, fun b => if b = a then some o else st.hp b⟩
theorem St.put_self {a : Addr} {o : AObj} : (st.put a o).hp a = some o := by simp [St.put]
theorem St.put_ne {a b : Addr} {o : AObj} (h : b ≠ a) : (st.put a o).hp b = st.hp b := by simp [St.put, h]
theorem St.put_loc {a : Addr} {o : AObj} : (st.put a o).loc = st.loc := rfl
theorem St.set_hp {x : Str} {v : Value} : (st.set x v).hp = st.hp := rfl
theorem Mod.fresh {s : Shared} (hs : Mod c st s) : st.hp s.heap.objs.size = none := by
 cases e : st.hp s.heap.objs.size with
 | none => rfl
 | some o =>
  obtain ⟨ob, h⟩ := holds_some (hs.hp _ _ e).1
  exact absurd (Heap.lt_size h) (Nat.lt_irrefl _)
theorem Mod.fresh_base {s : Shared} (hs : Mod c st s) : c.h₀.get? s.heap.objs.size = none ∧ s.heap.objs.size ≠ c.env.locals := by
 obtain ⟨m, F, _⟩ := hs.fr
 refine ⟨?_, ?_⟩
 ·cases e : c.h₀.get? s.heap.objs.size with
  | none => rfl
  | some o => exact absurd (Heap.lt_size (F.keep _ _ e)) (Nat.lt_irrefl _)
 ·refine hide fun G9 hG9 => ?_
  obtain ⟨o, es, ep, h, _⟩ := F.ns
  refine hG9 ?_
  exact fun e => absurd (Heap.lt_size h) (e ▸ Nat.lt_irrefl _)
theorem Mod.push {s : Shared} {ob : Obj} {o : AObj} {tk : Nat} (hs : Mod c st s) (h : holds c.w o (s.heap.push ob) s.heap.objs.size) : Mod c (st.put s.heap.objs.size o) { s with heap := s.heap.push ob, toks := tk } := by
 have k := hs.keep (tk := tk) (h' := s.heap.push ob) fun b o e => Heap.get?_push_of_some _ e
 obtain ⟨f1, f2⟩ := hs.fresh_base
 refine ⟨k.fr, fun a o' e => ?_, k.g, k.o⟩
 by_cases q : a = s.heap.objs.size
 ·subst q
  rw [St.put_self] at e
  cases e
  exact ⟨h, f2, f1⟩
 ·rw [St.put_ne q] at e
  exact k.hp a o' e
theorem Mod.upd {s : Shared} {h' : Heap} {a : Addr} {o o' : AObj} {tk : Nat} (hs : Mod c st s) (ha : st.hp a = some o) (sb : Heap.SameBut a s.heap h') (h : holds c.w o' h' a) : Mod c (st.put a o') { s with heap := h', toks := tk } := by
 refine hide fun G9 hG9 => ?_
 obtain ⟨m, F, hm⟩ := hs.fr
 obtain ⟨h1, h2, h3⟩ := hs.hp a o ha
 refine hG9 ?_
 refine ⟨⟨m, ⟨F.ns.at' fun o e => (sb.2 _ (Ne.symm h2)).trans e, fun b o e => (sb.2 b fun q => ?_).trans (F.keep b o e)⟩, hm⟩, fun b ob e => ?_, hs.g, hs.o⟩
 ·rw [q, h3] at e; cases e
 ·by_cases q : b = a
  ·subst q
   rw [St.put_self] at e
   cases e
   exact ⟨h, h2, h3⟩
  ·rw [St.put_ne q] at e
   obtain ⟨k1, k2, k3⟩ := hs.hp b ob e
   exact ⟨holds_eq (sb.2 b q) k1, k2, k3⟩
end
section Sints
variable {c : Cx} {st : St} {Φ : Value → St → Prop} {B : Bool → St → Prop} {i j : Int}
theorem BIN_add (h : Φ (.int (i + j) 0) st) : BIN c .Add (.int i 0) (.int j 0) st Φ := by
 intro u v hu hv; refine .of fun s hs => ?_
 obtain ⟨t, rfl⟩ := z_int hu
 obtain ⟨t', rfl⟩ := z_int hv
 with_reducible refine add_int ?_
 exact ⟨st, hs.toks, h⟩
theorem BIN_sub (h : Φ (.int (i - j) 0) st) : BIN c .Sub (.int i 0) (.int j 0) st Φ := by
 intro u v hu hv; refine .of fun s hs => ?_
 obtain ⟨t, rfl⟩ := z_int hu
 obtain ⟨t', rfl⟩ := z_int hv
 with_reducible refine sub_int ?_
 exact ⟨st, hs.toks, h⟩
theorem IOP_add (h : Φ (.int (i + j) 0) st) : IOP c .Add (.int i 0) (.int j 0) st Φ := by
 intro u v hu hv; refine .of fun s hs => ?_
 obtain ⟨t, rfl⟩ := z_int hu
 obtain ⟨t', rfl⟩ := z_int hv
 with_reducible refine iadd_int ?_
 exact ⟨st, hs.toks, h⟩
theorem BIN_mod (hb : j ≠ 0) (h : Φ (.int (i.fmod j) 0) st) : BIN c .Mod (.int i 0) (.int j 0) st Φ := by
 intro u v hu hv; refine .of fun s hs => ?_
 obtain ⟨t, rfl⟩ := z_int hu
 obtain ⟨t', rfl⟩ := z_int hv
 with_reducible refine PyProof.Rows.mod_int hb ?_
 exact ⟨st, hs.toks, h⟩
theorem BIN_div (hb : j ≠ 0) (hs' : j.natAbs < 1073741824) (h : Φ (.int (i.fdiv j) 0) st) : BIN c .FloorDiv (.int i 0) (.int j 0) st Φ := by
 intro u v hu hv; refine .of fun s hs => ?_
 obtain ⟨t, rfl⟩ := z_int hu
 obtain ⟨t', rfl⟩ := z_int hv
 with_reducible refine floordiv_int hb ?_ (.inl (PyProof.noPylong_small hs'))
 exact ⟨st, hs.toks, h⟩
theorem BIN_mul (hm : PySem.IntMulOk i j) (h : Φ (.int (i * j) 0) st) : BIN c .Mult (.int i 0) (.int j 0) st Φ := by
 intro u v hu hv; refine .of fun s hs => ?_
 obtain ⟨t, rfl⟩ := z_int hu
 obtain ⟨t', rfl⟩ := z_int hv
 with_reducible refine mul_int ?_ hm
 exact ⟨st, hs.toks, h⟩
theorem CMP_lt (h : Φ (.bool (decide (i < j))) st) : CMP c .Lt (.int i 0) (.int j 0) st Φ := by
 intro u v hu hv; refine .of fun s hs => ?_
 obtain ⟨t, rfl⟩ := z_int hu
 obtain ⟨t', rfl⟩ := z_int hv
 with_reducible refine lt_int ?_
 exact ⟨st, hs, h⟩
theorem CMP_gt (h : Φ (.bool (decide (j < i))) st) : CMP c .Gt (.int i 0) (.int j 0) st Φ := by
 intro u v hu hv; refine .of fun s hs => ?_
 obtain ⟨t, rfl⟩ := z_int hu
 obtain ⟨t', rfl⟩ := z_int hv
 with_reducible refine PyProof.Rows.gt_int ?_
 exact ⟨st, hs, h⟩
theorem CMP_ge (h : Φ (.bool (decide (j ≤ i))) st) : CMP c .GtE (.int i 0) (.int j 0) st Φ := by
 intro u v hu hv; refine .of fun s hs => ?_
 obtain ⟨t, rfl⟩ := z_int hu
 obtain ⟨t', rfl⟩ := z_int hv
 with_reducible refine PyProof.Rows.ge_int ?_
 exact ⟨st, hs, h⟩
theorem CMP_eq (h : Φ (.bool (i == j)) st) : CMP c .Eq (.int i 0) (.int j 0) st Φ := by
 intro u v hu hv; refine .of fun s hs => ?_
 obtain ⟨t, rfl⟩ := z_int hu
 obtain ⟨t', rfl⟩ := z_int hv
 with_reducible refine PyProof.Rows.eq_int ?_
 exact ⟨st, hs, h⟩
theorem CMP_ne (h : Φ (.bool (i != j)) st) : CMP c .NotEq (.int i 0) (.int j 0) st Φ := by
 intro u v hu hv; refine .of fun s hs => ?_
 obtain ⟨t, rfl⟩ := z_int hu
 obtain ⟨t', rfl⟩ := z_int hv
 with_reducible refine PyProof.Rows.ne_int ?_
 exact ⟨st, hs, h⟩
theorem TRU_bool {b : Bool} (h : B b st) : TRU c (.bool b) st B := by
 intro u hu; refine .of fun s hs => ?_
 rw [z_bool hu]
 with_reducible refine wpAny_truthy_bool ?_
 exact ⟨st, hs, h⟩
theorem TRU_int (h : B (i != 0) st) : TRU c (.int i 0) st B := by
 intro u hu; refine .of fun s hs => ?_
 obtain ⟨t, rfl⟩ := z_int hu
 with_reducible refine PyProof.Rows.truthy_int ?_
 exact ⟨st, hs, h⟩
theorem TRU_none (h : B false st) : TRU c .none st B := by
 intro u hu; refine .of fun s hs => ?_
 rw [z_none hu]
 with_reducible refine truthy_none ?_
 exact ⟨st, hs, h⟩
theorem CMP_isNone {a : Value} (h : Φ (.bool (decide (a = .none))) st) : CMP c .Is a .none st Φ := by
 intro u v hu hv; refine .of fun s hs => ?_
 rw [z_none hv]
 by_cases e : u = .none
 ·subst e
  subst hu
  have e : PySem.plainIs .none .none = true := by rfl
  with_reducible refine wpAny_is_self e ?_
  exact ⟨st, hs, h⟩
 ·have : a ≠ .none := fun q => e (z_none (hu.trans q))
  rw [decide_eq_false this] at h
  with_reducible refine is_none_ne e ?_
  exact ⟨st, hs, h⟩
theorem CMP_isNotNone {a : Value} (h : Φ (.bool (!decide (a = .none))) st) : CMP c .IsNot a .none st Φ := by
 intro u v hu hv; refine .of fun s hs => ?_
 rw [z_none hv]
 by_cases e : u = .none
 ·subst e
  subst hu
  have e : PySem.plainIs .none .none = true := by rfl
  with_reducible refine wpAny_isNot_self e ?_
  exact ⟨st, hs, h⟩
 ·have : a ≠ .none := fun q => e (z_none (hu.trans q))
  rw [decide_eq_false this] at h
  with_reducible refine isnot_none_ne e ?_
  exact ⟨st, hs, h⟩
theorem CMP_isList {a b : Addr} {vs ws : List Value} (hab : a ≠ b) (ha : st.hp a = some (.list vs)) (hb : st.hp b = some (.list ws)) (h : Φ (.bool false) st) : CMP c .Is (.ref a) (.ref b) st Φ := by
 intro u v hu hv; refine .of fun s hs => ?_
 rw [z_ref hu, z_ref hv]
 refine hide fun G9 hG9 => ?_
 obtain ⟨xs, n, h1, _⟩ := (hs.hp a _ ha).1
 obtain ⟨ys, n', h1', _⟩ := (hs.hp b _ hb).1
 refine hG9 ?_
 have hc : Value.type "list" ≠ .type "tuple" := by decide
 with_reducible refine wpAny_is_ref_other hab h1 h1' hc ?_
 exact ⟨st, hs, h⟩
end Sints
section Sstrs
variable {c : Cx} {st : St} {Φ : Value → St → Prop} {B : Bool → St → Prop} {x y : Str}
theorem BIN_cat (hz : x.length + y.length ≤ sizeLine) (h : Φ (.str (x ++ y) 0) st) : BIN c .Add (.str x 0) (.str y 0) st Φ := by
 intro u v hu hv; refine .of fun s hs => ?_
 obtain ⟨t, rfl⟩ := z_str hu
 obtain ⟨t', rfl⟩ := z_str hv
 with_reducible refine PyProof.Rows.add_str (fun t' tk => ?_) hz
 exact ⟨st, hs.toks, h⟩
theorem IOP_cat (hz : x.length + y.length ≤ sizeLine) (h : Φ (.str (x ++ y) 0) st) : IOP c .Add (.str x 0) (.str y 0) st Φ := by
 intro u v hu hv; refine .of fun s hs => ?_
 obtain ⟨t, rfl⟩ := z_str hu
 obtain ⟨t', rfl⟩ := z_str hv
 with_reducible refine PyProof.Rows.iadd_str (fun t' tk => ?_) hz
 exact ⟨st, hs.toks, h⟩
theorem CMP_eqS (h : Φ (.bool (x == y)) st) : CMP c .Eq (.str x 0) (.str y 0) st Φ := by
 intro u v hu hv; refine .of fun s hs => ?_
 obtain ⟨t, rfl⟩ := z_str hu
 obtain ⟨t', rfl⟩ := z_str hv
 with_reducible refine PyProof.Rows.eq_str ?_
 exact ⟨st, hs, h⟩
theorem CMP_inS (h : Φ (.bool !(Builtin.Str.occurrences x y 0 x.length 1).isEmpty) st) : CMP c .In (.str y 0) (.str x 0) st Φ := by
 intro u v hu hv; refine .of fun s hs => ?_
 obtain ⟨t, rfl⟩ := z_str hu
 obtain ⟨t', rfl⟩ := z_str hv
 with_reducible refine PyProof.Rows.in_str ?_
 exact ⟨st, hs, h⟩
theorem CMP_notInS (h : Φ (.bool (!(!(Builtin.Str.occurrences x y 0 x.length 1).isEmpty))) st) : CMP c .NotIn (.str y 0) (.str x 0) st Φ := by
 intro u v hu hv; refine .of fun s hs => ?_
 obtain ⟨t, rfl⟩ := z_str hu
 obtain ⟨t', rfl⟩ := z_str hv
 with_reducible refine PyProof.Rows.notIn_str ?_
 exact ⟨st, hs, h⟩
theorem TRU_str (h63 : (x.length : Int) < 9223372036854775808) (h : B ((x.length : Int) != 0) st) : TRU c (.str x 0) st B := by
 intro u hu; refine .of fun s hs => ?_
 obtain ⟨t, rfl⟩ := z_str hu
 with_reducible refine PyProof.Rows.SBL.truthy h63 ?_
 exact ⟨st, hs.toks, h⟩
end Sstrs
section Sdisp
variable {c : Cx} {st : St} {Φ : Value → St → Prop} {B : Bool → St → Prop}
noncomputable def ARGS (c : Cx) (pos : Pos) (es : List Expr) (st : St) (Φ : List Value → St → Prop) : Prop := WP c (spliced (backTo pos (starEach es c.env))) st fun vs st' => Φ (vs.map z) st'
theorem ARGS_nil {pos : Pos} {Φ : List Value → St → Prop} (h : Φ [] st) : ARGS c pos [] st Φ := .of fun s hs => wpAny_items_nil ⟨st, hs, h⟩
theorem ARGS_cons {pos : Pos} {e : Expr} {rest : List Expr} {Φ : List Value → St → Prop} (he : starEach (e :: rest) c.env = (false, eval e c.env) :: starEach rest c.env)
  (h : EX c e st fun v st1 => ARGS c pos rest st1 fun vs st2 => Φ (v :: vs) st2) : ARGS c pos (e :: rest) st Φ := .of fun s hs =>
 wpAny_items_cons (WP.thru h hs fun v s1 st1 m1 h1 => WP.thru h1 m1 fun vs s2 st2 m2 h2 => ⟨st2, m2, h2⟩) he
theorem EX_Tuple {pos : Pos} {es : List Expr} {k : Nat} (hz : es.length ≤ 1000) (h : ARGS c pos es st fun vs st1 => vs.length ≤ sizeLine ∧ ∀ a, st1.hp a = none → Φ (.ref a) (st1.put a (.tup vs))) : EX c (.Tuple es k pos) st Φ := .of fun s hs =>
 Tuple_ (WP.thru h hs fun vs s1 st1 m1 h1 => wpAny_newObj_type (T := "tuple") (data := .seq vs.toArray) (dict := none)
  ⟨st1.put s1.heap.objs.size (.tup (vs.map z)), m1.push ⟨vs, _, Heap.get?_push_size _ rfl, rfl⟩, h1.2 _ m1.fresh⟩ (by show vs.toArray.size ≤ sizeLine; simpa using h1.1))
theorem EX_List {pos : Pos} {es : List Expr} (h : ARGS c pos es st fun vs st1 => vs.length ≤ sizeLine ∧ ∀ a, st1.hp a = none → Φ (.ref a) (st1.put a (.list vs))) : EX c (.List es pos) st Φ := .of fun s hs =>
 List_ (WP.thru h hs fun vs s1 st1 m1 h1 => wpAny_newObj_type (T := "list") (data := .seq vs.toArray) (dict := none)
  ⟨st1.put s1.heap.objs.size (.list (vs.map z)), m1.push ⟨vs, _, Heap.get?_push_size _ rfl, rfl⟩, h1.2 _ m1.fresh⟩ (by show vs.toArray.size ≤ sizeLine; simpa using h1.1))
end Sdisp
end Mine
end
section
open PySem PySem.W PyProof.Rows PySem.Calls
namespace Mine
open Classical in
noncomputable def hideP (h : Heap) (p : Addr → Prop) : Heap := ⟨h.objs.mapIdx fun i o => if p i then { o with data := .freed } else o, h.life⟩
theorem hideP_size (h : Heap) (p : Addr → Prop) : (hideP h p).objs.size = h.objs.size := by simp [hideP]
theorem hideP_get {h : Heap} {p : Addr → Prop} {b : Addr} (hb : ¬ p b) : (hideP h p).get? b = h.get? b := by
 unfold hideP Heap.get?
 simp only [Array.getElem?_mapIdx]
 cases h.objs[b]? with
 | none => rfl
 | some o => simp [hb]
theorem hideP_none {h : Heap} {p : Addr → Prop} {b : Addr} (hb : p b) : (hideP h p).get? b = none := by
 unfold hideP Heap.get?
 simp only [Array.getElem?_mapIdx]
 cases h.objs[b]? with
 | none => rfl
 | some o => simp [hb]
noncomputable def CALL (c : Cx) (f : Value) (args : List Value) (st : St) (Φ : Value → St → Prop) : Prop :=
 ∀ u us, z u = f → us.map z = args → WP c (call u us) st fun v st' => Φ (z v) st'
structure Good (c : Cx) (n : Nat) : Prop where
 hand : c.A.handled = none
 units : c.A.units + 20 * n + 500 < cLine
 depth : c.A.depth + 3 * n + 10 < recursionLimit
 kind : c.env.scope.kind = .function
 nolim : c.h₀.NoLimit
theorem Good.inter {c : Cx} {n : Nat} (G : Good c n) : interactive c.env = false := by
 unfold interactive
 rw [G.kind]; rfl
theorem Good.less {c : Cx} {n m : Nat} (G : Good c n) (h : m ≤ n) : Good c m := by
 refine hide fun G9 hG9 => ?_
 obtain ⟨h1, h2, h3, h4, h5⟩ := G
 refine hG9 ?_
 exact ⟨h1, by lia, by lia, h4, h5⟩
noncomputable def retV : AF → Value
 | .ret v => v
 | _ => .none
structure Under (c : Cx) (fd : FuncData) (f : Addr) (c' : Cx) : Prop where
 w : c'.w = c.w
 hand : c'.A.handled = c.A.handled
 units : c'.A.units ≤ c.A.units + 20
 depth : c'.A.depth ≤ c.A.depth + 3
 env : c'.env = callEnv fd c'.env.locals f
 keep : ∀ b o, c.h₀.get? b = some o → c'.h₀.get? b = some o
 g : c'.g = c.g
 o : c'.o = c.o
 off : c'.h₀.get? c'.env.locals = none
theorem Under.good {c c' : Cx} {fd : FuncData} {f : Addr} {n : Nat} (U : Under c fd f c') (G : Good c (n + 1)) (hk : fd.scope.kind = .function) : Good c' n := by
 refine hide fun G9 hG9 => ?_
 obtain ⟨h1, h2, h3, h4, h5⟩ := G
 refine hG9 ?_
 have u1 := U.units
 have u2 := U.depth
 exact ⟨U.hand.trans h1, by lia, by lia, by rw [U.env]; exact hk, h5.keeps U.keep⟩
theorem CODE_fun {c : Cx} {st : St} {Φ : Value → St → Prop} {f : Addr} {fd : FuncData} {body : List Stmt} {args : List Value} {o : Obj} {zb : List (Str × Value)} {n : Nat} (hG : Good c n)
  (ho : c.h₀.get? f = some o) (hd : o.data = .func fd) (hcd : c.h₀.CodeRec fd.code fd.qualname) (hbody : fd.body = .stmts body)
  (hbind : ∀ s us, c.h₀.StaysIn s.heap → us.map z = args → ∃ binds, BindsTo s fd ⟨us, []⟩ binds ∧ zz binds = zb)
  (hcell : ∀ x ∈ fd.scope.names, x.2 ≠ .cell) (hloc : ∀ x ∈ zb, fd.scope.names.lookup x.1 = some .local)
  (hco : fd.scope.isCoroutine = false) (hgen : fd.scope.isGenerator = false) (hk : fd.scope.kind = .function)
  (h : ∀ c', Under c fd f c' → c'.A.units ≤ c.A.units + 3 ∧ c'.A.depth ≤ c.A.depth + 1 → XB c' body ⟨fun x => zb.reverse.lookup x, st.hp⟩ fun fl st' => Φ (retV fl) ⟨st.loc, st'.hp⟩) {us : List Value} (hus : us.map z = args) {s : Shared} (hs : Mod c st s) :
  codeAny (model PW c.w) c.A (.call (.ref f) ⟨us, []⟩) (fun r s' => match r with | .ok (.ret v) => ∃ st', Mod c st' s' ∧ Φ (z v) st' | .ok _ => False | .error _ => False) s := by
 refine hide fun G9 hG9 => ?_
 obtain ⟨m, F, hm⟩ := hs.fr
 have hst : c.h₀.StaysIn s.heap := fun b o e => F.keep b o e
 obtain ⟨binds, hb1, hb2⟩ := hbind s us hst hus
 refine hG9 ?_
 with_reducible refine codeAny_call_def (by have := hG.depth; lia) (F.keep _ _ ho) hd (hG.nolim.keeps F.keep) (hcd.keeps F.keep) hbody hb1 hcell ?_ ?_ hco hgen hk
 ·intro x hx
  refine hloc (x.1, z x.2) ?_
  rw [← hb2]
  exact List.mem_map.mpr ⟨x, hx, rfl⟩
 ·intro h₁ hns hk₁
  refine hide fun G9 hG9 => ?_
  obtain ⟨oL, es, ep, hL, hLd, hLk, hLf⟩ := F.ns
  refine hG9 ?_
  have hbase : ∀ b o, c.h₀.get? b = some o → ¬ (st.hp b ≠ none) := fun b o e q => by
   cases hq : st.hp b with
   | none => exact q hq
   | some ob => have := (hs.hp b ob hq).2.2; rw [e] at this; cases this
  have hLn : ¬ (st.hp c.env.locals ≠ none) := fun q => by
   cases hq : st.hp c.env.locals with
   | none => exact q hq
   | some ob => exact (hs.hp _ ob hq).2.1 rfl
  have hkeep : ∀ b o, c.h₀.get? b = some o → (hideP s.heap fun a => st.hp a ≠ none).get? b = some o := fun b o e => (hideP_get (hbase b o e)).trans (F.keep b o e)
  have of_hide : ∀ b o, (hideP s.heap fun a => st.hp a ≠ none).get? b = some o → s.heap.get? b = some o := fun b o e => by
   by_cases q : st.hp b ≠ none
   ·rw [hideP_none q] at e; cases e
   ·rw [hideP_get q] at e; exact e
  have hoff : (hideP s.heap fun a => st.hp a ≠ none).get? s.heap.objs.size = none := by
   cases q : (hideP s.heap fun a => st.hp a ≠ none).get? s.heap.objs.size with
   | none => rfl
   | some ob => exact absurd (Heap.lt_size (of_hide _ _ q)) (Nat.lt_irrefl _)
  have U : Under c fd f ⟨c.w, c.A.deeper (callEnv fd s.heap.objs.size f), hideP s.heap fun a => st.hp a ≠ none, callEnv fd s.heap.objs.size f, c.g, c.o⟩ :=
   ⟨rfl, rfl, by show c.A.units + 3 ≤ _; lia, by show c.A.depth + 1 ≤ _; lia, rfl, hkeep, rfl, rfl, hoff⟩
  have M : Mod ⟨c.w, c.A.deeper (callEnv fd s.heap.objs.size f), hideP s.heap fun a => st.hp a ≠ none, callEnv fd s.heap.objs.size f, c.g, c.o⟩
    ⟨fun x => zb.reverse.lookup x, st.hp⟩ { s with heap := h₁, toks := s.toks + binds.length } := by
   refine ⟨⟨_, ⟨hns, fun b o e => hk₁ b o (of_hide b o e)⟩, fun x => ?_⟩, fun a ob e => ?_, hs.g, hs.o⟩
   ·rw [← hb2]
    show Option.map z (binds.reverse.lookup x) = (zz binds).reverse.lookup x
    unfold zz
    rw [← List.map_reverse]
    generalize binds.reverse = l
    induction l with
    | nil => rfl
    | cons p r ih =>
     obtain ⟨k, v⟩ := p
     simp only [List.map_cons, List.lookup_cons]
     cases x == k with
     | true => rfl
     | false => exact ih
   ·obtain ⟨h1, h2, h3⟩ := hs.hp a ob e
    obtain ⟨oa, ha⟩ := holds_some h1
    exact ⟨holds_keep (fun ob' e' => hk₁ a ob' e') h1, Nat.ne_of_lt (Heap.lt_size ha), hideP_none (by rw [e]; simp)⟩
  refine wpAny_mono ((h _ U ⟨Nat.le_refl _, Nat.le_refl _⟩).run _ M) ?_ ?_
  ·rintro fl s' ⟨st', m', p⟩
   have back : Mod c ⟨st.loc, st'.hp⟩ s' := by
    obtain ⟨m1, F1, _⟩ := m'.fr
    have kL : ∀ o, s.heap.get? c.env.locals = some o → s'.heap.get? c.env.locals = some o := fun o e => F1.keep _ _ ((hideP_get hLn).trans e)
    refine ⟨⟨m, ⟨⟨oL, es, ep, kL _ hL, hLd, hLk, hLf⟩, fun b o e => F1.keep b o (hkeep b o e)⟩, hm⟩, fun a ob e => ?_, m'.g, m'.o⟩
    obtain ⟨h1, h2, h3⟩ := m'.hp a ob e
    refine ⟨h1, fun q => ?_, ?_⟩
    ·have : (hideP s.heap fun a => st.hp a ≠ none).get? a = some oL := by rw [q]; exact (hideP_get hLn).trans hL
     rw [h3] at this; cases this
    ·cases q : c.h₀.get? a with
     | none => rfl
     | some ob' => have := hkeep a ob' q; rw [h3] at this; cases this
   cases fl <;> exact ⟨_, back, p⟩
  ·intro e s' x; exact x.elim
theorem CALL_fun {c : Cx} {st : St} {Φ : Value → St → Prop} {f : Addr} {fd : FuncData} {body : List Stmt} {args : List Value} {o : Obj} {zb : List (Str × Value)} {n : Nat} (hG : Good c n)
  (ho : c.h₀.get? f = some o) (hd : o.data = .func fd) (hcd : c.h₀.CodeRec fd.code fd.qualname) (hbody : fd.body = .stmts body)
  (hbind : ∀ s us, c.h₀.StaysIn s.heap → us.map z = args → ∃ binds, BindsTo s fd ⟨us, []⟩ binds ∧ zz binds = zb)
  (hcell : ∀ x ∈ fd.scope.names, x.2 ≠ .cell) (hloc : ∀ x ∈ zb, fd.scope.names.lookup x.1 = some .local)
  (hco : fd.scope.isCoroutine = false) (hgen : fd.scope.isGenerator = false) (hk : fd.scope.kind = .function)
  (h : ∀ c', Under c fd f c' → XB c' body ⟨fun x => zb.reverse.lookup x, st.hp⟩ fun fl st' => Φ (retV fl) ⟨st.loc, st'.hp⟩) : CALL c (.ref f) args st Φ := by
 intro u us hu hus
 rw [z_ref hu]
 refine .of fun s hs => wpAny_call ?_
 exact CODE_fun hG ho hd hcd hbody hbind hcell hloc hco hgen hk (fun c' U _ => h c' U) hus hs
end Mine
end
section
open PySem PySem.W PyProof.Rows PySem.Calls
namespace Mine
section
variable {c : Cx} {st : St} {Φ : Value → St → Prop}
noncomputable def KEEPER (c : Cx) (f : Value) (st : St) : Prop :=
 ∀ u s, z u = f → Mod c st s → ∃ k, (k = Keeper.frame ∨ k = Keeper.machine ∨ k = Keeper.boundFrame) ∧ Looks (model PW c.w) s.heap (keeperOf u) k
theorem KEEPER_builtin {id : String} : KEEPER c (.builtin id) st := fun u s hu hs => by
 rw [z_builtin hu]
 exact ⟨.machine, .inr (.inl rfl), .of_pure rfl⟩
theorem KEEPER_type {id : String} : KEEPER c (.type id) st := fun u s hu hs => by
 rw [z_type hu]
 exact ⟨.machine, .inr (.inl rfl), .of_pure rfl⟩
theorem KEEPER_fun {f : Addr} {o : Obj} {fd : FuncData} (ho : c.h₀.get? f = some o) (hd : o.data = .func fd) : KEEPER c (.ref f) st := fun u s hu hs => by
 rw [z_ref hu]
 obtain ⟨m, F, _⟩ := hs.fr
 refine ⟨.frame, .inl rfl, fun A Q E s' k q => ?_⟩
 obtain ⟨cl, d, dt, sl⟩ := o
 cases hd
 exact wpAny_bind (wpAny_load (k _ _ (F.keep _ _ ho)) (wpAny_pure q))
theorem KEEPER_bm {a : Addr} {f self : Value} (h : st.hp a = some (.bm f self)) : KEEPER c (.ref a) st := fun u s hu hs => by
 rw [z_ref hu]
 have ho : s.heap.get? a = _ := (hs.hp _ _ h).1
 refine ⟨.machine, .inr (.inl rfl), fun A Q E s' k q => ?_⟩
 refine wpAny_bind (wpAny_load (k _ _ ho) ?_)
 exact wpAny_pure q
theorem callWith0 {pos : Pos} {u : Value} {first : List Value} (h1 : KEEPER c (z u) st) (h2 : CALL c (z u) (first.map z) st Φ) : WP c (callWith pos u first (backTo pos (starEach [] c.env)) []) st (fun v st' => Φ (z v) st') := .of fun s hs => by
 refine callWith_of (P := fun h => ∃ k, (k = Keeper.frame ∨ k = Keeper.machine ∨ k = Keeper.boundFrame) ∧ Looks (model PW c.w) h (keeperOf u) k) rfl (fun h x => x) (evalArgs_nil3 ⟨h1 u s rfl hs, ?_⟩)
 exact (h2 u (first ++ []) rfl (by rw [List.append_nil])).run s hs
theorem callWith1 {pos : Pos} {u : Value} {first : List Value} {e : Expr} {rest : List Expr} (he : starEach (e :: rest) c.env = (false, eval e c.env) :: starEach rest c.env) (hp : (backTo pos (starEach rest c.env)).any (·.1) = false)
  (h : ARGS c pos (e :: rest) st fun vs st2 => KEEPER c (z u) st2 ∧ CALL c (z u) (first.map z ++ vs) st2 Φ) : WP c (callWith pos u first (backTo pos (starEach (e :: rest) c.env)) []) st (fun v st' => Φ (z v) st') := .of fun s hs => by
 have h' := h.run s hs
 rw [he] at h' ⊢
 refine callWith_of (P := fun h => ∃ k, (k = Keeper.frame ∨ k = Keeper.machine ∨ k = Keeper.boundFrame) ∧ Looks (model PW c.w) h (keeperOf u) k) (by show ((false || (backTo pos (starEach rest c.env)).any (·.1)) || false) = false; rw [hp]; rfl) (fun h x => x) (evalArgs_plain ?_)
 refine wpAny_mono h' (fun vs s2 x => ?_) fun _ _ x => x
 obtain ⟨st2, m2, k1, k2⟩ := x
 exact ⟨k1 u s2 rfl m2, (k2 u (first ++ vs) rfl (by rw [List.map_append])).run s2 m2⟩
theorem EX_Call0 {func : Expr} {pos : Pos} (he : eval (.Call func [] [] pos) c.env = (do callWith pos (← eval func c.env) [] (backTo pos (starEach [] c.env)) (backToKw pos (keywordEach [] c.env))))
  (h : EX c func st fun f st1 => KEEPER c f st1 ∧ CALL c f [] st1 Φ) : EX c (.Call func [] [] pos) st Φ := .of fun s hs => by
 refine Call_ (WP.thru h hs fun f s1 st1 m1 h1 => ?_) he
 exact (callWith0 (first := []) h1.1 h1.2).run s1 m1
theorem EX_Call {func : Expr} {pos : Pos} {e : Expr} {rest : List Expr} (he : eval (.Call func (e :: rest) [] pos) c.env = (do callWith pos (← eval func c.env) [] (backTo pos (starEach (e :: rest) c.env)) (backToKw pos (keywordEach [] c.env))))
  (he' : starEach (e :: rest) c.env = (false, eval e c.env) :: starEach rest c.env) (hp : (backTo pos (starEach rest c.env)).any (·.1) = false)
  (h : EX c func st fun f st1 => ARGS c pos (e :: rest) st1 fun vs st2 => KEEPER c f st2 ∧ CALL c f vs st2 Φ) : EX c (.Call func (e :: rest) [] pos) st Φ := .of fun s hs => by
 refine Call_ (WP.thru h hs fun f s1 st1 m1 h1 => ?_) he
 exact (callWith1 (first := []) he' hp h1).run s1 m1
noncomputable def METH (c : Cx) (o : Value) (name : Str) (st : St) (Φ : Value → List Value → St → Prop) : Prop :=
 ∀ u pl, z u = o → WP c (getMethod u name pl) st fun p st' => Φ (z p.1) (p.2.map z) st'
theorem EX_Meth0 {o : Expr} {name : Str} {apos pos : Pos} {pl : Sem Bool} (he : eval (.Call (.Attribute o name apos) [] [] pos) c.env = (do
   let ov ← eval o c.env
   standAt apos.atName
   let (f, first) ← holding [ov] (getMethod ov name pl)
   callWith pos f first (backTo pos (starEach [] c.env)) []))
  (h : EX c o st fun ov st1 => METH c ov name st1 fun f first st2 => KEEPER c f st2 ∧ CALL c f first st2 Φ) : EX c (.Call (.Attribute o name apos) [] [] pos) st Φ := .of fun s hs => by
 refine MethodCall_ (pl := pl) (WP.thru h hs fun ov s1 st1 m1 h1 => WP.thru (h1 ov pl rfl) m1 fun p s2 st2 m2 h2 => ?_) he
 exact (callWith0 h2.1 h2.2).run s2 m2
theorem EX_Meth {o : Expr} {name : Str} {apos pos : Pos} {pl : Sem Bool} {e : Expr} {rest : List Expr} (he : eval (.Call (.Attribute o name apos) (e :: rest) [] pos) c.env = (do
   let ov ← eval o c.env
   standAt apos.atName
   let (f, first) ← holding [ov] (getMethod ov name pl)
   callWith pos f first (backTo pos (starEach (e :: rest) c.env)) []))
  (he' : starEach (e :: rest) c.env = (false, eval e c.env) :: starEach rest c.env) (hp : (backTo pos (starEach rest c.env)).any (·.1) = false)
  (h : EX c o st fun ov st1 => METH c ov name st1 fun f first st2 => ARGS c pos (e :: rest) st2 fun vs st3 => KEEPER c f st3 ∧ CALL c f (first ++ vs) st3 Φ) : EX c (.Call (.Attribute o name apos) (e :: rest) [] pos) st Φ := .of fun s hs => by
 refine MethodCall_ (pl := pl) (WP.thru h hs fun ov s1 st1 m1 h1 => WP.thru (h1 ov pl rfl) m1 fun p s2 st2 m2 h2 => ?_) he
 exact (callWith1 he' hp h2).run s2 m2
theorem EX_Attr {o : Expr} {attr : Str} {pos : Pos} (he : eval (.Attribute o attr pos) c.env = (do
   let o' ← eval o c.env
   standAt pos.atName
   let r ← holding [o'] (getAttr o' attr true)
   letTemporaryGo o o' r
   pure r))
  (h : EX c o st fun ov st1 => ∀ u, z u = ov → WP c (getAttr u attr true) st1 fun v st2 => Φ (z v) st2) : EX c (.Attribute o attr pos) st Φ := .of fun s hs => by
 refine Attribute_any_ (WP.thru h hs fun ov s1 st1 m1 h1 => ?_) he
 exact (h1 ov rfl).run s1 m1
theorem METH_list {a : Addr} {vs : List Value} {name : Str} {id : String} {Ψ : Value → List Value → St → Prop} (ha : st.hp a = some (.list vs)) (slot : Slot "list" name id) (ty : typeOf (.builtin id) = pure (.type "method_descriptor"))
  (h : Ψ (.builtin id) [.ref a] st) : METH c (.ref a) name st Ψ := by
 intro u pl hu
 rw [z_ref hu]
 refine .of fun s hs => ?_
 obtain ⟨xs, n, h1, _⟩ := (hs.hp a _ ha).1
 have hT : s.TypeIs (.ref a) "list" := ⟨_, h1, rfl⟩
 with_reducible refine getMethod_builtin hT F.plainAttrs_list slot ty (fun b hb => ?_) ?_
 ·cases hb; exact ⟨_, h1, rfl⟩
 ·exact ⟨st, hs, h⟩
theorem METH_str {x : Str} {name : Str} {id : String} {Ψ : Value → List Value → St → Prop} (slot : Slot "str" name id) (ty : typeOf (.builtin id) = pure (.type "method_descriptor"))
  (h : Ψ (.builtin id) [.str x 0] st) : METH c (.str x 0) name st Ψ := by
 intro u pl hu
 obtain ⟨t, rfl⟩ := z_str hu
 refine .of fun s hs => ?_
 with_reducible refine getMethod_builtin (typeIs_str _ _ _) F.plainAttrs_str slot ty (fun b hb => ?_) ?_
 ·cases hb
 ·exact ⟨st, hs, h⟩
theorem one {us : List Value} {a : Value} (h : us.map z = [a]) : ∃ u, us = [u] ∧ z u = a := by
 refine hide fun G9 hG9 => ?_
 obtain ⟨u1, us, rfl, h1, hus⟩ := List.map_eq_cons_iff.mp h
 refine hG9 ?_
 obtain rfl := List.map_eq_nil_iff.mp hus
 exact ⟨u1, rfl, h1⟩
theorem two {us : List Value} {a b : Value} (h : us.map z = [a, b]) : ∃ u v, us = [u, v] ∧ z u = a ∧ z v = b := by
 refine hide fun G9 hG9 => ?_
 obtain ⟨u1, us, rfl, h1, hus⟩ := List.map_eq_cons_iff.mp h
 obtain ⟨u2, rfl, h2⟩ := one hus
 refine hG9 ?_
 exact ⟨u1, u2, rfl, h1, h2⟩
theorem three {us : List Value} {a b d : Value} (h : us.map z = [a, b, d]) : ∃ u v w, us = [u, v, w] ∧ z u = a ∧ z v = b ∧ z w = d := by
 refine hide fun G9 hG9 => ?_
 obtain ⟨u1, us, rfl, h1, hus⟩ := List.map_eq_cons_iff.mp h
 obtain ⟨u2, u3, rfl, h2, h3⟩ := two hus
 refine hG9 ?_
 exact ⟨u1, u2, u3, rfl, h1, h2, h3⟩
theorem four {us : List Value} {a b d e : Value} (h : us.map z = [a, b, d, e]) : ∃ u v w x, us = [u, v, w, x] ∧ z u = a ∧ z v = b ∧ z w = d ∧ z x = e := by
 refine hide fun G9 hG9 => ?_
 obtain ⟨u1, us, rfl, h1, hus⟩ := List.map_eq_cons_iff.mp h
 obtain ⟨u2, u3, u4, rfl, h2, h3, h4⟩ := three hus
 refine hG9 ?_
 exact ⟨u1, u2, u3, u4, rfl, h1, h2, h3, h4⟩
theorem Mod.updList {s : Shared} {a : Addr} {vs ws : List Value} {f : Array Value → Array Value} {xs : List Value} {n : Nat} {tk : Nat} (hs : Mod c st s) (ha : st.hp a = some (.list vs))
  (k : s.heap.get? a = some ⟨.type "list", none, .seq xs.toArray n, #[]⟩) (hf : (f xs.toArray).toList.map z = ws) : Mod c (st.put a (.list ws)) { s with heap := s.heap.update a (Obj.mapSeq f), toks := tk } := by
 have e : (s.heap.update a (Obj.mapSeq f)).get? a = some ⟨.type "list", none, .seq (f xs.toArray).toList.toArray (if (f xs.toArray).size == xs.toArray.size then n else n + 1), #[]⟩ := by
  rw [Array.toArray_toList]
  exact IsL.update k f
 exact hs.upd (o' := .list ws) ha (Heap.SameBut.update _ _ _) ⟨_, _, e, hf⟩
theorem Mod.list {s : Shared} {a : Addr} {vs : List Value} (hs : Mod c st s) (ha : st.hp a = some (.list vs)) :
  ∃ (xs : List Value) (n : Nat), s.heap.get? a = some ⟨.type "list", none, .seq xs.toArray n, #[]⟩ ∧ xs.map z = vs := (hs.hp a _ ha).1
theorem typeIs_of {s : Shared} {a : Addr} {T : String} {d : Option Addr} {dt : Data} {sl : Array (Option Value)} (h : s.heap.get? a = some ⟨.type T, d, dt, sl⟩) : s.TypeIs (.ref a) T := ⟨_, h, rfl⟩
theorem CALL_append {a : Addr} {vs : List Value} {v : Value} (ha : st.hp a = some (.list vs)) (hsz : vs.length ≤ sizeLine) (h : Φ .none (st.put a (.list (vs ++ [v])))) : CALL c (.builtin "list.append") [.ref a, v] st Φ := by
 intro u us hu hus
 rw [z_builtin hu]
 refine hide fun G9 hG9 => ?_
 obtain ⟨u1, u2, rfl, h1, h2⟩ := two hus
 refine hG9 ?_
 rw [z_ref h1]
 refine .of fun s hs => ?_
 obtain ⟨xs, n, k1, k2⟩ := hs.list ha
 have hsz' : xs.toArray.size ≤ sizeLine := by rw [← k2, List.length_map] at hsz; simpa using hsz
 with_reducible refine call_meets F.slot_list_append (typeIs_of k1) F.entry_list_append (F.args_list_append_2 _ _) (list_append a xs.toArray n u2 hsz') ⟨k1, ?_⟩
 exact ⟨_, hs.updList ha k1 (by simp [← k2, h2]), h⟩
theorem CALL_pop {a : Addr} {vs : List Value} {v : Value} (ha : st.hp a = some (.list (vs ++ [v]))) (hsz : vs.length + 1 ≤ sizeLine) (h : Φ v (st.put a (.list vs))) : CALL c (.builtin "list.pop") [.ref a] st Φ := by
 intro u us hu hus
 rw [z_builtin hu]
 obtain ⟨u1, rfl, h1⟩ := one hus
 rw [z_ref h1]
 refine .of fun s hs => ?_
 obtain ⟨xs, n, k1, k2⟩ := hs.list ha
 obtain ⟨ys, y, rfl, e1, e2⟩ : ∃ ys y, xs = ys ++ [y] ∧ ys.map z = vs ∧ z y = v := by
  refine hide fun G9 hG9 => ?_
  obtain ⟨ys, zs, rfl, e1, e2⟩ := List.map_eq_append_iff.mp k2
  obtain ⟨y, rfl, e3⟩ := one e2
  refine hG9 ?_
  exact ⟨ys, y, rfl, e1, e3⟩
 have hl : ys.length = vs.length := by rw [← e1, List.length_map]
 have hsz' : (ys ++ [y]).toArray.size ≤ sizeLine := by simp [hl, hsz]
 have hy : (ys ++ [y]).toArray[(ys ++ [y]).toArray.size - 1]? = some y := by simp
 with_reducible refine call_meets F.slot_list_pop (typeIs_of k1) F.entry_list_pop (F.args_list_pop_1 _) (MeetsSeq.list_pop_last a _ n y hy hsz') ⟨k1, ?_⟩
 refine ⟨_, hs.updList (ws := vs) ha k1 ?_, ?_⟩
 ·have e3 : (ys ++ [y]).eraseIdx ys.length = ys := by rw [List.eraseIdx_append_of_length_le (Nat.le_refl _)]; simp
  simp [Array.eraseIdxIfInBounds, e3, e1]
 ·rw [e2]; exact h
theorem CALL_lenL {a : Addr} {vs : List Value} (ha : st.hp a = some (.list vs)) (hsz : vs.length < 2 ^ 62) (h : Φ (.int vs.length 0) st) : CALL c (.builtin "len") [.ref a] st Φ := by
 intro u us hu hus
 rw [z_builtin hu]
 obtain ⟨u1, rfl, h1⟩ := one hus
 rw [z_ref h1]
 refine .of fun s hs => ?_
 obtain ⟨xs, n, k1, k2⟩ := hs.list ha
 have hl : xs.length = vs.length := by rw [← k2, List.length_map]
 have hfit : (xs.toArray.size : Int) < 2 ^ 63 := by simp [hl]; lia
 have hL : s.heap.IsList a xs.toArray := ⟨_, k1, rfl, n, rfl⟩
 with_reducible refine PyProof.Rows.len_list hL hfit ?_
 refine ⟨st, hs.toks, ?_⟩
 show Φ (.int (xs.toArray.size : Nat) 0) st
 rw [List.size_toArray, hl]; exact h
theorem CALL_lenS {x : Str} (hsz : x.length < 2 ^ 62) (h : Φ (.int x.length 0) st) : CALL c (.builtin "len") [.str x 0] st Φ := by
 intro u us hu hus
 rw [z_builtin hu]
 obtain ⟨u1, rfl, h1⟩ := one hus
 obtain ⟨t, rfl⟩ := z_str h1
 refine .of fun s hs => ?_
 have hfit : ¬ (x.length : Int) ≥ 2 ^ 63 := by lia
 with_reducible refine PyProof.Rows.len_str hfit ?_
 exact ⟨st, hs.toks, h⟩
end
end Mine
end
section
open PySem PySem.W PyProof.Rows PySem.Calls
namespace Mine
section
variable {c : Cx} {st : St} {Φ : Value → St → Prop} {K : Frag}
theorem lookIn_of_ns {h : Heap} {a : Addr} {m : Str → Option Value} {o : Obj} {name : Str} (x : h.Ns1 a m) (ho : h.get? a = some o) : lookIn name o = some (m name) := by
 refine hide fun G9 hG9 => ?_
 obtain ⟨o', es, ep, h1, h2, h3, _, h5⟩ := x
 refine hG9 ?_
 rw [ho] at h1
 cases h1
 unfold lookIn
 rw [h2]
 dsimp only
 have e := h5 name
 unfold nsFind findBy at e
 rw [← Array.find?_toList] at e
 split
 ·rename_i en he
  rw [he] at e
  rw [← e]; rfl
 ·rename_i he
  rw [he] at e
  rw [if_neg]
  ·rw [← e]; rfl
  ·intro q
   refine hide fun G9 hG9 => ?_
   obtain ⟨en, hm, hr⟩ := List.any_eq_true.mp q
   obtain ⟨n, t, hk⟩ := h3 en (Array.mem_toList_iff.mp hm)
   refine hG9 ?_
   unfold DictEntry.refKey at hr
   rw [hk] at hr
   cases hr
structure Inst (c : Cx) (st : St) (s : Shared) (x C dx : Addr) (f : Str → Option Value) (m : Str → Option Value) (ox od : Obj) : Prop where
 at_ : InstAt s.heap x ox C (some od)
 od : s.heap.get? dx = some od
 dict : ox.dict = some dx
 ns : s.heap.Ns1 dx m
 eq : ∀ y, (m y).map z = f y
theorem Mod.inst {s : Shared} {x C dx : Addr} {f : Str → Option Value} (hs : Mod c st s) (hx : st.hp x = some (.inst C dx)) (hd : st.hp dx = some (.attrs f)) : ∃ m ox od, Inst c st s x C dx f m ox od := by
 refine hide fun G9 hG9 => ?_
 obtain ⟨sl, h1⟩ := (hs.hp _ _ hx).1
 obtain ⟨m, h2, h3⟩ := (hs.hp _ _ hd).1
 have h2' := h2
 obtain ⟨o, es, ep, h4, _⟩ := h2'
 refine hG9 ?_
 exact ⟨m, _, o, ⟨h1, rfl, rfl, h4⟩, h4, rfl, h2, h3⟩
theorem GETA {x C dx : Addr} {f : Str → Option Value} {name : Str} {v : Value} {cd : ClassData} (X : K.In c.h₀) (hx : st.hp x = some (.inst C dx)) (hd : st.hp dx = some (.attrs f)) (hf : f name = some v)
  (hga : findIn K (.ref C) "__getattribute__" = some (some (.builtin "object.__getattribute__"))) (hcd : clsIn K C = some cd) (hh : cd.hasDict = true) (hn : findIn K (.ref C) name = some none) (hv : handedIn v = true)
  (h : Φ v st) : ∀ u, z u = .ref x → WP c (getAttr u name true) st fun r st' => Φ (z r) st' := by
 intro u hu
 rw [z_ref hu]
 refine .of fun s hs => ?_
 refine hide fun G9 hG9 => ?_
 obtain ⟨m, ox, od, I⟩ := hs.inst hx hd
 obtain ⟨m0, F, _⟩ := hs.fr
 refine hG9 ?_
 have e := I.eq name
 rw [hf] at e
 obtain ⟨w, e1, e2⟩ := Option.map_eq_some_iff.mp e
 have hfo : findObj K C (some od) name = some (.value w) := by
  unfold findObj
  rw [hcd, hn]
  dsimp only [Option.bind_some]
  unfold PySem.W.ownOf
  rw [if_pos hh]
  dsimp only
  rw [lookIn_of_ns I.ns I.od, e1]
  rfl
 have hw : handedIn w = true := by
  rw [← e2] at hv
  cases w <;> first | rfl | exact hv
 with_reducible refine get_value (X.keeps F.keep) I.at_ hga hfo hw ?_
 exact ⟨st, hs.toks, by show Φ (z w) st; rw [e2]; exact h⟩
theorem METH_inst {x C dx : Addr} {f : Str → Option Value} {name : Str} {g : Addr} {Ψ : Value → List Value → St → Prop} (X : K.In c.h₀) (hx : st.hp x = some (.inst C dx)) (hd : st.hp dx = some (.attrs f)) (hf : f name = none)
  (hga : findIn K (.ref C) "__getattribute__" = some (some (.builtin "object.__getattribute__"))) (hk : findIn K (.ref C) "__getattr__" = some none) (hn : findIn K (.ref C) name = some (some (.ref g))) (ht : typeIn K (.ref g) = some (.type "function"))
  (h : Ψ (.ref g) [.ref x] st) : METH c (.ref x) name st Ψ := by
 intro u pl hu
 rw [z_ref hu]
 refine .of fun s hs => ?_
 refine hide fun G9 hG9 => ?_
 obtain ⟨m, ox, od, I⟩ := hs.inst hx hd
 obtain ⟨m0, F, _⟩ := hs.fr
 refine hG9 ?_
 have e := I.eq name
 rw [hf] at e
 have e1 : m name = none := Option.map_eq_none_iff.mp e
 have hsh : shadowIn (some od) name = some false := by
  unfold shadowIn
  dsimp only
  rw [lookIn_of_ns I.ns I.od, e1]
  rfl
 with_reducible refine method_fn (X.keeps F.keep) I.at_ hga hk hn ht hsh ?_
 exact ⟨st, hs, h⟩
noncomputable def keyName (e : DictEntry) : Str := match e.key with | .str n _ => n | _ => default
theorem nodup_len {l m : List Str} (h : l.Nodup) (hs : ∀ x ∈ l, x ∈ m) : l.length ≤ m.length := by
 induction l generalizing m with
 | nil => exact Nat.zero_le _
 | cons a r ih =>
  obtain ⟨h1, h2⟩ := List.nodup_cons.mp h
  have ha : a ∈ m := hs a (.head _)
  have := ih (m := m.erase a) h2 fun x hx => by
   have hne : x ≠ a := fun q => h1 (q ▸ hx)
   exact (List.mem_erase_of_ne hne).mpr (hs x (.tail _ hx))
  rw [List.length_erase_of_mem ha] at this
  have hp : 0 < m.length := List.length_pos_of_mem ha
  simp only [List.length_cons]
  lia
theorem SETA {x C dx : Addr} {f : Str → Option Value} {name : Str} {v : Value} {cd : ClassData} {nms : List Str} {Ψ : St → Prop} (X : K.In c.h₀) (hx : st.hp x = some (.inst C dx)) (hd : st.hp dx = some (.attrs f))
  (hsa : findIn K (.ref C) "__setattr__" = some (some (.builtin "object.__setattr__"))) (hp : plainOver K C = true) (ht : takerIn K C name = some none) (hcd : clsIn K C = some cd) (hh : cd.hasDict = true)
  (hsup : ∀ y, (if y = name then some v else f y) ≠ none → y ∈ nms) (hlen : nms.length ≤ 1000)
  (h : Ψ (st.put dx (.attrs fun y => if y = name then some v else f y))) : ∀ u w, z u = .ref x → z w = v → WP c (setAttr u name w) st fun _ st' => Ψ st' := by
 intro u w hu hw
 rw [z_ref hu]
 refine .of fun s hs => ?_
 refine hide fun G9 hG9 => ?_
 obtain ⟨m, ox, od, I⟩ := hs.inst hx hd
 obtain ⟨m0, F, _⟩ := hs.fr
 refine hG9 ?_
 have X' := X.keeps F.keep
 with_reducible refine set_plain X' I.at_ hsa ?_
 have I' : InstAt ({ s with toks := s.toks + 1 } : Shared).heap x ox C (some od) := I.at_
 with_reducible refine osa_open (s := { s with toks := s.toks + 1 }) X' I' hp ht ?_
 intro b
 refine hide fun G9 hG9 => ?_
 obtain ⟨⟨hx1, hcl, hno, hdd⟩, hod, hdi, hns, heq⟩ := I
 obtain ⟨oc, odi, oda, osl⟩ := ox
 refine hG9 ?_
 dsimp only at hcl hdi
 subst hcl hdi
 refine wpAny_bind (wpAny_pure (wpAny_bind (wpAny_bind (wpAny_loadPart hx1 (wpAny_bind (looks_clsIn X' hcd _ _ _ _ (fun _ _ e => e) ?_))))))
 rw [hh]
 refine wpAny_pure (a := some dx) (wpAny_bind (wpAny_pure (wpAny_bind ?_)))
 refine wpAny_nsSet1 (s := { s with toks := s.toks + 1 }) hns fun h' hn' sb => ?_
 have hn2 := hn'
 refine hide fun G9 hG9 => ?_
 obtain ⟨o2, es2, ep2, k1, k2, k3, k4, k5⟩ := hn2
 refine hG9 ?_
 have hsz : es2.size ≤ nms.length := by
  have hkey : ∀ e ∈ es2.toList, keyName e ∈ nms ∧ e.key.isStr (keyName e) = true := fun e he => by
   obtain ⟨n, t, hk⟩ := k3 e (Array.mem_toList_iff.mp he)
   have en : keyName e = n := by unfold keyName; rw [hk]
   have es' : e.key.isStr n = true := by rw [hk]; show (n == n) = true; exact beq_self_eq_true n
   rw [en]
   refine ⟨hsup n ?_, es'⟩
   intro q
   have e5 : nsFind es2 n = if n = name then some w else m n := k5 n
   have e6 : Option.map z (if n = name then some w else m n) = if n = name then some v else f n := by
    by_cases q' : n = name
    ·simp [q', hw]
    ·simp [q', heq n]
   rw [q] at e6
   rw [Option.map_eq_none_iff.mp e6] at e5
   unfold nsFind findBy at e5
   rw [← Array.find?_toList] at e5
   have e7 := List.find?_eq_none.mp (Option.map_eq_none_iff.mp e5) e he
   exact e7 es'
  have hnd : (es2.toList.map keyName).Nodup := by
   rw [List.Nodup, List.pairwise_map]
   refine k4.imp_of_mem fun {a b} ha hb hab q => ?_
   exact hab (keyName a) (hkey a ha).2 (q ▸ (hkey b hb).2)
  have := nodup_len hnd (fun x hx => by
   obtain ⟨e, he, rfl⟩ := List.mem_map.mp hx
   exact (hkey e he).1)
  simpa using this
 have hpl : o2.data.pastItsLine = none := by rw [k2]; exact pastItsLine_dict (by rw [sizeLine_eq]; lia)
 refine wpAny_bind (wpAny_lookBehind k1 hpl ?_)
 ·refine wpAny_pure ?_
  refine ⟨_, hs.upd (o' := .attrs fun y => if y = name then some v else f y) hd sb ⟨_, hn', fun y => ?_⟩, h⟩
  by_cases q : y = name
  ·simp [q, hw]
  ·simp [q, heq y]
end
end Mine
end
section
open PySem PySem.W PyProof.Rows PySem.Calls
namespace Mine
section
variable {c : Cx} {st : St} {Φ : Value → St → Prop} {Ψ : AF → St → Prop}
structure Ext (c c' : Cx) : Prop where
 w : c'.w = c.w
 A : c'.A = c.A
 env : c'.env = c.env
 g : c'.g = c.g
 o : c'.o = c.o
 keep : ∀ b o, c.h₀.get? b = some o → c'.h₀.get? b = some o
 off : c.h₀.get? c.env.locals = none → c'.h₀.get? c'.env.locals = none
theorem Ext.refl (c : Cx) : Ext c c := ⟨rfl, rfl, rfl, rfl, rfl, fun _ _ e => e, fun e => e⟩
theorem Ext.trans {a b d : Cx} (x : Ext a b) (y : Ext b d) : Ext a d := ⟨y.w.trans x.w, y.A.trans x.A, y.env.trans x.env, y.g.trans x.g, y.o.trans x.o, fun p q e => y.keep p q (x.keep p q e), fun e => y.off (x.off e)⟩
theorem Mod.unext {c' : Cx} {s : Shared} (x : Ext c c') (hs : Mod c' st s) : Mod c st s := by
 refine hide fun G9 hG9 => ?_
 obtain ⟨w, A, h₀, env, g, o⟩ := c
 obtain ⟨w', A', h₀', env', g', o'⟩ := c'
 obtain ⟨rfl, rfl, rfl, rfl, rfl, k, _⟩ := x
 refine hG9 ?_
 dsimp only at k
 refine hide fun G9 hG9 => ?_
 obtain ⟨⟨m, F, hm⟩, hp, hg, ho⟩ := hs
 refine hG9 ?_
 refine ⟨⟨m, ⟨F.ns, fun b o e => F.keep b o (k b o e)⟩, hm⟩, fun a o e => ?_, hg, ho⟩
 ·obtain ⟨h1, h2, h3⟩ := hp a o e
  refine ⟨h1, h2, ?_⟩
  cases q : h₀.get? a with
  | none => rfl
  | some ob => have := k _ _ q; rw [h3] at this; cases this
noncomputable def ASG (c : Cx) (t : Expr) (v : Value) (st : St) (Ψ : St → Prop) : Prop := ∀ u, z u = v → WP c (assign t c.env u) st fun _ st' => Ψ st'
theorem ASG_Name {x : Str} {p : Pos} {v : Value} {Ψ : St → Prop} (hk : c.env.scope.kind = .function) (hl : c.env.kindOf x = some .local) (ho : c.h₀.get? c.env.locals = none) (h : Ψ (st.set x v)) : ASG c (.Name x p) v st Ψ := by
 intro u hu
 refine .of fun s hs => ?_
 have := (WP_store (c := c) (st := st) (x := x) (v := u) (Q := fun _ st' => Ψ st') hk hl ho (by rw [hu]; exact h)).run s hs
 with_reducible refine wpAny_assign_Name ?_
 exact this
theorem XS_AssignAttr {o value : Expr} {attr : Str} {p pos : Pos} (hsw : swapsWith value (some (.Attribute o attr p)) pos.line c.env = pure false)
  (h : EX c value st fun v st1 => EX c o st1 fun ov st2 => ∀ u w, z u = ov → z w = v → WP c (setAttr u attr w) st2 fun _ st3 => Ψ .next st3) : XS c (.Assign [.Attribute o attr p] value pos) st Ψ := .of fun s hs => by
 refine plainObj_wpAny_Assign_Attribute (WP.thru h hs fun v s1 st1 m1 h1 => WP.thru h1 m1 fun ov s2 st2 m2 h2 => WP.thru (h2 ov v rfl rfl) m2 fun _ s3 st3 m3 h3 => ?_) hsw
 exact ⟨st3, m3, h3⟩
theorem XS_Assign2 {t₁ t₂ value : Expr} {pos : Pos} (he : (assignEach [t₁, t₂] c.env).map (·.2) = [assign t₁ c.env, assign t₂ c.env]) (hw : swappedStores [t₁, t₂] value c.env = pure none)
  (h : EX c value st fun v st1 => ASG c t₁ v st1 fun st2 => ASG c t₂ v st2 fun st3 => Ψ .next st3) : XS c (.Assign [t₁, t₂] value pos) st Ψ := .of fun s hs => by
 refine wpAny_Assign_two (WP.thru h hs fun v s1 st1 m1 h1 => WP.thru (h1 v rfl) m1 fun _ s2 st2 m2 h2 => WP.thru (h2 v rfl) m2 fun _ s3 st3 m3 h3 => ?_) he hw
 exact ⟨st3, m3, h3⟩
theorem XS_Assign3 {t₁ t₂ t₃ value : Expr} {pos : Pos} (he : (assignEach [t₁, t₂, t₃] c.env).map (·.2) = [assign t₁ c.env, assign t₂ c.env, assign t₃ c.env]) (hw : swappedStores [t₁, t₂, t₃] value c.env = pure none)
  (h : EX c value st fun v st1 => ASG c t₁ v st1 fun st2 => ASG c t₂ v st2 fun st3 => ASG c t₃ v st3 fun st4 => Ψ .next st4) : XS c (.Assign [t₁, t₂, t₃] value pos) st Ψ := .of fun s hs => by
 refine wpAny_Assign_three (WP.thru h hs fun v s1 st1 m1 h1 => WP.thru (h1 v rfl) m1 fun _ s2 st2 m2 h2 => WP.thru (h2 v rfl) m2 fun _ s3 st3 m3 h3 => WP.thru (h3 v rfl) m3 fun _ s4 st4 m4 h4 => ?_) he hw
 exact ⟨st4, m4, h4⟩
noncomputable def St.sets (st : St) : List (Str × Value) → St
 | [] => st
 | (x, v) :: r => (st.set x v).sets r
theorem WP_inOrder {names : List Str} (hk : c.env.scope.kind = .function) (hl : ∀ x ∈ names, c.env.kindOf x = some .local) (ho : c.h₀.get? c.env.locals = none) : ∀ {us : List Value} {st : St} {Q : St → Prop}, us.length = names.length → Q (st.sets (names.zip (us.map z))) →
  WP c (assignInOrder (names.map fun n => bindName c.env n) us) st fun _ st' => Q st' := by
 induction names with
 | nil =>
  intro us st Q hlen h
  obtain rfl := List.eq_nil_of_length_eq_zero hlen
  exact .of fun s hs => wpAny_assignInOrder_none ⟨st, hs, h⟩
 | cons x r ih =>
  intro us st Q hlen h
  cases us with
  | nil => cases hlen
  | cons u us =>
   refine .of fun s hs => wpAny_assignInOrder_more ?_
   refine wpAny_bindName (WP.thru (WP_store (Q := fun _ st' => st' = st.set x (z u)) hk (hl x (.head _)) ho rfl) hs fun _ s1 st1 m1 h1 => ?_)
   subst h1
   exact (ih (fun y hy => hl y (.tail _ hy)) (Nat.succ.inj hlen) h).run s1 m1
theorem WP_inOrderT {names : List Str} {elts : List Expr} (hk : c.env.scope.kind = .function) (hl : ∀ x ∈ names, c.env.kindOf x = some .local) (he : (assignEach elts c.env).map (·.2) = names.map fun n => fun v => (do standAt (default : Pos); bindName c.env n v)) : True := trivial
theorem WP_unpackTup {a : Addr} {vs : List Value} {n : Nat} {Q : List Value → St → Prop} (hh : c.A.handled = none) (ha : st.hp a = some (.tup vs)) (hn : n = vs.length) (h : ∀ us, us.map z = vs → Q us st) : WP c (unpackItems (.ref a) n none) st Q := by
 refine .of fun s hs => ?_
 obtain ⟨xs, k, h1, h2⟩ := (hs.hp a _ ha).1
 have ht : s.heap.IsTuple a xs.toArray := ⟨_, h1, rfl, k, rfl⟩
 have hn' : n = xs.toArray.size := by rw [hn, ← h2]; simp
 rw [hn']
 refine wpAny_unpackItems_tuple hh ht fun h' he => ?_
 exact ⟨st, hs.keep fun b o e => he b o (Nat.ne_of_lt (Heap.lt_size e)) e, h _ (by simpa using h2)⟩
theorem XS_AssignTup {elts : List Expr} {k : Nat} {tpos pos : Pos} {value : Expr} {names : List Str} (hk : c.env.scope.kind = .function) (hh : c.A.handled = none) (hl : ∀ x ∈ names, c.env.kindOf x = some .local) (ho : c.h₀.get? c.env.locals = none)
  (hsw : swapsWithSole [.Tuple elts k tpos] value pos.line c.env = pure false) (hw : swappedStores [.Tuple elts k tpos] value c.env = pure (some names))
  (h : EX c value st fun v st1 => ∃ a vs, v = .ref a ∧ st1.hp a = some (.tup vs) ∧ names.length = vs.length ∧ Ψ .next (st1.sets (names.reverse.zip vs.reverse))) : XS c (.Assign [.Tuple elts k tpos] value pos) st Ψ := .of fun s hs => by
 refine Assign_Tuple_swapped (WP.thru h hs fun v s1 st1 m1 h1 => ?_) hsw hw
 refine hide fun G9 hG9 => ?_
 obtain ⟨a, vs, hv, ha, hn, hΨ⟩ := h1
 refine hG9 ?_
 rw [z_ref hv]
 refine WP.thru (WP_unpackTup (Q := fun us st' => us.map z = vs ∧ st' = st1) hh ha hn fun us hus => ⟨hus, rfl⟩) m1 fun us s2 st2 m2 h2 => ?_
 obtain ⟨h2, rfl⟩ := h2
 have hlen : us.reverse.length = names.reverse.length := by rw [List.length_reverse, List.length_reverse, hn, ← h2, List.length_map]
 refine WP.thru (WP_inOrder (names := names.reverse) (Q := fun st' => Ψ .next st') hk (fun x hx => hl x (List.mem_reverse.mp hx)) ho hlen ?_) m2 fun _ s3 st3 m3 h3 => ⟨st3, m3, h3⟩
 rw [List.map_reverse, h2]
 exact hΨ
end
end Mine
end
section
open PySem PySem.W PyProof.Rows PySem.Calls
namespace Mine
section
variable {c : Cx} {st : St} {Φ : Value → St → Prop} {Ψ : AF → St → Prop}
theorem Mod.sub {st' : St} {s : Shared} (hs : Mod c st s) (hl : st'.loc = st.loc) (h : ∀ b o, st'.hp b = some o → st.hp b = some o) : Mod c st' s :=
 ⟨by rw [hl]; exact hs.fr, fun a o e => hs.hp a o (h a o e), hs.g, hs.o⟩
theorem St.sets_hp : ∀ (l : List (Str × Value)) (st : St), (st.sets l).hp = st.hp
 | [], _ => rfl
 | (x, v) :: r, st => by rw [St.sets, St.sets_hp r]; rfl
theorem St.sets_loc : ∀ (l : List (Str × Value)) (st st' : St), st.loc = st'.loc → (st.sets l).loc = (st'.sets l).loc
 | [], _, _, h => h
 | (x, v) :: r, st, st', h => by
  rw [St.sets, St.sets]
  exact St.sets_loc r _ _ (by unfold St.set; simp only [h])
theorem XS_AssignDisp {elts es : List Expr} {k k' : Nat} {tpos pos p' : Pos} {names : List Str} (hk : c.env.scope.kind = .function) (hh : c.A.handled = none) (hl : ∀ x ∈ names, c.env.kindOf x = some .local) (ho : c.h₀.get? c.env.locals = none)
  (hsw : swapsWithSole [.Tuple elts k tpos] (.Tuple es k' p') pos.line c.env = pure false) (hw : swappedStores [.Tuple elts k tpos] (.Tuple es k' p') c.env = pure (some names)) (hz : es.length ≤ 1000)
  (h : ARGS c p' es st fun vs st1 => vs.length ≤ sizeLine ∧ names.length = vs.length ∧ Ψ .next (st1.sets (names.reverse.zip vs.reverse))) : XS c (.Assign [.Tuple elts k tpos] (.Tuple es k' p') pos) st Ψ := by
 have key : XS c (.Assign [.Tuple elts k tpos] (.Tuple es k' p') pos) st fun f st' => ∃ st1, f = .next ∧ Ψ .next st1 ∧ st1.loc = st'.loc ∧ ∀ b o, st1.hp b = some o → st'.hp b = some o := by
  refine XS_AssignTup hk hh hl ho hsw hw (EX_Tuple hz (h.mono ?_))
  rintro vs st1 ⟨h1, h2, h3⟩
  refine ⟨h1, fun a ha => ⟨a, _, rfl, St.put_self, h2, _, rfl, h3, ?_, fun b o e => ?_⟩⟩
  ·exact St.sets_loc _ _ _ rfl
  ·rw [St.sets_hp] at e ⊢
   have : b ≠ a := fun q => by rw [q, ha] at e; cases e
   rw [St.put_ne this]; exact e
 refine .of fun s hs => wpAny_mono (key.run s hs) ?_ fun _ _ e => e
 intro f s' hX9
 refine hide fun G9 hG9 => ?_
 obtain ⟨st', m', st1, hf, h1, h2, h3⟩ := hX9
 refine hG9 ?_
 exact ⟨st1, m'.sub h2 h3, hf ▸ h1⟩
theorem ASG_Tuple2 {t1 t2 : Expr} {k : Nat} {p : Pos} {a : Addr} {v1 v2 : Value} {Q : St → Prop} (hh : c.A.handled = none) (he : (assignEach [t1, t2] c.env).map (·.2) = [assign t1 c.env, assign t2 c.env]) (hlen : (assignEach [t1, t2] c.env).length = 2) (hstar : (assignEach [t1, t2] c.env).findIdx? (·.1) = none)
  (ha : st.hp a = some (.tup [v1, v2]) ∨ (∃ xs, c.h₀.IsTuple a xs ∧ xs.toList.map z = [v1, v2]))
  (h : ASG c t1 v1 st fun st1 => ASG c t2 v2 st1 Q) : ASG c (.Tuple [t1, t2] k p) (.ref a) st Q := by
 intro u hu
 rw [z_ref hu]
 refine .of fun s hs => ?_
 obtain ⟨items, ht, hi⟩ : ∃ items : Array Value, s.heap.IsTuple a items ∧ items.toList.map z = [v1, v2] := by
  rcases ha with ha | ⟨xs, h1, h2⟩
  ·obtain ⟨xs, n, h1, h2⟩ := (hs.hp a _ ha).1
   exact ⟨xs.toArray, ⟨_, h1, rfl, n, rfl⟩, by simpa using h2⟩
  ·refine hide fun G9 hG9 => ?_
   obtain ⟨m, F, _⟩ := hs.fr
   obtain ⟨o, k1, k2⟩ := h1
   refine hG9 ?_
   exact ⟨xs, ⟨o, F.keep _ _ k1, k2⟩, h2⟩
 refine hide fun G9 hG9 => ?_
 obtain ⟨u1, u2, e1, e2, e3⟩ := two hi
 refine hG9 ?_
 have hsz : items.size = 2 := by rw [← Array.length_toList, e1]; rfl
 refine wpAny_assign_Tuple hh ht (by rw [hlen, hsz]) hstar fun h' hk => ?_
 rw [he, e1]
 have m1 : Mod c st { s with heap := h' } := hs.keep fun b o e => hk b o (Nat.ne_of_lt (Heap.lt_size e)) e
 refine wpAny_assignInOrder_more (WP.thru (h u1 e2) m1 fun _ s2 st2 m2 h2 => wpAny_assignInOrder_more (WP.thru (h2 u2 e3) m2 fun _ s3 st3 m3 h3 => wpAny_assignInOrder_none ⟨st3, m3, h3⟩))
theorem ASG_Tuple3 {t1 t2 t3 : Expr} {k : Nat} {p : Pos} {a : Addr} {v1 v2 v3 : Value} {Q : St → Prop} (hh : c.A.handled = none) (he : (assignEach [t1, t2, t3] c.env).map (·.2) = [assign t1 c.env, assign t2 c.env, assign t3 c.env]) (hlen : (assignEach [t1, t2, t3] c.env).length = 3) (hstar : (assignEach [t1, t2, t3] c.env).findIdx? (·.1) = none)
  (ha : st.hp a = some (.tup [v1, v2, v3])) (h : ASG c t1 v1 st fun st1 => ASG c t2 v2 st1 fun st2 => ASG c t3 v3 st2 Q) : ASG c (.Tuple [t1, t2, t3] k p) (.ref a) st Q := by
 intro u hu
 rw [z_ref hu]
 refine .of fun s hs => ?_
 refine hide fun G9 hG9 => ?_
 obtain ⟨xs, n, h1, h2⟩ := (hs.hp a _ ha).1
 obtain ⟨u1, u2, u3, e1, e2, e3, e4⟩ := three h2
 refine hG9 ?_
 subst e1
 refine wpAny_assign_Tuple (items := #[u1, u2, u3]) hh ⟨_, h1, rfl, n, rfl⟩ hlen hstar fun h' hk => ?_
 rw [he]
 have m1 : Mod c st { s with heap := h' } := hs.keep fun b o e => hk b o (Nat.ne_of_lt (Heap.lt_size e)) e
 exact wpAny_assignInOrder_more (WP.thru (h u1 e2) m1 fun _ s2 st2 m2 h2 => wpAny_assignInOrder_more (WP.thru (h2 u2 e3) m2 fun _ s3 st3 m3 h3 => wpAny_assignInOrder_more (WP.thru (h3 u3 e4) m3 fun _ s4 st4 m4 h4 => wpAny_assignInOrder_none ⟨st4, m4, h4⟩)))
theorem ASG_Tuple4 {t1 t2 t3 t4 : Expr} {k : Nat} {p : Pos} {a : Addr} {v1 v2 v3 v4 : Value} {Q : St → Prop} (hh : c.A.handled = none) (he : (assignEach [t1, t2, t3, t4] c.env).map (·.2) = [assign t1 c.env, assign t2 c.env, assign t3 c.env, assign t4 c.env]) (hlen : (assignEach [t1, t2, t3, t4] c.env).length = 4) (hstar : (assignEach [t1, t2, t3, t4] c.env).findIdx? (·.1) = none)
  (ha : st.hp a = some (.tup [v1, v2, v3, v4])) (h : ASG c t1 v1 st fun st1 => ASG c t2 v2 st1 fun st2 => ASG c t3 v3 st2 fun st3 => ASG c t4 v4 st3 Q) : ASG c (.Tuple [t1, t2, t3, t4] k p) (.ref a) st Q := by
 intro u hu
 rw [z_ref hu]
 refine .of fun s hs => ?_
 refine hide fun G9 hG9 => ?_
 obtain ⟨xs, n, h1, h2⟩ := (hs.hp a _ ha).1
 obtain ⟨u1, u2, u3, u4, e1, e2, e3, e4, e5⟩ := four h2
 refine hG9 ?_
 subst e1
 refine wpAny_assign_Tuple (items := #[u1, u2, u3, u4]) hh ⟨_, h1, rfl, n, rfl⟩ hlen hstar fun h' hk => ?_
 rw [he]
 have m1 : Mod c st { s with heap := h' } := hs.keep fun b o e => hk b o (Nat.ne_of_lt (Heap.lt_size e)) e
 exact wpAny_assignInOrder_more (WP.thru (h u1 e2) m1 fun _ s2 st2 m2 h2 => wpAny_assignInOrder_more (WP.thru (h2 u2 e3) m2 fun _ s3 st3 m3 h3 => wpAny_assignInOrder_more (WP.thru (h3 u3 e4) m3 fun _ s4 st4 m4 h4 => wpAny_assignInOrder_more (WP.thru (h4 u4 e5) m4 fun _ s5 st5 m5 h5 => wpAny_assignInOrder_none ⟨st5, m5, h5⟩))))
theorem XS_AssignT {elts : List Expr} {k : Nat} {tpos pos : Pos} {value : Expr} (hsw : swapsWithSole [.Tuple elts k tpos] value pos.line c.env = pure false) (hw : swappedStores [.Tuple elts k tpos] value c.env = pure none)
  (h : EX c value st fun v st1 => ASG c (.Tuple elts k tpos) v st1 fun st2 => Ψ .next st2) : XS c (.Assign [.Tuple elts k tpos] value pos) st Ψ := .of fun s hs => by
 refine Assign_Tuple (WP.thru h hs fun v s1 st1 m1 h1 => WP.thru (h1 v rfl) m1 fun _ s2 st2 m2 h2 => ⟨st2, m2, h2⟩) hsw hw
noncomputable def LP (J : St → Prop) (Ψ : AF → St → Prop) : AF → St → Prop
 | .next, st => J st
 | .cont, st => J st
 | .brk, st => Ψ .next st
 | .ret v, st => Ψ (.ret v) st
theorem XS_While {t : Expr} {b : List Stmt} {pos : Pos} (I : Nat → St → Prop) (n : Nat) (h0 : I n st)
  (turn : ∀ n st, I n st → TS c t st fun x st1 => if x then XB c b st1 (LP (fun st2 => ∃ m, m < n ∧ I m st2) Ψ) else Ψ .next st1) : XS c (.While t b [] pos) st Ψ := .of fun s hs => by
 refine wpAny_While ?_
 refine codeAny_whileLoop (fun n s => ∃ st, Mod c st s ∧ I n st) ?_ n ⟨st, hs, h0⟩
 rintro n s ⟨st, hs, hI⟩
 refine wpAny_mono ((turn n st hI).run s hs) ?_ fun _ _ e => e.elim
 rintro x s1 ⟨st1, m1, h1⟩
 cases x with
 | false => exact wpAny_execs_nil ⟨st1, m1, h1⟩
 | true =>
  refine wpAny_mono (h1.run s1 m1) ?_ fun _ _ e => e.elim
  rintro f s2 ⟨st2, m2, h2⟩
  cases f with
  | next => obtain ⟨m, hm, hI'⟩ := h2; exact ⟨m, hm, st2, m2, hI'⟩
  | cont => obtain ⟨m, hm, hI'⟩ := h2; exact ⟨m, hm, st2, m2, hI'⟩
  | brk => exact ⟨st2, m2, h2⟩
  | ret v => exact ⟨st2, m2, h2⟩
theorem forGen {target : Expr} {body : List Stmt} {I : Addr} {fp wr : List Addr} {n : Nat} {P : Nat → Value → Prop} {S : Nat → Heap → Prop} (W : Walks PW c.w c.A I fp wr n P S)
  {s : Shared} (hs : Mod c st s) (hS : S 0 s.heap) (hL : c.env.locals ∉ fp) (hwr : ∀ b ∈ wr, c.h₀.get? b = none ∧ st.hp b = none) (hst : ∀ b ∈ fp, st.hp b = none) (hlive : ∀ i h, S i h → ∀ b ∈ fp, ∃ o, h.get? b = some o)
  (hgo : ∀ i (s' : Shared) v (Q' : Unit → Shared → Prop), S i s'.heap → Q' () s' → wpAny (model PW c.w) c.A (letOwnedTupleGo target (.ref I) v) Q' (fun _ _ => False) s')
  (R : Heap → Prop) (hR0 : R s.heap) (hRk : ∀ h h', R h → (∀ b ∈ fp, b ∉ wr → ∀ o, h.get? b = some o → h'.get? b = some o) → R h')
  (J : Nat → St → Prop) (h0 : J 0 st)
  (turn : ∀ i v c' st', i < n → P i v → Ext c c' → S (i + 1) c'.h₀ → J i st' → ASG c' target (z v) st' fun st2 => XB c' body st2 (LP (J (i + 1)) Ψ))
  (done : ∀ st', J n st' → (∀ b ∈ fp, st'.hp b = none) → Ψ .next st') :
  codeAny (model PW c.w) c.A (.forLoop target (.ref I) body [] c.env) (fun r s' => match r with | .ok f => (∃ st', Mod c st' s' ∧ (∀ b ∈ fp, b ∉ wr → st'.hp b = none) ∧ Ψ (zf f) st') ∧ R s'.heap | .error _ => False) s := by
 obtain ⟨Q, hQ1, hQ2⟩ : ∃ Q : Nat → Shared → Prop, (∀ k s, Q k s → ∃ i st, i ≤ n ∧ k = n - i ∧ Mod c st s ∧ S i s.heap ∧ J i st ∧ (∀ b ∈ fp, st.hp b = none) ∧ R s.heap) ∧
  (∀ s i st, i ≤ n → Mod c st s → S i s.heap → J i st → (∀ b ∈ fp, st.hp b = none) → R s.heap → Q (n - i) s) := ⟨_, fun _ _ h => h, fun s i st h1 h2 h3 h4 h5 h6 => ⟨i, st, h1, rfl, h2, h3, h4, h5, h6⟩⟩
 refine codeAny_forLoop_any Q ?_ n (hQ2 s 0 st (Nat.zero_le _) hs hS h0 hst hR0)
 intro k s hX9
 refine hide fun G9 hG9 => ?_
 obtain ⟨i, st, hi, hkk, hs, hS, hJ, hst, hR⟩ := hQ1 _ _ hX9
 refine hG9 ?_
 have keepM : ∀ (h' : Heap) (tk : Nat), (∀ b o, b ∉ wr → s.heap.get? b = some o → h'.get? b = some o) → Mod c st { s with heap := h', toks := tk } := fun h' tk k => by
  obtain ⟨m, F, hm⟩ := hs.fr
  have hLw : c.env.locals ∉ wr := fun q => hL (W.sub _ q)
  refine ⟨⟨m, ⟨F.ns.at' fun o e => k _ o hLw e, fun b o e => k b o (fun q => by rw [(hwr b q).1] at e; cases e) (F.keep b o e)⟩, hm⟩, fun a o e => ?_, hs.g, hs.o⟩
  obtain ⟨h1, h2, h3⟩ := hs.hp a o e
  exact ⟨holds_keep (fun ob e' => k a ob (fun q => by rw [hst a (W.sub _ q)] at e; cases e) e') h1, h2, h3⟩
 have keepR : ∀ h' : Heap, (∀ b o, b ∉ wr → s.heap.get? b = some o → h'.get? b = some o) → R h' := fun h' k => hRk _ _ hR fun b _ hw o e => k b o hw e
 by_cases hlt : i < n
 ·refine W.item i s _ _ hlt hS fun v h' tk hP hS' k => ?_
  have m1 := keepM h' tk k
  show wpAny _ _ (letOwnedTupleGo target (.ref I) v) _ _ _
  refine wpAny_mono (hgo (i + 1) { s with heap := h', toks := tk } v (fun _ s' => s' = { s with heap := h', toks := tk }) hS' rfl) ?_ fun _ _ e => e.elim
  rintro _ s1 rfl
  have hb : ∀ b, (c.h₀.get? b ≠ none ∨ b ∈ fp) → (hideP h' fun a => ¬ (c.h₀.get? a ≠ none ∨ a ∈ fp)).get? b = h'.get? b := fun b q => hideP_get (fun q' => q' q)
  have off : ∀ b, ¬ (c.h₀.get? b ≠ none ∨ b ∈ fp) → (hideP h' fun a => ¬ (c.h₀.get? a ≠ none ∨ a ∈ fp)).get? b = none := fun b q => hideP_none q
  obtain ⟨m, F, hm⟩ := m1.fr
  have X : Ext c ⟨c.w, c.A, hideP h' fun a => ¬ (c.h₀.get? a ≠ none ∨ a ∈ fp), c.env, c.g, c.o⟩ := ⟨rfl, rfl, rfl, rfl, rfl, fun b o e => (hb b (.inl (by rw [e]; simp))).trans (F.keep b o e), fun ho => off _ (by rintro (q | q); exact q ho; exact hL q)⟩
  have m2 : Mod ⟨c.w, c.A, hideP h' fun a => ¬ (c.h₀.get? a ≠ none ∨ a ∈ fp), c.env, c.g, c.o⟩ st { s with heap := h', toks := tk } := by
   refine ⟨⟨m, ⟨F.ns, fun b o e => ?_⟩, hm⟩, fun a o e => ?_, m1.g, m1.o⟩
   ·by_cases q : c.h₀.get? b ≠ none ∨ b ∈ fp
    ·rw [hb b q] at e; exact e
    ·rw [off b q] at e; cases e
   ·obtain ⟨h1, h2, h3⟩ := m1.hp a o e
    refine ⟨h1, h2, off _ ?_⟩
    rintro (q | q)
    ·exact q h3
    ·rw [hst a q] at e; cases e
  have hS2 : S (i + 1) (hideP h' fun a => ¬ (c.h₀.get? a ≠ none ∨ a ∈ fp)) := W.frame _ _ _ hS' fun b q o e => (hb b (.inr q)).trans e
  refine wpAny_mono ((turn i v _ st hlt hP X hS2 hJ v rfl).run _ m2) ?_ fun _ _ e => e.elim
  rintro _ s2 ⟨st2, m3, h3⟩
  refine wpAny_mono (h3.run _ m3) ?_ fun _ _ e => e.elim
  intro f s3 hX9
  refine hide fun G9 hG9 => ?_
  obtain ⟨st3, m4, h4⟩ := hX9
  obtain ⟨m', F', _⟩ := m4.fr
  refine hG9 ?_
  have hS3 : S (i + 1) s3.heap := W.frame _ _ _ hS2 fun b q o e => F'.keep b o e
  have hst3 : ∀ b ∈ fp, st3.hp b = none := fun b q => by
   cases e : st3.hp b with
   | none => rfl
   | some o =>
    obtain ⟨ob, e'⟩ := hlive _ _ hS2 b q
    have := (m4.hp b o e).2.2
    rw [this] at e'; cases e'
  have m5 := m4.unext X
  have hR3 : R s3.heap := hRk _ _ (keepR h' k) fun b q _ o e => F'.keep b o ((hb b (.inr q)).trans e)
  cases f with
  | next => exact ⟨n - (i + 1), by lia, hQ2 _ (i + 1) st3 hlt m5 hS3 h4 hst3 hR3⟩
  | cont => exact ⟨n - (i + 1), by lia, hQ2 _ (i + 1) st3 hlt m5 hS3 h4 hst3 hR3⟩
  | brk => exact ⟨⟨st3, m5, fun b q _ => hst3 b q, h4⟩, hR3⟩
  | ret v => exact ⟨⟨st3, m5, fun b q _ => hst3 b q, h4⟩, hR3⟩
 ·have ein : i = n := by lia
  rw [ein] at hS hJ
  refine W.done s _ _ hS fun h' tk k => wpAny_execs_nil ?_
  exact ⟨⟨st, keepM h' tk k, fun b q _ => hst b q, done st hJ hst⟩, keepR h' k⟩
end
end Mine
end
section
open PySem PySem.W PyProof.Rows PySem.Calls
namespace Mine
section
variable {c : Cx} {st : St} {Φ : Value → St → Prop} {Ψ : AF → St → Prop}
noncomputable def St.del (st : St) (a : Addr) : St := ⟨st.loc, fun b => if b = a then none else st.hp b⟩
theorem St.del_self {a : Addr} : (st.del a).hp a = none := by simp [St.del]
theorem St.del_ne {a b : Addr} (h : b ≠ a) : (st.del a).hp b = st.hp b := by simp [St.del, h]
theorem Mod.del {s : Shared} {a : Addr} (hs : Mod c st s) : Mod c (st.del a) s := hs.sub rfl fun b o e => by
 by_cases q : b = a
 ·rw [q, St.del_self] at e; cases e
 ·rw [St.del_ne q] at e; exact e
theorem Mod.back {s : Shared} {a : Addr} {o : AObj} (hs : Mod c st s) (h : holds c.w o s.heap a) (hL : a ≠ c.env.locals) (h0 : c.h₀.get? a = none) : Mod c (st.put a o) s :=
 ⟨hs.fr, fun b ob e => by
  by_cases q : b = a
  ·subst q
   rw [St.put_self] at e
   cases e
   exact ⟨h, hL, h0⟩
  ·rw [St.put_ne q] at e
   exact hs.hp b ob e, hs.g, hs.o⟩
noncomputable def backTo' (a : Addr) (o : AObj) (Ψ : AF → St → Prop) : AF → St → Prop := fun f st => Ψ f (st.put a o)
theorem XS_ForList {target iter : Expr} {body : List Stmt} {pos : Pos} (hh : c.A.handled = none) (hfs : ∀ x, foldedSetIterable iter c.env x = pure x)
  (h : EX c iter st fun v st1 => ∃ a vs, ∃ J : Nat → St → Prop, v = .ref a ∧ st1.hp a = some (.list vs) ∧ J 0 (st1.del a) ∧
   (∀ i v c' st', vs[i]? = some v → Ext c c' → J i st' → ASG c' target v st' fun st2 => XB c' body st2 (LP (J (i + 1)) (backTo' a (.list vs) Ψ))) ∧
   ∀ st', J vs.length st' → st'.hp a = none → Ψ .next (st'.put a (.list vs))) : XS c (.For target iter body [] pos) st Ψ := .of fun s hs => by
 refine wpAny_For (WP.thru h hs fun v s1 st1 m1 h1 => ?_) hfs
 refine hide fun G9 hG9 => ?_
 obtain ⟨a, vs, J, rfl', ha, h0, turn, done⟩ := h1
 refine hG9 ?_
 rw [z_ref rfl']
 refine hide fun G9 hG9 => ?_
 obtain ⟨xs, n, k1, k2⟩ := m1.list ha
 obtain ⟨_, haL, ha0⟩ := m1.hp a _ ha
 refine hG9 ?_
 have hl : s1.heap.IsList a xs.toArray := ⟨_, k1, rfl, n, rfl⟩
 refine wpAny_pyIter_list hl ?_
 have hlt : a < s1.heap.objs.size := Heap.lt_size k1
 have hsz : ∀ b, (st1.del a).hp b ≠ none → b ≠ s1.heap.objs.size := fun b q e => by
  by_cases q' : b = a
  ·exact q (q' ▸ St.del_self)
  ·rw [St.del_ne q', e] at q; exact q m1.fresh
 have mI : Mod c (st1.del a) { s1 with heap := s1.heap.push { cls := .type "list_iterator", data := .fields #[.ref a, .int 0 0] } } :=
  m1.del.keep fun b o e => Heap.get?_push_of_some _ e
 have hLL : c.env.locals ∉ [s1.heap.objs.size, a] := by
  intro q
  rcases List.mem_cons.mp q with e | q
  ·obtain ⟨m, F, _⟩ := m1.fr
   exact absurd F.ns.lt (e ▸ Nat.lt_irrefl _)
  ·exact haL (List.mem_singleton.mp q).symm
 have W := Walks.list (prog := PW) (w := c.w) (A := c.A) hh s1.heap.objs.size a (Nat.ne_of_lt hlt) xs.toArray
 have hIl : (s1.heap.push { cls := .type "list_iterator", data := .fields #[.ref a, .int 0 0] }).IsList a xs.toArray := hl.at fun o e => Heap.get?_push_of_some _ e
 have hlen : xs.toArray.size = vs.length := by simp [← k2]
 refine codeAny_mono (forGen (s := { s1 with heap := s1.heap.push { cls := .type "list_iterator", data := .fields #[.ref a, .int 0 0] } }) (target := target) (body := body) (Ψ := backTo' a (.list vs) Ψ) W mI ⟨⟨_, Heap.get?_push_size _ rfl, rfl, rfl⟩, hIl⟩ hLL ?_ ?_ ?_ ?_
  (fun h => h.get? a = some ⟨.type "list", none, .seq xs.toArray n, #[]⟩) (Heap.get?_push_of_some _ k1) (fun h h' hR k => k a (by simp) (by simp; exact Nat.ne_of_lt hlt) _ hR) J h0 ?_ ?_) ?_
 ·intro b hb
  rw [List.mem_singleton.mp hb]
  exact ⟨m1.fresh_base.1, by rw [St.del_ne (Nat.ne_of_gt hlt)]; exact m1.fresh⟩
 ·intro b hb
  rcases List.mem_cons.mp hb with rfl | hb
  ·rw [St.del_ne (Nat.ne_of_gt hlt)]; exact m1.fresh
  ·rw [List.mem_singleton.mp hb]; exact St.del_self
 ·intro i h hX9 b hb
  refine hide fun G9 hG9 => ?_
  obtain ⟨⟨o, ho, _⟩, ⟨o', ho', _⟩⟩ := hX9
  refine hG9 ?_
  rcases List.mem_cons.mp hb with rfl | hb
  ·exact ⟨_, ho⟩
  ·rw [List.mem_singleton.mp hb]; exact ⟨_, ho'⟩
 ·intro i s' v Q' hS hQ
  exact letGo_listiter hS.1 hQ
 ·intro i v c' st' hi hv hX hS hJ
  refine turn i (z v) c' st' ?_ hX hJ
  rw [← k2, List.getElem?_map]
  have : xs[i]? = some v := by simpa using hv
  rw [this]; rfl
 ·intro st' hJ hn
  exact done st' (hlen ▸ hJ) (hn a (by simp))
 ·intro r s' hr
  cases r with
  | error e => exact hr.elim
  | ok f =>
   refine hide fun G9 hG9 => ?_
   obtain ⟨⟨st', m', hn, hΨ⟩, hR⟩ := hr
   refine hG9 ?_
   exact ⟨_, m'.back (o := .list vs) ⟨xs, n, hR, k2⟩ haL ha0, hΨ⟩
theorem XS_ForAlone {target iter : Expr} {body : List Stmt} {pos : Pos} {x : Value} {N : Nat} {P : Nat → Value → Prop} (hgo : ∀ it v, letOwnedTupleGo target it v = pure ()) {s1 : Shared}
  {o : Obj} {S : Nat → Heap → Prop} (W : Walks PW c.w c.A s1.heap.objs.size [s1.heap.objs.size] [s1.heap.objs.size] N P S) (hlive : ∀ i h, S i h → ∃ o, h.get? s1.heap.objs.size = some o)
  (m1 : Mod c st s1) (hS : S 0 (s1.heap.push o)) (J : Nat → St → Prop) (h0 : J 0 st)
  (turn : ∀ i v c' st', i < N → P i v → Ext c c' → J i st' → ASG c' target (z v) st' fun st2 => XB c' body st2 (LP (J (i + 1)) Ψ)) (done : ∀ st', J N st' → Ψ .next st') (tk : Nat) :
  codeAny (model PW c.w) c.A (.forLoop target (.ref s1.heap.objs.size) body [] c.env) (fun r s' => match r with | .ok f => (∃ st', Mod c st' s' ∧ Ψ (zf f) st') | .error _ => False) { s1 with heap := s1.heap.push o, toks := tk } := by
 have mI : Mod c st { s1 with heap := s1.heap.push o, toks := tk } := m1.keep fun b o e => Heap.get?_push_of_some _ e
 refine codeAny_mono (forGen W mI hS ?_ ?_ ?_ ?_ ?_ (fun _ => True) trivial (fun _ _ _ _ => trivial) J h0 (fun i v c' st' hi hP hX _ hJ => turn i v c' st' hi hP hX hJ) fun st' hJ _ => done st' hJ) ?_
 ·intro q
  obtain ⟨m, F, _⟩ := m1.fr
  exact absurd F.ns.lt ((List.mem_singleton.mp q) ▸ Nat.lt_irrefl _)
 ·intro b hb
  rw [List.mem_singleton.mp hb]
  exact ⟨m1.fresh_base.1, m1.fresh⟩
 ·intro b hb
  rw [List.mem_singleton.mp hb]
  exact m1.fresh
 ·intro i h hS b hb
  rw [List.mem_singleton.mp hb]
  exact hlive i h hS
 ·intro i s' v Q' _ hQ
  rw [hgo]
  exact wpAny_pure hQ
 ·intro r s' hr
  cases r with
  | error e => exact hr.elim
  | ok f =>
   refine hide fun G9 hG9 => ?_
   obtain ⟨⟨st', m', hn, hΨ⟩, hR⟩ := hr
   refine hG9 ?_
   exact ⟨_, m', hΨ⟩
theorem XS_ForRange {target iter : Expr} {body : List Stmt} {pos : Pos} (hh : c.A.handled = none) (hfs : ∀ x, foldedSetIterable iter c.env x = pure x) (hgo : ∀ it v, letOwnedTupleGo target it v = pure ())
  (h : EX c iter st fun v st1 => ∃ r, ∃ a b : Int, ∃ J : Nat → St → Prop, v = .ref r ∧ st1.hp r = some (.rng a b) ∧ (-(2 ^ 62) ≤ a ∧ a < 2 ^ 62 ∧ -(2 ^ 62) ≤ b ∧ b < 2 ^ 62) ∧ J 0 st1 ∧
   (∀ (i : Nat) c' st', a + i < b → Ext c c' → J i st' → ASG c' target (.int (a + i) 0) st' fun st2 => XB c' body st2 (LP (J (i + 1)) Ψ)) ∧
   ∀ st', J (b - a).toNat st' → Ψ .next st') : XS c (.For target iter body [] pos) st Ψ := .of fun s hs => by
 refine wpAny_For (WP.thru h hs fun v s1 st1 m1 h1 => ?_) hfs
 refine hide fun G9 hG9 => ?_
 obtain ⟨r, a, b, J, rfl', hr, ⟨q1, q2, q3, q4⟩, h0, turn, done⟩ := h1
 refine hG9 ?_
 rw [z_ref rfl']
 obtain ⟨t, u, v, k1⟩ := (m1.hp r _ hr).1
 have hn : (Builtin.Range.rangeSize a b 1).toNat = (b - a).toNat := by rw [rangeSize_one]; split <;> lia
 refine wpAny_pyIter_range k1 (small_one q1 q2 q3 q4) ?_
 refine codeAny_mono (XS_ForAlone (pos := pos) (iter := iter) (x := .none) (Ψ := Ψ) (o := { cls := .type "range_iterator", data := .fields #[rawInt a, rawInt (Builtin.Range.rangeSize a b 1), rawInt 1] }) hgo (Walks.range hh s1.heap.objs.size a 1 (b - a).toNat) (fun i h hS => ⟨_, hS⟩) m1 ?_ J h0 ?_ done s1.toks) ?_
 ·have : IsRangeIter (s1.heap.push { cls := .type "range_iterator", data := .fields #[rawInt a, rawInt (Builtin.Range.rangeSize a b 1), rawInt 1] }) s1.heap.objs.size a (Builtin.Range.rangeSize a b 1) 1 := Heap.get?_push_size _ rfl
  have e : Builtin.Range.rangeSize a b 1 = (((b - a).toNat : Nat) : Int) := by rw [rangeSize_one]; split <;> lia
  rw [e] at this ⊢
  simpa using this
 ·rintro i v c' st' hi ⟨t, rfl⟩ hX hJ
  rw [Int.mul_one]
  exact turn i c' st' (by lia) hX hJ
 ·intro r s' hr
  cases r with
  | error e => exact hr.elim
  | ok f => exact hr
theorem CALL_range {a b : Int} (h : ∀ r, st.hp r = none → Φ (.ref r) (st.put r (.rng a b))) : CALL c (.type "range") [.int a 0, .int b 0] st Φ := by
 intro u us hu hus
 rw [z_type hu]
 refine hide fun G9 hG9 => ?_
 obtain ⟨u1, u2, rfl, h1, h2⟩ := two hus
 obtain ⟨t1, rfl⟩ := z_int h1
 obtain ⟨t2, rfl⟩ := z_int h2
 refine hG9 ?_
 refine .of fun s hs => ?_
 refine call_range_2 ⟨_, hs.push (o := .rng a b) ⟨t1, t2, s.toks, Heap.get?_push_size _ rfl⟩, h _ hs.fresh⟩
theorem CALL_range1 {b : Int} (h : ∀ r, st.hp r = none → Φ (.ref r) (st.put r (.rng 0 b))) : CALL c (.type "range") [.int b 0] st Φ := by
 intro u us hu hus
 rw [z_type hu]
 obtain ⟨u1, rfl, h1⟩ := one hus
 obtain ⟨t1, rfl⟩ := z_int h1
 refine .of fun s hs => ?_
 refine call_range_1 ⟨_, hs.push (o := .rng 0 b) ⟨s.toks, t1, s.toks + 1, Heap.get?_push_size _ rfl⟩, h _ hs.fresh⟩
end
end Mine
end
section
open PySem PySem.W PyProof.Rows PySem.Calls PySem.Builtin PySem.Builtin.Str
namespace Mine
noncomputable abbrev sv (l : List Nat) : Value := .str ⟨l.toArray⟩ 0
noncomputable abbrev iv (i : Int) : Value := .int i 0
section
variable {c : Cx} {st : St} {Φ : Value → St → Prop} {Ψ : AF → St → Prop}
noncomputable def ITEM (c : Cx) (o i : Value) (st : St) (Φ : Value → St → Prop) : Prop := ∀ u v, z u = o → z v = i → WP c (getItem u v) st fun r st' => Φ (z r) st'
noncomputable def TYP (c : Cx) (o : Value) (T : String) (st : St) : Prop := ∀ u s, z u = o → Mod c st s → s.TypeIs u T
theorem subOut {value : Expr} {o i : Value} {l : List Value} {T id : String} {slice : Expr} (hsub : subscripted slice false o i = operate l (getItem o i)) (hl : typeLookup (.type T) "__getitem__" = pure (some (.builtin id))) {s : Shared} (hT : s.TypeIs o T)
  {Q : Value → Shared → Prop} (h : wpAny (model PW c.w) c.A (getItem o i) Q (fun _ _ => False) s) :
  wpAny (model PW c.w) c.A (do let r ← subscripted slice (← getitemInPython o) o i; letTemporaryGo value o r; pure r) Q (fun _ _ => False) s := by
 refine wpAny_bind ?_
 rw [getitemInPython_of_ne hT.not_modules]
 refine wpAny_bind (wpAny_specialOf hT hl ?_)
 refine wpAny_pure (wpAny_bind ?_)
 rw [hsub]
 exact wpAny_operating (wpAny_mono h (fun r s₃ h₃ => wpAny_bind (wpAny_letTemporaryGo (wpAny_pure h₃))) fun _ _ x => x)
theorem EX_Sub {value slice : Expr} {pos : Pos} (hsub : ∀ o i, ∃ l, subscripted slice false o i = operate l (getItem o i))
  (h : EX c value st fun o st1 => EX c slice st1 fun i st2 => (∃ T id, typeLookup (.type T) "__getitem__" = pure (some (.builtin id)) ∧ TYP c o T st2) ∧ ITEM c o i st2 Φ) : EX c (.Subscript value slice pos) st Φ := .of fun s hs => by
 rw [eval_Subscript]
 refine wpAny_bind (WP.thru h hs fun o s1 st1 m1 h1 => wpAny_bind (wpAny_holding (WP.thru h1 m1 fun i s2 st2 m2 h2 => wpAny_bind (wpAny_standAt ?_))))
 refine hide fun G9 hG9 => ?_
 obtain ⟨⟨T, id, hl, hT⟩, hI⟩ := h2
 obtain ⟨l, hsub⟩ := hsub o i
 refine hG9 ?_
 exact subOut hsub hl (hT o s2 rfl m2) ((hI o i rfl rfl).run s2 m2)
noncomputable def PART (c : Cx) (x : Option Expr) (st : St) (Φ : Value → St → Prop) : Prop := WP c (evalPart x c.env) st fun v st' => Φ (z v) st'
theorem PART_none (h : Φ .none st) : PART c none st Φ := .of fun s hs => by rw [evalPart_none]; exact wpAny_pure ⟨st, hs, h⟩
theorem PART_some {e : Expr} (h : EX c e st Φ) : PART c (some e) st Φ := .of fun s hs => by rw [evalPart_some]; exact h.run s hs
theorem EX_SubSlice {value : Expr} {lo hi : Option Expr} {p pos : Pos} 
  (h : EX c value st fun o st1 => PART c lo st1 fun a st2 => PART c hi st2 fun b st3 => ∃ x, o = .str x 0 ∧
   ∀ (u va vb : Value) s, z u = o → z va = a → z vb = b → Mod c st3 s →
    wpAny (model PW c.w) c.A (getItem u (.ref s.heap.objs.size)) (fun r s' => ∃ st', Mod c st' s' ∧ Φ (z r) st') (fun _ _ => False) { s with heap := s.heap.push { cls := .type "slice", data := .fields #[va, vb, .none] } }) : EX c (.Subscript value (.Slice lo hi none p) pos) st Φ := .of fun s hs => by
 rw [eval_Subscript]
 refine wpAny_bind (WP.thru h hs fun o s1 st1 m1 h1 => wpAny_bind (wpAny_holding ?_))
 refine wpAny_Slice (WP.thru h1 m1 fun a s2 st2 m2 h2 => WP.thru h2 m2 fun b s3 st3 m3 h3 => ?_)
 rw [evalPart_none]
 refine wpAny_pure (wpAny_bind (wpAny_standAt ?_))
 obtain ⟨x, hx, hI⟩ := h3
 obtain ⟨t, rfl⟩ := z_str hx
 exact subOut (T := "str") (l := [.ref s3.heap.objs.size, .str x t]) rfl F.slot_str_getitem.lookup (typeIs_str _ x t) (hI _ a b s3 rfl rfl rfl m3)
theorem EX_SubStep {value e : Expr} {lo hi : Option Expr} {p pos : Pos} 
  (h : EX c value st fun o st1 => PART c lo st1 fun a st2 => PART c hi st2 fun b st3 => EX c e st3 fun d st4 => ∃ x, o = .str x 0 ∧
   ∀ (u va vb vd : Value) s, z u = o → z va = a → z vb = b → z vd = d → Mod c st4 s →
    wpAny (model PW c.w) c.A (getItem u (.ref s.heap.objs.size)) (fun r s' => ∃ st', Mod c st' s' ∧ Φ (z r) st') (fun _ _ => False) { s with heap := s.heap.push { cls := .type "slice", data := .fields #[va, vb, vd] } }) : EX c (.Subscript value (.Slice lo hi (some e) p) pos) st Φ := .of fun s hs => by
 rw [eval_Subscript]
 refine wpAny_bind (WP.thru h hs fun o s1 st1 m1 h1 => wpAny_bind (wpAny_holding ?_))
 refine wpAny_Slice (WP.thru h1 m1 fun a s2 st2 m2 h2 => WP.thru h2 m2 fun b s3 st3 m3 h3 => ?_)
 rw [evalPart_some]
 refine WP.thru h3 m3 fun d s4 st4 m4 h4 => (wpAny_bind (wpAny_standAt ?_))
 obtain ⟨x, hx, hI⟩ := h4
 obtain ⟨t, rfl⟩ := z_str hx
 exact subOut (T := "str") (l := [.str x t, .ref s4.heap.objs.size]) rfl F.slot_str_getitem.lookup (typeIs_str _ x t) (hI _ a b d s4 rfl rfl rfl rfl m4)
theorem ssi_lo (hi : Option Int) (n : Nat) : strSliceIndices none hi 1 n = strSliceIndices (some 0) hi 1 n := by
 unfold strSliceIndices
 have : max (0 : Int) (min 0 (n : Int)) = 0 := by lia
 simp [this]
theorem ssi_hi (lo : Option Int) (n : Nat) : strSliceIndices lo none 1 n = strSliceIndices lo (some (n : Int)) 1 n := by
 unfold strSliceIndices
 have : ¬ ((n : Int) < 0) := by lia
 have : max (0 : Int) (min (n : Int) (n : Int)) = n := by lia
 simp [*]
theorem slice_eq {l : List Nat} {lo hi : Option Int} {i j : Nat} (hlo : lo = none ∧ i = 0 ∨ lo = some (i : Int)) (hhi : hi = none ∧ j = l.length ∨ hi = some (j : Int)) (hij : i ≤ j) (hj : j ≤ l.length) :
  strSliceIndices lo hi 1 l.length = (List.range (j - i)).map fun k => i + k := by
 have e : strSliceIndices lo hi 1 l.length = strSliceIndices (some (i : Int)) (some (j : Int)) 1 l.length := by
  rcases hlo with ⟨rfl, rfl⟩ | rfl <;> rcases hhi with ⟨rfl, rfl⟩ | rfl
  ·rw [ssi_lo, ssi_hi]; rfl
  ·rw [ssi_lo]; rfl
  ·rw [ssi_hi]
  ·rfl
 rw [e, StrLaws.strSliceIndices_plain hij hj]
theorem EX_SliceS {value : Expr} {lo hi : Option Expr} {p pos : Pos}
  (h : EX c value st fun o st1 => PART c lo st1 fun a st2 => PART c hi st2 fun b st3 => ∃ l, o = sv l ∧ l.length ≤ sizeLine ∧ ∃ i j : Nat, (a = .none ∧ i = 0 ∨ a = iv i) ∧ (b = .none ∧ j = l.length ∨ b = iv j) ∧ i ≤ j ∧ j ≤ l.length ∧ Φ (sv ((l.drop i).take (j - i))) st3) :
  EX c (.Subscript value (.Slice lo hi none p) pos) st Φ := by
 refine EX_SubSlice (h.mono fun o st1 h1 => h1.mono fun a st2 h2 => h2.mono fun b st3 h3 => ?_)
 refine hide fun G9 hG9 => ?_
 obtain ⟨l, rfl', hsz, i, j, ha, hb, hij, hj, hΦ⟩ := h3
 refine hG9 ?_
 refine ⟨_, rfl', fun u va vb s hu hva hvb hs => ?_⟩
 rw [rfl'] at hu
 obtain ⟨t, rfl⟩ := z_str hu
 obtain ⟨pa, e1, e1'⟩ : ∃ pa : Option (Int × Tok), va = partValue pa ∧ ((pa.map (·.1)) = none ∧ i = 0 ∨ (pa.map (·.1)) = some (i : Int)) := by
  rcases ha with ⟨h, h'⟩ | h
  ·rw [h] at hva; exact ⟨none, z_none hva, .inl ⟨rfl, h'⟩⟩
  ·rw [h] at hva; obtain ⟨t, e⟩ := z_int hva; exact ⟨some ((i : Int), t), e, .inr rfl⟩
 obtain ⟨pb, e2, e2'⟩ : ∃ pb : Option (Int × Tok), vb = partValue pb ∧ ((pb.map (·.1)) = none ∧ j = l.length ∨ (pb.map (·.1)) = some (j : Int)) := by
  rcases hb with ⟨h, h'⟩ | h
  ·rw [h] at hvb; exact ⟨none, z_none hvb, .inl ⟨rfl, h'⟩⟩
  ·rw [h] at hvb; obtain ⟨t, e⟩ := z_int hvb; exact ⟨some ((j : Int), t), e, .inr rfl⟩
 subst e1 e2
 have m' : Mod c st3 { s with heap := s.heap.push { cls := .type "slice", data := .fields #[partValue pa, partValue pb, .none] } } := hs.keep fun b o e => Heap.get?_push_of_some _ e
 refine wpAny_getItem_str_slice (l := pa) (u := pb) (st := none) ⟨_, Heap.get?_push_size _ rfl, rfl, rfl⟩ rfl ?_
 have pk : slicePicked (⟨l.toArray⟩ : Str) pa pb none = (List.range (j - i)).map fun k => i + k := by
  unfold slicePicked
  have := slice_eq e1' e2' hij hj
  simpa [Str.length] using this
 have fm : ((List.range (j - i)).map fun k => i + k).filterMap (l.toArray[·]?) = (l.drop i).take (j - i) := by
  have := StrLaws.picks l (j - i) i (by lia)
  simpa using this
 unfold sliceMade
 rw [pk]
 have hl : (⟨l.toArray⟩ : Str).length = l.length := by simp [Str.length]
 split
 ·rename_i hc
  simp only [Bool.and_eq_true, beq_iff_eq] at hc
  have hc2 := hc.2
  rw [hl] at hc2
  simp at hc2
  have : i = 0 := by lia
  subst this
  have : (l.drop 0).take (j - 0) = l := by rw [List.drop_zero, List.take_of_length_le (by lia)]
  rw [this] at hΦ
  exact ⟨st3, m', hΦ⟩
 ·rw [fm]
  refine ⟨?_, st3, m'.toks, hΦ⟩
  simp [Str.length]; lia
theorem EX_RevS {value e : Expr} {p pos : Pos}
  (h : EX c value st fun o st1 => EX c e st1 fun d st4 => ∃ l, o = sv l ∧ l.length ≤ sizeLine ∧ d = iv (-1) ∧ Φ (sv l.reverse) st4) :
  EX c (.Subscript value (.Slice none none (some e) p) pos) st Φ := by
 refine EX_SubStep (h.mono fun o st1 h1 => PART_none (PART_none (h1.mono fun b st4 h4 => ?_)))
 refine hide fun G9 hG9 => ?_
 obtain ⟨l, rfl', hsz, hd, hΦ⟩ := h4
 refine hG9 ?_
 refine ⟨_, rfl', fun u va vb vd s hu hva hvb hvd hs => ?_⟩
 rw [rfl'] at hu
 rw [hd] at hvd
 obtain ⟨t, rfl⟩ := z_str hu
 rw [z_none hva, z_none hvb]
 obtain ⟨t', rfl⟩ := z_int hvd
 have m' : Mod c st4 { s with heap := s.heap.push { cls := .type "slice", data := .fields #[.none, .none, .int (-1) t'] } } := hs.keep fun b o e => Heap.get?_push_of_some _ e
 refine wpAny_getItem_str_slice (l := none) (u := none) (st := some (-1, t')) ⟨_, Heap.get?_push_size _ rfl, rfl, rfl⟩ rfl ?_
 have e := step_rev_list ⟨l.toArray⟩ t'
 have e0 : Txt.sliceBy ⟨l.toArray⟩ none none (-1, t') = ⟨((slicePicked (⟨l.toArray⟩ : Str) none none (some (-1, t'))).filterMap (l.toArray[·]?)).toArray⟩ := by
  unfold Txt.sliceBy
  rw [if_neg]
  simp
 rw [e0] at e
 have e' : (slicePicked (⟨l.toArray⟩ : Str) none none (some (-1, t'))).filterMap (l.toArray[·]?) = l.reverse := by
  rw [List.toList_toArray] at e
  rw [e]
  have hl : (⟨l.toArray⟩ : Str).length = l.length := by simp [Str.length]
  rw [hl]
  apply List.ext_getElem
  ·simp
  ·intro k h1 h2
   simp at h1 h2
   have h3 : l.length - 1 - k < l.length := by lia
   simp [h3]
 unfold sliceMade
 rw [e', if_neg (by simp)]
 refine ⟨?_, st4, m'.toks, hΦ⟩
 simp [Str.length]; lia
end
end Mine
end
section
open PySem PySem.W PyProof.Rows PySem.Calls PySem.Builtin PySem.Builtin.Str
namespace Mine
section
variable {c : Cx} {st : St} {Φ : Value → St → Prop} {Ψ : AF → St → Prop}
theorem TYP_str {x : Str} : TYP c (.str x 0) "str" st := fun u s hu hs => by
 obtain ⟨t, rfl⟩ := z_str hu
 exact typeIs_str _ _ _
theorem TYP_list {a : Addr} {vs : List Value} (ha : st.hp a = some (.list vs)) : TYP c (.ref a) "list" st := fun u s hu hs => by
 rw [z_ref hu]
 obtain ⟨xs, n, k, _⟩ := (hs.hp a _ ha).1
 exact ⟨_, k, rfl⟩
theorem TYP_tup {a : Addr} {vs : List Value} (ha : st.hp a = some (.tup vs)) : TYP c (.ref a) "tuple" st := fun u s hu hs => by
 rw [z_ref hu]
 obtain ⟨xs, n, k, _⟩ := (hs.hp a _ ha).1
 exact ⟨_, k, rfl⟩
theorem EX_SubS {value slice : Expr} {pos : Pos} (hsub : ∀ o i, ∃ l, subscripted slice false o i = operate l (getItem o i))
  (h : EX c value st fun o st1 => EX c slice st1 fun i st2 => ∃ l, o = sv l ∧ ∃ n : Nat, i = iv n ∧ ∃ hn : n < l.length, l.length ≤ sizeLine ∧ Φ (sv [l[n]]) st2) : EX c (.Subscript value slice pos) st Φ := by
 refine EX_Sub hsub (h.mono fun o st1 h1 => h1.mono fun i st2 h2 => ?_)
 refine hide fun G9 hG9 => ?_
 obtain ⟨l, ho, n, hi, hn, hsz, hΦ⟩ := h2
 refine hG9 ?_
 rw [ho]
 refine ⟨⟨"str", _, F.slot_str_getitem.lookup, TYP_str⟩, fun u v hu hv => .of fun s hs => ?_⟩
 obtain ⟨t, rfl⟩ := z_str hu
 rw [hi] at hv
 obtain ⟨t', rfl⟩ := z_int hv
 have hl : (⟨l.toArray⟩ : Str).length = l.length := by simp [Str.length]
 have h24 : sizeLine = 16777216 := by decide
 refine P.getItem_str (c := l[n]) ?_ ?_ ?_
 ·have h1 : ¬ ((n : Int) < -(2 ^ 63 : Int)) := by lia
  have h2 : ¬ ((n : Int) ≥ 2 ^ 63) := by lia
  rw [decide_eq_false h1, decide_eq_false h2]; rfl
 ·unfold seqIndex?
  rw [hl]
  have h1 : ¬ ((n : Int) < 0) := by lia
  simp [h1, hn]
 ·exact ⟨st2, hs.toks, hΦ⟩
theorem EX_SubL {value slice : Expr} {pos : Pos} (hsub : ∀ o i, ∃ l, subscripted slice false o i = operate l (getItem o i))
  (h : EX c value st fun o st1 => EX c slice st1 fun i st2 => ∃ a vs, o = .ref a ∧ st2.hp a = some (.list vs) ∧ ∃ n : Nat, i = iv n ∧ ∃ v, vs[n]? = some v ∧ vs.length ≤ sizeLine ∧ Φ v st2) : EX c (.Subscript value slice pos) st Φ := by
 refine EX_Sub hsub (h.mono fun o st1 h1 => h1.mono fun i st2 h2 => ?_)
 refine hide fun G9 hG9 => ?_
 obtain ⟨a, vs, ho, ha, n, hi, v, hn, hsz, hΦ⟩ := h2
 refine hG9 ?_
 rw [ho]
 refine ⟨⟨"list", _, F.slot_list_getitem.lookup, TYP_list ha⟩, fun u w hu hv => .of fun s hs => ?_⟩
 rw [z_ref hu]
 rw [hi] at hv
 refine hide fun G9 hG9 => ?_
 obtain ⟨t', rfl⟩ := z_int hv
 obtain ⟨xs, k, k1, k2⟩ := hs.list ha
 refine hG9 ?_
 have h24 : sizeLine = 16777216 := by decide
 have hlt : n < vs.length := (List.getElem?_eq_some_iff.mp hn).1
 obtain ⟨x, hx, hxv⟩ : ∃ x, xs[n]? = some x ∧ z x = v := by
  rw [← k2, List.getElem?_map] at hn
  exact Option.map_eq_some_iff.mp hn
 refine wpAny_getItem_list (x := x) ⟨_, k1, rfl, k, rfl⟩ (by lia) (by lia) (by simpa using hx) ?_
 exact ⟨st2, hs, by rw [hxv]; exact hΦ⟩
theorem EX_SubLast {value slice : Expr} {pos : Pos} (hsub : ∀ o i, ∃ l, subscripted slice false o i = operate l (getItem o i))
  (h : EX c value st fun o st1 => EX c slice st1 fun i st2 => ∃ a vs v, o = .ref a ∧ st2.hp a = some (.list (vs ++ [v])) ∧ i = iv (-1) ∧ vs.length < sizeLine ∧ Φ v st2) : EX c (.Subscript value slice pos) st Φ := by
 refine EX_Sub hsub (h.mono fun o st1 h1 => h1.mono fun i st2 h2 => ?_)
 refine hide fun G9 hG9 => ?_
 obtain ⟨a, vs, v, ho, ha, hi, hsz, hΦ⟩ := h2
 refine hG9 ?_
 rw [ho]
 refine ⟨⟨"list", _, F.slot_list_getitem.lookup, TYP_list ha⟩, fun u w hu hv => .of fun s hs => ?_⟩
 rw [z_ref hu]
 rw [hi] at hv
 refine hide fun G9 hG9 => ?_
 obtain ⟨t', rfl⟩ := z_int hv
 obtain ⟨xs, k, k1, k2⟩ := hs.list ha
 refine hG9 ?_
 obtain ⟨ys, y, rfl, e1, e2⟩ : ∃ ys y, xs = ys ++ [y] ∧ ys.map z = vs ∧ z y = v := by
  refine hide fun G9 hG9 => ?_
  obtain ⟨ys, zs, rfl, e1, e2⟩ := List.map_eq_append_iff.mp k2
  obtain ⟨y, rfl, e3⟩ := one e2
  refine hG9 ?_
  exact ⟨ys, y, rfl, e1, e3⟩
 refine wpAny_getItem_list_neg (x := y) ⟨_, k1, rfl, k, rfl⟩ (by lia) (by simp; lia) (by lia) ?_ ?_
 ·have : (-1 + ((ys ++ [y]).toArray.size : Int)).toNat = ys.length := by simp; lia
  rw [this]; simp
 ·exact ⟨st2, hs, by rw [e2]; exact hΦ⟩
theorem EX_SubT {value slice : Expr} {pos : Pos} (hsub : ∀ o i, ∃ l, subscripted slice false o i = operate l (getItem o i))
  (h : EX c value st fun o st1 => EX c slice st1 fun i st2 => ∃ a vs, o = .ref a ∧ st2.hp a = some (.tup vs) ∧ ∃ n : Nat, i = iv n ∧ ∃ v, vs[n]? = some v ∧ vs.length ≤ sizeLine ∧ Φ v st2) : EX c (.Subscript value slice pos) st Φ := by
 refine EX_Sub hsub (h.mono fun o st1 h1 => h1.mono fun i st2 h2 => ?_)
 refine hide fun G9 hG9 => ?_
 obtain ⟨a, vs, ho, ha, n, hi, v, hn, hsz, hΦ⟩ := h2
 refine hG9 ?_
 rw [ho]
 refine ⟨⟨"tuple", _, F.slot_tuple_getitem.lookup, TYP_tup ha⟩, fun u w hu hv => .of fun s hs => ?_⟩
 rw [z_ref hu]
 rw [hi] at hv
 refine hide fun G9 hG9 => ?_
 obtain ⟨t', rfl⟩ := z_int hv
 obtain ⟨xs, k, k1, k2⟩ := (hs.hp a _ ha).1
 refine hG9 ?_
 have h24 : sizeLine = 16777216 := by decide
 have hlt : n < vs.length := (List.getElem?_eq_some_iff.mp hn).1
 have hl : xs.length = vs.length := by rw [← k2, List.length_map]
 obtain ⟨x, hx, hxv⟩ : ∃ x, xs[n]? = some x ∧ z x = v := by
  rw [← k2, List.getElem?_map] at hn
  exact Option.map_eq_some_iff.mp hn
 refine getItem_tuple (j := n) (x := x) (items := xs.toArray) ⟨_, k1, rfl, k, rfl⟩ (by lia) (by lia) ?_ (by simpa using hx) ?_
 ·unfold seqIndex?
  have h1 : ¬ ((n : Int) < 0) := by lia
  simp [h1, hl, hlt]
 ·exact ⟨st2, hs, by rw [hxv]; exact hΦ⟩
theorem occ_firstAt (l y : List Nat) (lo hi : Nat) (hh : hi ≤ l.length) : occurrences ⟨l.toArray⟩ ⟨y.toArray⟩ lo hi 1 = match firstAt l y lo hi with | some i => [i] | none => [] := by
 have hlen := StrLaws.occ_length_le ⟨l.toArray⟩ ⟨y.toArray⟩ lo hi 1
 rw [StrLaws.occ_eq] at hlen ⊢
 have hAt : ∀ i, StrLaws.At ⟨l.toArray⟩ ⟨y.toArray⟩ hi i ↔ (decide (i + y.length ≤ hi) && ((l.drop i).take y.length == y)) = true := by
  intro i
  unfold StrLaws.At
  rw [StrLaws.subAt_eq]
  simp [Str.length]
 unfold firstAt
 rcases StrLaws.occ_first ⟨l.toArray⟩ ⟨y.toArray⟩ hi 1 (Nat.le_refl 1) (List.range' lo (hi + 1 - lo)) lo (fun i h => by simp [List.mem_range'] at h; lia) with ⟨h0, hn⟩ | ⟨pre, a, post, e, h0, ha, hn⟩
 ·rw [h0]
  have : (List.range' lo (hi + 1 - lo)).find? (fun i => decide (i + y.length ≤ hi) && ((l.drop i).take y.length == y)) = none := by
   rw [List.find?_eq_none]
   intro i hi' h
   exact hn i hi' ((hAt i).mpr h)
  rw [this]
 ·generalize (forIn (List.range' lo (hi + 1 - lo)) ((#[] : Array Nat), lo) (StrLaws.occBody ⟨l.toArray⟩ ⟨y.toArray⟩ hi 1)).run.fst = arr at h0 hlen
  have : (List.range' lo (hi + 1 - lo)).find? (fun i => decide (i + y.length ≤ hi) && ((l.drop i).take y.length == y)) = some a := by
   rw [e, List.find?_append]
   have h1 : pre.find? (fun i => decide (i + y.length ≤ hi) && ((l.drop i).take y.length == y)) = none := by
    rw [List.find?_eq_none]
    intro i hi' h
    exact hn i hi' ((hAt i).mpr h)
   rw [h1, List.find?_cons, (hAt a).mp ha]; rfl
  rw [this]
  obtain ⟨ar⟩ := arr
  cases ar with
  | nil => simp at h0
  | cons b r =>
   cases r with
   | nil => simp at h0; simp [h0]
   | cons => simp at hlen
theorem gives_find4 (x y : Str) (i j : Int) (t u v w : Tok) : Gives («str.find» ⟨[.str x t, .str y u, .int i v, .int j w], []⟩) (.int (match occurrences x y (fromIndex x.length i) (min (fromIndex x.length j) x.length) 1 with | k :: _ => (k : Int) | [] => -1)) := by
 show Gives (match occurrences x y (fromIndex x.length i) (min (fromIndex x.length j) x.length) 1 with | k :: _ => retInt k | [] => (do rule "str.find.not-found"; retInt (-1))) _
 cases occurrences x y (fromIndex x.length i) (min (fromIndex x.length j) x.length) 1 with
 | nil => exact .rule (.of_eq rfl)
 | cons k _ => exact .of_eq rfl
theorem CALL_find4 {l y : List Nat} {i j : Nat} (hj : j ≤ l.length) (h : Φ (iv (match firstAt l y i j with | some k => (k : Int) | none => -1)) st) : CALL c (.builtin "str.find") [sv l, sv y, iv i, iv j] st Φ := by
 intro u us hu hus
 rw [z_builtin hu]
 refine hide fun G9 hG9 => ?_
 obtain ⟨u1, u2, u3, u4, rfl, h1, h2, h3, h4⟩ := four hus
 obtain ⟨t1, rfl⟩ := z_str h1
 obtain ⟨t2, rfl⟩ := z_str h2
 obtain ⟨t3, rfl⟩ := z_int h3
 obtain ⟨t4, rfl⟩ := z_int h4
 refine hG9 ?_
 refine .of fun s hs => ?_
 refine call_gives F.slot_str_find (typeIs_str _ _ _) F.entry_str_find (F.args_str_find_4 _ _ _ _) (gives_find4 _ _ _ _ _ _ _ _) ?_
 have e1 : fromIndex (⟨l.toArray⟩ : Str).length (i : Int) = i := by
  unfold fromIndex
  have : ¬ ((i : Int) < 0) := by lia
  simp [this]
 have e2 : min (fromIndex (⟨l.toArray⟩ : Str).length (j : Int)) (⟨l.toArray⟩ : Str).length = j := by
  unfold fromIndex
  have : ¬ ((j : Int) < 0) := by lia
  simp [this, Str.length, hj]
 rw [e1, e2, occ_firstAt l y i j hj]
 refine ⟨st, hs.toks, ?_⟩
 revert h
 cases firstAt l y i j <;> exact id
theorem cnt_count (c : Nat) : ∀ l : List Nat, PyProof.Rows.cnt c l = (l.count c : Int)
 | [] => rfl
 | n :: r => by
  rw [cnt_cons, cnt_count c r, List.count_cons]
  by_cases h : n = c <;> simp [h]; lia
theorem CALL_count {l : List Nat} {ch : Nat} (h : Φ (iv (l.count ch : Nat)) st) : CALL c (.builtin "str.count") [sv l, sv [ch]] st Φ := by
 intro u us hu hus
 rw [z_builtin hu]
 refine hide fun G9 hG9 => ?_
 obtain ⟨u1, u2, rfl, h1, h2⟩ := two hus
 obtain ⟨t1, rfl⟩ := z_str h1
 obtain ⟨t2, rfl⟩ := z_str h2
 refine hG9 ?_
 refine .of fun s hs => ?_
 refine SC.count ?_
 have e : Txt.count ⟨l.toArray⟩ ⟨[ch].toArray⟩ = (l.count ch : Int) := by
  have := count_is ⟨l.toArray⟩ ch
  rw [← cnt_count]
  exact this
 rw [e]
 exact ⟨st, hs.toks, h⟩
noncomputable def swap1 (a b : Nat) (l : List Nat) : List Nat := l.map fun n => if n = a then b else n
theorem swap1_free (a b : Nat) : ∀ l : List Nat, a ∉ l → swap1 a b l = l
 | [], _ => rfl
 | n :: r, h => by
  have hne : ¬ n = a := fun e => h (by rw [e]; exact List.mem_cons_self ..)
  show (if n = a then b else n) :: swap1 a b r = _
  rw [if_neg hne, swap1_free a b r fun hm => h (List.mem_cons_of_mem _ hm)]
theorem swap1_app (a b : Nat) (l l' : List Nat) : swap1 a b (l ++ l') = swap1 a b l ++ swap1 a b l' := List.map_append
theorem swap_join (a b : Nat) : ∀ parts : List Str, (∀ p ∈ parts, a ∉ p.cps.toList) → swap1 a b (Str.join ⟨#[a]⟩ parts).cps.toList = (Str.join ⟨#[b]⟩ parts).cps.toList
 | [], _ => rfl
 | [p], h => swap1_free a b _ (h p (List.mem_singleton.mpr rfl))
 | p :: q :: r, h => by
  have ih := swap_join a b (q :: r) fun a ha => h a (List.mem_cons_of_mem _ ha)
  show swap1 a b (p ++ ⟨#[a]⟩ ++ Str.join ⟨#[a]⟩ (q :: r)).cps.toList = (p ++ ⟨#[b]⟩ ++ Str.join ⟨#[b]⟩ (q :: r)).cps.toList
  simp only [Str.cps_append, Array.toList_append, swap1_app]
  rw [ih, swap1_free a b _ (h p (List.mem_cons_self ..))]
  simp [swap1]
theorem replace_swaps (l : List Nat) (a b : Nat) : Txt.replace ⟨l.toArray⟩ ⟨#[a]⟩ ⟨#[b]⟩ = ⟨(swap1 a b l).toArray⟩ := by
 have h : (Txt.replace ⟨l.toArray⟩ ⟨#[a]⟩ ⟨#[b]⟩).cps.toList = swap1 a b l := by
  rw [StrLaws.replace_one, ← swap_join a b _ (StrLaws.split_free _ a), StrLaws.join_split]
 apply Str.ext'
 rw [← h]
theorem CMP_in1 {l : List Nat} {ch : Nat} (h : Φ (.bool (decide (ch ∈ l))) st) : CMP c .In (sv [ch]) (sv l) st Φ := by
 refine CMP_inS ?_
 have := StrLaws.found_one ⟨l.toArray⟩ ch
 have e : (!(occurrences (⟨l.toArray⟩ : Str) ⟨[ch].toArray⟩ 0 (⟨l.toArray⟩ : Str).length 1).isEmpty) = decide (ch ∈ l) := by simpa using this
 rw [e]; exact h
theorem CMP_notIn1 {l : List Nat} {ch : Nat} (h : Φ (.bool (!decide (ch ∈ l))) st) : CMP c .NotIn (sv [ch]) (sv l) st Φ := by
 refine CMP_notInS ?_
 have := StrLaws.found_one ⟨l.toArray⟩ ch
 have e : (!(occurrences (⟨l.toArray⟩ : Str) ⟨[ch].toArray⟩ 0 (⟨l.toArray⟩ : Str).length 1).isEmpty) = decide (ch ∈ l) := by simpa using this
 rw [e]; exact h
end
end Mine
end
section
open PySem PySem.W PyProof.Rows PySem.Calls
namespace Mine
section
variable {K : Type} [DecidableEq K]
theorem zz_valueAt (kvs : List (K × Value)) (k : K) : valueAt (zz kvs) k = (valueAt kvs k).map z := by
 unfold valueAt zz
 rw [List.find?_map]
 simp only [Option.map_map]
 rfl
theorem zz_stored (kvs : List (K × Value)) (k : K) (v : Value) : zz (stored kvs k v) = stored (zz kvs) k (z v) := by
 unfold stored
 have e : (zz kvs).any (fun kv => decide (kv.1 = k)) = kvs.any (fun kv => decide (kv.1 = k)) := by
  unfold zz
  rw [List.any_map]; rfl
 rw [e]
 split
 ·unfold zz
  rw [List.map_map, List.map_map]
  apply List.map_congr_left
  intro a _
  simp only [Function.comp]
  split <;> rfl
 ·simp [zz]
theorem zz_without (kvs : List (K × Value)) (k : K) : zz (without kvs k) = without (zz kvs) k := by
 unfold without zz
 rw [List.filter_map]; rfl
theorem zz_length (kvs : List (K × Value)) : (zz kvs).length = kvs.length := by simp [zz]
theorem find_map (kvs : List (K × Value)) (k k' : K) (v : Value) : (kvs.map fun kv => if kv.1 = k then (kv.1, v) else kv).find? (fun kv => decide (kv.1 = k')) = (kvs.find? fun kv => decide (kv.1 = k')).map fun kv => if kv.1 = k then (kv.1, v) else kv := by
 rw [List.find?_map]
 congr 2
 funext kv
 show decide ((if kv.1 = k then (kv.1, v) else kv).1 = k') = _
 split <;> rfl
theorem valueAt_stored (kvs : List (K × Value)) (k k' : K) (v : Value) : valueAt (stored kvs k v) k' = if k' = k then some v else valueAt kvs k' := by
 unfold stored valueAt
 split
 ·rename_i h
  rw [find_map]
  cases e : kvs.find? (fun kv => decide (kv.1 = k')) with
  | none =>
   have : k' ≠ k := fun q => by
    obtain ⟨a, ha, h⟩ := List.any_eq_true.mp h
    exact List.find?_eq_none.mp e a ha (by rw [q]; exact h)
   rw [if_neg this]; rfl
  | some x =>
   have hx : x.1 = k' := by simpa using List.find?_some e
   show some (if x.1 = k then (x.1, v) else x).2 = _
   rw [hx]
   split <;> rfl
 ·rename_i h
  rw [List.find?_append]
  by_cases e2 : k' = k
  ·have : kvs.find? (fun kv => decide (kv.1 = k')) = none := by
    rw [List.find?_eq_none]
    intro a ha q
    exact h (List.any_eq_true.mpr ⟨a, ha, by rw [← e2]; exact q⟩)
   rw [this, if_pos e2]
   simp [e2]
  ·rw [if_neg e2]
   cases kvs.find? (fun kv => decide (kv.1 = k')) with
   | some _ => rfl
   | none =>
    have e3 : ¬ k = k' := fun q => e2 q.symm
    simp [e3]
end
section
variable {c : Cx} {st : St} {Φ : Value → St → Prop} {Ψ : AF → St → Prop}
theorem Mod.notMods {s : Shared} {a : Addr} {o : AObj} (hs : Mod c st s) (hG : ∃ ob, c.h₀.get? sysModules = some ob) (ha : st.hp a = some o) : (a == sysModules) = false := by
 apply beq_false_of_ne
 intro q
 obtain ⟨ob, e⟩ := hG
 have := (hs.hp a o ha).2.2
 rw [q, e] at this; cases this
theorem EX_DictS {pos : Pos} (h : ∀ a, st.hp a = none → Φ (.ref a) (st.put a (.dictS []))) : EX c (.Dict [] [] pos) st Φ := .of fun s hs => by
 refine wpAny_Dict_empty ⟨_, hs.push (o := .dictS []) (tk := s.toks) ⟨[], Heap.DictOf.new _, rfl⟩, h _ hs.fresh⟩
theorem EX_DictI {pos : Pos} (h : ∀ a, st.hp a = none → Φ (.ref a) (st.put a (.dictI []))) : EX c (.Dict [] [] pos) st Φ := .of fun s hs => by
 refine wpAny_Dict_empty ⟨_, hs.push (o := .dictI []) (tk := s.toks) ⟨[], Heap.DictOf.new _, rfl⟩, h _ hs.fresh⟩
theorem METH_dictS {a : Addr} {kvs : List (Str × Value)} {name : Str} {id : String} {Ψ : Value → List Value → St → Prop} (ha : st.hp a = some (.dictS kvs)) (slot : Slot "dict" name id) (ty : typeOf (.builtin id) = pure (.type "method_descriptor"))
  (h : Ψ (.builtin id) [.ref a] st) : METH c (.ref a) name st Ψ := by
 intro u pl hu
 rw [z_ref hu]
 refine .of fun s hs => ?_
 obtain ⟨kvs', h1, _⟩ := (hs.hp a _ ha).1
 with_reducible refine getMethod_builtin h1.typeIs F.plainAttrs_dict slot ty h1.mapOf.noDict ?_
 exact ⟨st, hs, h⟩
theorem CALL_setdefault {a : Addr} {kvs : List (Str × Value)} {x : Str} {v : Value} (hG : ∃ ob, c.h₀.get? sysModules = some ob) (ha : st.hp a = some (.dictS kvs)) (hz : kvs.length ≤ sizeLine)
  (h1 : ∀ r, valueAt kvs x = some r → Φ r st) (h2 : valueAt kvs x = none → Φ v (st.put a (.dictS (stored kvs x v)))) : CALL c (.builtin "dict.setdefault") [.ref a, .str x 0, v] st Φ := by
 intro u us hu hus
 rw [z_builtin hu]
 refine hide fun G9 hG9 => ?_
 obtain ⟨u1, u2, u3, rfl, e1, e2, e3⟩ := three hus
 refine hG9 ?_
 rw [z_ref e1]
 obtain ⟨t, rfl⟩ := z_str e2
 refine .of fun s hs => ?_
 obtain ⟨kvs', k1, k2⟩ := (hs.hp a _ ha).1
 refine call_meetsIn F.slot_dict_setdefault k1.typeIs F.entry_dict_setdefault (F.args_dict_setdefault_3 _ _ _) (kt_meets_setdefault (PySem.strKind PW c.w) a (strKind_is PW c.w x t) (hs.notMods hG ha) u3) ⟨kvs', k1, by rw [← zz_length, k2]; exact hz, fun r hr => ?_, fun hn h' hd hsb => ?_⟩
 ·refine ⟨st, hs.toks, h1 _ ?_⟩
  rw [← k2, zz_valueAt, hr]; rfl
 ·refine ⟨_, hs.upd (o' := .dictS (stored kvs x v)) ha hsb ⟨_, hd, ?_⟩, ?_⟩
  ·rw [zz_stored, k2, e3]
  ·rw [e3]
   refine h2 ?_
   rw [← k2, zz_valueAt, hn]; rfl
theorem CALL_getS {a : Addr} {kvs : List (Str × Value)} {x : Str} {v : Value} (hG : ∃ ob, c.h₀.get? sysModules = some ob) (ha : st.hp a = some (.dictS kvs))
  (h : Φ ((valueAt kvs x).getD v) st) : CALL c (.builtin "dict.get") [.ref a, .str x 0, v] st Φ := by
 intro u us hu hus
 rw [z_builtin hu]
 refine hide fun G9 hG9 => ?_
 obtain ⟨u1, u2, u3, rfl, e1, e2, e3⟩ := three hus
 refine hG9 ?_
 rw [z_ref e1]
 obtain ⟨t, rfl⟩ := z_str e2
 refine .of fun s hs => ?_
 obtain ⟨kvs', k1, k2⟩ := (hs.hp a _ ha).1
 refine call_meetsIn F.slot_dict_get k1.typeIs F.entry_dict_get (F.args_dict_get_3 _ _ _) (meets_dict_get_default (PySem.strKind PW c.w) a (strKind_is PW c.w x t) (hs.notMods hG ha) u3) ⟨_, k1.mapOf, ?_⟩
 refine ⟨st, hs.toks, ?_⟩
 have : z ((valueAt kvs' x).getD u3) = (valueAt kvs x).getD v := by
  rw [← k2, zz_valueAt, ← e3]
  cases valueAt kvs' x <;> rfl
 rw [this]; exact h
noncomputable def SETI (c : Cx) (o i v : Value) (st : St) (Q : St → Prop) : Prop := ∀ u j w, z u = o → z j = i → z w = v → WP c (setItem u j w) st fun _ st' => Q st'
theorem ASG_Sub {o i : Expr} {p : Pos} {v : Value} {Q : St → Prop} (h : EX c o st fun ov st1 => EX c i st1 fun k st2 => SETI c ov k v st2 Q) : ASG c (.Subscript o i p) v st Q := by
 intro u hu
 refine .of fun s hs => ?_
 rw [assign_Subscript]
 refine wpAny_bind (wpAny_holding (WP.thru h hs fun ov s1 st1 m1 h1 => wpAny_bind (wpAny_holding (WP.thru h1 m1 fun k s2 st2 m2 h2 => wpAny_bind (wpAny_standAt (wpAny_bind (wpAny_holding (WP.thru (h2 ov k u rfl rfl hu) m2 fun _ s3 st3 m3 h3 => wpAny_releaseD ⟨st3, m3, h3⟩))))))))
theorem XS_AssignSub {o i value : Expr} {p pos : Pos} (hsw : swapsWith value (some (.Subscript o i p)) pos.line c.env = pure false) (h : EX c value st fun v st0 => EX c o st0 fun ov st1 => EX c i st1 fun k st2 => SETI c ov k v st2 (Ψ .next)) : XS c (.Assign [.Subscript o i p] value pos) st Ψ := .of fun s hs =>
 wpAny_Assign_Subscript (WP.thru h hs fun v s0 st0 m0 h0 => WP.thru h0 m0 fun ov s1 st1 m1 h1 => WP.thru h1 m1 fun k s2 st2 m2 h2 => WP.thru (h2 _ _ _ rfl rfl rfl) m2 fun _ _ st3 m3 h3 => ⟨st3, m3, h3⟩) hsw
theorem SETI_dictI {a : Addr} {kvs : List (Int × Value)} {k : Int} {v : Value} {Q : St → Prop} (ha : st.hp a = some (.dictI kvs)) (hz : kvs.length ≤ sizeLine) (h : Q (st.put a (.dictI (stored kvs k v)))) : SETI c (.ref a) (iv k) v st Q := by
 intro u j w hu hj hw
 rw [z_ref hu]
 obtain ⟨t, rfl⟩ := z_int hj
 refine .of fun s hs => ?_
 obtain ⟨kvs', k1, k2⟩ := (hs.hp a _ ha).1
 refine wpAny_setItem_pairs (knd := intKind PW c.w) (k := k) (kvs := kvs') (intKind_is PW c.w k t) k1 (fun h' hd hsb => ?_) (by rw [← zz_length, k2]; exact hz)
 exact ⟨_, hs.upd (o' := .dictI (stored kvs k v)) ha hsb ⟨_, hd, by rw [zz_stored, k2, hw]⟩, h⟩
theorem SETI_list {a : Addr} {vs : List Value} {n : Nat} {v : Value} {Q : St → Prop} (ha : st.hp a = some (.list vs)) (hn : n < vs.length) (hz : vs.length ≤ sizeLine) (h : Q (st.put a (.list (vs.set n v)))) : SETI c (.ref a) (iv n) v st Q := by
 intro u j w hu hj hw
 rw [z_ref hu]
 obtain ⟨t, rfl⟩ := z_int hj
 refine .of fun s hs => ?_
 obtain ⟨xs, k, k1, k2⟩ := hs.list ha
 have hl : xs.length = vs.length := by rw [← k2, List.length_map]
 have h24 : sizeLine = 16777216 := by decide
 refine ki_setAt (items := xs.toArray) (n := k) k1 (by lia) (by lia) (by simp; lia) ?_
 refine ⟨_, hs.updList ha k1 ?_, h⟩
 simp [← k2, hw, List.map_set]
theorem SETI_last {a : Addr} {vs : List Value} {o v : Value} {Q : St → Prop} (ha : st.hp a = some (.list (vs ++ [o]))) (hz : vs.length < sizeLine) (h : Q (st.put a (.list (vs ++ [v])))) : SETI c (.ref a) (iv (-1)) v st Q := by
 intro u j w hu hj hw
 rw [z_ref hu]
 obtain ⟨t, rfl⟩ := z_int hj
 refine .of fun s hs => ?_
 obtain ⟨xs, k, k1, k2⟩ := hs.list ha
 obtain ⟨ys, y, rfl, e1, e2⟩ : ∃ ys y, xs = ys ++ [y] ∧ ys.map z = vs ∧ z y = o := by
  refine hide fun G9 hG9 => ?_
  obtain ⟨ys, zs, rfl, e1, e2⟩ := List.map_eq_append_iff.mp k2
  obtain ⟨y, rfl, e3⟩ := one e2
  refine hG9 ?_
  exact ⟨ys, y, rfl, e1, e3⟩
 refine ki_setBack (items := (ys ++ [y]).toArray) (n := k) k1 (by lia) (by simp; lia) (by lia) ?_
 refine ⟨_, hs.updList ha k1 ?_, h⟩
 have : (-1 + ((ys ++ [y]).toArray.size : Int)).toNat = ys.length := by simp; lia
 rw [this]
 simp [e1, hw]
noncomputable def DELI (c : Cx) (o i : Value) (st : St) (Q : St → Prop) : Prop := ∀ u j, z u = o → z j = i → WP c (delItem u j) st fun _ st' => Q st'
theorem DELI_dictS {a : Addr} {kvs : List (Str × Value)} {x : Str} {Q : St → Prop} (ha : st.hp a = some (.dictS kvs)) (hx : (valueAt kvs x).isSome = true) (hz : kvs.length ≤ sizeLine) (h : Q (st.put a (.dictS (without kvs x)))) : DELI c (.ref a) (.str x 0) st Q := by
 intro u j hu hj
 rw [z_ref hu]
 obtain ⟨t, rfl⟩ := z_str hj
 refine .of fun s hs => ?_
 obtain ⟨kvs', k1, k2⟩ := (hs.hp a _ ha).1
 unfold delItem
 try with_reducible refine wpAny_holding ?_
 refine wpAny_bind (wpAny_sequenceKey k1.typeIs (by decide) ?_)
 refine wpAny_bind (wpAny_callSpecial?_slot (name := Str.ofString "__delitem__") k1.typeIs PySem.F.slot_dict_delitem
  (call_meetsIn PySem.F.slot_dict_delitem k1.typeIs PySem.F.entry_dict_delitem (PySem.F.args_dict_delitem_2 _ _) (meets_dict_delitem_pairs (PySem.strKind PW c.w) a (strKind_is PW c.w x t)) ⟨kvs', k1, (by rw [← zz_length, k2]; exact hz), ?_, fun h' hmm hsb => ?_⟩))
 ·rw [← k2, zz_valueAt] at hx
  simpa using hx
 ·exact wpAny_pure ⟨_, hs.upd (o' := .dictS (without kvs x)) ha hsb ⟨_, hmm, by rw [zz_without, k2]⟩, h⟩
end
end Mine
end
section
open PySem PySem.W PyProof.Rows PySem.Calls
namespace Mine
theorem SetW.setOf {w : World} {h : Heap} {a : Addr} {S : Str → Bool} {n : Nat} (x : SetW w h a S n) : h.SetOf (PySem.strKind PW w) a S n := by
 refine hide fun G9 hG9 => ?_
 obtain ⟨es, ep, t, h1, g, h3⟩ := x
 refine hG9 ?_
 exact ⟨_, es, ep, t, h1, ⟨rfl, rfl, rfl⟩, rfl, g.elems, g.mem, by simpa using g.room, by simpa using g.fits, h3⟩
theorem orStandIn_led (t : SetTable) (n : Nat) : (t.orStandIn n).led = t.led ∧ (t.plain = false → (t.orStandIn n).plain = false) := by
 unfold SetTable.orStandIn
 split
 ·exact ⟨rfl, id⟩
 ·exact ⟨rfl, fun _ => rfl⟩
theorem put_led (t : SetTable) (j : Nat) : (t.put j).1.led = t.led ∧ (t.put j).1.plain = t.plain := ⟨rfl, rfl⟩
theorem layNew_led (t : SetTable) (es : Array (Int × Value)) (h : Int) (x : Value) : (layNew t es h x).2.1.led = t.led := by
 unfold layNew
 split
 ·exact (orStandIn_led _ _).1
 ·rfl
theorem relayAll_led (t : SetTable) (es : Array (Int × Value)) (n : Nat) : (relayAll t es n).2.1.led = t.led ∧ (t.plain = false → (relayAll t es n).2.1.plain = false) := by
 unfold relayAll
 split
 ·rename_i t' order e
  have : t'.led = t.led ∧ t'.plain = t.plain := by
   unfold SetTable.relaid SetTable.laid at e
   cases q : SetTable.layClean (SetTable.sizeAbove n - 1) (es.map (·.1)) with
   | none => rw [q] at e; cases e
   | some ow =>
    rw [q] at e
    cases e
    exact ⟨rfl, rfl⟩
  dsimp only
  split
  ·exact ⟨this.1, fun q => this.2.trans q⟩
  ·exact ⟨rfl, fun _ => rfl⟩
 ·exact ⟨rfl, fun _ => rfl⟩
theorem layNew_plain (t : SetTable) (es : Array (Int × Value)) (h : Int) (x : Value) (q : t.plain = false) : (layNew t es h x).2.1.plain = false := by
 unfold layNew
 split
 ·exact (orStandIn_led _ _).2 q
 ·rfl
theorem SG.perm {w : World} {es es' : List (Int × Value)} {t t' : SetTable} {S : Str → Bool} (g : SG w es t S) (p : List.Perm es' es) (hf : t'.fits es'.length = true) (hl : t'.led = t.led) (hp : t.plain = false → t'.plain = false) : SG w es' t' S :=
 ⟨g.elems.perm p, fun k => (g.mem k).trans ⟨fun ⟨e, he, q⟩ => ⟨e, p.mem_iff.mpr he, q⟩, fun ⟨e, he, q⟩ => ⟨e, p.mem_iff.mp he, q⟩⟩, by rw [p.length_eq]; exact g.room, hf, hl.trans g.led,
  fun q => hp (g.plain fun e => q (by rw [e] at p; exact List.perm_nil.mp p)), (p.map _).nodup_iff.mpr g.nodup⟩
section
variable {w : World} {A : Around} {E : Value → Shared → Prop} {s : Shared} {a : Addr}
theorem putSet_ex {h : Heap} {es es' : Array (Int × Value)} {ep : Nat} {t t' : SetTable} (ho : h.get? a = some ⟨.type "set", none, .set es ep t, #[]⟩) :
  (h.update a (Obj.putSet es' t')).get? a = some ⟨.type "set", none, .set es' (ep + 1) t', #[]⟩ :=
 Heap.get?_update_self (Obj.putSet es' t') ho rfl
theorem addTail {g : Bool → Sem Unit} (hg : ∀ (b : Bool) (s₁ : Shared) (Q' : Unit → Shared → Prop), Q' () s₁ → wpAny (model PW w) A (g b) Q' E s₁)
  {es : Array (Int × Value)} {ep : Nat} {t : SetTable} (ho : s.heap.get? a = some ⟨.type "set", none, .set es ep t, #[]⟩)
  {es1 : Array (Int × Value)} {t2 : SetTable} {S' : Str → Bool} (G : SG w es1.toList t2 S') {wasDummy : Bool} {R : Option Bool → Shared → Prop}
  (h : ∀ h', Heap.SameBut a s.heap h' → SetW w h' a S' es1.size → R (some true) { s with heap := h' }) :
  wpAny (model PW w) A (do
    storeSet a es1 t2
    if (!wasDummy && t2.tooFull) = true then do
      g (relayAll t2 es1 (SetTable.grown es1.size)).2.2
      storeSet a (relayAll t2 es1 (SetTable.grown es1.size)).1 (relayAll t2 es1 (SetTable.grown es1.size)).2.1
      pure (some true)
     else pure (some true)) R E s := by
 have hz : es1.size ≤ sizeLine := fits_of_scanBound (by simpa using G.room)
 refine wpAny_bind (wpAny_storeSet_of ho rfl ?_ hz)
 have ho1 := putSet_ex (es' := es1) (t' := t2) ho
 have hsb1 := Heap.SameBut.update s.heap a (Obj.putSet es1 t2)
 split
 ·have hp := relayAll_perm t2 es1 (SetTable.grown es1.size)
  have hfr := relayAll_fits t2 es1 (SetTable.grown es1.size)
  have hld := relayAll_led t2 es1 (SetTable.grown es1.size)
  generalize hRl : relayAll t2 es1 (SetTable.grown es1.size) = Rl at hp hfr hld ⊢
  obtain ⟨es2, t3, gave2⟩ := Rl
  dsimp only at hp hfr hld ⊢
  have hsz : es2.size = es1.size := by rw [← Array.length_toList, hp.length_eq, Array.length_toList]
  refine wpAny_bind (hg _ _ _ ?_)
  refine wpAny_bind (wpAny_storeSet_of ho1 rfl ?_ (by rw [hsz]; exact hz))
  refine wpAny_pure (h _ (hsb1.trans (Heap.SameBut.update _ a _)) ⟨_, _, _, putSet_ex ho1, G.perm hp (by simpa using hfr) hld.1 hld.2, hsz⟩)
 ·exact wpAny_pure (h _ hsb1 ⟨_, _, _, ho1, G, rfl⟩)
theorem addW {S : Str → Bool} {n : Nat} {k : Str} {tk : Tok} {Q : Bool → Shared → Prop} (hS : SetW w s.heap a S n) (hroom : n + 1 < scanBound)
  (h : ∀ h', Heap.SameBut a s.heap h' → SetW w h' a (fun k' => S k' || decide (k' = k)) (if S k then n else n + 1) → Q (!S k) { s with heap := h' }) :
  wpAny (model PW w) A (setAddHashed a (.str k tk) ((PySem.strKind PW w).hash k)) Q E s := by
 refine hide fun G9 hG9 => ?_
 obtain ⟨es, ep, t, ho, G, hn⟩ := hS
 refine hG9 ?_
 have hkey : (PySem.strKind PW w).is k (.str k tk) = true := strKind_is PW w k tk
 have hsc : (Value.str k tk).scannable = true := rfl
 have hf : t.fits es.size = true := by simpa using G.fits
 have hb : es.size < scanBound := by simpa using G.room
 unfold setAddHashed setAddHashedIn
 refine wpAny_holding (wpAny_bind (wpAny_setState_of ho rfl hf ?_))
 dsimp only
 rw [byScan_of hsc hb G.elems]
 simp only [↓reduceIte]
 unfold setAddByScan
 refine wpAny_bind ?_
 refine wpAny_bind (wpAny_rule ?_)
 refine wpAny_bind (wpAny_setScan_of hkey ho rfl hf G.elems ?_)
 cases hr : List.findIdx? (fun e => (PySem.strKind PW w).is k e.2) es.toList with
 | some j =>
  dsimp only
  obtain ⟨hj, hpj, _⟩ := List.findIdx?_eq_some_iff_getElem.mp hr
  have hSk : S k = true := (G.mem k).mpr ⟨es.toList[j], List.getElem_mem hj, hpj⟩
  refine wpAny_pure (wpAny_pure ?_)
  have := h s.heap (Heap.SameBut.refl a s.heap) ⟨es, ep, t, ho, ⟨G.elems, fun k' => by
   rw [Bool.or_eq_true, decide_eq_true_eq, ← G.mem k']
   exact ⟨fun hk => hk.elim id (fun e => e ▸ hSk), .inl⟩, G.room, G.fits, G.led, G.plain, G.nodup⟩, by rw [hSk]; exact hn⟩
  rw [hSk] at this; exact this
 | none =>
  dsimp only
  have hno : ∀ e ∈ es.toList, (PySem.strKind PW w).is k e.2 = false := List.findIdx?_eq_none_iff.mp hr
  have hSk : S k = false := by
   cases hk : S k with
   | false => rfl
   | true => obtain ⟨e, he, hp⟩ := (G.mem k).mp hk; have := hno e he; rw [hp] at this; exact Bool.noConfusion this
  have hgw : ∀ (b : Bool) {s₁ : Shared} {Q' : Unit → Shared → Prop}, Q' () s₁ → wpAny (model PW w) A (match b with | true => rule "set.scan.the-table-gave-way" | false => pure ()) Q' E s₁ :=
   fun b s₁ Q' hq => by cases b <;> first | exact wpAny_pure hq | exact wpAny_rule hq
  have hperm := layNew_perm t es ((PySem.strKind PW w).hash k) (.str k tk)
  have hfits := layNew_fits t es ((PySem.strKind PW w).hash k) (.str k tk)
  have hled := layNew_led t es ((PySem.strKind PW w).hash k) (.str k tk)
  have hpl := layNew_plain t es ((PySem.strKind PW w).hash k) (.str k tk)
  generalize hL : layNew t es ((PySem.strKind PW w).hash k) (.str k tk) = L at hperm hfits hled hpl ⊢
  obtain ⟨es1, t1, wasDummy, gave⟩ := L
  dsimp only at hperm hfits hled hpl ⊢
  rw [Array.toList_push] at hperm
  have hsz1 : es1.size = n + 1 := by rw [← Array.length_toList, hperm.length_eq, List.length_append, Array.length_toList, hn]; rfl
  have G1 : ∀ t2 : SetTable, t2.fits es1.size = true → t2.led = t1.led → t2.plain = false → SG w es1.toList t2 (fun k' => S k' || decide (k' = k)) := fun t2 f2 l2 p2 =>
   ⟨(G.elems.push hkey hsc).perm hperm, mem_push_iff hkey G.mem hperm, by rw [Array.length_toList, hsz1]; exact hroom, by simpa using f2, (l2.trans hled).trans G.led, fun _ => p2, by
    rw [(hperm.map _).nodup_iff, List.map_append, List.nodup_append]
    refine ⟨G.nodup, by simp, ?_⟩
    intro x hx y hy e
    simp only [List.map_cons, List.map_nil, List.mem_singleton] at hy
    obtain ⟨e', he', hx'⟩ := List.mem_map.mp hx
    obtain ⟨t', ht'⟩ := z_str (hx'.trans (e.trans hy))
    have := hno e' he'
    rw [ht'] at this
    have h2 : (PySem.strKind PW w).is k (.str k t') = true := strKind_is PW w k t'
    rw [h2] at this; cases this⟩
  refine wpAny_bind (hgw _ ?_)
  have hend : ∀ h', Heap.SameBut a s.heap h' → SetW w h' a (fun k' => S k' || decide (k' = k)) es1.size → Q true { s with heap := h' } := by
   intro h' hsb hS'; have := h h' hsb; rw [hSk] at this; rw [hsz1] at hS'; exact this hS'
  cases hpt : t1.plain with
  | true =>
   simp only [↓reduceIte]
   refine wpAny_bind ?_
   rw [hashByValue_scannable 8 hsc]
   refine wpAny_pure ?_
   refine addTail ?_ ho (G1 _ (SetTable.fits_plain_off hfits) rfl rfl) ?_
   ·intro b s₁ Q' hq; cases b <;> first | exact wpAny_pure hq | exact wpAny_rule hq
   ·intro h' hsb hS'; dsimp only; exact wpAny_pure (hend h' hsb hS')
  | false =>
   simp only [Bool.false_eq_true, ↓reduceIte]
   refine wpAny_bind (wpAny_pure ?_)
   simp only [↓reduceIte]
   refine addTail ?_ ho (G1 _ hfits rfl hpt) ?_
   ·intro b s₁ Q' hq; cases b <;> first | exact wpAny_pure hq | exact wpAny_rule hq
   ·intro h' hsb hS'; dsimp only; exact wpAny_pure (hend h' hsb hS')
theorem call_addW {S : Str → Bool} {n : Nat} {k : Str} {tk : Tok} {Q : Value → Shared → Prop} (hS : SetW w s.heap a S n) (hroom : n + 1 < scanBound)
  (h : ∀ h', Heap.SameBut a s.heap h' → SetW w h' a (fun k' => S k' || decide (k' = k)) (if S k then n else n + 1) → Q .none { s with heap := h', toks := s.toks + 1 }) :
  wpAny (model PW w) A (call (.builtin "set.add") [.ref a, .str k tk]) Q E s := by
 refine wpAny_call_entry F.slot_set_add hS.setOf.typeIs F.entry_set_add ?_ (F.args_set_add_2 _ _)
 unfold Builtin.«set.add» Builtin.Frozenset.oneOther
 simp only [List.isEmpty_nil, bind_assoc]
 unfold Builtin.Frozenset.addrOf setAdd
 refine wpAny_bind (wpAny_pure ?_)
 try dsimp only
 refine wpAny_bind (wpAny_pure ?_)
 try dsimp only
 refine wpAny_bind ?_
 refine wpAny_holding ?_
 refine wpAny_bind ((PySem.strKind PW w).pyHash (strKind_is PW w k tk) ?_)
 refine addW (s := { s with toks := s.toks + 1 }) hS hroom fun h' hsb hS' => ?_
 show wpAny _ _ (ret Value.none) _ _ _
 exact wpAny_pure ⟨_, rfl, h h' hsb hS'⟩
theorem code_newW {Q₁ : Value → Shared → Prop}
  (h : Q₁ (.ref s.heap.objs.size) { s with heap := s.heap.push { cls := .type "set", dict := none, data := .set #[] 0 (.fresh 0 0 (!w.params.followText "set-order")) } }) :
  codeAny (model PW w) A (.call (.builtin "set.__new__") ⟨[.type "set"], []⟩) (wants Q₁ E) s := by
 refine codeAny_of_tree ?_
 show wpAny _ A.in1 (do checkBuiltinCall "set.__new__" ⟨[.type "set"], []⟩; again (.builtin "set.__new__" ⟨[.type "set"], []⟩)) _ _ s
 refine wpAny_bind (wpAny_of_eq F.newCall_set_0 (wpAny_pure ⟨plainId_quiet F.plain_set_new _, codeAny_builtin F.entry_set_new ?_⟩))
 rw [Around.under_plainId F.plain_set_new _]
 unfold Builtin.«set.__new__» Builtin.Frozenset.newClass
 have hsub := sub_set_self
 refine hide fun G9 hG9 => ?_
 obtain ⟨hp, g, d, tk, os⟩ := s
 refine hG9 ?_
 dsimp only
 wp_walk
 refine wpAny_askSetting (wpAny_pure ?_)
 dsimp only
 simp only [newObj]
 refine wpAny_bind (wpAny_alloc (wpAny_pure ?_))
 exact wpAny_pure h
set_option maxHeartbeats 1000000 in
theorem call_newW {Q : Value → Shared → Prop}
  (h : Q (.ref s.heap.objs.size) { s with heap := s.heap.push { cls := .type "set", dict := none, data := .set #[] 0 (.fresh 0 0 (!w.params.followText "set-order")) } }) :
  wpAny (model PW w) A (call (.type "set") []) Q E s := by
 obtain ⟨c, tl, hmro⟩ := F.called_set.mro
 have hmade := F.called_set.made
 have hsub := F.called_set.sub
 refine wpAny_call (codeAny_of_tree ?_)
 show wpAny _ _ (callAny (.type "set") _) _ _ _
 refine wpAny_pure ⟨Code.quiet_builtin _ (by decide +kernel), codeAny_builtin F.entry_type_call ?_⟩
 rw [Around.under_plain (weight_type_call_type "set" [] []) rfl]
 have h1 := F.called_set.notType
 have h2 := F.called_set.canCreate
 have hct := F.typeCall_set_0
 repeat (any_goals (first | assumption | wp_step))
 generalize hled : (!w.params.followText "set-order") = led at h
 refine codeAny_mono (code_newW (E := E) (Q₁ := fun obj s₁ => obj = .ref s.heap.objs.size ∧ s₁ = { s with heap := s.heap.push { cls := .type "set", dict := none, data := .set #[] 0 (.fresh 0 0 led) } }) (by rw [hled]; exact ⟨rfl, rfl⟩)) fun r s₁ hr => ?_
 cases r with
 | error e => exact hr
 | ok fl =>
  cases fl with
  | ret obj =>
   obtain ⟨rfl, rfl⟩ := hr
   have hS : (s.heap.push { cls := .type "set", dict := none, data := .set #[] 0 (.fresh 0 0 led) }).get? s.heap.objs.size = some { cls := .type "set", dict := none, data := .set #[] 0 (.fresh 0 0 led) } := Heap.get?_push_size _ rfl
   have hT : Shared.TypeIs { s with heap := s.heap.push { cls := .type "set", dict := none, data := .set #[] 0 (.fresh 0 0 led) } } (.ref s.heap.objs.size) "set" := ⟨_, hS, rfl⟩
   have hli := F.called_set.init.lookup
   have hbi := F.called_set.init.bind (.ref s.heap.objs.size)
   repeat (any_goals (first | assumption | wp_step))
   refine codeAny_mono (codeAny_call_builtin (R := wants (fun r s₂ => r = .none ∧ Q (.ref s.heap.objs.size) s₂) E) F.called_set.init.plain F.entry_set_init (check_set_init hT ?_)) fun r₂ s₂ hr₂ => ?_
   ·unfold Builtin.«set.__init__» noKeywords
    wp_walk
    exact ⟨rfl, h⟩
   ·cases r₂ with
    | error e => exact hr₂
    | ok fl₂ =>
     cases fl₂ with
     | ret r =>
      obtain ⟨rfl, hq⟩ := hr₂
      repeat (any_goals (first | assumption | wp_step))
     | _ => exact hr₂.elim
  | _ => exact hr.elim
theorem newW_is (h : Heap) : SetW w (h.push { cls := .type "set", dict := none, data := .set #[] 0 (.fresh 0 0 (!w.params.followText "set-order")) }) h.objs.size (fun _ => false) 0 :=
 ⟨#[], 0, _, Heap.get?_push_size _ rfl, ⟨fun e he => by simp at he, fun k => by simp, by decide, by rfl, rfl, fun q => absurd rfl q, List.nodup_nil⟩, rfl⟩
theorem wpAny_choose {src : Source} {n : Nat} {Q : Nat → Shared → Prop} (hn : n ≠ 0) (h : ∀ i dr, i < n → Q i { s with drawn := dr }) : wpAny (model PW w) A (choose src n) Q E s := fun Γ p hΓ => by
 unfold choose
 rw [Sem.wp_choose]
 exact ⟨hn, h _ _ (Nat.mod_lt _ (Nat.pos_of_ne_zero hn))⟩
theorem erase_perm {α : Type} (l : List α) (i : Nat) (hi : i < l.length) : (l[i] :: l.eraseIdx i).Perm l := by
 rw [List.eraseIdx_eq_take_drop_succ]
 have e : l = l.take i ++ l[i] :: l.drop (i + 1) := by rw [← List.drop_eq_getElem_cons hi, List.take_append_drop]
 exact List.perm_middle.symm.trans (List.Perm.of_eq e.symm)
theorem wpAny_drawOrder {α : Type} : ∀ (n : Nat) (xs : List α) (s : Shared) {Q : List α → Shared → Prop}, xs.length = n → (∀ L dr, L.Perm xs → Q L { s with drawn := dr }) → wpAny (model PW w) A (drawOrder n xs) Q E s
 | 0, xs, s, Q, hl, h => by
  unfold drawOrder
  have : xs = [] := List.eq_nil_of_length_eq_zero hl
  subst this
  exact wpAny_pure (h [] s.drawn .nil)
 | n + 1, [], s, Q, hl, h => by cases hl
 | n + 1, x :: r, s, Q, hl, h => by
  unfold drawOrder
  refine wpAny_bind (wpAny_choose (by simp) fun i dr hi => ?_)
  have e : (x :: r)[i]? = some (x :: r)[i] := List.getElem?_eq_getElem hi
  rw [e]
  dsimp only
  refine wpAny_bind (wpAny_drawOrder n ((x :: r).eraseIdx i) { s with drawn := dr } (by rw [List.length_eraseIdx]; simp only [hi, if_true]; rw [hl]; rfl) fun L dr' hp => wpAny_pure ?_)
  refine h _ dr' ?_
  refine (List.Perm.cons _ hp).trans ?_
  exact erase_perm (x :: r) i hi
end
end Mine
end
section
open PySem PySem.W PyProof.Rows PySem.Calls
namespace Mine
namespace SI
theorem slot_iter : Slot "set_iterator" "__iter__" "set_iterator.__iter__" :=
 .of (owner := "set_iterator") (n := "__iter__") (by rw [typeLookup_type, builtinLookup_eq_fast]; kernel_rfl) (by decide +kernel) (by decide +kernel) (by decide +kernel)
  (by first | exact .inl (by decide +kernel) | exact .inr (by decide +kernel)) (by rw [isSubtype_type]; kernel_rfl)
theorem slot_next : Slot "set_iterator" "__next__" "set_iterator.__next__" :=
 .of (owner := "set_iterator") (n := "__next__") (by rw [typeLookup_type, builtinLookup_eq_fast]; kernel_rfl) (by decide +kernel) (by decide +kernel) (by decide +kernel)
  (by first | exact .inl (by decide +kernel) | exact .inr (by decide +kernel)) (by rw [isSubtype_type]; kernel_rfl)
theorem entry_iter : entryFor table "set_iterator.__iter__" = some Builtin.«dict_keyiterator.__iter__» :=
 entryFor_alias (id' := "dict_keyiterator.__iter__") (by kernel_rfl) rfl (by decide +kernel) (by kernel_rfl)
theorem entry_next : entryFor table "set_iterator.__next__" = some Builtin.«set_iterator.__next__» := entryFor_of_tree (by kernel_rfl)
theorem args_iter (a : Value) : argsOk "set_iterator.__iter__" ⟨[a], []⟩ := by unfold argsOk; kernel_rfl
theorem args_next (a : Value) : argsOk "set_iterator.__next__" ⟨[a], []⟩ := by unfold argsOk; kernel_rfl
theorem entry_set_iter : entryFor table "set.__iter__" = some Builtin.«frozenset.__iter__» :=
 entryFor_alias (id' := "frozenset.__iter__") (by kernel_rfl) rfl (by decide +kernel) (by kernel_rfl)
theorem args_set_iter (a : Value) : argsOk "set.__iter__" ⟨[a], []⟩ := by unfold argsOk; kernel_rfl
end SI
noncomputable abbrev ItAt (h : Heap) (I a : Addr) (first : Value) (i n ep : Nat) : Prop :=
 h.get? I = some { cls := .type "set_iterator", dict := none, data := .fields #[first, rawInt i, .ref a, rawInt n, rawInt ep], slots := #[] }
noncomputable abbrev SetAt (h : Heap) (a : Addr) (es : Array (Int × Value)) (ep : Nat) (t : SetTable) : Prop := h.get? a = some ⟨.type "set", none, .set es ep t, #[]⟩
section
variable {w : World} {A : Around} {E : Value → Shared → Prop} {s : Shared} {I a : Addr} {es : Array (Int × Value)} {ep i : Nat} {t : SetTable} {first : Value}
theorem fieldsUpd {h : Heap} {I : Addr} {fs : Array Value} {k : Nat} {v : Value} (h1 : h.get? I = some { cls := .type "set_iterator", dict := none, data := .fields fs, slots := #[] }) :
  (h.update I (Obj.mapFields (·.setIfInBounds k v))).get? I = some { cls := .type "set_iterator", dict := none, data := .fields (fs.setIfInBounds k v), slots := #[] } :=
 Heap.get?_update_self _ h1 rfl
noncomputable def nextBody (I a : Addr) (first : Value) (i : Nat) (ep : Nat) : Sem Fin := do
   if let .int slot _ := first then
    match ← setNext a slot.toNat i ep with
    | some (x, next) =>
     setField (.ref I) 0 (rawInt next)
     setField (.ref I) 1 (rawInt ((i : Int) + 1))
     ret x
    | none => setField (.ref I) 2 .none; raiseNew (← newExc (.type "StopIteration") [])
   else
    let some places ← seqItems? first | unsupported "internal:set_iterator"
    match places[i]? with
    | some (.int place _) =>
     let x ← setNextDrawn a place.toNat ep
     setField (.ref I) 1 (rawInt ((i : Int) + 1))
     ret x
    | some _ => unsupported "internal:set_iterator"
    | none => setField (.ref I) 0 (rawInt 0); setField (.ref I) 2 .none; raiseNew (← newExc (.type "StopIteration") [])
theorem next_of {Q : Option Value → Shared → Prop} (hI : ItAt s.heap I a first i es.size ep) (hS : SetAt s.heap a es ep t) (hf : t.fits es.size = true)
  (h : wpAny (model PW w) A.in1 (nextBody I a first i ep) (fun fin s' => ∃ v, fin = .done (.ret v) ∧ Q (some v) s') (fun e s' => wpAny (model PW w) A (do if ← isInstance e (.type "StopIteration") then pure none else throw e) Q E s') s) : wpAny (model PW w) A (pyNext (.ref I)) Q E s := by
 unfold pyNext
 have hT : s.TypeIs (.ref I) "set_iterator" := ⟨_, hI, rfl⟩
 refine wpAny_bind (wpAny_attempt (wpAny_callSpecial?_slot (name := Str.ofString "__next__") hT SI.slot_next
  (wpAny_call_entry SI.slot_next hT SI.entry_next ?_ (SI.args_next _))))
 unfold Builtin.«set_iterator.__next__»
 refine wpAny_bind (wpAny_pure ?_)
 refine wpAny_bind (wpAny_fieldsOf hI rfl ?_)
 dsimp only [rawInt]
 refine wpAny_bind (wpAny_setEntries_of hS rfl hf ?_)
 rw [if_neg (by simp)]
 show wpAny _ _ (nextBody I a first (i : Int).toNat (ep : Int).toNat) _ _ _
 rw [Int.toNat_natCast, Int.toNat_natCast]
 refine wpAny_mono h ?_ fun _ _ x => x
 rintro fin s' ⟨v, rfl, hQ⟩
 exact ⟨v, rfl, wpAny_pure hQ⟩
theorem raiseStop {P : Fin → Shared → Prop} {Q : Option Value → Shared → Prop} (hh : A.handled = none) (hQ : ∀ h', (∀ b o, s.heap.get? b = some o → h'.get? b = some o) → Q none { s with heap := h' }) :
  wpAny (model PW w) A.in1 (do raiseNew (← newExc (.type "StopIteration") [])) P (fun e s' => wpAny (model PW w) A (do if ← isInstance e (.type "StopIteration") then pure none else throw e) Q E s') s := by
 refine wpAny_bind ?_
 simp only [newExc, newTuple]
 refine wpAny_bind (wpAny_newObj_type ?_ (by size_fits))
 refine wpAny_bind (m := firstArgMember _ _) (wpAny_of_eq (a := Value.none) (by first | rfl | (simp only [firstArgMember]; rfl)) ?_)
 refine wpAny_newObj_type ?_ (by size_fits)
 simp only [raiseNew]
 refine wpAny_bind (wpAny_handled ?_)
 rw [show A.in1.handled = none from hh]
 refine wpAny_bind (wpAny_pure (wpAny_throw ?_))
 refine wpAny_bind (wpAny_isInstance (T := "StopIteration") (b := true) ⟨_, Heap.get?_push_size _ rfl, rfl⟩ isSubtype_stop ?_)
 exact wpAny_pure (hQ _ fun b o e => Heap.get?_push_of_some _ (Heap.get?_push_of_some _ e))
theorem upd_ne {h : Heap} {I b : Addr} {f : Obj → Obj} {o : Obj} (hb : b ≠ I) (e : h.get? b = some o) : (h.update I f).get? b = some o := ((Heap.SameBut.update h I f).2 b hb).trans e
theorem item_int {Q : Option Value → Shared → Prop} {slot next : Nat} {x : Value} (hI : ItAt s.heap I a (rawInt slot) i es.size ep) (hS : SetAt s.heap a es ep t) (hf : t.fits es.size = true) (hne : a ≠ I)
  (hn : ∀ {E' : Value → Shared → Prop} {Q' : Option (Value × Nat) → Shared → Prop}, Q' (some (x, next)) s → wpAny (model PW w) A.in1 (setNext a slot i ep) Q' E' s)
  (hQ : ∀ h', ItAt h' I a (rawInt next) (i + 1) es.size ep → SetAt h' a es ep t → (∀ b o, b ≠ I → s.heap.get? b = some o → h'.get? b = some o) → Q (some x) { s with heap := h' }) : wpAny (model PW w) A (pyNext (.ref I)) Q E s := by
 refine next_of hI hS hf ?_
 unfold nextBody rawInt
 simp only [Int.toNat_natCast]
 refine wpAny_bind (hn ?_)
 dsimp only
 refine wpAny_bind (wpAny_setField hI rfl (by simp) ?_)
 have h1 := fieldsUpd (k := 0) (v := rawInt next) hI
 refine wpAny_bind (wpAny_setField h1 rfl (by simp) ?_)
 have h2 := fieldsUpd (k := 1) (v := rawInt ((i : Int) + 1)) h1
 refine wpAny_pure ⟨_, rfl, ?_⟩
 have hk : ∀ b o, b ≠ I → s.heap.get? b = some o → ((s.heap.update I (Obj.mapFields (·.setIfInBounds 0 (rawInt next)))).update I (Obj.mapFields (·.setIfInBounds 1 (rawInt ((i : Int) + 1))))).get? b = some o :=
  fun b o hb e => upd_ne hb (upd_ne hb e)
 exact hQ _ (Eq.trans h2 (by simp [rawInt])) (hk a _ hne hS) hk
theorem end_int {Q : Option Value → Shared → Prop} {slot : Nat} (hh : A.handled = none) (hI : ItAt s.heap I a (rawInt slot) i es.size ep) (hS : SetAt s.heap a es ep t) (hf : t.fits es.size = true)
  (hn : ∀ {E' : Value → Shared → Prop} {Q' : Option (Value × Nat) → Shared → Prop}, Q' none s → wpAny (model PW w) A.in1 (setNext a slot i ep) Q' E' s)
  (hQ : ∀ h', (∀ b o, b ≠ I → s.heap.get? b = some o → h'.get? b = some o) → Q none { s with heap := h' }) : wpAny (model PW w) A (pyNext (.ref I)) Q E s := by
 refine next_of hI hS hf ?_
 unfold nextBody rawInt
 simp only [Int.toNat_natCast]
 refine wpAny_bind (hn ?_)
 dsimp only
 refine wpAny_bind (wpAny_setField hI rfl (by simp) ?_)
 refine raiseStop hh fun h' k => hQ h' fun b o hb e => k b o (upd_ne hb e)
theorem setNext_text {A : Around} {E' : Value → Shared → Prop} {slot : Nat} {Q' : Option (Value × Nat) → Shared → Prop} (ht : w.params.followText "set-order" = true) (hS : SetAt s.heap a es ep t) (hf : t.fits es.size = true)
  (h : Q' (((pickOrder (w.params.setOrder a ep) es)[i]?).map fun e => (e.2, slot)) s) : wpAny (model PW w) A (setNext a slot i ep) Q' E' s := by
 unfold setNext setsByText
 refine wpAny_bind (wpAny_setState_of hS rfl hf ?_)
 dsimp only
 refine wpAny_bind (wpAny_bind (wpAny_askSetting (wpAny_pure ?_)))
 rw [show (model PW w).w = w from rfl, ht]
 simp only [if_true]
 rw [if_neg (by simp)]
 unfold setWalk setsByText
 refine wpAny_bind (wpAny_bind (wpAny_setState_of hS rfl hf ?_))
 dsimp only
 refine wpAny_bind (wpAny_bind (wpAny_askSetting (wpAny_pure ?_)))
 rw [show (model PW w).w = w from rfl, ht]
 simp only [if_true]
 refine wpAny_bind (wpAny_askSetting (wpAny_pure (wpAny_pure ?_)))
 exact h
theorem setNext_led {A : Around} {E' : Value → Shared → Prop} {slot : Nat} {Q' : Option (Value × Nat) → Shared → Prop} (ht : w.params.followText "set-order" = false) (hS : SetAt s.heap a es ep t) (hf : t.fits es.size = true)
  (hd : es.size ≤ 1) (hl : t.led = true) 
  (h : Q' (match es[SetTable.below t.place slot]?, t.place[SetTable.below t.place slot]? with | some (_, x), some j => some (x, j + 1) | _, _ => none) s) : wpAny (model PW w) A (setNext a slot i ep) Q' E' s := by
 unfold setNext setsByText
 refine wpAny_bind (wpAny_setState_of hS rfl hf ?_)
 dsimp only
 refine wpAny_bind (wpAny_bind (wpAny_askSetting (wpAny_pure ?_)))
 rw [show (model PW w).w = w from rfl, ht]
 simp only [Bool.false_eq_true, if_false]
 refine KFB.if_not (show (!t.plain && decide (es.size > 1)) = false from by simp; omega) ?_
 refine wpAny_bind (wpAny_of_eq (a := ()) (show (if (!t.led && !es.isEmpty) = true then unsupported "set:maker-not-led" else pure ()) = pure () from by rw [hl]; rfl) ?_)
 exact wpAny_pure h
theorem item_drawn {Q : Option Value → Shared → Prop} {T : Addr} {pl : List Nat} {m p : Nat} {hx : Int} {x : Value} (hI : ItAt s.heap I a (.ref T) i es.size ep) (hS : SetAt s.heap a es ep t) (hT : s.heap.get? T = some ⟨.type "tuple", none, .seq (pl.map fun (k : Nat) => rawInt k).toArray m, #[]⟩) (hf : t.fits es.size = true) (hne : a ≠ I)
  (hp : pl[i]? = some p) (hx : es[p]? = some (hx, x))
  (hQ : ∀ h', ItAt h' I a (.ref T) (i + 1) es.size ep → (∀ b o, b ≠ I → s.heap.get? b = some o → h'.get? b = some o) → Q (some x) { s with heap := h' }) : wpAny (model PW w) A (pyNext (.ref I)) Q E s := by
 refine next_of hI hS hf ?_
 unfold nextBody
 simp only []
 refine wpAny_bind (wpAny_seqItems hT rfl ?_)
 have e : (pl.map fun (k : Nat) => rawInt k).toArray[i]? = some (.int p 0) := by simp [hp, rawInt]
 dsimp only
 rw [e]
 dsimp only
 refine wpAny_bind ?_
 unfold setNextDrawn
 refine wpAny_bind (wpAny_setState_of hS rfl hf ?_)
 dsimp only
 rw [if_neg (by simp), Int.toNat_natCast, hx]
 refine wpAny_pure (wpAny_bind (wpAny_setField hI rfl (by simp) ?_))
 have h2 := fieldsUpd (k := 1) (v := rawInt ((i : Int) + 1)) hI
 exact wpAny_pure ⟨_, rfl, hQ _ (Eq.trans h2 (by simp [rawInt])) fun b o hb e => upd_ne hb e⟩
theorem end_drawn {Q : Option Value → Shared → Prop} {T : Addr} {pl : List Nat} {m : Nat} (hh : A.handled = none) (hI : ItAt s.heap I a (.ref T) i es.size ep) (hS : SetAt s.heap a es ep t) (hT : s.heap.get? T = some ⟨.type "tuple", none, .seq (pl.map fun (k : Nat) => rawInt k).toArray m, #[]⟩) (hf : t.fits es.size = true)
  (hp : pl[i]? = none)
  (hQ : ∀ h', (∀ b o, b ≠ I → s.heap.get? b = some o → h'.get? b = some o) → Q none { s with heap := h' }) : wpAny (model PW w) A (pyNext (.ref I)) Q E s := by
 refine next_of hI hS hf ?_
 unfold nextBody
 simp only []
 refine wpAny_bind (wpAny_seqItems hT rfl ?_)
 have e : (pl.map fun (k : Nat) => rawInt k).toArray[i]? = none := by
  simpa using hp
 dsimp only
 rw [e]
 dsimp only
 refine wpAny_bind (wpAny_setField hI rfl (by simp) ?_)
 have h1 := fieldsUpd (k := 0) (v := rawInt 0) hI
 refine wpAny_bind (wpAny_setField h1 rfl (by simp) ?_)
 refine raiseStop hh fun h' k => hQ h' fun b o hb e => k b o (upd_ne hb (upd_ne hb e))
theorem pick_perm {α : Type} (next : Nat → Nat) : ∀ (n k : Nat) (left : List α) (out : Array α), left.length = n → (pickOrder.go next n k left out).toList.Perm (out.toList ++ left)
 | 0, k, left, out, h => by
  have : left = [] := List.eq_nil_of_length_eq_zero h
  subst this
  unfold pickOrder.go
  simp
 | n + 1, k, left, out, h => by
  unfold pickOrder.go
  have hi : next k % left.length < left.length := Nat.mod_lt _ (by omega)
  rw [List.getElem?_eq_getElem hi]
  dsimp only
  refine (pick_perm next n (k + 1) _ _ (by rw [List.length_eraseIdx]; simp only [hi, if_true]; omega)).trans ?_
  rw [Array.toList_push, List.append_assoc]
  refine List.Perm.append_left _ ?_
  exact erase_perm left _ hi
theorem pickOrder_perm {α : Type} (next : Nat → Nat) (xs : Array α) : (pickOrder next xs).toList.Perm xs.toList := by
 unfold pickOrder
 have := pick_perm next xs.size 0 xs.toList #[] (by simp)
 simpa using this
theorem iter_self {T : Type} {Q : Value → Shared → Prop} (hI : s.TypeIs (.ref I) "set_iterator") (hQ : Q (.ref I) s) : wpAny (model PW w) A (pyIter (.ref I)) Q E s := by
 refine wpAny_pyIter_slot hI SI.slot_iter (wpAny_call_entry SI.slot_iter hI SI.entry_iter ?_ (SI.args_iter _))
 show wpAny _ _ (ret (.ref I)) _ _ s
 exact wpAny_pure ⟨_, rfl, "set_iterator", _, hI, SI.slot_next.lookup, hQ⟩
theorem walks_text (hh : A.handled = none) (I a : Addr) (hne : a ≠ I) (es : Array (Int × Value)) (ep : Nat) (t : SetTable) (hf : t.fits es.size = true) (ht : w.params.followText "set-order" = true) :
  Walks PW w A I [I, a] [I] es.size (fun i v => ((pickOrder (w.params.setOrder a ep) es).toList.map (·.2))[i]? = some v) (fun i h => ItAt h I a (rawInt ((0 : Nat) : Int)) i es.size ep ∧ SetAt h a es ep t) where
 sub := fun b hb => by simp at hb; simp [hb]
 frame := fun _ _ _ st hk => ⟨hk I (by simp) _ st.1, hk a (by simp) _ st.2⟩
 item := fun i s Q E hi st hQ => by
  have hlen : (pickOrder (w.params.setOrder a ep) es).size = es.size := by
   have := (pickOrder_perm (w.params.setOrder a ep) es).length_eq
   simpa using this
  have e : (pickOrder (w.params.setOrder a ep) es)[i]? = some (pickOrder (w.params.setOrder a ep) es)[i] := Array.getElem?_eq_getElem (by omega)
  refine item_int (next := 0) (x := (pickOrder (w.params.setOrder a ep) es)[i].2) st.1 st.2 hf hne (fun q => setNext_text ht st.2 hf (by rw [e]; exact q)) fun h' h1 h2 h3 => ?_
  exact hQ _ h' s.toks (by simp [e]) ⟨h1, h2⟩ fun b o hb e => h3 b o (fun q => hb (by simp [q])) e
 done := fun s Q E st hQ => by
  have hlen : (pickOrder (w.params.setOrder a ep) es).size = es.size := by
   have := (pickOrder_perm (w.params.setOrder a ep) es).length_eq
   simpa using this
  have e : (pickOrder (w.params.setOrder a ep) es)[es.size]? = none := Array.getElem?_eq_none (by omega)
  exact end_int hh st.1 st.2 hf (fun q => setNext_text ht st.2 hf (by rw [e]; exact q)) fun h' h3 => hQ h' s.toks fun b o hb e => h3 b o (fun q => hb (by simp [q])) e
 self := fun i s Q E st hQ => iter_self (T := Nat) ⟨_, st.1, rfl⟩ hQ
theorem walks_led (hh : A.handled = none) (I a : Addr) (hne : a ≠ I) (es : Array (Int × Value)) (ep : Nat) (t : SetTable) (hf : t.fits es.size = true) (ht : w.params.followText "set-order" = false) (hd : es.size ≤ 1) (hl : t.led = true) :
  Walks PW w A I [I, a] [I] es.size (fun i v => (es.toList.map (·.2))[i]? = some v) (fun i h => ItAt h I a (rawInt ((if i = 0 then 0 else t.place.getD 0 0 + 1 : Nat) : Int)) i es.size ep ∧ SetAt h a es ep t) where
 sub := fun b hb => by simp at hb; simp [hb]
 frame := fun _ _ _ st hk => ⟨hk I (by simp) _ st.1, hk a (by simp) _ st.2⟩
 item := fun i s Q E hi st hQ => by
  have hi0 : i = 0 := by omega
  subst hi0
  have hsz : es.size = 1 := by omega
  have hp : t.place.size = 1 := by
   unfold SetTable.fits at hf
   simp only [Bool.and_eq_true, beq_iff_eq] at hf
   omega
  have hb : SetTable.below t.place 0 = 0 := by
   unfold SetTable.below
   rw [hp]
   simp [SetTable.below.go]
  have e1 : es[0]? = some es[0] := Array.getElem?_eq_getElem (by omega)
  have e2 : t.place[0]? = some (t.place.getD 0 0) := by simp [Array.getD, hp]
  refine item_int (slot := 0) (next := t.place.getD 0 0 + 1) (x := es[0].2) st.1 st.2 hf hne (fun q => setNext_led ht st.2 hf hd hl (by rw [hb, e1, e2]; exact q)) fun h' h1 h2 h3 => ?_
  exact hQ _ h' s.toks (by simp [e1]) ⟨h1, h2⟩ fun b o hb e => h3 b o (fun q => hb (by simp [q])) e
 done := fun s Q E st hQ => by
  have key : es[SetTable.below t.place (if es.size = 0 then 0 else t.place.getD 0 0 + 1)]? = none := by
   apply Array.getElem?_eq_none
   have hp : t.place.size = es.size := by
    unfold SetTable.fits at hf
    simp only [Bool.and_eq_true, beq_iff_eq] at hf
    exact hf.1
   by_cases h0 : es.size = 0
   ·omega
   ·have hsz : es.size = 1 := by omega
    rw [if_neg h0, hsz]
    unfold SetTable.below
    rw [hp, hsz]
    unfold SetTable.below.go
    have h2 : t.place[0]? = some (t.place.getD 0 0) := by simp [Array.getD, hp, hsz]
    simp [SetTable.below.go]
    rw [h2]
    simp
  refine end_int (slot := if es.size = 0 then 0 else t.place.getD 0 0 + 1) hh st.1 st.2 hf (fun q => setNext_led ht st.2 hf hd hl (by rw [key]; exact q)) fun h' h3 => hQ h' s.toks fun b o hb e => h3 b o (fun q => hb (by simp [q])) e
 self := fun i s Q E st hQ => iter_self (T := Nat) ⟨_, st.1, rfl⟩ hQ
theorem walks_drawn (hh : A.handled = none) (I a T : Addr) (hne : a ≠ I) (hT : T ≠ I) (es : Array (Int × Value)) (ep m : Nat) (t : SetTable) (hf : t.fits es.size = true) (pl : List Nat) (hpl : pl.Perm (List.range es.size)) :
  Walks PW w A I [I, a, T] [I] es.size (fun i v => (pl.filterMap fun p => es[p]?.map (·.2))[i]? = some v) (fun i h => ItAt h I a (.ref T) i es.size ep ∧ SetAt h a es ep t ∧ h.get? T = some ⟨.type "tuple", none, .seq (pl.map fun (k : Nat) => rawInt k).toArray m, #[]⟩) where
 sub := fun b hb => by simp at hb; simp [hb]
 frame := fun _ _ _ st hk => ⟨hk I (by simp) _ st.1, hk a (by simp) _ st.2.1, hk T (by simp) _ st.2.2⟩
 item := fun i s Q E hi st hQ => by
  have hlen : pl.length = es.size := by rw [hpl.length_eq, List.length_range]
  have e : pl[i]? = some pl[i] := List.getElem?_eq_getElem (by omega)
  have hlt : ∀ p ∈ pl, p < es.size := fun p hp => List.mem_range.mp (hpl.mem_iff.mp hp)
  have hp : pl[i] < es.size := hlt _ (List.getElem_mem _)
  have e2 : es[pl[i]]? = some (es[pl[i]].1, es[pl[i]].2) := Array.getElem?_eq_getElem hp
  have e3 : pl.filterMap (fun p => es[p]?.map (·.2)) = pl.map fun p => (es[p]?.map (·.2)).getD .none := by
   clear hlen e e2 hp hpl st hQ hi
   induction pl with
   | nil => rfl
   | cons q r ih =>
    have h1 := hlt q (.head _)
    rw [List.filterMap_cons, Array.getElem?_eq_getElem h1]
    simp only [Option.map_some, List.map_cons]
    rw [ih fun p hp => hlt p (.tail _ hp), Array.getElem?_eq_getElem h1]
    rfl
  refine item_drawn (p := pl[i]) st.1 st.2.1 st.2.2 hf hne e e2 fun h' h1 h3 => ?_
  refine hQ _ h' s.toks ?_ ⟨h1, h3 _ _ hne st.2.1, h3 _ _ hT st.2.2⟩ fun b o hb e => h3 b o (fun q => hb (by simp [q])) e
  rw [e3]
  simp [e, e2]
 done := fun s Q E st hQ => by
  have hlen : pl.length = es.size := by rw [hpl.length_eq, List.length_range]
  exact end_drawn hh st.1 st.2.1 st.2.2 hf (List.getElem?_eq_none (by omega)) fun h' h3 => hQ h' s.toks fun b o hb e => h3 b o (fun q => hb (by simp [q])) e
 self := fun i s Q E st hQ => iter_self (T := Nat) ⟨_, st.1, rfl⟩ hQ
end
end Mine
end
section
open PySem PySem.W PyProof.Rows PySem.Calls
namespace Mine
section
variable {w : World} {A : Around} {E : Value → Shared → Prop} {s : Shared} {I a : Addr} {es : Array (Int × Value)} {ep i : Nat} {t : SetTable}
structure SetWalk (w : World) (A : Around) (s : Shared) (a : Addr) (L : List Value) (h1 : Heap) (I : Addr) (fp : List Addr) (St : Nat → Heap → Prop) : Prop where
 walks : Walks PW w A I fp [I] L.length (fun i v => L[i]? = some v) St
 start : St 0 h1
 keep : ∀ b o, s.heap.get? b = some o → h1.get? b = some o
 fresh : s.heap.objs.size ≤ I
 foot : ∀ b ∈ fp, b = a ∨ s.heap.objs.size ≤ b
 mem : a ∈ fp
 live : ∀ i h, St i h → ∀ b ∈ fp, ∃ o, h.get? b = some o
theorem iterSet {Q : Value → Shared → Prop} (hh : A.handled = none) (hS : SetAt s.heap a es ep t) (hf : t.fits es.size = true) (hl : t.led = !(w.params.followText "set-order")) (hpl : es.size ≠ 0 → t.plain = false) (hz : es.size ≤ sizeLine)
  (hQ : ∀ L h1 I fp St dr, L.Perm (es.toList.map (·.2)) → SetWalk w A s a L h1 I fp St → Q (.ref I) { s with heap := h1, drawn := dr }) : wpAny (model PW w) A (pyIter (.ref a)) Q E s := by
 have hT : s.TypeIs (.ref a) "set" := ⟨_, hS, rfl⟩
 have halt : a < s.heap.objs.size := Heap.lt_size hS
 refine wpAny_pyIter_slot hT F.slot_set_iter (wpAny_call_entry F.slot_set_iter hT SI.entry_set_iter ?_ (SI.args_set_iter _))
 unfold Builtin.«frozenset.__iter__» Builtin.Frozenset.slot0 slotArgs
 simp only [List.isEmpty_nil, Bool.not_true, Bool.false_eq_true, ↓reduceIte, bind_assoc, List.length_nil, bne_self_eq_false]
 unfold Builtin.Frozenset.addrOf Builtin.Frozenset.sizeOf
 refine wpAny_bind (wpAny_pure ?_)
 try dsimp only
 refine wpAny_bind (wpAny_pure ?_)
 refine wpAny_bind (wpAny_bind (wpAny_setEntries_of hS rfl hf (wpAny_pure ?_)))
 have out : ∀ (first : Value) (h1 : Heap) (dr : _) (fp : List Addr) (L : List Value) (St : Nat → Heap → Prop), h1.get? a = s.heap.get? a → (∀ b o, s.heap.get? b = some o → h1.get? b = some o) → s.heap.objs.size ≤ h1.objs.size →
   L.Perm (es.toList.map (·.2)) → Walks PW w A h1.objs.size fp [h1.objs.size] L.length (fun i v => L[i]? = some v) St →
   St 0 (h1.push { cls := .type "set_iterator", data := .fields #[first, rawInt 0, .ref a, rawInt es.size, rawInt ep] }) → (∀ b ∈ fp, b = a ∨ s.heap.objs.size ≤ b) → a ∈ fp → (∀ i h, St i h → ∀ b ∈ fp, ∃ o, h.get? b = some o) →
   wpAny (model PW w) A.in1 (do ret (← newFields "set_iterator" [first, rawInt 0, .ref a, rawInt es.size, rawInt (← setEpoch a)])) (fun fin s' => ∃ v, fin = .done (.ret v) ∧ ∃ T' r, s'.TypeIs v T' ∧ typeLookup (.type T') "__next__" = pure (some r) ∧ Q v s') E { s with heap := h1, drawn := dr } := by
  intro first h1 dr fp L St ha hk hz hp W hst hfp hm hlv
  refine wpAny_bind (m := setEpoch a) (wpAny_setEpoch_of (s := { s with heap := h1, drawn := dr }) (ha.trans hS) rfl hf ?_)
  refine wpAny_bind (wpAny_newObj_type (wpAny_pure ?_) (by size_fits))
  refine ⟨_, rfl, "set_iterator", _, ⟨_, Heap.get?_push_size _ rfl, rfl⟩, SI.slot_next.lookup, ?_⟩
  exact hQ L _ _ fp St dr hp ⟨W, hst, fun b o e => Heap.get?_push_of_some _ (hk b o e), hz, hfp, hm, hlv⟩
 unfold setDrawn setsByText
 refine wpAny_bind ?_
 refine wpAny_bind (wpAny_setState_of hS rfl hf ?_)
 dsimp only
 refine wpAny_bind (wpAny_bind (wpAny_askSetting (wpAny_pure ?_)))
 rw [show (model PW w).w = w from rfl]
 cases ht : w.params.followText "set-order" with
 | true =>
  refine wpAny_pure ?_
  simp only [Bool.not_true, Bool.false_and, Bool.false_eq_true, if_false]
  refine wpAny_bind (wpAny_pure ?_)
  have hlen : ((pickOrder (w.params.setOrder a ep) es).toList.map (·.2)).length = es.size := by
   have := (pickOrder_perm (w.params.setOrder a ep) es).length_eq
   simpa using this
  have W := walks_text (w := w) (A := A) hh s.heap.objs.size a (Nat.ne_of_lt halt) es ep t hf ht
  refine out (rawInt 0) s.heap s.drawn [s.heap.objs.size, a] _ _ rfl (fun b o e => e) (Nat.le_refl _) ((pickOrder_perm (w.params.setOrder a ep) es).map _) (by rw [hlen]; exact W) ?_ ?_ (by simp) ?_
  ·exact ⟨Heap.get?_push_size _ rfl, Heap.get?_push_of_some _ hS⟩
  ·intro b hb
   rcases List.mem_cons.mp hb with rfl | hb
   ·exact .inr (Nat.le_refl _)
   ·exact .inl (List.mem_singleton.mp hb)
  ·rintro i h ⟨h1, h2⟩ b hb
   rcases List.mem_cons.mp hb with rfl | hb
   ·exact ⟨_, h1⟩
   ·rw [List.mem_singleton.mp hb]; exact ⟨_, h2⟩
 | false =>
  refine wpAny_pure ?_
  by_cases hd : es.size ≤ 1
  ·refine KFB.if_not (show (!false && (!t.plain && decide (es.size > 1))) = false from by simp; lia) ?_
   refine wpAny_bind (wpAny_pure ?_)
   have hlen : (es.toList.map (·.2)).length = es.size := by simp
   have W := walks_led (w := w) (A := A) hh s.heap.objs.size a (Nat.ne_of_lt halt) es ep t hf ht hd (by rw [hl, ht]; rfl)
   refine out (rawInt 0) s.heap s.drawn [s.heap.objs.size, a] _ _ rfl (fun b o e => e) (Nat.le_refl _) (.refl _) (by rw [hlen]; exact W) ?_ ?_ (by simp) ?_
   ·exact ⟨Heap.get?_push_size _ rfl, Heap.get?_push_of_some _ hS⟩
   ·intro b hb
    rcases List.mem_cons.mp hb with rfl | hb
    ·exact .inr (Nat.le_refl _)
    ·exact .inl (List.mem_singleton.mp hb)
   ·rintro i h ⟨h1, h2⟩ b hb
    rcases List.mem_cons.mp hb with rfl | hb
    ·exact ⟨_, h1⟩
    ·rw [List.mem_singleton.mp hb]; exact ⟨_, h2⟩
  ·have hp : t.plain = false := hpl (by lia)
   refine KFB.if_so (show (!false && (!t.plain && decide (es.size > 1))) = true from by rw [hp]; simp; lia) ?_
   refine wpAny_bind (wpAny_drawOrder es.size (List.range es.size) s (by simp) fun pl dr hpl => ?_)
   have hlt : ∀ p ∈ pl, p < es.size := fun p hp => List.mem_range.mp (hpl.mem_iff.mp hp)
   have hfm : ∀ l : List Nat, (∀ p ∈ l, p < es.size) → l.filterMap (fun p => es[p]?.map (·.2)) = l.map fun p => (es[p]?.map (·.2)).getD .none := by
    intro l
    induction l with
    | nil => intro _; rfl
    | cons q r ih =>
     intro hlt
     have h1 := hlt q (.head _)
     rw [List.filterMap_cons, Array.getElem?_eq_getElem h1]
     simp only [Option.map_some, List.map_cons]
     rw [ih fun p hp => hlt p (.tail _ hp), Array.getElem?_eq_getElem h1]
     rfl
   have hlen : (pl.filterMap fun p => es[p]?.map (·.2)).length = es.size := by
    rw [hfm pl hlt, List.length_map, hpl.length_eq, List.length_range]
   have hperm : (pl.filterMap fun p => es[p]?.map (·.2)).Perm (es.toList.map (·.2)) := by
    refine (hpl.filterMap _).trans (List.Perm.of_eq ?_)
    rw [hfm _ fun p hp => List.mem_range.mp hp]
    apply List.ext_getElem
    ·simp
    ·intro k h1 h2
     simp at h1 h2
     simp [h1]
   refine wpAny_bind (wpAny_newTuple ?_ ?_)
   ·have W := walks_drawn (w := w) (A := A) hh (s.heap.objs.size + 1) a s.heap.objs.size (Nat.ne_of_lt (Nat.lt_succ_of_lt halt)) (Nat.ne_of_lt (Nat.lt_succ_self _)) es ep 0 t hf pl hpl
    have hsz1 : (s.heap.push { cls := .type "tuple", data := .seq (pl.map fun (i : Nat) => rawInt i).toArray }).objs.size = s.heap.objs.size + 1 := Heap.size_push ..
    refine out (.ref s.heap.objs.size) (s.heap.push { cls := .type "tuple", data := .seq (pl.map fun (i : Nat) => rawInt i).toArray }) dr [s.heap.objs.size + 1, a, s.heap.objs.size] _ _ ?_ (fun b o e => Heap.get?_push_of_some _ e) (by rw [Heap.size_push]; lia) hperm (by rw [hlen, hsz1]; exact W) ?_ ?_ (by simp) ?_
    ·rw [hS]; exact Heap.get?_push_of_some _ hS
    ·refine ⟨?_, Heap.get?_push_of_some _ (Heap.get?_push_of_some _ hS), Heap.get?_push_of_some _ (Heap.get?_push_size _ rfl)⟩
     rw [← hsz1]
     exact Heap.get?_push_size _ rfl
    ·intro b hb
     simp at hb
     rcases hb with e9 | e9 | e9 <;> rw [e9]
     ·exact .inr (Nat.le_succ _)
     ·exact .inl rfl
     ·exact .inr (Nat.le_refl _)
    ·rintro i h ⟨h1, h2, h3⟩ b hb
     simp at hb
     rcases hb with e9 | e9 | e9 <;> rw [e9]
     ·exact ⟨_, h1⟩
     ·exact ⟨_, h2⟩
     ·exact ⟨_, h3⟩
   ·rw [List.length_map, hpl.length_eq, List.length_range]
    exact hz
end
section
variable {c : Cx} {st : St} {Φ : Value → St → Prop} {Ψ : AF → St → Prop}
theorem Mod.draw {s : Shared} {d : _} (hs : Mod c st s) : Mod c st { s with drawn := d } := ⟨hs.fr, hs.hp, hs.g, hs.o⟩
theorem Mod.above {s : Shared} {b : Addr} (hs : Mod c st s) (hb : s.heap.objs.size ≤ b) : st.hp b = none ∧ c.h₀.get? b = none ∧ b ≠ c.env.locals := by
 have hn : s.heap.get? b = none := Heap.get?_none_of_le hb
 obtain ⟨m, F, _⟩ := hs.fr
 refine ⟨?_, ?_, ?_⟩
 ·cases e : st.hp b with
  | none => rfl
  | some o => obtain ⟨ob, e'⟩ := holds_some (hs.hp b o e).1; rw [hn] at e'; cases e'
 ·cases e : c.h₀.get? b with
  | none => rfl
  | some o => rw [F.keep b o e] at hn; cases hn
 ·intro q
  refine hide fun G9 hG9 => ?_
  obtain ⟨o, es, ep, h1, _⟩ := F.ns
  refine hG9 ?_
  rw [q] at hn
  rw [hn] at h1; cases h1
theorem set_keys {w : World} {es : List (Int × Value)} (h : ElemsOf (PySem.strKind PW w) es) : ∃ ks : List Str, es.map (fun e => z e.2) = ks.map fun k => .str k 0 := by
 induction es with
 | nil => exact ⟨[], rfl⟩
 | cons e r ih =>
  refine hide fun G9 hG9 => ?_
  obtain ⟨ks, hk⟩ := ih h.tail
  obtain ⟨⟨k, h1, _⟩, _⟩ := h.head
  obtain ⟨t, ht⟩ := Value.isStrOf_shape h1
  refine hG9 ?_
  exact ⟨k :: ks, by rw [List.map_cons, List.map_cons, hk, ht]; rfl⟩
theorem XS_ForSet {target iter : Expr} {body : List Stmt} {pos : Pos} (hh : c.A.handled = none) (hfs : ∀ x, foldedSetIterable iter c.env x = pure x) (hgo : ∀ it v, letOwnedTupleGo target it v = pure ())
  (h : EX c iter st fun v st1 => ∃ a S n, v = .ref a ∧ st1.hp a = some (.setS S n) ∧ ∀ L : List Str, L.Nodup → (∀ k, k ∈ L ↔ S k = true) → L.length = n → ∃ J : Nat → St → Prop, J 0 (st1.del a) ∧
   (∀ i k c' st', L[i]? = some k → Ext c c' → J i st' → ASG c' target (.str k 0) st' fun st2 => XB c' body st2 (LP (J (i + 1)) (backTo' a (.setS S n) Ψ))) ∧
   ∀ st', J n st' → Ψ .next (st'.put a (.setS S n))) : XS c (.For target iter body [] pos) st Ψ := .of fun s hs => by
 refine wpAny_For (WP.thru h hs fun v s1 st1 m1 h1 => ?_) hfs
 refine hide fun G9 hG9 => ?_
 obtain ⟨a, S, n, rfl', ha, h1⟩ := h1
 refine hG9 ?_
 rw [z_ref rfl']
 refine hide fun G9 hG9 => ?_
 obtain ⟨⟨es, ep, t, k1, G, hn⟩, haL, ha0⟩ := m1.hp a _ ha
 refine hG9 ?_
 have hlt : a < s1.heap.objs.size := Heap.lt_size k1
 refine iterSet hh k1 (by simpa using G.fits) G.led (fun q => G.plain fun e => q (by simpa using e)) (fits_of_scanBound (by simpa using G.room)) fun L h2 I fp S0 dr hp W => ?_
 obtain ⟨ks, hks⟩ := set_keys G.elems
 have hz : (L.map z).Perm (ks.map fun k => Value.str k 0) := by
  rw [← hks]
  have := hp.map z
  rw [List.map_map] at this
  exact this
 obtain ⟨kl, hkl⟩ : ∃ kl : List Str, L.map z = kl.map fun k => Value.str k 0 := by
  have hm : ∀ v ∈ L.map z, ∃ k : Str, v = .str k 0 := fun v hv => by
   obtain ⟨k, _, rfl⟩ := List.mem_map.mp (hz.mem_iff.mp hv)
   exact ⟨k, rfl⟩
  clear hz hp W h1
  generalize L.map z = M at hm
  induction M with
  | nil => exact ⟨[], rfl⟩
  | cons v r ih =>
   obtain ⟨kl, e⟩ := ih fun v hv => hm v (.tail _ hv)
   obtain ⟨k, rfl⟩ := hm v (.head _)
   exact ⟨k :: kl, by rw [List.map_cons, e]⟩
 have inj : ∀ x y : Str, (Value.str x 0 : Value) = .str y 0 → x = y := fun x y e => by cases e; rfl
 have hnd : kl.Nodup := by
  have h3 : (L.map z).Nodup := by
   rw [hz.nodup_iff, ← hks]; exact G.nodup
  rw [hkl] at h3
  exact (List.pairwise_map.mp h3).imp fun h e => h (by rw [e])
 have hmem : ∀ k, k ∈ kl ↔ S k = true := fun k => by
  rw [G.mem k]
  have e1 : k ∈ kl ↔ (Value.str k 0) ∈ L.map z := by
   rw [hkl, List.mem_map]
   exact ⟨fun q => ⟨k, q, rfl⟩, fun ⟨x, q, e⟩ => inj _ _ e ▸ q⟩
  rw [e1, hz.mem_iff, ← hks, List.mem_map]
  constructor
  ·rintro ⟨e, he, q⟩
   obtain ⟨t', ht'⟩ := z_str q
   exact ⟨e, he, by rw [ht']; exact strKind_is PW c.w k t'⟩
  ·rintro ⟨e, he, q⟩
   obtain ⟨t', ht'⟩ := Value.isStrOf_shape q
   exact ⟨e, he, by rw [ht']; rfl⟩
 have hlen : kl.length = n := by
  have := congrArg List.length hkl
  have h4 := hp.length_eq
  simp at this h4
  lia
 have hlen' : L.length = n := by
  have h4 := hp.length_eq
  simp at h4
  lia
 obtain ⟨J, h0, turn, done⟩ := h1 kl hnd hmem hlen
 have mI : Mod c (st1.del a) { s1 with heap := h2, drawn := dr } := (m1.del.keep (tk := s1.toks) W.keep).draw
 have hab : ∀ b, s1.heap.objs.size ≤ b → b ≠ a := fun b hb q => by rw [q] at hb; exact absurd hlt (Nat.not_lt.mpr hb)
 refine codeAny_mono (forGen (s := { s1 with heap := h2, drawn := dr }) (target := target) (body := body) (Ψ := backTo' a (.setS S n) Ψ) W.walks mI W.start ?_ ?_ ?_ W.live ?_
  (fun h => h.get? a = some ⟨.type "set", none, .set es ep t, #[]⟩) (W.keep _ _ k1) (fun h h' hR k => k a W.mem (fun q => hab I W.fresh (List.mem_singleton.mp q).symm) _ hR) J h0 ?_ ?_) ?_
 ·intro q
  rcases W.foot _ q with e | e
  ·exact haL e.symm
  ·exact (m1.above e).2.2 rfl
 ·intro b hb
  rw [List.mem_singleton.mp hb]
  refine ⟨(m1.above W.fresh).2.1, ?_⟩
  rw [St.del_ne (hab I W.fresh)]
  exact (m1.above W.fresh).1
 ·intro b hb
  rcases W.foot _ hb with rfl | e
  ·exact St.del_self
  ·rw [St.del_ne (hab b e)]
   exact (m1.above e).1
 ·intro i s' v Q' hS hQ
  rw [hgo]
  exact wpAny_pure hQ
 ·intro i v c' st' hi hv hX hS hJ
  have e := congrArg (fun l => l[i]?) hkl
  simp only [List.getElem?_map, hv, Option.map_some] at e
  obtain ⟨k, hk, hzv⟩ := Option.map_eq_some_iff.mp e.symm
  rw [← hzv]
  exact turn i k c' st' hk hX hJ
 ·intro st' hJ _
  rw [hlen'] at hJ
  exact done st' hJ
 ·intro r s' hr
  cases r with
  | error e => exact hr.elim
  | ok f =>
   refine hide fun G9 hG9 => ?_
   obtain ⟨⟨st', m', hn', hΨ⟩, hR⟩ := hr
   refine hG9 ?_
   exact ⟨_, m'.back (o := .setS S n) ⟨es, ep, t, hR, G, hn⟩ haL ha0, hΨ⟩
theorem CALL_set (h : ∀ a, st.hp a = none → Φ (.ref a) (st.put a (.setS (fun _ => false) 0))) : CALL c (.type "set") [] st Φ := by
 intro u us hu hus
 rw [z_type hu]
 obtain rfl := List.map_eq_nil_iff.mp hus
 refine .of fun s hs => ?_
 refine call_newW ⟨_, hs.push (o := .setS (fun _ => false) 0) (tk := s.toks) (newW_is _), h _ hs.fresh⟩
theorem METH_set {a : Addr} {S : Str → Bool} {n : Nat} {name : Str} {id : String} {Ψ : Value → List Value → St → Prop} (ha : st.hp a = some (.setS S n)) (slot : Slot "set" name id) (ty : typeOf (.builtin id) = pure (.type "method_descriptor"))
  (h : Ψ (.builtin id) [.ref a] st) : METH c (.ref a) name st Ψ := by
 intro u pl hu
 rw [z_ref hu]
 refine .of fun s hs => ?_
 have h1 : SetW c.w s.heap a S n := (hs.hp a _ ha).1
 with_reducible refine getMethod_builtin h1.setOf.typeIs F.plainAttrs_set slot ty h1.setOf.noDict ?_
 exact ⟨st, hs, h⟩
theorem CALL_add {a : Addr} {S : Str → Bool} {n : Nat} {x : Str} (ha : st.hp a = some (.setS S n)) (hr : n + 1 < scanBound) (h : Φ .none (st.put a (.setS (fun k => S k || decide (k = x)) (if S x then n else n + 1)))) : CALL c (.builtin "set.add") [.ref a, .str x 0] st Φ := by
 intro u us hu hus
 rw [z_builtin hu]
 refine hide fun G9 hG9 => ?_
 obtain ⟨u1, u2, rfl, e1, e2⟩ := two hus
 refine hG9 ?_
 rw [z_ref e1]
 obtain ⟨t, rfl⟩ := z_str e2
 refine .of fun s hs => ?_
 have h1 : SetW c.w s.heap a S n := (hs.hp a _ ha).1
 refine call_addW h1 hr fun h' hsb hS' => ⟨_, hs.upd (o' := .setS _ _) ha hsb hS', h⟩
end
end Mine
end
section
open PySem PySem.W PyProof.Rows PySem.Calls
namespace Mine
section
variable {c : Cx} {st : St} {Φ : Value → St → Prop} {Ψ : AF → St → Prop}
theorem forGenT {elts : List Expr} {kk : Nat} {tpos : Pos} {body : List Stmt} {I : Addr} {fp wr : List Addr} {n : Nat} {P : Nat → Array Value → Prop} {S : Nat → Heap → Prop} {Md : Nat → Addr → Heap → Prop} (W : WalksT PW c.w c.A I fp wr n P S Md)
  {s : Shared} (hs : Mod c st s) (hS : S 0 s.heap) (hL : c.env.locals ∉ fp) (hwr : ∀ b ∈ wr, c.h₀.get? b = none ∧ st.hp b = none) (hst : ∀ b ∈ fp, st.hp b = none) (hlive : ∀ i h, S i h → ∀ b ∈ fp, ∃ o, h.get? b = some o)
  (R : Heap → Prop) (hR0 : R s.heap) (hRk : ∀ h h', R h → (∀ b ∈ fp, b ∉ wr → ∀ o, h.get? b = some o → h'.get? b = some o) → R h')
  (J : Nat → St → Prop) (h0 : J 0 st)
  (turn : ∀ i vals T c' st', i < n → P i vals → Ext c c' → c'.h₀.IsTuple T vals → J i st' → ASG c' (.Tuple elts kk tpos) (.ref T) st' fun st2 => XB c' body st2 (LP (J (i + 1)) Ψ))
  (done : ∀ st', J n st' → (∀ b ∈ fp, st'.hp b = none) → Ψ .next st') :
  codeAny (model PW c.w) c.A (.forLoop (.Tuple elts kk tpos) (.ref I) body [] c.env) (fun r s' => match r with | .ok f => (∃ st', Mod c st' s' ∧ (∀ b ∈ fp, b ∉ wr → st'.hp b = none) ∧ Ψ (zf f) st') ∧ R s'.heap | .error _ => False) s := by
 obtain ⟨Q, hQ1, hQ2⟩ : ∃ Q : Nat → Shared → Prop, (∀ k s, Q k s → ∃ i st, i ≤ n ∧ k = n - i ∧ Mod c st s ∧ S i s.heap ∧ J i st ∧ (∀ b ∈ fp, st.hp b = none) ∧ R s.heap) ∧
  (∀ s i st, i ≤ n → Mod c st s → S i s.heap → J i st → (∀ b ∈ fp, st.hp b = none) → R s.heap → Q (n - i) s) := ⟨_, fun _ _ h => h, fun s i st h1 h2 h3 h4 h5 h6 => ⟨i, st, h1, rfl, h2, h3, h4, h5, h6⟩⟩
 refine codeAny_forLoop_any Q ?_ n (hQ2 s 0 st (Nat.zero_le _) hs hS h0 hst hR0)
 intro k s hX9
 refine hide fun G9 hG9 => ?_
 obtain ⟨i, st, hi, hkk, hs, hS, hJ, hst, hR⟩ := hQ1 _ _ hX9
 refine hG9 ?_
 have keepM : ∀ {s : Shared} (h' : Heap) (tk : Nat), Mod c st s → (∀ b o, b ∉ wr → s.heap.get? b = some o → h'.get? b = some o) → Mod c st { s with heap := h', toks := tk } := fun h' tk hs k => by
  obtain ⟨m, F, hm⟩ := hs.fr
  have hLw : c.env.locals ∉ wr := fun q => hL (W.sub _ q)
  refine ⟨⟨m, ⟨F.ns.at' fun o e => k _ o hLw e, fun b o e => k b o (fun q => by rw [(hwr b q).1] at e; cases e) (F.keep b o e)⟩, hm⟩, fun a o e => ?_, hs.g, hs.o⟩
  obtain ⟨h1, h2, h3⟩ := hs.hp a o e
  exact ⟨holds_keep (fun ob e' => k a ob (fun q => by rw [hst a (W.sub _ q)] at e; cases e) e') h1, h2, h3⟩
 have keepR : ∀ h' : Heap, (∀ b o, b ∉ wr → s.heap.get? b = some o → h'.get? b = some o) → R h' := fun h' k => hRk _ _ hR fun b _ hw o e => k b o hw e
 by_cases hlt : i < n
 ·refine W.item i s _ _ hlt hS fun T vals h' tk hP hTf hT hMd k => ?_
  have m1 := keepM h' tk hs k
  have hTw : T ∉ wr := W.apart _ _ _ hMd
  show wpAny _ _ (letOwnedTupleGo (.Tuple elts kk tpos) (.ref I) (.ref T)) _ _ _
  refine W.go elts kk tpos i T _ _ _ hMd fun h2 hS' k2 => ?_
  have m1' := keepM h2 tk m1 k2
  have hT2 : h2.IsTuple T vals := by
   obtain ⟨o, ho, hr⟩ := hT
   exact ⟨o, k2 _ _ hTw ho, hr⟩
  refine hide fun G9 hG9 => ?_
  obtain ⟨hT0, hTb, hTL⟩ := hs.above hTf
  have hb : ∀ b, (c.h₀.get? b ≠ none ∨ b ∈ fp ∨ b = T) → (hideP h2 fun a => ¬ (c.h₀.get? a ≠ none ∨ a ∈ fp ∨ a = T)).get? b = h2.get? b := fun b q => hideP_get (fun q' => q' q)
  have off : ∀ b, ¬ (c.h₀.get? b ≠ none ∨ b ∈ fp ∨ b = T) → (hideP h2 fun a => ¬ (c.h₀.get? a ≠ none ∨ a ∈ fp ∨ a = T)).get? b = none := fun b q => hideP_none q
  obtain ⟨m, F, hm⟩ := m1'.fr
  refine hG9 ?_
  have X : Ext c ⟨c.w, c.A, hideP h2 fun a => ¬ (c.h₀.get? a ≠ none ∨ a ∈ fp ∨ a = T), c.env, c.g, c.o⟩ := ⟨rfl, rfl, rfl, rfl, rfl, fun b o e => (hb b (.inl (by rw [e]; simp))).trans (F.keep b o e), fun ho => off _ (by rintro (q | q | q); exact q ho; exact hL q; exact hTL q.symm)⟩
  have m2 : Mod ⟨c.w, c.A, hideP h2 fun a => ¬ (c.h₀.get? a ≠ none ∨ a ∈ fp ∨ a = T), c.env, c.g, c.o⟩ st { s with heap := h2, toks := tk } := by
   refine ⟨⟨m, ⟨F.ns, fun b o e => ?_⟩, hm⟩, fun a o e => ?_, m1'.g, m1'.o⟩
   ·by_cases q : c.h₀.get? b ≠ none ∨ b ∈ fp ∨ b = T
    ·rw [hb b q] at e; exact e
    ·rw [off b q] at e; cases e
   ·obtain ⟨h1, h2, h3⟩ := m1'.hp a o e
    refine ⟨h1, h2, off _ ?_⟩
    rintro (q | q | q)
    ·exact q h3
    ·rw [hst a q] at e; cases e
    ·rw [q, hT0] at e; cases e
  have hS2 : S (i + 1) (hideP h2 fun a => ¬ (c.h₀.get? a ≠ none ∨ a ∈ fp ∨ a = T)) := W.frame _ _ _ hS' fun b q o e => (hb b (.inr (.inl q))).trans e
  have hT3 : (hideP h2 fun a => ¬ (c.h₀.get? a ≠ none ∨ a ∈ fp ∨ a = T)).IsTuple T vals := by
   obtain ⟨o, ho, hr⟩ := hT2
   exact ⟨o, (hb T (.inr (.inr rfl))).trans ho, hr⟩
  refine wpAny_mono ((turn i vals T _ st hlt hP X hT3 hJ _ rfl).run _ m2) ?_ fun _ _ e => e.elim
  rintro _ s2 ⟨st2, m3, h3⟩
  refine wpAny_mono (h3.run _ m3) ?_ fun _ _ e => e.elim
  intro f s3 hX9
  refine hide fun G9 hG9 => ?_
  obtain ⟨st3, m4, h4⟩ := hX9
  obtain ⟨m', F', _⟩ := m4.fr
  refine hG9 ?_
  have hS3 : S (i + 1) s3.heap := W.frame _ _ _ hS2 fun b q o e => F'.keep b o e
  have hst3 : ∀ b ∈ fp, st3.hp b = none := fun b q => by
   cases e : st3.hp b with
   | none => rfl
   | some o =>
    obtain ⟨ob, e'⟩ := hlive _ _ hS2 b q
    have := (m4.hp b o e).2.2
    rw [this] at e'; cases e'
  have m5 := m4.unext X
  have hR3 : R s3.heap := hRk _ _ (hRk _ _ (keepR h' k) fun b _ hw o e => k2 b o hw e) fun b q _ o e => F'.keep b o ((hb b (.inr (.inl q))).trans e)
  cases f with
  | next => exact ⟨n - (i + 1), by lia, hQ2 _ (i + 1) st3 hlt m5 hS3 h4 hst3 hR3⟩
  | cont => exact ⟨n - (i + 1), by lia, hQ2 _ (i + 1) st3 hlt m5 hS3 h4 hst3 hR3⟩
  | brk => exact ⟨⟨st3, m5, fun b q _ => hst3 b q, h4⟩, hR3⟩
  | ret v => exact ⟨⟨st3, m5, fun b q _ => hst3 b q, h4⟩, hR3⟩
 ·have ein : i = n := by lia
  rw [ein] at hS hJ
  refine W.done s _ _ hS fun h' tk k => wpAny_execs_nil ?_
  exact ⟨⟨st, keepM h' tk hs k, fun b q _ => hst b q, done st hJ hst⟩, keepR h' k⟩
theorem CALL_enum {l : Addr} {vs : List Value} (hl : st.hp l = some (.list vs)) (h : ∀ e it, e ≠ it → st.hp e = none → st.hp it = none → Φ (.ref e) ((st.put it (.lit l)).put e (.enm it))) : CALL c (.type "enumerate") [.ref l] st Φ := by
 intro u us hu hus
 rw [z_type hu]
 obtain ⟨u1, rfl, h1⟩ := one hus
 rw [z_ref h1]
 refine .of fun s hs => ?_
 obtain ⟨xs, n, k1, _⟩ := hs.list hl
 refine call_enumerate_1 k1 fun h' hE hI hz hk => ?_
 have m0 : Mod c st { s with heap := h' } := hs.keep hk
 refine hide fun G9 hG9 => ?_
 obtain ⟨a1, a2, a3⟩ := hs.above (b := s.heap.objs.size) (Nat.le_refl _)
 obtain ⟨b1, b2, b3⟩ := hs.above (b := s.heap.objs.size + 1) (Nat.le_succ _)
 refine hG9 ?_
 have m1 := m0.back (o := .lit l) hI a3 a2
 have m2 := m1.back (o := .enm s.heap.objs.size) hE b3 b2
 exact ⟨_, m2, h _ _ (Nat.succ_ne_self _) b1 a1⟩
theorem XS_ForEnum {elts : List Expr} {kk : Nat} {tpos : Pos} {iter : Expr} {body : List Stmt} {pos : Pos} (hh : c.A.handled = none) (hfs : ∀ x, foldedSetIterable iter c.env x = pure x)
  (h : EX c iter st fun v st1 => ∃ e it l vs, ∃ J : Nat → St → Prop, v = .ref e ∧ e ≠ it ∧ st1.hp e = some (.enm it) ∧ st1.hp it = some (.lit l) ∧ st1.hp l = some (.list vs) ∧ J 0 (((st1.del e).del it).del l) ∧
   (∀ (i : Nat) v c' T xs st', vs[i]? = some v → Ext c c' → c'.h₀.IsTuple T xs → xs.toList.map z = [iv i, v] → J i st' → ASG c' (.Tuple elts kk tpos) (.ref T) st' fun st2 => XB c' body st2 (LP (J (i + 1)) (backTo' l (.list vs) Ψ))) ∧
   ∀ st', J vs.length st' → st'.hp l = none → Ψ .next (st'.put l (.list vs))) : XS c (.For (.Tuple elts kk tpos) iter body [] pos) st Ψ := .of fun s hs => by
 refine wpAny_For (WP.thru h hs fun v s1 st1 m1 h1 => ?_) hfs
 refine hide fun G9 hG9 => ?_
 obtain ⟨e, it, l, vs, J, rfl', hne, he, hit, hl, h0, turn, done⟩ := h1
 refine hG9 ?_
 rw [z_ref rfl']
 refine hide fun G9 hG9 => ?_
 obtain ⟨xs, n, k1, k2⟩ := m1.list hl
 obtain ⟨hE, heL, he0⟩ := m1.hp e _ he
 obtain ⟨hI, hiL, hi0⟩ := m1.hp it _ hit
 obtain ⟨_, hlL, hl0⟩ := m1.hp l _ hl
 refine hG9 ?_
 have hle : l ≠ e := fun q => by rw [q, he] at hl; cases hl
 have hli : l ≠ it := fun q => by rw [q, hit] at hl; cases hl
 have hll : s1.heap.IsList l xs.toArray := ⟨_, k1, rfl, n, rfl⟩
 have hlen : xs.toArray.size = vs.length := by simp [← k2]
 refine wpAny_pyIter_enum (i := 0) hE ?_
 have W := WalksT.enumerate (prog := PW) (w := c.w) (A := c.A) hh e it l hne hle hli xs.toArray
 refine codeAny_mono (forGenT (s := s1) (body := body) (Ψ := backTo' l (.list vs) Ψ) W m1.del.del.del ⟨⟨_, hE⟩, hI, hll⟩ ?_ ?_ ?_ ?_
  (fun h => h.get? l = some ⟨.type "list", none, .seq xs.toArray n, #[]⟩) k1 (fun h h' hR k => k l (by simp) (by simp; exact ⟨hle, hli⟩) _ hR) J h0 ?_ ?_) ?_
 ·intro q
  simp at q
  rcases q with q | q | q
  ·exact heL q.symm
  ·exact hiL q.symm
  ·exact hlL q.symm
 ·intro b hb
  simp at hb
  rcases hb with e9 | e9 <;> rw [e9]
  ·refine ⟨he0, ?_⟩
   rw [St.del_ne hle.symm, St.del_ne hne]; exact St.del_self
  ·refine ⟨hi0, ?_⟩
   rw [St.del_ne hli.symm]; exact St.del_self
 ·intro b hb
  simp at hb
  rcases hb with e9 | e9 | e9 <;> rw [e9]
  ·rw [St.del_ne hle.symm, St.del_ne hne]; exact St.del_self
  ·rw [St.del_ne hli.symm]; exact St.del_self
  ·exact St.del_self
 ·intro i h hX9 b hb
  refine hide fun G9 hG9 => ?_
  obtain ⟨⟨old, h1⟩, ⟨o2, h2, _⟩, ⟨o3, h3, _⟩⟩ := hX9
  refine hG9 ?_
  simp at hb
  rcases hb with e9 | e9 | e9 <;> rw [e9]
  ·exact ⟨_, h1⟩
  ·exact ⟨_, h2⟩
  ·exact ⟨_, h3⟩
 ·rintro i vals T c' st' hi ⟨t, x, hx, rfl⟩ hX hT hJ
  have e1 : vs[i]? = some (z x) := by
   rw [← k2, List.getElem?_map]
   have : xs[i]? = some x := by simpa using hx
   rw [this]; rfl
  exact turn i (z x) c' T _ st' e1 hX hT rfl hJ
 ·intro st' hJ hn
  exact done st' (hlen ▸ hJ) (hn l (by simp))
 ·intro r s' hr
  cases r with
  | error e => exact hr.elim
  | ok f =>
   refine hide fun G9 hG9 => ?_
   obtain ⟨⟨st', m', hn', hΨ⟩, hR⟩ := hr
   refine hG9 ?_
   exact ⟨_, m'.back (o := .list vs) ⟨xs, n, hR, k2⟩ hlL hl0, hΨ⟩
end
end Mine
end
section
open PySem PySem.W PyProof.Rows PySem.Calls
namespace Mine
namespace SI
theorem slot_keys_iter : Slot "dict_keys" "__iter__" "dict_keys.__iter__" :=
 .of (owner := "dict_keys") (n := "__iter__") (by rw [typeLookup_type, builtinLookup_eq_fast]; kernel_rfl) (by decide +kernel) (by decide +kernel) (by decide +kernel)
  (by first | exact .inl (by decide +kernel) | exact .inr (by decide +kernel)) (by rw [isSubtype_type]; kernel_rfl)
theorem entry_keys_iter : entryFor table "dict_keys.__iter__" = some Builtin.«dict_keys.__iter__» := entryFor_of_tree (by kernel_rfl)
theorem entry_itemiter_iter : entryFor table "dict_itemiterator.__iter__" = some Builtin.«dict_keyiterator.__iter__» :=
 entryFor_alias (id' := "dict_keyiterator.__iter__") (by kernel_rfl) rfl (by decide +kernel) (by kernel_rfl)
theorem args_keys_iter (a : Value) : argsOk "dict_keys.__iter__" ⟨[a], []⟩ := by unfold argsOk; kernel_rfl
end SI
section
variable {w : World} {K : Type} [DecidableEq K] {knd : KeyKind PW w K} {A : Around} {E : Value → Shared → Prop} {s : Shared} {d : Addr} {kvs : List (K × Value)} {ep : Nat}
theorem call_keys {Q : Value → Shared → Prop} (hd : (d == sysModules) = false) (hm : s.heap.DictOf knd d kvs) (h : Q (.ref s.heap.objs.size) { s with heap := s.heap.push { cls := .type "dict_keys", data := .fields #[.ref d] } }) :
  wpAny (model PW w) A (call (.builtin "dict.keys") [.ref d]) Q E s := by
 refine wpAny_call_entry F.slot_dict_keys hm.typeIs F.entry_dict_keys ?_ (F.args_dict_keys_1 _)
 unfold Builtin.«dict.keys»
 show wpAny _ _ (do let d ← Builtin.Dict.noArgs "keys" ⟨[.ref d], []⟩; Builtin.Dict.showsAll d; ret (← newFields "dict_keys" [.ref d])) _ _ _
 refine wpAny_bind ?_
 unfold Builtin.Dict.noArgs
 refine wpAny_bind (wpAny_notOrdered_dict hm.typeIs ?_)
 show wpAny _ _ (pure d) _ _ s
 refine wpAny_pure ?_
 show wpAny _ _ (Builtin.Dict.showsAll d >>= _) _ _ s
 unfold Builtin.Dict.showsAll
 rw [if_neg (by rw [hd]; exact Bool.false_ne_true)]
 refine wpAny_bind (wpAny_pure ?_)
 exact wpAny_bind (wpAny_newObj_type (wpAny_pure ⟨_, rfl, h⟩))
theorem pyIter_keys {v : Addr} {Q : Value → Shared → Prop} (hv : s.heap.get? v = some { cls := .type "dict_keys", data := .fields #[.ref d] }) (hm : s.heap.DictAt knd d kvs ep)
  (hQ : Q (.ref s.heap.objs.size) { s with heap := s.heap.push { cls := .type "dict_keyiterator", data := .fields #[.ref d, .int 0 0, .int kvs.length 0, .int ep 0] } }) :
  wpAny (model PW w) A (pyIter (.ref v)) Q E s := by
 refine hide fun G9 hG9 => ?_
 obtain ⟨o, es, ho, hc, hdat, hk, hp, hn⟩ := id hm
 refine hG9 ?_
 have hT : s.TypeIs (.ref v) "dict_keys" := ⟨_, hv, rfl⟩
 refine wpAny_pyIter_slot hT SI.slot_keys_iter (wpAny_call_entry SI.slot_keys_iter hT SI.entry_keys_iter ?_ (SI.args_keys_iter _))
 unfold Builtin.«dict_keys.__iter__»
 refine wpAny_bind (wpAny_pure ?_)
 refine wpAny_bind ?_
 unfold Builtin.Dict_items.dictOf
 refine wpAny_bind (wpAny_field hv rfl (x := .ref d) rfl (wpAny_pure ?_))
 refine wpAny_bind ?_
 unfold Builtin.Dict_items.newIterator
 refine wpAny_bind (wpAny_dictEntries ho hdat ?_)
 refine wpAny_bind (wpAny_dictEpoch ho hdat ?_)
 have hsz : es.size = kvs.length := by rw [← hp.length]; simp
 have hown : Builtin.Dict_items.ownsTuple "dict_keyiterator" = false := by decide
 simp only [hown]
 refine wpAny_newObj_type (wpAny_pure ⟨_, rfl, "dict_keyiterator", _, ⟨_, Heap.get?_push_size _ rfl, rfl⟩, F.slot_dict_keyiterator_next.lookup, ?_⟩) (by simp [sizeOk, sizeLine_eq])
 simpa [rawInt, hsz] using hQ
theorem call_items {Q : Value → Shared → Prop} (hd : (d == sysModules) = false) (hm : s.heap.DictOf knd d kvs) (h : Q (.ref s.heap.objs.size) { s with heap := s.heap.push { cls := .type "dict_items", data := .fields #[.ref d] } }) :
  wpAny (model PW w) A (call (.builtin "dict.items") [.ref d]) Q E s :=
 call_meetsIn F.slot_dict_items hm.typeIs F.entry_dict_items (F.args_dict_items_1 _) (meets_dict_items knd d hd) ⟨⟨_, hm⟩, h⟩
theorem walksItems (hh : A.handled = none) (I d : Addr) (hne : d ≠ I) :
  WalksT PW w A I [I, d] [I] kvs.length (fun i vals => ∃ key k v, kvs[i]? = some (k, v) ∧ knd.is k key = true ∧ vals = #[key, v])
   (fun i h => (∃ ok ov, IsItemIter h I d i kvs.length ep ok ov) ∧ h.DictAt knd d kvs ep)
   (fun i T h => (∃ ok ov, IsItemIterOut h I d (i + 1) kvs.length ep ok ov T) ∧ h.DictAt knd d kvs ep ∧ T ≠ I) where
 sub := fun b hb => by simp at hb; simp [hb]
 frame := fun i h h' hst hk => by
  obtain ⟨⟨ok, ov, he⟩, hd⟩ := hst
  exact ⟨⟨ok, ov, hk I (by simp) _ he⟩, hd.at' fun o x => hk d (by simp) o x⟩
 item := fun i s Q E hi hst hQ => by
  obtain ⟨⟨ok, ov, he⟩, hd⟩ := hst
  obtain ⟨⟨k, v⟩, hx⟩ : ∃ p, kvs[i]? = some p := ⟨kvs[i], by simp [hi]⟩
  refine wpAny_pyNext_items_item he hd hx fun key h' hkey ho hT hsz hk => ?_
  have hIlt : I < s.heap.objs.size := Heap.lt_size he
  exact hQ s.heap.objs.size #[key, v] h' s.toks ⟨_, _, _, hx, hkey, rfl⟩ (Nat.le_refl _) ⟨_, hT, rfl, _, rfl⟩
   ⟨⟨_, _, ho⟩, hd.at' fun o x => hk d o hne x, Nat.ne_of_gt hIlt⟩
   fun b o hb x => hk b o (fun e' => hb (by simp [e'])) x
 go := fun elts k pos i T s Q E hm hQ => by
  refine hide fun G9 hG9 => ?_
  obtain ⟨⟨ok, ov, ho⟩, hd, hTi⟩ := hm
  refine hG9 ?_
  refine wpAny_letOwnedTupleGo_items ho fun h' he' hs' => hQ h' ⟨⟨ok, ov, he'⟩, hd.at' fun o y => (hs'.2 d hne).trans y⟩ fun b o hb y => ?_
  exact (hs'.2 b fun e' => hb (by simp [e'])).trans y
 apart := fun i T h hm hT => by
  obtain ⟨_, _, hTi⟩ := hm
  exact hTi (List.mem_singleton.mp hT)
 done := fun s Q E hst hQ => by
  obtain ⟨⟨ok, ov, he⟩, hd⟩ := hst
  exact wpAny_pyNext_items_end hh he hd (List.getElem?_eq_none (Nat.le_refl _)) fun h' hx => hQ h' s.toks fun b o hb y => hx b o (fun e' => hb (by simp [e'])) y
 self := fun i s Q E hst hQ => by
  obtain ⟨⟨ok, ov, he⟩, hd⟩ := hst
  have hT : s.TypeIs (.ref I) "dict_itemiterator" := ⟨_, he, rfl⟩
  refine wpAny_pyIter_slot hT F.slot_dict_itemiterator_iter (wpAny_call_entry F.slot_dict_itemiterator_iter hT SI.entry_itemiter_iter ?_ (F.args_dict_itemiterator_iter_1 _))
  show wpAny _ _ (ret (.ref I)) _ _ s
  exact wpAny_pure ⟨_, rfl, "dict_itemiterator", _, hT, F.slot_dict_itemiterator_next.lookup, hQ⟩
end
section
variable {c : Cx} {st : St} {Φ : Value → St → Prop} {Ψ : AF → St → Prop}
theorem CALL_keys {d : Addr} {kvs : List (Str × Value)} (hG : ∃ ob, c.h₀.get? sysModules = some ob) (hd : st.hp d = some (.dictS kvs)) (h : ∀ v, st.hp v = none → Φ (.ref v) (st.put v (.kview d))) : CALL c (.builtin "dict.keys") [.ref d] st Φ := by
 intro u us hu hus
 rw [z_builtin hu]
 obtain ⟨u1, rfl, h1⟩ := one hus
 rw [z_ref h1]
 refine .of fun s hs => ?_
 obtain ⟨kvs', k1, _⟩ := (hs.hp d _ hd).1
 exact call_keys (hs.notMods hG hd) k1 ⟨_, hs.push (o := .kview d) (tk := s.toks) (Heap.get?_push_size _ rfl), h _ hs.fresh⟩
theorem CALL_items {d : Addr} {kvs : List (Str × Value)} (hG : ∃ ob, c.h₀.get? sysModules = some ob) (hd : st.hp d = some (.dictS kvs)) (h : ∀ v, st.hp v = none → Φ (.ref v) (st.put v (.iview d))) : CALL c (.builtin "dict.items") [.ref d] st Φ := by
 intro u us hu hus
 rw [z_builtin hu]
 obtain ⟨u1, rfl, h1⟩ := one hus
 rw [z_ref h1]
 refine .of fun s hs => ?_
 obtain ⟨kvs', k1, _⟩ := (hs.hp d _ hd).1
 exact call_items (hs.notMods hG hd) k1 ⟨_, hs.push (o := .iview d) (tk := s.toks) (Heap.get?_push_size _ rfl), h _ hs.fresh⟩
theorem dictAt_of {K : Type} [DecidableEq K] {knd : KeyKind PW c.w K} {h : Heap} {d : Addr} {kvs : List (K × Value)} (x : h.DictOf knd d kvs) : ∃ ep, h.DictAt knd d kvs ep := by
 refine hide fun G9 hG9 => ?_
 obtain ⟨o, es, ep, h1, h2, h3, h4⟩ := x
 refine hG9 ?_
 exact ⟨ep, o, es, h1, h2, h3, h4⟩
theorem XS_ForKeys {target iter : Expr} {body : List Stmt} {pos : Pos} (hh : c.A.handled = none) (hfs : ∀ x, foldedSetIterable iter c.env x = pure x) (hgo : ∀ it v, letOwnedTupleGo target it v = pure ())
  (h : EX c iter st fun v st1 => ∃ kv d kvs, ∃ J : Nat → St → Prop, v = .ref kv ∧ st1.hp kv = some (.kview d) ∧ st1.hp d = some (.dictS kvs) ∧ J 0 (st1.del d) ∧
   (∀ (i : Nat) p c' st', kvs[i]? = some p → Ext c c' → J i st' → ASG c' target (.str p.1 0) st' fun st2 => XB c' body st2 (LP (J (i + 1)) (backTo' d (.dictS kvs) Ψ))) ∧
   ∀ st', J kvs.length st' → Ψ .next (st'.put d (.dictS kvs))) : XS c (.For target iter body [] pos) st Ψ := .of fun s hs => by
 refine wpAny_For (WP.thru h hs fun v s1 st1 m1 h1 => ?_) hfs
 refine hide fun G9 hG9 => ?_
 obtain ⟨kv, d, kvs, J, rfl', hkv, hd, h0, turn, done⟩ := h1
 refine hG9 ?_
 rw [z_ref rfl']
 refine hide fun G9 hG9 => ?_
 obtain ⟨hV, _, _⟩ := m1.hp kv _ hkv
 obtain ⟨⟨kvs', k1, k2⟩, hdL, hd0⟩ := m1.hp d _ hd
 obtain ⟨ep, k1⟩ := dictAt_of k1
 refine hG9 ?_
 have hlt : d < s1.heap.objs.size := k1.lt_size
 have hlen : kvs'.length = kvs.length := by rw [← k2, zz_length]
 refine pyIter_keys hV k1 ?_
 have mI : Mod c (st1.del d) { s1 with heap := s1.heap.push { cls := .type "dict_keyiterator", data := .fields #[.ref d, .int 0 0, .int kvs'.length 0, .int ep 0] } } :=
  m1.del.keep fun b o e => Heap.get?_push_of_some _ e
 have W := Walks.dictKeys (prog := PW) (w := c.w) (A := c.A) (knd := PySem.strKind PW c.w) hh s1.heap.objs.size d (Nat.ne_of_lt hlt) kvs' ep
 refine codeAny_mono (forGen (s := { s1 with heap := s1.heap.push { cls := .type "dict_keyiterator", data := .fields #[.ref d, .int 0 0, .int kvs'.length 0, .int ep 0] } }) (target := target) (body := body) (Ψ := backTo' d (.dictS kvs) Ψ) W mI
  ⟨⟨_, Heap.get?_push_size _ rfl, rfl, rfl⟩, k1.at' fun o e => Heap.get?_push_of_some _ e⟩ ?_ ?_ ?_ ?_ ?_
  (fun h => h.DictAt (PySem.strKind PW c.w) d kvs' ep) (k1.at' fun o e => Heap.get?_push_of_some _ e) (fun h h' hR k => hR.at' fun o e => k d (by simp) (by simp; exact Nat.ne_of_lt hlt) o e) J h0 ?_ ?_) ?_
 ·intro q
  rcases List.mem_cons.mp q with e | q
  ·obtain ⟨m, F, _⟩ := m1.fr
   exact absurd F.ns.lt (e ▸ Nat.lt_irrefl _)
  ·exact hdL (List.mem_singleton.mp q).symm
 ·intro b hb
  rw [List.mem_singleton.mp hb]
  exact ⟨m1.fresh_base.1, by rw [St.del_ne (Nat.ne_of_gt hlt)]; exact m1.fresh⟩
 ·intro b hb
  rcases List.mem_cons.mp hb with rfl | hb
  ·rw [St.del_ne (Nat.ne_of_gt hlt)]; exact m1.fresh
  ·rw [List.mem_singleton.mp hb]; exact St.del_self
 ·intro i h hX9 b hb
  refine hide fun G9 hG9 => ?_
  obtain ⟨⟨o, ho, _⟩, ⟨o', es, ho', _⟩⟩ := hX9
  refine hG9 ?_
  rcases List.mem_cons.mp hb with rfl | hb
  ·exact ⟨_, ho⟩
  ·rw [List.mem_singleton.mp hb]; exact ⟨_, ho'⟩
 ·intro i s' v Q' hS hQ
  rw [hgo]
  exact wpAny_pure hQ
 ·intro i v c' st' hi hX9 hX hS hJ
  refine hide fun G9 hG9 => ?_
  obtain ⟨k, x, hx, hk⟩ := hX9
  obtain ⟨t, rfl⟩ := Value.isStrOf_shape hk
  refine hG9 ?_
  have e1 : kvs[i]? = some (k, z x) := by
   rw [← k2]; unfold zz; rw [List.getElem?_map, hx]; rfl
  exact turn i _ c' st' e1 hX hJ
 ·intro st' hJ _
  exact done st' (hlen ▸ hJ)
 ·intro r s' hr
  cases r with
  | error e => exact hr.elim
  | ok f =>
   refine hide fun G9 hG9 => ?_
   obtain ⟨⟨st', m', hn', hΨ⟩, hR⟩ := hr
   refine hG9 ?_
   exact ⟨_, m'.back (o := .dictS kvs) ⟨kvs', hR.dictOf, k2⟩ hdL hd0, hΨ⟩
theorem XS_ForItems {elts : List Expr} {kk : Nat} {tpos : Pos} {iter : Expr} {body : List Stmt} {pos : Pos} (hh : c.A.handled = none) (hfs : ∀ x, foldedSetIterable iter c.env x = pure x)
  (h : EX c iter st fun v st1 => ∃ kv d kvs, ∃ J : Nat → St → Prop, v = .ref kv ∧ st1.hp kv = some (.iview d) ∧ st1.hp d = some (.dictS kvs) ∧ J 0 (st1.del d) ∧
   (∀ (i : Nat) p c' T xs st', kvs[i]? = some p → Ext c c' → c'.h₀.IsTuple T xs → xs.toList.map z = [.str p.1 0, p.2] → J i st' → ASG c' (.Tuple elts kk tpos) (.ref T) st' fun st2 => XB c' body st2 (LP (J (i + 1)) (backTo' d (.dictS kvs) Ψ))) ∧
   ∀ st', J kvs.length st' → Ψ .next (st'.put d (.dictS kvs))) : XS c (.For (.Tuple elts kk tpos) iter body [] pos) st Ψ := .of fun s hs => by
 refine wpAny_For (WP.thru h hs fun v s1 st1 m1 h1 => ?_) hfs
 refine hide fun G9 hG9 => ?_
 obtain ⟨kv, d, kvs, J, rfl', hkv, hd, h0, turn, done⟩ := h1
 refine hG9 ?_
 rw [z_ref rfl']
 refine hide fun G9 hG9 => ?_
 obtain ⟨hV, _, _⟩ := m1.hp kv _ hkv
 obtain ⟨⟨kvs', k1, k2⟩, hdL, hd0⟩ := m1.hp d _ hd
 obtain ⟨ep, k1⟩ := dictAt_of k1
 refine hG9 ?_
 have hlt : d < s1.heap.objs.size := k1.lt_size
 have hlen : kvs'.length = kvs.length := by rw [← k2, zz_length]
 refine wpAny_pyIter_items (kvs := kvs') (ep := ep) ⟨_, hV, rfl, rfl⟩ k1 ?_
 have mI : Mod c (st1.del d) { s1 with heap := s1.heap.push { cls := .type "dict_itemiterator", data := .fields #[.none, .bool false, .ref d, .int 0 0, .int kvs'.length 0, .int ep 0, .none, .none] } } :=
  m1.del.keep fun b o e => Heap.get?_push_of_some _ e
 have W := walksItems (w := c.w) (A := c.A) (knd := PySem.strKind PW c.w) (kvs := kvs') (ep := ep) hh s1.heap.objs.size d (Nat.ne_of_lt hlt)
 refine codeAny_mono (forGenT (s := { s1 with heap := s1.heap.push { cls := .type "dict_itemiterator", data := .fields #[.none, .bool false, .ref d, .int 0 0, .int kvs'.length 0, .int ep 0, .none, .none] } }) (body := body) (Ψ := backTo' d (.dictS kvs) Ψ) W mI
  ⟨⟨_, _, Heap.get?_push_size _ rfl⟩, k1.at' fun o e => Heap.get?_push_of_some _ e⟩ ?_ ?_ ?_ ?_
  (fun h => h.DictAt (PySem.strKind PW c.w) d kvs' ep) (k1.at' fun o e => Heap.get?_push_of_some _ e) (fun h h' hR k => hR.at' fun o e => k d (by simp) (by simp; exact Nat.ne_of_lt hlt) o e) J h0 ?_ ?_) ?_
 ·intro q
  rcases List.mem_cons.mp q with e | q
  ·obtain ⟨m, F, _⟩ := m1.fr
   exact absurd F.ns.lt (e ▸ Nat.lt_irrefl _)
  ·exact hdL (List.mem_singleton.mp q).symm
 ·intro b hb
  rw [List.mem_singleton.mp hb]
  exact ⟨m1.fresh_base.1, by rw [St.del_ne (Nat.ne_of_gt hlt)]; exact m1.fresh⟩
 ·intro b hb
  rcases List.mem_cons.mp hb with rfl | hb
  ·rw [St.del_ne (Nat.ne_of_gt hlt)]; exact m1.fresh
  ·rw [List.mem_singleton.mp hb]; exact St.del_self
 ·intro i h hX9 b hb
  refine hide fun G9 hG9 => ?_
  obtain ⟨⟨ok, ov, ho⟩, ⟨o', es, ho', _⟩⟩ := hX9
  refine hG9 ?_
  rcases List.mem_cons.mp hb with rfl | hb
  ·exact ⟨_, ho⟩
  ·rw [List.mem_singleton.mp hb]; exact ⟨_, ho'⟩
 ·intro i vals T c' st' hi hX9 hX hT hJ
  refine hide fun G9 hG9 => ?_
  obtain ⟨key, k, v, hx, hk, rfl⟩ := hX9
  obtain ⟨t, rfl⟩ := Value.isStrOf_shape hk
  refine hG9 ?_
  have e1 : kvs[i]? = some (k, z v) := by
   rw [← k2]; unfold zz; rw [List.getElem?_map, hx]; rfl
  exact turn i _ c' T _ st' e1 hX hT rfl hJ
 ·intro st' hJ _
  exact done st' (hlen ▸ hJ)
 ·intro r s' hr
  cases r with
  | error e => exact hr.elim
  | ok f =>
   refine hide fun G9 hG9 => ?_
   obtain ⟨⟨st', m', hn', hΨ⟩, hR⟩ := hr
   refine hG9 ?_
   exact ⟨_, m'.back (o := .dictS kvs) ⟨kvs', hR.dictOf, k2⟩ hdL hd0, hΨ⟩
end
end Mine
end
section
open PySem PySem.W PyProof.Rows PySem.Calls
namespace Mine
theorem slot_md_get : Slot "method_descriptor" "__get__" "method_descriptor.__get__" :=
 .of (owner := "method_descriptor") (n := "__get__") (by rw [typeLookup_type, builtinLookup_eq_fast]; kernel_rfl) (by decide +kernel) (by decide +kernel) (by decide +kernel)
  (by first | exact .inl (by decide +kernel) | exact .inr (by decide +kernel)) (by rw [isSubtype_type]; kernel_rfl)
theorem md_set : typeLookup (.type "method_descriptor") "__set__" = pure none := by rw [typeLookup_type, builtinLookup_eq_fast]; kernel_rfl
theorem md_del : typeLookup (.type "method_descriptor") "__delete__" = pure none := by rw [typeLookup_type, builtinLookup_eq_fast]; kernel_rfl
open Builtin.ObjectAttr in
theorem found_md {w : World} {A : Around} {E : Value → Shared → Prop} {s : Shared} {self : Addr} {o : Obj} {T : String} {name : Str} {id : String} {Q : Found → Shared → Prop}
  (hx : s.heap.get? self = some o) (hc : o.cls = .type T) (hd : o.dict = none) (hdc : ∀ c, o.data ≠ .cls c) (f1 : typeLookup (.type T) name = pure (some (.builtin id))) (f2 : typeOf (.builtin id) = pure (.type "method_descriptor"))
  (hn : (["__module__", "__name__", "__qualname__", "__doc__", "__annotations__"] : List Str).contains name = false)
  (h : Q (.bind (.builtin "method_descriptor.__get__") (.builtin id)) s) : wpAny (model PW w) A (find (.ref self) (.type T) name) Q E s := by
 unfold find
 refine wpAny_bind (wpAny_of_eq f1 ?_)
 unfold getOf
 refine wpAny_bind (wpAny_specialOf (T := "method_descriptor") f2 slot_md_get.lookup ?_)
 unfold dataDescriptor?
 dsimp only
 refine wpAny_bind (wpAny_bind ?_)
 unfold takesStores
 refine wpAny_bind (wpAny_specialOf (T := "method_descriptor") f2 md_set ?_)
 refine KFB.if_not rfl ?_
 refine wpAny_bind (wpAny_specialOf (T := "method_descriptor") f2 md_del ?_)
 refine wpAny_pure (KFB.if_not rfl (wpAny_pure ?_))
 dsimp only
 unfold ownThenClass inOwnDict Builtin.ObjectAttr.ownDict
 refine wpAny_bind (wpAny_bind ?_)
 unfold loadHead
 refine wpAny_bind (wpAny_loadPart hx ?_)
 have key : wpAny (model PW w) A (instanceDict self false) (fun a_1 s' => wpAny (model PW w) A (inDict name a_1) (fun a_2 s' => wpAny (model PW w) A
     (match a_2 with
     | some v => do
      rule "getattr.instance-dict"
      pure (Found.value v)
     | none => do
      copiedAttributeGuard name (Value.ref self)
      byTheClass (some (Value.builtin id)) (some (Value.builtin "method_descriptor.__get__")))
     Q E s') E s') E s := by
  unfold instanceDict
  refine wpAny_bind (wpAny_loadPart hx ?_)
  rw [hc]
  dsimp only
  rw [hd]
  dsimp only
  refine KFB.if_so rfl (wpAny_pure ?_)
  unfold inDict
  refine wpAny_pure ?_
  dsimp only
  unfold copiedAttributeGuard byTheClass
  dsimp only
  rw [hn]
  refine wpAny_bind (wpAny_pure ?_)
  exact wpAny_bind (wpAny_rule (wpAny_pure h))
 obtain ⟨cl, dct, dat, sl⟩ := o
 cases dat with
 | cls cd => exact absurd rfl (hdc cd)
 | _ => exact key
noncomputable def bmObj (id : String) (self : Value) : Obj := { cls := .type "builtin_function_or_method", data := .fields #[.builtin id, self] }
theorem entry_md_get : entryFor table "method_descriptor.__get__" = some Builtin.«method_descriptor.__get__» := entryFor_of_tree (by kernel_rfl)
theorem args_md_get (a b c : Value) : argsOk "method_descriptor.__get__" ⟨[a, b, c], []⟩ := by unfold argsOk; kernel_rfl
theorem run_md_get {w : World} {a : Addr} {A : Around} {E : Value → Shared → Prop} {s : Shared} {Q : Fin → Shared → Prop} {o : Obj} {T id : String}
 (hx : s.heap.get? a = some o) (hc : o.cls = .type T) (f1 : ".".intercalate (id.cutAt '.').dropLast = T) (f2 : isSubtype (.type T) (.type T) = pure true) (f3 : Manifest.toldItsClass.contains id = false)
 (h : Q (.done (.ret (.ref s.heap.objs.size))) { s with heap := s.heap.push (bmObj id (.ref a)) }) :
  wpAny (model PW w) A (Builtin.«method_descriptor.__get__» ⟨[.builtin id, .ref a, .type T], []⟩) Q E s := by
 have hT : s.TypeIs (.ref a) T := ⟨_, hx, hc⟩
 unfold Builtin.«method_descriptor.__get__»
 refine wpAny_bind (wpAny_of_eq (a := (.builtin id, some (.ref a), some (.type T))) (by first | rfl | kernel_rfl) ?_)
 dsimp only
 rw [f3]
 simp only [Bool.false_eq_true, if_false]
 repeat (any_goals (first | assumption | wp_step))
 rw [f1]
 repeat (any_goals (first | assumption | wp_step))
open Builtin.ObjectAttr in
theorem getattribute_md {w : World} {A : Around} {E : Value → Shared → Prop} {s : Shared} {a : Addr} {o : Obj} {T : String} {name : Str} {u : Tok} {id : String} {Q : Value → Shared → Prop}
  (hx : s.heap.get? a = some o) (hc : o.cls = .type T) (hd : o.dict = none) (hdc : ∀ c, o.data ≠ .cls c) (g1 : typeLookup (.type T) name = pure (some (.builtin id))) (g2 : typeOf (.builtin id) = pure (.type "method_descriptor"))
  (hn : (["__module__", "__name__", "__qualname__", "__doc__", "__annotations__"] : List Str).contains name = false)
  (f1 : ".".intercalate (id.cutAt '.').dropLast = T) (f2 : isSubtype (.type T) (.type T) = pure true) (f3 : Manifest.toldItsClass.contains id = false)
  (h : Q (.ref s.heap.objs.size) { s with heap := s.heap.push (bmObj id (.ref a)) }) :
  wpAny (model PW w) A (Builtin.«object.__getattribute__» ⟨[.ref a, .str name u], []⟩) (fun fin s' => ∃ v, fin = .done (.ret v) ∧ Q v s') E s := by
 have hT : s.TypeIs (.ref a) T := ⟨_, hx, hc⟩
 unfold Builtin.«object.__getattribute__»
 refine wpAny_bind (wpAny_pure ?_)
 dsimp only
 refine wpAny_bind (wpAny_pure ?_)
 refine wpAny_bind (wpAny_typeOf hT ?_)
 refine wpAny_bind (found_md hx hc hd hdc g1 g2 hn ?_)
 dsimp only
 unfold bindTo
 dsimp only
 refine wpAny_bind (wpAny_holding ?_)
 refine wpAny_call_entry slot_md_get (T := "method_descriptor") g2 entry_md_get ?_ (args_md_get _ _ _)
 exact run_md_get hx hc f1 f2 f3 ⟨_, rfl, wpAny_pure ⟨_, rfl, h⟩⟩
structure BMT (T gid : String) : Prop where
 ga : Slot T "__getattribute__" gid
 entry : entryFor table gid = some Builtin.«object.__getattribute__»
 args : ∀ a b, argsOk gid ⟨[a, b], []⟩
 sub : isSubtype (.type T) (.type T) = pure true
theorem getAttr_bm {w : World} {A : Around} {E : Value → Shared → Prop} {s : Shared} {a : Addr} {o : Obj} {T gid : String} {name : Str} {id : String} {Q : Value → Shared → Prop} (B : BMT T gid)
  (hx : s.heap.get? a = some o) (hc : o.cls = .type T) (hd : o.dict = none) (hdc : ∀ c, o.data ≠ .cls c) (g1 : typeLookup (.type T) name = pure (some (.builtin id))) (g2 : typeOf (.builtin id) = pure (.type "method_descriptor"))
  (hn : (["__module__", "__name__", "__qualname__", "__doc__", "__annotations__"] : List Str).contains name = false)
  (f1 : ".".intercalate (id.cutAt '.').dropLast = T) (f3 : Manifest.toldItsClass.contains id = false)
  (h : ∀ tk, Q (.ref s.heap.objs.size) { s with heap := s.heap.push (bmObj id (.ref a)), toks := tk }) :
  wpAny (model PW w) A (getAttr (.ref a) name true) Q E s := by
 have hT : s.TypeIs (.ref a) T := ⟨_, hx, hc⟩
 unfold getAttr
 refine wpAny_bind (wpAny_mkText ?_)
 unfold getAttrBy
 refine wpAny_holding (wpAny_bind (wpAny_typeOf hT (wpAny_bind (wpAny_of_eq B.ga.lookup ?_))))
 dsimp only
 refine KFB.if_not rfl ?_
 unfold getAttrByItsOwn hookBefore
 refine wpAny_bind (wpAny_pure ?_)
 refine wpAny_bind (wpAny_attempt ?_)
 refine wpAny_holding ?_
 unfold callGetattribute
 refine KFB.if_not rfl ?_
 unfold boundAndCalled
 refine wpAny_bind (wpAny_of_eq (B.ga.bind (.ref a)) ?_)
 refine wpAny_call_entry B.ga (T := T) ?_ B.entry ?_ (B.args _ _)
 ·exact hT
 refine getattribute_md (s := { s with toks := s.toks + 1 }) hx hc hd hdc g1 g2 hn f1 B.sub f3 ?_
 refine wpAny_pure ?_
 exact h _
end Mine
end
section
open PySem PySem.W PyProof.Rows PySem.Calls
namespace Mine
theorem sig_dict_get : Manifest.signature? "dict.get" = some ⟨.positional, "dict.get", "get", .self, [⟨"key", .posOnly, true⟩, ⟨"default", .posOnly, false⟩]⟩ := by
 rw [signature?_of (id := "dict.get") (n := ['t', 'e', 'g']) (o := ['t', 'c', 'i', 'd']) (by kernel_rfl) F.owner_dict]; kernel_rfl
theorem sig_set_contains : Manifest.signature? "set.__contains__" = some ⟨.oneArg, "set.__contains__", "__contains__", .self, [⟨"object", .posOnly, true⟩]⟩ := by
 rw [signature?_of (id := "set.__contains__") (n := ['_', '_', 's', 'n', 'i', 'a', 't', 'n', 'o', 'c', '_', '_']) (o := ['t', 'e', 's']) (by kernel_rfl) F.owner_set]; kernel_rfl
theorem kind_dict_get : builtinKind "dict.get" = some .method := by kernel_rfl
theorem kind_set_contains : builtinKind "set.__contains__" = some .method := by kernel_rfl
theorem va_dict_get : Manifest.varargsMethods.contains "dict.get" = false := by decide +kernel
theorem va_set_contains : Manifest.varargsMethods.contains "set.__contains__" = false := by decide +kernel
theorem sub_dict_mod : isSubtype (.type "dict") (.type "module") = pure false := by rw [isSubtype_type]; kernel_rfl
theorem sub_set_mod : isSubtype (.type "set") (.type "module") = pure false := by rw [isSubtype_type]; kernel_rfl
theorem checkArgs_plain {M : Model} {A : Around} {E : Value → Shared → Prop} {s : Shared} {id : String} {sig : Manifest.Signature} {self : Value} {rest : List Value} {Q : Unit → Shared → Prop} (hm : (sig.machinery == .constructor) = false) (hf : (sig.full != "*") = true) (hs : (sig.short != "*") = true) (hr : sig.receiver = .self)
  (hc : Bind.check sig sig.full sig.short rest.length [] = pure ()) (h : Q () s) : wpAny M A (Bind.checkArgs id sig ⟨self :: rest, []⟩) Q E s := by
 unfold Bind.checkArgs
 obtain ⟨ma, fu, sh, re, ps⟩ := sig
 dsimp only at *
 subst hr
 have h1 : (Manifest.Receiver.self == Manifest.Receiver.none) = false := by decide
 simp only [h1, Bool.false_eq_true, if_false, List.head?_cons, List.map_nil, List.isEmpty_nil]
 refine wpAny_bind (m := Bind.printed fu true _ _) (PyProof.Rows.printed_name hf ?_)
 refine wpAny_bind (m := Bind.printed sh false _ _) (PyProof.Rows.printed_name hs ?_)
 have hn : (self :: rest).length - 1 = rest.length := by simp
 rw [hn, hc]
 exact wpAny_onRaise (wpAny_pure h)
theorem bound_ok {M : Model} {A : Around} {E : Value → Shared → Prop} {s : Shared} {id T : String} {sig : Manifest.Signature} {a : Addr} {o : Obj} {rest : List Value} {Q : Unit → Shared → Prop} (hx : s.heap.get? a = some o) (hcl : o.cls = .type T) (hdc : ∀ c, o.data ≠ .cls c)
  (hsig : Manifest.signature? id = some sig) (hk : builtinKind id = some .method) (hv : Manifest.varargsMethods.contains id = false) (hmod : isSubtype (.type T) (.type "module") = pure false)
  (hm : (sig.machinery == .constructor) = false) (hf : ((Bind.lastOf T ++ "." ++ Bind.lastOf id : String) != "*") = true) (hs : (sig.short != "*") = true) (hr : sig.receiver = .self)
  (hc : Bind.check { sig with full := s!"{Bind.lastOf T}.{Bind.lastOf id}" } s!"{Bind.lastOf T}.{Bind.lastOf id}" sig.short rest.length [] = pure ()) (h : Q () s) : wpAny M A (checkBoundCall id ⟨.ref a :: rest, []⟩) Q E s := by
 have hT : s.TypeIs (.ref a) T := ⟨_, hx, hcl⟩
 unfold checkBoundCall
 rw [hsig, hk]
 dsimp only
 refine KFB.if_not rfl ?_
 refine wpAny_bind (wpAny_isInstance hT hmod ?_)
 rw [hv]
 refine KFB.if_not rfl ?_
 refine wpAny_bind (m := isType _) ?_
 unfold isType loadHead
 refine wpAny_bind (wpAny_loadPart hx ?_)
 obtain ⟨cl, dct, dat, sl⟩ := o
 cases dat with
 | cls cd => exact absurd rfl (hdc cd)
 | _ =>
  refine wpAny_pure (KFB.if_not rfl (wpAny_bind (wpAny_typeOf hT ?_)))
  exact checkArgs_plain hm hf hs hr hc h
theorem call_bm {w : World} {A : Around} {E : Value → Shared → Prop} {s : Shared} {id T : String} {name : Str} {a bm : Addr} {us : List Value} {B : Builtin} {S : PySem.Spec} {Q : Value → Shared → Prop} (slot : Slot T name id)
  (ho : s.heap.get? bm = some (bmObj id (.ref a))) (hck : ∀ {A' : Around} {E' : Value → Shared → Prop} {Q' : Unit → Shared → Prop}, Q' () s → wpAny (model PW w) A' (checkBoundCall id ⟨.ref a :: us, []⟩) Q' E' s)
  (entry : entryFor table id = some B) (g : MeetsIn PW w (B ⟨.ref a :: us, []⟩) S) (h : S A (wants Q E) s) : wpAny (model PW w) A (call (.ref bm) us) Q E s := by
 refine wpAny_call (codeAny_of_tree ?_)
 show wpAny _ A.in1 (callAny (.ref bm) ⟨us, []⟩) _ _ s
 simp only [callAny]
 refine wpAny_bind (wpAny_load ho ?_)
 simp only [bmObj]
 refine KFB.if_so (by decide) ?_
 refine KFB.if_so (by decide) ?_
 refine wpAny_bind (hck ?_)
 refine wpAny_bind (wpAny_pure (wpAny_pure ?_))
 refine ⟨plainId_quiet slot.plain _, codeAny_builtin entry ?_⟩
 rw [Around.under_plainId slot.plain _]
 exact g A (wants Q E) s h
theorem bmt_dict : BMT "dict" "dict.__getattribute__" := ⟨F.slot_dict_getattribute, am_entry_dict_getattribute, fun a b => F.args_dict_getattribute_2 a b, by rw [isSubtype_type]; kernel_rfl⟩
theorem bmt_set : BMT "set" "set.__getattribute__" := ⟨F.slot_set_getattribute, entryFor_alias (id' := "object.__getattribute__") (by kernel_rfl) (by decide +kernel) (by decide +kernel) (by kernel_rfl), fun a b => F.args_set_getattribute_2 a b, by rw [isSubtype_type]; kernel_rfl⟩
theorem cut_dict_get : ".".intercalate ("dict.get".cutAt '.').dropLast = "dict" := by decide +kernel
theorem cut_set_contains : ".".intercalate ("set.__contains__".cutAt '.').dropLast = "set" := by decide +kernel
theorem told_dict_get : Manifest.toldItsClass.contains "dict.get" = false := by decide +kernel
theorem told_set_contains : Manifest.toldItsClass.contains "set.__contains__" = false := by decide +kernel
theorem chk_set (full : String) : Bind.check ⟨.oneArg, full, "__contains__", .self, [⟨"object", .posOnly, true⟩]⟩ full "__contains__" 1 [] = pure () := by
 simp [Bind.check]
theorem chk_dict (full : String) : Bind.check ⟨.positional, full, "get", .self, [⟨"key", .posOnly, true⟩, ⟨"default", .posOnly, false⟩]⟩ full "get" 2 [] = pure () := by
 kernel_rfl
theorem check_dict_get {M : Model} {A : Around} {E : Value → Shared → Prop} {s : Shared} {a : Addr} {o : Obj} {x y : Value} {Q : Unit → Shared → Prop} (hx : s.heap.get? a = some o) (hcl : o.cls = .type "dict") (hdc : ∀ c, o.data ≠ .cls c) (h : Q () s) :
  wpAny M A (checkBoundCall "dict.get" ⟨[.ref a, x, y], []⟩) Q E s :=
 bound_ok hx hcl hdc sig_dict_get kind_dict_get va_dict_get sub_dict_mod (by decide) (by decide +kernel) (by decide) rfl (chk_dict _) h
theorem check_set_contains {M : Model} {A : Around} {E : Value → Shared → Prop} {s : Shared} {a : Addr} {o : Obj} {x : Value} {Q : Unit → Shared → Prop} (hx : s.heap.get? a = some o) (hcl : o.cls = .type "set") (hdc : ∀ c, o.data ≠ .cls c) (h : Q () s) :
  wpAny M A (checkBoundCall "set.__contains__" ⟨[.ref a, x], []⟩) Q E s :=
by
 have h1 : ((Manifest.Machinery.oneArg) == Manifest.Machinery.constructor) = false := by decide
 have h2 : ((Bind.lastOf "set" ++ "." ++ Bind.lastOf "set.__contains__" : String) != "*") = true := by decide +kernel
 have h3 : (("__contains__" : String) != "*") = true := by decide +kernel
 refine bound_ok (T := "set") (id := "set.__contains__") (rest := [x]) (sig := ⟨.oneArg, "set.__contains__", "__contains__", .self, [⟨"object", .posOnly, true⟩]⟩) hx hcl hdc ?_ ?_ ?_ ?_ ?_ ?_ ?_ ?_ ?_ h
 ·exact sig_set_contains
 ·exact kind_set_contains
 ·exact va_set_contains
 ·exact sub_set_mod
 ·exact h1
 ·exact h2
 ·exact h3
 ·exact rfl
 ·exact chk_set _
theorem meets_contains {w : World} {K : Type} [DecidableEq K] {knd : KeyKind PW w K} {a : Addr} {k : K} {key : Value} (hkey : knd.is k key = true) (hsc : key.scannable = true) :
  MeetsIn PW w (Builtin.«frozenset.__contains__» ⟨[.ref a, key], []⟩) (fun _ R s => ∃ S n, s.heap.SetOf knd a S n ∧ R (.ok (.ret (.bool (S k)))) { s with toks := s.toks + 1 }) :=
 .of_wp fun A R s ⟨S, n, hS, h⟩ => by
  unfold Builtin.«frozenset.__contains__» Builtin.Frozenset.oneOther
  simp only [List.isEmpty_nil, bind_assoc]
  unfold Builtin.Frozenset.addrOf Builtin.Frozenset.withSetAsKey setContains
  refine wpAny_bind (wpAny_pure ?_)
  try dsimp only
  refine wpAny_bind (wpAny_pure ?_)
  try dsimp only
  refine wpAny_bind (wpAny_tryCatch ?_)
  refine wpAny_holding ?_
  refine wpAny_bind (knd.pyHash hkey ?_)
  refine wpAny_bind (wpAny_setFind_of (s := { s with toks := s.toks + 1 }) hkey hsc hS fun r hr => ?_)
  refine wpAny_pure ?_
  show wpAny _ _ (ret (Value.bool r.isSome)) _ _ _
  rw [hr]
  exact wpAny_pure ⟨_, rfl, h⟩
section
variable {c : Cx} {st : St} {Φ : Value → St → Prop} {Ψ : AF → St → Prop}
theorem GETA_dget {a : Addr} {kvs : List (Int × Value)} (ha : st.hp a = some (.dictI kvs)) (h : ∀ b, st.hp b = none → Φ (.ref b) (st.put b (.bm (.builtin "dict.get") (.ref a)))) : ∀ u, z u = .ref a → WP c (getAttr u "get" true) st fun r st' => Φ (z r) st' := by
 intro u hu
 rw [z_ref hu]
 refine .of fun s hs => ?_
 refine hide fun G9 hG9 => ?_
 obtain ⟨kvs', ⟨o, es, ep, k1, ⟨k2, k3, k4⟩, k5, _⟩, _⟩ := (hs.hp a _ ha).1
 refine hG9 ?_
 exact getAttr_bm bmt_dict k1 k2 k3 (fun c e => by rw [k5] at e; cases e) F.slot_dict_get.lookup F.type_dict_get (by decide +kernel) cut_dict_get told_dict_get fun tk => ⟨_, hs.push (o := .bm (.builtin "dict.get") (.ref a)) (Heap.get?_push_size _ rfl), h _ hs.fresh⟩
theorem GETA_scontains {a : Addr} {S : Str → Bool} {n : Nat} (ha : st.hp a = some (.setS S n)) (h : ∀ b, st.hp b = none → Φ (.ref b) (st.put b (.bm (.builtin "set.__contains__") (.ref a)))) : ∀ u, z u = .ref a → WP c (getAttr u "__contains__" true) st fun r st' => Φ (z r) st' := by
 intro u hu
 rw [z_ref hu]
 refine .of fun s hs => ?_
 refine hide fun G9 hG9 => ?_
 obtain ⟨es, ep, t, k1, _⟩ := (hs.hp a _ ha).1
 refine hG9 ?_
 exact getAttr_bm bmt_set k1 rfl rfl (fun c e => by cases e) F.slot_set_contains.lookup F.type_set_contains (by decide +kernel) cut_set_contains told_set_contains fun tk => ⟨_, hs.push (o := .bm (.builtin "set.__contains__") (.ref a)) (Heap.get?_push_size _ rfl), h _ hs.fresh⟩
theorem CALL_bmget {a b : Addr} {kvs : List (Int × Value)} {k : Int} {v : Value} (hG : ∃ ob, c.h₀.get? sysModules = some ob) (hb : st.hp b = some (.bm (.builtin "dict.get") (.ref a))) (ha : st.hp a = some (.dictI kvs)) (h : Φ ((valueAt kvs k).getD v) st) : CALL c (.ref b) [iv k, v] st Φ := by
 intro u us hu hus
 rw [z_ref hu]
 refine hide fun G9 hG9 => ?_
 obtain ⟨u2, u3, rfl, e2, e3⟩ := two hus
 obtain ⟨t, rfl⟩ := z_int e2
 refine hG9 ?_
 refine .of fun s hs => ?_
 refine hide fun G9 hG9 => ?_
 obtain ⟨kvs', k1, k2⟩ := (hs.hp a _ ha).1
 have ho : s.heap.get? b = some (bmObj "dict.get" (.ref a)) := (hs.hp b _ hb).1
 have k1' := k1
 obtain ⟨o, es, ep, l1, ⟨l2, l3, l4⟩, l5, _⟩ := k1'
 refine hG9 ?_
 refine call_bm F.slot_dict_get ho (fun q => check_dict_get l1 l2 (fun c e => by rw [l5] at e; cases e) q) F.entry_dict_get (meets_dict_get_default (intKind PW c.w) a (intKind_is PW c.w k t) (hs.notMods hG ha) u3) ⟨_, k1.mapOf, ?_⟩
 refine ⟨st, hs.toks, ?_⟩
 have : z ((valueAt kvs' k).getD u3) = (valueAt kvs k).getD v := by
  rw [← k2, zz_valueAt, ← e3]
  cases valueAt kvs' k <;> rfl
 rw [this]; exact h
theorem CALL_bmcontains {a b : Addr} {S : Str → Bool} {n : Nat} {x : Str} (hb : st.hp b = some (.bm (.builtin "set.__contains__") (.ref a))) (ha : st.hp a = some (.setS S n)) (h : Φ (.bool (S x)) st) : CALL c (.ref b) [.str x 0] st Φ := by
 intro u us hu hus
 rw [z_ref hu]
 obtain ⟨u2, rfl, e2⟩ := one hus
 obtain ⟨t, rfl⟩ := z_str e2
 refine .of fun s hs => ?_
 have k1 : SetW c.w s.heap a S n := (hs.hp a _ ha).1
 have ho : s.heap.get? b = some (bmObj "set.__contains__" (.ref a)) := (hs.hp b _ hb).1
 have k1' := k1
 refine hide fun G9 hG9 => ?_
 obtain ⟨es, ep, tb, l1, _⟩ := k1'
 refine hG9 ?_
 refine call_bm F.slot_set_contains ho (fun q => check_set_contains l1 rfl (fun c e => by cases e) q) entry_set_contains (meets_contains (knd := PySem.strKind PW c.w) (strKind_is PW c.w x t) rfl) ⟨_, _, k1.setOf, ?_⟩
 exact ⟨st, hs.toks, h⟩
end
end Mine
end
section
open PySem PySem.W PyProof.Rows PySem.Calls PySem.Builtin PySem.Builtin.Str PySem.Spec PySem.SeqAt
namespace Mine
section
variable {c : Cx} {st : St} {Φ : Value → St → Prop} {B : Bool → St → Prop} {Ψ : AF → St → Prop}
theorem EX_Neg {x : Expr} {pos : Pos} {k : Int} (h : EX c x st fun v st1 => ∃ i, v = iv i ∧ Φ (iv (-i)) st1) : EX c (.UnaryOp .USub x pos) st Φ := .of fun s hs => by
 refine wpAny_UnaryOp (WP.thru h hs fun v s1 st1 m1 h1 => ?_)
 obtain ⟨i, hv, hΦ⟩ := h1
 obtain ⟨t, rfl⟩ := z_int hv
 exact PySem.P.neg_int ⟨st1, m1.toks, hΦ⟩
noncomputable def OR (c : Cx) (es : List Expr) (st : St) (B : Bool → St → Prop) : Prop := WP c (allTrue .Or es c.env) st B
theorem TS_Or {es : List Expr} {pos : Pos} (h : OR c es st B) : TS c (.BoolOp .Or es pos) st B := .of fun s hs => wpAny_isTrue_BoolOp (h.run s hs)
theorem OR_nil (h : B false st) : OR c [] st B := .of fun s hs => wpAny_allTrue_Or_nil ⟨st, hs, h⟩
theorem OR_cons {x : Expr} {rest : List Expr} (h : TS c x st fun b st' => if b then B true st' else OR c rest st' B) : OR c (x :: rest) st B := .of fun s hs =>
 wpAny_allTrue_Or_cons (WP.thru h hs fun b s' st' m p => by
  cases b with
  | true => exact ⟨st', m, p⟩
  | false => exact p.run s' m)
theorem EX_And {e₁ e₂ : Expr} {rest : List Expr} {pos : Pos} (h : EX c e₁ st fun v st1 => TRU c v st1 fun b st2 => if b then EX c (.BoolOp .And (e₂ :: rest) pos) st2 Φ else Φ v st2) : EX c (.BoolOp .And (e₁ :: e₂ :: rest) pos) st Φ := .of fun s hs =>
 BoolOp_and (WP.thru h hs fun v s1 st1 m1 h1 => WP.thru (h1 v rfl) m1 fun b s2 st2 m2 h2 => by
  cases b with
  | true => exact h2.run s2 m2
  | false => exact ⟨st2, m2, h2⟩)
theorem EX_And1 {e : Expr} {pos : Pos} (h : EX c e st Φ) : EX c (.BoolOp .And [e] pos) st Φ := .of fun s hs => BoolOp_one (h.run s hs)
theorem BIN_addL {a b : Addr} {vs ws : List Value} (ha : st.hp a = some (.list vs)) (hb : st.hp b = some (.list ws)) (hz : vs.length + ws.length ≤ sizeLine) (h : ∀ r, st.hp r = none → Φ (.ref r) (st.put r (.list (vs ++ ws)))) : BIN c .Add (.ref a) (.ref b) st Φ := by
 intro u v hu hv
 rw [z_ref hu, z_ref hv]
 refine .of fun s hs => ?_
 refine hide fun G9 hG9 => ?_
 obtain ⟨xs, n, k1, k2⟩ := hs.list ha
 obtain ⟨ys, m, l1, l2⟩ := hs.list hb
 refine hG9 ?_
 refine PySem.P.add_list k1 l1 ⟨_, hs.push (o := .list (vs ++ ws)) (tk := s.toks) ⟨xs ++ ys, 0, ?_, by rw [List.map_append, k2, l2]⟩, h _ hs.fresh⟩ ?_
 ·have := Heap.get?_push_size s.heap (o := { cls := .type "list", data := .seq (xs.toArray ++ ys.toArray) }) rfl
  simpa using this
 ·have h1 : xs.length = vs.length := by rw [← k2, List.length_map]
  have h2 : ys.length = ws.length := by rw [← l2, List.length_map]
  simp only [List.size_toArray]; lia
theorem BIN_mulS {x : List Nat} {n : Int} (h1 : 1 < n) (h2 : n < 1000) (hx : x.length < 1000) (hx0 : 0 < x.length) (h : Φ (sv (List.replicate n.toNat x).flatten) st) : BIN c .Mult (sv x) (iv n) st Φ := by
 intro u v hu hv
 obtain ⟨t, rfl⟩ := z_str hu
 obtain ⟨t', rfl⟩ := z_int hv
 refine .of fun s hs => ?_
 have hl : (⟨x.toArray⟩ : Str).length = x.length := by simp [Str.length]
 refine PySem.P.mul_str ?_ ?_ ?_ ?_
 ·have a : ¬ (n < -(2 ^ 63 : Int)) := by lia
  have b : ¬ (n ≥ 2 ^ 63) := by lia
  rw [decide_eq_false a, decide_eq_false b]; rfl
 ·intro _ _
  rw [hl]
  have h3 : (1000 : Int) ≤ (2 ^ 63 - 1) / n := by
   rw [Int.le_ediv_iff_mul_le (by lia)]; lia
  exact Int.not_lt.mpr (Int.le_trans (by lia) h3)
 ·intro _ _
  rw [hl]
  unfold tooLong
  have h24 : sizeLine = 16777216 := by decide
  have : x.length * n.toNat ≤ 1000 * 1000 := Nat.mul_le_mul (by lia) (by lia)
  exact decide_eq_false (by lia)
 ·rw [if_neg (by lia), if_neg (by rw [hl]; simp only [Bool.or_eq_true, beq_iff_eq]; lia)]
  have e : (⟨(List.replicate n.toNat (⟨x.toArray⟩ : Str).cps).foldl (· ++ ·) #[]⟩ : Str) = ⟨(List.replicate n.toNat x).flatten.toArray⟩ := by
   have key : ∀ (k : Nat) (acc : Array Nat), (List.replicate k x.toArray).foldl (· ++ ·) acc = acc ++ (List.replicate k x).flatten.toArray := by
    intro k
    induction k with
    | zero => intro acc; simp
    | succ k ih =>
     intro acc
     rw [List.replicate_succ, List.foldl_cons, ih, List.replicate_succ, List.flatten_cons]
     simp [Array.append_assoc]
   rw [key]; simp
  rw [e]
  refine ⟨?_, st, hs.toks, h⟩
  have h24 : sizeLine = 16777216 := by decide
  have : n.toNat * x.length ≤ 1000 * 1000 := Nat.mul_le_mul (by lia) (by lia)
  simp [Str.length]; lia
theorem CALL_listS {l : List Nat} (hh : c.A.handled = none) (hz : l.length ≤ sizeLine) (h : ∀ r, st.hp r = none → Φ (.ref r) (st.put r (.list (l.map fun n => sv [n])))) : CALL c (.type "list") [sv l] st Φ := by
 intro u us hu hus
 rw [z_type hu]
 obtain ⟨u1, rfl, h1⟩ := one hus
 obtain ⟨t, rfl⟩ := z_str h1
 refine .of fun s hs => ?_
 refine call_list_str hh ⟨l.toArray⟩ t (fun h' tk acc' c' hk hS hI => ?_) (by simpa using hz)
 have m0 : Mod c st { s with heap := h', toks := tk } := hs.keep hk
 obtain ⟨a1, a2, a3⟩ := hs.above (b := s.heap.objs.size) (Nat.le_refl _)
 refine ⟨_, m0.back (o := .list (l.map fun n => sv [n])) ⟨acc'.toList, c', by simpa using hS, ?_⟩ a3 a2, h _ a1⟩
 have hlen : acc'.toList.length = l.length := by simpa using hI.1
 apply List.ext_getElem
 ·simp [hlen]
 ·intro i g1 g2
  simp at g1 g2
  obtain ⟨ch, u, hc, hv⟩ := hI.2 i acc'[i] (Array.getElem?_eq_getElem (by lia))
  simp at hc
  obtain ⟨_, hc⟩ := List.getElem?_eq_some_iff.mp hc
  simp [hv, z, hc]
theorem CALL_sum {a : Addr} {ns : List Int} (hh : c.A.handled = none) (ha : st.hp a = some (.list (ns.map iv))) (hz : ∀ n ∈ ns, 0 ≤ n ∧ n < 1000000) (hl : ns.length < 1000000) (h : Φ (iv ns.sum) st) : CALL c (.builtin "sum") [.ref a] st Φ := by
 intro u us hu hus
 rw [z_builtin hu]
 obtain ⟨u1, rfl, h1⟩ := one hus
 rw [z_ref h1]
 refine .of fun s hs => ?_
 obtain ⟨xs, n, k1, k2⟩ := hs.list ha
 have hlt : a < s.heap.objs.size := Heap.lt_size k1
 have hxs : xs.length = ns.length := by rw [← List.length_map (f := z), k2, List.length_map]
 refine call_sum_walk (wpAny_pyIter_list ⟨_, k1, rfl, n, rfl⟩ ?_)
 refine ⟨s.heap.objs.size, _, _, _, _, _, fun i => ns.getD i 0, rfl, Walks.list (A := c.A.in1) hh s.heap.objs.size a (Nat.ne_of_lt hlt) xs.toArray, ⟨⟨_, Heap.get?_push_size _ rfl, rfl, rfl⟩, ⟨_, Heap.get?_push_of_some _ k1, rfl, n, rfl⟩⟩, ?_, ?_, ?_, ?_⟩
 ·intro b hb
  simp at hb
  rcases hb with rfl | rfl
  ·show s.heap.objs.size < (s.heap.push _).objs.size
   rw [Heap.size_push]; exact Nat.lt_succ_self _
  ·show b < (s.heap.push _).objs.size
   rw [Heap.size_push]; exact Nat.lt_succ_of_lt hlt
 ·intro i v hv
  have hv' : xs[i]? = some v := by simpa using hv
  have e := congrArg (fun l => l[i]?) k2
  simp only [List.getElem?_map, hv', Option.map_some] at e
  obtain ⟨n', hn', e'⟩ := Option.map_eq_some_iff.mp e.symm
  obtain ⟨t, rfl⟩ := z_int e'.symm
  exact ⟨t, by simp [List.getD, hn']⟩
 ·have hsum : ∀ j, 0 ≤ (ns.take j).sum ∧ (ns.take j).sum ≤ 1000000 * (j : Int) := by
   intro j
   induction j with
   | zero => simp
   | succ j ih =>
    rw [List.take_succ, List.sum_append]
    cases e : ns[j]? with
    | none => simp; lia
    | some n =>
     have := hz n (List.mem_of_getElem? e)
     simp; lia
  intro j hj
  have hj' : j < ns.length := by simpa [hxs] using hj
  have h3 : ns.getD j 0 = ns[j] := by simp [List.getD, hj']
  have h4 := hz ns[j] (List.getElem_mem hj')
  have h5 := hsum (j + 1)
  show InLong (ns.getD j 0) ∧ _
  rw [preSum_getD, h3]
  unfold InLong
  refine ⟨⟨by lia, by lia⟩, by lia, ?_⟩
  have : ((j + 1 : Nat) : Int) ≤ 1000000 := by lia
  lia
 ·intro h' tk t' hk
  rw [preSum_getD]
  have e : ns.take xs.toArray.size = ns := by
   rw [List.take_of_length_le]; simp [hxs]
  rw [e]
  refine ⟨st, ?_, h⟩
  exact hs.keep fun b o eb => hk b o (fun q => absurd (Heap.lt_size eb) (by rw [List.mem_singleton.mp q]; exact Nat.lt_irrefl _)) (Heap.get?_push_of_some _ eb)
noncomputable def READ (c : Cx) (st : St) (v : Value) (d : PyData) : Prop := ∀ u s, z u = v → Mod c st s → ∃ as, Reads s.heap u d as
theorem READ_int {i : Int} : READ c st (iv i) (.int i) := fun u s hu _ => by
 obtain ⟨t, rfl⟩ := z_int hu
 exact ⟨_, .int i t⟩
theorem READ_str {x : Str} : READ c st (.str x 0) (.str x) := fun u s hu _ => by
 obtain ⟨t, rfl⟩ := z_str hu
 exact ⟨_, .str x t⟩
theorem READ_all : ∀ {vs : List Value} {ds : List PyData}, vs.length = ds.length → (∀ (i : Nat) v d, vs[i]? = some v → ds[i]? = some d → READ c st v d) → ∀ us s, us.map z = vs → Mod c st s → ∃ as, ReadsAll s.heap us ds as
 | [], [], _, _, us, s, hu, _ => by
  obtain rfl := List.map_eq_nil_iff.mp hu
  exact ⟨_, .nil⟩
 | v :: vs, d :: ds, hl, h, us, s, hu, hs => by
  refine hide fun G9 hG9 => ?_
  obtain ⟨u, us, rfl, h1, h2⟩ := List.map_eq_cons_iff.mp hu
  obtain ⟨as, ha⟩ := h 0 v d rfl rfl u s h1 hs
  obtain ⟨bs, hb⟩ := READ_all (Nat.succ.inj hl) (fun i v d hv hd => h (i + 1) v d (by simpa using hv) (by simpa using hd)) us s h2 hs
  refine hG9 ?_
  exact ⟨_, .cons ha hb⟩
theorem READ_tup {a : Addr} {vs : List Value} {ds : List PyData} (ha : st.hp a = some (.tup vs)) (hl : vs.length = ds.length) (h : ∀ (i : Nat) v d, vs[i]? = some v → ds[i]? = some d → READ c st v d) : READ c st (.ref a) (.tuple ds) := fun u s hu hs => by
 rw [z_ref hu]
 refine hide fun G9 hG9 => ?_
 obtain ⟨xs, n, k1, k2⟩ := (hs.hp a _ ha).1
 obtain ⟨as, hr⟩ := READ_all hl h xs s k2 hs
 refine hG9 ?_
 exact ⟨_, .tuple k1 rfl rfl hr⟩
theorem READ_list {a : Addr} {vs : List Value} {ds : List PyData} (ha : st.hp a = some (.list vs)) (hl : vs.length = ds.length) (h : ∀ (i : Nat) v d, vs[i]? = some v → ds[i]? = some d → READ c st v d) : READ c st (.ref a) (.list ds) := fun u s hu hs => by
 rw [z_ref hu]
 refine hide fun G9 hG9 => ?_
 obtain ⟨xs, n, k1, k2⟩ := (hs.hp a _ ha).1
 obtain ⟨as, hr⟩ := READ_all hl h xs s k2 hs
 refine hG9 ?_
 exact ⟨_, .list k1 rfl rfl hr⟩
theorem CMP_eqD {a b : Value} {da db : PyData} (hu : c.A.units + 64 < cLine) (ra : READ c st a da) (rb : READ c st b db) (ha : shaped da = true) (hb : shaped db = true) (hmix : noMix da db = true) (h : Φ (.bool (PySem.Spec.same da db)) st) : CMP c .Eq a b st Φ := fun u v hu' hv => .of fun s hs => by
 obtain ⟨as, r1⟩ := ra u s hu' hs
 obtain ⟨bs, r2⟩ := rb v s hv hs
 exact eq_dataH_same r1 r2 ha hb hu hmix ⟨st, hs, h⟩
theorem CMP_neD {a b : Value} {da db : PyData} (hu : c.A.units + 64 < cLine) (ra : READ c st a da) (rb : READ c st b db) (ha : shaped da = true) (hb : shaped db = true) (hmix : noMix da db = true) (h : Φ (.bool (!PySem.Spec.same da db)) st) : CMP c .NotEq a b st Φ := fun u v hu' hv => .of fun s hs => by
 obtain ⟨as, r1⟩ := ra u s hu' hs
 obtain ⟨bs, r2⟩ := rb v s hv hs
 exact ne_dataH_same r1 r2 ha hb hu hmix ⟨st, hs, h⟩
end
end Mine
end
section
open PySem PySem.W PyProof.Rows PySem.Calls
namespace Mine
section
variable {c : Cx} {st : St} {Φ : Value → St → Prop} {K : Frag}
theorem CALL_make {C f : Addr} {fd : FuncData} {body : List Stmt} {args : List Value} {o : Obj} {n : Nat} {zb : Addr → List (Str × Value)} (hG : Good c (n + 1)) (X : K.In c.h₀) (hm : makesIn K C = true)
  (hi : findIn K (.ref C) "__init__" = some (some (.ref f))) (hf : typeIn K (.ref f) = some (.type "function"))
  (ho : c.h₀.get? f = some o) (hd : o.data = .func fd) (hcd : c.h₀.CodeRec fd.code fd.qualname) (hbody : fd.body = .stmts body)
  (hbind : ∀ x s us, c.h₀.StaysIn s.heap → us.map z = .ref x :: args → ∃ binds, BindsTo s fd ⟨us, []⟩ binds ∧ zz binds = zb x)
  (hcell : ∀ x ∈ fd.scope.names, x.2 ≠ .cell) (hloc : ∀ a, ∀ x ∈ zb a, fd.scope.names.lookup x.1 = some .local)
  (hco : fd.scope.isCoroutine = false) (hgen : fd.scope.isGenerator = false) (hk : fd.scope.kind = .function)
  (h : ∀ x dx, x ≠ dx → st.hp x = none → st.hp dx = none → ∀ c', Under c fd f c' → XB c' body ⟨fun y => (zb x).reverse.lookup y, ((st.put dx (.attrs fun _ => none)).put x (.inst C dx)).hp⟩ fun fl st' => retV fl = .none ∧ Φ (.ref x) ⟨st.loc, st'.hp⟩) : CALL c (.ref C) args st Φ := by
 intro u us hu hus
 rw [z_ref hu]
 refine .of fun s hs => wpAny_call ?_
 refine hide fun G9 hG9 => ?_
 obtain ⟨m, F, hmm⟩ := hs.fr
 have Xs : K.In s.heap := X.keeps F.keep
 obtain ⟨hh, g, d, t, os⟩ := s
 refine hG9 ?_
 refine make_core (makes_of Xs hm) (looks_findIn Xs hi) (fun self => bind_fn Xs self hf) (.inl rfl) ?_
 refine hide fun G9 hG9 => ?_
 obtain ⟨a1, a2, a3⟩ := hs.above (b := hh.objs.size) (Nat.le_refl _)
 obtain ⟨b1, b2, b3⟩ := hs.above (b := hh.objs.size + 1) (Nat.le_succ _)
 refine hG9 ?_
 have hsz : (hh.push emptyDict).objs.size = hh.objs.size + 1 := Heap.size_push ..
 have hx : ((hh.push emptyDict).push (instObj C hh.objs.size)).get? (hh.objs.size + 1) = some (instObj C hh.objs.size) := by
  have := Heap.get?_push_size (hh.push emptyDict) (o := instObj C hh.objs.size) rfl
  rw [hsz] at this; exact this
 have hdx : ((hh.push emptyDict).push (instObj C hh.objs.size)).get? hh.objs.size = some emptyDict := Heap.get?_push_of_some _ (Heap.get?_push_size _ rfl)
 have m0 : Mod c st ⟨(hh.push emptyDict).push (instObj C hh.objs.size), g, d, t, os⟩ := hs.keep (s := ⟨hh, g, d, t, os⟩) (tk := t) fun b o e => Heap.get?_push_of_some _ (Heap.get?_push_of_some _ e)
 have hns : holds c.w (.attrs fun _ => none) ((hh.push emptyDict).push (instObj C hh.objs.size)) hh.objs.size := by
  refine ⟨fun _ => none, Heap.Ns1.of_empty ⟨_, #[], 0, hdx, rfl, fun e he => by simp at he, fun n => rfl⟩, fun _ => rfl⟩
 have m1 := (m0.back (o := .attrs fun _ => none) hns a3 a2).back (o := .inst C hh.objs.size) ⟨_, hx⟩ b3 b2
 have U1 : ∀ A' : Around, A' = c.A.under (.builtin "type.__call__" ⟨.ref C :: us, []⟩) → A'.handled = c.A.handled ∧ A'.units ≤ c.A.units + 10 ∧ A'.depth = c.A.depth + 1 := by
  rintro A' rfl
  refine ⟨rfl, ?_, rfl⟩
  show c.A.units + _ ≤ _
  have : (Code.builtin "type.__call__" ⟨.ref C :: us, []⟩).cUnits ≤ 10 := by
   show 1 + 3 * _ ≤ 10
   have : (Code.builtin "type.__call__" ⟨.ref C :: us, []⟩).frames = 0 := by rfl
   lia
  lia
 obtain ⟨u1, u2, u3⟩ := U1 _ rfl
 have m2 : Mod { c with A := c.A.under (.builtin "type.__call__" ⟨.ref C :: us, []⟩) } _ _ := ⟨m1.fr, m1.hp, m1.g, m1.o⟩
 have G1 : Good { c with A := c.A.under (.builtin "type.__call__" ⟨.ref C :: us, []⟩) } n := by
  refine hide fun G9 hG9 => ?_
  obtain ⟨g1, g2, g3, g4, g5⟩ := hG
  refine hG9 ?_
  exact ⟨u1.trans g1, by dsimp only; lia, by dsimp only; lia, g4, g5⟩
 refine codeAny_mono (CODE_fun (Φ := fun v st' => v = .none ∧ Φ (.ref (hh.objs.size + 1)) st') (zb := zb (hh.objs.size + 1)) (args := .ref (hh.objs.size + 1) :: args) G1 ho hd hcd hbody (hbind _) hcell (hloc _) hco hgen hk (fun c' U V => ?_) (by rw [List.map_cons, hus]; rfl) m2) ?_
 ·have U' : Under c fd f c' := ⟨U.w, U.hand.trans u1, by have := V.1; dsimp only at this; lia, by have := V.2; dsimp only at this; lia, U.env, U.keep, U.g, U.o, U.off⟩
  exact h _ _ (Nat.succ_ne_self _) b1 a1 c' U'
 ·intro r s' hr
  cases r with
  | error e => exact hr.elim
  | ok fl =>
   cases fl with
   | ret v =>
    obtain ⟨st', m', hv, hΦ⟩ := hr
    exact ⟨z_none hv, st', ⟨m'.fr, m'.hp, m'.g, m'.o⟩, hΦ⟩
   | _ => exact hr.elim
end
end Mine
end
section
open PySem PySem.W PyProof.Rows PySem.Calls
namespace Mine
structure MakesN (w : World) (h : Heap) (C f : Addr) : Prop where
 obj : ∃ oc od cd sl, h.get? C = some ⟨oc, od, .cls cd, sl⟩ ∧ cd.mro.isEmpty = false
 made : Looks (model PW w) h (Bind.madeBy (.ref C)) none
 self : Looks (model PW w) h (isSubtype (.ref C) (.ref C)) true
 top : Looks (model PW w) h (isSubtype (.ref C) (.type "object")) true
 call : Looks (model PW w) h (specialOf (.ref C) "__call__") (some (.builtin "type.__call__"))
 typ : Looks (model PW w) h (isInstance (.ref C) (.type "type")) true
 init : Looks (model PW w) h (typeLookup (.ref C) "__init__") (some (.builtin "object.__init__"))
 new : ∀ (A : Around) (E : Value → Shared → Prop) (s : Shared) (Q : Value → Shared → Prop), (∀ b o, h.get? b = some o → s.heap.get? b = some o) → (∀ tk, Q (.ref f) { s with toks := tk }) → wpAny (model PW w) A (getAttr (.ref C) "__new__") Q E s
section
variable {w : World} {A : Around} {C f : Addr} {R : Result → Shared → Prop} {h : Heap}
theorem oi_more {x : Addr} {r0 : Value} {rs : List Value} {A : Around} {E : Value → Shared → Prop} {s : Shared} {Q : Fin → Shared → Prop} (tx : Looks (model PW w) s.heap (typeOf (.ref x)) (.ref C)) (init : Looks (model PW w) s.heap (typeLookup (.ref C) "__init__") (some (.builtin "object.__init__")))
  (made : Looks (model PW w) s.heap (Bind.madeBy (.ref C)) none) (h : Q (.done (.ret .none)) s) : wpAny (model PW w) A (Builtin.«object.__init__» ⟨.ref x :: r0 :: rs, []⟩) Q E s := by
 unfold Builtin.«object.__init__»
 dsimp only
 refine KFB.if_so rfl ?_
 refine wpAny_bind (tx.here ?_)
 refine wpAny_bind (init.here ?_)
 dsimp only
 refine wpAny_bind (made.here ?_)
 refine KFB.if_not (by simp) ?_
 refine KFB.if_not (by simp) ?_
 exact wpAny_pure h
set_option maxHeartbeats 2000000 in
theorem makeN_core {r0 : Value} {rs rest : List Value} {s : Shared} (hrest : rest = r0 :: rs) (ha : ∀ x, argsOk "object.__init__" ⟨.ref x :: rest, []⟩) (Y : MakesN w h C f) (hk : ∀ b o, h.get? b = some o → s.heap.get? b = some o)
  (hq : ∀ tk, codeAny (model PW w) (A.under (.builtin "type.__call__" ⟨.ref C :: rest, []⟩)) (.call (.ref f) ⟨.ref C :: rest, []⟩) (fun r s' => match r with
   | .ok (.ret v) => ∃ x ox, v = .ref x ∧ s'.heap.get? x = some ox ∧ ox.cls = .ref C ∧ (∀ b o, h.get? b = some o → s'.heap.get? b = some o) ∧ R (.ok (.ret v)) s'
   | .ok _ => False | .error e => R (.error e) s') { s with toks := tk }) :
  codeAny (model PW w) A (.call (.ref C) ⟨rest, []⟩) R s := by
 refine hide fun G9 hG9 => ?_
 obtain ⟨⟨oc, od, cd, sl, hC, e4⟩, made, self, top, call, typ, init, new⟩ := Y
 have hC' := hk _ _ hC
 have made' := made.keeps hk
 have call' := call.keeps hk
 have typ' := typ.keeps hk
 have new' := fun A E Q q => new A E s Q hk q
 obtain ⟨hh, g, d, t, os⟩ := s
 refine hG9 ?_
 dsimp only at hC' made' call' typ' new' hk
 refine codeAny_of_tree ?_
 show wpAny _ _ (callAny (.ref C) _) _ _ _
 refine nd_load hC' ?_
 show wpAny _ _ (callAny.viaDunder (.ref C) _) _ _ _
 unfold callAny.viaDunder
 refine wpAny_bind (call'.at ?_)
 dsimp only
 rw [tc_bind]
 refine wpAny_bind (wpAny_pure (wpAny_bind (wpAny_pure ?_)))
 refine wpAny_pure (a := Fin.again (.call (.builtin "type.__call__") ⟨.ref C :: rest, []⟩)) (And.intro rfl ?_)
 refine codeAny_call_builtin_at (Code.quiet_builtin _ (by decide +kernel)) entry_typeCall (check_slot tc_kind tc_split typ' (tc_args _ _ _) ?_)
 unfold Builtin.«type.__call__»
 have hm : Looks (model PW w) hh (mroOf (.ref C)) cd.mro := ((Looks.ld (part := none) hC').andThen .now).andThen .now
 refine KFB.if_not rfl ?_
 dsimp only
 refine wpAny_bind (hm.here ?_)
 refine KFB.if_not e4 ?_
 refine wpAny_bind (made'.here ?_)
 dsimp only
 refine wpAny_bind (new' _ _ _ fun tk => ?_)
 refine wpAny_bind (wpAny_holding (wpAny_call (codeAny_mono (hq tk) ?_)))
 intro r s' hr
 cases r with
 | error e => exact hr
 | ok fl =>
  cases fl with
  | ret v =>
   refine hide fun G9 hG9 => ?_
   obtain ⟨x, ox, rfl, hx, hcx, hk', hR⟩ := hr
   obtain ⟨hh', g', d', t', os'⟩ := s'
   refine hG9 ?_
   dsimp only at hx hk'
   have self' := self.keeps hk'
   have init' := init.keeps hk'
   have made2 := made.keeps hk'
   have top' := top.keeps hk'
   obtain ⟨oxc, oxd, oxt, oxs⟩ := ox
   dsimp only at hcx
   subst hcx
   have tx : Looks (model PW w) hh' (typeOf (.ref x)) (.ref C) := (Looks.ld hx).andThen .now
   have to : Looks (model PW w) hh' (isInstance (.ref x) (.type "object")) true := tx.andThen top'
   dsimp only
   unfold isInstance callSpecial? specialOf
   refine wpAny_bind (wpAny_bind (tx.here (self'.here ?_)))
   refine KFB.if_not rfl ?_
   refine wpAny_bind (wpAny_holding ?_)
   refine wpAny_bind (wpAny_bind (tx.here (init'.here ?_)))
   dsimp only
   refine wpAny_holding (wpAny_bind (wpAny_of_eq (oi_bind _) ?_))
   dsimp only
   refine wpAny_bind (wpAny_call ?_)
   refine codeAny_call_builtin oi_plain entry_oi (@check_slot (model PW w) _ _ _ "object.__init__" "object" "__init__" (.ref x) rest [] _ oi_kind oi_split to (ha x) ?_)
   subst hrest
   refine oi_more tx init' made2 ?_
   refine wpAny_pure ?_
   dsimp only
   refine KFB.if_not rfl ?_
   exact wpAny_pure hR
  | _ => exact hr.elim
end
end Mine
end
section
open PySem PySem.W PyProof.Rows PySem.Calls
namespace Mine
noncomputable def runT {α : Type} (lt : Nat → Nat → Bool) : KasT α → α
 | .ret a => a
 | .ask i j k => runT lt (k (lt i j))
theorem runT_wp {α : Type} {lt : Nat → Nat → Bool} {cmp : Nat → Nat → (Bool → Shared → Prop) → Shared → Prop} {I : Shared → Prop} {n : Nat} (hc : ∀ i j C s, I s → (∀ s', I s' → C (lt i j) s') → cmp i j C s) : ∀ (t : KasT α) (Q : α → Shared → Prop) (s : Shared), I s → (∀ s', I s' → Q (runT lt t) s') → t.kasWp cmp Q s
 | .ret a, Q, s, hs, h => h s hs
 | .ask i j k, Q, s, hs, h => hc i j _ s hs fun s' hs' => runT_wp (n := n) hc (k (lt i j)) Q s' hs' h
theorem runT_bind {α β : Type} (lt : Nat → Nat → Bool) (f : α → KasT β) : ∀ t : KasT α, runT lt (t.bind f) = runT lt (f (runT lt t))
 | .ret a => rfl
 | .ask i j k => runT_bind lt f (k (lt i j))
section
variable (key : Nat → Nat)
noncomputable def ltK (i j : Nat) : Bool := decide (key i < key j)
noncomputable def gK (p : Array Nat) (k : Nat) : Nat := key (p.getD k 0)
noncomputable def SortedP (p : Array Nat) (m : Nat) : Prop := ∀ i j, i ≤ j → j < m → gK key p i ≤ gK key p j
theorem place_ok (p : Array Nat) (k : Nat) : ∀ (f l r : Nat), r - l ≤ f → l ≤ r → r ≤ k → SortedP key p k → (∀ i, i < l → gK key p i ≤ gK key p k) → (∀ i, r ≤ i → i < k → gK key p k < gK key p i) →
  runT (ltK key) (kas_place p k f l r) ≤ k ∧ (∀ i, i < runT (ltK key) (kas_place p k f l r) → gK key p i ≤ gK key p k) ∧ ∀ i, runT (ltK key) (kas_place p k f l r) ≤ i → i < k → gK key p k < gK key p i
 | 0, l, r, hf, hlr, hrk, hs, h1, h2 => by
  have : l = r := by lia
  subst this
  exact ⟨hrk, h1, h2⟩
 | f + 1, l, r, hf, hlr, hrk, hs, h1, h2 => by
  unfold kas_place
  split
  ·have : l = r := by lia
   subst this
   exact ⟨hrk, h1, h2⟩
  ·rename_i hlt
   show _ ∧ _
   simp only [runT]
   cases e : ltK key (p.getD k 0) (p.getD ((l + r) / 2) 0) with
   | true =>
    have e' : gK key p k < gK key p ((l + r) / 2) := of_decide_eq_true e
    simp only [if_true]
    refine place_ok p k f l ((l + r) / 2) (by lia) (by lia) (by lia) hs h1 fun i hi hik => ?_
    exact Nat.lt_of_lt_of_le e' (hs _ _ hi hik)
   | false =>
    have e' : ¬ gK key p k < gK key p ((l + r) / 2) := of_decide_eq_false e
    simp only [Bool.false_eq_true, if_false]
    refine place_ok p k f ((l + r) / 2 + 1) r (by lia) (by lia) hrk hs (fun i hi => ?_) h2
    have := hs i ((l + r) / 2) (by lia) (by lia)
    lia
theorem gK_bubble {p : Array Nat} {src d : Nat} (hs : src < p.size) (hd : d ≤ src) (k : Nat) :
  gK key (bubble p src d) k = if k = src - d then gK key p src else if src - d < k ∧ k ≤ src then gK key p (k - 1) else gK key p k := by
 have e := getElem?_bubble hs d hd k
 have c : ∀ {a b : Array Nat} {i j : Nat}, a[i]? = b[j]? → gK key a i = gK key b j := by
  intro a b i j h
  unfold gK
  have : a.getD i 0 = b.getD j 0 := by
   rw [Array.getD_eq_getD_getElem?, Array.getD_eq_getD_getElem?, h]
  rw [this]
 by_cases h1 : k = src - d
 ·rw [if_pos h1] at e ⊢; exact c e
 ·rw [if_neg h1] at e ⊢
  by_cases h2 : src - d < k ∧ k ≤ src
  ·rw [if_pos h2] at e ⊢; exact c e
  ·rw [if_neg h2] at e ⊢; exact c e
theorem bin_ok : ∀ (f : Nat) (p : Array Nat) (k : Nat), k + f = p.size → SortedP key p k → SortedP key (runT (ltK key) (kas_bin f p k)) p.size ∧ (runT (ltK key) (kas_bin f p k)).Perm p
 | 0, p, k, hf, hs => by
  have : k = p.size := by lia
  subst this
  exact ⟨hs, .refl _⟩
 | f + 1, p, k, hf, hs => by
  have hk : k < p.size := by lia
  have hpl := place_ok key p k k 0 k (by lia) (Nat.zero_le _) (Nat.le_refl _) hs (fun i hi => absurd hi (Nat.not_lt_zero _)) (fun i h1 h2 => by lia)
  unfold kas_bin
  rw [runT_bind]
  generalize runT (ltK key) (kas_place p k k 0 k) = l at hpl
  obtain ⟨h1, h2, h3⟩ := hpl
  have hb := gK_bubble key (p := p) (src := k) (d := k - l) hk (by lia)
  have hsz : (bubble p k (k - l)).size = p.size := bubble_size _ _ _
  have hs' : SortedP key (bubble p k (k - l)) (k + 1) := by
   intro i j hij hj
   rw [hb i, hb j]
   have ekl : k - (k - l) = l := by lia
   rw [ekl]
   by_cases a1 : i = l <;> by_cases a2 : j = l
   ·simp [a1, a2]
   ·rw [if_pos a1, if_neg a2, if_pos (by lia)]
    exact Nat.le_of_lt (h3 (j - 1) (by lia) (by lia))
   ·rw [if_neg a1, if_pos a2, if_neg (by lia)]
    exact h2 i (by lia)
   ·rw [if_neg a1, if_neg a2]
    by_cases b1 : l < i ∧ i ≤ k <;> by_cases b2 : l < j ∧ j ≤ k
    ·rw [if_pos b1, if_pos b2]; exact hs _ _ (by lia) (by lia)
    ·lia
    ·rw [if_neg b1, if_pos b2]; exact hs _ _ (by lia) (by lia)
    ·rw [if_neg b1, if_neg b2]; exact hs _ _ (by lia) (by lia)
  obtain ⟨g1, g2⟩ := bin_ok f (bubble p k (k - l)) (k + 1) (by rw [hsz]; lia) hs'
  rw [hsz] at g1
  exact ⟨g1, g2.trans (bubble_perm _ _ _)⟩
theorem gK_mirror {p : Array Nat} {i j : Nat} (hj : j ≤ p.size) (k : Nat) : gK key (kas_rev p i j) k = if i ≤ k ∧ k < j then gK key p (i + j - 1 - k) else gK key p k := by
 have e := getElem?_mirror_all (i := i) hj k
 have c : ∀ {a b : Array Nat} {i j : Nat}, a[i]? = b[j]? → gK key a i = gK key b j := by
  intro a b i j h
  unfold gK
  have : a.getD i 0 = b.getD j 0 := by
   rw [Array.getD_eq_getD_getElem?, Array.getD_eq_getD_getElem?, h]
  rw [this]
 unfold kas_rev
 by_cases h1 : i ≤ k ∧ k < j
 ·rw [if_pos h1] at e ⊢; exact c e
 ·rw [if_neg h1] at e ⊢; exact c e
theorem asc_ok (p : Array Nat) : ∀ (f n : Nat), 1 ≤ n → SortedP key p n → n ≤ runT (ltK key) (kas_asc p f n) ∧ runT (ltK key) (kas_asc p f n) ≤ n + f ∧ SortedP key p (runT (ltK key) (kas_asc p f n)) ∧
  (runT (ltK key) (kas_asc p f n) < n + f → gK key p (runT (ltK key) (kas_asc p f n)) < gK key p (runT (ltK key) (kas_asc p f n) - 1))
 | 0, n, h1, hs => ⟨Nat.le_refl _, Nat.le_refl _, hs, fun h => absurd h (Nat.lt_irrefl _)⟩
 | f + 1, n, h1, hs => by
  unfold kas_asc
  simp only [runT]
  cases e : ltK key (p.getD n 0) (p.getD (n - 1) 0) with
  | true =>
   simp only [if_true, runT]
   exact ⟨Nat.le_refl _, by lia, hs, fun _ => of_decide_eq_true e⟩
  | false =>
   simp only [Bool.false_eq_true, if_false]
   have e' : ¬ gK key p n < gK key p (n - 1) := of_decide_eq_false e
   have hs' : SortedP key p (n + 1) := by
    intro i j hij hj
    by_cases hjn : j < n
    ·exact hs i j hij hjn
    ·have : j = n := by lia
     subst this
     by_cases hi : i = j
     ·rw [hi]; exact Nat.le_refl _
     ·have := hs i (j - 1) (by lia) (by lia)
      lia
   obtain ⟨a1, a2, a3, a4⟩ := asc_ok p f (n + 1) (by lia) hs'
   exact ⟨by lia, by lia, a3, fun h => a4 (by lia)⟩
noncomputable def Fall (p : Array Nat) (n : Nat) : Prop := ∀ i j, i < j → j < n → gK key p j < gK key p i
theorem desc_ok (p : Array Nat) (N : Nat) (hd : ∀ i j, i < j → j < N → gK key p i ≠ gK key p j) : ∀ (f n : Nat), 1 ≤ n → n + f ≤ N → Fall key p n →
  ∃ m, runT (ltK key) (kas_desc f p n 0) = (p, m, 0) ∧ n ≤ m ∧ m ≤ n + f ∧ Fall key p m
 | 0, n, h1, hN, hs => ⟨n, rfl, Nat.le_refl _, Nat.le_refl _, hs⟩
 | f + 1, n, h1, hN, hs => by
  unfold kas_desc
  simp only [runT]
  cases e : ltK key (p.getD n 0) (p.getD (n - 1) 0) with
  | true =>
   simp only [if_true, gt_iff_lt, Nat.lt_irrefl, if_false]
   have e' : gK key p n < gK key p (n - 1) := of_decide_eq_true e
   have hs' : Fall key p (n + 1) := by
    intro i j hij hj
    by_cases hjn : j < n
    ·exact hs i j hij hjn
    ·have : j = n := by lia
     subst this
     by_cases hi : i = j - 1
     ·rw [hi]; exact e'
     ·have := hs i (j - 1) (by lia) (by lia)
      lia
   refine hide fun G9 hG9 => ?_
   obtain ⟨m, a1, a2, a3, a4⟩ := desc_ok p N hd f (n + 1) (by lia) (by lia) hs'
   refine hG9 ?_
   exact ⟨m, a1, by lia, by lia, a4⟩
  | false =>
   have e' : ¬ gK key p n < gK key p (n - 1) := of_decide_eq_false e
   have hne := hd (n - 1) n (by lia) (by lia)
   have e2 : ltK key (p.getD (n - 1) 0) (p.getD n 0) = true := decide_eq_true (show gK key p (n - 1) < gK key p n by lia)
   simp only [Bool.false_eq_true, if_false, runT, e2, if_true]
   exact ⟨n, rfl, Nat.le_refl _, by lia, hs⟩
theorem rev_perm (p : Array Nat) (i j : Nat) : (kas_rev p i j).Perm p := mirror_perm _ _ _ _
theorem rev_size (p : Array Nat) (i j : Nat) : (kas_rev p i j).size = p.size := mirror_size _ _ _ _
theorem count_ok (p : Array Nat) (hn : 1 ≤ p.size) (hd : ∀ i j, i < j → j < p.size → gK key p i ≠ gK key p j) :
  ∃ m p', runT (ltK key) (kas_count p.size p) = (m, p') ∧ 1 ≤ m ∧ m ≤ p.size ∧ p'.Perm p ∧ SortedP key p' m := by
 have one : SortedP key p 1 := fun i j hij hj => by
  have : i = j := by lia
  rw [this]; exact Nat.le_refl _
 obtain ⟨a1, a2, a3, a4⟩ := asc_ok key p (p.size - 1) 1 (Nat.le_refl _) one
 unfold kas_count
 rw [runT_bind]
 generalize runT (ltK key) (kas_asc p (p.size - 1) 1) = n at a1 a2 a3 a4 ⊢
 split
 ·exact ⟨n, p, rfl, a1, by lia, .refl _, a3⟩
 ·rename_i hnn
  have hnn' : n ≠ p.size := fun q => hnn (by rw [q]; simp)
  split
  ·rename_i h1
   have hlt : gK key p 0 < gK key p (n - 1) := by
    have h2 := a3 0 (n - 1) (by lia) (by lia)
    have h3 := hd 0 (n - 1) (by lia) (by lia)
    lia
   have e : ltK key (p.getD 0 0) (p.getD (n - 1) 0) = true := decide_eq_true hlt
   simp only [runT, e, if_true]
   exact ⟨n, p, rfl, a1, by lia, .refl _, a3⟩
  ·rename_i h1
   have : n = 1 := by lia
   subst this
   have h4 := a4 (by lia)
   have fall2 : Fall key p 2 := by
    intro i j hij hj
    have : i = 0 := by lia
    have : j = 1 := by lia
    subst i; subst j
    exact h4
   refine hide fun G9 hG9 => ?_
   obtain ⟨m, b1, b2, b3, b4⟩ := desc_ok key p p.size hd (p.size - 2) 2 (by lia) (by lia) fall2
   refine hG9 ?_
   unfold kas_descPart
   rw [runT_bind]
   have b1' : runT (ltK key) (kas_desc (p.size - (1 + 1)) p (1 + 1) 0) = (p, m, 0) := b1
   rw [b1']
   dsimp only
   rw [if_neg (by lia)]
   unfold kas_tail3
   rw [runT_bind]
   have hm : m ≤ p.size := by lia
   have hs : SortedP key (kas_rev p 0 m) m := by
    intro i j hij hj
    rw [gK_mirror key hm, gK_mirror key hm, if_pos ⟨Nat.zero_le _, by lia⟩, if_pos ⟨Nat.zero_le _, hj⟩]
    by_cases hq : i = j
    ·rw [hq]; exact Nat.le_refl _
    ·exact Nat.le_of_lt (b4 _ _ (by lia) (by lia))
   obtain ⟨c1, c2, c3, _⟩ := asc_ok key (kas_rev p 0 m) (p.size - m) m (by lia) hs
   exact ⟨_, _, rfl, by lia, by lia, rev_perm p 0 m, c3⟩
theorem sort_ok (n : Nat) (hn : 1 ≤ n) (hd : ∀ i j, i < j → j < n → key i ≠ key j) : (runT (ltK key) (kas_sort n)).toList.Perm (List.range n) ∧ (runT (ltK key) (kas_sort n)).toList.Pairwise fun i j => key i ≤ key j := by
 have hsz : (List.toArray (List.range n)).size = n := by simp
 have hd' : ∀ i j, i < j → j < (List.toArray (List.range n)).size → gK key (List.toArray (List.range n)) i ≠ gK key (List.toArray (List.range n)) j := by
  intro i j hij hj
  rw [hsz] at hj
  have e1 : (List.toArray (List.range n)).getD i 0 = i := by simp [Array.getD, show i < n by lia]
  have e2 : (List.toArray (List.range n)).getD j 0 = j := by simp [Array.getD, hj]
  unfold gK
  rw [e1, e2]
  exact hd i j hij hj
 refine hide fun G9 hG9 => ?_
 obtain ⟨m, p', c1, c2, c3, c4, c5⟩ := count_ok key (List.toArray (List.range n)) (by lia) hd'
 refine hG9 ?_
 rw [hsz] at c1 c3
 have hp' : p'.size = n := by rw [c4.size_eq, hsz]
 have key2 : SortedP key (runT (ltK key) (kas_sort n)) n ∧ (runT (ltK key) (kas_sort n)).Perm (List.toArray (List.range n)) := by
  unfold kas_sort
  rw [runT_bind, c1]
  dsimp only
  split
  ·rename_i hlt
   have hmax : max m 1 = m := by lia
   rw [hmax]
   obtain ⟨g1, g2⟩ := bin_ok key (n - m) p' m (by lia) c5
   rw [hp'] at g1
   exact ⟨g1, g2.trans c4⟩
  ·have : m = n := by lia
   subst this
   exact ⟨c5, c4⟩
 obtain ⟨k1, k2⟩ := key2
 have hs : (runT (ltK key) (kas_sort n)).size = n := by rw [k2.size_eq, hsz]
 refine ⟨by simpa using Array.perm_iff_toList_perm.mp k2, ?_⟩
 rw [List.pairwise_iff_getElem]
 intro i j hi hj hij
 have hi' : i < n := by simpa [hs] using hi
 have hj' : j < n := by simpa [hs] using hj
 have := k1 i j (by lia) hj'
 unfold gK at this
 simpa [Array.getD, hs, hi', hj'] using this
end
end Mine
end
section
open PySem PySem.W PyProof.Rows PySem.Calls
namespace Mine
noncomputable def look : List Str → List (Option Value) → Str → Option Value
 | n :: ns, v :: vs, x => if x = n then v else look ns vs x
 | _, _, _ => none
inductive Loc : List Str → List (Option Value) → Str → Value → Prop
 | here {x : Str} {v : Value} {ns : List Str} {vs : List (Option Value)} : Loc (x :: ns) (some v :: vs) x v
 | there {x y : Str} {v : Value} {o : Option Value} {ns : List Str} {vs : List (Option Value)} : Loc ns vs x v → Loc (y :: ns) (o :: vs) x v
inductive Sto : List Str → List (Option Value) → Str → Value → List (Option Value) → Prop
 | here {x : Str} {v : Value} {o : Option Value} {ns : List Str} {vs : List (Option Value)} : Sto (x :: ns) (o :: vs) x v (some v :: vs)
 | there {x y : Str} {v : Value} {o : Option Value} {ns : List Str} {vs vs' : List (Option Value)} : Sto ns vs x v vs' → Sto (y :: ns) (o :: vs) x v (o :: vs')
inductive Idx : List Str → Str → Nat → Prop
 | here {x : Str} {ns : List Str} : Idx (x :: ns) x 0
 | there {x y : Str} {ns : List Str} {k : Nat} : Idx ns x k → Idx (y :: ns) x (k + 1)
theorem Loc.of {ns : List Str} {x : Str} {k : Nat} (i : Idx ns x k) {vs : List (Option Value)} {v : Value} (h : vs[k]? = some (some v)) : Loc ns vs x v := by
 induction i generalizing vs with
 | here =>
  cases vs with
  | nil => cases h
  | cons a r => cases h; exact .here
 | there _ ih =>
  cases vs with
  | nil => cases h
  | cons a r => exact .there (ih h)
theorem Loc.mem {ns : List Str} {vs : List (Option Value)} {x : Str} {v : Value} (h : Loc ns vs x v) : x ∈ ns := by
 induction h with
 | here => exact .head _
 | there _ ih => exact .tail _ ih
theorem Loc.look {ns : List Str} {vs : List (Option Value)} {x : Str} {v : Value} (h : Loc ns vs x v) (hn : ns.Nodup) : look ns vs x = some v := by
 induction h with
 | here => unfold Mine.look; rw [if_pos rfl]
 | there h ih =>
  obtain ⟨h1, h2⟩ := List.nodup_cons.mp hn
  unfold Mine.look
  rw [if_neg (fun e => h1 (by rw [← e]; exact h.mem)), ih h2]
theorem Sto.s1 {n0 x : Str} {ns : List Str} {a0 o : Option Value} {v : Value} {vs : List (Option Value)} : Sto (n0 :: x :: ns) (a0 :: o :: vs) x v (a0 :: some v :: vs) := .there .here
theorem Sto.s2 {n0 n1 x : Str} {ns : List Str} {a0 a1 o : Option Value} {v : Value} {vs : List (Option Value)} : Sto (n0 :: n1 :: x :: ns) (a0 :: a1 :: o :: vs) x v (a0 :: a1 :: some v :: vs) := .there .s1
theorem Sto.s3 {n0 n1 n2 x : Str} {ns : List Str} {a0 a1 a2 o : Option Value} {v : Value} {vs : List (Option Value)} : Sto (n0 :: n1 :: n2 :: x :: ns) (a0 :: a1 :: a2 :: o :: vs) x v (a0 :: a1 :: a2 :: some v :: vs) := .there .s2
theorem Sto.s4 {n0 n1 n2 n3 x : Str} {ns : List Str} {a0 a1 a2 a3 o : Option Value} {v : Value} {vs : List (Option Value)} : Sto (n0 :: n1 :: n2 :: n3 :: x :: ns) (a0 :: a1 :: a2 :: a3 :: o :: vs) x v (a0 :: a1 :: a2 :: a3 :: some v :: vs) := .there .s3
theorem Sto.s5 {n0 n1 n2 n3 n4 x : Str} {ns : List Str} {a0 a1 a2 a3 a4 o : Option Value} {v : Value} {vs : List (Option Value)} : Sto (n0 :: n1 :: n2 :: n3 :: n4 :: x :: ns) (a0 :: a1 :: a2 :: a3 :: a4 :: o :: vs) x v (a0 :: a1 :: a2 :: a3 :: a4 :: some v :: vs) := .there .s4
theorem Sto.s6 {n0 n1 n2 n3 n4 n5 x : Str} {ns : List Str} {a0 a1 a2 a3 a4 a5 o : Option Value} {v : Value} {vs : List (Option Value)} : Sto (n0 :: n1 :: n2 :: n3 :: n4 :: n5 :: x :: ns) (a0 :: a1 :: a2 :: a3 :: a4 :: a5 :: o :: vs) x v (a0 :: a1 :: a2 :: a3 :: a4 :: a5 :: some v :: vs) := .there .s5
theorem Sto.s7 {n0 n1 n2 n3 n4 n5 n6 x : Str} {ns : List Str} {a0 a1 a2 a3 a4 a5 a6 o : Option Value} {v : Value} {vs : List (Option Value)} : Sto (n0 :: n1 :: n2 :: n3 :: n4 :: n5 :: n6 :: x :: ns) (a0 :: a1 :: a2 :: a3 :: a4 :: a5 :: a6 :: o :: vs) x v (a0 :: a1 :: a2 :: a3 :: a4 :: a5 :: a6 :: some v :: vs) := .there .s6
theorem Sto.s8 {n0 n1 n2 n3 n4 n5 n6 n7 x : Str} {ns : List Str} {a0 a1 a2 a3 a4 a5 a6 a7 o : Option Value} {v : Value} {vs : List (Option Value)} : Sto (n0 :: n1 :: n2 :: n3 :: n4 :: n5 :: n6 :: n7 :: x :: ns) (a0 :: a1 :: a2 :: a3 :: a4 :: a5 :: a6 :: a7 :: o :: vs) x v (a0 :: a1 :: a2 :: a3 :: a4 :: a5 :: a6 :: a7 :: some v :: vs) := .there .s7
theorem Sto.s9 {n0 n1 n2 n3 n4 n5 n6 n7 n8 x : Str} {ns : List Str} {a0 a1 a2 a3 a4 a5 a6 a7 a8 o : Option Value} {v : Value} {vs : List (Option Value)} : Sto (n0 :: n1 :: n2 :: n3 :: n4 :: n5 :: n6 :: n7 :: n8 :: x :: ns) (a0 :: a1 :: a2 :: a3 :: a4 :: a5 :: a6 :: a7 :: a8 :: o :: vs) x v (a0 :: a1 :: a2 :: a3 :: a4 :: a5 :: a6 :: a7 :: a8 :: some v :: vs) := .there .s8
theorem Sto.s10 {n0 n1 n2 n3 n4 n5 n6 n7 n8 n9 x : Str} {ns : List Str} {a0 a1 a2 a3 a4 a5 a6 a7 a8 a9 o : Option Value} {v : Value} {vs : List (Option Value)} : Sto (n0 :: n1 :: n2 :: n3 :: n4 :: n5 :: n6 :: n7 :: n8 :: n9 :: x :: ns) (a0 :: a1 :: a2 :: a3 :: a4 :: a5 :: a6 :: a7 :: a8 :: a9 :: o :: vs) x v (a0 :: a1 :: a2 :: a3 :: a4 :: a5 :: a6 :: a7 :: a8 :: a9 :: some v :: vs) := .there .s9
theorem Sto.s11 {n0 n1 n2 n3 n4 n5 n6 n7 n8 n9 n10 x : Str} {ns : List Str} {a0 a1 a2 a3 a4 a5 a6 a7 a8 a9 a10 o : Option Value} {v : Value} {vs : List (Option Value)} : Sto (n0 :: n1 :: n2 :: n3 :: n4 :: n5 :: n6 :: n7 :: n8 :: n9 :: n10 :: x :: ns) (a0 :: a1 :: a2 :: a3 :: a4 :: a5 :: a6 :: a7 :: a8 :: a9 :: a10 :: o :: vs) x v (a0 :: a1 :: a2 :: a3 :: a4 :: a5 :: a6 :: a7 :: a8 :: a9 :: a10 :: some v :: vs) := .there .s10
theorem Sto.s12 {n0 n1 n2 n3 n4 n5 n6 n7 n8 n9 n10 n11 x : Str} {ns : List Str} {a0 a1 a2 a3 a4 a5 a6 a7 a8 a9 a10 a11 o : Option Value} {v : Value} {vs : List (Option Value)} : Sto (n0 :: n1 :: n2 :: n3 :: n4 :: n5 :: n6 :: n7 :: n8 :: n9 :: n10 :: n11 :: x :: ns) (a0 :: a1 :: a2 :: a3 :: a4 :: a5 :: a6 :: a7 :: a8 :: a9 :: a10 :: a11 :: o :: vs) x v (a0 :: a1 :: a2 :: a3 :: a4 :: a5 :: a6 :: a7 :: a8 :: a9 :: a10 :: a11 :: some v :: vs) := .there .s11
theorem Sto.s13 {n0 n1 n2 n3 n4 n5 n6 n7 n8 n9 n10 n11 n12 x : Str} {ns : List Str} {a0 a1 a2 a3 a4 a5 a6 a7 a8 a9 a10 a11 a12 o : Option Value} {v : Value} {vs : List (Option Value)} : Sto (n0 :: n1 :: n2 :: n3 :: n4 :: n5 :: n6 :: n7 :: n8 :: n9 :: n10 :: n11 :: n12 :: x :: ns) (a0 :: a1 :: a2 :: a3 :: a4 :: a5 :: a6 :: a7 :: a8 :: a9 :: a10 :: a11 :: a12 :: o :: vs) x v (a0 :: a1 :: a2 :: a3 :: a4 :: a5 :: a6 :: a7 :: a8 :: a9 :: a10 :: a11 :: a12 :: some v :: vs) := .there .s12
theorem Sto.s14 {n0 n1 n2 n3 n4 n5 n6 n7 n8 n9 n10 n11 n12 n13 x : Str} {ns : List Str} {a0 a1 a2 a3 a4 a5 a6 a7 a8 a9 a10 a11 a12 a13 o : Option Value} {v : Value} {vs : List (Option Value)} : Sto (n0 :: n1 :: n2 :: n3 :: n4 :: n5 :: n6 :: n7 :: n8 :: n9 :: n10 :: n11 :: n12 :: n13 :: x :: ns) (a0 :: a1 :: a2 :: a3 :: a4 :: a5 :: a6 :: a7 :: a8 :: a9 :: a10 :: a11 :: a12 :: a13 :: o :: vs) x v (a0 :: a1 :: a2 :: a3 :: a4 :: a5 :: a6 :: a7 :: a8 :: a9 :: a10 :: a11 :: a12 :: a13 :: some v :: vs) := .there .s13
theorem Sto.s15 {n0 n1 n2 n3 n4 n5 n6 n7 n8 n9 n10 n11 n12 n13 n14 x : Str} {ns : List Str} {a0 a1 a2 a3 a4 a5 a6 a7 a8 a9 a10 a11 a12 a13 a14 o : Option Value} {v : Value} {vs : List (Option Value)} : Sto (n0 :: n1 :: n2 :: n3 :: n4 :: n5 :: n6 :: n7 :: n8 :: n9 :: n10 :: n11 :: n12 :: n13 :: n14 :: x :: ns) (a0 :: a1 :: a2 :: a3 :: a4 :: a5 :: a6 :: a7 :: a8 :: a9 :: a10 :: a11 :: a12 :: a13 :: a14 :: o :: vs) x v (a0 :: a1 :: a2 :: a3 :: a4 :: a5 :: a6 :: a7 :: a8 :: a9 :: a10 :: a11 :: a12 :: a13 :: a14 :: some v :: vs) := .there .s14
theorem Sto.s16 {n0 n1 n2 n3 n4 n5 n6 n7 n8 n9 n10 n11 n12 n13 n14 n15 x : Str} {ns : List Str} {a0 a1 a2 a3 a4 a5 a6 a7 a8 a9 a10 a11 a12 a13 a14 a15 o : Option Value} {v : Value} {vs : List (Option Value)} : Sto (n0 :: n1 :: n2 :: n3 :: n4 :: n5 :: n6 :: n7 :: n8 :: n9 :: n10 :: n11 :: n12 :: n13 :: n14 :: n15 :: x :: ns) (a0 :: a1 :: a2 :: a3 :: a4 :: a5 :: a6 :: a7 :: a8 :: a9 :: a10 :: a11 :: a12 :: a13 :: a14 :: a15 :: o :: vs) x v (a0 :: a1 :: a2 :: a3 :: a4 :: a5 :: a6 :: a7 :: a8 :: a9 :: a10 :: a11 :: a12 :: a13 :: a14 :: a15 :: some v :: vs) := .there .s15
theorem Sto.s17 {n0 n1 n2 n3 n4 n5 n6 n7 n8 n9 n10 n11 n12 n13 n14 n15 n16 x : Str} {ns : List Str} {a0 a1 a2 a3 a4 a5 a6 a7 a8 a9 a10 a11 a12 a13 a14 a15 a16 o : Option Value} {v : Value} {vs : List (Option Value)} : Sto (n0 :: n1 :: n2 :: n3 :: n4 :: n5 :: n6 :: n7 :: n8 :: n9 :: n10 :: n11 :: n12 :: n13 :: n14 :: n15 :: n16 :: x :: ns) (a0 :: a1 :: a2 :: a3 :: a4 :: a5 :: a6 :: a7 :: a8 :: a9 :: a10 :: a11 :: a12 :: a13 :: a14 :: a15 :: a16 :: o :: vs) x v (a0 :: a1 :: a2 :: a3 :: a4 :: a5 :: a6 :: a7 :: a8 :: a9 :: a10 :: a11 :: a12 :: a13 :: a14 :: a15 :: a16 :: some v :: vs) := .there .s16
theorem Sto.s18 {n0 n1 n2 n3 n4 n5 n6 n7 n8 n9 n10 n11 n12 n13 n14 n15 n16 n17 x : Str} {ns : List Str} {a0 a1 a2 a3 a4 a5 a6 a7 a8 a9 a10 a11 a12 a13 a14 a15 a16 a17 o : Option Value} {v : Value} {vs : List (Option Value)} : Sto (n0 :: n1 :: n2 :: n3 :: n4 :: n5 :: n6 :: n7 :: n8 :: n9 :: n10 :: n11 :: n12 :: n13 :: n14 :: n15 :: n16 :: n17 :: x :: ns) (a0 :: a1 :: a2 :: a3 :: a4 :: a5 :: a6 :: a7 :: a8 :: a9 :: a10 :: a11 :: a12 :: a13 :: a14 :: a15 :: a16 :: a17 :: o :: vs) x v (a0 :: a1 :: a2 :: a3 :: a4 :: a5 :: a6 :: a7 :: a8 :: a9 :: a10 :: a11 :: a12 :: a13 :: a14 :: a15 :: a16 :: a17 :: some v :: vs) := .there .s17
theorem Sto.s19 {n0 n1 n2 n3 n4 n5 n6 n7 n8 n9 n10 n11 n12 n13 n14 n15 n16 n17 n18 x : Str} {ns : List Str} {a0 a1 a2 a3 a4 a5 a6 a7 a8 a9 a10 a11 a12 a13 a14 a15 a16 a17 a18 o : Option Value} {v : Value} {vs : List (Option Value)} : Sto (n0 :: n1 :: n2 :: n3 :: n4 :: n5 :: n6 :: n7 :: n8 :: n9 :: n10 :: n11 :: n12 :: n13 :: n14 :: n15 :: n16 :: n17 :: n18 :: x :: ns) (a0 :: a1 :: a2 :: a3 :: a4 :: a5 :: a6 :: a7 :: a8 :: a9 :: a10 :: a11 :: a12 :: a13 :: a14 :: a15 :: a16 :: a17 :: a18 :: o :: vs) x v (a0 :: a1 :: a2 :: a3 :: a4 :: a5 :: a6 :: a7 :: a8 :: a9 :: a10 :: a11 :: a12 :: a13 :: a14 :: a15 :: a16 :: a17 :: a18 :: some v :: vs) := .there .s18
theorem Sto.mem {ns : List Str} {vs vs' : List (Option Value)} {x : Str} {v : Value} (h : Sto ns vs x v vs') : x ∈ ns := by
 induction h with
 | here => exact .head _
 | there _ ih => exact .tail _ ih
theorem Sto.look {ns : List Str} {vs vs' : List (Option Value)} {x : Str} {v : Value} (h : Sto ns vs x v vs') (hn : ns.Nodup) : (fun y => if y = x then some v else look ns vs y) = look ns vs' := by
 induction h with
 | here =>
  funext y
  unfold Mine.look
  split <;> rfl
 | there h ih =>
  obtain ⟨h1, h2⟩ := List.nodup_cons.mp hn
  have := ih h2
  funext y
  have e := congrFun this y
  unfold Mine.look
  rw [← e]
  rename_i x' y' _ _ _ _ _
  by_cases q : y = x'
  ·subst q
   have : ¬ y = y' := fun e => h1 (e ▸ h.mem)
   simp [this]
  ·simp [q]
inductive Pr {β : Type} : List (Str × β) → Str → β → Prop
 | here {x : Str} {v : β} {l : List (Str × β)} : Pr ((x, v) :: l) x v
 | there {x : Str} {v : β} {p : Str × β} {l : List (Str × β)} : Pr l x v → Pr (p :: l) x v
theorem Pr.mem {β : Type} {l : List (Str × β)} {x : Str} {v : β} (h : Pr l x v) : (x, v) ∈ l := by
 induction h with
 | here => exact .head _
 | there _ ih => exact .tail _ ih
noncomputable def topAt (i : Nat) : Stmt := (PW.main.body)[i]?.getD (.Pass default)
noncomputable def bodyOf : Stmt → List Stmt
 | .FunctionDef (body := b) .. => b
 | .ClassDef (body := b) .. => b
 | _ => []
noncomputable def scopeOf : Stmt → Scope
 | .FunctionDef (scope := s) .. => s
 | _ => default
noncomputable def paramsOf : Stmt → Arguments
 | .FunctionDef (args := s) .. => s
 | _ => default
noncomputable def nameOf : Stmt → Str
 | .FunctionDef (name := s) .. => s
 | _ => default
noncomputable def inCls (i j : Nat) : Stmt := (bodyOf (topAt i))[j]?.getD (.Pass default)
noncomputable abbrev aNew : Addr := 82
noncomputable abbrev aMake : Addr := 89
noncomputable abbrev aMatch : Addr := 135
noncomputable abbrev aSM : Addr := 242
noncomputable abbrev aInit : Addr := 160
noncomputable abbrev aSeqs : Addr := 167
noncomputable abbrev aSeq1 : Addr := 174
noncomputable abbrev aSeq2 : Addr := 181
noncomputable abbrev aChain : Addr := 188
noncomputable abbrev aLong : Addr := 196
noncomputable abbrev aBlocks : Addr := 203
noncomputable abbrev aCodes : Addr := 210
noncomputable abbrev aJunk : Addr := 254
noncomputable abbrev aKept : Addr := 261
noncomputable abbrev aReach : Addr := 268
noncomputable abbrev aPairs : Addr := 273
noncomputable abbrev aLCodes : Addr := 280
noncomputable abbrev aTold : Addr := 287
noncomputable abbrev aLaw : Addr := 294
noncomputable abbrev gl : List (Str × Value) := [("len", .builtin "len"), ("range", .type "range"), ("enumerate", .type "enumerate"), ("list", .type "list"), ("sum", .builtin "sum"), ("set", .type "set"), ("map", .type "map"), ("tuple", .type "tuple"),
 ("Match", .ref aMatch), ("SequenceMatcher", .ref aSM), ("IS_CHARACTER_JUNK", .ref aJunk), ("_law_kept", .ref aKept), ("_law_reach", .ref aReach), ("_law_pairs", .ref aPairs), ("_law_codes", .ref aLCodes), ("_law_told", .ref aTold)]
structure FnAt (h : Heap) (a : Addr) (T : Stmt) (D : Value) : Prop where
 at_ : ∃ nm q doc pm an code ct cl dc sl, h.get? a = some ⟨cl, dc, .func ⟨nm, q, paramsOf T, .stmts (bodyOf T), scopeOf T, mainGlobals, [], D, .none, doc, pm, an, code, ct, 0⟩, sl⟩ ∧ h.CodeRec code q
 cls : ∃ o, h.get? a = some o ∧ o.cls = .type "function"
theorem FnAt.keeps {h h' : Heap} {a : Addr} {T : Stmt} {D : Value} (x : FnAt h a T D) (k : ∀ b o, h.get? b = some o → h'.get? b = some o) : FnAt h' a T D := by
 obtain ⟨⟨nm, q, doc, pm, an, code, ct, cl, dc, sl, h1, h2⟩, ⟨o, h3, h4⟩⟩ := x
 exact ⟨⟨nm, q, doc, pm, an, code, ct, cl, dc, sl, k _ _ h1, h2.keeps k⟩, ⟨o, k _ _ h3, h4⟩⟩
noncomputable abbrev attrNames : List Str := ["isjunk", "a", "b", "autojunk", "matching_blocks", "opcodes", "fullbcount", "b2j", "bjunk", "bpopular"]
noncomputable abbrev methTab : List (Str × Addr) := [("__init__", aInit), ("set_seqs", aSeqs), ("set_seq1", aSeq1), ("set_seq2", aSeq2), ("_SequenceMatcher__chain_b", aChain), ("find_longest_match", aLong), ("get_matching_blocks", aBlocks), ("get_opcodes", aCodes)]
structure SMFrag (K : Frag) : Prop where
 ga : findIn K (.ref aSM) "__getattribute__" = some (some (.builtin "object.__getattribute__"))
 gx : findIn K (.ref aSM) "__getattr__" = some none
 sa : findIn K (.ref aSM) "__setattr__" = some (some (.builtin "object.__setattr__"))
 po : plainOver K aSM = true
 cd : ∃ cd, clsIn K aSM = some cd ∧ cd.hasDict = true
 tk : ∀ x ∈ attrNames, takerIn K aSM x = some none
 no : ∀ x ∈ attrNames, findIn K (.ref aSM) x = some none
 me : ∀ p ∈ methTab, findIn K (.ref aSM) p.1 = some (some (.ref p.2)) ∧ typeIn K (.ref p.2) = some (.type "function")
 mks : makesIn K aSM = true
structure ML (w : World) (h : Heap) : Prop where
 isty : Looks (model PW w) h (isType (.ref aMatch)) true
 sub : Looks (model PW w) h (isSubtype (.ref aMatch) (.type "tuple")) true
 made : Looks (model PW w) h (Bind.madeHere "tuple.__new__" (.ref aMatch)) ()
 init : Looks (model PW w) h (typeLookup (.ref aMatch) "__init__") (some (.builtin "object.__init__"))
 iter : Looks (model PW w) h (typeLookup (.ref aMatch) "__iter__") (some (.builtin "tuple.__iter__"))
 lt : Looks (model PW w) h (typeLookup (.ref aMatch) "__lt__") (some (.builtin "tuple.__lt__"))
 len : Looks (model PW w) h (typeLookup (.ref aMatch) "__len__") (some (.builtin "tuple.__len__"))
 nodel : Looks (model PW w) h (classHasDel aMatch) false
 chk : ∀ t : Addr, Looks (model PW w) h (checkBuiltinCall "tuple.__new__" ⟨[.ref aMatch, .ref t], []⟩) ()
theorem ML.keeps {w : World} {h h' : Heap} (x : ML w h) (k : ∀ b o, h.get? b = some o → h'.get? b = some o) : ML w h' :=
 ⟨x.isty.keeps k, x.sub.keeps k, x.made.keeps k, x.init.keeps k, x.iter.keeps k, x.lt.keeps k, x.len.keeps k, x.nodel.keeps k, fun t => (x.chk t).keeps k⟩
theorem MakesN.keeps {w : World} {h h' : Heap} {C f : Addr} (x : MakesN w h C f) (k : ∀ b o, h.get? b = some o → h'.get? b = some o) : MakesN w h' C f := by
 obtain ⟨⟨oc, od, cd, sl, h1, h2⟩, x2, x3, x4, x5, x6, x7, x8⟩ := x
 exact ⟨⟨oc, od, cd, sl, k _ _ h1, h2⟩, x2.keeps k, x3.keeps k, x4.keeps k, x5.keeps k, x6.keeps k, x7.keeps k, fun A E s Q hk q => x8 A E s Q (fun b o e => hk b o (k b o e)) q⟩
noncomputable def MakeGet (w : World) (h : Heap) : Prop := ∀ (A : Around) (E : Value → Shared → Prop) (s : Shared) (Q : Value → Shared → Prop) (ex : Bool), (∀ b o, h.get? b = some o → s.heap.get? b = some o) →
 (∀ tk, Q (.ref s.heap.objs.size) { s with heap := s.heap.push (methodObj (.ref aMake) (.ref aMatch)), toks := tk }) → wpAny (model PW w) A (getAttr (.ref aMatch) "_make" ex) Q E s
structure Base (w : World) (h : Heap) : Prop where
 glob : ∃ mg mb, h.Ns mainGlobals mg ∧ h.Ns 0 mb ∧ ∀ p ∈ gl, mg p.1 = some p.2 ∨ (mg p.1 = none ∧ mb p.1 = some p.2)
 mods : ∃ ob, h.get? sysModules = some ob
 sm : ∃ K, K.In h ∧ SMFrag K
 ml : ML w h
 mkn : MakesN w h aMatch aNew
 mget : MakeGet w h
 kc : ∀ C, C = aMatch ∨ C = aSM → ∃ k, (k = Keeper.frame ∨ k = Keeper.machine) ∧ Looks (model PW w) h (keeperOf (.ref C)) k
 fInit : ∃ D us n, FnAt h aInit (inCls 5 1) (.ref D) ∧ h.get? D = some ⟨.type "tuple", none, .seq us n, #[]⟩ ∧ us.toList.map z = [.none, .str "" 0, .str "" 0, .bool true]
 fSeqs : FnAt h aSeqs (inCls 5 2) .none
 fSeq1 : FnAt h aSeq1 (inCls 5 3) .none
 fSeq2 : FnAt h aSeq2 (inCls 5 4) .none
 fChain : FnAt h aChain (inCls 5 5) .none
 fLong : ∃ D us n, FnAt h aLong (inCls 5 6) (.ref D) ∧ h.get? D = some ⟨.type "tuple", none, .seq us n, #[]⟩ ∧ us.toList.map z = [.int 0 0, .none, .int 0 0, .none]
 fBlocks : FnAt h aBlocks (inCls 5 7) .none
 fCodes : FnAt h aCodes (inCls 5 8) .none
 fJunk : ∃ D us n, FnAt h aJunk (topAt 6) (.ref D) ∧ h.get? D = some ⟨.type "tuple", none, .seq us n, #[]⟩ ∧ us.toList.map z = [.str " \t" 0]
 fKept : FnAt h aKept (topAt 8) .none
 fReach : FnAt h aReach (topAt 9) .none
 fPairs : FnAt h aPairs (topAt 10) .none
 fLCodes : FnAt h aLCodes (topAt 11) .none
 fTold : FnAt h aTold (topAt 12) .none
 fNew : FnAt h aNew (inCls 3 4) .none
 fMake : FnAt h aMake (inCls 3 5) .none
theorem Base.keeps {w : World} {h h' : Heap} (B : Base w h) (k : ∀ b o, h.get? b = some o → h'.get? b = some o) : Base w h' where
 glob := by obtain ⟨mg, mb, h1, h2, h3⟩ := B.glob; exact ⟨mg, mb, h1.keeps k, h2.keeps k, h3⟩
 mods := by obtain ⟨ob, h⟩ := B.mods; exact ⟨ob, k _ _ h⟩
 sm := by obtain ⟨K, h1, h2⟩ := B.sm; exact ⟨K, h1.keeps k, h2⟩
 ml := B.ml.keeps k
 mkn := B.mkn.keeps k
 mget := fun A E s Q ex hk q => B.mget A E s Q ex (fun b o e => hk b o (k b o e)) q
 kc := fun C hC => by obtain ⟨k', h1, h2⟩ := B.kc C hC; exact ⟨k', h1, h2.keeps k⟩
 fInit := by obtain ⟨D, us, n, h1, h2, h3⟩ := B.fInit; exact ⟨D, us, n, h1.keeps k, k _ _ h2, h3⟩
 fLong := by obtain ⟨D, us, n, h1, h2, h3⟩ := B.fLong; exact ⟨D, us, n, h1.keeps k, k _ _ h2, h3⟩
 fJunk := by obtain ⟨D, us, n, h1, h2, h3⟩ := B.fJunk; exact ⟨D, us, n, h1.keeps k, k _ _ h2, h3⟩
 fSeqs := B.fSeqs.keeps k
 fSeq1 := B.fSeq1.keeps k
 fSeq2 := B.fSeq2.keeps k
 fChain := B.fChain.keeps k
 fBlocks := B.fBlocks.keeps k
 fCodes := B.fCodes.keeps k
 fKept := B.fKept.keeps k
 fReach := B.fReach.keeps k
 fPairs := B.fPairs.keeps k
 fLCodes := B.fLCodes.keeps k
 fTold := B.fTold.keeps k
 fNew := B.fNew.keeps k
 fMake := B.fMake.keeps k
structure TabN (T : Stmt) (names : List Str) : Prop where
 nodup : names.Nodup
 loc : ∀ x ∈ names, (scopeOf T).names.lookup x = some .local
 dbg : ∀ x ∈ names, (x == ("__debug__" : Str)) = false
 co : (scopeOf T).isCoroutine = false
 gen : (scopeOf T).isGenerator = false
 kind : (scopeOf T).kind = .function
structure Tab (T : Stmt) (names : List Str) : Prop extends TabN T names where
 cell : ∀ x ∈ (scopeOf T).names, x.2 ≠ .cell
structure Here (T : Stmt) (names : List Str) (n : Nat) (c : Cx) : Prop where
 base : Base c.w c.h₀
 good : Good c n
 sc : c.env.scope = scopeOf T
 gl : c.env.globals = mainGlobals
 bi : c.env.builtins = 0
 tab : TabN T names
 off : c.h₀.get? c.env.locals = none
section
variable {c : Cx} {st : St} {Φ : Value → St → Prop} {Ψ : AF → St → Prop} {B : Bool → St → Prop} {T : Stmt} {names : List Str} {n : Nat} {vals vals' : List (Option Value)}
theorem Good.ext {c c' : Cx} {n : Nat} (G : Good c n) (X : Ext c c') : Good c' n := by
 obtain ⟨h1, h2, h3, h4, h5⟩ := G
 exact ⟨by rw [X.A]; exact h1, by rw [X.A]; exact h2, by rw [X.A]; exact h3, by rw [X.env]; exact h4, h5.keeps X.keep⟩
theorem Here.ext {c' : Cx} (H : Here T names n c) (X : Ext c c') : Here T names n c' := 
 ⟨by rw [X.w]; exact H.base.keeps X.keep, H.good.ext X, by rw [X.env]; exact H.sc, by rw [X.env]; exact H.gl, by rw [X.env]; exact H.bi, H.tab, X.off H.off⟩
theorem Here.kindOf (H : Here T names n c) {x : Str} (h : x ∈ names) : c.env.kindOf x = some .local := by
 unfold Env.kindOf
 rw [H.sc]; exact H.tab.loc x h
theorem Here.hand (H : Here T names n c) : c.A.handled = none := H.good.hand
theorem EX_loc {x : Str} {pos : Pos} {v : Value} (H : Here T names n c) (e : st.loc = look names vals) (l : Loc names vals x v) (h : Φ v st) : EX c (.Name x pos) st Φ :=
 EX_local H.good.kind (H.kindOf l.mem) (H.tab.dbg _ l.mem) (by rw [e]; exact l.look H.tab.nodup) h
theorem St.set_look {x : Str} {v : Value} (hn : names.Nodup) (e : st.loc = look names vals) (l : Sto names vals x v vals') : st.set x v = ⟨look names vals', st.hp⟩ := by
 unfold St.set
 rw [e, l.look hn]
theorem XS_Asg {x : Str} {e : Expr} {p q : Pos} (H : Here T names n c) (hsw : swapsWith e (some (.Name x p)) q.line c.env = pure false)
  (h : EX c e st fun v st' => ∃ vals vals', st'.loc = look names vals ∧ Sto names vals x v vals' ∧ Ψ .next ⟨look names vals', st'.hp⟩) (hx : x ∈ names) : XS c (.Assign [.Name x p] e q) st Ψ := by
 refine XS_AssignName H.good.kind (H.kindOf hx) H.off hsw (h.mono ?_)
 rintro v st' ⟨vals, vals', h1, h2, h3⟩
 rw [St.set_look H.tab.nodup h1 h2]
 exact h3
theorem XS_Aug {x : Str} {e : Expr} {op : Operator} {p q : Pos} {a : Value} (H : Here T names n c) (he : st.loc = look names vals) (l : Loc names vals x a)
  (h : EX c e st fun v st' => IOP c op a v st' fun r st'' => ∃ vals vals', st''.loc = look names vals ∧ Sto names vals x r vals' ∧ Ψ .next ⟨look names vals', st''.hp⟩) : XS c (.AugAssign (.Name x p) op e q) st Ψ := by
 refine XS_AugName H.good.kind (H.kindOf l.mem) H.off (a := a) (by rw [he]; exact l.look H.tab.nodup) (h.mono ?_)
 intro v st' h' u w hu hw
 refine (h' u w hu hw).mono ?_
 rintro r st'' ⟨vals, vals', h1, h2, h3⟩
 rw [St.set_look H.tab.nodup h1 h2]
 exact h3
theorem ASG_loc {x : Str} {p : Pos} {v : Value} {Ψ : St → Prop} (H : Here T names n c) (e : st.loc = look names vals) (l : Sto names vals x v vals') (h : Ψ ⟨look names vals', st.hp⟩) : ASG c (.Name x p) v st Ψ :=
 ASG_Name H.good.kind (H.kindOf l.mem) H.off (by rw [St.set_look H.tab.nodup e l]; exact h)
theorem EX_glob {x : Str} {pos : Pos} {v : Value} (H : Here T names n c) (l : Pr Mine.gl x v) (hk : (scopeOf T).names.lookup x = some .globalImplicit) (hd : (x == ("__debug__" : Str)) = false) (hz : z v = v) (h : Φ v st) : EX c (.Name x pos) st Φ := .of fun s hs => by
 obtain ⟨mg, mb, h1, h2, h3⟩ := H.base.glob
 obtain ⟨m, F, _⟩ := hs.fr
 refine wpAny_Name ?_ hd
 rw [loadName_read H.good.kind (by unfold Env.kindOf; rw [H.sc]; exact hk)]
 unfold loadGlobal
 rw [H.gl, H.bi]
 refine wpAny_bind (wpAny_nsGet (h1.keeps F.keep) ?_)
 rcases h3 _ l.mem with e | ⟨e1, e2⟩
 ·rw [e]
  exact wpAny_pure ⟨st, hs, by rw [hz]; exact h⟩
 ·rw [e1]
  refine wpAny_bind (wpAny_nsGet (h2.keeps F.keep) ?_)
  rw [e2]
  exact wpAny_pure ⟨st, hs, by rw [hz]; exact h⟩
end
end Mine
end
section
open PySem PySem.W PyProof.Rows PySem.Calls
namespace Mine
theorem len1 {α : Type} {l : List α} (h : l.length = 1) : ∃ a, l = [a] := List.length_eq_one_iff.mp h
theorem lenS {α : Type} {l : List α} {n : Nat} (h : l.length = n + 1) : ∃ a r, l = a :: r ∧ r.length = n := by
 cases l with
 | nil => cases h
 | cons a r => exact ⟨a, r, rfl, Nat.succ.inj h⟩
theorem len2 {α : Type} {l : List α} (h : l.length = 2) : ∃ a b, l = [a, b] := by
 obtain ⟨a, r, rfl, h1⟩ := lenS h
 obtain ⟨b, rfl⟩ := len1 h1
 exact ⟨a, b, rfl⟩
theorem len3 {α : Type} {l : List α} (h : l.length = 3) : ∃ a b c, l = [a, b, c] := by
 obtain ⟨a, r, rfl, h1⟩ := lenS h
 obtain ⟨b, c, rfl⟩ := len2 h1
 exact ⟨a, b, c, rfl⟩
theorem len4 {α : Type} {l : List α} (h : l.length = 4) : ∃ a b c d, l = [a, b, c, d] := by
 obtain ⟨a, r, rfl, h1⟩ := lenS h
 obtain ⟨b, c, d, rfl⟩ := len3 h1
 exact ⟨a, b, c, d, rfl⟩
theorem len5 {α : Type} {l : List α} (h : l.length = 5) : ∃ a b c d e, l = [a, b, c, d, e] := by
 obtain ⟨a, r, rfl, h1⟩ := lenS h
 obtain ⟨b, c, d, e, rfl⟩ := len4 h1
 exact ⟨a, b, c, d, e, rfl⟩
theorem len8 {α : Type} {l : List α} (h : l.length = 8) : ∃ a b c d e f g i, l = [a, b, c, d, e, f, g, i] := by
 obtain ⟨a, r, rfl, h1⟩ := lenS h
 obtain ⟨b, r, rfl, h2⟩ := lenS h1
 obtain ⟨c, r, rfl, h3⟩ := lenS h2
 obtain ⟨d, e, f, g, i, rfl⟩ := len5 h3
 exact ⟨a, b, c, d, e, f, g, i, rfl⟩
theorem look_none {ns : List Str} {vs : List (Option Value)} {x : Str} (h : x ∉ ns) : look ns vs x = none := by
 induction ns generalizing vs with
 | nil => cases vs <;> rfl
 | cons n ns ih =>
  cases vs with
  | nil => rfl
  | cons v vs =>
   unfold look
   rw [if_neg fun e => h (by rw [e]; exact .head _)]
   exact ih fun q => h (.tail _ q)
theorem look_nones (ns : List Str) (k : Nat) (x : Str) : look ns (List.replicate k none) x = none := by
 induction ns generalizing k with
 | nil => cases k <;> rfl
 | cons n ns ih =>
  cases k with
  | zero => rfl
  | succ k =>
   show (if x = n then none else look ns (List.replicate k none) x) = none
   rw [ih]; split <;> rfl
theorem zip_look {names : List Str} (hn : names.Nodup) : ∀ (args : List Value), args.length ≤ names.length → (fun x => (names.zip args).reverse.lookup x) = look names (args.map some ++ List.replicate (names.length - args.length) none) := by
 induction names with
 | nil =>
  intro args h
  cases args with
  | nil => rfl
  | cons a r => simp at h
 | cons n ns ih =>
  intro args h
  obtain ⟨h1, h2⟩ := List.nodup_cons.mp hn
  funext x
  cases args with
  | nil => 
   show none = look (n :: ns) (List.replicate (ns.length + 1) none) x
   rw [look_nones]
  | cons a r =>
   have e := congrFun (ih h2 r (by simpa using h)) x
   simp only [List.zip_cons_cons, List.reverse_cons, List.lookup_append, e]
   show _ = if x = n then some a else look ns (r.map some ++ List.replicate (ns.length + 1 - (r.length + 1)) none) x
   rw [Nat.add_sub_add_right]
   by_cases q : x = n
   ·subst q
    rw [if_pos rfl, look_none h1]
    simp [List.lookup]
   ·rw [if_neg q]
    have : (x == n) = false := by simpa using q
    cases look ns (r.map some ++ List.replicate (ns.length - r.length) none) x <;> simp [List.lookup, this]
section
variable {c : Cx} {st : St} {Φ : Value → St → Prop} {Ψ : AF → St → Prop} {B : Bool → St → Prop} {T : Stmt} {names : List Str} {n : Nat} {vals vals' : List (Option Value)}
noncomputable abbrev fdOf (T : Stmt) (D : Value) (nm q : Str) (doc pm : Value) (an : Option Addr) (code ct : Value) : FuncData := ⟨nm, q, paramsOf T, .stmts (bodyOf T), scopeOf T, mainGlobals, [], D, .none, doc, pm, an, code, ct, 0⟩
theorem CALL_fn {a : Addr} {D : Value} {args args' : List Value} (G : Good c (n + 1)) (Bs : Base c.w c.h₀) (F : FnAt c.h₀ a T D) (tab : Tab T names)
  (hb : ∀ nm q doc pm an code ct s us, c.h₀.StaysIn s.heap → us.map z = args → ∃ us', BindsTo s (fdOf T D nm q doc pm an code ct) ⟨us, []⟩ (names.zip us') ∧ us'.map z = args') (hl : args'.length ≤ names.length)
  (hv : args'.map some ++ List.replicate (names.length - args'.length) none = vals)
  (h : ∀ c', Here T names n c' → XB c' (bodyOf T) ⟨look names vals, st.hp⟩ fun fl st' => Φ (retV fl) ⟨st.loc, st'.hp⟩) : CALL c (.ref a) args st Φ := by
 obtain ⟨nm, q, doc, pm, an, code, ct, cl, dc, sl, h1, h2⟩ := F.at_
 refine CALL_fun (zb := names.zip args') G h1 rfl h2 rfl (fun s us hs hu => ?_) tab.cell ?_ tab.co tab.gen tab.kind fun c' U => ?_
 ·obtain ⟨us', hb1, hb2⟩ := hb nm q doc pm an code ct s us hs hu
  refine ⟨_, hb1, ?_⟩
  unfold zz
  rw [← hb2, List.zip_map_right]
  rfl
 ·intro x hx
  exact tab.loc _ (List.of_mem_zip hx).1
 ·rw [zip_look tab.nodup args' hl, hv]
  exact h c' ⟨by rw [U.w]; exact Bs.keeps U.keep, U.good G tab.kind, by rw [U.env]; rfl, by rw [U.env]; rfl, by rw [U.env]; rfl, tab.toTabN, U.off⟩
theorem CALL_fn0 {a : Addr} {args : List Value} (G : Good c (n + 1)) (Bs : Base c.w c.h₀) (F : FnAt c.h₀ a T .none) (tab : Tab T names)
  (hb : ∀ nm q doc pm an code ct us, us.length = args.length → bindArgs (fdOf T .none nm q doc pm an code ct) ⟨us, []⟩ = pure (names.zip us)) (hl : args.length ≤ names.length)
  (hv : args.map some ++ List.replicate (names.length - args.length) none = vals)
  (h : ∀ c', Here T names n c' → XB c' (bodyOf T) ⟨look names vals, st.hp⟩ fun fl st' => Φ (retV fl) ⟨st.loc, st'.hp⟩) : CALL c (.ref a) args st Φ :=
 CALL_fn G Bs F tab (fun nm q doc pm an code ct s us _ hu => ⟨us, .of_eq (hb nm q doc pm an code ct us (by rw [← hu, List.length_map])), hu⟩) hl hv h
theorem XS_If' {t : Expr} {b o : List Stmt} {pos : Pos} (h : TS c t st fun x st' => (x = true → XB c b st' Ψ) ∧ (x = false → XB c o st' Ψ)) : XS c (.If t b o pos) st Ψ :=
 XS_If (h.mono fun x st' ⟨h1, h2⟩ => by cases x; exact h2 rfl; exact h1 rfl)
theorem EX_IfExp' {t b o : Expr} {pos : Pos} (h : TS c t st fun x st' => (x = true → EX c b st' Φ) ∧ (x = false → EX c o st' Φ)) : EX c (.IfExp t b o pos) st Φ :=
 EX_IfExp (h.mono fun x st' ⟨h1, h2⟩ => by cases x; exact h2 rfl; exact h1 rfl)
theorem AND_cons' {x : Expr} {rest : List Expr} (h : TS c x st fun b st' => (b = true → AND c rest st' B) ∧ (b = false → B false st')) : AND c (x :: rest) st B :=
 AND_cons (h.mono fun x st' ⟨h1, h2⟩ => by cases x; exact h2 rfl; exact h1 rfl)
theorem OR_cons' {x : Expr} {rest : List Expr} (h : TS c x st fun b st' => (b = true → B true st') ∧ (b = false → OR c rest st' B)) : OR c (x :: rest) st B :=
 OR_cons (h.mono fun x st' ⟨h1, h2⟩ => by cases x; exact h2 rfl; exact h1 rfl)
end
section
variable {c : Cx} {st : St} {Φ : Value → St → Prop} {Ψ : AF → St → Prop} {B : Bool → St → Prop} {T : Stmt} {names : List Str} {n : Nat} {vals vals' : List (Option Value)} {J : St → Prop}
theorem XBc1 {rest : List Stmt} {a b p} (h : XS c (.Assign a b p) st (nextOr c rest Ψ)) : XB c (.Assign a b p :: rest) st Ψ := XB_cons h
theorem XBc2 {rest : List Stmt} {a o b p} (h : XS c (.AugAssign a o b p) st (nextOr c rest Ψ)) : XB c (.AugAssign a o b p :: rest) st Ψ := XB_cons h
theorem XBc3 {rest : List Stmt} {a p} (h : XS c (.Return a p) st (nextOr c rest Ψ)) : XB c (.Return a p :: rest) st Ψ := XB_cons h
theorem XBc4 {rest : List Stmt} {a p} (h : XS c (.Expr a p) st (nextOr c rest Ψ)) : XB c (.Expr a p :: rest) st Ψ := XB_cons h
theorem XBc5 {rest : List Stmt} {p} (h : XS c (.Continue p) st (nextOr c rest Ψ)) : XB c (.Continue p :: rest) st Ψ := XB_cons h
theorem XBc6 {rest : List Stmt} {p} (h : XS c (.Break p) st (nextOr c rest Ψ)) : XB c (.Break p :: rest) st Ψ := XB_cons h
theorem XBc7 {rest : List Stmt} {a p} (h : XS c (.Delete a p) st (nextOr c rest Ψ)) : XB c (.Delete a p :: rest) st Ψ := XB_cons h
theorem XBc8 {rest : List Stmt} {t b o p} (h : XS c (.If t b o p) st (nextOr c rest Ψ)) : XB c (.If t b o p :: rest) st Ψ := XB_cons h
theorem KEEPb {id : String} {P : Prop} (h : P) : KEEPER c (.builtin id) st ∧ P := ⟨KEEPER_builtin, h⟩
theorem KEEPt {id : String} {P : Prop} (h : P) : KEEPER c (.type id) st ∧ P := ⟨KEEPER_type, h⟩
theorem nextOr_next {rest : List Stmt} (h : XB c rest st Ψ) : nextOr c rest Ψ .next st := h
theorem nextOr_ret {rest : List Stmt} {v : Value} (h : Ψ (.ret v) st) : nextOr c rest Ψ (.ret v) st := h
theorem nextOr_cont {rest : List Stmt} (h : Ψ .cont st) : nextOr c rest Ψ .cont st := h
theorem nextOr_brk {rest : List Stmt} (h : Ψ .brk st) : nextOr c rest Ψ .brk st := h
theorem LP_next (h : J st) : LP J Ψ .next st := h
theorem LP_cont (h : J st) : LP J Ψ .cont st := h
theorem LP_brk (h : Ψ .next st) : LP J Ψ .brk st := h
theorem LP_ret {v : Value} (h : Ψ (.ret v) st) : LP J Ψ (.ret v) st := h
noncomputable def NEXT (names : List Str) (x : Str) (v : Value) (st : St) (Q : St → Prop) : Prop := ∃ vals vals', st.loc = look names vals ∧ Sto names vals x v vals' ∧ Q ⟨look names vals', st.hp⟩
theorem NEXT_mk {x : Str} {v : Value} {Q : St → Prop} (e : st.loc = look names vals) (l : Sto names vals x v vals') (h : Q ⟨look names vals', st.hp⟩) : NEXT names x v st Q := ⟨vals, vals', e, l, h⟩
inductive Mem : Str → List Str → Prop
 | here {x : Str} {l : List Str} : Mem x (x :: l)
 | there {x y : Str} {l : List Str} : Mem x l → Mem x (y :: l)
theorem Mem.mem {x : Str} {l : List Str} (h : Mem x l) : x ∈ l := by
 induction h with
 | here => exact .head _
 | there _ ih => exact .tail _ ih
theorem XS_A {x : Str} {e : Expr} {p q : Pos} (H : Here T names n c) (hx : Mem x names) (hsw : swapsWith e (some (.Name x p)) q.line c.env = pure false)
  (h : EX c e st fun v st' => NEXT names x v st' fun st'' => Ψ .next st'') : XS c (.Assign [.Name x p] e q) st Ψ := XS_Asg H hsw h hx.mem
theorem XS_AugA {x : Str} {e : Expr} {op : Operator} {p q : Pos} {a : Value} (H : Here T names n c) (he : st.loc = look names vals) (l : Loc names vals x a)
  (h : EX c e st fun v st' => IOP c op a v st' fun r st'' => NEXT names x r st'' fun st3 => Ψ .next st3) : XS c (.AugAssign (.Name x p) op e q) st Ψ := XS_Aug H he l h
theorem St.hp_there {b a : Addr} {o o' : AObj} (hn : b ≠ a) (h : st.hp b = some o') : (st.put a o).hp b = some o' := by rw [St.put_ne hn]; exact h
theorem St.apart {a b : Addr} {o : AObj} (ha : st.hp a = none) (hb : st.hp b = some o) : b ≠ a := fun e => by rw [e, ha] at hb; cases hb
end
noncomputable abbrev nReach : List Str := ["one", "two", "junk", "far"]
set_option maxHeartbeats 1000000 in
theorem tab_reach : Tab (topAt 9) nReach where
 nodup := by decide +kernel
 loc := by decide +kernel
 dbg := by decide +kernel
 cell := by decide +kernel
 co := by rfl
 gen := by rfl
 kind := by rfl
end Mine
end
section
open PySem PySem.W PyProof.Rows PySem.Calls
namespace Mine
theorem run1_step {p : Nat → Bool} {one two : List Nat} {i : Nat} (h1 : i < one.length) (h2 : i < two.length) (he : one[i] = two[i]) (hp : p one[i] = true) :
  run1 p (one.drop i) (two.drop i) = run1 p (one.drop (i + 1)) (two.drop (i + 1)) + 1 := by
 rw [List.drop_eq_getElem_cons h1, List.drop_eq_getElem_cons h2, run1, if_pos ⟨he, hp⟩]
theorem run1_stop {p : Nat → Bool} {one two : List Nat} {i : Nat} (h : ∀ (h1 : i < one.length) (h2 : i < two.length), one[i] = two[i] → p one[i] = false) :
  run1 p (one.drop i) (two.drop i) = 0 := by
 by_cases h1 : i < one.length
 ·by_cases h2 : i < two.length
  ·rw [List.drop_eq_getElem_cons h1, List.drop_eq_getElem_cons h2, run1, if_neg]
   rintro ⟨e, q⟩
   rw [h h1 h2 e] at q; cases q
  ·rw [List.drop_eq_nil_of_le (by lia : two.length ≤ i)]
   cases one.drop i <;> rfl
 ·rw [List.drop_eq_nil_of_le (by lia : one.length ≤ i)]; rfl
section
variable {c : Cx} {st : St} {Φ : Value → St → Prop} {Ψ : AF → St → Prop} {n : Nat}
theorem CALL_lenL' {l : List Nat} (hz : l.length ≤ sizeLine) (h : Φ (iv l.length) st) : CALL c (.builtin "len") [sv l] st Φ :=
 CALL_lenS (by rw [sizeLine_eq] at hz; show l.toArray.size < _; rw [List.size_toArray]; lia) (by show Φ (.int (l.toArray.size : Nat) 0) st; rw [List.size_toArray]; exact h)
theorem XS_While' {t : Expr} {b : List Stmt} {pos : Pos} (I : Nat → St → Prop) (n : Nat) (h0 : I n st)
  (turn : ∀ n st, I n st → TS c t st fun x st1 => (x = true → XB c b st1 (LP (fun st2 => ∃ m, m < n ∧ I m st2) Ψ)) ∧ (x = false → Ψ .next st1)) : XS c (.While t b [] pos) st Ψ :=
 XS_While I n h0 fun n st h => (turn n st h).mono fun x st1 ⟨h1, h2⟩ => by cases x; exact h2 rfl; exact h1 rfl
theorem EX_Neg1 {i : Int} {k : Nat} {p pos : Pos} {Φ : Value → St → Prop} (h : Φ (iv (-i)) st) : EX c (.UnaryOp .USub (.Constant (.int i) k p) pos) st Φ := EX_Neg (k := 0) (EX_int ⟨i, rfl, h⟩)
noncomputable def nextJ (J : St → Prop) (Ψ : AF → St → Prop) : AF → St → Prop
 | .next, st => J st
 | f, st => Ψ f st
theorem XB_cut {x : Stmt} {rest : List Stmt} (J : St → Prop) (h : XS c x st (nextJ J Ψ)) (k : ∀ st', J st' → XB c rest st' Ψ) : XB c (x :: rest) st Ψ :=
 XB_cons (h.mono fun f st' q => by
  unfold nextJ at q
  revert q
  cases f with
  | next => exact k st'
  | brk => exact fun q => q
  | cont => exact fun q => q
  | ret v => exact fun q => q)
theorem an2 {A1 A2 G : Prop} (h : A1 ∧ A2) (k : A1 → A2 → G) : G := k h.1 h.2
theorem an3 {A1 A2 A3 G : Prop} (h : A1 ∧ A2 ∧ A3) (k : A1 → A2 → A3 → G) : G := k h.1 h.2.1 h.2.2
theorem an4 {A1 A2 A3 A4 G : Prop} (h : A1 ∧ A2 ∧ A3 ∧ A4) (k : A1 → A2 → A3 → A4 → G) : G := k h.1 h.2.1 h.2.2.1 h.2.2.2
theorem an5 {A1 A2 A3 A4 A5 G : Prop} (h : A1 ∧ A2 ∧ A3 ∧ A4 ∧ A5) (k : A1 → A2 → A3 → A4 → A5 → G) : G := k h.1 h.2.1 h.2.2.1 h.2.2.2.1 h.2.2.2.2
theorem an6 {A1 A2 A3 A4 A5 A6 G : Prop} (h : A1 ∧ A2 ∧ A3 ∧ A4 ∧ A5 ∧ A6) (k : A1 → A2 → A3 → A4 → A5 → A6 → G) : G := k h.1 h.2.1 h.2.2.1 h.2.2.2.1 h.2.2.2.2.1 h.2.2.2.2.2
theorem an7 {A1 A2 A3 A4 A5 A6 A7 G : Prop} (h : A1 ∧ A2 ∧ A3 ∧ A4 ∧ A5 ∧ A6 ∧ A7) (k : A1 → A2 → A3 → A4 → A5 → A6 → A7 → G) : G := k h.1 h.2.1 h.2.2.1 h.2.2.2.1 h.2.2.2.2.1 h.2.2.2.2.2.1 h.2.2.2.2.2.2
theorem an8 {A1 A2 A3 A4 A5 A6 A7 A8 G : Prop} (h : A1 ∧ A2 ∧ A3 ∧ A4 ∧ A5 ∧ A6 ∧ A7 ∧ A8) (k : A1 → A2 → A3 → A4 → A5 → A6 → A7 → A8 → G) : G := k h.1 h.2.1 h.2.2.1 h.2.2.2.1 h.2.2.2.2.1 h.2.2.2.2.2.1 h.2.2.2.2.2.2.1 h.2.2.2.2.2.2.2
section
variable {c : Cx} {target : Expr} {elts : List Expr} {kk : Nat} {tpos : Pos} {body : List Stmt} {Ψ : AF → St → Prop} {v0 : Value} {st1 : St}
theorem range_mk (r : Addr) (a b : Int) (J : Nat → St → Prop) (h1 : v0 = .ref r) (h2 : st1.hp r = some (.rng a b)) (h3 : -(2 ^ 62) ≤ a ∧ a < 2 ^ 62 ∧ -(2 ^ 62) ≤ b ∧ b < 2 ^ 62) (h4 : J 0 st1)
  (h5 : ∀ (i : Nat) c' st', a + i < b → Ext c c' → J i st' → ASG c' target (.int (a + i) 0) st' fun st2 => XB c' body st2 (LP (J (i + 1)) Ψ)) (h6 : ∀ st', J (b - a).toNat st' → Ψ .next st') :
  ∃ r, ∃ a b : Int, ∃ J : Nat → St → Prop, v0 = .ref r ∧ st1.hp r = some (.rng a b) ∧ (-(2 ^ 62) ≤ a ∧ a < 2 ^ 62 ∧ -(2 ^ 62) ≤ b ∧ b < 2 ^ 62) ∧ J 0 st1 ∧
   (∀ (i : Nat) c' st', a + i < b → Ext c c' → J i st' → ASG c' target (.int (a + i) 0) st' fun st2 => XB c' body st2 (LP (J (i + 1)) Ψ)) ∧ ∀ st', J (b - a).toNat st' → Ψ .next st' := ⟨r, a, b, J, h1, h2, h3, h4, h5, h6⟩
theorem list_mk (a : Addr) (vs : List Value) (J : Nat → St → Prop) (h1 : v0 = .ref a) (h2 : st1.hp a = some (.list vs)) (h3 : J 0 (st1.del a))
  (h4 : ∀ i v c' st', vs[i]? = some v → Ext c c' → J i st' → ASG c' target v st' fun st2 => XB c' body st2 (LP (J (i + 1)) (backTo' a (.list vs) Ψ))) (h5 : ∀ st', J vs.length st' → st'.hp a = none → Ψ .next (st'.put a (.list vs))) :
  ∃ a vs, ∃ J : Nat → St → Prop, v0 = .ref a ∧ st1.hp a = some (.list vs) ∧ J 0 (st1.del a) ∧
   (∀ i v c' st', vs[i]? = some v → Ext c c' → J i st' → ASG c' target v st' fun st2 => XB c' body st2 (LP (J (i + 1)) (backTo' a (.list vs) Ψ))) ∧ ∀ st', J vs.length st' → st'.hp a = none → Ψ .next (st'.put a (.list vs)) := ⟨a, vs, J, h1, h2, h3, h4, h5⟩
theorem enum_mk (e it l : Addr) (vs : List Value) (J : Nat → St → Prop) (h1 : v0 = .ref e) (h2 : e ≠ it) (h3 : st1.hp e = some (.enm it)) (h4 : st1.hp it = some (.lit l)) (h5 : st1.hp l = some (.list vs)) (h6 : J 0 (((st1.del e).del it).del l))
  (h7 : ∀ (i : Nat) v c' T xs st', vs[i]? = some v → Ext c c' → c'.h₀.IsTuple T xs → xs.toList.map z = [iv i, v] → J i st' → ASG c' (.Tuple elts kk tpos) (.ref T) st' fun st2 => XB c' body st2 (LP (J (i + 1)) (backTo' l (.list vs) Ψ)))
  (h8 : ∀ st', J vs.length st' → st'.hp l = none → Ψ .next (st'.put l (.list vs))) :
  ∃ e it l vs, ∃ J : Nat → St → Prop, v0 = .ref e ∧ e ≠ it ∧ st1.hp e = some (.enm it) ∧ st1.hp it = some (.lit l) ∧ st1.hp l = some (.list vs) ∧ J 0 (((st1.del e).del it).del l) ∧
   (∀ (i : Nat) v c' T xs st', vs[i]? = some v → Ext c c' → c'.h₀.IsTuple T xs → xs.toList.map z = [iv i, v] → J i st' → ASG c' (.Tuple elts kk tpos) (.ref T) st' fun st2 => XB c' body st2 (LP (J (i + 1)) (backTo' l (.list vs) Ψ))) ∧
   ∀ st', J vs.length st' → st'.hp l = none → Ψ .next (st'.put l (.list vs)) := ⟨e, it, l, vs, J, h1, h2, h3, h4, h5, h6, h7, h8⟩
theorem keys_mk (kv d : Addr) (kvs : List (Str × Value)) (J : Nat → St → Prop) (h1 : v0 = .ref kv) (h2 : st1.hp kv = some (.kview d)) (h3 : st1.hp d = some (.dictS kvs)) (h4 : J 0 (st1.del d))
  (h5 : ∀ (i : Nat) p c' st', kvs[i]? = some p → Ext c c' → J i st' → ASG c' target (.str p.1 0) st' fun st2 => XB c' body st2 (LP (J (i + 1)) (backTo' d (.dictS kvs) Ψ))) (h6 : ∀ st', J kvs.length st' → Ψ .next (st'.put d (.dictS kvs))) :
  ∃ kv d kvs, ∃ J : Nat → St → Prop, v0 = .ref kv ∧ st1.hp kv = some (.kview d) ∧ st1.hp d = some (.dictS kvs) ∧ J 0 (st1.del d) ∧
   (∀ (i : Nat) p c' st', kvs[i]? = some p → Ext c c' → J i st' → ASG c' target (.str p.1 0) st' fun st2 => XB c' body st2 (LP (J (i + 1)) (backTo' d (.dictS kvs) Ψ))) ∧ ∀ st', J kvs.length st' → Ψ .next (st'.put d (.dictS kvs)) := ⟨kv, d, kvs, J, h1, h2, h3, h4, h5, h6⟩
theorem items_mk (kv d : Addr) (kvs : List (Str × Value)) (J : Nat → St → Prop) (h1 : v0 = .ref kv) (h2 : st1.hp kv = some (.iview d)) (h3 : st1.hp d = some (.dictS kvs)) (h4 : J 0 (st1.del d))
  (h5 : ∀ (i : Nat) p c' T xs st', kvs[i]? = some p → Ext c c' → c'.h₀.IsTuple T xs → xs.toList.map z = [.str p.1 0, p.2] → J i st' → ASG c' (.Tuple elts kk tpos) (.ref T) st' fun st2 => XB c' body st2 (LP (J (i + 1)) (backTo' d (.dictS kvs) Ψ))) (h6 : ∀ st', J kvs.length st' → Ψ .next (st'.put d (.dictS kvs))) :
  ∃ kv d kvs, ∃ J : Nat → St → Prop, v0 = .ref kv ∧ st1.hp kv = some (.iview d) ∧ st1.hp d = some (.dictS kvs) ∧ J 0 (st1.del d) ∧
   (∀ (i : Nat) p c' T xs st', kvs[i]? = some p → Ext c c' → c'.h₀.IsTuple T xs → xs.toList.map z = [.str p.1 0, p.2] → J i st' → ASG c' (.Tuple elts kk tpos) (.ref T) st' fun st2 => XB c' body st2 (LP (J (i + 1)) (backTo' d (.dictS kvs) Ψ))) ∧ ∀ st', J kvs.length st' → Ψ .next (st'.put d (.dictS kvs)) := ⟨kv, d, kvs, J, h1, h2, h3, h4, h5, h6⟩
end
theorem ex2i {α β : Type} {P : α → β → Prop} {G : Prop} (k : ∀ x y, P x y → G) : (∃ x y, P x y) → G := fun ⟨x, y, h⟩ => k x y h
theorem exI2 {α β : Type} {P : α → β → Prop} (x : α) (y : β) (h : P x y) : ∃ x y, P x y := ⟨x, y, h⟩
theorem ex3i {α β γ : Type} {P : α → β → γ → Prop} {G : Prop} (k : ∀ x y u, P x y u → G) : (∃ x y u, P x y u) → G := fun ⟨x, y, u, h⟩ => k x y u h
theorem exI3 {α β γ : Type} {P : α → β → γ → Prop} (x : α) (y : β) (u : γ) (h : P x y u) : ∃ x y u, P x y u := ⟨x, y, u, h⟩
theorem ex4i {α β γ δ : Type} {P : α → β → γ → δ → Prop} {G : Prop} (k : ∀ x y u w, P x y u w → G) : (∃ x y u w, P x y u w) → G := fun ⟨x, y, u, w, h⟩ => k x y u w h
theorem exI4 {α β γ δ : Type} {P : α → β → γ → δ → Prop} (x : α) (y : β) (u : γ) (w : δ) (h : P x y u w) : ∃ x y u w, P x y u w := ⟨x, y, u, w, h⟩
theorem subS_mk {P : (l : List Nat) → (m : Nat) → m < l.length → Prop} {i : Value} (l : List Nat) (n : Nat) (hi : i = iv n) (hn : n < l.length) (hz : l.length ≤ sizeLine) (h : P l n hn) : ∃ l', sv l = sv l' ∧ ∃ m : Nat, i = iv m ∧ ∃ hm : m < l'.length, l'.length ≤ sizeLine ∧ P l' m hm := ⟨l, rfl, n, hi, hn, hz, h⟩
theorem slice_mk {P : List Nat → Nat → Nat → Prop} {l : List Nat} {a b : Value} (i j : Nat) (hz : l.length ≤ sizeLine) (ha : a = .none ∧ i = 0 ∨ a = iv i) (hb : b = .none ∧ j = l.length ∨ b = iv j) (hij : i ≤ j) (hj : j ≤ l.length) (h : P l i j) : ∃ l', sv l = sv l' ∧ l'.length ≤ sizeLine ∧ ∃ i j : Nat, (a = .none ∧ i = 0 ∨ a = iv i) ∧ (b = .none ∧ j = l'.length ∨ b = iv j) ∧ i ≤ j ∧ j ≤ l'.length ∧ P l' i j := ⟨l, rfl, hz, i, j, ha, hb, hij, hj, h⟩
theorem subT_mk {P : Value → Prop} {hp : Addr → Option AObj} {u : Addr} {vs : List Value} {v i : Value} (n : Nat) (ha : hp u = some (.tup vs)) (hi : i = iv n) (hv : vs[n]? = some v) (hz : vs.length ≤ sizeLine) (h : P v) : ∃ a vs, Value.ref u = .ref a ∧ hp a = some (.tup vs) ∧ ∃ n : Nat, i = iv n ∧ ∃ v, vs[n]? = some v ∧ vs.length ≤ sizeLine ∧ P v := ⟨u, vs, rfl, ha, n, hi, v, hv, hz, h⟩
theorem last_mk {P : Value → Prop} {hp : Addr → Option AObj} {u : Addr} {i : Value} (vs : List Value) (v : Value) (ha : hp u = some (.list (vs ++ [v]))) (hi : i = iv (-1)) (hz : vs.length < sizeLine) (h : P v) : ∃ a vs v, Value.ref u = .ref a ∧ hp a = some (.list (vs ++ [v])) ∧ i = iv (-1) ∧ vs.length < sizeLine ∧ P v := ⟨u, vs, v, rfl, ha, hi, hz, h⟩
theorem app_mk1 {P : Addr → Prop} {hp : Addr → Option AObj} {u : Addr} {vs : List Value} (ha : hp u = some (.list vs)) (h : P u) : ∃ a, Value.ref u = .ref a ∧ (∃ vs, hp a = some (.list vs)) ∧ P a := ⟨u, rfl, ⟨_, ha⟩, h⟩
theorem app_mk2 {P : List Value → Prop} {hp : Addr → Option AObj} {u : Addr} (ws : List Value) (ha : hp u = some (.list ws)) (hz : ws.length ≤ sizeLine) (h : P ws) : ∃ ws, hp u = some (.list ws) ∧ ws.length ≤ sizeLine ∧ P ws := ⟨ws, ha, hz, h⟩
noncomputable def Ex3 (P : Option Value → Option Value → Option Value → Prop) : Prop := ∃ o1 o2 o3, P o1 o2 o3
theorem Ex3.mk {P : Option Value → Option Value → Option Value → Prop} (o1 o2 o3 : Option Value) (h : P o1 o2 o3) : Ex3 P := ⟨o1, o2, o3, h⟩
theorem Ex3.elim {P : Option Value → Option Value → Option Value → Prop} {G : Prop} (h : Ex3 P) (k : ∀ o1 o2 o3, P o1 o2 o3 → G) : G := by
 obtain ⟨o1, o2, o3, h⟩ := h
 exact k o1 o2 o3 h
noncomputable def Ex4 (P : Option Value → Option Value → Option Value → Option Value → Prop) : Prop := ∃ o1 o2 o3 o4, P o1 o2 o3 o4
theorem Ex4.mk {P : Option Value → Option Value → Option Value → Option Value → Prop} (o1 o2 o3 o4 : Option Value) (h : P o1 o2 o3 o4) : Ex4 P := ⟨o1, o2, o3, o4, h⟩
theorem Ex4.elim {P : Option Value → Option Value → Option Value → Option Value → Prop} {G : Prop} (h : Ex4 P) (k : ∀ o1 o2 o3 o4, P o1 o2 o3 o4 → G) : G := by
 obtain ⟨o1, o2, o3, o4, h⟩ := h
 exact k o1 o2 o3 o4 h
noncomputable def Ex5 (P : Option Value → Option Value → Option Value → Option Value → Option Value → Prop) : Prop := ∃ o1 o2 o3 o4 o5, P o1 o2 o3 o4 o5
theorem Ex5.mk {P : Option Value → Option Value → Option Value → Option Value → Option Value → Prop} (o1 o2 o3 o4 o5 : Option Value) (h : P o1 o2 o3 o4 o5) : Ex5 P := ⟨o1, o2, o3, o4, o5, h⟩
theorem Ex5.elim {P : Option Value → Option Value → Option Value → Option Value → Option Value → Prop} {G : Prop} (h : Ex5 P) (k : ∀ o1 o2 o3 o4 o5, P o1 o2 o3 o4 o5 → G) : G := by
 obtain ⟨o1, o2, o3, o4, o5, h⟩ := h
 exact k o1 o2 o3 o4 o5 h
noncomputable def Ex6 (P : Option Value → Option Value → Option Value → Option Value → Option Value → Option Value → Prop) : Prop := ∃ o1 o2 o3 o4 o5 o6, P o1 o2 o3 o4 o5 o6
theorem Ex6.mk {P : Option Value → Option Value → Option Value → Option Value → Option Value → Option Value → Prop} (o1 o2 o3 o4 o5 o6 : Option Value) (h : P o1 o2 o3 o4 o5 o6) : Ex6 P := ⟨o1, o2, o3, o4, o5, o6, h⟩
theorem Ex6.elim {P : Option Value → Option Value → Option Value → Option Value → Option Value → Option Value → Prop} {G : Prop} (h : Ex6 P) (k : ∀ o1 o2 o3 o4 o5 o6, P o1 o2 o3 o4 o5 o6 → G) : G := by
 obtain ⟨o1, o2, o3, o4, o5, o6, h⟩ := h
 exact k o1 o2 o3 o4 o5 o6 h
noncomputable def Ex8 (P : Option Value → Option Value → Option Value → Option Value → Option Value → Option Value → Option Value → Option Value → Prop) : Prop := ∃ o1 o2 o3 o4 o5 o6 o7 o8, P o1 o2 o3 o4 o5 o6 o7 o8
theorem Ex8.mk {P : Option Value → Option Value → Option Value → Option Value → Option Value → Option Value → Option Value → Option Value → Prop} (o1 o2 o3 o4 o5 o6 o7 o8 : Option Value) (h : P o1 o2 o3 o4 o5 o6 o7 o8) : Ex8 P := ⟨o1, o2, o3, o4, o5, o6, o7, o8, h⟩
theorem Ex8.elim {P : Option Value → Option Value → Option Value → Option Value → Option Value → Option Value → Option Value → Option Value → Prop} {G : Prop} (h : Ex8 P) (k : ∀ o1 o2 o3 o4 o5 o6 o7 o8, P o1 o2 o3 o4 o5 o6 o7 o8 → G) : G := by
 obtain ⟨o1, o2, o3, o4, o5, o6, o7, o8, h⟩ := h
 exact k o1 o2 o3 o4 o5 o6 o7 o8 h
theorem ABS_cut {x : Stmt} {J : St → Prop} (h : ∀ K : St → Prop, (∀ s, J s → K s) → XS c x st (nextJ K Ψ)) : XS c x st (nextJ J Ψ) := h J fun _ h => h
theorem ABS_asg {c' : Cx} {t : Expr} {v : Value} {b : List Stmt} {J : St → Prop} (h : ∀ K : St → Prop, (∀ s, J s → K s) → ASG c' t v st fun s => XB c' b s (LP K Ψ)) : ASG c' t v st fun s => XB c' b s (LP J Ψ) := h J fun _ h => h
theorem ABS_ex {x : Expr} {J : Value → St → Prop} (h : ∀ K : Value → St → Prop, (∀ v s, J v s → K v s) → EX c x st K) : EX c x st J := h J fun _ _ h => h
theorem ABS_ts {t : Expr} {b : List Stmt} {I : Nat → St → Prop} {n : Nat} (h : ∀ K : St → Prop, (∀ m s, m < n → I m s → K s) → TS c t st fun x st1 => (x = true → XB c b st1 (LP K Ψ)) ∧ (x = false → Ψ .next st1)) : TS c t st fun x st1 => (x = true → XB c b st1 (LP (fun st2 => ∃ m, m < n ∧ I m st2) Ψ)) ∧ (x = false → Ψ .next st1) := h _ fun m _ h1 h2 => ⟨m, h1, h2⟩
theorem nextJ_next {J : St → Prop} (h : J st) : nextJ J Ψ .next st := h
theorem nextJ_ret {J : St → Prop} {v : Value} (h : Ψ (.ret v) st) : nextJ J Ψ (.ret v) st := h
theorem CMP_eq1 {a b : Nat} {Φ : Value → St → Prop} (h : Φ (.bool (decide (a = b))) st) : CMP c .Eq (sv [a]) (sv [b]) st Φ := by
 refine CMP_eqS ?_
 have : ((⟨[a].toArray⟩ : Str) == ⟨[b].toArray⟩) = decide (a = b) := by
  by_cases e : a = b
  ·subst e; simp
  ·rw [decide_eq_false e]
   apply beq_false_of_ne
   intro q
   apply e
   injection q with q
   injection q with q
   injection q with q
 rw [this]; exact h
end
end Mine
end
section
open PySem PySem.W PyProof.Rows PySem.Calls
namespace Mine
noncomputable def Keeps (h h' : Addr → Option AObj) : Prop := ∀ a o, h a = some o → h' a = some o
theorem Keeps.refl (h : Addr → Option AObj) : Keeps h h := fun _ _ e => e
theorem Keeps.trans {a b d : Addr → Option AObj} (x : Keeps a b) (y : Keeps b d) : Keeps a d := fun p q e => y p q (x p q e)
section
variable {c : Cx} {st : St} {Φ : Value → St → Prop} {Ψ : AF → St → Prop} {n : Nat}
theorem Keeps.put {a : Addr} {o : AObj} {h : Addr → Option AObj} (k : Keeps h st.hp) (ha : st.hp a = none) : Keeps h (st.put a o).hp := fun b ob e => by
 have e' := k b ob e
 have : b ≠ a := fun q => by rw [q, ha] at e'; cases e'
 rw [St.put_ne this]; exact e'
theorem XS_append {o e : Expr} {ap p q : Pos} (hi : interactive c.env = false) (he' : starEach [e] c.env = (false, eval e c.env) :: starEach [] c.env)
  (hsw : swapsWith (.Call (.Attribute o "append" ap) [e] [] p) none q.line c.env = pure false) (he : ∃ pl : Sem Bool, eval (.Call (.Attribute o "append" ap) [e] [] p) c.env = (do
   let ov ← eval o c.env
   standAt ap.atName
   let (f, first) ← holding [ov] (getMethod ov "append" pl)
   callWith p f first (backTo p (starEach [e] c.env)) []))
  (h : EX c o st fun ov st1 => ∃ a, ov = .ref a ∧ (∃ vs, st1.hp a = some (.list vs)) ∧ EX c e st1 fun v st2 => ∃ ws, st2.hp a = some (.list ws) ∧ ws.length ≤ sizeLine ∧ Ψ .next (st2.put a (.list (ws ++ [v])))) : XS c (.Expr (.Call (.Attribute o "append" ap) [e] [] p) q) st Ψ := by
 obtain ⟨pl, he⟩ := he
 refine XS_Expr hi hsw (EX_Meth he he' rfl (h.mono ?_))
 rintro v st1 ⟨a, h1, ⟨vs, h2⟩, h3⟩
 rw [h1]
 refine METH_list h2 F.slot_list_append rfl ?_
 refine ARGS_cons he' (h3.mono ?_)
 rintro w st2 ⟨ws, k1, k2, k3⟩
 refine ARGS_nil ⟨KEEPER_builtin, ?_⟩
 exact CALL_append k1 k2 k3
theorem fmod_nat (i m : Nat) : (i : Int).fmod (m : Int) = ((i % m : Nat) : Int) := by
 rw [Int.fmod_eq_emod_of_nonneg _ (by lia)]; rfl
theorem fmod_range (i : Int) {m : Int} (h : 0 < m) : 0 ≤ i.fmod m ∧ i.fmod m < m := by
 rw [Int.fmod_eq_emod_of_nonneg _ (by lia)]
 exact ⟨Int.emod_nonneg _ (by lia), Int.emod_lt_of_pos _ h⟩
end
section
variable {st : St}
theorem St.hp_del {a b : Addr} {o : AObj} (h : st.hp b = some o) (hn : b ≠ a) : (st.del a).hp b = some o := by rw [St.del_ne hn]; exact h
theorem enum_keep {h : Addr → Option AObj} {e it l : Addr} {oi oe : AObj} (k : Keeps h st.hp) (he : st.hp e = none) (hit : st.hp it = none) (b : Addr) (o : AObj) (hl : b ≠ l) (hb : h b = some o) : (((((st.put it oi).put e oe).del e).del it).del l).hp b = some o := by
 have hb' := k b o hb
 have e1 : b ≠ e := fun q => by rw [q, he] at hb'; cases hb'
 have e2 : b ≠ it := fun q => by rw [q, hit] at hb'; cases hb'
 exact St.hp_del (St.hp_del (St.hp_del (St.hp_there e1 (St.hp_there e2 hb')) e1) e2) hl
end
noncomputable abbrev nKept : List Str := ["script", "most", "wide", "kept", "at", "number"]
set_option maxHeartbeats 1000000 in
theorem tab_kept : Tab (topAt 8) nKept where
 nodup := by decide +kernel
 loc := by decide +kernel
 dbg := by decide +kernel
 cell := by decide +kernel
 co := by rfl
 gen := by rfl
 kind := by rfl
end Mine
end
section
open PySem PySem.W PyProof.Rows PySem.Calls
namespace Mine
section
variable {c : Cx} {st : St} {Φ : Value → St → Prop} {Ψ : AF → St → Prop} {B : Bool → St → Prop} {n : Nat} {T : Stmt} {names : List Str}
theorem TRU_list {a : Addr} {vs : List Value} (ha : st.hp a = some (.list vs)) (hz : vs.length ≤ sizeLine) (h : B (!vs.isEmpty) st) : TRU c (.ref a) st B := by
 intro u hu
 rw [z_ref hu]
 refine .of fun s hs => ?_
 obtain ⟨xs, n, k1, k2⟩ := hs.list ha
 have hL : s.heap.IsList a xs.toArray := ⟨_, k1, rfl, n, rfl⟩
 have hl : xs.length = vs.length := by rw [← k2, List.length_map]
 rw [sizeLine_eq] at hz
 with_reducible refine wpAny_truthy_list hL (by simp [hl]; lia) ?_
 have e : xs.toArray.isEmpty = vs.isEmpty := by
  cases vs with
  | nil => have : xs = [] := List.eq_nil_of_length_eq_zero hl; subst this; rfl
  | cons v r => cases xs with
   | nil => cases hl
   | cons => rfl
 exact ⟨st, hs.toks, by rw [e]; exact h⟩
theorem swapped_env {env env' : Env} (e : env.scope = env'.scope) (ts : List Expr) (v : Expr) : swappedStores ts v env = swappedStores ts v env' := by
 unfold swappedStores Env.blockKind Env.kindOf
 rw [e]
noncomputable def envOf (T : Stmt) : Env := ⟨scopeOf T, 0, 0, [], Str.empty, none, .none, none, 0⟩
theorem Here.swap (H : Here T names n c) {ts : List Expr} {v : Expr} {r : Sem (Option (List Str))} (h : swappedStores ts v (envOf T) = r) : swappedStores ts v c.env = r := by
 rw [← h]; exact swapped_env H.sc ts v
theorem AVS_of (h : ∀ x ∈ names, x ∈ names) : True := trivial
noncomputable def D2 (F : Value → Value → Prop) : List Value → Prop
 | [a, b] => F a b
 | _ => False
noncomputable def D3 (F : Value → Value → Value → Prop) : List Value → Prop
 | [a, b, d] => F a b d
 | _ => False
theorem D2.is {F : Value → Value → Prop} {vs : List Value} (h : D2 F (vs.map z)) : ∃ a b, vs = [a, b] ∧ F (z a) (z b) := by
 rcases vs with _ | ⟨a, _ | ⟨b, _ | ⟨d, r⟩⟩⟩
 ·exact h.elim
 ·exact h.elim
 ·exact ⟨a, b, rfl, h⟩
 ·exact h.elim
theorem D3.is {F : Value → Value → Value → Prop} {vs : List Value} (h : D3 F (vs.map z)) : ∃ a b d, vs = [a, b, d] ∧ F (z a) (z b) (z d) := by
 rcases vs with _ | ⟨a, _ | ⟨b, _ | ⟨d, _ | ⟨e, r⟩⟩⟩⟩
 ·exact h.elim
 ·exact h.elim
 ·exact h.elim
 ·exact ⟨a, b, d, rfl, h⟩
 ·exact h.elim
theorem D2_mk {F : Value → Value → Prop} {a b : Value} (h : F a b) : D2 F [a, b] := h
theorem D3_mk {F : Value → Value → Value → Prop} {a b d : Value} (h : F a b d) : D3 F [a, b, d] := h
theorem NEXT.elim {x : Str} {v : Value} {Q : St → Prop} (H : Here T names n c) (h : NEXT names x v st Q) : Q (st.set x v) := by
 obtain ⟨vals, vals', h1, h2, h3⟩ := h
 rw [St.set_look H.tab.nodup h1 h2]; exact h3
theorem NEXT.mem {x : Str} {v : Value} {Q : St → Prop} (h : NEXT names x v st Q) : x ∈ names := by
 obtain ⟨vals, vals', h1, h2, h3⟩ := h
 exact h2.mem
theorem NEXT.mono {x : Str} {v : Value} {Q Q' : St → Prop} (h : NEXT names x v st Q) (k : ∀ s, Q s → Q' s) : NEXT names x v st Q' := by
 obtain ⟨vals, vals', h1, h2, h3⟩ := h
 exact ⟨vals, vals', h1, h2, k _ h3⟩
theorem XS_Disp2 {x y : Str} {p1 p2 : Pos} {es : List Expr} {k k' : Nat} {tpos pos p' : Pos} (H : Here T names n c) (hx : Mem x names) (hy : Mem y names)
  (hsw : swapsWithSole [.Tuple [.Name x p1, .Name y p2] k tpos] (.Tuple es k' p') pos.line c.env = pure false) (hw : swappedStores [.Tuple [.Name x p1, .Name y p2] k tpos] (.Tuple es k' p') (envOf T) = pure (some [x, y])) (hz : es.length ≤ 1000)
  (h : ARGS c p' es st fun vs st1 => D2 (fun a b => NEXT names y b st1 fun s1 => NEXT names x a s1 fun s2 => Ψ .next s2) vs) : XS c (.Assign [.Tuple [.Name x p1, .Name y p2] k tpos] (.Tuple es k' p') pos) st Ψ := by
 refine XS_AssignDisp (names := [x, y]) H.good.kind H.hand (fun w hw => ?_) H.off hsw (H.swap hw) hz (h.mono fun vs st1 q => ?_)
 ·refine H.kindOf ?_
  rcases List.mem_cons.mp hw with rfl | hw
  ·exact hx.mem
  ·rw [List.mem_singleton.mp hw]; exact hy.mem
 ·obtain ⟨a, b, rfl, q'⟩ := D2.is q
  exact ⟨by rw [sizeLine_eq]; exact Nat.le_of_ble_eq_true rfl, rfl, (q'.elim H).elim H⟩
theorem XS_Disp3 {x y w : Str} {p1 p2 p3 : Pos} {es : List Expr} {k k' : Nat} {tpos pos p' : Pos} (H : Here T names n c) (hx : Mem x names) (hy : Mem y names) (hw0 : Mem w names)
  (hsw : swapsWithSole [.Tuple [.Name x p1, .Name y p2, .Name w p3] k tpos] (.Tuple es k' p') pos.line c.env = pure false) (hw : swappedStores [.Tuple [.Name x p1, .Name y p2, .Name w p3] k tpos] (.Tuple es k' p') (envOf T) = pure (some [x, y, w])) (hz : es.length ≤ 1000)
  (h : ARGS c p' es st fun vs st1 => D3 (fun a b d => NEXT names w d st1 fun s0 => NEXT names y b s0 fun s1 => NEXT names x a s1 fun s2 => Ψ .next s2) vs) : XS c (.Assign [.Tuple [.Name x p1, .Name y p2, .Name w p3] k tpos] (.Tuple es k' p') pos) st Ψ := by
 refine XS_AssignDisp (names := [x, y, w]) H.good.kind H.hand (fun w hw => ?_) H.off hsw (H.swap hw) hz (h.mono fun vs st1 q => ?_)
 ·refine H.kindOf ?_
  rcases List.mem_cons.mp hw with rfl | hw
  ·exact hx.mem
  ·rcases List.mem_cons.mp hw with rfl | hw
   ·exact hy.mem
   ·rw [List.mem_singleton.mp hw]; exact hw0.mem
 ·obtain ⟨a, b, d, rfl, q'⟩ := D3.is q
  exact ⟨by rw [sizeLine_eq]; exact Nat.le_of_ble_eq_true rfl, rfl, ((q'.elim H).elim H).elim H⟩
theorem TS_val {e : Expr} (P : Prop) [Decidable P] (h : TS c e st fun x st' => x = decide P ∧ st' = st) (k : B (decide P) st) : TS c e st B :=
 h.mono fun x st' ⟨h1, h2⟩ => by rw [h1, h2]; exact k
theorem EX_val {e : Expr} (w : Value) (h : EX c e st fun x st' => x = w ∧ st' = st) (k : Φ w st) : EX c e st Φ :=
 h.mono fun x st' ⟨h1, h2⟩ => by rw [h1, h2]; exact k
theorem TS_name {x : Str} {p : Pos} {a : Value} {vals : List (Option Value)} (H : Here T names n c) (e : st.loc = look names vals) (l : Loc names vals x a) (h : TRU c a st B) : TS c (.Name x p) st B :=
 TS_plain rfl (EX_loc H e l h)
inductive Tups (h : Addr → Option AObj) : List Addr → List (List Value) → Prop
 | nil : Tups h [] []
 | cons {a : Addr} {v : List Value} {as : List Addr} {vs : List (List Value)} : h a = some (.tup v) → Tups h as vs → Tups h (a :: as) (v :: vs)
theorem Tups.keeps {h h' : Addr → Option AObj} {as : List Addr} {vs : List (List Value)} (x : Tups h as vs) (k : ∀ a v, h a = some (.tup v) → h' a = some (.tup v)) : Tups h' as vs := by
 induction x with
 | nil => exact .nil
 | cons e _ ih => exact .cons (k _ _ e) ih
theorem Tups.append {h : Addr → Option AObj} {as bs : List Addr} {vs ws : List (List Value)} (x : Tups h as vs) (y : Tups h bs ws) : Tups h (as ++ bs) (vs ++ ws) := by
 induction x with
 | nil => exact y
 | cons e _ ih => exact .cons e ih
theorem Tups.length {h : Addr → Option AObj} {as : List Addr} {vs : List (List Value)} (x : Tups h as vs) : as.length = vs.length := by
 induction x with
 | nil => rfl
 | cons e _ ih => simp [ih]
theorem Tups.get {h : Addr → Option AObj} {as : List Addr} {vs : List (List Value)} (x : Tups h as vs) {i : Nat} {a : Addr} (e : as[i]? = some a) : ∃ v, vs[i]? = some v ∧ h a = some (.tup v) := by
 induction x generalizing i with
 | nil => cases e
 | cons e' _ ih =>
  cases i with
  | zero => cases e; exact ⟨_, rfl, e'⟩
  | succ i => exact ih e
noncomputable def LT (h : Addr → Option AObj) (l : Addr) (vs : List (List Value)) : Prop := ∃ as : List Addr, h l = some (.list (as.map .ref)) ∧ Tups h as vs
theorem LT.keeps {h h' : Addr → Option AObj} {l : Addr} {vs : List (List Value)} (x : LT h l vs) (k : Keeps h h') : LT h' l vs := by
 obtain ⟨as, h1, h2⟩ := x
 exact ⟨as, k _ _ h1, h2.keeps fun a v e => k _ _ e⟩
theorem Keeps.none {h h' : Addr → Option AObj} {a : Addr} (k : Keeps h h') (e : h' a = none) : h a = none := by
 cases q : h a with
 | none => rfl
 | some o => rw [k a o q] at e; cases e
theorem LT.push {r u : Addr} {cas : List Addr} {vs : List (List Value)} {w : List Value} (h1 : st.hp r = some (.list (cas.map .ref))) (h2 : Tups st.hp cas vs) (hu : st.hp u = none) :
  LT ((st.put u (.tup w)).put r (.list (cas.map .ref ++ [.ref u]))).hp r (vs ++ [w]) := by
 have hru : r ≠ u := St.apart hu h1
 refine ⟨cas ++ [u], by rw [List.map_append]; exact St.put_self, ?_⟩
 refine (h2.keeps fun a v e => ?_).append (.cons (St.hp_there (Ne.symm hru) St.put_self) .nil)
 have : a ≠ r := fun q => by rw [q, h1] at e; cases e
 exact St.hp_there this (St.hp_there (St.apart hu e) e)
theorem LT.push' {r u : Addr} {cas : List Addr} {vs : List (List Value)} {w : List Value} {ws : List Value} (h1 : st.hp r = some (.list ws)) (h2 : Tups st.hp cas vs) (hu : st.hp u = none) :
  LT ((st.put u (.tup w)).put r (.list (cas.map .ref ++ [.ref u]))).hp r (vs ++ [w]) := by
 have hru : r ≠ u := St.apart hu h1
 refine ⟨cas ++ [u], by rw [List.map_append]; exact St.put_self, ?_⟩
 refine (h2.keeps fun a v e => ?_).append (.cons (St.hp_there (Ne.symm hru) St.put_self) .nil)
 have : a ≠ r := fun q => by rw [q, h1] at e; cases e
 exact St.hp_there this (St.hp_there (St.apart hu e) e)
theorem Tups.snoc {h : Addr → Option AObj} {vs : List (List Value)} {as : List Addr} {v : List Value} (t : Tups h as (vs ++ [v])) : ∃ as' a, as = as' ++ [a] ∧ Tups h as' vs ∧ h a = some (.tup v) := by
 induction vs generalizing as with
 | nil =>
  cases t with
  | cons e r =>
   cases r
   exact ⟨[], _, rfl, .nil, e⟩
 | cons w r ih =>
  cases t with
  | cons e r =>
   obtain ⟨as', a, rfl, h1, h2⟩ := ih r
   exact ⟨_ :: as', a, rfl, .cons e h1, h2⟩
theorem keep_put {h : Addr → Option AObj} {P : Addr → Prop} {a : Addr} {o : AObj} (k : ∀ b o, P b → h b = some o → st.hp b = some o) (ha : st.hp a = none) : ∀ b ob, P b → h b = some ob → (st.put a o).hp b = some ob := fun b ob p e =>
 St.hp_there (St.apart ha (k b ob p e)) (k b ob p e)
theorem keep_upd {h : Addr → Option AObj} {P : Addr → Prop} {a : Addr} {o : AObj} (k : ∀ b o, P b → h b = some o → st.hp b = some o) (ha : ¬ P a) : ∀ b ob, P b → h b = some ob → (st.put a o).hp b = some ob := fun b ob p e =>
 St.hp_there (fun q => ha (q ▸ p)) (k b ob p e)
end
end Mine
end
section
open PySem PySem.W PyProof.Rows PySem.Calls
namespace Mine
theorem attr_nodup : attrNames.Nodup := by decide +kernel
theorem meth_not : ∀ p ∈ methTab, p.1 ∉ attrNames := by decide +kernel
structure SM (hp : Addr → Option AObj) (x dx : Addr) (vals : List (Option Value)) : Prop where
 x : hp x = some (.inst aSM dx)
 d : hp dx = some (.attrs (look attrNames vals))
theorem SM.keeps {hp hp' : Addr → Option AObj} {x dx : Addr} {vals : List (Option Value)} (M : SM hp x dx vals) (k : Keeps hp hp') : SM hp' x dx vals := ⟨k _ _ M.x, k _ _ M.d⟩
section
variable {c : Cx} {st : St} {Φ : Value → St → Prop} {Ψ : AF → St → Prop} {B : Bool → St → Prop} {n : Nat} {T : Stmt} {names : List Str} {lv vals vals' : List (Option Value)} {x dx : Addr}
theorem EX_self {sn attr : Str} {p pos : Pos} {v : Value} (H : Here T names n c) (e : st.loc = look names lv) (l0 : Loc names lv sn (.ref x)) (M : SM st.hp x dx vals) (l : Loc attrNames vals attr v) (hv : handedIn v = true) (h : Φ v st) :
  EX c (.Attribute (.Name sn p) attr pos) st Φ := by
 refine EX_Attr rfl (EX_loc H e l0 ?_)
 obtain ⟨K, X, S⟩ := H.base.sm
 obtain ⟨cd, h1, h2⟩ := S.cd
 exact GETA X M.x M.d (l.look attr_nodup) S.ga h1 h2 (S.no _ l.mem) hv h
theorem METH_self {meth : Str} {g : Addr} {Ψ : Value → List Value → St → Prop} (H : Here T names n c) (M : SM st.hp x dx vals) (m : Pr methTab meth g) (h : Ψ (.ref g) [.ref x] st) : METH c (.ref x) meth st Ψ := by
 obtain ⟨K, X, S⟩ := H.base.sm
 obtain ⟨h1, h2⟩ := S.me _ m.mem
 exact METH_inst X M.x M.d (look_none (meth_not _ m.mem)) S.ga S.gx h1 h2 h
theorem SETA_self {attr : Str} {v : Value} {Q : St → Prop} (H : Here T names n c) (M : SM st.hp x dx vals) (l : Sto attrNames vals attr v vals') (h : Q (st.put dx (.attrs (look attrNames vals')))) :
  ∀ u w, z u = .ref x → z w = v → WP c (setAttr u attr w) st fun _ st' => Q st' := by
 obtain ⟨K, X, S⟩ := H.base.sm
 obtain ⟨cd, h1, h2⟩ := S.cd
 have e := l.look attr_nodup
 refine SETA (nms := attrNames) X M.x M.d S.sa S.po (S.tk _ l.mem) h1 h2 (fun y hy => ?_) (by decide) ?_
 ·have := congrFun e y
  rw [this] at hy
  by_cases q : y ∈ attrNames
  ·exact q
  ·rw [look_none q] at hy; exact absurd rfl hy
 ·rw [e]; exact h
noncomputable def NEXTA (x dx : Addr) (attr : Str) (v : Value) (st : St) (Q : St → Prop) : Prop := ∃ vals vals', SM st.hp x dx vals ∧ Sto attrNames vals attr v vals' ∧ Q (st.put dx (.attrs (look attrNames vals')))
theorem NEXTA_mk {attr : Str} {v : Value} {Q : St → Prop} (M : SM st.hp x dx vals) (l : Sto attrNames vals attr v vals') (h : Q (st.put dx (.attrs (look attrNames vals')))) : NEXTA x dx attr v st Q := ⟨vals, vals', M, l, h⟩
theorem NEXTA.set {attr : Str} {v : Value} {Q : St → Prop} (H : Here T names n c) (h : NEXTA x dx attr v st Q) : ∀ u w, z u = .ref x → z w = v → WP c (setAttr u attr w) st fun _ st' => Q st' := by
 obtain ⟨vals, vals', M, l, h⟩ := h
 exact SETA_self H M l h
theorem SM.put (M : SM st.hp x dx vals) : SM (st.put dx (.attrs (look attrNames vals'))).hp x dx vals' := by
 refine ⟨St.hp_there (fun q => ?_) M.x, St.put_self⟩
 have := M.d
 rw [← q, M.x] at this; cases this
theorem XS_selfA {sn attr : Str} {e : Expr} {p q pos : Pos} (H : Here T names n c) (hsw : swapsWith e (some (.Attribute (.Name sn p) attr q)) pos.line c.env = pure false)
  (h : EX c e st fun v st1 => ∃ lv, st1.loc = look names lv ∧ Loc names lv sn (.ref x) ∧ NEXTA x dx attr v st1 fun st2 => Ψ .next st2) : XS c (.Assign [.Attribute (.Name sn p) attr q] e pos) st Ψ := by
 refine XS_AssignAttr hsw (h.mono ?_)
 rintro v st1 ⟨lv, h1, h2, h3⟩
 exact EX_loc H h1 h2 (h3.set H)
theorem ASG_AttrR {o : Expr} {attr : Str} {p : Pos} {v : Value} {Q : St → Prop}
  (h : EX c o st fun ov st2 => ∀ u w, z u = ov → z w = v → WP c (setAttr u attr w) st2 fun _ st3 => Q st3) : ASG c (.Attribute o attr p) v st Q := by
 intro u hu
 refine .of fun s hs => ?_
 rw [arm_assign_Attribute]
 refine wpAny_bind (wpAny_holding (WP.thru h hs fun ov s2 st2 m2 h2 => wpAny_bind (wpAny_standAt (wpAny_bind (wpAny_holding (WP.thru (h2 ov u rfl hu) m2 fun _ s3 st3 m3 h3 => ?_))))))
 exact wpAny_release ⟨st3, m3, h3⟩
theorem ASG_self {sn attr : Str} {p q : Pos} {v : Value} {Q : St → Prop} (H : Here T names n c) (h1 : st.loc = look names lv) (h2 : Loc names lv sn (.ref x)) (h3 : NEXTA x dx attr v st Q) : ASG c (.Attribute (.Name sn p) attr q) v st Q :=
 ASG_AttrR (EX_loc H h1 h2 (h3.set H))
theorem KEEPER_fn {a : Addr} {T : Stmt} {D : Value} (F : FnAt c.h₀ a T D) : KEEPER c (.ref a) st := by
 obtain ⟨nm, q, doc, pm, an, code, ct, cl, dc, sl, h1, h2⟩ := F.at_
 exact KEEPER_fun h1 rfl
theorem KEEPER_cls {C : Addr} (B : Base c.w c.h₀) (hC : C = aMatch ∨ C = aSM) : KEEPER c (.ref C) st := fun u s hu hs => by
 rw [z_ref hu]
 obtain ⟨m, F, _⟩ := hs.fr
 obtain ⟨k, h1, h2⟩ := B.kc C hC
 exact ⟨k, h1.elim .inl fun h => .inr (.inl h), h2.keeps F.keep⟩
theorem EX_selfM0 {sn meth : Str} {g : Addr} {p q pos : Pos} {T' : Stmt} {D : Value} (H : Here T names n c) (e : st.loc = look names lv) (l0 : Loc names lv sn (.ref x)) (M : SM st.hp x dx vals) (m : Pr methTab meth g) (F : FnAt c.h₀ g T' D)
  (he : ∃ pl : Sem Bool, eval (.Call (.Attribute (.Name sn p) meth q) [] [] pos) c.env = (do
   let ov ← eval (.Name sn p) c.env
   standAt q.atName
   let (f, first) ← holding [ov] (getMethod ov meth pl)
   callWith pos f first (backTo pos (starEach [] c.env)) []))
  (h : CALL c (.ref g) [.ref x] st Φ) : EX c (.Call (.Attribute (.Name sn p) meth q) [] [] pos) st Φ := by
 obtain ⟨pl, he⟩ := he
 exact EX_Meth0 he (EX_loc H e l0 (METH_self H M m ⟨KEEPER_fn F, h⟩))
theorem EX_selfM {sn meth : Str} {g : Addr} {p q pos : Pos} {e : Expr} {rest : List Expr} {T' : Stmt} {D : Value} (H : Here T names n c) (e0 : st.loc = look names lv) (l0 : Loc names lv sn (.ref x)) (M : SM st.hp x dx vals) (m : Pr methTab meth g) (F : FnAt c.h₀ g T' D)
  (he : ∃ pl : Sem Bool, eval (.Call (.Attribute (.Name sn p) meth q) (e :: rest) [] pos) c.env = (do
   let ov ← eval (.Name sn p) c.env
   standAt q.atName
   let (f, first) ← holding [ov] (getMethod ov meth pl)
   callWith pos f first (backTo pos (starEach (e :: rest) c.env)) []))
  (he' : starEach (e :: rest) c.env = (false, eval e c.env) :: starEach rest c.env) (hp : (backTo pos (starEach rest c.env)).any (·.1) = false)
  (h : ARGS c pos (e :: rest) st fun vs st3 => CALL c (.ref g) (.ref x :: vs) st3 Φ) : EX c (.Call (.Attribute (.Name sn p) meth q) (e :: rest) [] pos) st Φ := by
 obtain ⟨pl, he⟩ := he
 refine EX_Meth he he' hp (EX_loc H e0 l0 (METH_self H M m (WP.mono h fun vs st3 k => ⟨KEEPER_fn F, k⟩)))
theorem XS_Ret0 {pos : Pos} (h : Ψ (.ret .none) st) : XS c (.Return none pos) st Ψ := .of fun s hs => wpAny_Return_none ⟨st, hs, h⟩
theorem XS_E {e : Expr} {pos : Pos} (H : Here T names n c) (hsw : swapsWith e none pos.line c.env = pure false) (h : EX c e st fun _ st' => Ψ .next st') : XS c (.Expr e pos) st Ψ := XS_Expr H.good.inter hsw h
end
end Mine
end
section
open PySem PySem.W PyProof.Rows PySem.Calls
open Mine
local macro_rules | `(tactic| walk_at "loc") => do
 let ns := #[`Mine.Mem.here, `Mine.Pr.here, `Mine.Sto.here].map Lean.mkIdent ++ (Array.range 20).map fun k => Lean.mkIdent (.str `Mine.Sto s!"s{k}")
 `(tactic| repeat (first | (refine' Loc.of ?hi ?he; (case hi => repeat (first | exact Idx.here | apply Idx.there)); (case he => k_dflt (exact rfl))) | (first $[| exact $ns]*) | refine Mem.there ?_ | apply Pr.there | apply Loc.there))
local macro_rules | `(tactic| walk_at "m1") => do
 let ns := #[`Mine.XBc1, `Mine.XBc2, `Mine.XBc3, `Mine.XBc4, `Mine.XBc5, `Mine.XBc6, `Mine.XBc7, `Mine.nextOr_next, `Mine.nextOr_ret, `Mine.nextOr_cont, `Mine.nextOr_brk, `Mine.LP_next, `Mine.LP_cont, `Mine.LP_brk, `Mine.LP_ret, `Mine.XB_nil, `Mine.D2_mk, `Mine.D3_mk, `Mine.EX_List, `Mine.nextJ_next, `Mine.nextJ_ret, `Mine.XS_Return, `Mine.XS_Break, `Mine.XS_Continue, `Mine.EX_int, `Mine.EX_str, `Mine.EX_none, `Mine.EX_Neg1, `Mine.EX_bool, `Mine.EX_BinOp, `Mine.TS_Not, `Mine.TS_And, `Mine.TS_Or, `Mine.AND_nil, `Mine.AND_cons', `Mine.OR_nil, `Mine.OR_cons', `Mine.TRU_bool, `Mine.TRU_int, `Mine.TRU_none, `Mine.BIN_add, `Mine.BIN_sub, `Mine.IOP_add, `Mine.CMP_lt, `Mine.CMP_gt, `Mine.CMP_ge, `Mine.CMP_eq, `Mine.CMP_ne, `Mine.CMP_isNone, `Mine.CMP_isNotNone, `Mine.ARGS_nil, `Mine.KEEPb, `Mine.KEEPt].map Lean.mkIdent
 let ms := #[`Mine.TS_Compare, `Mine.EX_Compare, `Mine.EX_Call0, `Mine.ARGS_cons].map Lean.mkIdent
 let ls := #[`Mine.EX_loc, `Mine.XS_AugA].map Lean.mkIdent
 `(tactic| first
 | with_reducible first $[| refine $ns ?_]*
 | first $[| ((with_reducible refine' $ls (by assumption) ?a ?b ?_); (case a => first | rfl | assumption); (case b => with_reducible walk_at "loc"))]*
 | first $[| ((with_reducible refine $ms ?a ?_); (case a => rfl))]*
 | ((with_reducible refine XS_A (by assumption) ?a ?b ?_); (case a => with_reducible walk_at "loc"); (case b => rfl))
 | ((with_reducible refine' NEXT_mk ?a ?b ?_); (case a => first | rfl | assumption); (case b => with_reducible walk_at "loc"))
 | ((with_reducible refine XS_Disp2 (by assumption) ?a ?b ?c ?d ?e ?_); (case a => with_reducible walk_at "loc"); (case b => with_reducible walk_at "loc"); (case c => rfl); (case d => kernel_rfl); (case e => exact Nat.le_of_ble_eq_true rfl))
 | ((with_reducible refine XS_Disp3 (by assumption) ?a ?b ?c ?d ?e ?f ?_); (case a => with_reducible walk_at "loc"); (case b => with_reducible walk_at "loc"); (case c => with_reducible walk_at "loc"); (case d => rfl); (case e => kernel_rfl); (case f => exact Nat.le_of_ble_eq_true rfl))
 | ((with_reducible refine EX_Tuple ?a ?_); (case a => exact Nat.le_of_ble_eq_true rfl))
 | ((with_reducible refine' EX_glob (by assumption) ?a ?b ?c ?d ?_); (case a => with_reducible walk_at "loc"); (case b => kernel_rfl); (case c => kernel_rfl); (case d => rfl))
 | ((with_reducible refine EX_Call ?a ?b ?c ?_); (case a => rfl); (case b => rfl); (case c => rfl)))
local macro_rules | `(tactic| walk_at "keeps") => `(tactic| first | assumption | exact Keeps.refl _ | (refine Keeps.put ?_ (by assumption); walk_at "keeps"))
local macro_rules | `(tactic| walk_at "sm") => `(tactic| first | assumption | exact SM.keeps (by assumption) (by walk_at "keeps"))
local macro_rules | `(tactic| walk_at "self") => `(tactic| ((with_reducible refine' EX_self (by assumption) ?a ?b ?c ?d ?e ?_); (case a => first | rfl | assumption); (case b => with_reducible walk_at "loc"); (case c => walk_at "sm"); (case d => with_reducible walk_at "loc"); (case e => rfl)))
section
local macro_rules | `(tactic| walk_at "m1") => `(tactic| with_reducible refine XBc8 ?_)
section
open PySem PySem.W PyProof.Rows PySem.Calls
namespace Mine
section
variable {c : Cx} {st : St} {Φ : Value → St → Prop} {n : Nat}
theorem call_reach {one two junk : List Nat} (G : Good c (n + 1)) (Bs : Base c.w c.h₀) (z1 : one.length ≤ sizeLine) (z2 : two.length ≤ sizeLine) (hΦ : Φ (iv (reach one two junk)) st) : CALL c (.ref aReach) [sv one, sv two, sv junk] st Φ := by
 refine CALL_fn0 (vals := [some (sv one), some (sv two), some (sv junk), none]) G Bs Bs.fReach tab_reach (fun nm q doc pm an code ct us hu => ?_) (by simp) rfl fun c' H => ?_
 ·obtain ⟨u1, u2, u3, rfl⟩ := len3 hu
  rfl
 ·refine XB_cons ?_
  repeat walk_at "m1"
  refine XB_cut (fun st' => st' = ⟨look nReach [some (sv one), some (sv two), some (sv junk), some (iv (run1 (fun x => !junk.contains x) one two : Nat))], st.hp⟩) ?_ ?_
  ·refine ABS_cut fun K0 hK0 => ?_
   refine XS_While' (fun k st' => ∃ i : Nat, k = one.length - i ∧ i ≤ one.length ∧ i ≤ two.length ∧ st' = ⟨look nReach [some (sv one), some (sv two), some (sv junk), some (iv i)], st.hp⟩ ∧ run1 (fun x => !junk.contains x) one two = i + run1 (fun x => !junk.contains x) (one.drop i) (two.drop i)) (one.length - 0) ⟨0, rfl, Nat.zero_le _, Nat.zero_le _, rfl, by simp⟩ ?_
   rintro k st0 hst0
   refine ABS_ts fun K hK => ?_
   obtain ⟨i, rfl, hi1, hi2, rfl, hr⟩ := hst0
   have stop : (∀ (h1 : i < one.length) (h2 : i < two.length), one[i] = two[i] → (!junk.contains one[i]) = false) → (⟨look nReach [some (sv one), some (sv two), some (sv junk), some (iv i)], st.hp⟩ : St) = ⟨look nReach [some (sv one), some (sv two), some (sv junk), some (iv (run1 (fun x => !junk.contains x) one two : Nat))], st.hp⟩ := fun h => by
    rw [run1_stop h, Nat.add_zero] at hr
    rw [hr]
   repeat walk_at "m1"
   refine CALL_lenL' z1 ?_
   repeat walk_at "m1"
   refine ⟨fun c1 => ?_, fun c1 => ⟨nofun, fun _ => hK0 _ <| stop fun h1 _ _ => by simp at c1; lia⟩⟩
   have h1 : i < one.length := by simpa using c1
   repeat walk_at "m1"
   refine CALL_lenL' z2 ?_
   repeat walk_at "m1"
   refine ⟨fun c2 => ?_, fun c2 => ⟨nofun, fun _ => hK0 _ <| stop fun _ h1 _ => by simp at c2; lia⟩⟩
   have h2 : i < two.length := by simpa using c2
   repeat walk_at "m1"
   refine EX_SubS (fun o i => ⟨_, rfl⟩) ?_
   repeat walk_at "m1"
   refine subS_mk one i rfl h1 z1 ?_
   refine EX_SubS (fun o i => ⟨_, rfl⟩) ?_
   repeat walk_at "m1"
   refine subS_mk two i rfl h2 z2 ?_
   refine CMP_eq1 ?_
   repeat walk_at "m1"
   refine ⟨fun c3 => ?_, fun c3 => ⟨nofun, fun _ => hK0 _ <| stop fun _ _ h => by simp [h] at c3⟩⟩
   have h3 : one[i] = two[i] := by simpa using c3
   repeat walk_at "m1"
   refine EX_SubS (fun o i => ⟨_, rfl⟩) ?_
   repeat walk_at "m1"
   refine subS_mk one i rfl h1 z1 ?_
   repeat walk_at "m1"
   refine CMP_notIn1 ?_
   repeat walk_at "m1"
   refine ⟨fun c4 => ?_, fun c4 => ⟨nofun, fun _ => hK0 _ <| stop fun _ _ h => by simpa using c4⟩⟩
   repeat walk_at "m1"
   refine ⟨fun _ => ?_, nofun⟩
   repeat walk_at "m1"
   refine hK _ _ ?_ ⟨i + 1, rfl, by lia, by lia, rfl, ?_⟩
   ·lia
   ·rw [hr, run1_step h1 h2 h3 (by simpa using c4)]; lia
  ·rintro _ rfl
   repeat walk_at "m1"
   obtain ⟨b1, b2⟩ := run1_le (fun x => !junk.contains x) one two
   have e0 : reach one two junk = run1 (fun x => !junk.contains x) one two + run1 (fun x => junk.contains x) (one.drop (run1 (fun x => !junk.contains x) one two)) (two.drop (run1 (fun x => !junk.contains x) one two)) := rfl
   generalize run1 (fun x => !junk.contains x) one two = m at b1 b2 e0 ⊢
   refine XB_cut (fun st' => st' = ⟨look nReach [some (sv one), some (sv two), some (sv junk), some (iv (reach one two junk : Nat))], st.hp⟩) ?_ ?_
   ·refine ABS_cut fun K0 hK0 => ?_
    refine XS_While' (fun k st' => ∃ i : Nat, k = one.length - i ∧ i ≤ one.length ∧ i ≤ two.length ∧ st' = ⟨look nReach [some (sv one), some (sv two), some (sv junk), some (iv i)], st.hp⟩ ∧ reach one two junk = i + run1 (fun x => junk.contains x) (one.drop i) (two.drop i)) (one.length - m) ⟨m, rfl, b1, b2, rfl, e0⟩ ?_
    rintro k st0 hst0
    refine ABS_ts fun K hK => ?_
    obtain ⟨i, rfl, hi1, hi2, rfl, hr⟩ := hst0
    have stop : (∀ (h1 : i < one.length) (h2 : i < two.length), one[i] = two[i] → junk.contains one[i] = false) → (⟨look nReach [some (sv one), some (sv two), some (sv junk), some (iv i)], st.hp⟩ : St) = ⟨look nReach [some (sv one), some (sv two), some (sv junk), some (iv (reach one two junk : Nat))], st.hp⟩ := fun h => by
     rw [run1_stop h, Nat.add_zero] at hr
     rw [hr]
    repeat walk_at "m1"
    refine CALL_lenL' z1 ?_
    repeat walk_at "m1"
    refine ⟨fun c1 => ?_, fun c1 => ⟨nofun, fun _ => hK0 _ <| stop fun h1 _ _ => by simp at c1; lia⟩⟩
    have h1 : i < one.length := by simpa using c1
    repeat walk_at "m1"
    refine CALL_lenL' z2 ?_
    repeat walk_at "m1"
    refine ⟨fun c2 => ?_, fun c2 => ⟨nofun, fun _ => hK0 _ <| stop fun _ h1 _ => by simp at c2; lia⟩⟩
    have h2 : i < two.length := by simpa using c2
    repeat walk_at "m1"
    refine EX_SubS (fun o i => ⟨_, rfl⟩) ?_
    repeat walk_at "m1"
    refine subS_mk one i rfl h1 z1 ?_
    refine EX_SubS (fun o i => ⟨_, rfl⟩) ?_
    repeat walk_at "m1"
    refine subS_mk two i rfl h2 z2 ?_
    refine CMP_eq1 ?_
    repeat walk_at "m1"
    refine ⟨fun c3 => ?_, fun c3 => ⟨nofun, fun _ => hK0 _ <| stop fun _ _ h => by simp [h] at c3⟩⟩
    have h3 : one[i] = two[i] := by simpa using c3
    repeat walk_at "m1"
    refine EX_SubS (fun o i => ⟨_, rfl⟩) ?_
    repeat walk_at "m1"
    refine subS_mk one i rfl h1 z1 ?_
    repeat walk_at "m1"
    refine CMP_in1 ?_
    repeat walk_at "m1"
    refine ⟨fun c4 => ?_, fun c4 => ⟨nofun, fun _ => hK0 _ <| stop fun _ _ h => by simpa using c4⟩⟩
    repeat walk_at "m1"
    refine ⟨fun _ => ?_, nofun⟩
    repeat walk_at "m1"
    refine hK _ _ ?_ ⟨i + 1, rfl, by lia, by lia, rfl, ?_⟩
    ·lia
    ·rw [hr, run1_step h1 h2 h3 (by simpa using c4)]; lia
   ·rintro _ rfl
    repeat walk_at "m1"
    exact hΦ
end
end Mine
end
section
open PySem PySem.W PyProof.Rows PySem.Calls
namespace Mine
noncomputable def wordOf : Nat → Str
 | 0 => "replace"
 | 1 => "delete"
 | 2 => "insert"
 | _ => "equal"
noncomputable def enc (x : Code5) : List Value := [.str (wordOf x.1) 0, iv x.2.1, iv x.2.2.1, iv x.2.2.2.1, iv x.2.2.2.2]
noncomputable def encP (x : Nat × Nat) : List Value := [iv x.1, iv x.2]
theorem word_eq : ∀ k, k ≤ 3 → (wordOf k == ("equal" : Str)) = decide (k = 3) := by
 intro k hk
 have e0 : (wordOf 0 == ("equal" : Str)) = false := by kernel_rfl
 have e1 : (wordOf 1 == ("equal" : Str)) = false := by kernel_rfl
 have e2 : (wordOf 2 == ("equal" : Str)) = false := by kernel_rfl
 have e3 : (wordOf 3 == ("equal" : Str)) = true := by kernel_rfl
 match k, hk with
 | 0, _ => exact e0
 | 1, _ => exact e1
 | 2, _ => exact e2
 | 3, _ => exact e3
theorem drop_of_get {α : Type} {l : List α} {i : Nat} {x : α} (h : l[i]? = some x) : l.drop i = x :: l.drop (i + 1) := by
 obtain ⟨h1, h2⟩ := List.getElem?_eq_some_iff.mp h
 rw [List.drop_eq_getElem_cons h1, h2]
theorem Tups.turn {h : Addr → Option AObj} {as : List Addr} {ws : List (List Value)} (x : Tups h as ws) {i : Nat} {v : Value} (e : (as.map Value.ref)[i]? = some v) : ∃ T w, v = .ref T ∧ ws[i]? = some w ∧ h T = some (.tup w) := by
 rw [List.getElem?_map] at e
 obtain ⟨T, h1, h2⟩ := Option.map_eq_some_iff.mp e
 obtain ⟨w, h3, h4⟩ := x.get h1
 exact ⟨T, w, h2.symm, h3, h4⟩
theorem cast_lt {a b : Nat} : decide ((a : Int) < (b : Int)) = decide (a < b) := by simp
noncomputable abbrev nLCodes : List Str := ["pairs", "many", "more", "codes", "i", "j", "p", "q", "word"]
set_option maxHeartbeats 1000000 in
theorem tab_lcodes : Tab (topAt 11) nLCodes where
 nodup := by decide +kernel
 loc := by decide +kernel
 dbg := by decide +kernel
 cell := by decide +kernel
 co := by rfl
 gen := by rfl
 kind := by rfl
section
variable {c : Cx} {st : St} {Φ : Value → St → Prop} {n : Nat}
theorem head3 {d : List Code5} (h : d.head?.map (·.1) = some 3) : ∃ xa xb xc xd d', d = (3, xa, xb, xc, xd) :: d' := by
 cases d with
 | nil => cases h
 | cons x r =>
  obtain ⟨k, a, b, c, e⟩ := x
  obtain rfl : k = 3 := by simpa using h
  exact ⟨a, b, c, e, r, rfl⟩
set_option maxHeartbeats 2000000 in
theorem call_lcodes {l : Addr} {ps : List (Nat × Nat)} {many more : Nat} (G : Good c (n + 1)) (Bs : Base c.w c.h₀) (hl : LT st.hp l (ps.map encP)) (hsz : ps.length ≤ 1000)
  (hΦ : ∀ (r : Addr) (hp' : Addr → Option AObj), st.hp r = none → Keeps st.hp hp' → LT hp' r ((lawCodes ps many more).map enc) → Φ (.ref r) ⟨st.loc, hp'⟩) : CALL c (.ref aLCodes) [.ref l, iv many, iv more] st Φ := by
 refine CALL_fn0 (vals := [some (.ref l), some (iv many), some (iv more), none, none, none, none, none, none]) G Bs Bs.fLCodes tab_lcodes (fun nm q doc pm an code ct us hu => ?_) (by simp) rfl fun c' H => ?_
 ·obtain ⟨u1, u2, u3, rfl⟩ := len3 hu
  rfl
 ·obtain ⟨as, hl1, hl2⟩ := hl
  refine XB_cons ?_
  repeat walk_at "m1"
  refine ⟨Nat.zero_le _, fun r hr => ?_⟩
  repeat walk_at "m1"
  have hne : l ≠ r := St.apart hr hl1
  refine XB_cut (fun st' => Ex5 fun o1 o2 o3 o4 o5 => st'.loc = look nLCodes [some (.ref l), some (iv many), some (iv more), some (.ref r), o1, o2, o3, o4, o5] ∧ Keeps st.hp st'.hp ∧ LT st'.hp r ((lawCodes ps many more).map enc)) ?_ ?_
  ·refine ABS_cut fun K1 hK1 => ?_
   refine XS_ForList H.hand (fun _ => rfl) ?_
   repeat walk_at "m1"
   refine ⟨Nat.le_of_ble_eq_true rfl, fun t ht => ?_⟩
   repeat walk_at "m1"
   refine ⟨Nat.le_of_ble_eq_true rfl, fun u hu => ?_⟩
   have htu : t ≠ u := St.apart hu St.put_self
   have htr : r ≠ t := St.apart ht St.put_self
   have hur : r ≠ u := St.apart hu (St.hp_there htr St.put_self)
   have hlt : l ≠ t := St.apart ht (St.hp_there hne hl1)
   have hlu : l ≠ u := St.apart hu (St.hp_there hlt (St.hp_there hne hl1))
   refine BIN_addL (vs := as.map .ref) (ws := [.ref t]) (St.hp_there hlu (St.hp_there hlt (St.hp_there hne hl1))) St.put_self (by rw [List.length_map, hl2.length, List.length_map, sizeLine_eq]; simp; lia) fun a ha => ?_
   have har : r ≠ a := St.apart ha (St.hp_there hur (St.hp_there htr St.put_self))
   have hat : t ≠ a := St.apart ha (St.hp_there htu St.put_self)
   have ha0 : st.hp a = none := ((((Keeps.refl _).put hr).put ht).put hu).none ha
   generalize hS : St.put _ a (.list (as.map .ref ++ [.ref t])) = S
   have kp : Keeps st.hp S.hp := by rw [← hS]; exact ((((Keeps.refl _).put hr).put ht).put hu).put ha
   have k1 : S.hp a = some (.list (as.map .ref ++ [.ref t])) := by rw [← hS]; exact St.put_self
   have k2 : S.hp r = some (.list []) := by rw [← hS]; exact St.hp_there har (St.hp_there hur (St.hp_there htr St.put_self))
   have k3 : S.hp t = some (.tup (encP (many, more))) := by rw [← hS]; exact St.hp_there hat (St.hp_there htu St.put_self)
   have hSl : S.loc = look nLCodes [some (.ref l), some (iv many), some (iv more), some (.ref r), some (iv 0), some (iv 0), none, none, none] := by rw [← hS]; rfl
   clear hS
   have hT : Tups S.hp (as ++ [t]) ((ps ++ [(many, more)]).map encP) := by
    rw [List.map_append]
    exact (hl2.keeps fun b v e => kp _ _ e).append (.cons k3 .nil)
   rw [show as.map Value.ref ++ [.ref t] = (as ++ [t]).map Value.ref by simp] at k1
   refine list_mk a ((as ++ [t]).map .ref) (fun i st' => ∃ (cs : List Code5) (i1 j1 : Nat), Ex3 fun o3 o4 o5 => st'.loc = look nLCodes [some (.ref l), some (iv many), some (iv more), some (.ref r), some (iv i1), some (iv j1), o3, o4, o5] ∧
    (∀ b o, b ≠ a ∧ b ≠ r → S.hp b = some o → st'.hp b = some o) ∧ LT st'.hp r (cs.reverse.map enc) ∧ (∀ x ∈ cs, x.1 ≤ 3) ∧ cs.length ≤ 2 * i ∧ lawGo many [] 0 0 (ps ++ [(many, more)]) = lawGo many cs i1 j1 ((ps ++ [(many, more)]).drop i)) rfl k1 ?_ ?_ ?_
   ·refine (exI3 [] 0 0 (Ex3.mk none none none ⟨hSl, fun b o h1 e => St.hp_del e h1.1, ⟨[], St.hp_del k2 har, .nil⟩, nofun, Nat.zero_le _, rfl⟩))
   ·intro i v c1 st' hv X hJ
    refine ABS_asg fun K2 hK2 => ?_
    revert hJ; refine ex3i fun cs i1 j1 hJ => ?_
    refine Ex3.elim hJ fun o3 o4 o5 hJ => ?_
    refine an6 hJ fun hloc hk hcs hw hlen hgo => ?_
    clear hJ
    have H1 := H.ext X
    clear H
    obtain ⟨T, w, rfl, hw1, hw2⟩ := hT.turn hv
    obtain ⟨⟨p, q0⟩, hpq, rfl⟩ : ∃ x, (ps ++ [(many, more)])[i]? = some x ∧ encP x = w := by
     rw [List.getElem?_map] at hw1
     exact Option.map_eq_some_iff.mp hw1
    have hil : i < ps.length + 1 := by
     have := (List.getElem?_eq_some_iff.mp hpq).1
     simpa using this
    replace hw2 : S.hp T = some (.tup [iv p, iv q0]) := hw2
    have hTa : T ≠ a := ne_hp hw2 k1 rfl
    have hTr : T ≠ r := ne_hp hw2 k2 rfl
    refine ASG_Tuple2 H1.hand rfl rfl rfl (.inl (hk T _ ⟨hTa, hTr⟩ hw2)) ?_
    refine ASG_loc H1 hloc (by walk_at "loc") ?_
    refine ASG_loc H1 rfl (by walk_at "loc") ?_
    have hloc' : (⟨look nLCodes [some (.ref l), some (iv many), some (iv more), some (.ref r), some (iv i1), some (iv j1), some (iv p), some (iv q0), o5], st'.hp⟩ : St).loc = look nLCodes [some (.ref l), some (iv many), some (iv more), some (.ref r), some (iv i1), some (iv j1), some (iv p), some (iv q0), o5] := rfl
    refine XB_cut (fun st2 => ∃ o5, st2.loc = look nLCodes [some (.ref l), some (iv many), some (iv more), some (.ref r), some (iv i1), some (iv j1), some (iv p), some (iv q0), o5] ∧
     (∀ b o, b ≠ a ∧ b ≠ r → S.hp b = some o → st2.hp b = some o) ∧ LT st2.hp r ((lawGap i1 j1 p q0 cs).reverse.map enc)) ?_ ?_
    ·refine ABS_cut fun K3 hK3 => ?_
     refine XS_If' (TS_val (i1 < p ∨ j1 < q0) ?_ ⟨fun hc => ?_, fun hc => ?_⟩)
     ·repeat walk_at "m1"
      refine ⟨fun q => ⟨(decide_eq_true (by have := of_decide_eq_true q; lia)).symm, rfl⟩, fun q1 => ?_⟩
      repeat walk_at "m1"
      refine ⟨fun q => ⟨(decide_eq_true (by have := of_decide_eq_true q; lia)).symm, rfl⟩, fun q2 => ?_⟩
      repeat walk_at "m1"
      exact ⟨(decide_eq_false (by have := of_decide_eq_false q1; have := of_decide_eq_false q2; lia)).symm, rfl⟩
     ·replace hc := of_decide_eq_true hc
      repeat walk_at "m1"
      refine EX_val (.str (wordOf (if i1 = p then 2 else if j1 = q0 then 1 else 0)) 0) ?_ ?_
      ·refine EX_IfExp' ?_
       repeat walk_at "m1"
       refine ⟨fun q => ?_, fun q => ?_⟩
       ·replace q : i1 = p := by have := eq_of_beq q; lia
        repeat walk_at "m1"
        exact ⟨by rw [if_pos q]; rfl, rfl⟩
       ·replace q : ¬ i1 = p := by have := ne_of_beq_false q; lia
        refine EX_IfExp' ?_
        repeat walk_at "m1"
        refine ⟨fun q => ?_, fun q => ?_⟩
        ·replace q : j1 = q0 := by have := eq_of_beq q; lia
         repeat walk_at "m1"
         exact ⟨by rw [if_neg ‹_›, if_pos q]; rfl, rfl⟩
        ·replace q : ¬ j1 = q0 := by have := ne_of_beq_false q; lia
         repeat walk_at "m1"
         exact ⟨by rw [if_neg ‹_›, if_neg q]; rfl, rfl⟩
      ·repeat walk_at "m1"
       refine XS_append H1.good.inter rfl rfl ⟨_, rfl⟩ ?_
       repeat walk_at "m1"
       obtain ⟨cas, hca, hct⟩ := hcs
       refine app_mk1 hca ?_
       repeat walk_at "m1"
       refine ⟨Nat.le_of_ble_eq_true rfl, fun u hu => ?_⟩
       refine app_mk2 (cas.map .ref) (St.hp_there (St.apart hu hca) hca) (by rw [List.length_map, hct.length, List.length_map, List.length_reverse, sizeLine_eq]; lia) ?_
       repeat walk_at "m1"
       refine hK3 _ ⟨_, rfl, keep_upd (keep_put hk hu) (fun q => q.2 rfl), ?_⟩
       have := LT.push (st := st') (w := enc (if i1 = p then 2 else if j1 = q0 then 1 else 0, i1, p, j1, q0)) hca hct hu
       unfold lawGap
       rw [if_pos hc, List.reverse_cons, List.map_append]
       exact this
     ·replace hc := of_decide_eq_false hc
      repeat walk_at "m1"
      refine hK3 _ ⟨_, hloc', hk, ?_⟩
      unfold lawGap
      rw [if_neg hc]
      exact hcs
    ·have hd1 : ∀ x ∈ lawGap i1 j1 p q0 cs, x.1 ≤ 3 := by
      unfold lawGap
      split
      ·intro x hx
       rcases List.mem_cons.mp hx with rfl | hx
       ·dsimp only; split
        ·lia
        ·split <;> lia
       ·exact hw x hx
      ·exact hw
     have hd2 : (lawGap i1 j1 p q0 cs).length ≤ 2 * i + 1 := by
      unfold lawGap
      split
      ·simp; lia
      ·lia
     generalize hd : lawGap i1 j1 p q0 cs = d at hd1 hd2 ⊢
     intro st2 hZ
     obtain ⟨o5', hZ⟩ := hZ
     refine an3 hZ fun hloc2 hk2 hTl => ?_
     clear hZ
     obtain ⟨cas, hca, hct⟩ := hTl
     refine XB_cut (fun st3 => st3.loc = look nLCodes [some (.ref l), some (iv many), some (iv more), some (.ref r), some (iv i1), some (iv j1), some (iv p), some (iv q0), o5'] ∧
      (∀ b o, b ≠ a ∧ b ≠ r → S.hp b = some o → st3.hp b = some o) ∧ LT st3.hp r ((lawEq many p q0 d).reverse.map enc)) ?_ ?_
     ·refine ABS_cut fun K4 hK4 => ?_
      refine XS_If' ?_
      repeat walk_at "m1"
      refine ⟨fun hm => ?_, fun hm => ?_⟩
      ·replace hm : p < many := by have := of_decide_eq_true hm; lia
       refine XB_cons ?_
       refine XS_If' (TS_val (d.head?.map (·.1) = some 3) ?_ ⟨fun h3 => ?_, fun h3 => ?_⟩)
       ·repeat walk_at "m1"
        refine TS_name H1 hloc2 (by walk_at "loc") ?_
        refine TRU_list hca (by rw [List.length_map, hct.length, List.length_map, List.length_reverse, sizeLine_eq]; lia) ?_
        cases d with
        | nil =>
         cases hct
         exact ⟨nofun, fun _ => ⟨rfl, rfl⟩⟩
        | cons x d' =>
         rw [List.reverse_cons, List.map_append] at hct
         obtain ⟨cas', u, rfl, hct1, hct2⟩ := hct.snoc
         refine ⟨fun _ => ?_, fun q => by simp at q⟩
         have hcl : (cas'.map Value.ref).length < sizeLine := by
          have := hct1.length
          simp only [List.length_map, List.length_reverse, List.length_cons] at this hd2 ⊢
          rw [sizeLine_eq]; lia
         repeat walk_at "m1"
         refine EX_SubT (fun o i => ⟨_, rfl⟩) (EX_SubLast (fun o i => ⟨_, rfl⟩) ?_)
         repeat walk_at "m1"
         refine last_mk (cas'.map .ref) (.ref u) (by rw [hca, List.map_append]; rfl) rfl hcl ?_
         repeat walk_at "m1"
         refine subT_mk 0 hct2 rfl rfl (by rw [sizeLine_eq]; exact Nat.le_of_ble_eq_true rfl) ?_
         repeat walk_at "m1"
         refine CMP_eqS ?_
         rw [word_eq _ (hd1 x (.head _))]
         repeat walk_at "m1"
         have e3 : (Option.map (fun x => x.fst) (x :: d').head? = some 3) = (x.1 = 3) := by simp
         refine ⟨fun q => ?_, fun q => ⟨?_, rfl⟩⟩
         ·repeat walk_at "m1"
          exact ⟨(decide_eq_true (e3 ▸ of_decide_eq_true q)).symm, rfl⟩
         ·exact (decide_eq_false (e3 ▸ of_decide_eq_false q)).symm
       ·replace h3 := of_decide_eq_true h3
        obtain ⟨xa, xb, xc, xd, d', rfl⟩ := head3 h3
        rw [List.reverse_cons, List.map_append] at hct
        obtain ⟨cas', u, rfl, hct1, hct2⟩ := hct.snoc
        have hcl : (cas'.map Value.ref).length < sizeLine := by
         have := hct1.length
         simp only [List.length_map, List.length_reverse, List.length_cons] at this hd2 ⊢
         rw [sizeLine_eq]; lia
        have hca' : st2.hp r = some (.list (cas'.map .ref ++ [.ref u])) := by rw [hca, List.map_append]; rfl
        replace hct2 : st2.hp u = some (.tup [.str "equal" 0, iv xa, iv xb, iv xc, iv xd]) := hct2
        repeat walk_at "m1"
        refine XS_AssignSub rfl ?_
        repeat walk_at "m1"
        refine EX_SubT (fun o i => ⟨_, rfl⟩) (EX_SubLast (fun o i => ⟨_, rfl⟩) ?_)
        repeat walk_at "m1"
        refine last_mk (cas'.map .ref) (.ref u) hca' rfl hcl ?_
        repeat walk_at "m1"
        refine subT_mk 1 hct2 rfl rfl (by rw [sizeLine_eq]; exact Nat.le_of_ble_eq_true rfl) ?_
        repeat walk_at "m1"
        refine EX_SubT (fun o i => ⟨_, rfl⟩) (EX_SubLast (fun o i => ⟨_, rfl⟩) ?_)
        repeat walk_at "m1"
        refine last_mk (cas'.map .ref) (.ref u) hca' rfl hcl ?_
        repeat walk_at "m1"
        refine subT_mk 3 hct2 rfl rfl (by rw [sizeLine_eq]; exact Nat.le_of_ble_eq_true rfl) ?_
        repeat walk_at "m1"
        refine ⟨Nat.le_of_ble_eq_true rfl, fun v hv => ?_⟩
        repeat walk_at "m1"
        refine SETI_last (St.hp_there (St.apart hv hca') hca') hcl ?_
        repeat walk_at "m1"
        refine hK4 _ ⟨hloc2, keep_upd (keep_put hk2 hv) (fun q => q.2 rfl), ?_⟩
        have e : lawEq many p q0 ((3, xa, xb, xc, xd) :: d') = (3, xa, p + 1, xc, q0 + 1) :: d' := by
         unfold lawEq
         rw [if_pos hm]
         rfl
        rw [e, List.reverse_cons, List.map_append]
        exact LT.push' hca' hct1 hv
       ·replace h3 := of_decide_eq_false h3
        repeat walk_at "m1"
        refine XS_append H1.good.inter rfl rfl ⟨_, rfl⟩ ?_
        repeat walk_at "m1"
        refine app_mk1 hca ?_
        repeat walk_at "m1"
        refine ⟨Nat.le_of_ble_eq_true rfl, fun u hu => ?_⟩
        refine app_mk2 (cas.map .ref) (St.hp_there (St.apart hu hca) hca) (by rw [List.length_map, hct.length, List.length_map, List.length_reverse, sizeLine_eq]; lia) ?_
        repeat walk_at "m1"
        refine hK4 _ ⟨hloc2, keep_upd (keep_put hk2 hu) (fun q => q.2 rfl), ?_⟩
        have e : lawEq many p q0 d = (3, p, p + 1, q0, q0 + 1) :: d := by
         unfold lawEq
         rw [if_pos hm]
         split
         ·exact absurd rfl h3
         ·rfl
        rw [e, List.reverse_cons, List.map_append]
        exact LT.push (w := enc (3, p, p + 1, q0, q0 + 1)) hca hct hu
      ·replace hm : ¬ p < many := by have := of_decide_eq_false hm; lia
       repeat walk_at "m1"
       refine hK4 _ ⟨hloc2, hk2, ?_⟩
       unfold lawEq
       rw [if_neg hm]
       exact ⟨cas, hca, hct⟩
     ·intro st3 hZ
      refine an3 hZ fun hloc3 hk3 hc3 => ?_
      clear hZ
      repeat walk_at "m1"
      refine hK2 _ (exI3 (lawEq many p q0 d) (p + 1) (q0 + 1) (Ex3.mk _ _ _ ⟨rfl, hk3, hc3, ?_, ?_, ?_⟩))
      ·intro x hx
       unfold lawEq at hx
       split at hx
       ·split at hx
        ·rcases List.mem_cons.mp hx with rfl | hx
         ·exact Nat.le_refl _
         ·exact hd1 x (.tail _ hx)
        ·rcases List.mem_cons.mp hx with rfl | hx
         ·exact Nat.le_refl _
         ·exact hd1 x hx
       ·exact hd1 x hx
      ·unfold lawEq
       split
       ·split
        ·simp only [List.length_cons] at hd2 ⊢; lia
        ·simp only [List.length_cons]; lia
       ·lia
      ·rw [hgo, drop_of_get hpq, lawGo, hd]
   ·intro st' hJ hna
    refine hK1 _ ?_
    revert hJ; refine ex3i fun cs i1 j1 hJ => ?_
    refine Ex3.elim hJ fun o3 o4 o5 hJ => ?_
    refine an6 hJ fun hloc hk hcs hw hlen hgo => ?_
    clear hJ
    have e : lawCodes ps many more = cs.reverse := by
     unfold lawCodes
     rw [hgo, List.drop_eq_nil_of_le (by rw [List.length_map, hT.length]; simp), lawGo]
    rw [e]
    refine Ex5.mk _ _ _ _ _ ⟨hloc, fun b o hb => ?_, ?_⟩
    ·have h1 : b ≠ a := St.apart ha0 hb
     have h2 : b ≠ r := St.apart hr hb
     exact St.hp_there h1 (hk b o ⟨h1, h2⟩ (kp b o hb))
    ·obtain ⟨cas, h1, h2⟩ := hcs
     refine ⟨cas, St.hp_there har h1, h2.keeps fun b v e => ?_⟩
     exact St.hp_there (St.apart hna e) e
  ·intro st' hJ
   refine Ex5.elim hJ fun o1 o2 o3 o4 o5 hJ => ?_
   refine an3 hJ fun hloc hk hr' => ?_
   clear hJ
   repeat walk_at "m1"
   exact hΦ r st'.hp hr hk hr'
end
end Mine
end
section
open PySem PySem.W PyProof.Rows PySem.Calls
namespace Mine
noncomputable def MatAt (h : Heap) (a : Addr) (items : Array Value) : Prop := ∃ dx n, h.get? a = some ⟨.ref aMatch, some dx, .seq items n, #[]⟩
theorem MatAt.at' {h h' : Heap} {a : Addr} {items : Array Value} (x : MatAt h a items) (k : ∀ o, h.get? a = some o → h'.get? a = some o) : MatAt h' a items := by
 obtain ⟨dx, n, e⟩ := x
 exact ⟨dx, n, k _ e⟩
section
variable {w : World} {A : Around} {E : Value → Shared → Prop} {s : Shared} {t : Addr} {items : Array Value}
theorem MatAt.cls (x : MatAt s.heap t items) : Looks (model PW w) s.heap (typeOf (.ref t)) (.ref aMatch) := by
 obtain ⟨dx, n, e⟩ := x
 exact (Looks.ld e).andThen .now
theorem call_tup {id n : String} {rest : List Value} {B : Builtin} {Q : Value → Shared → Prop} (L : ML w s.heap) (x : MatAt s.heap t items) (hk : builtinKind id = some .slot) (hs : splitId id = some ("tuple", n)) (ha : argsOk id ⟨.ref t :: rest, []⟩) (hp : plainId id = true) (he : entryFor table id = some B)
  (h : wpAny (model PW w) A.in1 (B ⟨.ref t :: rest, []⟩) (fun fin s' => ∃ v, fin = .done (.ret v) ∧ Q v s') E s) : wpAny (model PW w) A (call (.builtin id) (.ref t :: rest)) Q E s := by
 have hi : Looks (model PW w) s.heap (isInstance (.ref t) (.type "tuple")) true := x.cls.andThen L.sub
 refine wpAny_call ?_
 refine codeAny_call_builtin hp he (@check_slot (model PW w) _ _ _ id "tuple" n (.ref t) rest [] _ hk hs hi ha ?_)
 refine wpAny_mono h ?_ fun _ _ e => e
 rintro fin s' ⟨v, rfl, hQ⟩
 exact hQ
theorem kind_ti : builtinKind "tuple.__iter__" = some .slot := by decide +kernel
theorem split_ti : splitId "tuple.__iter__" = some ("tuple", "__iter__") := by decide +kernel
theorem mat_iter {Q : Value → Shared → Prop} (L : ML w s.heap) (x : MatAt s.heap t items)
  (hQ : Q (.ref s.heap.objs.size) { s with heap := s.heap.push { cls := .type "tuple_iterator", data := .fields #[.ref t, .int 0 0] } }) :
  wpAny (model PW w) A (pyIter (.ref t)) Q E s := by
 unfold pyIter
 have tx := x.cls (w := w)
 have li : Looks (model PW w) s.heap (specialOf (.ref t) "__iter__") (some (.builtin "tuple.__iter__")) := tx.andThen L.iter
 refine wpAny_bind (li.here ?_)
 show wpAny _ A (callSpecialIfBoundUnlessNone? _ "__iter__" _ >>= _) Q E s
 simp only [callSpecialIfBoundUnlessNone?, bindSpecialIfBound?]
 refine wpAny_bind (wpAny_holding (wpAny_bind (wpAny_bind (li.here ?_))))
 simp only [F.slot_tuple_iter.bind]
 have key : wpAny (model PW w) A (call (.builtin "tuple.__iter__") [.ref t]) (fun v s' => v = .ref s.heap.objs.size ∧ s' = { s with heap := s.heap.push { cls := .type "tuple_iterator", data := .fields #[.ref t, .int 0 0] } }) E s := by
  refine call_tup L x kind_ti split_ti (F.args_tuple_iter_1 _) F.slot_tuple_iter.plain F.entry_tuple_iter ?_
  show wpAny _ _ (do ret (← newFields "tuple_iterator" [.ref t, rawInt 0])) _ _ s
  exact wpAny_bind (wpAny_newObj_type (wpAny_pure ⟨_, rfl, rfl, rfl⟩))
 refine wpAny_bind (wpAny_askSetting (wpAny_ite ?_))
 have fin : ∀ {Q' : Option Value → Shared → Prop}, Q' (some (.ref s.heap.objs.size)) { s with heap := s.heap.push { cls := .type "tuple_iterator", data := .fields #[.ref t, .int 0 0] } } → wpAny (model PW w) A (if (Value.builtin "tuple.__iter__" == Value.none) = true then ((do rule "iter.none"; raiseError "TypeError" s!"'{← typeNameOf (.ref t)}' object is not iterable" : Sem Value) >>= fun v => pure (some v)) else (call (.builtin "tuple.__iter__") [.ref t] >>= fun v => pure (some v))) Q' E s := by
  intro Q' hQ'
  simp only [builtin_beq_none, Bool.false_eq_true, if_false]
  exact wpAny_bind (wpAny_mono key (fun v s' h' => wpAny_pure (by obtain ⟨rfl, rfl⟩ := h'; exact hQ')) fun _ _ h' => h')
 have last : wpAny (model PW w) A (do match ← specialOf (.ref s.heap.objs.size) "__next__" with
   | none => rule "iter.non-iterator"; raiseError "TypeError" s!"iter() returned non-iterator of type '{← typeNameOf (.ref s.heap.objs.size)}'"
   | some _ => pure (.ref s.heap.objs.size)) Q E { s with heap := s.heap.push { cls := .type "tuple_iterator", data := .fields #[.ref t, .int 0 0] } } :=
  wpAny_bind (wpAny_specialOf (T := "tuple_iterator") ⟨_, Heap.get?_push_size _ rfl, rfl⟩ F.slot_tuple_iterator_next.lookup (wpAny_pure hQ))
 split
 ·exact wpAny_bind (wpAny_pure (wpAny_pure (fin last)))
 ·exact wpAny_tryCatch (wpAny_bind (wpAny_pure (wpAny_pure (fin last))))
theorem mat_item {it : Addr} {i : Nat} {v : Value} {Q : Option Value → Shared → Prop} (hit : s.heap.IsTupleIter it t i) (x : MatAt s.heap t items) (hx : items[i]? = some v)
  (hQ : ∀ h', h'.IsTupleIter it t (i + 1) → Heap.SameBut it s.heap h' → Q (some v) { s with heap := h' }) : wpAny (model PW w) A (pyNext (.ref it)) Q E s := by
 refine hide fun G9 hG9 => ?_
 obtain ⟨o, ho, hc, hd⟩ := id hit
 obtain ⟨dx, nl, hol⟩ := x
 refine hG9 ?_
 unfold pyNext
 refine wpAny_bind (wpAny_attempt (wpAny_callSpecial?_slot (name := Str.ofString "__next__") hit.typeIs F.slot_tuple_iterator_next
  (wpAny_call_entry F.slot_tuple_iterator_next hit.typeIs F.entry_tuple_iterator_next ?_ (F.args_tuple_iterator_next_1 _))))
 show wpAny _ _ (field (.ref it) 0 >>= _) _ _ s
 refine wpAny_bind (wpAny_field ho hd (x := .ref t) rfl ?_)
 show wpAny _ _ (if (Value.ref t == Value.none) = true then _ else _) _ _ s
 rw [if_neg (show ¬ ((Value.ref t == Value.none) = true) from Bool.false_ne_true)]
 show wpAny _ _ (field (.ref it) 1 >>= _) _ _ s
 refine wpAny_bind (wpAny_field ho hd (x := .int i 0) rfl ?_)
 show wpAny _ _ (seqItems? (.ref t) >>= _) _ _ s
 refine wpAny_bind (wpAny_seqItems hol rfl ?_)
 simp only [Int.toNat_natCast, hx]
 refine wpAny_bind (wpAny_setField ho hd (by simp) (wpAny_pure ⟨v, rfl, wpAny_pure (hQ _ ?_ (Heap.SameBut.update ..))⟩))
 exact ⟨_, Heap.get?_update_self _ ho (Obj.isFreed_of_fields (Obj.data_mapFields hd _)), (Obj.cls_mapFields ..).trans hc, by
  rw [Obj.data_mapFields hd]; simp [rawInt]⟩
theorem mat_end {it : Addr} {i : Nat} {Q : Option Value → Shared → Prop} (hh : A.handled = none) (hit : s.heap.IsTupleIter it t i) (x : MatAt s.heap t items) (hx : items[i]? = none)
  (hQ : ∀ h', Heap.ExtBut it s.heap h' → Q none { s with heap := h' }) : wpAny (model PW w) A (pyNext (.ref it)) Q E s := by
 refine hide fun G9 hG9 => ?_
 obtain ⟨o, ho, hc, hd⟩ := id hit
 obtain ⟨dx, nl, hol⟩ := x
 refine hG9 ?_
 unfold pyNext
 refine wpAny_bind (wpAny_attempt (wpAny_callSpecial?_slot (name := Str.ofString "__next__") hit.typeIs F.slot_tuple_iterator_next
  (wpAny_call_entry F.slot_tuple_iterator_next hit.typeIs F.entry_tuple_iterator_next ?_ (F.args_tuple_iterator_next_1 _))))
 show wpAny _ _ (field (.ref it) 0 >>= _) _ _ s
 refine wpAny_bind (wpAny_field ho hd (x := .ref t) rfl ?_)
 show wpAny _ _ (if (Value.ref t == Value.none) = true then _ else _) _ _ s
 rw [if_neg (show ¬ ((Value.ref t == Value.none) = true) from Bool.false_ne_true)]
 show wpAny _ _ (field (.ref it) 1 >>= _) _ _ s
 refine wpAny_bind (wpAny_field ho hd (x := .int i 0) rfl ?_)
 show wpAny _ _ (seqItems? (.ref t) >>= _) _ _ s
 refine wpAny_bind (wpAny_seqItems hol rfl ?_)
 simp only [Int.toNat_natCast, hx]
 refine wpAny_bind (wpAny_rule (wpAny_bind (wpAny_setField ho hd (by simp) ?_)))
 show wpAny _ _ (newExc (.type "StopIteration") [] >>= _) _ _ _
 refine wpAny_bind ?_
 simp only [newExc, newTuple]
 refine wpAny_bind (wpAny_newObj_type ?_ (by size_fits))
 refine wpAny_bind (m := firstArgMember _ _) (wpAny_of_eq (a := Value.none) (by first | rfl | (simp only [firstArgMember]; rfl)) ?_)
 refine wpAny_newObj_type ?_ (by size_fits)
 simp only [raiseNew]
 refine wpAny_bind (wpAny_handled ?_)
 first | rw [show A.in1.handled = none from hh] | rw [hh]
 refine wpAny_bind (wpAny_pure (wpAny_throw ?_))
 refine wpAny_bind (wpAny_isInstance (T := "StopIteration") (b := true) ⟨_, Heap.get?_push_size _ rfl, rfl⟩ isSubtype_stop ?_)
 exact wpAny_pure (hQ _ (((Heap.SameBut.update ..).extBut.push _).push _))
theorem mat_draw {it : Addr} (hne : t ≠ it) : ∀ (n i : Nat) (s : Shared) (Q : List Value → Shared → Prop), s.heap.IsTupleIter it t i → MatAt s.heap t items → i + n ≤ items.size →
  (∀ h', h'.IsTupleIter it t (i + n) → Heap.SameBut it s.heap h' → Q ((items.toList.drop i).take n) { s with heap := h' }) → wpAny (model PW w) A (draw (.ref it) n) Q E s
 | 0, i, s, Q, hit, _, _, hQ => by
  show wpAny _ _ (pure []) Q E s
  exact wpAny_pure (by simpa using hQ s.heap hit (Heap.SameBut.refl ..))
 | n + 1, i, s, Q, hit, ht, hle, hQ => by
  have hlt : i < items.size := by lia
  show wpAny _ _ (pyNext (.ref it) >>= _) Q E s
  refine wpAny_bind (mat_item hit ht (v := items[i]) (by simp [hlt]) fun h₁ hit₁ hs₁ => ?_)
  refine wpAny_bind (wpAny_holding (mat_draw hne n (i + 1) _ _ hit₁ (ht.at' fun o e => (hs₁.2 _ hne).trans e) (by lia) fun h₂ hit₂ hs₂ => wpAny_pure ?_))
  have hd : items.toList.drop i = items[i] :: items.toList.drop (i + 1) := by simp [List.drop_eq_getElem_cons, hlt]
  have := hQ h₂ (by rw [show i + (n + 1) = i + 1 + n by lia]; exact hit₂) (hs₁.trans hs₂)
  rw [hd, List.take_succ_cons] at this
  exact this
theorem mat_unpack {n : Nat} {Q : List Value → Shared → Prop} (hh : A.handled = none) (L : ML w s.heap) (x : MatAt s.heap t items) (hn : n = items.size)
  (hQ : ∀ h', (∀ b o, s.heap.get? b = some o → h'.get? b = some o) → Q items.toList { s with heap := h' }) : wpAny (model PW w) A (unpackItems (.ref t) n none) Q E s := by
 subst hn
 have hlt : t ≠ s.heap.objs.size := by obtain ⟨dx, n, ho⟩ := x; exact Nat.ne_of_lt (Heap.lt_size ho)
 have li : Looks (model PW w) s.heap (specialOf (.ref t) "__iter__") (some (.builtin "tuple.__iter__")) := (x.cls (w := w)).andThen L.iter
 unfold unpackItems notIterableAtAll
 refine wpAny_bind (wpAny_bind (li.here ?_))
 refine wpAny_pure ?_
 simp only [Bool.false_eq_true, if_false]
 refine wpAny_bind (wpAny_holding (mat_iter L x ?_))
 have x1 : MatAt (s.heap.push { cls := .type "tuple_iterator", data := .fields #[.ref t, .int 0 0] }) t items := x.at' fun o e => Heap.get?_push_of_some _ e
 refine wpAny_bind (wpAny_holding (mat_draw hlt items.size 0 _ _ ⟨_, Heap.get?_push_size _ rfl, rfl, rfl⟩ x1 (by lia) fun h₁ hit₁ hs₁ => ?_))
 have hall : List.take items.size (List.drop 0 items.toList) = items.toList := by
  rw [List.drop_zero]; exact List.take_of_length_le (by simp)
 rw [hall]
 rw [if_neg (by simp)]
 have x2 : MatAt h₁ t items := x1.at' fun o e => (hs₁.2 _ hlt).trans e
 refine wpAny_bind (wpAny_holding (mat_end hh hit₁ x2 (by simp) fun h₂ he₂ => ?_))
 simp only [Option.isSome_none, Bool.false_eq_true, if_false]
 refine wpAny_pure (hQ h₂ fun b o e => he₂ b o (Nat.ne_of_lt (Heap.lt_size e)) ((hs₁.2 b (Nat.ne_of_lt (Heap.lt_size e))).trans (Heap.get?_push_of_some _ e)))
theorem mat_assign {env : Env} {elts : List Expr} {x1} {pos : Pos} {Q : Unit → Shared → Prop} (hh : A.handled = none) (L : ML w s.heap) (x : MatAt s.heap t items)
  (hn : (assignEach elts env).length = items.size) (hstar : (assignEach elts env).findIdx? (·.1) = none)
  (h : ∀ h', (∀ b o, s.heap.get? b = some o → h'.get? b = some o) → wpAny (model PW w) A (assignInOrder ((assignEach elts env).map (·.2)) items.toList) Q E { s with heap := h' }) :
  wpAny (model PW w) A (assign (.Tuple elts x1 pos) env (.ref t)) Q E s := by
 rw [arm_assign_Tuple]
 refine wpAny_bind (wpAny_standAt ?_)
 unfold unpack
 rw [hstar]
 exact wpAny_bind (wpAny_holding (mat_unpack hh L x hn h))
end
section
variable {c : Cx} {st : St}
theorem ASG_Tuple3M {t1 t2 t3 : Expr} {k : Nat} {p : Pos} {a : Addr} {v1 v2 v3 : Value} {Q : St → Prop} (hh : c.A.handled = none) (L : ML c.w c.h₀) (he : (assignEach [t1, t2, t3] c.env).map (·.2) = [assign t1 c.env, assign t2 c.env, assign t3 c.env]) (hlen : (assignEach [t1, t2, t3] c.env).length = 3) (hstar : (assignEach [t1, t2, t3] c.env).findIdx? (·.1) = none)
  (ha : st.hp a = some (.mat aMatch [v1, v2, v3])) (h : ASG c t1 v1 st fun st1 => ASG c t2 v2 st1 fun st2 => ASG c t3 v3 st2 Q) : ASG c (.Tuple [t1, t2, t3] k p) (.ref a) st Q := by
 intro u hu
 rw [z_ref hu]
 refine .of fun s hs => ?_
 refine hide fun G9 hG9 => ?_
 obtain ⟨m, F, _⟩ := hs.fr
 obtain ⟨xs, n, dx, h1, h2⟩ := (hs.hp a _ ha).1
 obtain ⟨u1, u2, u3, e1, e2, e3, e4⟩ := three h2
 refine hG9 ?_
 subst e1
 refine mat_assign (items := #[u1, u2, u3]) hh (L.keeps F.keep) ⟨dx, n, h1⟩ hlen hstar fun h' hk => ?_
 rw [he]
 have m1 : Mod c st { s with heap := h' } := hs.keep hk
 exact wpAny_assignInOrder_more (WP.thru (h u1 e2) m1 fun _ s2 st2 m2 h2 => wpAny_assignInOrder_more (WP.thru (h2 u2 e3) m2 fun _ s3 st3 m3 h3 => wpAny_assignInOrder_more (WP.thru (h3 u3 e4) m3 fun _ s4 st4 m4 h4 => wpAny_assignInOrder_none ⟨st4, m4, h4⟩)))
theorem METH_typ {T id : String} {name : Str} {Ψ : Value → List Value → St → Prop} (ht : typeOf (.type T) = pure (.type "type")) (hst : Manifest.isStub T = false)
  (e : findCls [] (.type T) (.type "type") name = some (.val (.builtin id))) (hh : handedIn (.builtin id) = true) (h : Ψ (.builtin id) [] st) : METH c (.type T) name st Ψ := by
 intro u pl hu
 rw [z_type hu]
 refine .of fun s hs => ?_
 have X : Frag.In [] s.heap := fun a o e => by cases e
 have hstub : opaqueClassAbove (.type T) = pure none := by unfold opaqueClassAbove; dsimp only; rw [hst]; rfl
 have L0 : Looks (model PW c.w) s.heap (typeOf (.type T)) (.type "type") := Looks.of_pure ht
 have hg : findIn [] (.type "type") "__getattribute__" = some (some (.builtin "type.__getattribute__")) := type_tga
 unfold getMethod specialOf
 refine wpAny_bind (wpAny_bind (L0.here ((looks_findIn X hg).here ?_)))
 dsimp only
 rw [if_pos canon_tga]
 refine wpAny_bind (wpAny_mono (Q := fun v s' => v = .builtin id ∧ ∃ tk, s' = { s with toks := tk }) (E := fun _ _ => False) ?_ ?_ fun _ _ z => z)
 ·have LO : Looks (model PW c.w) s.heap (opaqueClassAbove (.type T)) none := Looks.of_pure hstub
  exact cls_open X LO L0 hg (looks_hook X (r := none) (by rfl)) (by show subIn [] _ _ = _; rfl) e
   (wpAny_pure (by show wpAny _ _ (handedOut _) _ _ _; rw [handedOut_of hh]; exact wpAny_pure ⟨rfl, _, rfl⟩))
 ·rintro v s' ⟨rfl, tk, rfl⟩
  exact wpAny_pure ⟨st, hs.toks, h⟩
theorem tn_plain : plainId "tuple.__new__" = true := by decide +kernel
theorem CALL_tupnew {Φ : Value → St → Prop} {t : Addr} {vs : List Value} (L : ML c.w c.h₀) (hh : c.A.handled = none) (ht : st.hp t = some (.tup vs) ∨ st.hp t = some (.list vs)) (hz : vs.length ≤ sizeLine)
  (h : ∀ r, st.hp r = none → Φ (.ref r) (st.put r (.mat aMatch vs))) : CALL c (.builtin "tuple.__new__") [.ref aMatch, .ref t] st Φ := by
 intro u us hu hus
 rw [z_builtin hu]
 refine hide fun G9 hG9 => ?_
 obtain ⟨u1, u2, rfl, e1, e2⟩ := two hus
 refine hG9 ?_
 rw [z_ref e1, z_ref e2]
 refine .of fun s hs => ?_
 obtain ⟨m, F, _⟩ := hs.fr
 have L1 := L.keeps F.keep
 obtain ⟨T, xs, n, hT, k1, k2⟩ : ∃ T xs n, (T = "list" ∨ T = "tuple") ∧ s.heap.get? t = some ⟨.type T, none, .seq xs n, #[]⟩ ∧ xs.toList.map z = vs := by
  rcases ht with ht | ht
  ·obtain ⟨xs, n, k1, k2⟩ := (hs.hp _ _ ht).1
   exact ⟨"tuple", _, _, .inr rfl, k1, by simpa using k2⟩
  ·obtain ⟨xs, n, k1, k2⟩ := (hs.hp _ _ ht).1
   exact ⟨"list", _, _, .inl rfl, k1, by simpa using k2⟩
 have hsz : xs.size ≤ sizeLine := by rw [← Array.length_toList, ← List.length_map (f := z), k2]; exact hz
 refine wpAny_call (codeAny_call_builtin tn_plain PySem.F.entry_tuple_new ((L1.chk t).here ?_))
 unfold Builtin.«tuple.__new__»
 dsimp only
 refine wpAny_bind (L1.isty.here ?_)
 refine KFB.if_not rfl ?_
 refine wpAny_bind (L1.sub.here ?_)
 refine KFB.if_not rfl ?_
 refine wpAny_bind (L1.made.here ?_)
 refine wpAny_bind (L1.init.here ?_)
 refine KFB.if_so rfl ?_
 refine wpAny_bind (wpAny_pure ?_)
 refine wpAny_bind (wpAny_pure ?_)
 refine KFB.if_not rfl ?_
 refine wpAny_bind (wpAny_collect_seq t hT k1 rfl rfl (fun h1 hk1 => ?_) hsz)
 refine wpAny_bind (wpAny_pure ?_)
 refine wpAny_bind (wpAny_alloc ?_)
 have L2 : ML c.w ((h1.push { cls := .type "dict", data := .dict #[] }).push { cls := .ref aMatch, dict := some h1.objs.size, data := .seq xs.toList.toArray }) := L1.keeps fun b o e => Heap.get?_push_of_some _ (Heap.get?_push_of_some _ (hk1 b o e))
 refine wpAny_bind ?_
 unfold newObj
 dsimp only
 rw [if_neg (show ¬ (xs.toList.toArray.size > sizeLine) by rw [Array.toArray_toList]; lia)]
 unfold newObjAsIs
 refine wpAny_bind (wpAny_alloc ?_)
 dsimp only
 refine wpAny_bind (L2.nodel.here ?_)
 refine KFB.if_not (by simp) ?_
 refine wpAny_pure (wpAny_pure ?_)
 have m1 : Mod c st { s with heap := h1 } := hs.keep hk1
 have m2 : Mod c st { s with heap := h1.push { cls := .type "dict", data := .dict #[] } } := m1.keep fun b o e => Heap.get?_push_of_some _ e
 have hf := m2.fresh
 exact ⟨_, m2.push (o := .mat aMatch vs) (tk := s.toks) ⟨xs.toList, _, _, Heap.get?_push_size _ rfl, k2⟩, h _ hf⟩
end
end Mine
end
section
open PySem PySem.W PyProof.Rows PySem.Calls
namespace Mine
noncomputable abbrev nNew : List Str := ["_cls", "a", "b", "size"]
set_option maxHeartbeats 1000000 in
theorem tab_new : Tab (inCls 3 4) nNew where
 nodup := by decide +kernel
 loc := by decide +kernel
 dbg := by decide +kernel
 cell := by decide +kernel
 co := by rfl
 gen := by rfl
 kind := by rfl
noncomputable abbrev nMake : List Str := ["cls", "iterable", "result"]
set_option maxHeartbeats 1000000 in
theorem tab_make : Tab (inCls 3 5) nMake where
 nodup := by decide +kernel
 loc := by decide +kernel
 dbg := by decide +kernel
 cell := by decide +kernel
 co := by rfl
 gen := by rfl
 kind := by rfl
section
variable {c : Cx} {st : St} {Φ : Value → St → Prop} {Ψ : AF → St → Prop} {n : Nat} {T : Stmt} {names : List Str} {vals : List (Option Value)}
theorem EX_M {o : Expr} {name : Str} {apos pos : Pos} {e : Expr} {rest : List Expr} (he : ∃ pl : Sem Bool, eval (.Call (.Attribute o name apos) (e :: rest) [] pos) c.env = (do
   let ov ← eval o c.env
   standAt apos.atName
   let (f, first) ← holding [ov] (getMethod ov name pl)
   callWith pos f first (backTo pos (starEach (e :: rest) c.env)) []))
  (he' : starEach (e :: rest) c.env = (false, eval e c.env) :: starEach rest c.env) (hp : (backTo pos (starEach rest c.env)).any (·.1) = false)
  (h : EX c o st fun ov st1 => METH c ov name st1 fun f first st2 => ARGS c pos (e :: rest) st2 fun vs st3 => KEEPER c f st3 ∧ CALL c f (first ++ vs) st3 Φ) : EX c (.Call (.Attribute o name apos) (e :: rest) [] pos) st Φ := by
 obtain ⟨pl, he⟩ := he
 exact EX_Meth he he' hp h
theorem EX_M0 {o : Expr} {name : Str} {apos pos : Pos} (he : ∃ pl : Sem Bool, eval (.Call (.Attribute o name apos) [] [] pos) c.env = (do
   let ov ← eval o c.env
   standAt apos.atName
   let (f, first) ← holding [ov] (getMethod ov name pl)
   callWith pos f first (backTo pos (starEach [] c.env)) []))
  (h : EX c o st fun ov st1 => METH c ov name st1 fun f first st2 => KEEPER c f st2 ∧ CALL c f first st2 Φ) : EX c (.Call (.Attribute o name apos) [] [] pos) st Φ := by
 obtain ⟨pl, he⟩ := he
 exact EX_Meth0 he h
theorem CODE_fn {a : Addr} {D : Value} {args args' : List Value} (G : Good c (n + 1)) (Bs : Base c.w c.h₀) (F : FnAt c.h₀ a T D) (tab : Tab T names)
  (hb : ∀ nm q doc pm an code ct s us, c.h₀.StaysIn s.heap → us.map z = args → ∃ us', BindsTo s (fdOf T D nm q doc pm an code ct) ⟨us, []⟩ (names.zip us') ∧ us'.map z = args') (hl : args'.length ≤ names.length)
  (hv : args'.map some ++ List.replicate (names.length - args'.length) none = vals)
  (h : ∀ c', Here T names n c' → XB c' (bodyOf T) ⟨look names vals, st.hp⟩ fun fl st' => Φ (retV fl) ⟨st.loc, st'.hp⟩) {us : List Value} (hus : us.map z = args) {s : Shared} (hs : Mod c st s) :
  codeAny (model PW c.w) c.A (.call (.ref a) ⟨us, []⟩) (fun r s' => match r with | .ok (.ret v) => ∃ st', Mod c st' s' ∧ Φ (z v) st' | .ok _ => False | .error _ => False) s := by
 obtain ⟨nm, q, doc, pm, an, code, ct, cl, dc, sl, h1, h2⟩ := F.at_
 refine CODE_fun (zb := names.zip args') G h1 rfl h2 rfl (fun s us hs hu => ?_) tab.cell ?_ tab.co tab.gen tab.kind (fun c' U _ => ?_) hus hs
 ·obtain ⟨us', hb1, hb2⟩ := hb nm q doc pm an code ct s us hs hu
  refine ⟨_, hb1, ?_⟩
  unfold zz
  rw [← hb2, List.zip_map_right]
  rfl
 ·intro x hx
  exact tab.loc _ (List.of_mem_zip hx).1
 ·rw [zip_look tab.nodup args' hl, hv]
  exact h c' ⟨by rw [U.w]; exact Bs.keeps U.keep, U.good G tab.kind, by rw [U.env]; rfl, by rw [U.env]; rfl, by rw [U.env]; rfl, tab.toTabN, U.off⟩
theorem bind_new (nm q doc pm an code ct) (us : List Value) (h : us.length = 4) : bindArgs (fdOf (inCls 3 4) .none nm q doc pm an code ct) ⟨us, []⟩ = pure (nNew.zip us) := by
 obtain ⟨a, b, d, e, rfl⟩ := len4 h
 rfl
theorem body_new {c' : Cx} {a b d : Value} (H : Here (inCls 3 4) nNew n c') (hΦ : ∀ r hp', st.hp r = none → Keeps st.hp hp' → hp' r = some (.mat aMatch [a, b, d]) → Φ (.ref r) ⟨st.loc, hp'⟩) :
  XB c' (bodyOf (inCls 3 4)) ⟨look nNew [some (.ref aMatch), some a, some b, some d], st.hp⟩ fun fl st' => Φ (retV fl) ⟨st.loc, st'.hp⟩ := by
 refine XB_cons ?_
 refine XS_E H rfl ?_
 repeat walk_at "m1"
 refine EX_M ⟨_, rfl⟩ rfl rfl ?_
 repeat walk_at "m1"
 refine METH_typ (T := "tuple") (id := "tuple.__new__") (by kernel_rfl) (by decide +kernel) (by kernel_rfl) (by decide +kernel) ?_
 repeat walk_at "m1"
 refine ⟨Nat.le_of_ble_eq_true rfl, fun t ht => ?_⟩
 repeat walk_at "m1"
 refine CALL_tupnew H.base.ml H.hand (.inl St.put_self) (by rw [sizeLine_eq]; exact Nat.le_of_ble_eq_true rfl) fun r hr => ?_
 repeat walk_at "m1"
 exact hΦ r _ (((Keeps.refl _).put ht).none hr) (((Keeps.refl _).put ht).put hr) St.put_self
theorem call_match {a b d : Value} (G : Good c (n + 2)) (Bs : Base c.w c.h₀) (hΦ : ∀ r hp', st.hp r = none → Keeps st.hp hp' → hp' r = some (.mat aMatch [a, b, d]) → Φ (.ref r) ⟨st.loc, hp'⟩) : CALL c (.ref aMatch) [a, b, d] st Φ := by
 intro u us hu hus
 rw [z_ref hu]
 refine .of fun s hs => wpAny_call ?_
 obtain ⟨m, F, hmm⟩ := hs.fr
 obtain ⟨u1, u2, u3, rfl, e1, e2, e3⟩ := three hus
 refine makeN_core (h := c.h₀) (f := aNew) (r0 := u1) (rs := [u2, u3]) rfl (fun x => by unfold argsOk; kernel_rfl) Bs.mkn F.keep fun tk => ?_
 have U1 : ∀ A' : Around, A' = c.A.under (.builtin "type.__call__" ⟨.ref aMatch :: [u1, u2, u3], []⟩) → A'.handled = c.A.handled ∧ A'.units ≤ c.A.units + 10 ∧ A'.depth = c.A.depth + 1 := by
  rintro A' rfl
  refine ⟨rfl, ?_, rfl⟩
  show c.A.units + _ ≤ _
  have : (Code.builtin "type.__call__" ⟨.ref aMatch :: [u1, u2, u3], []⟩).cUnits ≤ 10 := by
   show 1 + 3 * _ ≤ 10
   have : (Code.builtin "type.__call__" ⟨.ref aMatch :: [u1, u2, u3], []⟩).frames = 0 := by rfl
   lia
  lia
 obtain ⟨v1, v2, v3⟩ := U1 _ rfl
 have m2 : Mod { c with A := c.A.under (.builtin "type.__call__" ⟨.ref aMatch :: [u1, u2, u3], []⟩) } st { s with toks := tk } := ⟨hs.fr, hs.hp, hs.g, hs.o⟩
 have G1 : Good { c with A := c.A.under (.builtin "type.__call__" ⟨.ref aMatch :: [u1, u2, u3], []⟩) } (n + 1) := by
  obtain ⟨g1, g2, g3, g4, g5⟩ := G
  exact ⟨v1.trans g1, by dsimp only; lia, by dsimp only; lia, g4, g5⟩
 refine codeAny_mono (CODE_fn (Φ := fun v st' => ∃ r, v = .ref r ∧ st'.hp r = some (.mat aMatch [a, b, d]) ∧ Φ (.ref r) st') (vals := [some (.ref aMatch), some a, some b, some d]) (args := [.ref aMatch, a, b, d]) (args' := [.ref aMatch, a, b, d]) G1 Bs Bs.fNew tab_new
  (fun nm q doc pm an code ct s us _ hu => ⟨us, .of_eq (bind_new nm q doc pm an code ct us (by rw [← List.length_map (f := z), hu]; rfl)), hu⟩) (by simp) rfl (fun c' H => ?_) (us := [.ref aMatch, u1, u2, u3]) (by show [z (.ref aMatch), z u1, z u2, z u3] = _; rw [e1, e2, e3]; rfl) m2) ?_
 ·refine (body_new (st := st) (Φ := fun v st' => ∃ r, v = .ref r ∧ st'.hp r = some (.mat aMatch [a, b, d]) ∧ Φ (.ref r) st') H fun r hp' h1 h2 h3 => ?_)
  exact ⟨r, rfl, h3, hΦ r hp' h1 h2 h3⟩
 ·intro r s' hr
  cases r with
  | error e => exact hr.elim
  | ok fl =>
   cases fl with
   | ret v =>
    obtain ⟨st', m', x, hv, hx, hΦ'⟩ := hr
    obtain ⟨xs, k, dx, o1, o2⟩ := (m'.hp _ _ hx).1
    obtain ⟨m3, F3, _⟩ := m'.fr
    have hv' := z_ref hv
    subst hv'
    exact ⟨x, _, rfl, o1, rfl, F3.keep, st', ⟨m'.fr, m'.hp, m'.g, m'.o⟩, hΦ'⟩
   | _ => exact hr.elim
theorem kind_tl : builtinKind "tuple.__len__" = some .slot := by decide +kernel
theorem split_tl : splitId "tuple.__len__" = some ("tuple", "__len__") := by decide +kernel
theorem bind_tl (self : Value) : bindSpecial (.builtin "tuple.__len__") self = pure (.builtin "tuple.__len__", [self]) := slot_tuple_len.bind self
theorem mat_len {w : World} {A : Around} {E : Value → Shared → Prop} {s : Shared} {t : Addr} {items : Array Value} {Q : Value → Shared → Prop} (L : ML w s.heap) (x : MatAt s.heap t items) (hfit : (items.size : Int) < 2 ^ 62)
  (h : Q (.int items.size (s.toks + 1)) { s with toks := s.toks + 1 + 1 }) : wpAny (model PW w) A (call (.builtin "len") [.ref t]) Q E s := by
 refine Calls.call_function_entry kind_len plain_len entry_len (args_len1 _) ?_
 unfold Builtin.«len»
 refine wpAny_bind (m := oneArg "len" _) (wpAny_pure ?_)
 have ll : Looks (model PW w) s.heap (specialOf (.ref t) "__len__") (some (.builtin "tuple.__len__")) := (x.cls (w := w)).andThen L.len
 refine wpAny_bind (m := callSpecial? (.ref t) (Str.ofString "__len__")) ?_
 unfold callSpecial?
 refine wpAny_bind (ll.here ?_)
 dsimp only
 refine wpAny_holding (wpAny_bind (wpAny_of_eq (bind_tl _) ?_))
 dsimp only
 refine wpAny_bind (call_tup L x kind_tl split_tl (args_tuple_len _) slot_tuple_len.plain entry_tuple_len ?_)
 show wpAny _ _ (do retInt (← Builtin.Tuple.tupleItemsOf (.ref t)).size) _ _ s
 obtain ⟨dx, nl, hol⟩ := x
 refine wpAny_bind (m := Builtin.Tuple.tupleItemsOf (.ref t)) ?_
 unfold Builtin.Tuple.tupleItemsOf
 refine wpAny_bind (wpAny_seqItems hol rfl (wpAny_pure ?_))
 refine wpAny_bind (wpAny_mkInt (wpAny_pure ⟨_, rfl, ?_⟩))
 refine wpAny_pure ?_
 refine wpAny_bind (wpAny_holding (wpAny_pure ?_))
 refine wpAny_bind (wpAny_letGo ?_)
 show wpAny _ _ (if ((items.size : Nat) : Int) < 0 then _ else _) _ _ _
 rw [if_neg (by lia)]
 show wpAny _ _ (if ((items.size : Nat) : Int) ≥ 2 ^ 63 then _ else _) _ _ _
 rw [if_neg (by lia)]
 exact wpAny_bind (wpAny_mkInt (wpAny_pure ⟨_, rfl, h⟩))
theorem CALL_lenM {a : Addr} {vs : List Value} (L : ML c.w c.h₀) (ha : st.hp a = some (.mat aMatch vs)) (hz : vs.length < 1000000) (h : Φ (iv vs.length) st) : CALL c (.builtin "len") [.ref a] st Φ := by
 intro u us hu hus
 rw [z_builtin hu]
 obtain ⟨u1, rfl, h1⟩ := one hus
 rw [z_ref h1]
 refine .of fun s hs => ?_
 obtain ⟨m, F, _⟩ := hs.fr
 obtain ⟨xs, n, dx, k1, k2⟩ := (hs.hp _ _ ha).1
 have hl : xs.length = vs.length := by rw [← k2, List.length_map]
 refine mat_len (L.keeps F.keep) ⟨dx, n, k1⟩ (by simp [hl]; lia) ⟨st, hs.toks, ?_⟩
 show Φ (.int (xs.toArray.size : Nat) 0) st
 rw [List.size_toArray, hl]; exact h
theorem bind_make (nm q doc pm an code ct) (us : List Value) (h : us.length = 2) : bindArgs (fdOf (inCls 3 5) .none nm q doc pm an code ct) ⟨us, []⟩ = pure (nMake.zip us) := by
 obtain ⟨a, b, rfl⟩ := len2 h
 rfl
theorem body_make {c' : Cx} {t : Addr} {a b d : Value} (H : Here (inCls 3 5) nMake n c') (ht : st.hp t = some (.tup [a, b, d])) (hΦ : ∀ r hp', st.hp r = none → Keeps st.hp hp' → hp' r = some (.mat aMatch [a, b, d]) → Φ (.ref r) ⟨st.loc, hp'⟩) :
  XB c' (bodyOf (inCls 3 5)) ⟨look nMake [some (.ref aMatch), some (.ref t), none], st.hp⟩ fun fl st' => Φ (retV fl) ⟨st.loc, st'.hp⟩ := by
 refine XB_cons ?_
 refine XS_E H rfl ?_
 repeat walk_at "m1"
 refine EX_M ⟨_, rfl⟩ rfl rfl ?_
 repeat walk_at "m1"
 refine METH_typ (T := "tuple") (id := "tuple.__new__") (by kernel_rfl) (by decide +kernel) (by kernel_rfl) (by decide +kernel) ?_
 repeat walk_at "m1"
 refine CALL_tupnew H.base.ml H.hand (.inl ht) (by rw [sizeLine_eq]; exact Nat.le_of_ble_eq_true rfl) fun r hr => ?_
 repeat walk_at "m1"
 refine XS_If' ?_
 repeat walk_at "m1"
 refine CALL_lenM H.base.ml St.put_self (Nat.lt_of_lt_of_le (Nat.lt_of_sub_eq_succ rfl : 3 < 4) (by lia)) ?_
 repeat walk_at "m1"
 refine ⟨fun q => by simp at q, fun _ => ?_⟩
 repeat walk_at "m1"
 exact hΦ r _ hr ((Keeps.refl _).put hr) St.put_self
theorem code_make {t : Addr} {a b d : Value} (G : Good c (n + 1)) (Bs : Base c.w c.h₀) (ht : st.hp t = some (.tup [a, b, d])) {s : Shared} (hs : Mod c st s) {R : Result → Shared → Prop}
  (h : ∀ r st' s', Mod c st' s' → st'.loc = st.loc → st.hp r = none → Keeps st.hp st'.hp → st'.hp r = some (.mat aMatch [a, b, d]) → R (.ok (.ret (.ref r))) s') :
  codeAny (model PW c.w) c.A (.call (.ref aMake) ⟨[.ref aMatch, .ref t], []⟩) R s := by
 refine codeAny_mono (CODE_fn (Φ := fun v st' => ∃ r, v = .ref r ∧ st'.loc = st.loc ∧ st.hp r = none ∧ Keeps st.hp st'.hp ∧ st'.hp r = some (.mat aMatch [a, b, d])) (vals := [some (.ref aMatch), some (.ref t), none]) (args := [.ref aMatch, .ref t]) (args' := [.ref aMatch, .ref t]) G Bs Bs.fMake tab_make
  (fun nm q doc pm an code ct s us _ hu => ⟨us, .of_eq (bind_make nm q doc pm an code ct us (by rw [← List.length_map (f := z), hu]; rfl)), hu⟩) (by simp) rfl (fun c' H => ?_) (us := [.ref aMatch, .ref t]) rfl hs) ?_
 ·exact body_make (st := st) (Φ := fun v st' => ∃ r, v = .ref r ∧ st'.loc = st.loc ∧ st.hp r = none ∧ Keeps st.hp st'.hp ∧ st'.hp r = some (.mat aMatch [a, b, d])) H ht fun r hp' h1 h2 h3 => ⟨r, rfl, rfl, h1, h2, h3⟩
 ·intro r s' hr
  cases r with
  | error e => exact hr.elim
  | ok fl =>
   cases fl with
   | ret v =>
    obtain ⟨st', m', x, hv, hx1, hx2, hx3, hx4⟩ := hr
    rw [z_ref hv]
    exact h x st' s' m' hx1 hx2 hx3 hx4
   | _ => exact hr.elim
end
end Mine
end
section
open PySem PySem.W PyProof.Rows PySem.Calls
namespace Mine
section
variable {c : Cx} {st : St} {Φ : Value → St → Prop} {Ψ : AF → St → Prop} {n : Nat} {T : Stmt} {names : List Str} {vals : List (Option Value)}
theorem CALL_fnK {a : Addr} {args : List Value} (G : Good c (n + 1)) (Bs : Base c.w c.h₀) (F : FnAt c.h₀ a T .none) (tab : Tab T names)
  (hb : ∀ nm q doc pm an code ct us, us.length = args.length → bindArgs (fdOf T .none nm q doc pm an code ct) ⟨us, []⟩ = pure (names.zip us)) (hl : args.length ≤ names.length)
  (hv : args.map some ++ List.replicate (names.length - args.length) none = vals)
  (h : ∀ c', Here T names n c' → (∀ b o, c.h₀.get? b = some o → c'.h₀.get? b = some o) → XB c' (bodyOf T) ⟨look names vals, st.hp⟩ fun fl st' => Φ (retV fl) ⟨st.loc, st'.hp⟩) : CALL c (.ref a) args st Φ := by
 refine hide fun G9 hG9 => ?_
 obtain ⟨nm, q, doc, pm, an, code, ct, cl, dc, sl, h1, h2⟩ := F.at_
 refine hG9 ?_
 refine CALL_fun (zb := names.zip args) G h1 rfl h2 rfl (fun s us hs hu => ?_) tab.cell ?_ tab.co tab.gen tab.kind fun c' U => ?_
 ·refine ⟨_, .of_eq (hb nm q doc pm an code ct us (by rw [← hu, List.length_map])), ?_⟩
  unfold zz
  rw [← hu, List.zip_map_right]
  rfl
 ·intro x hx
  exact tab.loc _ (List.of_mem_zip hx).1
 ·rw [zip_look tab.nodup args hl, hv]
  exact h c' ⟨by rw [U.w]; exact Bs.keeps U.keep, U.good G tab.kind, by rw [U.env]; rfl, by rw [U.env]; rfl, by rw [U.env]; rfl, tab.toTabN, U.off⟩ U.keep
theorem base_not {a : Addr} {o : Obj} {s : Shared} (hs : Mod c st s) (h : c.h₀.get? a = some o) : st.hp a = none := by
 cases q : st.hp a with
 | none => rfl
 | some ob => have := (hs.hp a ob q).2.2; rw [h] at this; cases this
theorem CALL_enumB {l : Addr} {xs : List Value} {k : Nat} (hl : c.h₀.get? l = some ⟨.type "list", none, .seq xs.toArray k, #[]⟩) (h : ∀ e it, e ≠ it → st.hp e = none → st.hp it = none → Φ (.ref e) ((st.put it (.lit l)).put e (.enm it))) : CALL c (.type "enumerate") [.ref l] st Φ := by
 intro u us hu hus
 rw [z_type hu]
 obtain ⟨u1, rfl, h1⟩ := one hus
 rw [z_ref h1]
 refine .of fun s hs => ?_
 obtain ⟨m, F, _⟩ := hs.fr
 refine call_enumerate_1 (F.keep _ _ hl) fun h' hE hI hz hk => ?_
 have m0 : Mod c st { s with heap := h' } := hs.keep hk
 refine hide fun G9 hG9 => ?_
 obtain ⟨a1, a2, a3⟩ := hs.above (b := s.heap.objs.size) (Nat.le_refl _)
 obtain ⟨b1, b2, b3⟩ := hs.above (b := s.heap.objs.size + 1) (Nat.le_succ _)
 refine hG9 ?_
 have m1 := m0.back (o := .lit l) hI a3 a2
 have m2 := m1.back (o := .enm s.heap.objs.size) hE b3 b2
 exact ⟨_, m2, h _ _ (Nat.succ_ne_self _) b1 a1⟩
theorem XS_ForEnumB {elts : List Expr} {kk : Nat} {tpos : Pos} {iter : Expr} {body : List Stmt} {pos : Pos} (hh : c.A.handled = none) (hfs : ∀ x, foldedSetIterable iter c.env x = pure x)
  (h : EX c iter st fun v st1 => ∃ e it l, ∃ xs : List Value, ∃ k, ∃ J : Nat → St → Prop, v = .ref e ∧ e ≠ it ∧ st1.hp e = some (.enm it) ∧ st1.hp it = some (.lit l) ∧ c.h₀.get? l = some ⟨.type "list", none, .seq xs.toArray k, #[]⟩ ∧ J 0 ((st1.del e).del it) ∧
   (∀ (i : Nat) v c' T us st', (xs.map z)[i]? = some v → Ext c c' → c'.h₀.IsTuple T us → us.toList.map z = [iv i, v] → J i st' → ASG c' (.Tuple elts kk tpos) (.ref T) st' fun st2 => XB c' body st2 (LP (J (i + 1)) Ψ)) ∧
   ∀ st', J xs.length st' → Ψ .next st') : XS c (.For (.Tuple elts kk tpos) iter body [] pos) st Ψ := .of fun s hs => by
 refine wpAny_For (WP.thru h hs fun v s1 st1 m1 h1 => ?_) hfs
 refine hide fun G9 hG9 => ?_
 obtain ⟨e, it, l, xs, k, J, rfl', hne, he, hit, hl, h0, turn, done⟩ := h1
 refine hG9 ?_
 rw [z_ref rfl']
 refine hide fun G9 hG9 => ?_
 obtain ⟨m, F, _⟩ := m1.fr
 have k1 := F.keep _ _ hl
 have hl1 : st1.hp l = none := base_not m1 hl
 obtain ⟨hE, heL, he0⟩ := m1.hp e _ he
 obtain ⟨hI, hiL, hi0⟩ := m1.hp it _ hit
 refine hG9 ?_
 have hle : l ≠ e := fun q => by rw [q, he0] at hl; cases hl
 have hli : l ≠ it := fun q => by rw [q, hi0] at hl; cases hl
 have hll : s1.heap.IsList l xs.toArray := ⟨_, k1, rfl, k, rfl⟩
 have hlen : xs.toArray.size = xs.length := by simp
 refine wpAny_pyIter_enum (i := 0) hE ?_
 have W := WalksT.enumerate (prog := PW) (w := c.w) (A := c.A) hh e it l hne hle hli xs.toArray
 have hlL : l ≠ c.env.locals := by
  intro q
  refine hide fun G9 hG9 => ?_
  obtain ⟨o, es, ep, ho, hd, _⟩ := F.ns
  refine hG9 ?_
  rw [← q, k1] at ho
  cases ho
  cases hd
 refine codeAny_mono (forGenT (s := s1) (body := body) (Ψ := Ψ) W m1.del.del ⟨⟨_, hE⟩, hI, hll⟩ ?_ ?_ ?_ ?_ (fun _ => True) trivial (fun _ _ _ _ => trivial) J h0 ?_ ?_) ?_
 ·intro q
  simp at q
  rcases q with q | q | q
  ·exact heL q.symm
  ·exact hiL q.symm
  ·exact hlL q.symm
 ·intro b hb
  simp at hb
  rcases hb with e9 | e9 <;> rw [e9]
  ·refine ⟨he0, ?_⟩
   rw [St.del_ne hne]; exact St.del_self
  ·exact ⟨hi0, St.del_self⟩
 ·intro b hb
  simp at hb
  rcases hb with e9 | e9 | e9 <;> rw [e9]
  ·rw [St.del_ne hne]; exact St.del_self
  ·exact St.del_self
  ·rw [St.del_ne hli, St.del_ne hle]; exact hl1
 ·intro i h hX9 b hb
  refine hide fun G9 hG9 => ?_
  obtain ⟨⟨old, h1⟩, ⟨o2, h2, _⟩, ⟨o3, h3, _⟩⟩ := hX9
  refine hG9 ?_
  simp at hb
  rcases hb with e9 | e9 | e9 <;> rw [e9]
  ·exact ⟨_, h1⟩
  ·exact ⟨_, h2⟩
  ·exact ⟨_, h3⟩
 ·rintro i vals T c' st' hi ⟨t, x, hx, rfl⟩ hX hT hJ
  have e1 : (xs.map z)[i]? = some (z x) := by
   rw [List.getElem?_map]
   have : xs[i]? = some x := by simpa using hx
   rw [this]; rfl
  exact turn i (z x) c' T _ st' e1 hX hT rfl hJ
 ·intro st' hJ hn
  exact done st' (hlen ▸ hJ)
 ·intro r s' hr
  cases r with
  | error e => exact hr.elim
  | ok f =>
   refine hide fun G9 hG9 => ?_
   obtain ⟨⟨st', m', hn', hΨ⟩, hR⟩ := hr
   refine hG9 ?_
   exact ⟨_, m', hΨ⟩
end
section
variable {c : Cx} {st : St} {Φ : Value → St → Prop} {n : Nat}
theorem call_keptB {l : Addr} {ys : List Value} {nn : Nat} {xs : List Int} (G : Good c (n + 1)) (Bs : Base c.w c.h₀) (hl : c.h₀.get? l = some ⟨.type "list", none, .seq ys.toArray nn, #[]⟩) (hys : ys.map z = xs.map iv) (hΦ : ∀ (r : Addr) (ns : List Int) (hp' : Addr → Option AObj), ns.length ≤ 8 → (∀ k ∈ ns, 0 ≤ k ∧ k < 840) → st.hp r = none → Keeps st.hp hp' → hp' r = some (.list (ns.map iv)) → Φ (.ref r) ⟨st.loc, hp'⟩) : CALL c (.ref aKept) [.ref l, iv 8, iv 840] st Φ := by
 refine CALL_fnK (vals := [some (.ref l), some (iv 8), some (iv 840), none, none, none]) G Bs Bs.fKept tab_kept (fun nm q doc pm an code ct us hu => ?_) (by simp) rfl fun c' H kp => ?_
 ·obtain ⟨u1, u2, u3, rfl⟩ := len3 hu
  rfl
 ·refine XB_cons ?_
  repeat walk_at "m1"
  refine ⟨Nat.zero_le _, fun r hr => ?_⟩
  repeat walk_at "m1"
  replace hl := kp _ _ hl
  refine XB_cut (fun st' => ∃ (ns : List Int) (o1 o2 : Option Value), st'.loc = look nKept [some (.ref l), some (iv 8), some (iv 840), some (.ref r), o1, o2] ∧ ns.length ≤ 8 ∧ (∀ k ∈ ns, 0 ≤ k ∧ k < 840) ∧ Keeps st.hp st'.hp ∧ st'.hp r = some (.list (ns.map iv))) ?_ ?_
  ·refine ABS_cut fun K1 hK1 => ?_
   refine XS_ForEnumB H.hand (fun _ => rfl) ?_
   repeat walk_at "m1"
   refine CALL_enumB hl fun e it hei he hit => ?_
   have e1 : r ≠ e := St.apart he St.put_self
   have e2 : r ≠ it := St.apart hit St.put_self
   have ek : ∀ a o, (st.put r (.list [])).hp a = some o → (((((st.put r (.list [])).put it (.lit l)).put e (.enm it)).del e).del it).hp a = some o := fun a o ho => by
    have a2 : a ≠ it := St.apart hit ho
    have a1 : a ≠ e := St.apart he ho
    exact St.hp_del (St.hp_del (St.hp_there a1 (St.hp_there a2 ho)) a1) a2
   refine ⟨e, it, l, ys, nn, fun i st' => ∃ (ns : List Int) (o1 o2 : Option Value), st'.loc = look nKept [some (.ref l), some (iv 8), some (iv 840), some (.ref r), o1, o2] ∧ ns.length = min i 8 ∧ (∀ k ∈ ns, 0 ≤ k ∧ k < 840) ∧ Keeps st.hp st'.hp ∧ st'.hp r = some (.list (ns.map iv)), rfl, hei, St.put_self, ?_, hl, ?_, ?_, ?_⟩
   ·exact St.hp_there (Ne.symm hei) St.put_self
   ·exact ⟨[], none, none, rfl, rfl, nofun, fun a o e' => ek a o (Keeps.put (Keeps.refl _) hr a o e'), ek r _ St.put_self⟩
   ·intro i v c1 T ts st' hv X hT hts hJ
    refine ABS_asg fun K2 hK2 => ?_
    revert hJ; refine ex3i fun ns o1 o2 hJ => ?_
    refine an5 hJ fun hloc hlen hb hk hr' => ?_
    clear hJ
    have H1 := H.ext X
    clear H
    rw [hys] at hv
    obtain ⟨k, hk1, rfl⟩ : ∃ k, xs[i]? = some k ∧ v = iv k := by
     rw [List.getElem?_map] at hv
     obtain ⟨k, h1, h2⟩ := Option.map_eq_some_iff.mp hv
     exact ⟨k, h1, h2.symm⟩
    refine ASG_Tuple2 H1.hand rfl rfl rfl (.inr ⟨ts, hT, hts⟩) ?_
    refine ASG_loc H1 hloc (by walk_at "loc") ?_
    refine ASG_loc H1 rfl (by walk_at "loc") ?_
    repeat walk_at "m1"
    refine XS_If' ?_
    repeat walk_at "m1"
    have hlx : i < xs.length := by
     rcases Nat.lt_or_ge i xs.length with h | h
     ·exact h
     ·rw [List.getElem?_eq_none h] at hk1; cases hk1
    refine ⟨fun q => ?_, fun q => ?_⟩
    ·have hi8 : i < 8 := by have := of_decide_eq_true q; lia
     repeat walk_at "m1"
     refine XS_append H1.good.inter rfl rfl ⟨_, rfl⟩ ?_
     repeat walk_at "m1"
     refine app_mk1 hr' ?_
     repeat walk_at "m1"
     refine BIN_mod (by decide) ?_
     refine ⟨_, hr', ?_, ?_⟩
     ·rw [List.length_map, hlen, sizeLine_eq]; lia
     repeat walk_at "m1"
     refine hK2 _ (exI3 (ns ++ [k.fmod 840]) _ _ ⟨rfl, ?_, ?_, fun a o e => ?_, ?_⟩)
     ·rw [List.length_append, hlen]; simp; lia
     ·intro y hy
      rcases List.mem_append.mp hy with h | h
      ·exact hb y h
      ·rw [List.mem_singleton.mp h]; exact fmod_range k (by lia)
     ·refine St.hp_there ?_ (hk a o e)
      exact St.apart hr e
     ·rw [List.map_append]; exact St.put_self
    ·have hi8 : 8 ≤ i := by have := of_decide_eq_false q; lia
     have hl8 : ns.length = 8 := by lia
     have hm : (i : Int).fmod 8 = ((i % 8 : Nat) : Int) := fmod_nat i 8
     have hlt : i % 8 < ns.length := by lia
     repeat walk_at "m1"
     refine XS_AssignSub rfl ?_
     repeat walk_at "m1"
     refine EX_SubL (fun o i => ⟨_, rfl⟩) ?_
     repeat walk_at "m1"
     refine BIN_mod (by decide) ?_
     refine ⟨r, ns.map iv, rfl, hr', i % 8, by rw [hm], iv ns[i % 8], by rw [List.getElem?_map, List.getElem?_eq_getElem hlt]; rfl, by rw [List.length_map, hl8, sizeLine_eq]; lia, ?_⟩
     repeat walk_at "m1"
     refine BIN_mul (.of_right (by decide)) ?_
     repeat walk_at "m1"
     refine BIN_mod (by decide) ?_
     repeat walk_at "m1"
     refine BIN_mod (by decide) ?_
     rw [hm]
     refine SETI_list hr' (by rw [List.length_map]; exact hlt) (by rw [List.length_map, hl8, sizeLine_eq]; lia) ?_
     repeat walk_at "m1"
     refine hK2 _ (exI3 (ns.set (i % 8) ((ns[i % 8] * 5 + k).fmod 840)) _ _ ⟨rfl, ?_, ?_, fun a o e => ?_, ?_⟩)
     ·rw [List.length_set, hlen]; lia
     ·intro y hy
      rcases List.mem_or_eq_of_mem_set hy with h | h
      ·exact hb y h
      ·rw [h]; exact fmod_range _ (by lia)
     ·refine St.hp_there ?_ (hk a o e)
      exact St.apart hr e
     ·rw [List.map_set]; exact St.put_self
   ·intro st' hX9
    refine hide fun G9 hG9 => ?_
    obtain ⟨ns, o1, o2, hloc, hlen, hb, hk, hr'⟩ := hX9
    refine hG9 ?_
    exact hK1 _ (exI3 ns o1 o2 ⟨hloc, by lia, hb, hk, hr'⟩)
  ·intro st' hX9
   refine hide fun G9 hG9 => ?_
   obtain ⟨ns, o1, o2, hloc, hlen, hb, hk, hr'⟩ := hX9
   refine hG9 ?_
   repeat walk_at "m1"
   exact hΦ r ns st'.hp hlen hb hr hk hr'
end
end Mine
end
section
open PySem PySem.W PyProof.Rows PySem.Calls
namespace Mine
namespace MP
theorem mro_map : mroOf (.type "map") = pure [.type "map", .type "object"] := by rw [mroOf_type]; kernel_rfl
theorem lookup_map_new : typeLookup (.type "map") "__new__" = pure (some (.builtin "map.__new__")) := by rw [typeLookup_type, builtinLookup_eq_fast]; kernel_rfl
theorem slot_map_init : Slot "map" "__init__" "object.__init__" :=
 .of (owner := "object") (n := "__init__") (by rw [typeLookup_type, builtinLookup_eq_fast]; kernel_rfl) (by decide +kernel) (by decide +kernel) (by decide +kernel)
  (by first | exact .inl (by decide +kernel) | exact .inr (by decide +kernel)) (by rw [isSubtype_type]; kernel_rfl)
theorem called_map : TypeCalled "map" "map.__new__" "object.__init__" :=
 ⟨by decide +kernel, by decide +kernel, ⟨_, _, mro_map⟩, madeBy_type mro_map lookup_map_new (by decide +kernel), by decide +kernel, by rw [isSubtype_type]; kernel_rfl, slot_map_init⟩
theorem typeCall_map (a b : Value) : checkTypeCall "map" ⟨[a, b], []⟩ = pure () := by kernel_rfl
theorem newCall_map (a b : Value) : checkBuiltinCall "map.__new__" ⟨[.type "map", a, b], []⟩ = pure () := by kernel_rfl
theorem entry_map_new : entryFor table "map.__new__" = some Builtin.«map.__new__» := entryFor_of_tree (by kernel_rfl)
theorem slot_iter : Slot "map" "__iter__" "map.__iter__" :=
 .of (owner := "map") (n := "__iter__") (by rw [typeLookup_type, builtinLookup_eq_fast]; kernel_rfl) (by decide +kernel) (by decide +kernel) (by decide +kernel)
  (by first | exact .inl (by decide +kernel) | exact .inr (by decide +kernel)) (by rw [isSubtype_type]; kernel_rfl)
theorem slot_next : Slot "map" "__next__" "map.__next__" :=
 .of (owner := "map") (n := "__next__") (by rw [typeLookup_type, builtinLookup_eq_fast]; kernel_rfl) (by decide +kernel) (by decide +kernel) (by decide +kernel)
  (by first | exact .inl (by decide +kernel) | exact .inr (by decide +kernel)) (by rw [isSubtype_type]; kernel_rfl)
theorem entry_iter : entryFor table "map.__iter__" = some Builtin.«dict_keyiterator.__iter__» :=
 entryFor_alias (id' := "dict_keyiterator.__iter__") (by kernel_rfl) rfl (by decide +kernel) (by kernel_rfl)
theorem entry_next : entryFor table "map.__next__" = some Builtin.«map.__next__» := entryFor_of_tree (by kernel_rfl)
theorem args_iter (a : Value) : argsOk "map.__iter__" ⟨[a], []⟩ := by unfold argsOk; kernel_rfl
theorem args_next (a : Value) : argsOk "map.__next__" ⟨[a], []⟩ := by unfold argsOk; kernel_rfl
theorem args_init (obj a b : Value) : argsOk "object.__init__" ⟨[obj, a, b], []⟩ := by unfold argsOk; kernel_rfl
theorem sub_self : isSubtype (.type "map") (.type "map") = pure true := by rw [isSubtype_type]; kernel_rfl
theorem no_len : typeLookup (.type "map") "__len__" = pure none := by rw [typeLookup_type, builtinLookup_eq_fast]; kernel_rfl
theorem no_hint : typeLookup (.type "map") "__length_hint__" = pure none := by rw [typeLookup_type, builtinLookup_eq_fast]; kernel_rfl
end MP
noncomputable abbrev itObj (l : Addr) (i : Nat) : Obj := { cls := .type "list_iterator", data := .fields #[.ref l, .int i 0] }
noncomputable abbrev mapObj (T m : Addr) : Obj := { cls := .type "map", data := .fields #[.ref T, .ref m] }
theorem newClass_map (a b : Value) : Builtin.SmallTypes.newClass "map" ⟨[.type "map", a, b], []⟩ = pure (.type "map", [a, b]) := by
 unfold Builtin.SmallTypes.newClass
 simp only [isType, MP.sub_self, pure_bind, Bool.not_true, Bool.false_eq_true, if_false]
theorem meets_map_new (m l : Addr) : Meets (Builtin.«map.__new__» ⟨[.type "map", .ref m, .ref l], []⟩) (fun _ R s => ∃ items, s.heap.IsList l items ∧
  R (.ok (.ret (.ref (s.heap.objs.size + 2)))) { s with heap := ((s.heap.push (itObj l 0)).push { cls := .type "tuple", data := .seq #[.ref s.heap.objs.size] }).push (mapObj (s.heap.objs.size + 1) m) }) :=
 .of_wp fun prog w A R s ⟨items, hl, h⟩ => by
  unfold Builtin.«map.__new__»
  refine wpAny_bind (wpAny_of_eq (newClass_map _ _) ?_)
  dsimp only
  refine wpAny_bind (wpAny_of_eq (a := ()) (by first | rfl | kernel_rfl) ?_)
  rw [if_neg (show ¬ ([Value.ref m, Value.ref l].length < 2) from Nat.lt_irrefl 2)]
  refine wpAny_bind (m := Builtin.SmallTypes.iterAll _) ?_
  unfold Builtin.SmallTypes.iterAll
  simp only [List.drop_succ_cons, List.drop_zero, List.forIn_cons, List.forIn_nil]
  refine wpAny_bind (wpAny_bind (wpAny_bind (wpAny_holding (wpAny_pyIter_list hl ?_))))
  refine wpAny_pure (wpAny_pure (wpAny_pure ?_))
  refine wpAny_bind (m := newTuple _) (wpAny_newObj_type ?_ (by show 1 ≤ sizeLine; rw [sizeLine_eq]; decide))
  refine wpAny_bind ?_
  unfold Builtin.SmallTypes.newRecord
  refine wpAny_newObj_type ?_
  refine wpAny_pure ⟨_, rfl, ?_⟩
  have e1 : (s.heap.push (itObj l 0)).objs.size = s.heap.objs.size + 1 := Heap.size_push ..
  have e2 : ((s.heap.push (itObj l 0)).push { cls := .type "tuple", data := .seq #[.ref s.heap.objs.size] }).objs.size = s.heap.objs.size + 2 := by rw [Heap.size_push, e1]
  rw [← e2, ← e1] at h
  exact h
section
variable {w : World} {A : Around} {E : Value → Shared → Prop} {s : Shared} {M T I l m : Addr} {i : Nat} {items : Array Value}
theorem list_next {v : Value} {Q : Value → Shared → Prop} (hI : s.heap.get? I = some (itObj l i)) (hl : s.heap.IsList l items) (hx : items[i]? = some v)
  (h : ∀ h', h'.get? I = some (itObj l (i + 1)) → Heap.SameBut I s.heap h' → Q v { s with heap := h' }) : wpAny (model PW w) A (Builtin.SmallTypes.nextOf (.ref I)) Q E s := by
 refine hide fun G9 hG9 => ?_
 obtain ⟨ol, hol, _, nl, hdl⟩ := hl
 refine hG9 ?_
 have hT : s.TypeIs (.ref I) "list_iterator" := ⟨_, hI, rfl⟩
 unfold Builtin.SmallTypes.nextOf
 refine wpAny_bind (wpAny_callSpecial?_slot (name := Str.ofString "__next__") hT slot_listiter_next (wpAny_call_entry slot_listiter_next hT entry_listiter_next ?_ (args_listiter_next _)))
 show wpAny _ _ (field (.ref I) 0 >>= _) _ _ s
 refine wpAny_bind (wpAny_field hI rfl (x := .ref l) rfl ?_)
 show wpAny _ _ (if (Value.ref l == Value.none) = true then _ else _) _ _ s
 rw [if_neg (show ¬ ((Value.ref l == Value.none) = true) from Bool.false_ne_true)]
 show wpAny _ _ (field (.ref I) 1 >>= _) _ _ s
 refine wpAny_bind (wpAny_field hI rfl (x := .int i 0) rfl ?_)
 show wpAny _ _ (seqItems? (.ref l) >>= _) _ _ s
 refine wpAny_bind (wpAny_seqItems hol hdl ?_)
 simp only [Int.toNat_natCast, hx]
 refine wpAny_bind (wpAny_setField hI rfl (by simp) (wpAny_pure ⟨v, rfl, wpAny_pure (h _ ?_ (Heap.SameBut.update ..))⟩))
 rw [Heap.get?_update_self _ hI rfl]
 simp [Obj.mapFields, rawInt]
theorem list_stop {Q : Value → Shared → Prop} (hh : A.handled = none) (hI : s.heap.get? I = some (itObj l i)) (hl : s.heap.IsList l items) (hx : items[i]? = none)
  (h : ∀ e h', (∀ b o, b ≠ I → s.heap.get? b = some o → h'.get? b = some o) → (∃ o, h'.get? e = some o ∧ o.cls = .type "StopIteration") → E (.ref e) { s with heap := h' }) : wpAny (model PW w) A (Builtin.SmallTypes.nextOf (.ref I)) Q E s := by
 refine hide fun G9 hG9 => ?_
 obtain ⟨ol, hol, _, nl, hdl⟩ := hl
 refine hG9 ?_
 have hT : s.TypeIs (.ref I) "list_iterator" := ⟨_, hI, rfl⟩
 unfold Builtin.SmallTypes.nextOf
 refine wpAny_bind (wpAny_callSpecial?_slot (name := Str.ofString "__next__") hT slot_listiter_next (wpAny_call_entry slot_listiter_next hT entry_listiter_next ?_ (args_listiter_next _)))
 show wpAny _ _ (field (.ref I) 0 >>= _) _ _ s
 refine wpAny_bind (wpAny_field hI rfl (x := .ref l) rfl ?_)
 show wpAny _ _ (if (Value.ref l == Value.none) = true then _ else _) _ _ s
 rw [if_neg (show ¬ ((Value.ref l == Value.none) = true) from Bool.false_ne_true)]
 show wpAny _ _ (field (.ref I) 1 >>= _) _ _ s
 refine wpAny_bind (wpAny_field hI rfl (x := .int i 0) rfl ?_)
 show wpAny _ _ (seqItems? (.ref l) >>= _) _ _ s
 refine wpAny_bind (wpAny_seqItems hol hdl ?_)
 simp only [Int.toNat_natCast, hx]
 refine wpAny_bind (wpAny_rule (wpAny_bind (wpAny_setField hI rfl (by simp) ?_)))
 show wpAny _ _ (newExc (.type "StopIteration") [] >>= _) _ _ _
 refine wpAny_bind ?_
 simp only [newExc, newTuple]
 refine wpAny_bind (wpAny_newObj_type ?_ (by size_fits))
 refine wpAny_bind (m := firstArgMember _ _) (wpAny_of_eq (a := Value.none) (by first | rfl | (simp only [firstArgMember]; rfl)) ?_)
 refine wpAny_newObj_type ?_ (by size_fits)
 simp only [raiseNew]
 refine wpAny_bind (wpAny_handled ?_)
 first | rw [show A.in1.handled = none from hh] | rw [hh]
 refine wpAny_bind (wpAny_pure (wpAny_throw ?_))
 exact h _ _ (fun b o hb e => Heap.get?_push_of_some _ (Heap.get?_push_of_some _ (((Heap.SameBut.update s.heap I _).2 b hb).trans e))) ⟨_, Heap.get?_push_size _ rfl, rfl⟩
theorem map_item {v : Value} {Q : Option Value → Shared → Prop} (hM : s.heap.get? M = some (mapObj T m)) (hT : ∃ n, s.heap.get? T = some ⟨.type "tuple", none, .seq #[.ref I] n, #[]⟩) (hI : s.heap.get? I = some (itObj l i)) (hl : s.heap.IsList l items) (hx : items[i]? = some v) (hMI : M ≠ I)
  (h : ∀ h', h'.get? I = some (itObj l (i + 1)) → Heap.SameBut I s.heap h' → wpAny (model PW w) A.in1 (call (.ref m) [v]) (fun r s' => Q (some r) s') (fun _ _ => False) { s with heap := h' }) : wpAny (model PW w) A (pyNext (.ref M)) Q E s := by
 obtain ⟨n, hT⟩ := hT
 have hTy : s.TypeIs (.ref M) "map" := ⟨_, hM, rfl⟩
 unfold pyNext
 refine wpAny_bind (wpAny_attempt (wpAny_callSpecial?_slot (name := Str.ofString "__next__") hTy MP.slot_next (wpAny_call_entry MP.slot_next hTy MP.entry_next ?_ (MP.args_next _))))
 unfold Builtin.«map.__next__»
 refine wpAny_bind (wpAny_of_eq (a := (Value.ref M, [])) rfl ?_)
 dsimp only
 refine wpAny_bind (wpAny_field hM rfl (x := .ref T) rfl ?_)
 refine wpAny_bind (wpAny_seqItems hT rfl ?_)
 dsimp only
 simp only [Array.forIn_toList.symm, List.forIn_cons, List.forIn_nil]
 refine wpAny_bind (wpAny_bind (wpAny_bind (wpAny_holding (list_next hI hl hx fun h' k1 k2 => ?_))))
 refine wpAny_pure (wpAny_pure ?_)
 have hM' : h'.get? M = some (mapObj T m) := (k2.2 M hMI).trans hM
 refine wpAny_bind (wpAny_field hM' rfl (x := .ref m) rfl ?_)
 refine wpAny_bind (wpAny_holding (wpAny_mono (h h' k1 k2) (fun r s' hr => ?_) fun _ _ x => x.elim))
 refine wpAny_bind (wpAny_letGo ?_)
 exact wpAny_pure ⟨_, rfl, wpAny_pure hr⟩
theorem map_stop {Q : Option Value → Shared → Prop} (hh : A.handled = none) (hM : s.heap.get? M = some (mapObj T m)) (hT : ∃ n, s.heap.get? T = some ⟨.type "tuple", none, .seq #[.ref I] n, #[]⟩) (hI : s.heap.get? I = some (itObj l i)) (hl : s.heap.IsList l items) (hx : items[i]? = none)
  (h : ∀ h', (∀ b o, b ≠ I → s.heap.get? b = some o → h'.get? b = some o) → Q none { s with heap := h' }) : wpAny (model PW w) A (pyNext (.ref M)) Q E s := by
 obtain ⟨n, hT⟩ := hT
 have hTy : s.TypeIs (.ref M) "map" := ⟨_, hM, rfl⟩
 unfold pyNext
 refine wpAny_bind (wpAny_attempt (wpAny_callSpecial?_slot (name := Str.ofString "__next__") hTy MP.slot_next (wpAny_call_entry MP.slot_next hTy MP.entry_next ?_ (MP.args_next _))))
 unfold Builtin.«map.__next__»
 refine wpAny_bind (wpAny_of_eq (a := (Value.ref M, [])) rfl ?_)
 dsimp only
 refine wpAny_bind (wpAny_field hM rfl (x := .ref T) rfl ?_)
 refine wpAny_bind (wpAny_seqItems hT rfl ?_)
 dsimp only
 simp only [Array.forIn_toList.symm, List.forIn_cons, List.forIn_nil]
 refine wpAny_bind (wpAny_bind (wpAny_bind (wpAny_holding (list_stop hh hI hl hx fun e h' k1 k2 => ?_))))
 refine wpAny_bind (wpAny_isInstance (T := "StopIteration") (b := true) k2 isSubtype_stop ?_)
 exact wpAny_pure (h h' k1)
end
noncomputable def Mats (h : Addr → Option AObj) (as : List Addr) (vs : List (List Value)) : Prop := as.length = vs.length ∧ ∀ (i : Nat) (a : Addr) (v : List Value), as[i]? = some a → vs[i]? = some v → h a = some (.mat aMatch v)
theorem Mats.keeps {h h' : Addr → Option AObj} {as : List Addr} {vs : List (List Value)} (x : Mats h as vs) (k : ∀ a v, h a = some (.mat aMatch v) → h' a = some (.mat aMatch v)) : Mats h' as vs :=
 ⟨x.1, fun i a v e1 e2 => k _ _ (x.2 i a v e1 e2)⟩
theorem Mats.snoc {h : Addr → Option AObj} {as : List Addr} {vs : List (List Value)} {a : Addr} {v : List Value} (x : Mats h as vs) (e : h a = some (.mat aMatch v)) : Mats h (as ++ [a]) (vs ++ [v]) := by
 refine ⟨by rw [List.length_append, List.length_append, x.1]; rfl, fun i b w e1 e2 => ?_⟩
 rcases Nat.lt_trichotomy i as.length with hi | hi | hi
 ·rw [List.getElem?_append_left hi] at e1
  rw [List.getElem?_append_left (by rw [← x.1]; exact hi)] at e2
  exact x.2 i b w e1 e2
 ·subst hi
  rw [List.getElem?_append_right (Nat.le_refl _), Nat.sub_self] at e1
  rw [x.1, List.getElem?_append_right (Nat.le_refl _), Nat.sub_self] at e2
  cases e1; cases e2; exact e
 ·rw [List.getElem?_eq_none (by rw [List.length_append, List.length_singleton]; lia)] at e1; cases e1
noncomputable def LM (h : Addr → Option AObj) (l : Addr) (vs : List (List Value)) : Prop := ∃ as : List Addr, h l = some (.list (as.map .ref)) ∧ Mats h as vs
theorem LM.keeps {h h' : Addr → Option AObj} {l : Addr} {vs : List (List Value)} (x : LM h l vs) (k : Keeps h h') : LM h' l vs := by
 obtain ⟨as, h1, h2⟩ := x
 exact ⟨as, k _ _ h1, h2.keeps fun a v e => k _ _ e⟩
section
variable {c : Cx} {st : St} {Φ : Value → St → Prop} {n : Nat}
theorem Good.at {A' : Around} (G : Good c (n + 1)) (h1 : A'.handled = c.A.handled) (h2 : A'.units ≤ c.A.units + 10) (h3 : A'.depth ≤ c.A.depth + 1) : Good { c with A := A' } n := by
 refine hide fun G9 hG9 => ?_
 obtain ⟨g1, g2, g3, g4, g5⟩ := G
 refine hG9 ?_
 exact ⟨h1.trans g1, by dsimp only; lia, by dsimp only; lia, g4, g5⟩
theorem Mod.at {A' : Around} {s : Shared} (hs : Mod c st s) : Mod { c with A := A' } st s := ⟨hs.fr, hs.hp, hs.g, hs.o⟩
theorem Mod.of_at {A' : Around} {s : Shared} (hs : Mod { c with A := A' } st s) : Mod c st s := ⟨hs.fr, hs.hp, hs.g, hs.o⟩
theorem ext_map {S M T I m l : Addr} {as : List Addr} {ws : List (List Value)} (G : Good c (n + 2)) (Bs : Base c.w c.h₀) (hz : ws.length ≤ 1000) (h3 : ∀ w ∈ ws, ∃ a b d, w = [a, b, d]) {R : Result → Shared → Prop} {hp0 : Addr → Option AObj}
  (hm : hp0 m = some (.raw (methodObj (.ref aMake) (.ref aMatch)))) (hM : hp0 M = some (.raw (mapObj T m))) (hT : hp0 T = some (.tup [.ref I])) (hl : hp0 l = some (.list (as.map .ref))) (ha : Tups hp0 as ws)
  (hI0 : hp0 I = some (.raw (itObj l 0))) (hS0 : hp0 S = some (.list [])) (n7 : l ≠ S)
  (hfin : ∀ s' st', Mod c st' s' → st'.loc = st.loc → (∀ b o, b ≠ I ∧ b ≠ S → hp0 b = some o → st'.hp b = some o) → LM st'.hp S ws → R (.ok (.ret .none)) s') :
  ∀ (k i : Nat) (st1 : St) (s : Shared) (bs : List Addr), ws.length - i = k → i ≤ ws.length → Mod c st1 s → st1.loc = st.loc → (∀ b o, b ≠ I ∧ b ≠ S → hp0 b = some o → st1.hp b = some o) → st1.hp I = some (.raw (itObj l i)) →
   st1.hp S = some (.list (bs.map .ref)) → Mats st1.hp bs (ws.take i) →
   codeAny (model PW c.w) c.A (.builtin "list.extend.loop" ⟨[.ref S, .ref M, .none], []⟩) R s := by
 have n1 : I ≠ S := ne_hp hI0 hS0 rfl
 have n2 : M ≠ I := fun q => by rw [q, hI0] at hM; simp [itObj, mapObj] at hM
 have n3 : M ≠ S := ne_hp hM hS0 rfl
 have n4 : T ≠ I := ne_hp hT hI0 rfl
 have n5 : T ≠ S := ne_hp hT hS0 rfl
 have n6 : l ≠ I := ne_hp hl hI0 rfl
 have n8 : m ≠ I := fun q => by rw [q, hI0] at hm; simp [itObj, methodObj] at hm
 have n9 : m ≠ S := ne_hp hm hS0 rfl
 intro k
 induction k with
 | zero =>
  intro i st1 s bs hk hi hs hloc hkp hI hS hbs
  have hin : i = ws.length := by lia
  subst hin
  refine codeAny_builtin PySem.F.entry_extend_loop ?_
  rw [Around.under_plainId PySem.F.plain_extend_loop _]
  show wpAny _ c.A.in1 (pyNext (.ref M) >>= _) _ _ s
  have oM : s.heap.get? M = some (mapObj T m) := (hs.hp M _ (hkp M _ ⟨n2, n3⟩ hM)).1
  have oI : s.heap.get? I = some (itObj l ws.length) := (hs.hp I _ hI).1
  refine hide fun G9 hG9 => ?_
  obtain ⟨xs, q, oT, ez⟩ := (hs.hp T _ (hkp T _ ⟨n4, n5⟩ hT)).1
  obtain ⟨u, rfl, eu⟩ := one ez
  refine hG9 ?_
  rw [z_ref eu] at oT
  obtain ⟨ys, q', ol, ey⟩ := (hs.hp l _ (hkp l _ ⟨n6, n7⟩ hl)).1
  have hlen : ys.length = ws.length := by rw [← List.length_map (f := z), ey, List.length_map, ha.length]
  refine wpAny_bind (map_stop (by exact G.hand) oM ⟨q, oT⟩ oI ⟨_, ol, rfl, q', rfl⟩ (by simp [hlen]) fun h' hk' => ?_)
  have m1 : Mod c (st1.del I) { s with heap := h' } := by
   obtain ⟨mm, F, hmm⟩ := hs.fr
   have hIL : c.env.locals ≠ I := fun e => (hs.hp I _ hI).2.1 e.symm
   have hI0 := (hs.hp I _ hI).2.2
   refine ⟨⟨mm, ⟨F.ns.at' fun o e => hk' _ o hIL e, fun b o e => hk' b o (fun q => by rw [q, hI0] at e; cases e) (F.keep b o e)⟩, hmm⟩, fun a o e => ?_, hs.g, hs.o⟩
   by_cases q : a = I
   ·rw [q, St.del_self] at e; cases e
   ·rw [St.del_ne q] at e
    obtain ⟨x1, x2, x3⟩ := hs.hp a o e
    exact ⟨holds_keep (fun ob e' => hk' a ob q e') x1, x2, x3⟩
  refine wpAny_pure (hfin _ _ m1 hloc (fun b o hb e => St.hp_del (hkp b o hb e) hb.1) ⟨bs, St.hp_del hS (Ne.symm n1), ?_⟩)
  rw [List.take_length] at hbs
  refine hbs.keeps fun a v e => St.hp_del e fun q => ?_
  rw [q, hI] at e; cases e
 | succ k ih =>
  intro i st1 s bs hk hi hs hloc hkp hI hS hbs
  have hin : i < ws.length := by lia
  refine codeAny_builtin PySem.F.entry_extend_loop ?_
  rw [Around.under_plainId PySem.F.plain_extend_loop _]
  show wpAny _ c.A.in1 (pyNext (.ref M) >>= _) _ _ s
  have oM : s.heap.get? M = some (mapObj T m) := (hs.hp M _ (hkp M _ ⟨n2, n3⟩ hM)).1
  have oI : s.heap.get? I = some (itObj l i) := (hs.hp I _ hI).1
  have om : s.heap.get? m = some (methodObj (.ref aMake) (.ref aMatch)) := (hs.hp m _ (hkp m _ ⟨n8, n9⟩ hm)).1
  refine hide fun G9 hG9 => ?_
  obtain ⟨xs, q, oT, ez⟩ := (hs.hp T _ (hkp T _ ⟨n4, n5⟩ hT)).1
  obtain ⟨u, rfl, eu⟩ := one ez
  refine hG9 ?_
  rw [z_ref eu] at oT
  obtain ⟨ys, q', ol, ey⟩ := (hs.hp l _ (hkp l _ ⟨n6, n7⟩ hl)).1
  have hlen : ys.length = ws.length := by rw [← List.length_map (f := z), ey, List.length_map, ha.length]
  have hia : i < as.length := by rw [ha.length]; exact hin
  have hyi : ys[i]? = some (.ref as[i]) := by
   have e1 : (ys.map z)[i]? = some (.ref as[i]) := by rw [ey, List.getElem?_map, List.getElem?_eq_getElem hia]; rfl
   rw [List.getElem?_map] at e1
   obtain ⟨y, e2, e3⟩ := Option.map_eq_some_iff.mp e1
   rw [e2, z_ref e3]
  refine hide fun G9 hG9 => ?_
  obtain ⟨w, hw, hta⟩ := ha.get (List.getElem?_eq_getElem hia)
  obtain ⟨wa, wb, wd, rfl⟩ := h3 w (List.mem_of_getElem? hw)
  refine hG9 ?_
  refine wpAny_bind (map_item oM ⟨q, oT⟩ oI ⟨_, ol, rfl, q', rfl⟩ (by simpa using hyi) n2 fun h' kI sb => ?_)
  have m1 : Mod c (st1.put I (.raw (itObj l (i + 1)))) { s with heap := h' } := hs.upd (tk := s.toks) hI sb kI
  have hta1 : (st1.put I (.raw (itObj l (i + 1)))).hp as[i] = some (.tup [wa, wb, wd]) := by
   have q1 : as[i] ≠ I := ne_hp hta hI0 rfl
   have q2 : as[i] ≠ S := ne_hp hta hS0 rfl
   exact St.hp_there q1 (hkp _ _ ⟨q1, q2⟩ hta)
  have m2 : Mod { c with A := c.A.in1.in1 } _ _ := m1.at
  have G2 : Good { c with A := c.A.in1.in1 } (n + 1) := G.at rfl (by show c.A.units + 1 + 1 ≤ _; lia) (Nat.le_succ _)
  refine wpAny_call (method_call ((sb.2 m n8).trans om) (code_make G2 Bs hta1 m2 fun r st2 s2 m3 l3 hr k3 hr3 => ?_))
  have hS2 : st2.hp S = some (.list (bs.map .ref)) := k3 _ _ (St.hp_there (Ne.symm n1) hS)
  have m4 : Mod c st2 s2 := m3.of_at
  obtain ⟨xs, q5, oS, ex⟩ := m4.list hS2
  have hxl : xs.length = i := by
   have := hbs.1
   rw [← List.length_map (f := z), ex, List.length_map, this, List.length_take]; lia
  show wpAny _ c.A.in1 (updateSeq S (·.push (.ref r)) >>= _) _ _ _
  refine wpAny_bind ?_
  have m5 : Mod c (st2.put S (.list (bs.map .ref ++ [.ref r]))) { s2 with heap := s2.heap.update S (Obj.mapSeq (·.push (.ref r))), toks := s2.toks } := m4.updList hS2 oS (by simp [ex, z])
  have hrS : r ≠ S := ne_hp hr3 hS2 rfl
  have hrI : r ≠ I := ne_hp hr3 (k3 _ _ St.put_self) rfl
  refine wpAny_updateSeq oS rfl (wpAny_pure ⟨plainId_quiet PySem.F.plain_extend_loop _, ih (i + 1) _ _ (bs ++ [r]) (by lia) hin m5 (l3.trans hloc) (fun b o hb e => St.hp_there hb.2 (k3 _ _ (St.hp_there hb.1 (hkp b o hb e)))) (St.hp_there n1 (k3 _ _ St.put_self)) (by rw [List.map_append]; exact St.put_self) ?_⟩) (by simp [hxl]; rw [sizeLine_eq]; lia) (by simp [hxl]; rw [sizeLine_eq]; lia)
  have e : ws.take (i + 1) = ws.take i ++ [[wa, wb, wd]] := by
   obtain ⟨hw1, hw2⟩ := List.getElem?_eq_some_iff.mp hw
   rw [List.take_succ, hw]; rfl
  rw [e]
  refine Mats.snoc (hbs.keeps fun a v e => ?_) (St.hp_there hrS hr3)
  have a1 : a ≠ I := ne_hp e hI rfl
  have a2 : a ≠ S := ne_hp e hS rfl
  exact St.hp_there a2 (k3 _ _ (St.hp_there a1 e))
end
end Mine
end
section
open PySem PySem.W PyProof.Rows PySem.Calls
namespace Mine
section
variable {c : Cx} {st : St} {Φ : Value → St → Prop} {n : Nat} {T : Stmt} {names : List Str} {lv : List (Option Value)}
theorem EX_make {p pos : Pos} (H : Here T names n c) (h0 : EX c (.Name "Match" p) st fun v st1 => v = .ref aMatch ∧ st1 = st) (h : ∀ m, st.hp m = none → Φ (.ref m) (st.put m (.raw (methodObj (.ref aMake) (.ref aMatch))))) : EX c (.Attribute (.Name "Match" p) "_make" pos) st Φ := by
 refine EX_Attr rfl (h0.mono ?_)
 rintro v st1 ⟨h1, rfl⟩ u hu
 rw [h1] at hu
 rw [z_ref hu]
 refine .of fun s hs => ?_
 obtain ⟨m, F, _⟩ := hs.fr
 refine H.base.mget _ _ _ _ _ F.keep fun tk => ?_
 exact ⟨_, hs.push (o := .raw (methodObj (.ref aMake) (.ref aMatch))) (Heap.get?_push_size _ rfl), h _ hs.fresh⟩
theorem CALL_map {m l : Addr} {vs : List Value} (hl : st.hp l = some (.list vs)) (h : ∀ I T M, I ≠ T → I ≠ M → T ≠ M → st.hp I = none → st.hp T = none → st.hp M = none → Φ (.ref M) (((st.put I (.raw (itObj l 0))).put T (.tup [.ref I])).put M (.raw (mapObj T m)))) : CALL c (.type "map") [.ref m, .ref l] st Φ := by
 intro u us hu hus
 rw [z_type hu]
 refine hide fun G9 hG9 => ?_
 obtain ⟨u1, u2, rfl, e1, e2⟩ := two hus
 refine hG9 ?_
 rw [z_ref e1, z_ref e2]
 refine .of fun s hs => ?_
 obtain ⟨xs, k, k1, _⟩ := hs.list hl
 have m1 : Mod c (st.put s.heap.objs.size (.raw (itObj l 0))) { s with heap := s.heap.push (itObj l 0) } := hs.push (tk := s.toks) (Heap.get?_push_size _ rfl)
 have z1 : (s.heap.push (itObj l 0)).objs.size = s.heap.objs.size + 1 := Heap.size_push ..
 have m2 := m1.push (o := .tup [.ref s.heap.objs.size]) (tk := s.toks) (ob := { cls := .type "tuple", data := .seq #[.ref s.heap.objs.size] }) ⟨[.ref s.heap.objs.size], _, Heap.get?_push_size _ rfl, rfl⟩
 have z2 : ((s.heap.push (itObj l 0)).push { cls := .type "tuple", data := .seq #[.ref s.heap.objs.size] }).objs.size = s.heap.objs.size + 2 := by rw [Heap.size_push, z1]
 have m3 := m2.push (o := .raw (mapObj (s.heap.objs.size + 1) m)) (tk := s.toks) (ob := mapObj (s.heap.objs.size + 1) m) (Heap.get?_push_size _ rfl)
 dsimp only at m3
 rw [z1, z2] at m3
 refine hide fun G9 hG9 => ?_
 obtain ⟨a1, _, _⟩ := hs.above (b := s.heap.objs.size) (Nat.le_refl _)
 obtain ⟨a2, _, _⟩ := hs.above (b := s.heap.objs.size + 1) (Nat.le_succ _)
 obtain ⟨a3, _, _⟩ := hs.above (b := s.heap.objs.size + 2) (by lia)
 refine hG9 ?_
 refine callType_new MP.called_map (by decide) (MP.typeCall_map _ _) (MP.newCall_map _ _) (fun obj => MP.args_init obj _ _) MP.entry_map_new (meets_map_new m l) ⟨_, ⟨_, k1, rfl, k, rfl⟩, ⟨_, by rw [← z2]; exact Heap.get?_push_size _ rfl, rfl⟩, ?_⟩
 exact ⟨_, m3, h _ _ _ (Nat.ne_of_lt (Nat.lt_succ_self _)) (by show _ ≠ s.heap.objs.size + 2; lia) (by show s.heap.objs.size + 1 ≠ s.heap.objs.size + 2; lia) a1 a2 a3⟩
theorem Mod.touch {s : Shared} {S : Addr} {vs : List Value} (hs : Mod c st s) (ha : st.hp S = some (.list vs)) {h' : Heap} (sb : Heap.SameBut S s.heap h') {k : Nat} {xs : List Value} (e : h'.get? S = some ⟨.type "list", none, .seq xs.toArray k, #[]⟩) (ex : xs.map z = vs) : Mod c st { s with heap := h' } := by
 have m1 := hs.upd (tk := s.toks) (o' := .list vs) ha sb ⟨xs, k, e, ex⟩
 have : st.put S (.list vs) = st := by
  cases st with
  | mk l hh =>
   show St.mk l _ = St.mk l hh
   congr 1
   funext b
   show (if b = S then _ else hh b) = hh b
   split
   ·rename_i q; rw [q]; exact ha.symm
   ·rfl
 rw [this] at m1
 exact m1
theorem CALL_listmap {M T I m l : Addr} {as : List Addr} {ws : List (List Value)} (G : Good c (n + 3)) (Bs : Base c.w c.h₀) (hz : ws.length ≤ 1000) (h3 : ∀ w ∈ ws, ∃ a b d, w = [a, b, d])
  (hm : st.hp m = some (.raw (methodObj (.ref aMake) (.ref aMatch)))) (hM : st.hp M = some (.raw (mapObj T m))) (hT : st.hp T = some (.tup [.ref I])) (hI : st.hp I = some (.raw (itObj l 0))) (hl : st.hp l = some (.list (as.map .ref))) (ha : Tups st.hp as ws)
  (h : ∀ r hp', st.hp r = none → (∀ b o, b ≠ I → st.hp b = some o → hp' b = some o) → LM hp' r ws → Φ (.ref r) ⟨st.loc, hp'⟩) : CALL c (.type "list") [.ref M] st Φ := by
 intro u us hu hus
 rw [z_type hu]
 obtain ⟨u1, rfl, e1⟩ := one hus
 rw [z_ref e1]
 refine .of fun s hs => ?_
 have m1 : Mod c (st.put s.heap.objs.size (.list [])) { s with heap := s.heap.push { cls := .type "list", data := .seq #[] } } := hs.push (tk := s.toks) ⟨[], 0, Heap.get?_push_size _ rfl, rfl⟩
 have hf := hs.fresh
 refine callType_codes (Q₁ := fun obj s₁ => obj = .ref s.heap.objs.size ∧ s₁ = { s with heap := s.heap.push { cls := .type "list", data := .seq #[] } }) F.called_list (F.typeCall_list_1 _) F.entry_list_init
  (code_list_new _ ⟨rfl, rfl⟩) fun obj s₁ h₁ => ?_
 obtain ⟨rfl, rfl⟩ := h₁
 generalize hS : s.heap.objs.size = S at m1 hf ⊢
 have oS : (s.heap.push { cls := .type "list", data := .seq #[] }).get? S = some { cls := .type "list", data := .seq #[] } := by rw [← hS]; exact Heap.get?_push_size _ rfl
 generalize s.heap.push { cls := .type "list", data := .seq #[] } = h1 at m1 oS ⊢
 refine ⟨⟨_, oS, rfl⟩, F.args_list_init_2 _ _, ?_⟩
 have nS : ∀ b o, st.hp b = some o → b ≠ S := fun b o e q => by rw [q, hf] at e; cases e
 have k0 : Keeps st.hp (st.put S (.list [])).hp := (Keeps.refl _).put hf
 show wpAny _ c.A.in1.in1 (do let old ← Builtin.List.listItems (.ref S); Builtin.List.listUpdate (.ref S) (fun _ => #[]); letGo old.toList.reverse; Builtin.List.listExtendWith (.ref S) (.ref M) .none) _ _ _
 refine wpAny_bind ?_
 unfold Builtin.List.listItems
 refine wpAny_bind (wpAny_seqItems oS rfl (wpAny_pure ?_))
 show wpAny _ c.A.in1.in1 (updateSeq S (fun _ => #[]) >>= fun _ => letGo (#[] : Array Value).toList.reverse >>= fun _ => Builtin.List.listExtendWith (.ref S) (.ref M) .none) _ _ _
 refine wpAny_bind (wpAny_updateSeq oS rfl ?_)
 have oS₂ := Heap.get?_update_self (Obj.mapSeq (fun _ => (#[] : Array Value))) oS rfl
 have m2 := m1.touch St.put_self (Heap.SameBut.update h1 S (Obj.mapSeq (fun _ => (#[] : Array Value)))) (xs := []) oS₂ rfl
 refine wpAny_bind (wpAny_letGo ?_)
 unfold Builtin.List.listExtendWith
 have oM : ({ s with heap := h1.update S (Obj.mapSeq (fun _ => (#[] : Array Value))) } : Shared).TypeIs (.ref M) "map" := ⟨_, (m2.hp M _ (k0 _ _ hM)).1, rfl⟩
 refine wpAny_bind (wpAny_typeOf oM ?_)
 have q1 : Builtin.List.listSameRef (.ref S) (.ref M) = false := by simp [Builtin.List.listSameRef, Ne.symm (nS _ _ hM)]
 have q2 : (Value.type "map" == Value.type "list") = false := by decide
 have q3 : (Value.type "map" == Value.type "tuple") = false := by decide
 simp only [q1, q2, q3, Bool.or_false, Bool.false_eq_true, if_false]
 refine wpAny_bind (wpAny_pyIter_slot oM MP.slot_iter (wpAny_call_entry MP.slot_iter oM MP.entry_iter ?_ (MP.args_iter _)))
 show wpAny _ _ (ret (.ref M)) _ _ _
 refine wpAny_pure ⟨_, rfl, "map", _, oM, MP.slot_next.lookup, ?_⟩
 refine wpAny_bind (wpAny_holding ?_)
 unfold Builtin.List.listLengthHint
 refine wpAny_bind (wpAny_specialOf oM MP.no_len ?_)
 show wpAny _ c.A.in1.in1 (specialOf (Value.ref M) (Str.ofString "__length_hint__") >>= _) _ _ _
 refine wpAny_bind (wpAny_specialOf oM MP.no_hint ?_)
 refine wpAny_pure ?_
 show wpAny _ c.A.in1.in1 (rule "list.extend.makes-room" >>= fun _ => Builtin.List.listTouch (.ref S) >>= fun _ =>
  again (.builtin "list.extend.loop" ⟨[.ref S, .ref M, .none], []⟩)) _ _ _
 refine wpAny_bind (wpAny_rule ?_)
 refine wpAny_bind ?_
 show wpAny _ c.A.in1.in1 (updateSeq S (·.push .none) >>= fun _ => updateSeq S (·.pop)) _ _ _
 refine wpAny_bind (wpAny_updateSeq oS₂ rfl ?_)
 have oS₃ := Heap.get?_update_self (Obj.mapSeq (·.push Value.none)) oS₂ rfl
 refine wpAny_updateSeq (hz := by seq_fits) oS₃ rfl ?_
 have oS₄ := Heap.get?_update_self (Obj.mapSeq (·.pop)) oS₃ rfl
 have m4 := m2.touch St.put_self (xs := []) ((Heap.SameBut.update (h1.update S (Obj.mapSeq (fun _ => (#[] : Array Value)))) S (Obj.mapSeq (·.push Value.none))).trans (Heap.SameBut.update _ S (Obj.mapSeq (·.pop)))) oS₄ rfl
 have m5 : Mod { c with A := c.A.in1 } _ _ := m4.at
 have G1 : Good { c with A := c.A.in1 } (n + 2) := G.at rfl (by show c.A.units + 1 ≤ _; lia) (Nat.le_succ _)
 refine wpAny_pure ⟨plainId_quiet F.plain_extend_loop _, ?_⟩
 refine ext_map (st := st.put S (.list [])) (hp0 := (st.put S (.list [])).hp) (S := S) (as := as) (ws := ws) G1 Bs hz h3 (k0 _ _ hm) (k0 _ _ hM) (k0 _ _ hT) (k0 _ _ hl) (ha.keeps fun a v e => k0 _ _ e) (k0 _ _ hI) St.put_self (nS _ _ hl) (fun s' st' m' hloc hk' hLM => ?_)
  ws.length 0 _ _ [] rfl (Nat.zero_le _) m5 rfl (fun b o _ e => e) (k0 _ _ hI) St.put_self ⟨rfl, fun i a v e => by cases e⟩
 refine ⟨rfl, st', m'.of_at, ?_⟩
 have := h S st'.hp hf (fun b o hb e => hk' b o ⟨hb, nS b o e⟩ (k0 _ _ e)) hLM
 have e : (⟨st.loc, st'.hp⟩ : St) = st' := by cases st'; simp only at hloc; rw [hloc]; rfl
 rw [e] at this
 exact this
end
end Mine
end
section
open PySem PySem.W PyProof.Rows PySem.Calls
namespace Mine
theorem kind_tlt : builtinKind "tuple.__lt__" = some .slot := by decide +kernel
theorem split_tlt : splitId "tuple.__lt__" = some ("tuple", "__lt__") := by decide +kernel
section
variable {w : World} {A : Around} {E : Value → Shared → Prop} {s : Shared}
theorem mat_lt {a b : Addr} {i j : Int} {t u : Tok} {r r' : List Value} {Q : Bool → Shared → Prop} (hu : A.units + 2 < cLine) (L : ML w s.heap) (ha : MatAt s.heap a (.int i t :: r).toArray) (hb : MatAt s.heap b (.int j u :: r').toArray) (hij : i ≠ j)
  (h : Q (decide (i < j)) s) : wpAny (model PW w) A (keyLt' oneType' (.ref a) (.ref b)) Q E s := by
 rw [keyLt'_oneType, oneLt'_eq]
 simp only [if_true]
 refine wpAny_bind (wpAny_cRoomFor (by lia) ?_)
 have la : Looks (model PW w) s.heap (specialOf (.ref a) "__lt__") (some (.builtin "tuple.__lt__")) := (ha.cls (w := w)).andThen L.lt
 have key : wpAny (model PW w) A (call (.builtin "tuple.__lt__") [.ref a, .ref b]) (fun v s' => v = .bool (decide (i < j)) ∧ s' = s) E s := by
  refine call_tup L ha kind_tlt split_tlt (F.args_tuple_lt_2 _ _) F.slot_tuple_lt.plain F.entry_tuple_lt ?_
  show wpAny _ A.in1 (slotArgs "__lt__" 1 ⟨[Value.ref a, Value.ref b], []⟩ >>= _) _ _ _
  refine wpAny_bind (wpAny_of_eq (a := (Value.ref a, [Value.ref b])) rfl ?_)
  have ib : Looks (model PW w) s.heap (isInstance (.ref b) (.type "tuple")) true := hb.cls.andThen L.sub
  show wpAny _ A.in1 (isInstance (.ref b) (.type "tuple") >>= _) _ _ _
  refine wpAny_bind (ib.here ?_)
  refine hide fun G9 hG9 => ?_
  obtain ⟨da, na, oa⟩ := ha
  obtain ⟨db, nb, ob⟩ := hb
  refine hG9 ?_
  show wpAny _ A.in1 (Builtin.Tuple.tupleItemsOf (.ref a) >>= _) _ _ _
  refine wpAny_bind ?_
  unfold Builtin.Tuple.tupleItemsOf
  refine wpAny_bind (wpAny_seqItems oa rfl (wpAny_pure ?_))
  refine wpAny_bind (wpAny_bind (wpAny_seqItems ob rfl (wpAny_pure ?_)))
  dsimp only [List.zip_cons_cons]
  rw [List.forIn_cons]
  have hf : (i == j) = false := by simpa using hij
  refine wpAny_bind (wpAny_bind (wpAny_bind (wpAny_eqBool_int ?_)))
  rw [hf]
  simp only [Bool.not_false, if_true]
  refine wpAny_bind (wpAny_rule (wpAny_bind ?_))
  show wpAny _ A.in1 (compareOp .Lt (.int i t) (.int j u)) _ _ _
  refine lt_int ?_
  refine wpAny_bind (wpAny_pure (wpAny_pure (wpAny_pure ?_)))
  exact wpAny_pure ⟨_, rfl, rfl, rfl⟩
 simp only [callSpecialIfBound?, bindSpecialIfBound?]
 refine wpAny_bind (wpAny_holding (wpAny_bind (wpAny_bind (la.here ?_))))
 simp only [F.slot_tuple_lt.bind]
 have fin : ∀ {Q' : Option Value → Shared → Prop}, Q' (some (.bool (decide (i < j)))) s → wpAny (model PW w) A (call (.builtin "tuple.__lt__") ([.ref a] ++ [.ref b]) >>= fun v => pure (some v)) Q' E s := fun hq =>
  wpAny_bind (wpAny_mono key (fun v s' h' => wpAny_pure (by obtain ⟨rfl, rfl⟩ := h'; exact hq)) fun _ _ h' => h')
 refine wpAny_bind (wpAny_askSetting (wpAny_ite ?_))
 have last : wpAny (model PW w) A (truthOfDropped (.bool (decide (i < j)))) Q E s := wpAny_truthy_bool h
 split
 ·exact wpAny_bind (wpAny_pure (wpAny_pure (fin last)))
 ·exact wpAny_tryCatch (wpAny_bind (wpAny_pure (wpAny_pure (fin last))))
theorem mat_lt_self {a : Addr} {i j k : Int} {t u v : Tok} {Q : Bool → Shared → Prop} (hu : A.units + 2 < cLine) (L : ML w s.heap) (ha : MatAt s.heap a #[.int i t, .int j u, .int k v])
  (h : Q false s) : wpAny (model PW w) A (keyLt' oneType' (.ref a) (.ref a)) Q E s := by
 rw [keyLt'_oneType, oneLt'_eq]
 simp only [if_true]
 refine wpAny_bind (wpAny_cRoomFor (by lia) ?_)
 have la : Looks (model PW w) s.heap (specialOf (.ref a) "__lt__") (some (.builtin "tuple.__lt__")) := (ha.cls (w := w)).andThen L.lt
 have key : wpAny (model PW w) A (call (.builtin "tuple.__lt__") [.ref a, .ref a]) (fun v s' => v = .bool false ∧ s' = s) E s := by
  refine call_tup L ha kind_tlt split_tlt (F.args_tuple_lt_2 _ _) F.slot_tuple_lt.plain F.entry_tuple_lt ?_
  show wpAny _ A.in1 (slotArgs "__lt__" 1 ⟨[Value.ref a, Value.ref a], []⟩ >>= _) _ _ _
  refine wpAny_bind (wpAny_of_eq (a := (Value.ref a, [Value.ref a])) rfl ?_)
  have ib : Looks (model PW w) s.heap (isInstance (.ref a) (.type "tuple")) true := ha.cls.andThen L.sub
  show wpAny _ A.in1 (isInstance (.ref a) (.type "tuple") >>= _) _ _ _
  refine wpAny_bind (ib.here ?_)
  obtain ⟨da, na, oa⟩ := ha
  show wpAny _ A.in1 (Builtin.Tuple.tupleItemsOf (.ref a) >>= _) _ _ _
  refine wpAny_bind ?_
  unfold Builtin.Tuple.tupleItemsOf
  refine wpAny_bind (wpAny_seqItems oa rfl (wpAny_pure ?_))
  refine wpAny_bind (wpAny_bind (wpAny_seqItems oa rfl (wpAny_pure ?_)))
  show wpAny _ A.in1 (forIn [(Value.int i t, Value.int i t), (Value.int j u, Value.int j u), (Value.int k v, Value.int k v)] (none, ()) _ >>= _) _ _ _
  rw [List.forIn_cons]
  refine wpAny_bind (wpAny_bind (wpAny_bind (wpAny_eqBool_int ?_)))
  rw [beq_self_eq_true]
  simp only [Bool.not_true, Bool.false_eq_true, if_false]
  refine wpAny_pure ?_
  dsimp only
  rw [List.forIn_cons]
  refine wpAny_bind (wpAny_bind (wpAny_eqBool_int ?_))
  rw [beq_self_eq_true]
  simp only [Bool.not_true, Bool.false_eq_true, if_false]
  refine wpAny_pure ?_
  dsimp only
  rw [List.forIn_cons]
  refine wpAny_bind (wpAny_bind (wpAny_eqBool_int ?_))
  rw [beq_self_eq_true]
  simp only [Bool.not_true, Bool.false_eq_true, if_false]
  refine wpAny_pure ?_
  dsimp only
  rw [List.forIn_nil]
  exact wpAny_pure (wpAny_pure ⟨_, rfl, rfl, rfl⟩)
 simp only [callSpecialIfBound?, bindSpecialIfBound?]
 refine wpAny_bind (wpAny_holding (wpAny_bind (wpAny_bind (la.here ?_))))
 simp only [F.slot_tuple_lt.bind]
 have fin : ∀ {Q' : Option Value → Shared → Prop}, Q' (some (.bool false)) s → wpAny (model PW w) A (call (.builtin "tuple.__lt__") ([.ref a] ++ [.ref a]) >>= fun v => pure (some v)) Q' E s := fun hq =>
  wpAny_bind (wpAny_mono key (fun v s' h' => wpAny_pure (by obtain ⟨rfl, rfl⟩ := h'; exact hq)) fun _ _ h' => h')
 refine wpAny_bind (wpAny_askSetting (wpAny_ite ?_))
 have last : wpAny (model PW w) A (truthOfDropped (.bool false)) Q E s := wpAny_truthy_bool h
 split
 ·exact wpAny_bind (wpAny_pure (wpAny_pure (fin last)))
 ·exact wpAny_tryCatch (wpAny_bind (wpAny_pure (wpAny_pure (fin last))))
end
noncomputable def OkT {α : Type} (P : Nat → Prop) (R : α → Prop) : KasT α → Prop
 | .ret a => R a
 | .ask i j k => P i ∧ P j ∧ ∀ b, OkT P R (k b)
theorem OkT.bind {α β : Type} {P : Nat → Prop} {R : α → Prop} {R' : β → Prop} {f : α → KasT β} : ∀ {t : KasT α}, OkT P R t → (∀ a, R a → OkT P R' (f a)) → OkT P R' (t.bind f)
 | .ret a, h, hf => hf a h
 | .ask i j k, ⟨h1, h2, h3⟩, hf => ⟨h1, h2, fun b => OkT.bind (h3 b) hf⟩
theorem okT_wp {α : Type} {P : Nat → Prop} {R : α → Prop} {lt : Nat → Nat → Bool} {cmp : Nat → Nat → (Bool → Shared → Prop) → Shared → Prop} {I : Shared → Prop} (hc : ∀ i j C s, P i → P j → I s → (∀ s', I s' → C (lt i j) s') → cmp i j C s) : ∀ (t : KasT α) (Q : α → Shared → Prop) (s : Shared), OkT P R t → I s → (∀ s', I s' → Q (runT lt t) s') → t.kasWp cmp Q s
 | .ret a, Q, s, _, hs, h => h s hs
 | .ask i j k, Q, s, ⟨h1, h2, h3⟩, hs, h => hc i j _ s h1 h2 hs fun s' hs' => okT_wp hc (k (lt i j)) Q s' (h3 _) hs' h
noncomputable def Ent (n : Nat) (p : Array Nat) : Prop := ∀ k, p.getD k 0 < n
theorem Ent.of {n : Nat} (hn : 0 < n) {p : Array Nat} (h : ∀ x ∈ p.toList, x < n) : Ent n p := fun k => by
 by_cases hk : k < p.size
 ·have e : p.getD k 0 = p[k] := by simp [Array.getD, hk]
  rw [e]; exact h _ (by simp)
 ·have e : p.getD k 0 = 0 := by simp [Array.getD, hk]
  rw [e]; exact hn
theorem Ent.mem {n : Nat} {p : Array Nat} (h : Ent n p) : ∀ x ∈ p.toList, x < n := fun x hx => by
 obtain ⟨k, hk, rfl⟩ := List.mem_iff_getElem.mp hx
 have := h k
 have hk' : k < p.size := by simpa using hk
 have e : p.getD k 0 = p[k] := by simp [Array.getD, hk']
 rw [e] at this
 simpa using this
theorem Ent.perm {n : Nat} (hn : 0 < n) {p q : Array Nat} (h : Ent n p) (e : q.Perm p) : Ent n q := .of hn fun x hx => h.mem x ((Array.perm_iff_toList_perm.mp e).mem_iff.mp hx)
section
variable {n : Nat}
theorem ok_asc {p : Array Nat} (h : Ent n p) : ∀ (f m : Nat), OkT (· < n) (fun _ => True) (kas_asc p f m)
 | 0, m => trivial
 | f + 1, m => ⟨h _, h _, fun b => by
   cases b
   ·exact ok_asc h f (m + 1)
   ·exact trivial⟩
theorem ok_desc (hn : 0 < n) : ∀ (f : Nat) {p : Array Nat} (m q : Nat), Ent n p → OkT (· < n) (fun r => Ent n r.1) (kas_desc f p m q)
 | 0, p, m, q, h => h
 | f + 1, p, m, q, h => ⟨h _, h _, fun b => by
   cases b
   ·refine ⟨h _, h _, fun d => ?_⟩
    cases d
    ·exact ok_desc hn f _ _ h
    ·exact h
   ·show OkT _ _ (if q > 0 then _ else _)
    split
    ·exact ok_desc hn f _ _ (h.perm hn (rev_perm _ _ _))
    ·exact ok_desc hn f _ _ h⟩
theorem ok_tail3 (hn : 0 < n) {p : Array Nat} (h : Ent n p) (m r : Nat) : OkT (· < n) (fun r => Ent n r.2) (kas_tail3 m r p) :=
 (ok_asc (h.perm hn (rev_perm _ _ _)) _ _).bind fun a _ => h.perm hn (rev_perm _ _ _)
theorem ok_descPart (hn : 0 < n) {p : Array Nat} (h : Ent n p) (m r : Nat) : OkT (· < n) (fun r => Ent n r.2) (kas_descPart m r p) :=
 (ok_desc hn _ _ _ h).bind fun a ha => by
  split
  ·exact ok_tail3 hn (Ent.perm hn ha (rev_perm _ _ _)) _ _
  ·exact ok_tail3 hn ha _ _
theorem ok_count (hn : 0 < n) {p : Array Nat} (h : Ent n p) (r : Nat) : OkT (· < n) (fun r => Ent n r.2) (kas_count r p) :=
 (ok_asc h _ _).bind fun m _ => by
  split
  ·exact h
  ·split
   ·refine ⟨h _, h _, fun b => ?_⟩
    cases b
    ·exact ok_descPart hn (h.perm hn (rev_perm _ _ _)) _ _
    ·exact h
   ·exact ok_descPart hn h _ _
theorem ok_place {p : Array Nat} (h : Ent n p) (k : Nat) : ∀ (f l r : Nat), OkT (· < n) (fun _ => True) (kas_place p k f l r)
 | 0, l, r => trivial
 | f + 1, l, r => by
  show OkT _ _ (if l ≥ r then _ else _)
  split
  ·exact trivial
  ·refine ⟨h _, h _, fun b => ?_⟩
   cases b
   ·exact ok_place h k f _ _
   ·exact ok_place h k f _ _
theorem ok_bin (hn : 0 < n) : ∀ (f : Nat) {p : Array Nat} (k : Nat), Ent n p → OkT (· < n) (fun r => True) (kas_bin f p k)
 | 0, p, k, h => trivial
 | f + 1, p, k, h => (ok_place h k _ _ _).bind fun l _ => ok_bin hn f _ (h.perm hn (bubble_perm _ _ _))
theorem ok_sort (hn : 0 < n) : OkT (· < n) (fun _ => True) (kas_sort n) :=
 (ok_count hn (Ent.of hn fun x hx => by simpa using hx) n).bind fun r hr => by
  split
  ·exact ok_bin hn _ _ hr
  ·exact trivial
end
end Mine
end
section
open PySem PySem.W PyProof.Rows PySem.Calls
namespace Mine
noncomputable def encM (x : Nat × Nat × Nat) : List Value := [iv x.1, iv x.2.1, iv x.2.2]
theorem refs_z : ∀ {as : List Addr} {xs : List Value}, xs.map z = as.map Value.ref → xs = as.map Value.ref
 | [], xs, h => List.map_eq_nil_iff.mp h
 | a :: as, xs, h => by
  refine hide fun G9 hG9 => ?_
  obtain ⟨x, ys, rfl, h1, h2⟩ := List.map_eq_cons_iff.mp h
  refine hG9 ?_
  rw [z_ref h1, refs_z h2]; rfl
theorem getD_lt {α : Type} {l : List α} {i : Nat} (d : α) (h : i < l.length) : l.getD i d = l[i] := by simp [h]
theorem zip_snd (l : List Value) (_ : l.length < 2) : Array.map (fun x => x.2) (l.toArray.zip l.toArray) = l.toArray := by
 apply Array.ext
 ·simp
 ·intro i h1 h2
  simp
noncomputable def others (h : Heap) (a L : Addr) : List (Addr × Obj) := (List.range h.objs.size).filterMap fun b => if b = a ∨ b = L then none else (h.get? b).map fun o => (b, o)
theorem mem_others {h : Heap} {a L : Addr} {p : Addr × Obj} : p ∈ others h a L ↔ p.1 ≠ a ∧ p.1 ≠ L ∧ h.get? p.1 = some p.2 := by
 unfold others
 rw [List.mem_filterMap]
 constructor
 ·rintro ⟨b, hb, e⟩
  split at e
  ·cases e
  ·rename_i q
   obtain ⟨o, e1, rfl⟩ := Option.map_eq_some_iff.mp e
   exact ⟨fun x => q (.inl x), fun x => q (.inr x), e1⟩
 ·rintro ⟨h1, h2, h3⟩
  refine ⟨p.1, List.mem_range.mpr (Heap.lt_size h3), ?_⟩
  rw [if_neg (by rintro (x | x); exact h1 x; exact h2 x), h3]; rfl
section
variable {c : Cx} {st : St} {Φ : Value → St → Prop} {n : Nat}
theorem Mod.others {s : Shared} {a : Addr} {vs vs' : List Value} {m : Str → Option Value} {g : List Value} {e1 : Nat} {h' : Heap} (hs : Mod c st s) (hof : c.h₀.get? c.env.locals = none) (F : Fr1 c.h₀ c.env.locals s.heap m) (hm : ∀ x, (m x).map z = st.loc x) (ha : st.hp a = some (.list vs))
  (F' : Fr ⟨#[], s.heap.life⟩ c.env.locals h' m) (N' : News ⟨#[], s.heap.life⟩ c.env.locals h' ((a, seqObj "list" g.toArray e1) :: others s.heap a c.env.locals)) (hg : g.map z = vs') {s' : Shared} (e : s'.heap = h') (eg : s'.gens = s.gens) (eo : s'.os = s.os) : Mod c (st.put a (.list vs')) s' := by
 obtain ⟨_, haL, ha0⟩ := hs.hp a _ ha
 have keep : ∀ b o, b ≠ a → b ≠ c.env.locals → s.heap.get? b = some o → h'.get? b = some o := fun b o q1 q2 e => (N' (b, o) (.tail _ (mem_others.mpr ⟨q1, q2, e⟩))).1
 refine ⟨⟨m, ⟨by rw [e]; exact F'.ns, fun b o q => by rw [e]; exact keep b o (fun x => by rw [x, ha0] at q; cases q) (fun x => by rw [x, hof] at q; cases q) (F.keep b o q)⟩, hm⟩, fun b o q => ?_, eg.trans hs.g, eo.trans hs.o⟩
 by_cases x : b = a
 ·subst x
  rw [St.put_self] at q
  cases q
  exact ⟨⟨g, e1, by rw [e]; exact (N' _ (.head _)).1, hg⟩, haL, ha0⟩
 ·rw [St.put_ne x] at q
  obtain ⟨k1, k2, k3⟩ := hs.hp b o q
  exact ⟨holds_keep (fun ob y => by rw [e]; exact keep b ob x k2 y) k1, k2, k3⟩
theorem CALL_sort {a : Addr} {as : List Addr} {bs R : List (Nat × Nat × Nat)} (G : Good c (n + 1)) (hof : c.h₀.get? c.env.locals = none) (L : ML c.w c.h₀) (ha : st.hp a = some (.list (as.map .ref))) (hm : Mats st.hp as (bs.map encM)) (hp : bs.Perm R) (hR : R.Pairwise fun p q => p.1 < q.1) (hz : bs.length < 64)
  (h : ∀ as', Mats st.hp as' (R.map encM) → Φ .none (st.put a (.list (as'.map .ref)))) : CALL c (.builtin "list.sort") [.ref a] st Φ := by
 intro u us hu hus
 rw [z_builtin hu]
 obtain ⟨u1, rfl, e1⟩ := one hus
 rw [z_ref e1]
 refine .of fun s hs => ?_
 refine hide fun G9 hG9 => ?_
 obtain ⟨m, F, hmm⟩ := hs.fr
 obtain ⟨xs, k, ho, hx⟩ := hs.list ha
 refine hG9 ?_
 obtain rfl := refs_z hx
 obtain ⟨_, haL, ha0⟩ := hs.hp a _ ha
 have hal : as.length = bs.length := by rw [hm.1, List.length_map]
 have hl : (as.map Value.ref).length = bs.length := by rw [List.length_map, hal]
 have F0 : Fr ⟨#[], s.heap.life⟩ c.env.locals s.heap m := ⟨F.ns, fun b o e => by simp [Heap.get?] at e, Nat.zero_le _⟩
 have none0 : ∀ b, (⟨#[], s.heap.life⟩ : Heap).get? b = none := fun b => by simp [Heap.get?]
 have N0 : News ⟨#[], s.heap.life⟩ c.env.locals s.heap (others s.heap a c.env.locals) := fun p hp => by
  obtain ⟨q1, q2, q3⟩ := mem_others.mp hp
  exact ⟨q3, q2, none0 _⟩
 refine wpAny_call_entry slot_list_sort ⟨_, ho, rfl⟩ entry_list_sort ?body (args_list_sort _)
 case body =>
 by_cases h2 : 2 ≤ bs.length
 ·refine kas_list_sort (T := .ref aMatch) F0 N0 ho haL (none0 _) (fun p hp => (mem_others.mp hp).1) (by rw [hl]; exact h2) (by rw [hl]; exact hz) ?_ (by decide) (by decide) fun e1 h' F1 N1 => ?_
  ·intro e1 h' F1 N1 v hv
   refine hide fun G9 hG9 => ?_
   obtain ⟨t, ht, rfl⟩ := List.mem_map.mp hv
   obtain ⟨i, hi, rfl⟩ := List.mem_iff_getElem.mp ht
   have M1 : Mod c (st.put a (.list [])) { s with heap := h' } := hs.others hof F hmm ha F1 (g := []) N1 rfl rfl rfl rfl
   have hb := hm.2 i as[i] _ (List.getElem?_eq_getElem hi) (by rw [List.getElem?_map, List.getElem?_eq_getElem (by lia)]; rfl)
   have hne : as[i] ≠ a := ne_hp hb ha rfl
   obtain ⟨ys, q, dx, k1, _⟩ := (M1.hp _ _ (St.hp_there hne hb)).1
   refine hG9 ?_
   exact (Looks.ld k1).andThen .now
  ·rw [hl]
   have hn : 0 < bs.length := by lia
   let key : Nat → Nat := fun i => (bs.getD i (0, 0, 0)).1
   have hkey : ∀ i (hi : i < bs.length), key i = bs[i].1 := fun i hi => by show (bs.getD i (0, 0, 0)).1 = _; rw [getD_lt _ hi]
   have hdis : ∀ i j, i < j → j < bs.length → key i ≠ key j := by
    intro i j hij hj e
    have nd : (bs.map (·.1)).Nodup := by
     have : (R.map (·.1)).Nodup := by
      rw [List.Nodup, List.pairwise_map]
      exact hR.imp fun h => Nat.ne_of_lt h
     exact (hp.map _).nodup_iff.mpr this
    rw [hkey i (by lia), hkey j hj] at e
    have := List.pairwise_iff_getElem.mp nd i j (by simp; lia) (by simpa using hj) hij
    exact this (by simpa using e)
   let I : Shared → Prop := fun s' => Fr ⟨#[], s.heap.life⟩ c.env.locals s'.heap m ∧ News ⟨#[], s.heap.life⟩ c.env.locals s'.heap ((a, seqObj "list" #[] e1) :: others s.heap a c.env.locals) ∧ s'.gens = s.gens ∧ s'.os = s.os
   refine okT_wp (P := (· < bs.length)) (R := fun _ => True) (lt := ltK key) (I := I) ?_ _ _ _ (ok_sort hn) ⟨F1, N1, rfl, rfl⟩ ?_
   ·intro i j C s' hi hj hX9 hC
    refine hide fun G9 hG9 => ?_
    obtain ⟨F2, N2, g2, o2⟩ := hX9
    have M2 : Mod c (st.put a (.list [])) s' := hs.others hof F hmm ha F2 (g := []) N2 rfl rfl g2 o2
    obtain ⟨m2, F3, _⟩ := M2.fr
    refine hG9 ?_
    have L2 := L.keeps F3.keep
    have item : ∀ i (hi : i < bs.length), ∃ ti tj tk, MatAt s'.heap (as.getD i 0) #[.int bs[i].1 ti, .int bs[i].2.1 tj, .int bs[i].2.2 tk] ∧ (as.map Value.ref).getD i .none = .ref (as.getD i 0) := by
     intro i hi
     have hia : i < as.length := by lia
     have hb := hm.2 i as[i] _ (List.getElem?_eq_getElem hia) (by rw [List.getElem?_map, List.getElem?_eq_getElem hi]; rfl)
     have hne : as[i] ≠ a := ne_hp hb ha rfl
     refine hide fun G9 hG9 => ?_
     obtain ⟨ys, q, dx, k1, k2⟩ := (M2.hp _ _ (St.hp_there hne hb)).1
     obtain ⟨v1, v2, v3, rfl, w1, w2, w3⟩ := three k2
     obtain ⟨t1, rfl⟩ := z_int w1
     obtain ⟨t2, rfl⟩ := z_int w2
     obtain ⟨t3, rfl⟩ := z_int w3
     refine hG9 ?_
     refine ⟨t1, t2, t3, ⟨dx, q, ?_⟩, ?_⟩
     ·rw [getD_lt _ hia]; exact k1
     ·rw [getD_lt _ (by simpa using hia), getD_lt _ hia, List.getElem_map]
    refine hide fun G9 hG9 => ?_
    obtain ⟨a1, a2, a3, A1, A2⟩ := item i hi
    obtain ⟨b1, b2, b3, B1, B2⟩ := item j hj
    refine hG9 ?_
    show wpAny (model PW c.w) c.A.in1 (keyLt' oneType' _ _) C (fun _ _ => False) s'
    rw [A2, B2]
    have hu : c.A.in1.units + 2 < cLine := by
     have := G.units
     show c.A.units + 1 + 2 < _
     lia
    by_cases hij : i = j
    ·subst hij
     refine mat_lt_self hu L2 A1 ?_
     have := hC s' ⟨F2, N2, g2, o2⟩
     have e : ltK key i i = false := by unfold ltK; simp
     rw [e] at this; exact this
    ·have hk : key i ≠ key j := by
      rcases Nat.lt_or_gt_of_ne hij with q | q
      ·exact hdis i j q hj
      ·exact Ne.symm (hdis j i q hi)
     rw [hkey i hi, hkey j hj] at hk
     refine mat_lt (r := [_, _]) (r' := [_, _]) hu L2 A1 B1 (by lia) ?_
     have := hC s' ⟨F2, N2, g2, o2⟩
     have e : ltK key i j = decide ((bs[i].1 : Int) < (bs[j].1 : Int)) := by unfold ltK; rw [hkey i hi, hkey j hj]; simp
     rw [e] at this; exact this
   ·intro s' hX9
    refine hide fun G9 hG9 => ?_
    obtain ⟨F2, N2, g2, o2⟩ := hX9
    obtain ⟨sp, ss⟩ := sort_ok key bs.length hn hdis
    refine hG9 ?_
    generalize runT (ltK key) (kas_sort bs.length) = p at sp ss
    refine KasFin.intro F2 N2 (UpdF.head fun p hp => (mem_others.mp hp).1) fun h2 c2 F4 N4 => ?_
    have hlt : ∀ i ∈ p.toList, i < bs.length := fun i hi => List.mem_range.mp (sp.mem_iff.mp hi)
    have eout : (p.toList.map fun i => (as.map Value.ref).getD i .none) = (p.toList.map fun i => as.getD i 0).map Value.ref := by
     rw [List.map_map]
     apply List.map_congr_left
     intro i hi
     have hia : i < as.length := by have := hlt i hi; lia
     show (as.map Value.ref).getD i .none = .ref (as.getD i 0)
     rw [getD_lt _ (by simpa using hia), getD_lt _ hia, List.getElem_map]
    have ebs : (p.toList.map fun i => bs.getD i (0, 0, 0)) = R := by
     refine sorted_is ?_ hR ?_
     ·refine List.Perm.trans ?_ hp
      have e : (List.range bs.length).map (fun i => bs.getD i (0, 0, 0)) = bs := by
       apply List.ext_getElem
       ·simp
       ·intro i h1 h2
        simp at h1 h2
        simp [h2]
      have := sp.map (fun i => bs.getD i (0, 0, 0))
      rw [e] at this
      exact this
     ·rw [List.pairwise_map]
      exact ss
    rw [eout] at N4
    refine ⟨.none, rfl, st.put a (.list ((p.toList.map fun i => as.getD i 0).map .ref)), ?_, h _ ⟨?_, ?_⟩⟩
    ·refine hs.others hof F hmm ha F4 (g := (p.toList.map fun i => as.getD i 0).map .ref) (vs' := (p.toList.map fun i => as.getD i 0).map .ref) N4 ?_ rfl g2 o2
     simp [z]
    ·rw [List.length_map, List.length_map, ← ebs, List.length_map]
    ·intro i t v e1 e2
     rw [← ebs] at e2
     rw [List.getElem?_map] at e1
     rw [List.getElem?_map, List.getElem?_map] at e2
     cases q : p.toList[i]? with
     | none => rw [q] at e1; cases e1
     | some x =>
      rw [q] at e1 e2
      cases e1
      cases e2
      have hx := hlt x (List.mem_of_getElem? q)
      have hxa : x < as.length := by lia
      refine hm.2 x _ _ (by show as[x]? = some (as.getD x 0); rw [getD_lt _ hxa]; exact List.getElem?_eq_getElem hxa) ?_
      rw [List.getElem?_map, List.getElem?_eq_getElem hx]; show some (encM bs[x]) = some (encM (bs.getD x (0, 0, 0))); rw [getD_lt _ hx]
 ·have hR' : R = bs := by
   cases bs with
   | nil => exact List.Perm.eq_nil hp.symm
   | cons b r => cases r with
    | nil => exact List.perm_singleton.mp hp.symm
    | cons => simp at h2
  have hlen : (as.map Value.ref).length < 2 := by lia
  rw [list_sort_plain]
  have sb1 := Heap.SameBut.update s.heap a (Obj.mapSeq fun _ => (#[] : Array Value))
  obtain ⟨e1, ho1⟩ : ∃ e1, (s.heap.update a (Obj.mapSeq fun _ => (#[] : Array Value))).get? a = some (seqObj "list" #[] e1) := ⟨_, get?_update_seq ho fun _ => #[]⟩
  refine wpAny_bind (listItems_at ho rfl ?_)
  refine wpAny_bind (listUpdate_at ho rfl ?_ (by rw [List.size_toArray, sizeLine_eq]; lia) (Nat.zero_le _))
  refine wpAny_bind (seqEpoch_at ho1 rfl ?_)
  refine wpAny_bind (wpAny_newTuple ?_ (by show (as.map Value.ref).length ≤ _; rw [sizeLine_eq]; lia))
  refine wpAny_bind (wpAny_newList ?_ (Nat.zero_le _))
  refine wpAny_holding ?_
  dsimp only
  have hn2 : (as.map Value.ref).toArray.size < 2 := by rw [List.size_toArray]; exact hlen
  rw [if_pos hn2, if_pos hn2]
  refine wpAny_bind (wpAny_pure ?_)
  rw [StateT.run_pure]
  refine wpAny_bind (wpAny_pure ?_)
  dsimp only
  have ho6 : (((s.heap.update a (Obj.mapSeq fun _ => (#[] : Array Value))).push (seqObj "tuple" (as.map Value.ref).toArray 0)).push (seqObj "list" #[] 0)).get? a = some (seqObj "list" #[] e1) := Heap.get?_push_of_some _ (Heap.get?_push_of_some _ ho1)
  have ez : Array.map (fun x => x.2) (arrOf (SortSt.mk' general' ((as.map Value.ref).toArray.zip (as.map Value.ref).toArray) #[] 7 none)) = (as.map Value.ref).toArray := zip_snd _ hlen
  refine wpAny_bind (seqEpoch_at ho6 rfl ?_)
  refine wpAny_bind (listUpdate_at ho6 rfl ?_ (hsz2 := by rw [ez, List.size_toArray, sizeLine_eq]; lia))
  simp only [bne_self_eq_false, Bool.false_eq_true, if_false]
  rw [ez]
  have m1 : Mod c (st.put a (.list [])) { s with heap := s.heap.update a (Obj.mapSeq fun _ => (#[] : Array Value)) } := hs.upd (tk := s.toks) ha sb1 ⟨[], e1, ho1, rfl⟩
  have m2 := m1.keep (tk := s.toks) (h' := ((s.heap.update a (Obj.mapSeq fun _ => (#[] : Array Value))).push (seqObj "tuple" (as.map Value.ref).toArray 0)).push (seqObj "list" #[] 0)) fun b o e => Heap.get?_push_of_some _ (Heap.get?_push_of_some _ e)
  obtain ⟨c2, hc2⟩ : ∃ c2, ((((s.heap.update a (Obj.mapSeq fun _ => (#[] : Array Value))).push (seqObj "tuple" (as.map Value.ref).toArray 0)).push (seqObj "list" #[] 0)).update a (Obj.mapSeq fun _ => (as.map Value.ref).toArray)).get? a = some (seqObj "list" (as.map Value.ref).toArray c2) := ⟨_, get?_update_seq ho6 fun _ => (as.map Value.ref).toArray⟩
  have m3 := m2.upd (tk := s.toks) (o' := .list (as.map .ref)) St.put_self (Heap.SameBut.update _ a (Obj.mapSeq fun _ => (as.map Value.ref).toArray)) ⟨as.map .ref, c2, hc2, by simp [z]⟩
  have est : (st.put a (.list [])).put a (.list (as.map .ref)) = st.put a (.list (as.map .ref)) := by
   unfold St.put
   congr 1
   funext b
   by_cases q : b = a <;> simp [q]
  rw [est] at m3
  exact wpAny_pure ⟨_, rfl, _, m3, h as (by rw [hR']; exact hm)⟩
end
end Mine
end
section
open PySem PySem.W PyProof.Rows PySem.Calls
namespace Mine
theorem bindL_all {k : Str → Option NameKind} : ∀ (binds : List (Str × Value)) (m : Str → Option Value), (∀ x ∈ binds, k x.1 = some .local) → ∀ x, bindL k binds m x = (binds.reverse.lookup x).or (m x)
 | [], m, _, x => by simp [bindL]
 | (n, v) :: r, m, h, x => by
  unfold bindL
  rw [if_pos (h (n, v) (.head _)), bindL_all r _ (fun y hy => h y (.tail _ hy)), List.reverse_cons, List.lookup_append]
  cases r.reverse.lookup x with
  | some w => rfl
  | none =>
   by_cases e : x = n
   ·subst e; simp [List.lookup]
   ·have : (x == n) = false := by simpa using e
    simp [List.lookup, this, e]
theorem bindC_all {k : Str → Option NameKind} : ∀ (binds : List (Str × Value)) (m : Str → Option Value), (∀ x ∈ binds, k x.1 = some .local) → bindC k binds m = m
 | [], m, _ => rfl
 | (n, v) :: r, m, h => by
  unfold bindC
  rw [if_pos (h (n, v) (.head _)), bindC_all r _ (fun y hy => h y (.tail _ hy))]
section
variable {c : Cx} {st : St} {Φ : Value → St → Prop} {Ψ : AF → St → Prop} {n : Nat} {T : Stmt} {names : List Str}
theorem EX_cell {x : Str} {pos : Pos} {v : Value} {a : Addr} (hk : c.env.scope.kind = .function) (hl : c.env.kindOf x = some .cell) (hc : c.env.cells.lookup x = some a) (hd : (x == ("__debug__" : Str)) = false)
  (ha : st.hp a = some (.cell (some v))) (h : Φ v st) : EX c (.Name x pos) st Φ := .of fun s hs => by
 refine hide fun G9 hG9 => ?_
 obtain ⟨⟨u, h1, h2⟩, _, _⟩ := hs.hp a _ ha
 obtain ⟨u', rfl, h3⟩ := Option.map_eq_some_iff.mp h2
 refine hG9 ?_
 exact wpAny_Name (wpAny_loadName_cell hk hl hc h1 ⟨st, hs, by rw [h3]; exact h⟩) hd
theorem ASG_cell {x : Str} {p : Pos} {v : Value} {a : Addr} {o : Option Value} {Q : St → Prop} (hk : c.env.scope.kind = .function) (hl : c.env.kindOf x = some .cell) (hc : c.env.cells.lookup x = some a)
  (ha : st.hp a = some (.cell o)) (h : Q (st.put a (.cell (some v)))) : ASG c (.Name x p) v st Q := by
 intro u hu
 refine .of fun s hs => ?_
 refine hide fun G9 hG9 => ?_
 obtain ⟨⟨u0, h1, h2⟩, _, _⟩ := hs.hp a _ ha
 refine hG9 ?_
 refine wpAny_assign_Name (wpAny_storeName_cell hk hl hc h1 fun h' hc' hs' => ?_)
 exact ⟨_, hs.upd (tk := s.toks) (o' := .cell (some v)) ha hs' ⟨some u, hc', by rw [← hu]; rfl⟩, h⟩
theorem XS_Acell {x : Str} {e : Expr} {p q : Pos} {a : Addr} (hk : c.env.scope.kind = .function) (hl : c.env.kindOf x = some .cell) (hc : c.env.cells.lookup x = some a) (hsw : swapsWith e (some (.Name x p)) q.line c.env = pure false)
  (h : EX c e st fun v st' => (∃ o, st'.hp a = some (.cell o)) ∧ Ψ .next (st'.put a (.cell (some v)))) : XS c (.Assign [.Name x p] e q) st Ψ := .of fun s hs => by
 refine wpAny_Assign_Name (WP.thru h hs fun u s' st' m1 h1 => ?_) hsw
 refine hide fun G9 hG9 => ?_
 obtain ⟨⟨o, ha⟩, h1⟩ := h1
 obtain ⟨⟨u0, k1, k2⟩, _, _⟩ := m1.hp a _ ha
 refine hG9 ?_
 refine wpAny_storeName_cell hk hl hc k1 fun h' hc' hs' => ?_
 exact ⟨_, m1.upd (tk := s'.toks) (o' := .cell (some (z u))) ha hs' ⟨some u, hc', rfl⟩, h1⟩
theorem CODE_cells {x1 x2 : Str} {f : Addr} {fd : FuncData} {body : List Stmt} {args : List Value} {o : Obj} {zb : List (Str × Value)} (hG : Good c n)
  (ho : c.h₀.get? f = some o) (hd : o.data = .func fd) (hcd : c.h₀.CodeRec fd.code fd.qualname) (hbody : fd.body = .stmts body)
  (hbind : ∀ us, us.map z = args → ∃ binds, bindArgs fd ⟨us, []⟩ = pure binds ∧ zz binds = zb) (hclo : fd.closure = [])
  (hcs : ∀ L, cellsFrom (L + 1) fd.scope.names [] = [(x2, L + 2), (x1, L + 1)]) (hx : x1 ≠ x2) (hloc : ∀ x ∈ zb, fd.scope.names.lookup x.1 = some .local)
  (hco : fd.scope.isCoroutine = false) (hgen : fd.scope.isGenerator = false) (hk : fd.scope.kind = .function)
  (h : ∀ c' a1 a2, c'.w = c.w → c'.A = c.A.deeper c'.env → c'.env.scope = fd.scope → c'.env.globals = fd.globals → c'.env.builtins = fd.builtins → (∀ b o, c.h₀.get? b = some o → c'.h₀.get? b = some o) → st.hp a1 = none → st.hp a2 = none → a1 ≠ a2 → c'.env.cells = [(x2, a2), (x1, a1)] → c'.h₀.get? c'.env.locals = none →
   XB c' body ⟨fun x => zb.reverse.lookup x, ((st.put a1 (.cell none)).put a2 (.cell none)).hp⟩ fun fl st' => Φ (retV fl) ⟨st.loc, st'.hp⟩) {us : List Value} (hus : us.map z = args) {s : Shared} (hs : Mod c st s) :
  codeAny (model PW c.w) c.A (.call (.ref f) ⟨us, []⟩) (fun r s' => match r with | .ok (.ret v) => ∃ st', Mod c st' s' ∧ Φ (z v) st' | .ok _ => False | .error _ => False) s := by
 refine hide fun G9 hG9 => ?_
 obtain ⟨m, F, hm⟩ := hs.fr
 have hst : c.h₀.StaysIn s.heap := fun b o e => F.keep b o e
 obtain ⟨binds, hb1, hb2⟩ := hbind us hus
 refine hG9 ?_
 have hbl : ∀ x ∈ binds, fd.scope.names.lookup x.1 = some .local := fun x hx => by
  refine hloc (x.1, z x.2) ?_
  rw [← hb2]
  exact List.mem_map.mpr ⟨x, hx, rfl⟩
 refine codeAny_call_cells (by have := hG.depth; lia) (F.keep _ _ ho) hd (hG.nolim.keeps F.keep) (hcd.keeps F.keep) hbody hb1 hclo (fun x hx => .inl (hbl x hx)) ?_ hco hgen hk
 intro s₁ X
 have hkn : ∀ x ∈ binds, (callEnvC fd s.heap.objs.size f).kindOf x.1 = some .local := fun x hx => hbl x hx
 rw [bindC_all binds _ hkn] at X
 refine hide fun G9 hG9 => ?_
 obtain ⟨⟨⟨h₁, tk₁, rfl⟩, hns, hk₁, hfr⟩, hcell, hap, hab⟩ := X
 obtain ⟨oL, es, ep, hL, hLd, hLk, hLf⟩ := F.ns
 refine hG9 ?_
 have hbase : ∀ b o, c.h₀.get? b = some o → ¬ (st.hp b ≠ none) := fun b o e q => by
  cases hq : st.hp b with
  | none => exact q hq
  | some ob => have := (hs.hp b ob hq).2.2; rw [e] at this; cases this
 have hLn : ¬ (st.hp c.env.locals ≠ none) := fun q => by
  cases hq : st.hp c.env.locals with
  | none => exact q hq
  | some ob => exact (hs.hp _ ob hq).2.1 rfl
 have hkeep : ∀ b o, c.h₀.get? b = some o → (hideP s.heap fun a => st.hp a ≠ none).get? b = some o := fun b o e => (hideP_get (hbase b o e)).trans (F.keep b o e)
 have of_hide : ∀ b o, (hideP s.heap fun a => st.hp a ≠ none).get? b = some o → s.heap.get? b = some o := fun b o e => by
  by_cases q : st.hp b ≠ none
  ·rw [hideP_none q] at e; cases e
  ·rw [hideP_get q] at e; exact e
 have habove : ∀ b, s.heap.objs.size ≤ b → (hideP s.heap fun a => st.hp a ≠ none).get? b = none ∧ st.hp b = none := fun b hb => by
  refine ⟨?_, (hs.above hb).1⟩
  cases q : (hideP s.heap fun a => st.hp a ≠ none).get? b with
  | none => rfl
  | some ob => exact absurd (Heap.lt_size (of_hide _ _ q)) (Nat.not_lt.mpr hb)
 have hce : (callEnvC fd s.heap.objs.size f).cells = [(x2, s.heap.objs.size + 2), (x1, s.heap.objs.size + 1)] := hcs _
 rw [hce] at hcell
 have c1 : h₁.IsCell (s.heap.objs.size + 1) none := hcell x1 _ (by
  have : (x1 == x2) = false := by simpa using hx
  simp [List.lookup, this])
 have c2 : h₁.IsCell (s.heap.objs.size + 2) none := hcell x2 _ (by simp [List.lookup])
 have M : Mod ⟨c.w, c.A.deeper (callEnvC fd s.heap.objs.size f), hideP s.heap fun a => st.hp a ≠ none, callEnvC fd s.heap.objs.size f, c.g, c.o⟩
   ⟨fun x => zb.reverse.lookup x, ((st.put (s.heap.objs.size + 1) (.cell none)).put (s.heap.objs.size + 2) (.cell none)).hp⟩ { s with heap := h₁, toks := tk₁ } := by
  refine ⟨⟨_, ⟨hns, fun b o e => hk₁ b o (of_hide b o e)⟩, fun x => ?_⟩, fun a ob e => ?_, hs.g, hs.o⟩
  ·rw [bindL_all binds _ hkn, ← hb2]
   show Option.map z ((binds.reverse.lookup x).or none) = (zz binds).reverse.lookup x
   rw [Option.or_none]
   unfold zz
   rw [← List.map_reverse]
   generalize binds.reverse = l
   induction l with
   | nil => rfl
   | cons p r ih =>
    obtain ⟨k, v⟩ := p
    simp only [List.map_cons, List.lookup_cons]
    cases x == k with
    | true => rfl
    | false => exact ih
  ·by_cases e2 : a = s.heap.objs.size + 2
   ·subst e2
    rw [St.put_self] at e
    cases e
    exact ⟨⟨none, c2, rfl⟩, by show s.heap.objs.size + 2 ≠ s.heap.objs.size; lia, (habove _ (by lia)).1⟩
   ·rw [St.put_ne e2] at e
    by_cases e1 : a = s.heap.objs.size + 1
    ·subst e1
     rw [St.put_self] at e
     cases e
     exact ⟨⟨none, c1, rfl⟩, by show s.heap.objs.size + 1 ≠ s.heap.objs.size; lia, (habove _ (by lia)).1⟩
    ·rw [St.put_ne e1] at e
     obtain ⟨h1, h2, h3⟩ := hs.hp a ob e
     obtain ⟨oa, ha⟩ := holds_some h1
     exact ⟨holds_keep (fun ob' e' => hk₁ a ob' e') h1, Nat.ne_of_lt (Heap.lt_size ha), hideP_none (by rw [e]; simp)⟩
 refine wpAny_mono ((h ⟨c.w, c.A.deeper (callEnvC fd s.heap.objs.size f), hideP s.heap fun a => st.hp a ≠ none, callEnvC fd s.heap.objs.size f, c.g, c.o⟩ (s.heap.objs.size + 1) (s.heap.objs.size + 2) rfl rfl rfl rfl rfl hkeep (habove (s.heap.objs.size + 1) (Nat.le_add_right ..)).2 (habove (s.heap.objs.size + 2) (Nat.le_add_right ..)).2 (Nat.ne_of_lt (Nat.lt_succ_self (s.heap.objs.size + 1))) hce (habove _ (Nat.le_refl _)).1).run _ M) ?_ ?_
 ·rintro fl s' ⟨st', m', p⟩
  have back : Mod c ⟨st.loc, st'.hp⟩ s' := by
   obtain ⟨m1, F1, _⟩ := m'.fr
   have kL : ∀ o, s.heap.get? c.env.locals = some o → s'.heap.get? c.env.locals = some o := fun o e => F1.keep _ _ ((hideP_get hLn).trans e)
   refine ⟨⟨m, ⟨⟨oL, es, ep, kL _ hL, hLd, hLk, hLf⟩, fun b o e => F1.keep b o (hkeep b o e)⟩, hm⟩, fun a ob e => ?_, m'.g, m'.o⟩
   obtain ⟨h1, h2, h3⟩ := m'.hp a ob e
   refine ⟨h1, fun q => ?_, ?_⟩
   ·have : (hideP s.heap fun a => st.hp a ≠ none).get? a = some oL := by rw [q]; exact (hideP_get hLn).trans hL
    rw [h3] at this; cases this
   ·cases q : c.h₀.get? a with
    | none => rfl
    | some ob' => have := hkeep a ob' q; rw [h3] at this; cases this
  cases fl <;> exact ⟨_, back, p⟩
 ·intro e s' x; exact x.elim
theorem CALL_fn2 {a : Addr} {x1 x2 : Str} {args : List Value} {vals : List (Option Value)} (G : Good c (n + 1)) (Bs : Base c.w c.h₀) (F : FnAt c.h₀ a T .none) (tab : TabN T names)
  (hb : ∀ nm q doc pm an code ct us, us.length = args.length → bindArgs (fdOf T .none nm q doc pm an code ct) ⟨us, []⟩ = pure (names.zip us)) (hl : args.length ≤ names.length)
  (hv : args.map some ++ List.replicate (names.length - args.length) none = vals) (hcs : ∀ L, cellsFrom (L + 1) (scopeOf T).names [] = [(x2, L + 2), (x1, L + 1)]) (hx : x1 ≠ x2)
  (h : ∀ c' a1 a2, Here T names n c' → st.hp a1 = none → st.hp a2 = none → a1 ≠ a2 → c'.env.cells = [(x2, a2), (x1, a1)] → XB c' (bodyOf T) ⟨look names vals, ((st.put a1 (.cell none)).put a2 (.cell none)).hp⟩ fun fl st' => Φ (retV fl) ⟨st.loc, st'.hp⟩) : CALL c (.ref a) args st Φ := by
 refine hide fun G9 hG9 => ?_
 obtain ⟨nm, q, doc, pm, an, code, ct, cl, dc, sl, h1, h2⟩ := F.at_
 refine hG9 ?_
 intro u us hu hus
 rw [z_ref hu]
 refine .of fun s hs => wpAny_call ?_
 refine CODE_cells (zb := names.zip args) (n := n + 1) G h1 rfl h2 rfl (fun us hu => ?_) rfl hcs hx ?_ tab.co tab.gen tab.kind (fun c' a1 a2 e1 e2 e3 e4 e5 kp n1 n2 n3 hce hoff => ?_) hus hs
 ·refine ⟨_, hb nm q doc pm an code ct us (by rw [← hu, List.length_map]), ?_⟩
  unfold zz
  rw [← hu, List.zip_map_right]
  rfl
 ·intro x hx
  exact tab.loc _ (List.of_mem_zip hx).1
 ·rw [zip_look tab.nodup args hl, hv]
  refine h c' a1 a2 ⟨by rw [e1]; exact Bs.keeps kp, ?_, e3, e4, e5, tab, hoff⟩ n1 n2 n3 hce
  refine hide fun G9 hG9 => ?_
  obtain ⟨g1, g2, g3, g4, g5⟩ := G
  refine hG9 ?_
  refine ⟨by rw [e2]; exact g1, ?_, ?_, by rw [e3]; exact tab.kind, g5.keeps kp⟩
  ·rw [e2]; show c.A.units + 3 + 20 * n + 500 < cLine; lia
  ·rw [e2]; show c.A.depth + 1 + 3 * n + 10 < recursionLimit; lia
end
end Mine
end
section
open PySem PySem.W PyProof.Rows PySem.Calls
namespace Mine
section
variable {c : Cx} {st : St} {Φ : Value → St → Prop} {Ψ : AF → St → Prop} {n : Nat}
theorem Mod.off {s : Shared} {h' : Heap} {tk : Nat} (hs : Mod c st s) (P : Addr → Prop) (k : ∀ b o, ¬ P b → s.heap.get? b = some o → h'.get? b = some o) (hP : ∀ b, P b → st.hp b = none ∧ c.h₀.get? b = none ∧ b ≠ c.env.locals) : Mod c st { s with heap := h', toks := tk } := by
 obtain ⟨m, F, hm⟩ := hs.fr
 refine ⟨⟨m, ⟨F.ns.at' fun o e => k _ o (fun q => (hP _ q).2.2 rfl) e, fun b o e => k b o (fun q => by rw [(hP b q).2.1] at e; cases e) (F.keep b o e)⟩, hm⟩, fun a o e => ?_, hs.g, hs.o⟩
 obtain ⟨h1, h2, h3⟩ := hs.hp a o e
 exact ⟨holds_keep (fun ob e' => k a ob (fun q => by rw [(hP a q).1] at e; cases e) e') h1, h2, h3⟩
theorem Mod.inner {s : Shared} {C : Addr} {m₃ : Str → Option Value} {env2 : Env} (hs : Mod c st s) (hn : s.heap.Ns C m₃) (hC : st.hp C = none) (he : env2.locals = C) :
  Mod ⟨c.w, c.A, hideP s.heap (fun a => st.hp a ≠ none ∨ a = C), env2, c.g, c.o⟩ ⟨fun y => (m₃ y).map z, st.hp⟩ s := by
 subst he
 refine ⟨⟨m₃, ⟨hn, fun b o e => ?_⟩, fun _ => rfl⟩, fun a o e => ?_, hs.g, hs.o⟩
 ·by_cases q : st.hp b ≠ none ∨ b = env2.locals
  ·rw [hideP_none q] at e; cases e
  ·rw [hideP_get q] at e; exact e
 ·obtain ⟨h1, h2, h3⟩ := hs.hp a o e
  exact ⟨h1, (fun q => by rw [q] at e; rw [hC] at e; cases e), hideP_none (.inl (by rw [e]; simp))⟩
theorem Mod.outer {s s4 : Shared} {C : Addr} {env2 : Env} {st2 : St} (hs : Mod c st s) (hC0 : c.h₀.get? C = none) (hCL : C ≠ c.env.locals) (he : env2.locals = C)
  (m4 : Mod ⟨c.w, c.A, hideP s.heap (fun a => st.hp a ≠ none ∨ a = C), env2, c.g, c.o⟩ st2 s4) :
  Mod c ⟨st.loc, st2.hp⟩ s4 ∧ (∃ m, s4.heap.Ns C m) ∧ st2.hp C = none ∧ ∀ b o, st.hp b = none → b ≠ C → s.heap.get? b = some o → s4.heap.get? b = some o ∧ st2.hp b = none := by
 subst he
 refine hide fun G9 hG9 => ?_
 obtain ⟨m, F, hm⟩ := hs.fr
 obtain ⟨m', F', _⟩ := m4.fr
 refine hG9 ?_
 have key : ∀ b o, st.hp b = none → b ≠ env2.locals → s.heap.get? b = some o → (hideP s.heap (fun a => st.hp a ≠ none ∨ a = env2.locals)).get? b = some o := fun b o h1 h2 e =>
  (hideP_get (fun q => by rcases q with q | q; exact q h1; exact h2 q)).trans e
 have hb : ∀ b o, st.hp b = none → b ≠ env2.locals → s.heap.get? b = some o → s4.heap.get? b = some o ∧ st2.hp b = none := fun b o h1 h2 e => by
  have e1 := key b o h1 h2 e
  refine ⟨F'.keep b o e1, ?_⟩
  cases q : st2.hp b with
  | none => rfl
  | some ob => have := (m4.hp b ob q).2.2; rw [e1] at this; cases this
 have hbase : ∀ b o, c.h₀.get? b = some o → (hideP s.heap (fun a => st.hp a ≠ none ∨ a = env2.locals)).get? b = some o := fun b o e => by
  refine key b o ?_ (fun q => by rw [q, hC0] at e; cases e) (F.keep b o e)
  cases hq : st.hp b with
  | none => rfl
  | some ob => have := (hs.hp b ob hq).2.2; rw [e] at this; cases this
 have hLn : st.hp c.env.locals = none := by
  cases hq : st.hp c.env.locals with
  | none => rfl
  | some ob => exact absurd rfl (hs.hp _ ob hq).2.1
 refine hide fun G9 hG9 => ?_
 obtain ⟨oL, es, ep, hL, r⟩ := F.ns
 refine hG9 ?_
 refine ⟨⟨⟨m, ⟨⟨oL, es, ep, (hb _ _ hLn (Ne.symm hCL) hL).1, r⟩, fun b o e => F'.keep b o (hbase b o e)⟩, hm⟩, fun a o e => ?_, m4.g, m4.o⟩, ⟨m', F'.ns⟩, ?_, hb⟩
 ·obtain ⟨h1, h2, h3⟩ := m4.hp a o e
  refine ⟨h1, fun q => ?_, ?_⟩
  ·have := key _ _ hLn (Ne.symm hCL) hL
   rw [q] at h3
   rw [h3] at this; cases this
  ·cases q : c.h₀.get? a with
   | none => rfl
   | some ob => have := hbase a ob q; rw [h3] at this; cases this
 ·cases q : st2.hp env2.locals with
  | none => rfl
  | some ob => exact absurd rfl (m4.hp _ ob q).2.1
open LCg in
theorem EX_ListComp {elt iter : Expr} {x : Str} {px pos : Pos} {scope : Scope} {cl : List (Str × Addr)} {J : Nat → List Value → (Addr → Option AObj) → Prop} (hh : c.A.handled = none)
  (hfs : ∀ v, foldedSetIterable iter c.env v = pure v)
  (hclos : closureFor scope c.env = pure cl) (hcell : ∀ y ∈ scope.names, y.2 ≠ .cell) (hkind : scope.kind = .function) (hnames : ∀ y ∈ scope.names, y.2 = .local → scope.names.lookup y.1 = some .local) (hx : scope.names.lookup x = some .local)
  (h : EX c iter st fun v st1 => ∃ r, ∃ k : Nat, v = .ref r ∧ st1.hp r = some (.rng 0 k) ∧ k ≤ 1000 ∧ J 0 [] st1.hp ∧
   (∀ i ys hp c2 lc, i < k → J i ys hp → c2.w = c.w → c2.A = c.A → (∃ C, c2.env = compEnvC scope cl C c.env) → lc x = some (iv i) → EX c2 elt ⟨lc, hp⟩ fun y st2 => J (i + 1) (ys ++ [y]) st2.hp) ∧
   ∀ ys hp, J k ys hp → ys.length = k → ∀ a, hp a = none → Φ (.ref a) ((⟨st1.loc, hp⟩ : St).put a (.list ys))) : EX c (.ListComp elt [⟨.Name x px, iter, [], 0⟩] scope pos) st Φ := .of fun s hs => by
 rw [eval_ListComp]
 refine wpAny_comprehension_free (use := none) rfl hfs hclos hkind hnames (WP.thru h hs fun xv s1 st1 m1 h1 => ?_)
 refine hide fun G9 hG9 => ?_
 obtain ⟨r, k, rfl', hr, hk, h0, turn, done⟩ := h1
 refine hG9 ?_
 rw [z_ref rfl']
 obtain ⟨t, u, v, k1⟩ := (m1.hp r _ hr).1
 refine wpAny_pyIter_range k1 (small_one (by lia) (by lia) (by lia) (by lia)) ?_
 have hsz : Builtin.Range.rangeSize 0 k 1 = ((k : Nat) : Int) := by rw [rangeSize_one]; split <;> lia
 rw [hsz]
 generalize hI : s1.heap.objs.size = I
 obtain ⟨hI1, hI2, hI3⟩ := m1.above (b := I) (by rw [hI]; exact Nat.le_refl _)
 have m2 : Mod c st1 { s1 with heap := s1.heap.push { cls := .type "range_iterator", data := .fields #[rawInt 0, rawInt k, rawInt 1] }, toks := s1.toks } := m1.keep fun b o e => Heap.get?_push_of_some _ e
 have oI : (s1.heap.push { cls := .type "range_iterator", data := .fields #[rawInt 0, rawInt k, rawInt 1] }).get? I = some { cls := .type "range_iterator", data := .fields #[rawInt 0, rawInt k, rawInt 1] } := by rw [← hI]; exact Heap.get?_push_size _ rfl
 generalize (s1.heap.push { cls := .type "range_iterator", data := .fields #[rawInt 0, rawInt k, rawInt 1] }) = h2 at m2 oI ⊢
 refine wpAny_newObj_type (wpAny_newFunctionEnv hcell (by intro y hy; simp at hy) (fun h₁ hns₁ hsb₁ => ?_) hkind)
 dsimp only at hns₁ hsb₁ ⊢
 generalize hD : h2.objs.size = D at hns₁ hsb₁ ⊢
 obtain ⟨hD1, hD2, hD3⟩ := m2.above (b := D) (by rw [← hD]; exact Nat.le_refl _)
 have m3 : Mod c st1 { s1 with heap := h2.push { cls := .type "list", dict := none, data := .seq ([] : List Value).toArray }, toks := s1.toks } := m2.keep fun b o e => Heap.get?_push_of_some _ e
 have oD : (h2.push { cls := .type "list", dict := none, data := .seq ([] : List Value).toArray }).get? D = some (lst []) := by rw [← hD]; exact Heap.get?_push_size _ rfl
 have oI3 : (h2.push { cls := .type "list", dict := none, data := .seq ([] : List Value).toArray }).get? I = _ := Heap.get?_push_of_some _ oI
 have hID : I ≠ D := fun q => by rw [q, ← hD] at oI; exact absurd (Heap.lt_size oI) (Nat.lt_irrefl _)
 generalize (h2.push { cls := .type "list", dict := none, data := .seq ([] : List Value).toArray }) = h3 at m3 oD oI3 hns₁ hsb₁ ⊢
 generalize hC : h3.objs.size = C at hns₁ hsb₁ ⊢
 obtain ⟨hC1, hC2, hC3⟩ := m3.above (b := C) (by rw [← hC]; exact Nat.le_refl _)
 have hIC : I ≠ C := fun q => by rw [q, ← hC] at oI3; exact absurd (Heap.lt_size oI3) (Nat.lt_irrefl _)
 have hDC : D ≠ C := fun q => by rw [q, ← hC] at oD; exact absurd (Heap.lt_size oD) (Nat.lt_irrefl _)
 have up : ∀ b o, b ≠ C → h3.get? b = some o → h₁.get? b = some o := fun b o hb e => hsb₁.extBut b o hb (Heap.get?_push_of_some _ e)
 have W : Walks PW c.w c.A I [I] [I] k (fun i v => ∃ t, v = .int (0 + (i : Int)) t) (fun i h => IsRangeIter h I (0 + (i : Nat) * 1) ((k : Int) - (i : Nat)) 1) := range_walks hh 0 k
 have hst₁ : IsRangeIter h₁ I (0 + (0 : Nat) * 1) ((k : Int) - (0 : Nat)) 1 := by
  have : h₁.get? I = _ := up _ _ hIC oI3
  simpa using this
 have loop : ∀ s₃ : Shared, s₃ = { s1 with heap := h₁, toks := s1.toks + ([] : List (Str × Value)).length } →
   codeAny (model PW c.w) c.A (.compLoop (.ListComp elt [⟨.Name x px, iter, [], 0⟩] scope pos) 0 (.ref I) (.ref D) (compEnvC scope cl C c.env))
    (compPost (model PW c.w) c.A (fun _ _ => False) none (fun v s' => ∃ st', Mod c st' s' ∧ Φ (z v) st') (.ref D) C) s₃ := by
  rintro s₃ rfl
  obtain ⟨Q, hQ1, hQ2⟩ : ∃ Q : Nat → Shared → Prop, (∀ kk s', Q kk s' → ∃ i zs hp, i ≤ k ∧ kk = k + 1 - i ∧ zs.length = i ∧ IsRangeIter s'.heap I (0 + (i : Nat) * 1) ((k : Int) - (i : Nat)) 1 ∧ (∃ m', s'.heap.Ns C m') ∧ s'.heap.get? D = some (lst zs) ∧ Mod c ⟨st1.loc, hp⟩ s' ∧ hp I = none ∧ hp D = none ∧ hp C = none ∧ J i (zs.map z) hp) ∧ (∀ s' i zs hp, i ≤ k → zs.length = i → IsRangeIter s'.heap I (0 + (i : Nat) * 1) ((k : Int) - (i : Nat)) 1 → (∃ m', s'.heap.Ns C m') → s'.heap.get? D = some (lst zs) → Mod c ⟨st1.loc, hp⟩ s' → hp I = none → hp D = none → hp C = none → J i (zs.map z) hp → Q (k + 1 - i) s') :=
   ⟨_, fun _ _ h => h, fun s' i zs hp h1 h2 h3 h4 h5 h6 h7 h8 h9 h10 => ⟨i, zs, hp, h1, rfl, h2, h3, h4, h5, h6, h7, h8, h9, h10⟩⟩
  refine codeAny_compLoop_tests Q ?_ (k + 1) (hQ2 _ 0 [] st1.hp (Nat.zero_le _) rfl hst₁ ⟨_, hns₁⟩ (up _ _ hDC oD) ?_ hI1 hD1 hC1 h0)
  ·intro kk s' hX9
   refine hide fun G9 hG9 => ?_
   obtain ⟨i, zs, hp, hi, hkk, hzl, hst', ⟨m', hn'⟩, hDD, hM, hpI, hpD, hpC, hJ⟩ := hQ1 _ _ hX9
   refine hG9 ?_
   by_cases hlt : i < k
   ·refine W.item i _ _ _ hlt hst' fun v h₂ tk₂ hPv hst₂ hk₂ => ?_
    obtain ⟨tv, rfl⟩ := hPv
    refine wpAny_assign_Name (wpAny_storeName_local (lookup_relabel_local hx) (hn'.at' fun o e => hk₂ _ o (by simpa using Ne.symm hIC) e) (fun h₃ hn₃ hs₃ => ?_) (by simp [compEnvC, relabel, hkind]))
    refine wpAny_tests_nil ?_
    simp only [if_true]
    have kk3 : ∀ b o, ¬ (b = I ∨ b = C) → s'.heap.get? b = some o → h₃.get? b = some o := fun b o hb e => hs₃.extBut b o (fun q => hb (.inr q)) (hk₂ b o (by simpa using fun q => hb (.inl q)) e)
    have hst₃ : IsRangeIter h₃ I (0 + ((i + 1 : Nat) : Int) * 1) ((k : Int) - ((i + 1 : Nat) : Int)) 1 := W.frame _ _ _ hst₂ fun b hb o e => hs₃.extBut b o (by rw [List.mem_singleton.mp hb]; exact hIC) e
    have m3 : Mod c ⟨st1.loc, hp⟩ { s' with heap := h₃, toks := tk₂ + 1 } := hM.off (fun b => b = I ∨ b = C) kk3 fun b hb => by
     rcases hb with e9 | e9 <;> rw [e9]
     ·exact ⟨hpI, hI2, hI3⟩
     ·exact ⟨hpC, hC2, hC3⟩
    have M2 := m3.inner (env2 := compEnvC scope cl C c.env) hn₃ hpC rfl
    refine wpAny_mono ((turn i (zs.map z) hp ⟨c.w, c.A, hideP h₃ (fun a => hp a ≠ none ∨ a = C), compEnvC scope cl C c.env, c.g, c.o⟩ (fun y => (if y = x then some (Value.int (0 + (i : Int)) tv) else m' y).map z) hlt hJ rfl rfl ⟨C, rfl⟩ ?_).run _ M2) (fun y s₄ h₄ => ?_) fun _ _ e => e.elim
    ·simp only [if_true]
     show some (Value.int (0 + (i : Int)) 0) = _
     rw [Int.zero_add]
    refine hide fun G9 hG9 => ?_
    obtain ⟨st2, m4, hJ4⟩ := h₄
    obtain ⟨mo, hn4, hC4, k4⟩ := m3.outer hC2 hC3 rfl m4
    obtain ⟨d1, d2⟩ := k4 D _ hpD hDC (kk3 D _ (by rintro (q | q); exact hID q.symm; exact hDC q) hDD)
    obtain ⟨i1, i2⟩ := k4 I _ hpI hIC hst₃
    refine hG9 ?_
    refine append_at (hsz := by show zs.toArray.size ≤ sizeLine; rw [List.size_toArray, hzl, sizeLine_eq]; lia) d1 fun h₅ hs₅ hD₅ => ?_
    obtain ⟨m4', hn4⟩ := hn4
    refine ⟨k + 1 - (i + 1), by lia, hQ2 _ (i + 1) (zs ++ [y]) st2.hp hlt (by rw [List.length_append, List.length_singleton, hzl]) (hs₅.extBut _ _ hID i1) ⟨m4', hn4.sameBut hs₅ (Ne.symm hDC)⟩ (hD₅.trans (congrArg some (lst_snoc zs y))) ?_ i2 d2 hC4 ?_⟩
    ·exact mo.off (tk := s₄.toks) (fun b => b = D) (fun b o hb e => hs₅.extBut b o hb e) fun b hb => by
      rw [hb]; exact ⟨d2, hD2, hD3⟩
    ·rw [List.map_append]; exact hJ4
   ·have eik := Nat.le_antisymm hi (Nat.not_lt.mp hlt)
    rw [eik] at hst' hJ hzl
    refine W.done _ _ _ hst' fun h₂ tk₂ hk₂ => ?_
    refine ⟨m', hn'.at' fun o e => hk₂ _ o (by simpa using Ne.symm hIC) e, fun h'' hs'' => ?_⟩
    have kk3 : ∀ b o, ¬ (b = I ∨ b = C) → s'.heap.get? b = some o → h''.get? b = some o := fun b o hb e => hs''.extBut b o (fun q => hb (.inr q)) (hk₂ b o (by simpa using fun q => hb (.inl q)) e)
    have m3 : Mod c ⟨st1.loc, hp⟩ { s' with heap := h'', toks := tk₂ } := hM.off (fun b => b = I ∨ b = C) kk3 fun b hb => by
     rcases hb with e9 | e9 <;> rw [e9]
     ·exact ⟨hpI, hI2, hI3⟩
     ·exact ⟨hpC, hC2, hC3⟩
    exact ⟨_, m3.back (a := D) (o := .list (zs.map z)) ⟨zs, _, kk3 D _ (by rintro (q | q); exact hID q.symm; exact hDC q) hDD, rfl⟩ hD3 hD2, done (zs.map z) hp hJ (by rw [List.length_map, hzl]) D hpD⟩
  ·exact m3.off (tk := s1.toks + 0) (fun b => b = C) up fun b hb => by
    rw [hb]; exact ⟨hC1, hC2, hC3⟩
 exact codeAny_compStart_list (loop _ rfl) (W.self 0 _ _ _ hst₁ (loop _ rfl))
end
end Mine
end
section
open PySem PySem.W PyProof.Rows PySem.Calls
namespace Mine
noncomputable abbrev sL (l : List Nat) : List Value := l.map fun n => sv [n]
noncomputable abbrev iL (l : List Nat) : List Value := l.map fun n : Nat => iv n
noncomputable abbrev mvals (J : Value) (la lb : Addr) (auto : Bool) (mb oc : Value) (d jd pd : Addr) : List (Option Value) := [some J, some (.ref la), some (.ref lb), some (.bool auto), some mb, some oc, some .none, some (.ref d), some (.ref jd), some (.ref pd)]
structure Tabs (hp : Addr → Option AObj) (lb d jd : Addr) (bs junk : List Nat) (act : Nat → Bool) : Prop where
 lb : hp lb = some (.list (sL bs))
 d : ∃ kvs, hp d = some (.dictS kvs) ∧ ∀ ch, (act ch = true ∧ ch ∈ bs → ∃ li, valueAt kvs ⟨#[ch]⟩ = some (.ref li) ∧ hp li = some (.list (iL (places bs ch)))) ∧ (¬ (act ch = true ∧ ch ∈ bs) → valueAt kvs ⟨#[ch]⟩ = none)
 jd : ∃ S n, hp jd = some (.setS S n) ∧ ∀ ch ∈ bs, S ⟨#[ch]⟩ = junk.contains ch
theorem Tabs.keeps {hp hp' : Addr → Option AObj} {lb d jd : Addr} {bs junk : List Nat} {act : Nat → Bool} (T : Tabs hp lb d jd bs junk act) (k : Keeps hp hp') : Tabs hp' lb d jd bs junk act := by
 refine ⟨k _ _ T.lb, ?_, ?_⟩
 ·obtain ⟨kvs, h1, h2⟩ := T.d
  refine ⟨kvs, k _ _ h1, fun ch => ⟨fun h => ?_, (h2 ch).2⟩⟩
  obtain ⟨li, h3, h4⟩ := (h2 ch).1 h
  exact ⟨li, h3, k _ _ h4⟩
 ·obtain ⟨S, n, h1, h2⟩ := T.jd
  exact ⟨S, n, k _ _ h1, h2⟩
noncomputable abbrev nLong : List Str := ["self", "alo", "ahi", "blo", "bhi", "a", "b", "b2j", "isbjunk", "besti", "bestj", "bestsize", "j2len", "nothing", "i", "j2lenget", "newj2len", "j", "k"]
theorem loc3 {v0 v1 v2 v3 v4 v5 v6 v7 v8 v12 v13 v14 v15 v16 v17 v18 : Option Value} {a b d a' b' d' : Int} (h1 : a = a') (h2 : b = b') (h3 : d = d') : look nLong [v0, v1, v2, v3, v4, v5, v6, v7, v8, some (iv a), some (iv b), some (iv d), v12, v13, v14, v15, v16, v17, v18] = look nLong [v0, v1, v2, v3, v4, v5, v6, v7, v8, some (iv a'), some (iv b'), some (iv d'), v12, v13, v14, v15, v16, v17, v18] := by rw [h1, h2, h3]
theorem loc3p {v0 v1 v2 v3 v4 v5 v6 v7 v8 v12 v13 v14 v15 v16 v17 v18 : Option Value} {p p' : Nat × Nat × Nat} (h : p = p') : look nLong [v0, v1, v2, v3, v4, v5, v6, v7, v8, some (iv ((p.1 : Nat) : Int)), some (iv ((p.2.1 : Nat) : Int)), some (iv ((p.2.2 : Nat) : Int)), v12, v13, v14, v15, v16, v17, v18] = look nLong [v0, v1, v2, v3, v4, v5, v6, v7, v8, some (iv ((p'.1 : Nat) : Int)), some (iv ((p'.2.1 : Nat) : Int)), some (iv ((p'.2.2 : Nat) : Int)), v12, v13, v14, v15, v16, v17, v18] := by rw [h]
theorem subN {P : Value → Prop} {hp : Addr → Option AObj} {u : Addr} {as : List Nat} {i : Value} (n : Nat) (za : as.length ≤ 1000) (ha : hp u = some (.list (sL as))) (hi : i = iv n) (hn : n < as.length) (h : P (sv [as[n]])) : ∃ a vs, Value.ref u = .ref a ∧ hp a = some (.list vs) ∧ ∃ n : Nat, i = iv n ∧ ∃ v, vs[n]? = some v ∧ vs.length ≤ sizeLine ∧ P v :=
 ⟨u, sL as, rfl, ha, n, hi, sv [as[n]], by rw [List.getElem?_map, List.getElem?_eq_getElem hn]; rfl, by rw [List.length_map, sizeLine_eq]; exact Nat.le_trans za (by decide), h⟩
set_option maxHeartbeats 2000000 in
theorem tab_long : Tab (inCls 5 6) nLong where
 nodup := by decide +kernel
 loc := by decide +kernel
 dbg := by decide +kernel
 cell := by decide +kernel
 co := by rfl
 gen := by rfl
 kind := by rfl
section
variable {c : Cx} {st : St} {Φ : Value → St → Prop} {n : Nat}
theorem XS_AssignT4 {t1 t2 t3 t4 : Expr} {k : Nat} {tpos pos : Pos} {value : Expr} {T : Stmt} {names : List Str} {Ψ : AF → St → Prop} (H : Here T names n c) (hsw : swapsWithSole [.Tuple [t1, t2, t3, t4] k tpos] value pos.line c.env = pure false) (hw : swappedStores [.Tuple [t1, t2, t3, t4] k tpos] value (envOf T) = pure none)
  (he : (assignEach [t1, t2, t3, t4] c.env).map (·.2) = [assign t1 c.env, assign t2 c.env, assign t3 c.env, assign t4 c.env]) (hlen : (assignEach [t1, t2, t3, t4] c.env).length = 4) (hstar : (assignEach [t1, t2, t3, t4] c.env).findIdx? (·.1) = none)
  (h : EX c value st fun v st1 => ∃ a v1 v2 v3 v4, v = .ref a ∧ st1.hp a = some (.tup [v1, v2, v3, v4]) ∧ ASG c t1 v1 st1 fun st2 => ASG c t2 v2 st2 fun st3 => ASG c t3 v3 st3 fun st4 => ASG c t4 v4 st4 fun st5 => Ψ .next st5) : XS c (.Assign [.Tuple [t1, t2, t3, t4] k tpos] value pos) st Ψ := by
 refine XS_AssignT hsw (H.swap hw) (h.mono ?_)
 rintro v st1 ⟨a, v1, v2, v3, v4, h1, h2, h3⟩
 rw [h1]
 exact ASG_Tuple4 H.hand he hlen hstar h2 h3
theorem XB_gen {b : List Stmt} {Ψ : AF → St → Prop} (Q : St → Prop) (hq : Q st) (h : ∀ S, Q S → XB c b S Ψ) : XB c b st Ψ := h st hq
noncomputable def RowIs (kvs : List (Int × Value)) (r : Nat → Nat) : Prop := ∀ j : Int, valueAt kvs j = if 0 ≤ j ∧ 0 < r j.toNat then some (iv (r j.toNat)) else none
theorem rowE_pos (w : Win) (m j : Nat) : 0 < rowE w (m + 1) j ↔ j ∈ idx w (w.alo + m) := by
 show 0 < row w (rowE w m) (w.alo + m) j ↔ _
 unfold row
 split
 ·rename_i h; exact ⟨fun _ => h, fun _ => Nat.succ_pos _⟩
 ·rename_i h; exact ⟨fun q => absurd q (Nat.lt_irrefl _), fun q => absurd q h⟩
theorem rowE_in (w : Win) {m j : Nat} (h : j ∈ idx w (w.alo + m)) : rowE w (m + 1) j = (if j = 0 then 0 else rowE w m (j - 1)) + 1 := by
 show row w (rowE w m) (w.alo + m) j = _
 unfold row
 rw [if_pos h]
theorem take_succ' {l : List Nat} {t j : Nat} (h : l[t]? = some j) : l.take (t + 1) = l.take t ++ [j] := by
 rw [List.take_succ, h]; rfl
theorem filter_cut {l : List Nat} {t j blo bhi : Nat} (hs : l.Pairwise (· < ·)) (h : l[t]? = some j) (hj : bhi ≤ j) : (l.take t).filter (fun j => decide (blo ≤ j) && decide (j < bhi)) = l.filter (fun j => decide (blo ≤ j) && decide (j < bhi)) := by
 have e : l = l.take t ++ l.drop t := (List.take_append_drop t l).symm
 have e2 : (l.drop t).filter (fun j => decide (blo ≤ j) && decide (j < bhi)) = [] := by
  rw [List.filter_eq_nil_iff]
  intro x hx
  rw [drop_of_get h] at hx
  have : j ≤ x := by
   rcases List.mem_cons.mp hx with rfl | hx
   ·exact Nat.le_refl _
   ·have hs' : (l.drop t).Pairwise (· < ·) := hs.drop
    rw [drop_of_get h] at hs'
    exact Nat.le_of_lt ((List.pairwise_cons.mp hs').1 x hx)
  simp; lia
 conv => rhs; rw [e, List.filter_append, e2, List.append_nil]
theorem EX_contains {o : Expr} {pos : Pos} (he : eval (.Attribute o "__contains__" pos) c.env = (do
   let o' ← eval o c.env
   standAt pos.atName
   let r ← holding [o'] (getAttr o' "__contains__" true)
   letTemporaryGo o o' r
   pure r)) (h : EX c o st fun ov st1 => ∃ a S m, ov = .ref a ∧ st1.hp a = some (.setS S m) ∧ ∀ b, st1.hp b = none → Φ (.ref b) (st1.put b (.bm (.builtin "set.__contains__") (.ref a)))) : EX c (.Attribute o "__contains__" pos) st Φ := by
 refine EX_Attr he (h.mono ?_)
 rintro v st1 ⟨a, S, m, h1, h2, h3⟩
 rw [h1]
 exact GETA_scontains h2 h3
theorem EX_dget {o : Expr} {pos : Pos} (he : eval (.Attribute o "get" pos) c.env = (do
   let o' ← eval o c.env
   standAt pos.atName
   let r ← holding [o'] (getAttr o' "get" true)
   letTemporaryGo o o' r
   pure r)) (h : EX c o st fun ov st1 => ∃ a kvs, ov = .ref a ∧ st1.hp a = some (.dictI kvs) ∧ ∀ b, st1.hp b = none → Φ (.ref b) (st1.put b (.bm (.builtin "dict.get") (.ref a)))) : EX c (.Attribute o "get" pos) st Φ := by
 refine EX_Attr he (h.mono ?_)
 rintro v st1 ⟨a, kvs, h1, h2, h3⟩
 rw [h1]
 exact GETA_dget h2 h3
set_option maxHeartbeats 4000000 in
theorem call_long {x dx la lb d jd pd : Addr} {J mb oc : Value} {auto : Bool} {as bs junk : List Nat} {act : Nat → Bool} {alo ahi blo bhi : Nat} (G : Good c (n + 3)) (Bs : Base c.w c.h₀) (M : SM st.hp x dx (mvals J la lb auto mb oc d jd pd)) (hla : st.hp la = some (.list (sL as))) (T : Tabs st.hp lb d jd bs junk act)
  (ok : Win.Ok ⟨as, bs, act, alo, ahi, blo, bhi⟩) (za : as.length ≤ 1000) (zb : bs.length ≤ 1000)
  (hΦ : ∀ r hp', st.hp r = none → Keeps st.hp hp' → hp' r = some (.mat aMatch (encM (longest ⟨as, bs, act, alo, ahi, blo, bhi⟩ junk))) → Φ (.ref r) ⟨st.loc, hp'⟩) : CALL c (.ref aLong) [.ref x, iv alo, iv ahi, iv blo, iv bhi] st Φ := by
 obtain ⟨D, us0, n0, F, hD2⟩ := Bs.fLong
 refine CALL_fn (T := inCls 5 6) (D := .ref D) (args' := [.ref x, iv alo, iv ahi, iv blo, iv bhi]) (vals := [some (.ref x), some (iv alo), some (iv ahi), some (iv blo), some (iv bhi), none, none, none, none, none, none, none, none, none, none, none, none, none, none]) G Bs F tab_long (fun nm q doc pm an code ct s us hs hu => ?_) (by simp) rfl fun c' H => ?_
 ·refine ⟨us, ?_, hu⟩
  have hl : us.length = 5 := by rw [← List.length_map (f := z), hu]; rfl
  obtain ⟨u1, u2, u3, u4, u5, rfl⟩ := len5 hl
  obtain ⟨v1, v2, v3, v4, e0, w1, w2, w3, w4⟩ := four hD2.2
  have : us0 = #[v1, v2, v3, v4] := by rw [← Array.toArray_toList (xs := us0), e0]
  subst this
  exact BindsTo.of_defaults rfl (hs _ _ hD2.1) rfl rfl rfl
 ·refine XB_cons ?_
  refine XS_E H rfl ?_
  repeat walk_at "m1"
  refine XS_AssignT4 H rfl (by kernel_rfl) rfl rfl rfl ?_
  repeat walk_at "m1"
  walk_at "self"
  repeat walk_at "m1"
  walk_at "self"
  repeat walk_at "m1"
  walk_at "self"
  repeat walk_at "m1"
  refine EX_contains rfl ?_
  walk_at "self"
  obtain ⟨S, ns, hjd, hS⟩ := T.jd
  refine ⟨jd, S, ns, rfl, hjd, fun bm hbm => ?_⟩
  repeat walk_at "m1"
  refine ⟨Nat.le_of_ble_eq_true rfl, fun t ht => ⟨t, _, _, _, _, rfl, St.put_self, ?_⟩⟩
  refine ASG_loc H rfl (by walk_at "loc") ?_
  refine ASG_loc H rfl (by walk_at "loc") ?_
  refine ASG_loc H rfl (by walk_at "loc") ?_
  refine ASG_loc H rfl (by walk_at "loc") ?_
  repeat walk_at "m1"
  refine XS_If' ?_
  repeat walk_at "m1"
  refine ⟨fun q => by simp at q, fun _ => ?_⟩
  repeat walk_at "m1"
  refine XS_If' ?_
  repeat walk_at "m1"
  refine ⟨fun q => by simp at q, fun _ => ?_⟩
  repeat walk_at "m1"
  refine EX_DictI fun j0 hj0 => ?_
  repeat walk_at "m1"
  refine ⟨Nat.zero_le _, fun no hno => ?_⟩
  repeat walk_at "m1"
  have nbt : bm ≠ t := St.apart ht St.put_self
  have nbj : bm ≠ j0 := St.apart hj0 (St.hp_there nbt St.put_self)
  have nbn : bm ≠ no := St.apart hno (St.hp_there nbj (St.hp_there nbt St.put_self))
  have njn : j0 ≠ no := St.apart hno St.put_self
  refine XB_gen (fun S => S.loc = look nLong [some (.ref x), some (iv alo), some (iv ahi), some (iv blo), some (iv bhi), some (.ref la), some (.ref lb), some (.ref d), some (.ref bm), some (iv alo), some (iv blo), some (iv 0), some (.ref j0), some (.ref no), none, none, none, none, none] ∧
   Keeps st.hp S.hp ∧ S.hp bm = some (.bm (.builtin "set.__contains__") (.ref jd)) ∧ S.hp j0 = some (.dictI []) ∧ S.hp no = some (.list [])) ⟨rfl, ((((Keeps.refl _).put hbm).put ht).put hj0).put hno, St.hp_there nbn (St.hp_there nbj (St.hp_there nbt St.put_self)), St.hp_there njn St.put_self, St.put_self⟩ ?_
  clear hbm ht hj0 hno nbt nbj nbn njn
  intro S hZ
  refine an5 hZ fun hSl k1 kbm kj0 kno => ?_
  clear hZ
  have kM := M.keeps k1
  have kT := T.keeps k1
  have kla := k1 _ _ hla
  obtain ⟨ok1, ok2, ok3, ok4⟩ := id ok
  replace ok1 : alo ≤ ahi := ok1
  replace ok2 : ahi ≤ as.length := ok2
  replace ok3 : blo ≤ bhi := ok3
  replace ok4 : bhi ≤ bs.length := ok4
  generalize hw : (⟨as, bs, act, alo, ahi, blo, bhi⟩ : Win) = w at ok hΦ
  refine XB_cut (fun st' => Ex6 fun o1 o2 o3 o4 o5 o6 => st'.loc = look nLong [some (.ref x), some (iv alo), some (iv ahi), some (iv blo), some (iv bhi), some (.ref la), some (.ref lb), some (.ref d), some (.ref bm), some (iv (bestE w (ahi - alo)).1), some (iv (bestE w (ahi - alo)).2.1), some (iv (bestE w (ahi - alo)).2.2), o1, some (.ref no), o2, o3, o4, o5, o6] ∧
   Keeps S.hp st'.hp) ?_ ?_
  ·refine ABS_cut fun K1 hK1 => ?_
   refine XS_ForRange H.hand (fun _ => rfl) (fun _ _ => rfl) ?_
   repeat walk_at "m1"
   refine CALL_range fun r hr => ?_
   refine range_mk r alo ahi (fun m st' => ∃ (j2 : Addr) (kvs : List (Int × Value)), Ex5 fun o2 o3 o4 o5 o6 => st'.loc = look nLong [some (.ref x), some (iv alo), some (iv ahi), some (iv blo), some (iv bhi), some (.ref la), some (.ref lb), some (.ref d), some (.ref bm), some (iv (bestE w m).1), some (iv (bestE w m).2.1), some (iv (bestE w m).2.2), some (.ref j2), some (.ref no), o2, o3, o4, o5, o6] ∧
    Keeps S.hp st'.hp ∧ st'.hp j2 = some (.dictI kvs) ∧ RowIs kvs (rowE w m)) rfl St.put_self (by lia) ?_ ?_ ?_
   ·refine (exI2 j0 [] (Ex5.mk none none none none none ⟨?_, (Keeps.refl _).put hr, ?_, ?_⟩))
    ·subst hw; exact hSl
    ·exact St.hp_there (St.apart hr kj0) kj0
    ·intro j; simp [valueAt, rowE]
   ·intro m c1 st' hlt X hJ
    refine ABS_asg fun K2 hK2 => ?_
    revert hJ; refine ex2i fun j2 kvs hJ => ?_
    refine Ex5.elim hJ fun o2 o3 o4 o5 o6 hJ => ?_
    refine an4 hJ fun hloc hk hj2 hrow => ?_
    clear hJ
    have H1 := H.ext X
    clear H
    refine ASG_loc H1 hloc (by walk_at "loc") ?_
    repeat walk_at "m1"
    refine EX_dget rfl ?_
    repeat walk_at "m1"
    refine ⟨j2, kvs, rfl, hj2, fun g hg => ?_⟩
    repeat walk_at "m1"
    refine EX_DictI fun j3 hj3 => ?_
    repeat walk_at "m1"
    have hgj2 : j2 ≠ g := St.apart hg hj2
    have hg3 : g ≠ j3 := St.apart hj3 St.put_self
    have h23 : j2 ≠ j3 := St.apart hj3 (St.hp_there hgj2 hj2)
    have hma : alo + m < as.length := by lia
    refine XB_gen (fun S' => S'.loc = look nLong [some (.ref x), some (iv alo), some (iv ahi), some (iv blo), some (iv bhi), some (.ref la), some (.ref lb), some (.ref d), some (.ref bm), some (iv (bestE w m).1), some (iv (bestE w m).2.1), some (iv (bestE w m).2.2), some (.ref j2), some (.ref no), some (iv (alo + m)), some (.ref g), some (.ref j3), o5, o6] ∧
     Keeps S.hp S'.hp ∧ S'.hp j2 = some (.dictI kvs) ∧ S'.hp g = some (.bm (.builtin "dict.get") (.ref j2)) ∧ S'.hp j3 = some (.dictI []) ∧ S.hp j3 = none) ⟨rfl, hk.trans (((Keeps.refl _).put hg).put hj3), St.hp_there h23 (St.hp_there hgj2 hj2), St.hp_there hg3 St.put_self, St.put_self, (hk.trans ((Keeps.refl _).put hg)).none hj3⟩ ?_
    clear hloc hk hj2 hg hj3
    intro S1 hZ
    refine an6 hZ fun hl1 hk1 hj2 hg hj3 hj3S => ?_
    clear hZ
    refine XB_cut (fun st' => ∃ kvs' o5 o6, st'.loc = look nLong [some (.ref x), some (iv alo), some (iv ahi), some (iv blo), some (iv bhi), some (.ref la), some (.ref lb), some (.ref d), some (.ref bm), some (iv (bestE w (m + 1)).1), some (iv (bestE w (m + 1)).2.1), some (iv (bestE w (m + 1)).2.2), some (.ref j2), some (.ref no), some (iv (alo + m)), some (.ref g), some (.ref j3), o5, o6] ∧
     Keeps S.hp st'.hp ∧ st'.hp j3 = some (.dictI kvs') ∧ RowIs kvs' (rowE w (m + 1))) ?_ ?_
    ·refine ABS_cut fun K3 hK3 => ?_
     obtain ⟨kv2, hd, hkv⟩ := kT.d
     obtain ⟨li, L, hli, hLl, hidx, hsort, hLz, hnn⟩ : ∃ li L, (valueAt kv2 ⟨#[as[alo + m]]⟩).getD (.ref no) = .ref li ∧ S.hp li = some (.list (iL L)) ∧ idx w (alo + m) = L.filter (fun j => decide (blo ≤ j) && decide (j < bhi)) ∧ L.Pairwise (· < ·) ∧ L.length ≤ 1000 ∧ True := by
      have ea : as[alo + m]? = some as[alo + m] := List.getElem?_eq_getElem hma
      by_cases hact : act as[alo + m] = true ∧ as[alo + m] ∈ bs
      ·obtain ⟨li, h1, h2⟩ := (hkv as[alo + m]).1 hact
       refine ⟨li, places bs as[alo + m], by rw [h1]; rfl, h2, ?_, places_sorted _ _, ?_, trivial⟩
       ·rw [← hw]
        unfold idx
        dsimp only
        rw [ea]
        dsimp only
        rw [if_pos hact.1]
       ·rw [places_length]
        exact Nat.le_trans List.count_le_length zb
      ·refine ⟨no, [], by rw [(hkv as[alo + m]).2 hact]; rfl, kno, ?_, .nil, Nat.zero_le _, trivial⟩
       rw [← hw]
       unfold idx
       dsimp only
       rw [ea]
       dsimp only
       by_cases q : act as[alo + m] = true
       ·rw [if_pos q, places_nil (fun h => hact ⟨q, h⟩)]
       ·rw [if_neg q]; rfl
     refine XS_ForList H1.hand (fun _ => rfl) ?_
     refine EX_M ⟨_, rfl⟩ rfl rfl ?_
     repeat walk_at "m1"
     refine METH_dictS (hk1 _ _ hd) PySem.F.slot_dict_get rfl ?_
     repeat walk_at "m1"
     refine EX_SubL (fun o i => ⟨_, rfl⟩) ?_
     repeat walk_at "m1"
     refine subN (alo + m) za (hk1 _ _ kla) rfl hma ?_
     repeat walk_at "m1"
     refine CALL_getS H1.base.mods (hk1 _ _ hd) ?_
     have walo : w.alo = alo := by rw [← hw]
     have hl3 : li ≠ j3 := ne_hp hLl hj3S rfl
     have hfin : ∀ (t : Nat) (st' : St) (kvs' : List (Int × Value)) (o5 o6 : Option Value), (L.take t).filter (fun j => decide (blo ≤ j) && decide (j < bhi)) = idx w (alo + m) →
       st'.loc = look nLong [some (.ref x), some (iv alo), some (iv ahi), some (iv blo), some (iv bhi), some (.ref la), some (.ref lb), some (.ref d), some (.ref bm), some (iv ((((L.take t).filter (fun j => decide (blo ≤ j) && decide (j < bhi))).map fun j => (alo + m, j, rowE w (m + 1) j)).foldl fm (bestE w m)).1), some (iv ((((L.take t).filter (fun j => decide (blo ≤ j) && decide (j < bhi))).map fun j => (alo + m, j, rowE w (m + 1) j)).foldl fm (bestE w m)).2.1), some (iv ((((L.take t).filter (fun j => decide (blo ≤ j) && decide (j < bhi))).map fun j => (alo + m, j, rowE w (m + 1) j)).foldl fm (bestE w m)).2.2), some (.ref j2), some (.ref no), some (iv (alo + m)), some (.ref g), some (.ref j3), o5, o6] →
       (∀ b o, b ≠ li ∧ b ≠ j3 → S1.hp b = some o → st'.hp b = some o) → st'.hp j3 = some (.dictI kvs') → (∀ j : Int, valueAt kvs' j = if 0 ≤ j ∧ j.toNat ∈ (L.take t).filter (fun j => decide (blo ≤ j) && decide (j < bhi)) then some (iv (rowE w (m + 1) j.toNat)) else none) →
       K3 (st'.put li (.list (iL L))) := by
      intro t st' kvs' o5 o6 ef q1 q2 q3 q4
      rw [ef] at q4
      have eb : bestE w (m + 1) = ((idx w (alo + m)).map fun j => (alo + m, j, rowE w (m + 1) j)).foldl fm (bestE w m) := by
       rw [bestE_succ]; unfold cells; rw [walo]
      replace q1 := q1.trans (loc3p ((congrArg (fun l => (l.map fun j => (alo + m, j, rowE w (m + 1) j)).foldl fm (bestE w m)) ef).trans eb.symm))
      refine hK3 _ (exI3 kvs' o5 o6 ⟨q1, fun b o e => ?_, St.hp_there (Ne.symm hl3) q3, fun j => ?_⟩)
      ·by_cases q : b = li
       ·rw [q] at e ⊢
        rw [hLl] at e
        cases e
        exact St.put_self
       ·exact St.hp_there q (q2 b o ⟨q, fun q' => by rw [q', hj3S] at e; cases e⟩ (hk1 b o e))
      ·rw [q4 j]
       have := rowE_pos w m j.toNat
       rw [walo] at this
       simp only [this]
     refine list_mk li (iL L) (fun t st' => ∃ (kvs' : List (Int × Value)) (o5 o6 : Option Value), st'.loc = look nLong [some (.ref x), some (iv alo), some (iv ahi), some (iv blo), some (iv bhi), some (.ref la), some (.ref lb), some (.ref d), some (.ref bm), some (iv ((((L.take t).filter (fun j => decide (blo ≤ j) && decide (j < bhi))).map fun j => (alo + m, j, rowE w (m + 1) j)).foldl fm (bestE w m)).1), some (iv ((((L.take t).filter (fun j => decide (blo ≤ j) && decide (j < bhi))).map fun j => (alo + m, j, rowE w (m + 1) j)).foldl fm (bestE w m)).2.1), some (iv ((((L.take t).filter (fun j => decide (blo ≤ j) && decide (j < bhi))).map fun j => (alo + m, j, rowE w (m + 1) j)).foldl fm (bestE w m)).2.2), some (.ref j2), some (.ref no), some (iv (alo + m)), some (.ref g), some (.ref j3), o5, o6] ∧
      (∀ b o, b ≠ li ∧ b ≠ j3 → S1.hp b = some o → st'.hp b = some o) ∧ st'.hp j3 = some (.dictI kvs') ∧ kvs'.length ≤ t ∧ (∀ j : Int, valueAt kvs' j = if 0 ≤ j ∧ j.toNat ∈ (L.take t).filter (fun j => decide (blo ≤ j) && decide (j < bhi)) then some (iv (rowE w (m + 1) j.toNat)) else none)) hli (hk1 _ _ hLl) ?_ ?_ ?_
     ·refine (exI3 [] o5 o6 ⟨hl1, fun b o h e => St.hp_del e h.1, St.hp_del hj3 (Ne.symm hl3), Nat.le_refl _, fun j => by simp [valueAt]⟩)
     ·intro t v c2 st2 hv X2 hJ
      refine ABS_asg fun K4 hK4 => ?_
      revert hJ; refine ex3i fun kvs' p5 p6 hJ => ?_
      refine an5 hJ fun ql qk qj3 qlen qd => ?_
      clear hJ
      have H2 := H1.ext X2
      clear H1
      obtain ⟨j, hj, rfl⟩ : ∃ j, L[t]? = some j ∧ v = iv j := by
       rw [List.getElem?_map] at hv
       obtain ⟨j, h1, h2⟩ := Option.map_eq_some_iff.mp hv
       exact ⟨j, h1, h2.symm⟩
      have htl : t < L.length := (List.getElem?_eq_some_iff.mp hj).1
      refine ASG_loc H2 ql (by walk_at "loc") ?_
      repeat walk_at "m1"
      refine XS_If' ?_
      repeat walk_at "m1"
      refine ⟨fun q => ?_, fun qlo => ?_⟩
      ·replace q : j < blo := by have := of_decide_eq_true q; lia
       repeat walk_at "m1"
       have ef : (L.take (t + 1)).filter (fun j => decide (blo ≤ j) && decide (j < bhi)) = (L.take t).filter (fun j => decide (blo ≤ j) && decide (j < bhi)) := by
        rw [take_succ' hj, List.filter_append, List.filter_cons_of_neg (by simp; lia), List.filter_nil, List.append_nil]
       exact hK4 _ (exI3 kvs' _ _ ⟨by rw [ef], qk, qj3, by lia, by rw [ef]; exact qd⟩)
      ·replace qlo : blo ≤ j := by have := of_decide_eq_false qlo; lia
       repeat walk_at "m1"
       refine XS_If' ?_
       repeat walk_at "m1"
       refine ⟨fun q => ?_, fun qhi => ?_⟩
       ·replace q : bhi ≤ j := by have := of_decide_eq_true q; lia
        repeat walk_at "m1"
        exact hfin t _ kvs' _ _ ((filter_cut hsort hj q).trans hidx.symm) rfl qk qj3 qd
       ·replace qhi : j < bhi := by have := of_decide_eq_false qhi; lia
        have hjin : j ∈ idx w (w.alo + m) := by
         rw [walo, hidx, List.mem_filter]
         exact ⟨List.mem_of_getElem? hj, by simp; lia⟩
        repeat walk_at "m1"
        have ek := rowE_in w hjin
        have hkp : 0 < rowE w (m + 1) j := by lia
        have hkb := (rowE_le (w := w) (m + 1) (by rw [walo, ← hw]; show alo + (m + 1) ≤ ahi; lia) j _ hkp).mp (Nat.le_refl _)
        have hgli : g ≠ li := ne_hp hg (hk1 _ _ hLl) rfl
        have hgj3 : g ≠ j3 := ne_hp hg hj3 rfl
        have hj2li : j2 ≠ li := ne_hp hj2 (hk1 _ _ hLl) rfl
        have ev : (valueAt kvs ((j : Int) - 1)).getD (iv 0) = iv ((if j = 0 then 0 else rowE w m (j - 1) : Nat) : Int) := by
         rw [hrow]
         by_cases q : j = 0
         ·subst q; rfl
         ·have e1 : ((j : Int) - 1).toNat = j - 1 := lj1 q
          rw [e1, if_neg q]
          by_cases q2 : 0 < rowE w m (j - 1)
          ·rw [if_pos ⟨by lia, q2⟩]; rfl
          ·rw [if_neg (fun h => q2 h.2)]
           have : rowE w m (j - 1) = 0 := by lia
           rw [this]; rfl
        have ef : (L.take (t + 1)).filter (fun j => decide (blo ≤ j) && decide (j < bhi)) = (L.take t).filter (fun j => decide (blo ≤ j) && decide (j < bhi)) ++ [j] := by
         rw [take_succ' hj, List.filter_append, List.filter_cons_of_pos (by simp; lia), List.filter_nil]
        refine XS_Assign2 rfl rfl ?_
        repeat walk_at "m1"
        refine ⟨KEEPER_bm (qk _ _ ⟨hgli, hgj3⟩ hg), CALL_bmget H2.base.mods (qk _ _ ⟨hgli, hgj3⟩ hg) (qk _ _ ⟨hj2li, h23⟩ hj2) ?_⟩
        rw [ev]
        repeat walk_at "m1"
        have ek' : ((if j = 0 then 0 else rowE w m (j - 1) : Nat) : Int) + 1 = (rowE w (m + 1) j : Nat) := by rw [ek]; rfl
        rw [ek']
        refine ASG_loc H2 rfl (by walk_at "loc") ?_
        refine ASG_Sub ?_
        repeat walk_at "m1"
        refine SETI_dictI qj3 (by rw [sizeLine_eq]; lia) ?_
        repeat walk_at "m1"
        have qd' : ∀ j' : Int, valueAt (stored kvs' (j : Int) (iv (rowE w (m + 1) j : Nat))) j' = if 0 ≤ j' ∧ j'.toNat ∈ (L.take (t + 1)).filter (fun j => decide (blo ≤ j) && decide (j < bhi)) then some (iv (rowE w (m + 1) j'.toNat)) else none := by
         intro j'
         rw [valueAt_stored, ef, qd j']
         by_cases q : j' = (j : Int)
         ·rw [if_pos q, if_pos ⟨by lia, by rw [q]; simp⟩, q]; rfl
         ·rw [if_neg q]
          have : ∀ (q2 : 0 ≤ j'), (j'.toNat ∈ (L.take t).filter (fun j => decide (blo ≤ j) && decide (j < bhi)) ↔ j'.toNat ∈ (L.take t).filter (fun j => decide (blo ≤ j) && decide (j < bhi)) ++ [j]) := fun q2 => by
           rw [List.mem_append, List.mem_singleton]
           exact ⟨.inl, fun h => h.elim id fun h => absurd (by lia) q⟩
          by_cases q2 : 0 ≤ j'
          ·simp only [q2, true_and, this q2]
          ·rw [if_neg (fun h => q2 h.1), if_neg (fun h => q2 h.1)]
        have qlen' : (stored kvs' (j : Int) (iv (rowE w (m + 1) j : Nat))).length ≤ t + 1 := by
         unfold stored
         split
         ·rw [List.length_map]; lia
         ·rw [List.length_append, List.length_singleton]; lia
        have efold : (((L.take (t + 1)).filter (fun j => decide (blo ≤ j) && decide (j < bhi))).map fun j => (alo + m, j, rowE w (m + 1) j)).foldl fm (bestE w m) = fm ((((L.take t).filter (fun j => decide (blo ≤ j) && decide (j < bhi))).map fun j => (alo + m, j, rowE w (m + 1) j)).foldl fm (bestE w m)) (alo + m, j, rowE w (m + 1) j) := by
         rw [ef, List.map_append, List.foldl_append]; rfl
        generalize hbest : (((L.take t).filter (fun j => decide (blo ≤ j) && decide (j < bhi))).map fun j => (alo + m, j, rowE w (m + 1) j)).foldl fm (bestE w m) = best at efold ⊢
        refine XS_If' ?_
        repeat walk_at "m1"
        refine ⟨fun q => ?_, fun q => ?_⟩
        ·replace q : best.2.2 < rowE w (m + 1) j := by have := of_decide_eq_true q; lia
         have efm : fm best (alo + m, j, rowE w (m + 1) j) = (alo + m + 1 - rowE w (m + 1) j, j + 1 - rowE w (m + 1) j, rowE w (m + 1) j) := by
          unfold fm; rw [if_pos q]
         repeat walk_at "m1"
         refine hK4 _ (exI3 _ (some (iv j)) (some (iv (rowE w (m + 1) j : Nat))) ⟨?_, keep_upd qk (fun q => q.2 rfl), St.put_self, qlen', qd'⟩)
         exact (loc3 (lr2 hkb.1) (lr1 hkb.2.1) rfl).trans (loc3p (efold.trans efm).symm)
        ·replace q : ¬ best.2.2 < rowE w (m + 1) j := by have := of_decide_eq_false q; lia
         have efm : fm best (alo + m, j, rowE w (m + 1) j) = best := by unfold fm; rw [if_neg q]
         repeat walk_at "m1"
         refine hK4 _ (exI3 _ (some (iv j)) (some (iv (rowE w (m + 1) j : Nat))) ⟨?_, keep_upd qk (fun q => q.2 rfl), St.put_self, qlen', qd'⟩)
         exact loc3p (efold.trans efm).symm
     ·rintro st' ⟨kvs', p5, p6, ql, qk, qj3, qlen, qd⟩ hnl
      have e : (iL L).length = L.length := List.length_map ..
      rw [e, List.take_length] at ql qd
      exact hfin L.length st' kvs' p5 p6 (by rw [List.take_length]; exact hidx.symm) (by rw [List.take_length]; exact ql) qk qj3 (by rw [List.take_length]; exact qd)
    ·intro st2 hZ
     revert hZ; refine ex3i fun kvs' o5 o6 hZ => ?_
     refine an4 hZ fun hl2 hk2 hj3' hrow' => ?_
     clear hZ
     repeat walk_at "m1"
     exact hK2 _ (exI2 j3 kvs' (Ex5.mk _ _ _ _ _ ⟨rfl, hk2, hj3', hrow'⟩))
   ·intro st' hJ
    refine hK1 _ ?_
    revert hJ; refine ex2i fun j2 kvs hJ => ?_
    refine Ex5.elim hJ fun o2 o3 o4 o5 o6 hJ => ?_
    refine an4 hJ fun hloc hk hj2 hrow => ?_
    clear hJ
    have e : ((ahi : Int) - (alo : Int)).toNat = ahi - alo := ltn ok1
    exact Ex6.mk _ _ _ _ _ _ ⟨hloc.trans (loc3p (congrArg (bestE w) e)), hk⟩
  ·intro S1 hJ
   refine Ex6.elim hJ fun o1 o2 o3 o4 o5 o6 hJ => ?_
   refine an2 hJ fun hloc hk => ?_
   clear hJ
   have hin := best_in ok (bestE_best ok)
   have hlong : longest w junk = ((bestE w (ahi - alo)).1 - reach (seg as alo (bestE w (ahi - alo)).1).reverse (seg bs blo (bestE w (ahi - alo)).2.1).reverse junk, (bestE w (ahi - alo)).2.1 - reach (seg as alo (bestE w (ahi - alo)).1).reverse (seg bs blo (bestE w (ahi - alo)).2.1).reverse junk,
     reach (seg as alo (bestE w (ahi - alo)).1).reverse (seg bs blo (bestE w (ahi - alo)).2.1).reverse junk + (bestE w (ahi - alo)).2.2 + reach (seg as ((bestE w (ahi - alo)).1 + (bestE w (ahi - alo)).2.2) ahi) (seg bs ((bestE w (ahi - alo)).2.1 + (bestE w (ahi - alo)).2.2) bhi) junk) := by
    rw [← hw]; rfl
   have e0 : w.ahi - w.alo = ahi - alo := by rw [← hw]
   have e1 : w.alo = alo ∧ w.ahi = ahi ∧ w.blo = blo ∧ w.bhi = bhi := by rw [← hw]; exact ⟨rfl, rfl, rfl, rfl⟩
   rw [e0, e1.1, e1.2.1, e1.2.2.1, e1.2.2.2] at hin
   rw [hlong] at hΦ
   clear hlong
   generalize bestE w (ahi - alo) = bst at hin hΦ hloc
   obtain ⟨i0, j0, k0⟩ := bst
   try dsimp only at hin
   try dsimp only at hΦ
   try dsimp only at hloc
   obtain ⟨b1, b2, b3, b4⟩ := hin
   have hX1 : (seg as alo i0).reverse.length = i0 - alo := by rw [List.length_reverse, seg_length (by lia)]
   have hY1 : (seg bs blo j0).reverse.length = j0 - blo := by rw [List.length_reverse, seg_length (by lia)]
   have hU1 : (seg as (i0 + k0) ahi).length = ahi - (i0 + k0) := seg_length ok2
   have hV1 : (seg bs (j0 + k0) bhi).length = bhi - (j0 + k0) := seg_length ok4
   have hia : i0 ≤ as.length := by lia
   have hjb : j0 ≤ bs.length := by lia
   generalize hBd : reach (seg as alo i0).reverse (seg bs blo j0).reverse junk = B at hΦ
   generalize hFd : reach (seg as (i0 + k0) ahi) (seg bs (j0 + k0) bhi) junk = F at hΦ
   have hB1 := reach_le (seg as alo i0).reverse (seg bs blo j0).reverse junk
   have hF1 := reach_le (seg as (i0 + k0) ahi) (seg bs (j0 + k0) bhi) junk
   rw [hBd] at hB1
   rw [hFd] at hF1
   have hr1b := run1_le (fun x => !junk.contains x) (seg as alo i0).reverse (seg bs blo j0).reverse
   have hr2b := run1_le (fun x => !junk.contains x) (seg as (i0 + k0) ahi) (seg bs (j0 + k0) bhi)
   have hB0 : B = run1 (fun x => !junk.contains x) (seg as alo i0).reverse (seg bs blo j0).reverse + run1 (fun x => junk.contains x) ((seg as alo i0).reverse.drop (run1 (fun x => !junk.contains x) (seg as alo i0).reverse (seg bs blo j0).reverse)) ((seg bs blo j0).reverse.drop (run1 (fun x => !junk.contains x) (seg as alo i0).reverse (seg bs blo j0).reverse)) := hBd.symm
   have hF0 : F = run1 (fun x => !junk.contains x) (seg as (i0 + k0) ahi) (seg bs (j0 + k0) bhi) + run1 (fun x => junk.contains x) ((seg as (i0 + k0) ahi).drop (run1 (fun x => !junk.contains x) (seg as (i0 + k0) ahi) (seg bs (j0 + k0) bhi))) ((seg bs (j0 + k0) bhi).drop (run1 (fun x => !junk.contains x) (seg as (i0 + k0) ahi) (seg bs (j0 + k0) bhi))) := hFd.symm
   generalize hr1 : run1 (fun x => !junk.contains x) (seg as alo i0).reverse (seg bs blo j0).reverse = r1 at hB0 hr1b
   generalize hr2 : run1 (fun x => !junk.contains x) (seg as (i0 + k0) ahi) (seg bs (j0 + k0) bhi) = r2 at hF0 hr2b
   refine XB_gen (fun S2 => S2.loc = look nLong [some (.ref x), some (iv alo), some (iv ahi), some (iv blo), some (iv bhi), some (.ref la), some (.ref lb), some (.ref d), some (.ref bm), some (iv ((i0 : Int) - ((0 : Nat) : Nat))), some (iv ((j0 : Int) - ((0 : Nat) : Nat))), some (iv ((k0 : Int) + ((0 : Nat) : Nat) + ((0 : Nat) : Nat))), o1, some (.ref no), o2, o3, o4, o5, o6] ∧ Keeps S.hp S2.hp) ⟨?_, hk⟩ ?_
   ·have f1 : (i0 : Int) - ((0 : Nat) : Nat) = i0 := by lia
    have f2 : (j0 : Int) - ((0 : Nat) : Nat) = j0 := by lia
    have f3 : (k0 : Int) + ((0 : Nat) : Nat) + ((0 : Nat) : Nat) = k0 := by lia
    exact hloc.trans (loc3 f1.symm f2.symm f3.symm)
   intro S2 hZ
   refine an2 hZ fun hl2 hk2 => ?_
   clear hZ
   have kT2 := kT.keeps hk2
   have kla2 := hk2 _ _ kla
   have kbm2 := hk2 _ _ kbm
   have kjd2 := hk2 _ _ (k1 _ _ hjd)
   clear hloc hk
   refine XB_cut (fun st' => st'.loc = look nLong [some (.ref x), some (iv alo), some (iv ahi), some (iv blo), some (iv bhi), some (.ref la), some (.ref lb), some (.ref d), some (.ref bm), some (iv ((i0 : Int) - (r1 : Nat))), some (iv ((j0 : Int) - (r1 : Nat))), some (iv ((k0 : Int) + (r1 : Nat) + ((0 : Nat) : Nat))), o1, some (.ref no), o2, o3, o4, o5, o6] ∧ st'.hp = S2.hp) ?_ ?_
   ·refine ABS_cut fun K0 hK0 => ?_
    refine XS_While' (fun q st' => ∃ t : Nat, q = (seg as alo i0).reverse.length - t ∧ t ≤ (seg as alo i0).reverse.length ∧ t ≤ (seg bs blo j0).reverse.length ∧ st'.loc = look nLong [some (.ref x), some (iv alo), some (iv ahi), some (iv blo), some (iv bhi), some (.ref la), some (.ref lb), some (.ref d), some (.ref bm), some (iv ((i0 : Int) - (t : Nat))), some (iv ((j0 : Int) - (t : Nat))), some (iv ((k0 : Int) + (t : Nat) + ((0 : Nat) : Nat))), o1, some (.ref no), o2, o3, o4, o5, o6] ∧ st'.hp = S2.hp ∧ r1 = t + run1 (fun x => !junk.contains x) ((seg as alo i0).reverse.drop t) ((seg bs blo j0).reverse.drop t)) ((seg as alo i0).reverse.length - (0 : Nat)) ⟨(0 : Nat), rfl, Nat.zero_le _, Nat.zero_le _, hl2, rfl, (by simp only [Nat.zero_add, List.drop_zero]; exact hr1.symm)⟩ ?_
    intro q st' hJ
    refine ABS_ts fun K hK => ?_
    obtain ⟨t, hJ⟩ := hJ
    refine an6 hJ fun e0 ht1 ht2 hl hhp hN => ?_
    clear hJ
    subst e0
    have stop : run1 (fun x => !junk.contains x) ((seg as alo i0).reverse.drop t) ((seg bs blo j0).reverse.drop t) = 0 → K0 st' := fun h => hK0 _ <| by
     rw [h, Nat.add_zero] at hN
     rw [hN]; exact ⟨hl, hhp⟩
    repeat walk_at "m1"
    refine ⟨fun c1 => ?_, fun c1 => ⟨nofun, fun _ => stop (run1_end1 (lb0 hX1 (of_decide_eq_false c1)))⟩⟩
    replace c1 : t < (seg as alo i0).reverse.length := lb1 hX1 (of_decide_eq_true c1)
    repeat walk_at "m1"
    refine ⟨fun c2 => ?_, fun c2 => ⟨nofun, fun _ => stop (run1_end2 (lb0 hY1 (of_decide_eq_false c2)))⟩⟩
    replace c2 : t < (seg bs blo j0).reverse.length := lb1 hY1 (of_decide_eq_true c2)
    have ha : i0 - 1 - t < as.length := lbi hX1 c1 hia
    have hb : j0 - 1 - t < bs.length := lbi hY1 c2 hjb
    have gX : (seg as alo i0).reverse[t]? = some as[i0 - 1 - t] := segrev_get (l := as) (lo := alo) (hi := i0) (t := t) (Nat.lt_of_lt_of_eq c1 hX1) hia
    have gY : (seg bs blo j0).reverse[t]? = some bs[j0 - 1 - t] := segrev_get (l := bs) (lo := blo) (hi := j0) (t := t) (Nat.lt_of_lt_of_eq c2 hY1) hjb
    have ea : (i0 : Int) - (t : Nat) - 1 = ((i0 - 1 - t : Nat) : Int) := lbc hX1 c1
    have eb : (j0 : Int) - (t : Nat) - 1 = ((j0 - 1 - t : Nat) : Int) := lbc hY1 c2
    have hSb := hS bs[j0 - 1 - t] (List.getElem_mem hb)
    repeat walk_at "m1"
    refine TS_plain rfl ?_
    refine EX_Call rfl rfl rfl ?_
    repeat walk_at "m1"
    refine EX_SubL (fun o i => ⟨_, rfl⟩) ?_
    repeat walk_at "m1"
    refine subN (j0 - 1 - t) zb (by rw [hhp]; exact kT2.lb) (congrArg (Value.int · 0) eb) hb ?_
    repeat walk_at "m1"
    refine ⟨KEEPER_bm (by rw [hhp]; exact kbm2), CALL_bmcontains (by rw [hhp]; exact kbm2) (by rw [hhp]; exact kjd2) ?_⟩
    repeat walk_at "m1"
    refine ⟨fun c3 => ?_, fun c3 => ⟨nofun, fun _ => stop (run1_end3 gX gY fun e => by rw [e, ← hSb]; simpa using c3)⟩⟩
    replace c3 : (!junk.contains bs[j0 - 1 - t]) = true := by rw [← hSb]; exact c3
    repeat walk_at "m1"
    refine EX_SubL (fun o i => ⟨_, rfl⟩) ?_
    repeat walk_at "m1"
    refine subN (i0 - 1 - t) za (by rw [hhp]; exact kla2) (congrArg (Value.int · 0) ea) ha ?_
    refine EX_SubL (fun o i => ⟨_, rfl⟩) ?_
    repeat walk_at "m1"
    refine subN (j0 - 1 - t) zb (by rw [hhp]; exact kT2.lb) (congrArg (Value.int · 0) eb) hb ?_
    refine CMP_eq1 ?_
    repeat walk_at "m1"
    refine ⟨fun c4 => ?_, fun c4 => ⟨nofun, fun _ => stop (run1_end3 gX gY fun e => absurd e (of_decide_eq_false c4))⟩⟩
    replace c4 : as[i0 - 1 - t] = bs[j0 - 1 - t] := of_decide_eq_true c4
    repeat walk_at "m1"
    refine ⟨fun _ => ?_, nofun⟩
    repeat walk_at "m1"
    refine hK _ _ (lsub c1) ⟨t + 1, rfl, c1, c2, ?_, hhp, ?_⟩
    ·exact loc3 (lcast1 _ _) (lcast1 _ _) (lk1 _ _ _)
    ·rw [hN, run1_step' (p := (fun x => !junk.contains x)) (c4 ▸ gX) gY c3]; exact lad _ _
   ·intro S3 hZ
    refine an2 hZ fun hl3 hp3 => ?_
    clear hZ
    repeat walk_at "m1"
    refine XB_cut (fun st' => st'.loc = look nLong [some (.ref x), some (iv alo), some (iv ahi), some (iv blo), some (iv bhi), some (.ref la), some (.ref lb), some (.ref d), some (.ref bm), some (iv ((i0 : Int) - (r1 : Nat))), some (iv ((j0 : Int) - (r1 : Nat))), some (iv ((k0 : Int) + (r1 : Nat) + (r2 : Nat))), o1, some (.ref no), o2, o3, o4, o5, o6] ∧ st'.hp = S2.hp) ?_ ?_
    ·refine ABS_cut fun K0 hK0 => ?_
     refine XS_While' (fun q st' => ∃ t : Nat, q = (seg as (i0 + k0) ahi).length - t ∧ t ≤ (seg as (i0 + k0) ahi).length ∧ t ≤ (seg bs (j0 + k0) bhi).length ∧ st'.loc = look nLong [some (.ref x), some (iv alo), some (iv ahi), some (iv blo), some (iv bhi), some (.ref la), some (.ref lb), some (.ref d), some (.ref bm), some (iv ((i0 : Int) - (r1 : Nat))), some (iv ((j0 : Int) - (r1 : Nat))), some (iv ((k0 : Int) + (r1 : Nat) + (t : Nat))), o1, some (.ref no), o2, o3, o4, o5, o6] ∧ st'.hp = S2.hp ∧ r2 = t + run1 (fun x => !junk.contains x) ((seg as (i0 + k0) ahi).drop t) ((seg bs (j0 + k0) bhi).drop t)) ((seg as (i0 + k0) ahi).length - (0 : Nat)) ⟨(0 : Nat), rfl, Nat.zero_le _, Nat.zero_le _, hl3, hp3, (by simp only [Nat.zero_add, List.drop_zero]; exact hr2.symm)⟩ ?_
     intro q st' hJ
     refine ABS_ts fun K hK => ?_
     obtain ⟨t, hJ⟩ := hJ
     refine an6 hJ fun e0 ht1 ht2 hl hhp hN => ?_
     clear hJ
     subst e0
     have stop : run1 (fun x => !junk.contains x) ((seg as (i0 + k0) ahi).drop t) ((seg bs (j0 + k0) bhi).drop t) = 0 → K0 st' := fun h => hK0 _ <| by
      rw [h, Nat.add_zero] at hN
      rw [hN]; exact ⟨hl, hhp⟩
     repeat walk_at "m1"
     refine ⟨fun c1 => ?_, fun c1 => ⟨nofun, fun _ => stop (run1_end1 (lf0 hU1 (of_decide_eq_false c1)))⟩⟩
     replace c1 : t < (seg as (i0 + k0) ahi).length := lf1 hU1 (of_decide_eq_true c1)
     repeat walk_at "m1"
     refine ⟨fun c2 => ?_, fun c2 => ⟨nofun, fun _ => stop (run1_end2 (lf0 hV1 (of_decide_eq_false c2)))⟩⟩
     replace c2 : t < (seg bs (j0 + k0) bhi).length := lf1 hV1 (of_decide_eq_true c2)
     have ha : i0 + k0 + t < as.length := Nat.lt_of_lt_of_le (lfs hU1 c1) ok2
     have hb : j0 + k0 + t < bs.length := Nat.lt_of_lt_of_le (lfs hV1 c2) ok4
     have gX : (seg as (i0 + k0) ahi)[t]? = some as[i0 + k0 + t] := seg_get (l := as) (lo := i0 + k0) (hi := ahi) (t := t) (lfs hU1 c1) ok2
     have gY : (seg bs (j0 + k0) bhi)[t]? = some bs[j0 + k0 + t] := seg_get (l := bs) (lo := j0 + k0) (hi := bhi) (t := t) (lfs hV1 c2) ok4
     have ea : (i0 : Int) - (r1 : Nat) + ((k0 : Int) + (r1 : Nat) + (t : Nat)) = ((i0 + k0 + t : Nat) : Int) := lfc _ _ _ _
     have eb : (j0 : Int) - (r1 : Nat) + ((k0 : Int) + (r1 : Nat) + (t : Nat)) = ((j0 + k0 + t : Nat) : Int) := lfc _ _ _ _
     have hSb := hS bs[j0 + k0 + t] (List.getElem_mem hb)
     repeat walk_at "m1"
     refine TS_plain rfl ?_
     refine EX_Call rfl rfl rfl ?_
     repeat walk_at "m1"
     refine EX_SubL (fun o i => ⟨_, rfl⟩) ?_
     repeat walk_at "m1"
     refine subN (j0 + k0 + t) zb (by rw [hhp]; exact kT2.lb) (congrArg (Value.int · 0) eb) hb ?_
     repeat walk_at "m1"
     refine ⟨KEEPER_bm (by rw [hhp]; exact kbm2), CALL_bmcontains (by rw [hhp]; exact kbm2) (by rw [hhp]; exact kjd2) ?_⟩
     repeat walk_at "m1"
     refine ⟨fun c3 => ?_, fun c3 => ⟨nofun, fun _ => stop (run1_end3 gX gY fun e => by rw [e, ← hSb]; simpa using c3)⟩⟩
     replace c3 : (!junk.contains bs[j0 + k0 + t]) = true := by rw [← hSb]; exact c3
     repeat walk_at "m1"
     refine EX_SubL (fun o i => ⟨_, rfl⟩) ?_
     repeat walk_at "m1"
     refine subN (i0 + k0 + t) za (by rw [hhp]; exact kla2) (congrArg (Value.int · 0) ea) ha ?_
     refine EX_SubL (fun o i => ⟨_, rfl⟩) ?_
     repeat walk_at "m1"
     refine subN (j0 + k0 + t) zb (by rw [hhp]; exact kT2.lb) (congrArg (Value.int · 0) eb) hb ?_
     refine CMP_eq1 ?_
     repeat walk_at "m1"
     refine ⟨fun c4 => ?_, fun c4 => ⟨nofun, fun _ => stop (run1_end3 gX gY fun e => absurd e (of_decide_eq_false c4))⟩⟩
     replace c4 : as[i0 + k0 + t] = bs[j0 + k0 + t] := of_decide_eq_true c4
     repeat walk_at "m1"
     refine ⟨fun _ => ?_, nofun⟩
     repeat walk_at "m1"
     refine hK _ _ (lsub c1) ⟨t + 1, rfl, c1, c2, ?_, hhp, ?_⟩
     ·exact loc3 rfl rfl (lk2 _ _ _)
     ·rw [hN, run1_step' (p := (fun x => !junk.contains x)) (c4 ▸ gX) gY c3]; exact lad _ _
    ·intro S4 hZ
     refine an2 hZ fun hl4 hp4 => ?_
     clear hZ
     repeat walk_at "m1"
     refine XB_cut (fun st' => st'.loc = look nLong [some (.ref x), some (iv alo), some (iv ahi), some (iv blo), some (iv bhi), some (.ref la), some (.ref lb), some (.ref d), some (.ref bm), some (iv ((i0 : Int) - (B : Nat))), some (iv ((j0 : Int) - (B : Nat))), some (iv ((k0 : Int) + (B : Nat) + (r2 : Nat))), o1, some (.ref no), o2, o3, o4, o5, o6] ∧ st'.hp = S2.hp) ?_ ?_
     ·refine ABS_cut fun K0 hK0 => ?_
      refine XS_While' (fun q st' => ∃ t : Nat, q = (seg as alo i0).reverse.length - t ∧ t ≤ (seg as alo i0).reverse.length ∧ t ≤ (seg bs blo j0).reverse.length ∧ st'.loc = look nLong [some (.ref x), some (iv alo), some (iv ahi), some (iv blo), some (iv bhi), some (.ref la), some (.ref lb), some (.ref d), some (.ref bm), some (iv ((i0 : Int) - (t : Nat))), some (iv ((j0 : Int) - (t : Nat))), some (iv ((k0 : Int) + (t : Nat) + (r2 : Nat))), o1, some (.ref no), o2, o3, o4, o5, o6] ∧ st'.hp = S2.hp ∧ B = t + run1 (fun x => junk.contains x) ((seg as alo i0).reverse.drop t) ((seg bs blo j0).reverse.drop t)) ((seg as alo i0).reverse.length - r1) ⟨r1, rfl, hr1b.1, hr1b.2, hl4, hp4, hB0⟩ ?_
      intro q st' hJ
      refine ABS_ts fun K hK => ?_
      obtain ⟨t, hJ⟩ := hJ
      refine an6 hJ fun e0 ht1 ht2 hl hhp hN => ?_
      clear hJ
      subst e0
      have stop : run1 (fun x => junk.contains x) ((seg as alo i0).reverse.drop t) ((seg bs blo j0).reverse.drop t) = 0 → K0 st' := fun h => hK0 _ <| by
       rw [h, Nat.add_zero] at hN
       rw [hN]; exact ⟨hl, hhp⟩
      repeat walk_at "m1"
      refine ⟨fun c1 => ?_, fun c1 => ⟨nofun, fun _ => stop (run1_end1 (lb0 hX1 (of_decide_eq_false c1)))⟩⟩
      replace c1 : t < (seg as alo i0).reverse.length := lb1 hX1 (of_decide_eq_true c1)
      repeat walk_at "m1"
      refine ⟨fun c2 => ?_, fun c2 => ⟨nofun, fun _ => stop (run1_end2 (lb0 hY1 (of_decide_eq_false c2)))⟩⟩
      replace c2 : t < (seg bs blo j0).reverse.length := lb1 hY1 (of_decide_eq_true c2)
      have ha : i0 - 1 - t < as.length := lbi hX1 c1 hia
      have hb : j0 - 1 - t < bs.length := lbi hY1 c2 hjb
      have gX : (seg as alo i0).reverse[t]? = some as[i0 - 1 - t] := segrev_get (l := as) (lo := alo) (hi := i0) (t := t) (Nat.lt_of_lt_of_eq c1 hX1) hia
      have gY : (seg bs blo j0).reverse[t]? = some bs[j0 - 1 - t] := segrev_get (l := bs) (lo := blo) (hi := j0) (t := t) (Nat.lt_of_lt_of_eq c2 hY1) hjb
      have ea : (i0 : Int) - (t : Nat) - 1 = ((i0 - 1 - t : Nat) : Int) := lbc hX1 c1
      have eb : (j0 : Int) - (t : Nat) - 1 = ((j0 - 1 - t : Nat) : Int) := lbc hY1 c2
      have hSb := hS bs[j0 - 1 - t] (List.getElem_mem hb)
      repeat walk_at "m1"
      refine TS_plain rfl ?_
      refine EX_Call rfl rfl rfl ?_
      repeat walk_at "m1"
      refine EX_SubL (fun o i => ⟨_, rfl⟩) ?_
      repeat walk_at "m1"
      refine subN (j0 - 1 - t) zb (by rw [hhp]; exact kT2.lb) (congrArg (Value.int · 0) eb) hb ?_
      repeat walk_at "m1"
      refine ⟨KEEPER_bm (by rw [hhp]; exact kbm2), CALL_bmcontains (by rw [hhp]; exact kbm2) (by rw [hhp]; exact kjd2) ?_⟩
      repeat walk_at "m1"
      refine ⟨fun c3 => ?_, fun c3 => ⟨nofun, fun _ => stop (run1_end3 gX gY fun e => by rw [e, ← hSb]; exact c3)⟩⟩
      replace c3 : junk.contains bs[j0 - 1 - t] = true := by rw [← hSb]; exact c3
      repeat walk_at "m1"
      refine EX_SubL (fun o i => ⟨_, rfl⟩) ?_
      repeat walk_at "m1"
      refine subN (i0 - 1 - t) za (by rw [hhp]; exact kla2) (congrArg (Value.int · 0) ea) ha ?_
      refine EX_SubL (fun o i => ⟨_, rfl⟩) ?_
      repeat walk_at "m1"
      refine subN (j0 - 1 - t) zb (by rw [hhp]; exact kT2.lb) (congrArg (Value.int · 0) eb) hb ?_
      refine CMP_eq1 ?_
      repeat walk_at "m1"
      refine ⟨fun c4 => ?_, fun c4 => ⟨nofun, fun _ => stop (run1_end3 gX gY fun e => absurd e (of_decide_eq_false c4))⟩⟩
      replace c4 : as[i0 - 1 - t] = bs[j0 - 1 - t] := of_decide_eq_true c4
      repeat walk_at "m1"
      refine ⟨fun _ => ?_, nofun⟩
      repeat walk_at "m1"
      refine hK _ _ (lsub c1) ⟨t + 1, rfl, c1, c2, ?_, hhp, ?_⟩
      ·exact loc3 (lcast1 _ _) (lcast1 _ _) (lk1 _ _ _)
      ·rw [hN, run1_step' (p := (fun x => junk.contains x)) (c4 ▸ gX) gY c3]; exact lad _ _
     ·intro S5 hZ
      refine an2 hZ fun hl5 hp5 => ?_
      clear hZ
      repeat walk_at "m1"
      refine XB_cut (fun st' => st'.loc = look nLong [some (.ref x), some (iv alo), some (iv ahi), some (iv blo), some (iv bhi), some (.ref la), some (.ref lb), some (.ref d), some (.ref bm), some (iv ((i0 : Int) - (B : Nat))), some (iv ((j0 : Int) - (B : Nat))), some (iv ((k0 : Int) + (B : Nat) + (F : Nat))), o1, some (.ref no), o2, o3, o4, o5, o6] ∧ st'.hp = S2.hp) ?_ ?_
      ·refine ABS_cut fun K0 hK0 => ?_
       refine XS_While' (fun q st' => ∃ t : Nat, q = (seg as (i0 + k0) ahi).length - t ∧ t ≤ (seg as (i0 + k0) ahi).length ∧ t ≤ (seg bs (j0 + k0) bhi).length ∧ st'.loc = look nLong [some (.ref x), some (iv alo), some (iv ahi), some (iv blo), some (iv bhi), some (.ref la), some (.ref lb), some (.ref d), some (.ref bm), some (iv ((i0 : Int) - (B : Nat))), some (iv ((j0 : Int) - (B : Nat))), some (iv ((k0 : Int) + (B : Nat) + (t : Nat))), o1, some (.ref no), o2, o3, o4, o5, o6] ∧ st'.hp = S2.hp ∧ F = t + run1 (fun x => junk.contains x) ((seg as (i0 + k0) ahi).drop t) ((seg bs (j0 + k0) bhi).drop t)) ((seg as (i0 + k0) ahi).length - r2) ⟨r2, rfl, hr2b.1, hr2b.2, hl5, hp5, hF0⟩ ?_
       intro q st' hJ
       refine ABS_ts fun K hK => ?_
       obtain ⟨t, hJ⟩ := hJ
       refine an6 hJ fun e0 ht1 ht2 hl hhp hN => ?_
       clear hJ
       subst e0
       have stop : run1 (fun x => junk.contains x) ((seg as (i0 + k0) ahi).drop t) ((seg bs (j0 + k0) bhi).drop t) = 0 → K0 st' := fun h => hK0 _ <| by
        rw [h, Nat.add_zero] at hN
        rw [hN]; exact ⟨hl, hhp⟩
       repeat walk_at "m1"
       refine ⟨fun c1 => ?_, fun c1 => ⟨nofun, fun _ => stop (run1_end1 (lf0 hU1 (of_decide_eq_false c1)))⟩⟩
       replace c1 : t < (seg as (i0 + k0) ahi).length := lf1 hU1 (of_decide_eq_true c1)
       repeat walk_at "m1"
       refine ⟨fun c2 => ?_, fun c2 => ⟨nofun, fun _ => stop (run1_end2 (lf0 hV1 (of_decide_eq_false c2)))⟩⟩
       replace c2 : t < (seg bs (j0 + k0) bhi).length := lf1 hV1 (of_decide_eq_true c2)
       have ha : i0 + k0 + t < as.length := Nat.lt_of_lt_of_le (lfs hU1 c1) ok2
       have hb : j0 + k0 + t < bs.length := Nat.lt_of_lt_of_le (lfs hV1 c2) ok4
       have gX : (seg as (i0 + k0) ahi)[t]? = some as[i0 + k0 + t] := seg_get (l := as) (lo := i0 + k0) (hi := ahi) (t := t) (lfs hU1 c1) ok2
       have gY : (seg bs (j0 + k0) bhi)[t]? = some bs[j0 + k0 + t] := seg_get (l := bs) (lo := j0 + k0) (hi := bhi) (t := t) (lfs hV1 c2) ok4
       have ea : (i0 : Int) - (B : Nat) + ((k0 : Int) + (B : Nat) + (t : Nat)) = ((i0 + k0 + t : Nat) : Int) := lfc _ _ _ _
       have eb : (j0 : Int) - (B : Nat) + ((k0 : Int) + (B : Nat) + (t : Nat)) = ((j0 + k0 + t : Nat) : Int) := lfc _ _ _ _
       have hSb := hS bs[j0 + k0 + t] (List.getElem_mem hb)
       repeat walk_at "m1"
       refine TS_plain rfl ?_
       refine EX_Call rfl rfl rfl ?_
       repeat walk_at "m1"
       refine EX_SubL (fun o i => ⟨_, rfl⟩) ?_
       repeat walk_at "m1"
       refine subN (j0 + k0 + t) zb (by rw [hhp]; exact kT2.lb) (congrArg (Value.int · 0) eb) hb ?_
       repeat walk_at "m1"
       refine ⟨KEEPER_bm (by rw [hhp]; exact kbm2), CALL_bmcontains (by rw [hhp]; exact kbm2) (by rw [hhp]; exact kjd2) ?_⟩
       repeat walk_at "m1"
       refine ⟨fun c3 => ?_, fun c3 => ⟨nofun, fun _ => stop (run1_end3 gX gY fun e => by rw [e, ← hSb]; exact c3)⟩⟩
       replace c3 : junk.contains bs[j0 + k0 + t] = true := by rw [← hSb]; exact c3
       repeat walk_at "m1"
       refine EX_SubL (fun o i => ⟨_, rfl⟩) ?_
       repeat walk_at "m1"
       refine subN (i0 + k0 + t) za (by rw [hhp]; exact kla2) (congrArg (Value.int · 0) ea) ha ?_
       refine EX_SubL (fun o i => ⟨_, rfl⟩) ?_
       repeat walk_at "m1"
       refine subN (j0 + k0 + t) zb (by rw [hhp]; exact kT2.lb) (congrArg (Value.int · 0) eb) hb ?_
       refine CMP_eq1 ?_
       repeat walk_at "m1"
       refine ⟨fun c4 => ?_, fun c4 => ⟨nofun, fun _ => stop (run1_end3 gX gY fun e => absurd e (of_decide_eq_false c4))⟩⟩
       replace c4 : as[i0 + k0 + t] = bs[j0 + k0 + t] := of_decide_eq_true c4
       repeat walk_at "m1"
       refine ⟨fun _ => ?_, nofun⟩
       repeat walk_at "m1"
       refine hK _ _ (lsub c1) ⟨t + 1, rfl, c1, c2, ?_, hhp, ?_⟩
       ·exact loc3 rfl rfl (lk2 _ _ _)
       ·rw [hN, run1_step' (p := (fun x => junk.contains x)) (c4 ▸ gX) gY c3]; exact lad _ _
      ·intro S6 hZ
       refine an2 hZ fun hl6 hp6 => ?_
       clear hZ
       repeat walk_at "m1"
       refine ⟨?_, call_match H.good H.base fun r hp' h1 h2 h3 => ?_⟩
       ·exact KEEPER_cls H.base (.inl rfl)
       ·have k6 : Keeps st.hp S6.hp := by rw [hp6]; exact k1.trans hk2
        have f1 : (i0 : Int) - (B : Nat) = ((i0 - B : Nat) : Int) := lsi hX1 hB1.1
        have f2 : (j0 : Int) - (B : Nat) = ((j0 - B : Nat) : Int) := lsi hY1 hB1.2
        have f3 : (k0 : Int) + (B : Nat) + (F : Nat) = ((B + k0 + F : Nat) : Int) := by lia
        rw [f1, f2, f3] at h3
        exact hΦ r hp' (k6.none h1) (k6.trans h2) h3
end
end Mine
end
end
section
open PySem PySem.W PyProof.Rows PySem.Calls
namespace Mine
noncomputable def encW (x : Nat × Nat × Nat × Nat) : List Value := [iv x.1, iv x.2.1, iv x.2.2.1, iv x.2.2.2]
theorem Chain.len {la lb : Nat} : ∀ {r : List (Nat × Nat × Nat)} {i j : Nat}, Chain la lb i j r → r.length + i ≤ la
 | [], i, j, h => by have h' : i ≤ la ∧ j ≤ lb := h; simp; lia
 | (a, b, k) :: r, i, j, ⟨h1, h2, h3, h4⟩ => by
  have := Chain.len h4
  simp only [List.length_cons]; lia
theorem stack_len (Q : List (Nat × Nat × Nat × Nat)) : Q.length ≤ stackSize Q := by
 unfold stackSize
 induction Q with
 | nil => exact Nat.zero_le _
 | cons q r ih =>
  rw [List.map_cons, List.sum_cons, List.length_cons]
  have h1 : 1 ≤ winSize q := Nat.succ_le_succ (Nat.zero_le _)
  lia
noncomputable abbrev nBlocks : List Str := ["self", "la", "lb", "queue", "matching_blocks", "alo", "ahi", "blo", "bhi", "i", "j", "k", "x", "i1", "j1", "k1", "non_adjacent", "i2", "j2", "k2"]
set_option maxHeartbeats 2000000 in
theorem tab_blocks : Tab (inCls 5 7) nBlocks where
 nodup := by decide +kernel
 loc := by decide +kernel
 dbg := by decide +kernel
 cell := by decide +kernel
 co := by rfl
 gen := by rfl
 kind := by rfl
section
variable {c : Cx} {st : St} {Φ : Value → St → Prop} {n : Nat}
theorem LM.push {r u : Addr} {cas : List Addr} {vs : List (List Value)} {w : List Value} (h1 : st.hp r = some (.list (cas.map .ref))) (h2 : Mats st.hp cas vs) (hu : st.hp u = some (.mat aMatch w)) :
  LM (st.put r (.list (cas.map .ref ++ [.ref u]))).hp r (vs ++ [w]) := by
 have ne : ∀ a v, st.hp a = some (.mat aMatch v) → a ≠ r := fun a v e q => by rw [q, h1] at e; cases e
 refine ⟨cas ++ [u], by rw [List.map_append]; exact St.put_self, Mats.snoc (h2.keeps fun a v e => St.hp_there (ne a v e) e) (St.hp_there (ne _ _ hu) hu)⟩
set_option maxHeartbeats 8000000 in
theorem call_blocks {x dx la lb d jd pd : Addr} {J oc : Value} {auto : Bool} {as bs junk : List Nat} {act : Nat → Bool} (G : Good c (n + 5)) (Bs : Base c.w c.h₀) (M : SM st.hp x dx (mvals J la lb auto .none oc d jd pd)) (hla : st.hp la = some (.list (sL as))) (T : Tabs st.hp lb d jd bs junk act)
  (za : as.length ≤ 60) (zb : bs.length ≤ 1000)
  (hΦ : ∀ r hp', st.hp r = none → (∀ b o, b ≠ dx → st.hp b = some o → hp' b = some o) → SM hp' x dx (mvals J la lb auto (.ref r) oc d jd pd) → LM hp' r ((joinGo as.length bs.length (0, 0, 0) (allBlocks as bs act junk)).map encM) → Φ (.ref r) ⟨st.loc, hp'⟩) : CALL c (.ref aBlocks) [.ref x] st Φ := by
 refine CALL_fn0 (vals := [some (.ref x), none, none, none, none, none, none, none, none, none, none, none, none, none, none, none, none, none, none, none]) G Bs Bs.fBlocks tab_blocks (fun nm q doc pm an code ct us hu => ?_) (by simp) rfl fun c' H => ?_
 ·obtain ⟨a, rfl⟩ := len1 hu; rfl
 ·refine XB_cons ?_
  refine XS_E H rfl ?_
  repeat walk_at "m1"
  refine XB_cons ?_
  refine XS_If' ?_
  repeat walk_at "m1"
  walk_at "self"
  repeat walk_at "m1"
  refine ⟨fun q => by simp at q, fun _ => ?_⟩
  repeat walk_at "m1"
  walk_at "self"
  repeat walk_at "m1"
  refine CALL_lenL hla (by rw [List.length_map]; lia) ?_
  rw [show (sL as).length = as.length from List.length_map ..]
  repeat walk_at "m1"
  walk_at "self"
  repeat walk_at "m1"
  refine CALL_lenL T.lb (by rw [List.length_map]; lia) ?_
  rw [show (sL bs).length = bs.length from List.length_map ..]
  repeat walk_at "m1"
  refine ⟨Nat.le_of_ble_eq_true rfl, fun t ht => ?_⟩
  repeat walk_at "m1"
  refine ⟨Nat.le_of_ble_eq_true rfl, fun qu hqu => ?_⟩
  repeat walk_at "m1"
  refine ⟨Nat.zero_le _, fun mb hmb => ?_⟩
  repeat walk_at "m1"
  have n1 : t ≠ qu := St.apart hqu St.put_self
  have n2 : qu ≠ mb := St.apart hmb St.put_self
  have n3 : t ≠ mb := St.apart hmb (St.hp_there n1 St.put_self)
  refine XB_gen (fun S => S.loc = look nBlocks [some (.ref x), some (iv as.length), some (iv bs.length), some (.ref qu), some (.ref mb), none, none, none, none, none, none, none, none, none, none, none, none, none, none, none] ∧
   Keeps st.hp S.hp ∧ LT S.hp qu ([(0, as.length, 0, bs.length)].map encW) ∧ S.hp mb = some (.list []) ∧ st.hp qu = none ∧ st.hp mb = none ∧ qu ≠ mb) ⟨rfl, (((Keeps.refl _).put ht).put hqu).put hmb, ⟨[t], St.hp_there n2 St.put_self, .cons (St.hp_there n3 (St.hp_there n1 St.put_self)) .nil⟩, St.put_self, ((Keeps.refl _).put ht).none hqu, (((Keeps.refl _).put ht).put hqu).none hmb, n2⟩ ?_
  intro S hZ
  refine an7 hZ fun hSl k1 kq kmb q1 q2 q3 => ?_
  clear hZ
  generalize hall : allBlocks as bs act junk = all at hΦ
  have hch : Chain as.length bs.length 0 0 all := by
   rw [← hall]; exact blocks_chain as bs act junk _ _ _ _ _ (Nat.zero_le _) (Nat.le_refl _) (Nat.zero_le _) (Nat.le_refl _)
  have hallz : all.length ≤ 60 := by have := hch.len; lia
  refine XB_cut (fun st' => Ex8 fun o1 o2 o3 o4 o5 o6 o7 o8 => ∃ (MB : List (Nat × Nat × Nat)), st'.loc = look nBlocks [some (.ref x), some (iv as.length), some (iv bs.length), some (.ref qu), some (.ref mb), o1, o2, o3, o4, o5, o6, o7, o8, none, none, none, none, none, none, none] ∧
   (∀ b o, b ≠ qu ∧ b ≠ mb → S.hp b = some o → st'.hp b = some o) ∧ LM st'.hp mb (MB.map encM) ∧ MB.Perm all) ?_ ?_
  ·refine ABS_cut fun K1 hK1 => ?_
   refine XS_While' (fun m st' => Ex8 fun o1 o2 o3 o4 o5 o6 o7 o8 => ∃ (MB : List (Nat × Nat × Nat)) (Q : List (Nat × Nat × Nat × Nat)), st'.loc = look nBlocks [some (.ref x), some (iv as.length), some (iv bs.length), some (.ref qu), some (.ref mb), o1, o2, o3, o4, o5, o6, o7, o8, none, none, none, none, none, none, none] ∧
    (∀ b o, b ≠ qu ∧ b ≠ mb → S.hp b = some o → st'.hp b = some o) ∧ LT st'.hp qu (Q.map encW) ∧ LM st'.hp mb (MB.map encM) ∧ (MB ++ Q.flatMap (winBlocks as bs act junk)).Perm all ∧ (∀ q ∈ Q, WinOk as bs q) ∧ stackSize Q = m ∧ stackSize Q ≤ 2 * as.length + 1)
    (stackSize [(0, as.length, 0, bs.length)]) (Ex8.mk none none none none none none none none (exI2 [] [(0, as.length, 0, bs.length)] ⟨hSl, fun b o _ e => e, kq, ⟨[], kmb, rfl, fun i a v e => by cases e⟩, ?_, ?_, rfl, ?_⟩)) ?_
   ·rw [List.nil_append, List.flatMap_singleton, ← hall]
    exact List.Perm.refl _
   ·intro q hq
    rw [List.mem_singleton.mp hq]
    exact ⟨Nat.zero_le _, Nat.le_refl _, Nat.zero_le _, Nat.le_refl _⟩
   ·rw [stackSize_one]; exact Nat.le_refl _
   ·intro m st' hJ
    refine ABS_ts fun K2 hK2 => ?_
    refine Ex8.elim hJ fun o1 o2 o3 o4 o5 o6 o7 o8 hJ => ?_
    revert hJ; refine ex2i fun MB Q hJ => ?_
    refine an8 hJ fun hl hk hQ hMB hperm hok hm hsz => ?_
    clear hJ
    obtain ⟨qas, hq1, hq2⟩ := hQ
    have hQl := stack_len Q
    refine TS_name H hl (by walk_at "loc") ?_
    refine TRU_list hq1 (by rw [List.length_map, hq2.length, List.length_map, sizeLine_eq]; lia) ?_
    rcases List.eq_nil_or_concat Q with hQ0 | ⟨Q', q, hQ0⟩
    ·subst hQ0
     cases hq2
     refine ⟨nofun, fun _ => hK1 _ (Ex8.mk _ _ _ _ _ _ _ _ ⟨MB, hl, hk, hMB, ?_⟩)⟩
     simpa using hperm
    ·rw [List.concat_eq_append] at hQ0
     subst hQ0
     rw [List.map_append] at hq2
     obtain ⟨qas', qt, rfl, hq3, hqt⟩ := hq2.snoc
     refine ⟨fun _ => ?_, fun h => by simp at h⟩
     obtain ⟨alo, ahi, blo, bhi⟩ := q
     replace hqt : st'.hp qt = some (.tup [iv alo, iv ahi, iv blo, iv bhi]) := hqt
     have hwin := hok (alo, ahi, blo, bhi) (List.mem_append_right _ (.head _))
     have hql : qas'.length = Q'.length := by rw [hq3.length, List.length_map]
     have hqt2 : qt ≠ qu := ne_hp hqt hq1 rfl
     repeat walk_at "m1"
     refine XS_AssignT4 H rfl rfl rfl rfl rfl ?_
     refine EX_M0 ⟨_, rfl⟩ ?_
     repeat walk_at "m1"
     refine METH_list hq1 F.slot_list_pop rfl ?_
     repeat walk_at "m1"
     refine CALL_pop (vs := qas'.map .ref) (v := .ref qt) (by rw [hq1, List.map_append]; rfl) (by rw [List.length_map, hql, sizeLine_eq]; simp at hQl; lia) ?_
     refine ⟨qt, _, _, _, _, rfl, St.hp_there hqt2 hqt, ?_⟩
     refine ASG_loc H hl (by walk_at "loc") ?_
     refine ASG_loc H rfl (by walk_at "loc") ?_
     refine ASG_loc H rfl (by walk_at "loc") ?_
     refine ASG_loc H rfl (by walk_at "loc") ?_
     refine XB_gen (fun S2 => S2.loc = look nBlocks [some (.ref x), some (iv as.length), some (iv bs.length), some (.ref qu), some (.ref mb), some (iv alo), some (iv ahi), some (iv blo), some (iv bhi), o5, o6, o7, o8, none, none, none, none, none, none, none] ∧
      (∀ b o, b ≠ qu ∧ b ≠ mb → S.hp b = some o → S2.hp b = some o) ∧ LT S2.hp qu (Q'.map encW) ∧ LM S2.hp mb (MB.map encM)) ⟨rfl, keep_upd hk (fun h => h.1 rfl), ⟨qas', St.put_self, hq3.keeps fun b v e => St.hp_there (ne_hp e hq1 rfl) e⟩, ?_⟩ ?_
     ·obtain ⟨mas, m1, m2⟩ := hMB
      exact ⟨mas, St.hp_there (Ne.symm q3) m1, m2.keeps fun b v e => St.hp_there (ne_hp e hq1 rfl) e⟩
     intro S2 hZ
     refine an4 hZ fun hl2 hk2 hQ2 hMB2 => ?_
     clear hZ
     have kM2 : SM S2.hp x dx (mvals J la lb auto .none oc d jd pd) := ⟨hk2 _ _ ⟨St.apart q1 M.x, St.apart q2 M.x⟩ (k1 _ _ M.x), hk2 _ _ ⟨St.apart q1 M.d, St.apart q2 M.d⟩ (k1 _ _ M.d)⟩
     have kk : Keeps st.hp S2.hp := fun b o e => hk2 b o ⟨St.apart q1 e, St.apart q2 e⟩ (k1 b o e)
     have okw : Win.Ok ⟨as, bs, act, alo, ahi, blo, bhi⟩ := ⟨hwin.1, hwin.2.1, hwin.2.2.1, hwin.2.2.2⟩
     obtain ⟨_, _, _, hFL, _⟩ := H.base.fLong
     refine XB_cons ?_
     refine XS_Assign2 rfl rfl ?_
     refine EX_selfM H hl2 (by walk_at "loc") kM2 (by walk_at "loc") hFL ⟨_, rfl⟩ rfl rfl ?_
     repeat walk_at "m1"
     refine call_long (n := n + 1) H.good H.base kM2 (kk _ _ hla) (T.keeps kk) okw (by lia) zb fun r hp' hr hk3 hrm => ?_
     have hin := longest_in okw junk
     rcases hlg : longest ⟨as, bs, act, alo, ahi, blo, bhi⟩ junk with ⟨i, j, k⟩
     rw [hlg] at hrm hin
     dsimp only at hin
     obtain ⟨hi1, hi2, hj1, hj2⟩ := hin
     refine ASG_Tuple3M H.hand H.base.ml rfl rfl rfl hrm ?_
     refine ASG_loc H hl2 (by walk_at "loc") ?_
     refine ASG_loc H rfl (by walk_at "loc") ?_
     refine ASG_loc H rfl (by walk_at "loc") ?_
     refine ASG_loc H rfl (by walk_at "loc") ?_
     have hQ4 : LT hp' qu (Q'.map encW) := hQ2.keeps hk3
     have hMB4 : LM hp' mb (MB.map encM) := hMB2.keeps hk3
     obtain ⟨qas2, hqq, hqt4⟩ := hQ4
     obtain ⟨mas, hmm, hmt⟩ := hMB4
     have hsz' : stackSize Q' + winSize (alo, ahi, blo, bhi) ≤ 2 * as.length + 1 := by rw [stackSize_append, stackSize_one] at hsz; exact hsz
     have hw1 : winSize (alo, ahi, blo, bhi) = 2 * (ahi - alo) + 1 := rfl
     have hqz : (qas2.map Value.ref).length ≤ 2 * as.length := by
      rw [List.length_map, hqt4.length, List.length_map]
      have := stack_len Q'
      lia
     have hmz : MB.length ≤ 60 := by
      have := hperm.length_eq
      rw [List.length_append] at this
      lia
     have hkeep : ∀ b o, b ≠ qu ∧ b ≠ mb → S.hp b = some o → hp' b = some o := fun b o h e => hk3 _ _ (hk2 b o h e)
     have hrqu : r ≠ qu := ne_hp hrm hqq rfl
     have hrmb : r ≠ mb := ne_hp hrm hmm rfl
     refine XB_cons ?_
     refine XS_If' ?_
     refine TS_name H rfl (by walk_at "loc") ?_
     repeat walk_at "m1"
     refine ⟨fun hk0 => ?_, fun hk0 => ?_⟩
     ·replace hk0 : k ≠ 0 := by intro e; subst e; simp at hk0
      obtain ⟨hp2, ok1, ok2⟩ := stack_some hwin hlg hk0 hperm
      have hless := stack_less (Q := Q') (blo := blo) (bhi := bhi) (j := j) hk0 hi1 hi2
      repeat walk_at "m1"
      refine XS_append H.good.inter rfl rfl ⟨_, rfl⟩ ?_
      repeat walk_at "m1"
      refine app_mk1 hmm ?_
      repeat walk_at "m1"
      refine app_mk2 (mas.map .ref) hmm (by rw [List.length_map, hmt.1, List.length_map, sizeLine_eq]; lia) ?_
      repeat walk_at "m1"
      have hstk1 : stackSize (Q' ++ (if alo < i ∧ blo < j then [(alo, i, blo, j)] else [])) ≤ 2 * as.length := by
       have : stackSize (Q' ++ (if alo < i ∧ blo < j then [(alo, i, blo, j)] else [])) ≤ stackSize (Q' ++ (if alo < i ∧ blo < j then [(alo, i, blo, j)] else []) ++ (if i + k < ahi ∧ j + k < bhi then [(i + k, ahi, j + k, bhi)] else [])) := by
        rw [stackSize_append (Q' ++ _)]; lia
       lia
      refine XB_gen (fun S5 => S5.loc = look nBlocks [some (.ref x), some (iv as.length), some (iv bs.length), some (.ref qu), some (.ref mb), some (iv alo), some (iv ahi), some (iv blo), some (iv bhi), some (iv i), some (iv j), some (iv k), some (.ref r), none, none, none, none, none, none, none] ∧ (∀ b o, b ≠ qu ∧ b ≠ mb → S.hp b = some o → S5.hp b = some o) ∧ LT S5.hp qu (Q'.map encW) ∧ LM S5.hp mb ((MB ++ [(i, j, k)]).map encM)) ⟨rfl, ?_, ?_, ?_⟩ ?_
      ·intro b o h e
       exact St.hp_there h.2 (hkeep b o h e)
      ·exact ⟨qas2, St.hp_there q3 hqq, hqt4.keeps fun b v e => St.hp_there (ne_hp e hmm rfl) e⟩
      ·rw [List.map_append]
       exact LM.push (w := encM (i, j, k)) hmm hmt hrm
      intro S5 hZ
      refine an4 hZ fun hl5 hk5 hQ5 hMB5 => ?_
      clear hZ
      refine XB_cut (fun st' => st'.loc = look nBlocks [some (.ref x), some (iv as.length), some (iv bs.length), some (.ref qu), some (.ref mb), some (iv alo), some (iv ahi), some (iv blo), some (iv bhi), some (iv i), some (iv j), some (iv k), some (.ref r), none, none, none, none, none, none, none] ∧ (∀ b o, b ≠ qu ∧ b ≠ mb → S.hp b = some o → st'.hp b = some o) ∧ LT st'.hp qu ((Q' ++ (if alo < i ∧ blo < j then [(alo, i, blo, j)] else [])).map encW) ∧ LM st'.hp mb ((MB ++ [(i, j, k)]).map encM)) ?_ ?_
      ·refine ABS_cut fun K3 hK3 => ?_
       refine XS_If' (TS_val (alo < i ∧ blo < j) ?_ ⟨fun hc => ?_, fun hc => ?_⟩)
       ·repeat walk_at "m1"
        refine ⟨fun c1 => ?_, fun c1 => ⟨(decide_eq_false (fun h => by have := of_decide_eq_false c1; lia)).symm, rfl⟩⟩
        repeat walk_at "m1"
        refine ⟨fun c2 => ?_, fun c2 => ⟨(decide_eq_false (fun h => by have := of_decide_eq_false c2; lia)).symm, rfl⟩⟩
        repeat walk_at "m1"
        exact ⟨(decide_eq_true (by have := of_decide_eq_true c1; have := of_decide_eq_true c2; lia)).symm, rfl⟩
       ·replace hc := of_decide_eq_true hc
        obtain ⟨qa, hqa1, hqa2⟩ := hQ5
        obtain ⟨ma, hma1, hma2⟩ := hMB5
        repeat walk_at "m1"
        refine XS_append H.good.inter rfl rfl ⟨_, rfl⟩ ?_
        repeat walk_at "m1"
        refine app_mk1 hqa1 ?_
        repeat walk_at "m1"
        refine ⟨Nat.le_of_ble_eq_true rfl, fun u hu => ?_⟩
        refine app_mk2 (qa.map .ref) (St.hp_there (St.apart hu hqa1) hqa1) (by rw [List.length_map, hqa2.length, List.length_map, sizeLine_eq]; have := stack_len (Q'); lia) ?_
        repeat walk_at "m1"
        refine hK3 _ ⟨hl5, keep_upd (keep_put hk5 hu) (fun q => q.1 rfl), ?_, ma, St.hp_there (Ne.symm q3) (St.hp_there (St.apart hu hma1) hma1), hma2.keeps fun b v e => St.hp_there (ne_hp e hqa1 rfl) (St.hp_there (St.apart hu e) e)⟩
        rw [if_pos hc, List.map_append]
        exact LT.push (w := encW (alo, i, blo, j)) hqa1 hqa2 hu
       ·replace hc := of_decide_eq_false hc
        repeat walk_at "m1"
        refine hK3 _ ⟨hl5, hk5, ?_, hMB5⟩
        rw [if_neg hc, List.append_nil]
        exact hQ5
      ·intro S6 hZ
       refine an4 hZ fun hl5 hk5 hQ5 hMB5 => ?_
       clear hZ
       repeat walk_at "m1"
       refine XB_cut (fun st' => st'.loc = look nBlocks [some (.ref x), some (iv as.length), some (iv bs.length), some (.ref qu), some (.ref mb), some (iv alo), some (iv ahi), some (iv blo), some (iv bhi), some (iv i), some (iv j), some (iv k), some (.ref r), none, none, none, none, none, none, none] ∧ (∀ b o, b ≠ qu ∧ b ≠ mb → S.hp b = some o → st'.hp b = some o) ∧ LT st'.hp qu ((Q' ++ (if alo < i ∧ blo < j then [(alo, i, blo, j)] else []) ++ (if i + k < ahi ∧ j + k < bhi then [(i + k, ahi, j + k, bhi)] else [])).map encW) ∧ LM st'.hp mb ((MB ++ [(i, j, k)]).map encM)) ?_ ?_
       ·refine ABS_cut fun K4 hK4 => ?_
        refine XS_If' (TS_val (i + k < ahi ∧ j + k < bhi) ?_ ⟨fun hc => ?_, fun hc => ?_⟩)
        ·repeat walk_at "m1"
         refine ⟨fun c1 => ?_, fun c1 => ⟨(decide_eq_false (fun h => by have := of_decide_eq_false c1; lia)).symm, rfl⟩⟩
         repeat walk_at "m1"
         refine ⟨fun c2 => ?_, fun c2 => ⟨(decide_eq_false (fun h => by have := of_decide_eq_false c2; lia)).symm, rfl⟩⟩
         repeat walk_at "m1"
         exact ⟨(decide_eq_true (by have := of_decide_eq_true c1; have := of_decide_eq_true c2; lia)).symm, rfl⟩
        ·replace hc := of_decide_eq_true hc
         obtain ⟨qa, hqa1, hqa2⟩ := hQ5
         obtain ⟨ma, hma1, hma2⟩ := hMB5
         repeat walk_at "m1"
         refine XS_append H.good.inter rfl rfl ⟨_, rfl⟩ ?_
         repeat walk_at "m1"
         refine app_mk1 hqa1 ?_
         repeat walk_at "m1"
         refine ⟨Nat.le_of_ble_eq_true rfl, fun u hu => ?_⟩
         refine app_mk2 (qa.map .ref) (St.hp_there (St.apart hu hqa1) hqa1) (by rw [List.length_map, hqa2.length, List.length_map, sizeLine_eq]; have := stack_len (Q' ++ (if alo < i ∧ blo < j then [(alo, i, blo, j)] else [])); lia) ?_
         repeat walk_at "m1"
         refine hK4 _ ⟨hl5, keep_upd (keep_put hk5 hu) (fun q => q.1 rfl), ?_, ma, St.hp_there (Ne.symm q3) (St.hp_there (St.apart hu hma1) hma1), hma2.keeps fun b v e => St.hp_there (ne_hp e hqa1 rfl) (St.hp_there (St.apart hu e) e)⟩
         rw [if_pos hc, List.map_append]
         exact LT.push (w := encW (i + k, ahi, j + k, bhi)) hqa1 hqa2 hu
        ·replace hc := of_decide_eq_false hc
         repeat walk_at "m1"
         refine hK4 _ ⟨hl5, hk5, ?_, hMB5⟩
         rw [if_neg hc, List.append_nil]
         exact hQ5
       ·intro S6 hZ
        refine an4 hZ fun hl5 hk5 hQ5 hMB5 => ?_
        clear hZ
        repeat walk_at "m1"
        refine hK2 _ _ ?_ (Ex8.mk (some (iv alo)) (some (iv ahi)) (some (iv blo)) (some (iv bhi)) (some (iv i)) (some (iv j)) (some (iv k)) (some (.ref r)) (exI2 (MB ++ [(i, j, k)]) _ ⟨hl5, hk5, hQ5, hMB5, hp2, ?_, rfl, ?_⟩))
        ·rw [← hm]; exact hless
        ·intro q hq
         rcases List.mem_append.mp hq with hq | hq
         ·rcases List.mem_append.mp hq with hq | hq
          ·exact hok q (List.mem_append_left _ hq)
          ·split at hq
           ·rw [List.mem_singleton.mp hq]; exact ok1
           ·cases hq
         ·split at hq
          ·rw [List.mem_singleton.mp hq]; exact ok2
          ·cases hq
        ·exact Nat.le_trans (Nat.le_of_lt hless) hsz
     ·have hk0 : k = 0 := by
       cases k with
       | zero => rfl
       | succ k => exact absurd hk0 (by simp; lia)
      repeat walk_at "m1"
      refine hK2 (stackSize Q') _ ?_ (Ex8.mk _ _ _ _ _ _ _ _ (exI2 MB Q' ⟨rfl, hkeep, ⟨qas2, hqq, hqt4⟩, ⟨mas, hmm, hmt⟩, stack_none hwin (by rw [hlg]; exact hk0) hperm, fun q hq => hok q (List.mem_append_left _ hq), rfl, by lia⟩))
      rw [← hm, stackSize_append, stackSize_one]
      lia
  ·intro S7 hJ
   refine Ex8.elim hJ fun o1 o2 o3 o4 o5 o6 o7 o8 hJ => ?_
   obtain ⟨MB, hJ⟩ := hJ
   refine an4 hJ fun hl7 hk7 hMB7 hperm => ?_
   clear hJ
   obtain ⟨mas, hma1, hma2⟩ := hMB7
   have k7 : Keeps st.hp S7.hp := fun b o e => hk7 b o ⟨St.apart q1 e, St.apart q2 e⟩ (k1 b o e)
   repeat walk_at "m1"
   refine XS_E H rfl ?_
   refine EX_M0 ⟨_, rfl⟩ ?_
   repeat walk_at "m1"
   refine METH_list hma1 slot_list_sort rfl ?_
   repeat walk_at "m1"
   have hMBz : MB.length ≤ 60 := by rw [hperm.length_eq]; exact hallz
   refine CALL_sort H.good H.off H.base.ml hma1 hma2 hperm hch.rises (by lia) fun mas' hms => ?_
   repeat walk_at "m1"
   refine XS_Assign3 rfl rfl ?_
   repeat walk_at "m1"
   refine ASG_loc H hl7 (by walk_at "loc") ?_
   refine ASG_loc H rfl (by walk_at "loc") ?_
   refine ASG_loc H rfl (by walk_at "loc") ?_
   repeat walk_at "m1"
   refine ⟨Nat.zero_le _, fun na hna => ?_⟩
   repeat walk_at "m1"
   have hmbna : mb ≠ na := St.apart hna St.put_self
   refine XB_gen (fun S8 => S8.loc = look nBlocks [some (.ref x), some (iv as.length), some (iv bs.length), some (.ref qu), some (.ref mb), o1, o2, o3, o4, o5, o6, o7, o8, some (iv (0 : Nat)), some (iv (0 : Nat)), some (iv (0 : Nat)), some (.ref na), none, none, none] ∧ Keeps st.hp S8.hp ∧ S8.hp mb = some (.list (mas'.map .ref)) ∧ Mats S8.hp mas' (all.map encM) ∧ S8.hp na = some (.list []) ∧ st.hp na = none ∧ mb ≠ na) ⟨rfl, (fun b o e => St.hp_there (St.apart hna (St.hp_there (St.apart q2 e) (k7 b o e))) (St.hp_there (St.apart q2 e) (k7 b o e))), St.hp_there hmbna St.put_self, ?_, St.put_self, ?_, hmbna⟩ ?_
   ·refine hms.keeps fun a v e => ?_
    have a1 : a ≠ mb := ne_hp e hma1 rfl
    have a2 : a ≠ na := St.apart hna (St.hp_there a1 e)
    exact St.hp_there a2 (St.hp_there a1 e)
   ·have k8 : Keeps st.hp (S7.put mb (.list (mas'.map .ref))).hp := fun b o e => St.hp_there (St.apart q2 e) (k7 b o e)
    exact k8.none hna
   clear hna hms hma1 hma2 hmbna
   intro S8 hZ
   refine an7 hZ fun hl8 k8 hmb8 hms8 hna8 hna0 hmbna => ?_
   clear hZ
   have hJ0 : joinGo as.length bs.length (0, 0, 0) all = [] ++ joinGo as.length bs.length (0, 0, 0) (all.drop 0) := rfl
   refine XB_cut (fun st' => Ex3 fun p1 p2 p3 => ∃ (i1 j1 k1 : Nat) (NA : List (Nat × Nat × Nat)), st'.loc = look nBlocks [some (.ref x), some (iv as.length), some (iv bs.length), some (.ref qu), some (.ref mb), o1, o2, o3, o4, o5, o6, o7, o8, some (iv i1), some (iv j1), some (iv k1), some (.ref na), p1, p2, p3] ∧ (∀ b o, b ≠ na → S8.hp b = some o → st'.hp b = some o) ∧ LT st'.hp na (NA.map encM) ∧ NA.length ≤ 60 ∧ joinGo as.length bs.length (0, 0, 0) all = NA ++ joinGo as.length bs.length (i1, j1, k1) []) ?_ ?_
   ·refine ABS_cut fun K5 hK5 => ?_
    refine XS_ForList H.hand (fun _ => rfl) ?_
    repeat walk_at "m1"
    refine list_mk mb (mas'.map .ref) (fun t st' => Ex3 fun p1 p2 p3 => ∃ (i1 j1 k1 : Nat) (NA : List (Nat × Nat × Nat)), st'.loc = look nBlocks [some (.ref x), some (iv as.length), some (iv bs.length), some (.ref qu), some (.ref mb), o1, o2, o3, o4, o5, o6, o7, o8, some (iv i1), some (iv j1), some (iv k1), some (.ref na), p1, p2, p3] ∧ (∀ b o, b ≠ mb ∧ b ≠ na → S8.hp b = some o → st'.hp b = some o) ∧ LT st'.hp na (NA.map encM) ∧ NA.length ≤ t ∧ joinGo as.length bs.length (0, 0, 0) all = NA ++ joinGo as.length bs.length (i1, j1, k1) (all.drop t)) rfl hmb8 ?_ ?_ ?_
    ·exact Ex3.mk none none none (exI4 0 0 0 [] ⟨hl8, fun b o h e => St.hp_del e h.1, ⟨[], St.hp_del hna8 (Ne.symm hmbna), .nil⟩, Nat.le_refl _, hJ0⟩)
    ·intro t v c1 st' hv X hJ
     refine ABS_asg fun K6 hK6 => ?_
     refine Ex3.elim hJ fun p1 p2 p3 hJ => ?_
     revert hJ; refine ex4i fun i1 j1 k1 NA hJ => ?_
     refine an5 hJ fun hl9 hk9 hNA9 hz9 hj9 => ?_
     clear hJ
     have H1 := H.ext X
     clear H
     obtain ⟨u, hu1, rfl⟩ : ∃ u, mas'[t]? = some u ∧ v = .ref u := by
      rw [List.getElem?_map] at hv
      obtain ⟨u, h1, h2⟩ := Option.map_eq_some_iff.mp hv
      exact ⟨u, h1, h2.symm⟩
     have htl : t < all.length := by
      have := (List.getElem?_eq_some_iff.mp hu1).1
      rw [hms8.1, List.length_map] at this
      exact this
     obtain ⟨⟨i2, j2, k2⟩, hb⟩ : ∃ b, all[t]? = some b := ⟨_, List.getElem?_eq_getElem htl⟩
     have hum : S8.hp u = some (.mat aMatch [iv i2, iv j2, iv k2]) := hms8.2 t u (encM (i2, j2, k2)) hu1 (by rw [List.getElem?_map, hb]; rfl)
     have hu2 : u ≠ mb := ne_hp hum hmb8 rfl
     have hu3 : u ≠ na := ne_hp hum hna8 rfl
     refine ASG_Tuple3M H1.hand H1.base.ml rfl rfl rfl (hk9 _ _ ⟨hu2, hu3⟩ hum) ?_
     refine ASG_loc H1 hl9 (by walk_at "loc") ?_
     refine ASG_loc H1 rfl (by walk_at "loc") ?_
     refine ASG_loc H1 rfl (by walk_at "loc") ?_
     have hstep := hj9
     rw [drop_of_get hb] at hstep
     refine XB_cons ?_
     refine XS_If' (TS_val (i1 + k1 = i2 ∧ j1 + k1 = j2) ?_ ⟨fun hc => ?_, fun hc => ?_⟩)
     ·repeat walk_at "m1"
      refine ⟨fun c1 => ?_, fun c1 => ⟨(decide_eq_false (fun h => by have := ne_of_beq_false c1; lia)).symm, rfl⟩⟩
      repeat walk_at "m1"
      refine ⟨fun c2 => ?_, fun c2 => ⟨(decide_eq_false (fun h => by have := ne_of_beq_false c2; lia)).symm, rfl⟩⟩
      repeat walk_at "m1"
      exact ⟨(decide_eq_true (by have := eq_of_beq c1; have := eq_of_beq c2; lia)).symm, rfl⟩
     ·replace hc := of_decide_eq_true hc
      repeat walk_at "m1"
      refine hK6 _ (Ex3.mk _ _ _ (exI4 i1 j1 (k1 + k2) NA ⟨rfl, hk9, hNA9, by lia, ?_⟩))
      rw [hstep, joinGo, if_pos hc]
     ·replace hc := of_decide_eq_false hc
      obtain ⟨nas, hna1, hna2⟩ := hNA9
      refine XB_cons ?_
      refine XS_If' ?_
      refine TS_name H1 rfl (by walk_at "loc") ?_
      repeat walk_at "m1"
      refine ⟨fun hk0 => ?_, fun hk0 => ?_⟩
      ·replace hk0 : k1 ≠ 0 := by intro e; subst e; simp at hk0
       repeat walk_at "m1"
       refine XS_append H1.good.inter rfl rfl ⟨_, rfl⟩ ?_
       repeat walk_at "m1"
       refine app_mk1 hna1 ?_
       repeat walk_at "m1"
       refine ⟨Nat.le_of_ble_eq_true rfl, fun w hw => ?_⟩
       refine app_mk2 (nas.map .ref) (St.hp_there (St.apart hw hna1) hna1) (by rw [List.length_map, hna2.length, List.length_map, sizeLine_eq]; lia) ?_
       repeat walk_at "m1"
       refine hK6 _ (Ex3.mk _ _ _ (exI4 i2 j2 k2 (NA ++ [(i1, j1, k1)]) ⟨rfl, keep_upd (keep_put hk9 hw) (fun q => q.2 rfl), ?_, by simp; lia, ?_⟩))
       ·rw [List.map_append]; exact LT.push (w := encM (i1, j1, k1)) hna1 hna2 hw
       ·rw [hstep, joinGo, if_neg hc, if_neg hk0, List.append_assoc]
      ·have hk0 : k1 = 0 := by
        cases k1 with
        | zero => rfl
        | succ k => exact absurd hk0 (by simp; lia)
       repeat walk_at "m1"
       refine hK6 _ (Ex3.mk _ _ _ (exI4 i2 j2 k2 NA ⟨rfl, hk9, ⟨nas, hna1, hna2⟩, by lia, ?_⟩))
       rw [hstep, joinGo, if_neg hc, if_pos hk0, List.nil_append]
    ·intro st' hJ hnm
     refine hK5 _ ?_
     refine Ex3.elim hJ fun p1 p2 p3 hJ => ?_
     revert hJ; refine ex4i fun i1 j1 k1 NA hJ => ?_
     refine an5 hJ fun hl9 hk9 hNA9 hz9 hj9 => ?_
     clear hJ
     have e : (mas'.map Value.ref).length = all.length := by rw [List.length_map, hms8.1, List.length_map]
     rw [e, List.drop_length] at hj9
     rw [e] at hz9
     refine Ex3.mk p1 p2 p3 (exI4 i1 j1 k1 NA ⟨hl9, fun b o h e => ?_, ?_, by lia, hj9⟩)
     ·by_cases q : b = mb
      ·rw [q, hmb8] at e
       cases e
       rw [q]; exact St.put_self
      ·exact St.hp_there q (hk9 b o ⟨q, h⟩ e)
     ·obtain ⟨nas, h1, h2⟩ := hNA9
      exact ⟨nas, St.hp_there (Ne.symm hmbna) h1, h2.keeps fun a v e => St.hp_there (St.apart hnm e) e⟩
   ·intro S9 hJ
    refine Ex3.elim hJ fun p1 p2 p3 hJ => ?_
    revert hJ; refine ex4i fun i1 j1 k1 NA hJ => ?_
    refine an5 hJ fun hl9 hk9 hNA9 hz9 hj9 => ?_
    clear hJ
    rw [joinGo] at hj9
    obtain ⟨nas, hna1, hna2⟩ := hNA9
    refine XB_cut (fun st' => st'.loc = look nBlocks [some (.ref x), some (iv as.length), some (iv bs.length), some (.ref qu), some (.ref mb), o1, o2, o3, o4, o5, o6, o7, o8, some (iv i1), some (iv j1), some (iv k1), some (.ref na), p1, p2, p3] ∧ (∀ b o, b ≠ na → S8.hp b = some o → st'.hp b = some o) ∧ LT st'.hp na ((NA ++ (if k1 = 0 then [] else [(i1, j1, k1)])).map encM)) ?_ ?_
    ·refine ABS_cut fun K7 hK7 => ?_
     refine XS_If' ?_
     refine TS_name H hl9 (by walk_at "loc") ?_
     repeat walk_at "m1"
     refine ⟨fun hk0 => ?_, fun hk0 => ?_⟩
     ·replace hk0 : k1 ≠ 0 := by intro e; subst e; simp at hk0
      repeat walk_at "m1"
      refine XS_append H.good.inter rfl rfl ⟨_, rfl⟩ ?_
      repeat walk_at "m1"
      refine app_mk1 hna1 ?_
      repeat walk_at "m1"
      refine ⟨Nat.le_of_ble_eq_true rfl, fun w hw => ?_⟩
      refine app_mk2 (nas.map .ref) (St.hp_there (St.apart hw hna1) hna1) (by rw [List.length_map, hna2.length, List.length_map, sizeLine_eq]; lia) ?_
      repeat walk_at "m1"
      refine hK7 _ ⟨hl9, keep_upd (keep_put hk9 hw) (fun q => q rfl), ?_⟩
      rw [if_neg hk0, List.map_append]; exact LT.push (w := encM (i1, j1, k1)) hna1 hna2 hw
     ·have hk0 : k1 = 0 := by
       cases k1 with
       | zero => rfl
       | succ k => exact absurd hk0 (by simp; lia)
      repeat walk_at "m1"
      refine hK7 _ ⟨hl9, hk9, nas, hna1, ?_⟩
      rw [if_pos hk0, List.append_nil]; exact hna2
    ·intro S10 hZ
     refine an3 hZ fun hl10 hk10 hTl => ?_
     clear hZ
     obtain ⟨nas', hnb1, hnb2⟩ := hTl
     clear hna1 hna2
     repeat walk_at "m1"
     refine XS_append H.good.inter rfl rfl ⟨_, rfl⟩ ?_
     repeat walk_at "m1"
     refine app_mk1 hnb1 ?_
     repeat walk_at "m1"
     refine ⟨Nat.le_of_ble_eq_true rfl, fun w hw => ?_⟩
     refine app_mk2 (nas'.map .ref) (St.hp_there (St.apart hw hnb1) hnb1) (by rw [List.length_map, hnb2.length, List.length_map, sizeLine_eq, List.length_append]; split <;> simp <;> lia) ?_
     repeat walk_at "m1"
     have hall3 : LT ((S10.put w (.tup [iv as.length, iv bs.length, iv (0 : Nat)])).put na (.list (nas'.map .ref ++ [.ref w]))).hp na ((NA ++ (if k1 = 0 then [] else [(i1, j1, k1)]) ++ [(as.length, bs.length, 0)]).map encM) := by
      rw [List.map_append (l₂ := [(as.length, bs.length, 0)])]
      exact LT.push (w := encM (as.length, bs.length, 0)) hnb1 hnb2 hw
     have hkA : Keeps st.hp ((S10.put w (.tup [iv as.length, iv bs.length, iv (0 : Nat)])).put na (.list (nas'.map .ref ++ [.ref w]))).hp := fun b o e => by
      have e1 : S10.hp b = some o := hk10 b o (St.apart hna0 e) (k8 b o e)
      exact St.hp_there (St.apart hna0 e) (St.hp_there (St.apart hw e1) e1)
     generalize hS11 : (S10.put w (.tup [iv as.length, iv bs.length, iv (0 : Nat)])).put na (.list (nas'.map .ref ++ [.ref w])) = S11 at hall3 hkA ⊢
     have hl11 : S11.loc = S10.loc := by rw [← hS11]; rfl
     rw [hl10] at hl11
     refine XS_selfA (x := x) (dx := dx) H rfl ?_
     repeat walk_at "m1"
     refine EX_make H ?_ fun m hm => ?_
     ·repeat walk_at "m1"
      exact ⟨rfl, rfl⟩
     repeat walk_at "m1"
     obtain ⟨nas2, hw1, hw2⟩ := hall3
     refine CALL_map (St.hp_there (St.apart hm hw1) hw1) fun I T mo i1n i2n i3n hI hT hM => ?_
     repeat walk_at "m1"
     generalize hS12 : S11.put m (AObj.raw (methodObj (Value.ref aMake) (Value.ref aMatch))) = S12 at hI hT hM ⊢
     have k12 : Keeps S11.hp S12.hp := by rw [← hS12]; exact (Keeps.refl _).put hm
     have hl12 : S12.loc = S11.loc := by rw [← hS12]; rfl
     have hm12 : S12.hp m = some (AObj.raw (methodObj (Value.ref aMake) (Value.ref aMatch))) := by rw [← hS12]; exact St.put_self
     have k13 : Keeps S12.hp (((S12.put I (.raw (itObj na 0))).put T (.tup [.ref I])).put mo (.raw (mapObj T m))).hp := fun b o e => St.hp_there (St.apart hM e) (St.hp_there (St.apart hT e) (St.hp_there (St.apart hI e) e))
     refine CALL_listmap (n := n + 1) (ws := (NA ++ (if k1 = 0 then [] else [(i1, j1, k1)]) ++ [(as.length, bs.length, 0)]).map encM) H.good H.base ?_ ?_ (k13 _ _ hm12) St.put_self (St.hp_there i3n St.put_self) (St.hp_there i2n (St.hp_there i1n St.put_self)) (k13 _ _ (k12 _ _ hw1)) (hw2.keeps fun a v e => k13 _ _ (k12 _ _ e)) fun r hp' hr hk' hLM => ?_
     ·rw [List.length_map, List.length_append, List.length_append]
      split <;> simp <;> lia
     ·intro w hw
      obtain ⟨q, _, rfl⟩ := List.mem_map.mp hw
      exact ⟨_, _, _, rfl⟩
     have hkB : Keeps st.hp (((S12.put I (.raw (itObj na 0))).put T (.tup [.ref I])).put mo (.raw (mapObj T m))).hp := (hkA.trans k12).trans k13
     have hIn : st.hp I = none := (hkA.trans k12).none hI
     have hkC : Keeps st.hp hp' := fun b o e => hk' b o (St.apart hIn e) (hkB b o e)
     refine ⟨_, hl12.trans hl11, by walk_at "loc", NEXTA_mk (M.keeps hkC) (by walk_at "loc") ?_⟩
     have hMM := (M.keeps (hp' := hp') hkC)
     repeat walk_at "m1"
     refine EX_self H (hl12.trans hl11) (by walk_at "loc") (vals := mvals J la lb auto (.ref r) oc d jd pd) (SM.put (st := ⟨S12.loc, hp'⟩) hMM) (by walk_at "loc") rfl ?_
     repeat walk_at "m1"
     have hdr : r ≠ dx := fun q => by
      have := hkB.none hr
      rw [q, M.d] at this; cases this
     obtain ⟨ras, hr1, hr2⟩ := hLM
     refine hΦ r _ (hkB.none hr) (fun b o hb e => St.hp_there hb (hkC b o e)) (SM.put (st := ⟨S12.loc, hp'⟩) hMM) ⟨ras, St.hp_there hdr hr1, ?_⟩
     have hjj : joinGo as.length bs.length (0, 0, 0) all = NA ++ (if k1 = 0 then [] else [(i1, j1, k1)]) ++ [(as.length, bs.length, 0)] := by
      rw [hj9, ← List.append_assoc]
     rw [hjj]
     refine hr2.keeps fun a v e => St.hp_there (fun q => ?_) e
     have := hMM.d
     rw [← q, e] at this; cases this
end
end Mine
end
section
open PySem PySem.W PyProof.Rows PySem.Calls
namespace Mine
theorem joinGo_len (la lb : Nat) : ∀ (l : List (Nat × Nat × Nat)) (i j k : Nat), (joinGo la lb (i, j, k) l).length ≤ l.length + 2
 | [], i, j, k => by
  rw [joinGo]
  split <;> simp
 | (a, b, d) :: r, i, j, k => by
  rw [joinGo]
  split
  ·have := joinGo_len la lb r i j (k + d)
   simp only [List.length_cons]; lia
  ·have := joinGo_len la lb r a b d
   rw [List.length_append, List.length_cons]
   split <;> simp <;> lia
theorem gap_len (i j p q : Nat) : (gap i j p q).length ≤ 1 := by
 unfold gap
 split
 ·simp
 ·split
  ·simp
  ·split <;> simp
noncomputable def gapWord (i j p q : Nat) : Str := if i < p ∧ j < q then "replace" else if i < p then "delete" else if j < q then "insert" else ""
noncomputable abbrev nOpcodes : List Str := ["self", "i", "j", "answer", "ai", "bj", "size", "tag"]
set_option maxHeartbeats 2000000 in
theorem tab_opcodes : Tab (inCls 5 8) nOpcodes where
 nodup := by decide +kernel
 loc := by decide +kernel
 dbg := by decide +kernel
 cell := by decide +kernel
 co := by rfl
 gen := by rfl
 kind := by rfl
theorem gapWord_enc (i j p q : Nat) : (gapWord i j p q = "" ∧ gap i j p q = []) ∨ (((gapWord i j p q).length : Int) ≠ 0 ∧ (gap i j p q).map enc = [[.str (gapWord i j p q) 0, iv i, iv p, iv j, iv q]]) := by
 unfold gapWord gap
 split
 ·exact .inr ⟨by decide +kernel, rfl⟩
 ·split
  ·exact .inr ⟨by decide +kernel, rfl⟩
  ·split
   ·exact .inr ⟨by decide +kernel, rfl⟩
   ·exact .inl ⟨rfl, rfl⟩
theorem gapWord_len (i j p q : Nat) : ((gapWord i j p q).length : Int) < 9223372036854775808 := by
 unfold gapWord
 split
 ·decide +kernel
 ·split
  ·decide +kernel
  ·split <;> decide +kernel
theorem Tabs.keepsD {hp hp' : Addr → Option AObj} {lb d jd dx : Addr} {f : Str → Option Value} {bs junk : List Nat} {act : Nat → Bool} (T : Tabs hp lb d jd bs junk act) (hd : hp dx = some (.attrs f)) (k : ∀ b o, b ≠ dx → hp b = some o → hp' b = some o) : Tabs hp' lb d jd bs junk act := by
 have ne : ∀ b o, hp b = some o → (∀ f, o ≠ .attrs f) → b ≠ dx := fun b o e h q => by rw [q, hd] at e; cases e; exact h _ rfl
 refine ⟨k _ _ (ne _ _ T.lb nofun) T.lb, ?_, ?_⟩
 ·obtain ⟨kvs, h1, h2⟩ := T.d
  refine ⟨kvs, k _ _ (ne _ _ h1 nofun) h1, fun ch => ⟨fun h => ?_, (h2 ch).2⟩⟩
  obtain ⟨li, h3, h4⟩ := (h2 ch).1 h
  exact ⟨li, h3, k _ _ (ne _ _ h4 nofun) h4⟩
 ·obtain ⟨S, n, h1, h2⟩ := T.jd
  exact ⟨S, n, k _ _ (ne _ _ h1 nofun) h1, h2⟩
section
variable {c : Cx} {st : St} {Φ : Value → St → Prop} {n : Nat}
set_option maxHeartbeats 8000000 in
theorem call_opcodes {x dx la lb d jd pd : Addr} {J : Value} {auto : Bool} {as bs junk : List Nat} {act : Nat → Bool} (G : Good c (n + 6)) (Bs : Base c.w c.h₀) (M : SM st.hp x dx (mvals J la lb auto .none .none d jd pd)) (hla : st.hp la = some (.list (sL as))) (T : Tabs st.hp lb d jd bs junk act)
  (za : as.length ≤ 60) (zb : bs.length ≤ 1000)
  (hΦ : ∀ r mb hp', st.hp r = none → (∀ b o, b ≠ dx → st.hp b = some o → hp' b = some o) → SM hp' x dx (mvals J la lb auto (.ref mb) (.ref r) d jd pd) → LT hp' r ((opc 0 0 (joinGo as.length bs.length (0, 0, 0) (allBlocks as bs act junk))).map enc) → Φ (.ref r) ⟨st.loc, hp'⟩) : CALL c (.ref aCodes) [.ref x] st Φ := by
 refine CALL_fn0 (vals := [some (.ref x), none, none, none, none, none, none, none]) G Bs Bs.fCodes tab_opcodes (fun nm q doc pm an code ct us hu => ?_) (by simp) rfl fun c' H => ?_
 ·obtain ⟨a, rfl⟩ := len1 hu; rfl
 ·refine XB_cons ?_
  refine XS_E H rfl ?_
  repeat walk_at "m1"
  refine XB_cons ?_
  refine XS_If' ?_
  repeat walk_at "m1"
  walk_at "self"
  repeat walk_at "m1"
  refine ⟨fun q => by simp at q, fun _ => ?_⟩
  repeat walk_at "m1"
  refine XS_Assign2 rfl rfl ?_
  repeat walk_at "m1"
  refine ASG_loc H rfl (by walk_at "loc") ?_
  refine ASG_loc H rfl (by walk_at "loc") ?_
  repeat walk_at "m1"
  refine XS_Assign2 rfl rfl ?_
  repeat walk_at "m1"
  refine ⟨Nat.zero_le _, fun an han => ?_⟩
  have hx1 := (M.keeps ((Keeps.refl st.hp).put (o := AObj.list []) han))
  refine ASG_self (x := x) (dx := dx) H rfl (by walk_at "loc") (NEXTA_mk hx1 (by walk_at "loc") ?_)
  refine ASG_loc H rfl (by walk_at "loc") ?_
  repeat walk_at "m1"
  have hxan : x ≠ an := St.apart han M.x
  have hdan : dx ≠ an := St.apart han M.d
  refine XB_gen (fun S => S.loc = look nOpcodes [some (.ref x), some (iv (0 : Nat)), some (iv (0 : Nat)), some (.ref an), none, none, none, none] ∧ (∀ b o, b ≠ dx → st.hp b = some o → S.hp b = some o) ∧ SM S.hp x dx (mvals J la lb auto .none (.ref an) d jd pd) ∧ S.hp an = some (.list [])) ⟨rfl, (fun b o h e => St.hp_there h (St.hp_there (St.apart han e) e)), SM.put hx1, St.hp_there (Ne.symm hdan) St.put_self⟩ ?_
  intro S1 hZ
  refine an4 hZ fun hl1 k1 M1 ha1 => ?_
  clear hZ
  have hla1 : S1.hp la = some (.list (sL as)) := k1 _ _ (ne_hp hla M.d rfl) hla
  have T1 : Tabs S1.hp lb d jd bs junk act := T.keepsD M.d k1
  have hchain : Chain as.length bs.length 0 0 (allBlocks as bs act junk) := blocks_chain as bs act junk _ _ _ _ _ (Nat.zero_le _) (Nat.le_refl _) (Nat.zero_le _) (Nat.le_refl _)
  have hallz := hchain.len
  generalize hall : allBlocks as bs act junk = all at hΦ hchain hallz ⊢
  refine XB_cut (fun st' => ∃ (mb : Addr), Ex6 fun o1 o2 o3 o4 o5 o6 => st'.loc = look nOpcodes [some (.ref x), o1, o2, some (.ref an), o3, o4, o5, o6] ∧ (∀ b o, b ≠ dx → st.hp b = some o → st'.hp b = some o) ∧ SM st'.hp x dx (mvals J la lb auto (.ref mb) (.ref an) d jd pd) ∧ LT st'.hp an ((opc 0 0 (joinGo as.length bs.length (0, 0, 0) all)).map enc)) ?_ ?_
  ·refine ABS_cut fun K1 hK1 => ?_
   refine XS_ForList H.hand (fun _ => rfl) ?_
   obtain F := H.base.fBlocks
   refine EX_selfM0 H hl1 (by walk_at "loc") M1 (by walk_at "loc") F ⟨_, rfl⟩ ?_
   refine call_blocks (n := n) (by first | exact H.good | exact Good.mono H.good) H.base M1 hla1 T1 za zb fun r hp' hr hk hM hLM => ?_
   rw [hall] at hLM
   have hBz := joinGo_len as.length bs.length all 0 0 0
   generalize joinGo as.length bs.length (0, 0, 0) all = BL at hLM hΦ hBz hK1 ⊢
   obtain ⟨mas, hm1, hm2⟩ := hLM
   have hran : an ≠ r := St.apart hr ha1
   have han' : hp' an = some (.list []) := hk _ _ (Ne.symm hdan) ha1
   refine list_mk r (mas.map .ref) (fun t st' => ∃ (i j : Nat) (done : List Code5), Ex4 fun o3 o4 o5 o6 => st'.loc = look nOpcodes [some (.ref x), some (iv i), some (iv j), some (.ref an), o3, o4, o5, o6] ∧ (∀ b o, b ≠ r ∧ b ≠ an → hp' b = some o → st'.hp b = some o) ∧ LT st'.hp an (done.map enc) ∧ done.length ≤ 2 * t ∧ opc 0 0 BL = done ++ opc i j (BL.drop t)) rfl hm1 ?_ ?_ ?_
   ·exact (exI3 0 0 [] (Ex4.mk none none none none ⟨hl1, fun b o h e => St.hp_del (st := ⟨S1.loc, hp'⟩) e h.1, ⟨[], St.hp_del (st := ⟨S1.loc, hp'⟩) han' hran, .nil⟩, Nat.le_refl _, rfl⟩))
   ·intro t v c1 st' hv X hJ
    refine ABS_asg fun K2 hK2 => ?_
    revert hJ; refine ex3i fun i j done hJ => ?_
    refine Ex4.elim hJ fun o3 o4 o5 o6 hJ => ?_
    refine an5 hJ fun hl hkk hL hz hopc => ?_
    clear hJ
    have H1 := H.ext X
    clear H
    obtain ⟨u, hu1, rfl⟩ : ∃ u, mas[t]? = some u ∧ v = .ref u := by
     rw [List.getElem?_map] at hv
     obtain ⟨u, h1, h2⟩ := Option.map_eq_some_iff.mp hv
     exact ⟨u, h1, h2.symm⟩
    have htl : t < BL.length := by
     have := (List.getElem?_eq_some_iff.mp hu1).1
     rw [hm2.1, List.length_map] at this
     exact this
    obtain ⟨⟨p, q, k⟩, hb⟩ : ∃ b, BL[t]? = some b := ⟨_, List.getElem?_eq_getElem htl⟩
    have hum : hp' u = some (.mat aMatch [iv p, iv q, iv k]) := hm2.2 t u (encM (p, q, k)) hu1 (by rw [List.getElem?_map, hb]; rfl)
    have hu2 : u ≠ r := ne_hp hum hm1 rfl
    have hu3 : u ≠ an := ne_hp hum han' rfl
    refine ASG_Tuple3M H1.hand H1.base.ml rfl rfl rfl (hkk _ _ ⟨hu2, hu3⟩ hum) ?_
    refine ASG_loc H1 hl (by walk_at "loc") ?_
    refine ASG_loc H1 rfl (by walk_at "loc") ?_
    refine ASG_loc H1 rfl (by walk_at "loc") ?_
    rw [drop_of_get hb, opc] at hopc
    repeat walk_at "m1"
    refine XB_cut (fun s => s.loc = look nOpcodes [some (.ref x), some (iv i), some (iv j), some (.ref an), some (iv p), some (iv q), some (iv k), some (.str (gapWord i j p q) 0)] ∧ s.hp = st'.hp) ?_ ?_
    ·refine ABS_cut fun K3 hK3 => ?_
     refine XS_If' (TS_val (i < p ∧ j < q) ?_ ⟨fun hc => ?_, fun hc => ?_⟩)
     ·repeat walk_at "m1"
      refine ⟨fun c1 => ?_, fun c1 => ⟨(decide_eq_false (fun h => by have := of_decide_eq_false c1; lia)).symm, rfl⟩⟩
      repeat walk_at "m1"
      refine ⟨fun c2 => ?_, fun c2 => ⟨(decide_eq_false (fun h => by have := of_decide_eq_false c2; lia)).symm, rfl⟩⟩
      repeat walk_at "m1"
      exact ⟨(decide_eq_true (by have := of_decide_eq_true c1; have := of_decide_eq_true c2; lia)).symm, rfl⟩
     ·replace hc := of_decide_eq_true hc
      repeat walk_at "m1"
      refine hK3 _ ⟨?_, rfl⟩
      unfold gapWord
      rw [if_pos hc]
     ·replace hc := of_decide_eq_false hc
      refine XB_cons ?_
      refine XS_If' (TS_val (i < p) ?_ ⟨fun hd => ?_, fun hd => ?_⟩)
      ·repeat walk_at "m1"
       exact ⟨decide_eq_decide.mpr (by lia), rfl⟩
      ·replace hd := of_decide_eq_true hd
       repeat walk_at "m1"
       refine hK3 _ ⟨?_, rfl⟩
       unfold gapWord
       rw [if_neg hc, if_pos hd]
      ·replace hd := of_decide_eq_false hd
       refine XB_cons ?_
       refine XS_If' (TS_val (j < q) ?_ ⟨fun hg => ?_, fun hg => ?_⟩)
       ·repeat walk_at "m1"
        exact ⟨decide_eq_decide.mpr (by lia), rfl⟩
       ·replace hg := of_decide_eq_true hg
        repeat walk_at "m1"
        refine hK3 _ ⟨?_, rfl⟩
        unfold gapWord
        rw [if_neg hc, if_neg hd, if_pos hg]
       ·replace hg := of_decide_eq_false hg
        repeat walk_at "m1"
        refine hK3 _ ⟨?_, rfl⟩
        unfold gapWord
        rw [if_neg hc, if_neg hd, if_neg hg]
    ·intro S2 hZ
     refine an2 hZ fun hl2 hh2 => ?_
     clear hZ
     repeat walk_at "m1"
     obtain ⟨das, hd1, hd2⟩ := hL
     rw [← hh2] at hd1 hd2
     refine XB_cut (fun s => s.loc = look nOpcodes [some (.ref x), some (iv i), some (iv j), some (.ref an), some (iv p), some (iv q), some (iv k), some (.str (gapWord i j p q) 0)] ∧ (∀ b o, b ≠ r ∧ b ≠ an → hp' b = some o → s.hp b = some o) ∧ LT s.hp an ((done ++ gap i j p q).map enc)) ?_ ?_
     ·refine ABS_cut fun K4 hK4 => ?_
      refine XS_If' ?_
      refine TS_name H1 hl2 (by walk_at "loc") ?_
      refine TRU_str (gapWord_len ..) ?_
      rcases gapWord_enc i j p q with ⟨e1, e2⟩ | ⟨e1, e2⟩
      ·refine ⟨fun hc => ?_, fun _ => ?_⟩
       ·rw [e1] at hc; exact absurd hc (by decide +kernel)
       ·repeat walk_at "m1"
        refine hK4 _ ⟨hl2, by rw [hh2]; exact hkk, das, hd1, ?_⟩
        rw [e2, List.append_nil]; exact hd2
      ·refine ⟨fun _ => ?_, fun hc => absurd hc (by simpa using e1)⟩
       repeat walk_at "m1"
       refine XS_append H1.good.inter rfl rfl ⟨_, rfl⟩ ?_
       repeat walk_at "m1"
       refine app_mk1 hd1 ?_
       repeat walk_at "m1"
       refine ⟨Nat.le_of_ble_eq_true rfl, fun w hw => ?_⟩
       refine app_mk2 (das.map .ref) (St.hp_there (St.apart hw hd1) hd1) (by rw [List.length_map, hd2.length, List.length_map, sizeLine_eq]; lia) ?_
       repeat walk_at "m1"
       refine hK4 _ ⟨hl2, keep_upd (keep_put (by rw [hh2]; exact hkk) hw) (fun q => q.2 rfl), ?_⟩
       rw [List.map_append, e2]; exact LT.push hd1 hd2 hw
     ·intro S3 hZ
      refine an3 hZ fun hl3 hk3 hTl => ?_
      clear hZ
      obtain ⟨das3, he1, he2⟩ := hTl
      have hgl := gap_len i j p q
      repeat walk_at "m1"
      refine XB_cons ?_
      refine XS_If' ?_
      refine TS_name H1 rfl (by walk_at "loc") ?_
      repeat walk_at "m1"
      refine ⟨fun hk0 => ?_, fun hk0 => ?_⟩
      ·replace hk0 : k ≠ 0 := by intro e; subst e; simp at hk0
       repeat walk_at "m1"
       refine XS_append H1.good.inter rfl rfl ⟨_, rfl⟩ ?_
       repeat walk_at "m1"
       refine app_mk1 he1 ?_
       repeat walk_at "m1"
       refine ⟨Nat.le_of_ble_eq_true rfl, fun w hw => ?_⟩
       refine app_mk2 (das3.map .ref) (St.hp_there (St.apart hw he1) he1) (by rw [List.length_map, he2.length, List.length_map, sizeLine_eq, List.length_append]; lia) ?_
       repeat walk_at "m1"
       refine hK2 _ (exI3 _ _ (done ++ gap i j p q ++ [(3, p, p + k, q, q + k)]) (Ex4.mk _ _ _ _ ⟨rfl, keep_upd (keep_put hk3 hw) (fun q => q.2 rfl), ?_, by simp; lia, ?_⟩))
       ·rw [List.map_append (l₂ := [_])]; exact LT.push (w := enc (3, p, p + k, q, q + k)) he1 he2 hw
       ·rw [hopc, if_neg hk0]; simp
      ·have hk0 : k = 0 := by
        cases k with
        | zero => rfl
        | succ k => exact absurd hk0 (by simp; lia)
       repeat walk_at "m1"
       refine hK2 _ (exI3 _ _ (done ++ gap i j p q) (Ex4.mk _ _ _ _ ⟨rfl, hk3, ⟨das3, he1, he2⟩, by simp; lia, ?_⟩))
       rw [hopc, if_pos hk0]; simp
   ·intro st' hJ hnr
    refine hK1 _ ?_
    revert hJ; refine ex3i fun i j done hJ => ?_
    refine Ex4.elim hJ fun o3 o4 o5 o6 hJ => ?_
    refine an5 hJ fun hl hkk hL hz hopc => ?_
    clear hJ
    have e : (mas.map Value.ref).length = BL.length := by rw [List.length_map, hm2.1, List.length_map]
    rw [e, List.drop_length, opc, List.append_nil] at hopc
    have hr0 : st.hp r = none := by
     cases q : st.hp r with
     | none => rfl
     | some o =>
      by_cases hd : r = dx
      ·subst hd
       have := M1.d
       rw [hr] at this; cases this
      ·have := k1 r o hd q
       rw [hr] at this; cases this
    have kk : ∀ b o, b ≠ r → b ≠ an → hp' b = some o → (st'.put r (.list (mas.map .ref))).hp b = some o := fun b o h1 h2 e => St.hp_there h1 (hkk b o ⟨h1, h2⟩ e)
    refine ⟨r, Ex6.mk _ _ _ _ _ _ ⟨hl, fun b o h e => kk b o (St.apart hr0 e) (St.apart han e) (hk _ _ h (k1 _ _ h e)), ⟨kk _ _ (St.apart hr0 M.x) hxan hM.x, kk _ _ (St.apart hr0 M.d) hdan hM.d⟩, ?_⟩⟩
    rw [hopc]
    obtain ⟨das, hd1, hd2⟩ := hL
    exact ⟨das, St.hp_there hran hd1, hd2.keeps fun a v e => St.hp_there (St.apart hnr e) e⟩
  ·intro S9 hJ
   obtain ⟨mb, hJ⟩ := hJ
   refine Ex6.elim hJ fun o1 o2 o3 o4 o5 o6 hJ => ?_
   refine an4 hJ fun hl9 hk9 hM9 hL9 => ?_
   clear hJ
   repeat walk_at "m1"
   exact hΦ an mb _ han hk9 hM9 hL9
end
end Mine
end
section
open PySem PySem.W PyProof.Rows PySem.Calls
namespace Mine
noncomputable abbrev s1 (ch : Nat) : Str := ⟨#[ch]⟩
theorem s1_inj {a b : Nat} (h : s1 a = s1 b) : a = b := by
 have h2 : (#[a] : Array Nat) = #[b] := by injection h
 have h3 : [a] = [b] := congrArg Array.toList h2
 injection h3
noncomputable def tabOf (ks : List Nat) (f : Nat → Addr) : List (Str × Value) := ks.map fun ch => (s1 ch, .ref (f ch))
theorem tabOf_length (ks : List Nat) (f : Nat → Addr) : (tabOf ks f).length = ks.length := List.length_map ..
theorem tabOf_some {ks : List Nat} {f : Nat → Addr} {ch : Nat} (h : ch ∈ ks) : valueAt (tabOf ks f) (s1 ch) = some (.ref (f ch)) := by
 unfold valueAt tabOf
 induction ks with
 | nil => cases h
 | cons k r ih =>
  rw [List.map_cons, List.find?_cons]
  by_cases e : k = ch
  ·subst e
   simp
  ·have e2 : ¬ s1 k = s1 ch := fun q => e (s1_inj q)
   simp only [e2, decide_false]
   rcases List.mem_cons.mp h with h | h
   ·exact absurd h.symm e
   ·exact ih h
theorem tabOf_none {ks : List Nat} {f : Nat → Addr} {ch : Nat} (h : ch ∉ ks) : valueAt (tabOf ks f) (s1 ch) = none := by
 unfold valueAt tabOf
 rw [List.find?_eq_none.mpr]
 ·rfl
 ·intro p hp
  obtain ⟨k, hk, rfl⟩ := List.mem_map.mp hp
  have e2 : ¬ s1 k = s1 ch := fun q => h (s1_inj q ▸ hk)
  simp only [e2, decide_false]
  nofun
theorem tabOf_new {ks : List Nat} {f : Nat → Addr} {ch : Nat} {a : Addr} (h : ch ∉ ks) : stored (tabOf ks f) (s1 ch) (.ref a) = tabOf (ks ++ [ch]) (fun x => if x = ch then a else f x) := by
 rw [stored_absent (tabOf_none h)]
 unfold tabOf
 rw [List.map_append]
 congr 1
 ·apply List.map_congr_left
  intro x hx
  have hne : x ≠ ch := fun q => h (by rw [← q]; exact hx)
  simp only [if_neg hne]
 ·simp
theorem tabOf_without {ks : List Nat} {f : Nat → Addr} {ch : Nat} : without (tabOf ks f) (s1 ch) = tabOf (ks.filter fun x => decide (x ≠ ch)) f := by
 unfold without tabOf
 rw [List.filter_map]
 congr 1
 apply List.filter_congr
 intro x _
 simp only [Function.comp]
 by_cases e : x = ch
 ·simp [e]
 ·have e2 : ¬ s1 x = s1 ch := fun q => e (s1_inj q)
  simp [e, e2]
theorem tabOf_get {ks : List Nat} {f : Nat → Addr} {i : Nat} {p : Str × Value} (h : (tabOf ks f)[i]? = some p) : ∃ ch, ks[i]? = some ch ∧ p = (s1 ch, .ref (f ch)) := by
 unfold tabOf at h
 rw [List.getElem?_map] at h
 obtain ⟨ch, h1, h2⟩ := Option.map_eq_some_iff.mp h
 exact ⟨ch, h1, h2.symm⟩
noncomputable def setOf (cs : List Nat) : Str → Bool := fun k => cs.any fun ch => decide (k = s1 ch)
theorem setOf_nil : setOf [] = fun _ => false := rfl
theorem setOf_mem {cs : List Nat} {ch : Nat} : setOf cs (s1 ch) = decide (ch ∈ cs) := by
 unfold setOf
 induction cs with
 | nil => rfl
 | cons k r ih =>
  rw [List.any_cons, ih]
  by_cases e : ch = k
  ·subst e; simp
  ·have e2 : ¬ s1 ch = s1 k := fun q => e (s1_inj q)
   simp only [e2, decide_false, Bool.false_or]
   simp [e]
theorem setOf_add (cs : List Nat) (ch : Nat) : (fun k => setOf cs k || decide (k = s1 ch)) = setOf (cs ++ [ch]) := by
 funext k
 unfold setOf
 rw [List.any_append]
 simp
theorem setOf_is {cs : List Nat} {k : Str} (h : setOf cs k = true) : ∃ ch ∈ cs, k = s1 ch := by
 unfold setOf at h
 obtain ⟨ch, h1, h2⟩ := List.any_eq_true.mp h
 exact ⟨ch, h1, of_decide_eq_true h2⟩
theorem take_snoc {α : Type} {l : List α} {i : Nat} {x : α} (h : l[i]? = some x) : l.take (i + 1) = l.take i ++ [x] := by
 rw [List.take_succ, h]; rfl
theorem snoc_not {α : Type} {l : List α} (hn : l.Nodup) {i : Nat} {x : α} (h : l[i]? = some x) : x ∉ l.take i := by
 intro q
 have h1 : (l.take (i + 1)).Nodup := hn.sublist (List.take_sublist ..)
 rw [take_snoc h] at h1
 exact (List.nodup_append.mp h1).2.2 x q x (List.mem_singleton.mpr rfl) rfl
theorem filter_out {ks : List Nat} {L : List Str} {i ch : Nat} (h : L[i]? = some (s1 ch)) :
  (ks.filter fun x => decide (s1 x ∉ L.take i)).filter (fun x => decide (x ≠ ch)) = ks.filter fun x => decide (s1 x ∉ L.take (i + 1)) := by
 rw [List.filter_filter, take_snoc h]
 apply List.filter_congr
 intro x _
 by_cases e : x = ch
 ·subst e; simp
 ·have e2 : ¬ s1 x = s1 ch := fun q => e (s1_inj q)
  simp [e, e2]
theorem noBool_fn : typeLookup (.type "function") "__bool__" = pure none := by rw [typeLookup_type, builtinLookup_eq_fast]; kernel_rfl
theorem noLen_fn : typeLookup (.type "function") "__len__" = pure none := by rw [typeLookup_type, builtinLookup_eq_fast]; kernel_rfl
section
variable {c : Cx} {st : St} {Φ : Value → St → Prop} {B : Bool → St → Prop} {n : Nat}
theorem TRU_fn {a : Addr} {T : Stmt} {D : Value} (F : FnAt c.h₀ a T D) (h : B true st) : TRU c (.ref a) st B := by
 intro u hu
 rw [z_ref hu]
 refine .of fun s hs => ?_
 obtain ⟨o, h1, h2⟩ := F.cls
 obtain ⟨m, Fr, _⟩ := hs.fr
 have hT : s.TypeIs (.ref a) "function" := ⟨o, Fr.keep _ _ h1, h2⟩
 unfold truthy
 first
  | refine wpAny_bind (wpAny_callSpecial?_none (name := Str.ofString "__bool__") hT noBool_fn ?_)
  | refine wpAny_bind (wpAny_pure (wpAny_bind (wpAny_callSpecial?_none (name := Str.ofString "__bool__") hT noBool_fn ?_)))
 first
  | refine wpAny_bind (wpAny_specialOf (name := Str.ofString "__len__") hT noLen_fn ?_)
  | refine wpAny_bind (wpAny_pure (wpAny_bind (wpAny_specialOf (name := Str.ofString "__len__") hT noLen_fn ?_)))
 exact wpAny_pure ⟨st, hs, h⟩
end
noncomputable abbrev nJunk : List Str := ["ch", "ws"]
set_option maxHeartbeats 2000000 in
theorem tab_junk : Tab (topAt 6) nJunk where
 nodup := by decide +kernel
 loc := by decide +kernel
 dbg := by decide +kernel
 cell := by decide +kernel
 co := by rfl
 gen := by rfl
 kind := by rfl
section
variable {c : Cx} {st : St} {Φ : Value → St → Prop} {B : Bool → St → Prop} {n : Nat}
theorem wsv : (Value.str " \t" 0) = sv [32, 9] := by kernel_rfl
theorem call_junk {ch : Nat} (G : Good c (n + 1)) (Bs : Base c.w c.h₀) (hΦ : Φ (.bool (decide (ch ∈ [32, 9]))) st) : CALL c (.ref aJunk) [sv [ch]] st Φ := by
 obtain ⟨D, us0, n0, F, hD1, hD2⟩ := Bs.fJunk
 refine CALL_fn (T := topAt 6) (D := .ref D) (args' := [sv [ch], sv [32, 9]]) (vals := [some (sv [ch]), some (sv [32, 9])]) G Bs F tab_junk (fun nm q doc pm an code ct s us hs hu => ?_) (by simp) rfl fun c' H => ?_
 ·have hl : us.length = 1 := by rw [← List.length_map (f := z), hu]; rfl
  obtain ⟨u1, rfl⟩ := len1 hl
  obtain ⟨v1, e0, w1⟩ := one hD2
  have : us0 = #[v1] := by rw [← Array.toArray_toList (xs := us0), e0]
  subst this
  refine ⟨[u1, v1], BindsTo.of_defaults rfl (hs _ _ hD1) rfl rfl rfl, ?_⟩
  have hu' : z u1 = sv [ch] := by injection hu
  show [z u1, z v1] = _
  rw [hu', w1, wsv]
 ·refine XB_cons ?_
  refine XS_E H rfl ?_
  repeat walk_at "m1"
  refine CMP_in1 ?_
  repeat walk_at "m1"
  exact hΦ
end
end Mine
end
section
open PySem PySem.W PyProof.Rows PySem.Calls
namespace Mine
noncomputable abbrev nChain : List Str := ["self", "b", "b2j", "i", "elt", "indices", "junk", "isjunk", "popular", "n", "ntest", "idxs"]
set_option maxHeartbeats 2000000 in
theorem tab_chain : Tab (inCls 5 5) nChain where
 nodup := by decide +kernel
 loc := by decide +kernel
 dbg := by decide +kernel
 cell := by decide +kernel
 co := by rfl
 gen := by rfl
 kind := by rfl
structure Inv (h0 hp : Addr → Option AObj) (d : Addr) (ks : List Nat) (f : Nat → Addr) (pre : List Nat) : Prop where
 d : hp d = some (.dictS (tabOf ks f))
 nd : ks.Nodup
 mem : ∀ ch, ch ∈ ks ↔ ch ∈ pre
 inj : ∀ a ∈ ks, ∀ b ∈ ks, f a = f b → a = b
 no : ∀ ch ∈ ks, h0 (f ch) = none
 at_ : ∀ ch ∈ ks, hp (f ch) = some (.list (iL (places pre ch)))
theorem take_mem {bs : List Nat} {t ch x : Nat} (h : bs[t]? = some ch) : x ∈ bs.take (t + 1) ↔ x ∈ bs.take t ∨ x = ch := by
 rw [take_snoc h]; simp
theorem places_none {pre : List Nat} {ch : Nat} (h : ch ∉ pre) : places pre ch = [] := by
 have := places_length pre ch
 rw [List.count_eq_zero.mpr h] at this
 exact List.eq_nil_of_length_eq_zero this
theorem Inv.new {h0 hp hp' : Addr → Option AObj} {d u : Addr} {ks : List Nat} {f : Nat → Addr} {bs : List Nat} {t ch : Nat} (x : Inv h0 hp d ks f (bs.take t)) (hb : bs[t]? = some ch) (hn : ch ∉ ks) (hu : h0 u = none) (hu2 : ∀ c ∈ ks, f c ≠ u)
  (h1 : hp' d = some (.dictS (stored (tabOf ks f) (s1 ch) (.ref u)))) (h2 : hp' u = some (.list [iv t])) (k : ∀ b o, b ≠ d → b ≠ u → hp b = some o → hp' b = some o) :
  Inv h0 hp' d (ks ++ [ch]) (fun y => if y = ch then u else f y) (bs.take (t + 1)) := by
 have hne : ∀ c ∈ ks, c ≠ ch := fun c hc q => hn (q ▸ hc)
 have htl : (bs.take t).length = t := by
  rw [List.length_take]
  have := (List.getElem?_eq_some_iff.mp hb).1
  lia
 refine ⟨by rw [h1, tabOf_new hn], ?_, fun c => ?_, ?_, ?_, ?_⟩
 ·refine List.nodup_append.mpr ⟨x.nd, by simp, fun a ha b hb' => ?_⟩
  rw [List.mem_singleton.mp hb']
  exact hne a ha
 ·rw [take_mem hb, List.mem_append, x.mem c, List.mem_singleton]
 ·intro a ha b hb' e
  rcases List.mem_append.mp ha with ha | ha <;> rcases List.mem_append.mp hb' with hb' | hb'
  ·simp only [if_neg (hne a ha), if_neg (hne b hb')] at e
   exact x.inj a ha b hb' e
  ·rw [List.mem_singleton.mp hb'] at e ⊢
   simp only [if_neg (hne a ha), if_true] at e
   exact absurd e (hu2 a ha)
  ·rw [List.mem_singleton.mp ha] at e ⊢
   simp only [if_neg (hne b hb'), if_true] at e
   exact absurd e.symm (hu2 b hb')
  ·rw [List.mem_singleton.mp ha, List.mem_singleton.mp hb']
 ·intro c hc
  rcases List.mem_append.mp hc with hc | hc
  ·simp only [if_neg (hne c hc)]; exact x.no c hc
  ·rw [List.mem_singleton.mp hc]; simp only [if_true]; exact hu
 ·intro c hc
  rw [take_snoc hb, places_snoc]
  rcases List.mem_append.mp hc with hc | hc
  ·simp only [if_neg (hne c hc), if_neg (Ne.symm (hne c hc)), List.append_nil]
   exact k _ _ (ne_hp (x.at_ c hc) x.d rfl) (hu2 c hc) (x.at_ c hc)
  ·rw [List.mem_singleton.mp hc]
   simp only [if_true, htl]
   rw [places_none (fun q => hn ((x.mem ch).mpr q))]
   exact h2
theorem Inv.old {h0 hp hp' : Addr → Option AObj} {d : Addr} {ks : List Nat} {f : Nat → Addr} {bs : List Nat} {t ch : Nat} (x : Inv h0 hp d ks f (bs.take t)) (hb : bs[t]? = some ch) (hn : ch ∈ ks)
  (h2 : hp' (f ch) = some (.list (iL (places (bs.take t) ch) ++ [iv t]))) (k : ∀ b o, b ≠ f ch → hp b = some o → hp' b = some o) :
  Inv h0 hp' d ks f (bs.take (t + 1)) := by
 have htl : (bs.take t).length = t := by
  rw [List.length_take]
  have := (List.getElem?_eq_some_iff.mp hb).1
  lia
 have hd : d ≠ f ch := ne_hp x.d (x.at_ ch hn) rfl
 refine ⟨k _ _ hd x.d, x.nd, fun c => ?_, x.inj, x.no, ?_⟩
 ·rw [take_mem hb, x.mem c]
  constructor
  ·exact .inl
  ·rintro (h | h)
   ·exact h
   ·rw [h]; exact (x.mem ch).mp hn
 ·intro c hc
  rw [take_snoc hb, places_snoc, htl]
  by_cases e : ch = c
  ·subst e
   rw [if_pos rfl, iL, List.map_append]
   exact h2
  ·rw [if_neg e, List.append_nil]
   exact k _ _ (fun q => e (x.inj _ hn _ hc q.symm)) (x.at_ c hc)
theorem Inv.keeps {h0 hp hp' : Addr → Option AObj} {d : Addr} {ks : List Nat} {f : Nat → Addr} {pre : List Nat} (x : Inv h0 hp d ks f pre) (k : ∀ b o, hp b = some o → (o = .dictS (tabOf ks f) ∨ ∃ l, o = .list l) → h0 b = none → hp' b = some o) (hd : h0 d = none) : Inv h0 hp' d ks f pre :=
 ⟨k _ _ x.d (.inl rfl) hd, x.nd, x.mem, x.inj, x.no, fun ch h => k _ _ (x.at_ ch h) (.inr ⟨_, rfl⟩) (x.no ch h)⟩
section
variable {c : Cx} {st : St} {Φ : Value → St → Prop} {n : Nat}
theorem fdiv_nat (i m : Nat) : (i : Int).fdiv (m : Int) = ((i / m : Nat) : Int) := by
 rw [Int.fdiv_eq_ediv_of_nonneg _ (by lia)]; rfl
theorem setSmall {n : Nat} (h : n ≤ 1000) : n + 1 < scanBound := by
 have : (1001 : Nat) < scanBound := by unfold scanBound; decide
 lia
theorem setOf_step {ks : List Nat} {P : Nat → Bool} {t ch : Nat} (hn : ch ∉ ks.take t) (hc : ks[t]? = some ch) (hp : P ch = true) : (AObj.setS (setOf ((ks.take (t + 1)).filter P)) ((ks.take (t + 1)).filter P).length) =
  .setS (fun k => setOf ((ks.take t).filter P) k || decide (k = s1 ch)) (if setOf ((ks.take t).filter P) (s1 ch) = true then ((ks.take t).filter P).length else ((ks.take t).filter P).length + 1) := by
 have e1 : setOf ((ks.take t).filter P) (s1 ch) = false := by
  rw [setOf_mem]
  exact decide_eq_false fun h => hn (List.mem_filter.mp h).1
 rw [take_snoc hc, List.filter_append, List.filter_cons, if_pos hp, List.filter_nil, ← setOf_add, e1, List.length_append]
 rfl
theorem setOf_skip {ks : List Nat} {P : Nat → Bool} {t ch : Nat} (hc : ks[t]? = some ch) (hp : P ch = false) : (AObj.setS (setOf ((ks.take (t + 1)).filter P)) ((ks.take (t + 1)).filter P).length) = .setS (setOf ((ks.take t).filter P)) ((ks.take t).filter P).length := by
 rw [take_snoc hc, List.filter_append, List.filter_cons, if_neg (by rw [hp]; simp), List.filter_nil, List.append_nil]
theorem XS_DelSub' {o i : Expr} {p pos : Pos} {Ψ : AF → St → Prop} (h : EX c o st fun ov st1 => EX c i st1 fun k st2 => DELI c ov k st2 (Ψ .next)) : XS c (.Delete [.Subscript o i p] pos) st Ψ := .of fun s hs =>
 wpAny_Delete (wpAny_deleteEach_cons (delete_Subscript (WP.thru h hs fun ov s1 st1 m1 h1 => WP.thru h1 m1 fun k s2 st2 m2 h2 => WP.thru (h2 _ _ rfl rfl) m2 fun _ _ st3 m3 h3 => wpAny_deleteEach_nil ⟨st3, m3, h3⟩)))
theorem XS_delall {x lb d jd : Addr} {o3 o4 o5 o6 o7 o8 o9 o10 o11 : Option Value} {Sn : Str} {p1 p2 p3 p4 p5 p6 p7 : Pos} {ks cs : List Nat} {f : Nat → Addr} {Ψ : AF → St → Prop} (H : Here (inCls 5 5) nChain (n + 1) c)
  (e : st.loc = look nChain [some (.ref x), some (.ref lb), some (.ref d), o3, o4, o5, o6, o7, o8, o9, o10, o11])
  (lS : Loc nChain [some (.ref x), some (.ref lb), some (.ref d), o3, o4, o5, o6, o7, o8, o9, o10, o11] Sn (.ref jd))
  (hd : st.hp d = some (.dictS (tabOf ks f))) (hj : st.hp jd = some (.setS (setOf cs) cs.length)) (hz : ks.length ≤ 1000) (hsub : ∀ ch ∈ cs, ch ∈ ks)
  (h : ∀ (o4' : Option Value) st', st'.loc = look nChain [some (.ref x), some (.ref lb), some (.ref d), o3, o4', o5, o6, o7, o8, o9, o10, o11] → (∀ b o, b ≠ d → st.hp b = some o → st'.hp b = some o) →
   st'.hp d = some (.dictS (tabOf (ks.filter fun ch => decide (ch ∉ cs)) f)) → Ψ .next st') :
  XS c (.For (.Name "elt" p1) (.Name Sn p2) [.Delete [.Subscript (.Name "b2j" p3) (.Name "elt" p4) p5] p6] [] p7) st Ψ := by
 refine XS_ForSet H.hand (fun _ => rfl) (fun _ _ => rfl) ?_
 refine EX_loc H e lS ?_
 have hjd : d ≠ jd := ne_hp hd hj rfl
 refine ⟨jd, setOf cs, cs.length, rfl, hj, fun L hL1 hL2 hL3 => ⟨fun t S => ∃ (o4' : Option Value), S.loc = look nChain [some (.ref x), some (.ref lb), some (.ref d), o3, o4', o5, o6, o7, o8, o9, o10, o11] ∧ (∀ b o, b ≠ d ∧ b ≠ jd → st.hp b = some o → S.hp b = some o) ∧
  S.hp d = some (.dictS (tabOf (ks.filter fun y => decide (s1 y ∉ L.take t)) f)), ?_, ?_, ?_⟩⟩
 ·refine ⟨o4, e, fun b o h e => St.hp_del e h.2, ?_⟩
  have : (ks.filter fun y => decide (s1 y ∉ L.take 0)) = ks := List.filter_eq_self.mpr (by simp)
  rw [this]
  exact St.hp_del hd hjd
 ·intro t k c1 S hk X hY
  refine ABS_asg fun K hK => ?_
  obtain ⟨o4', hY⟩ := hY
  refine an3 hY fun hl hkk hdd => ?_
  clear hY
  have H1 := H.ext X
  clear H
  obtain ⟨ch, hc, rfl⟩ := setOf_is ((hL2 k).mp (List.mem_of_getElem? hk))
  have hnot := snoc_not hL1 hk
  refine ASG_loc H1 hl (by walk_at "loc") ?_
  repeat walk_at "m1"
  refine XS_DelSub' ?_
  repeat walk_at "m1"
  have hin : ch ∈ ks.filter fun y => decide (s1 y ∉ L.take t) := List.mem_filter.mpr ⟨hsub ch hc, decide_eq_true hnot⟩
  refine DELI_dictS hdd (by rw [tabOf_some hin]; rfl) (by rw [tabOf_length, sizeLine_eq]; have := List.length_filter_le (fun y => decide (s1 y ∉ L.take t)) ks; lia) ?_
  repeat walk_at "m1"
  refine hK _ ⟨_, rfl, fun b o h e => St.hp_there h.1 (hkk b o h e), ?_⟩
  rw [tabOf_without, filter_out hk]
  exact St.put_self
 ·intro S hZ
  obtain ⟨o4', hZ⟩ := hZ
  refine an3 hZ fun hl hkk hdd => ?_
  clear hZ
  refine h o4' _ hl (fun b o hb e => ?_) ?_
  ·by_cases q : b = jd
   ·rw [q, hj] at e
    cases e
    rw [q]; exact St.put_self
   ·exact St.hp_there q (hkk b o ⟨hb, q⟩ e)
  ·refine St.hp_there hjd ?_
   rw [hdd]
   congr 3
   apply List.filter_congr
   intro y _
   rw [← hL3, List.take_length]
   apply decide_eq_decide.mpr
   rw [hL2, setOf_mem, decide_eq_true_iff]
noncomputable abbrev cvals (J : Value) (la lb : Addr) (auto : Bool) (mb oc : Value) (v7 v8 v9 : Option Value) : List (Option Value) := [some J, some (.ref la), some (.ref lb), some (.bool auto), some mb, some oc, some .none, v7, v8, v9]
set_option maxHeartbeats 8000000 in
theorem call_chain {x dx la lb : Addr} {J mb oc : Value} {v7 v8 v9 : Option Value} {auto : Bool} {bs junk : List Nat} (G : Good c (n + 3)) (Bs : Base c.w c.h₀) (M : SM st.hp x dx (cvals J la lb auto mb oc v7 v8 v9)) (hlb : st.hp lb = some (.list (sL bs)))
  (zb : bs.length ≤ 1000) (hJ : (J = .none ∧ junk = []) ∨ (J = .ref aJunk ∧ junk = [32, 9]))
  (hΦ : ∀ d jd pd hp', (∀ b o, b ≠ dx → st.hp b = some o → hp' b = some o) → SM hp' x dx (mvals J la lb auto mb oc d jd pd) →
   Tabs hp' lb d jd bs junk (fun ch => !junk.contains ch && !(auto && decide (200 ≤ bs.length) && decide (bs.length / 100 + 1 < bs.count ch))) → Φ .none ⟨st.loc, hp'⟩) : CALL c (.ref aChain) [.ref x] st Φ := by
 refine CALL_fn0 (vals := [some (.ref x), none, none, none, none, none, none, none, none, none, none, none]) G Bs Bs.fChain tab_chain (fun nm q doc pm an code ct us hu => ?_) (by simp) rfl fun c' H => ?_
 ·obtain ⟨a, rfl⟩ := len1 hu; rfl
 ·refine XB_cons ?_
  repeat walk_at "m1"
  walk_at "self"
  repeat walk_at "m1"
  refine XS_Assign2 rfl rfl ?_
  refine EX_DictS fun d hd => ?_
  have hdx : dx ≠ d := St.apart hd M.d
  have hxd : x ≠ d := St.apart hd M.x
  refine ASG_self (x := x) (dx := dx) H rfl (by walk_at "loc") (NEXTA_mk (M.keeps ((Keeps.refl st.hp).put (o := AObj.dictS []) hd)) (by walk_at "loc") ?_)
  refine ASG_loc H rfl (by walk_at "loc") ?_
  repeat walk_at "m1"
  refine XB_gen (fun S => S.loc = look nChain [some (.ref x), some (.ref lb), some (.ref d), none, none, none, none, none, none, none, none, none] ∧ (∀ b o, b ≠ dx → st.hp b = some o → S.hp b = some o) ∧ SM S.hp x dx (cvals J la lb auto mb oc (some (.ref d)) v8 v9) ∧ Inv st.hp S.hp d [] (fun _ => 0) []) ⟨rfl, (fun b o h e => St.hp_there h (St.hp_there (St.apart hd e) e)), SM.put (M.keeps ((Keeps.refl st.hp).put (o := AObj.dictS []) hd)), ⟨St.hp_there (Ne.symm hdx) St.put_self, .nil, by simp, nofun, nofun, nofun⟩⟩ ?_
  intro S1 hZ
  refine an4 hZ fun hl1 k1 M1 I1 => ?_
  clear hZ
  have hlx : lb ≠ x := ne_hp hlb M.x rfl
  have hldx : lb ≠ dx := ne_hp hlb M.d rfl
  have hlb1 : S1.hp lb = some (.list (sL bs)) := k1 _ _ hldx hlb
  have hlbd : lb ≠ d := St.apart hd hlb
  refine XB_cut (fun S => Ex3 fun o3 o4 o5 => ∃ (ks : List Nat) (f : Nat → Addr), S.loc = look nChain [some (.ref x), some (.ref lb), some (.ref d), o3, o4, o5, none, none, none, none, none, none] ∧ (∀ b o, b ≠ dx → st.hp b = some o → S.hp b = some o) ∧ SM S.hp x dx (cvals J la lb auto mb oc (some (.ref d)) v8 v9) ∧ Inv st.hp S.hp d ks f bs ∧ ks.length ≤ bs.length) ?_ ?_
  ·refine ABS_cut fun K1 hK1 => ?_
   refine XS_ForEnum H.hand (fun _ => rfl) ?_
   repeat walk_at "m1"
   refine CALL_enum hlb1 fun e it hei he hit => ?_
   have e3 : lb ≠ e := St.apart he hlb1
   have e4 : lb ≠ it := St.apart hit hlb1
   have kk : ∀ b o, b ≠ lb → S1.hp b = some o → (((((S1.put it (.lit lb)).put e (.enm it)).del e).del it).del lb).hp b = some o := fun b o hb ho => enum_keep (Keeps.refl _) he hit b o hb ho
   refine enum_mk e it lb (sL bs) (fun t S => Ex3 fun o3 o4 o5 => ∃ (ks : List Nat) (f : Nat → Addr), S.loc = look nChain [some (.ref x), some (.ref lb), some (.ref d), o3, o4, o5, none, none, none, none, none, none] ∧ (∀ b o, b ≠ dx ∧ b ≠ lb → st.hp b = some o → S.hp b = some o) ∧ SM S.hp x dx (cvals J la lb auto mb oc (some (.ref d)) v8 v9) ∧ Inv (st.del lb).hp S.hp d ks f (bs.take t) ∧ ks.length ≤ t) rfl hei St.put_self (St.hp_there (Ne.symm hei) St.put_self) (St.hp_there e3 (St.hp_there e4 hlb1)) ?_ ?_ ?_
   ·exact Ex3.mk none none none (exI2 [] (fun _ => 0) ⟨hl1, (fun b o h e => kk b o h.2 (k1 b o h.1 e)), ⟨kk _ _ (Ne.symm hlx) M1.x, kk _ _ (Ne.symm hldx) M1.d⟩, ⟨kk _ _ (Ne.symm hlbd) I1.d, .nil, by simp, nofun, nofun, nofun⟩, Nat.le_refl _⟩)
   ·intro t v c1 T ts S hv X hT hts hY
    refine ABS_asg fun K2 hK2 => ?_
    refine Ex3.elim hY fun o3 o4 o5 hY => ?_
    revert hY; refine ex2i fun ks f hY => ?_
    refine an5 hY fun hl hk hM I hz => ?_
    clear hY
    have H1 := H.ext X
    clear H
    obtain ⟨ch, hb, rfl⟩ : ∃ ch, bs[t]? = some ch ∧ v = sv [ch] := by
     rw [List.getElem?_map] at hv
     obtain ⟨u, h1, h2⟩ := Option.map_eq_some_iff.mp hv
     exact ⟨u, h1, h2.symm⟩
    have htl := (List.getElem?_eq_some_iff.mp hb).1
    refine ASG_Tuple2 H1.hand rfl rfl rfl (.inr ⟨ts, hT, hts⟩) ?_
    refine ASG_loc H1 hl (by walk_at "loc") ?_
    refine ASG_loc H1 rfl (by walk_at "loc") ?_
    repeat walk_at "m1"
    refine EX_M ⟨_, rfl⟩ rfl rfl ?_
    repeat walk_at "m1"
    refine METH_dictS I.d F.slot_dict_setdefault rfl ?_
    repeat walk_at "m1"
    refine ⟨Nat.zero_le _, fun u hu => ?_⟩
    repeat walk_at "m1"
    have hu' : S.hp u = none := hu
    have hud : d ≠ u := St.apart hu' I.d
    refine CALL_setdefault (x := s1 ch) (kvs := tabOf ks f) H1.base.mods (St.hp_there hud I.d) (by rw [tabOf_length, sizeLine_eq]; lia) (fun r hr => ?_) (fun hn => ?_)
    ·have hmem : ch ∈ ks := by
      rcases Decidable.em (ch ∈ ks) with h | h
      ·exact h
      ·rw [tabOf_none h] at hr; cases hr
     rw [tabOf_some hmem] at hr
     cases hr
     have hfu : f ch ≠ u := ne_hp (I.at_ ch hmem) hu' rfl
     repeat walk_at "m1"
     refine XS_append H1.good.inter rfl rfl ⟨_, rfl⟩ ?_
     repeat walk_at "m1"
     refine app_mk1 (St.hp_there hfu (I.at_ ch hmem)) ?_
     repeat walk_at "m1"
     refine ⟨_, St.hp_there hfu (I.at_ ch hmem), by rw [List.length_map, places_length, sizeLine_eq]; have := List.count_le_length (a := ch) (l := bs.take t); rw [List.length_take] at this; lia, ?_⟩
     repeat walk_at "m1"
     refine hK2 _ (Ex3.mk _ _ _ (exI2 ks f ⟨rfl, fun b o h e => ?_, ⟨?_, ?_⟩, I.old hb hmem St.put_self (fun b o h e => St.hp_there h (St.hp_there (St.apart hu' e) e)), by lia⟩))
     ·have e1 := hk b o h e
      have e2 : (st.del lb).hp b = some o := St.hp_del e h.2
      exact St.hp_there (St.apart (I.no ch hmem) e2) (St.hp_there (St.apart hu' e1) e1)
     ·exact St.hp_there (ne_hp hM.x (I.at_ ch hmem) rfl) (St.hp_there (St.apart hu' hM.x) hM.x)
     ·exact St.hp_there (ne_hp hM.d (I.at_ ch hmem) rfl) (St.hp_there (St.apart hu' hM.d) hM.d)
    ·have hmem : ch ∉ ks := fun h => by rw [tabOf_some h] at hn; cases hn
     repeat walk_at "m1"
     refine XS_append H1.good.inter rfl rfl ⟨_, rfl⟩ ?_
     repeat walk_at "m1"
     refine app_mk1 (St.hp_there (Ne.symm hud) St.put_self) ?_
     repeat walk_at "m1"
     refine ⟨_, St.hp_there (Ne.symm hud) St.put_self, Nat.zero_le _, ?_⟩
     repeat walk_at "m1"
     have hu0 : (st.del lb).hp u = none := by
      by_cases q : u = lb
      ·rw [q]; exact St.del_self
      ·rw [St.del_ne q]
       cases e : st.hp u with
       | none => rfl
       | some o =>
        have hudx : u ≠ dx := ne_hp hu' hM.d rfl
        have := hk u o ⟨hudx, q⟩ e
        rw [hu'] at this; cases this
     have hfu : ∀ c ∈ ks, f c ≠ u := fun c hc q => by have := I.at_ c hc; rw [q, hu'] at this; cases this
     have kn : ∀ b o, b ≠ d → b ≠ u → S.hp b = some o → (((S.put u (.list [])).put d (.dictS (stored (tabOf ks f) (s1 ch) (.ref u)))).put u (.list ([] ++ [iv t]))).hp b = some o := fun b o h1 h2 e => St.hp_there h2 (St.hp_there h1 (St.hp_there h2 e))
     refine hK2 _ (Ex3.mk _ _ _ (exI2 _ _ ⟨rfl, fun b o h e => ?_, ⟨?_, ?_⟩, I.new hb hmem hu0 hfu (St.hp_there hud St.put_self) St.put_self kn, by simp; lia⟩))
     ·have e1 := hk b o h e
      exact kn b o (St.apart hd e) (St.apart hu' e1) e1
     ·exact kn _ _ hxd (St.apart hu' hM.x) hM.x
     ·exact kn _ _ hdx (St.apart hu' hM.d) hM.d
   ·intro S hY hn
    refine hK1 _ ?_
    refine Ex3.elim hY fun o3 o4 o5 hY => ?_
    revert hY; refine ex2i fun ks f hY => ?_
    refine an5 hY fun hl hk hM I hz => ?_
    clear hY
    rw [List.length_map] at I hz
    rw [List.take_length] at I
    have kn : ∀ b o, S.hp b = some o → (S.put lb (.list (sL bs))).hp b = some o := fun b o e => St.hp_there (St.apart hn e) e
    refine Ex3.mk o3 o4 o5 (exI2 ks f ⟨hl, fun b o h e => ?_, ⟨kn _ _ hM.x, kn _ _ hM.d⟩, ⟨kn _ _ I.d, I.nd, I.mem, I.inj, fun ch h => ?_, fun ch h => kn _ _ (I.at_ ch h)⟩, hz⟩)
    ·by_cases q : b = lb
     ·rw [q, hlb] at e
      cases e
      rw [q]; exact St.put_self
     ·exact kn _ _ (hk b o ⟨h, q⟩ e)
    ·have := I.no ch h
     rw [St.del_ne (ne_hp (I.at_ ch h) hn rfl)] at this
     exact this
  ·intro S hY
   refine Ex3.elim hY fun o3 o4 o5 hY => ?_
   revert hY; refine ex2i fun ks f hY => ?_
   refine an5 hY fun hl hk hM I hz => ?_
   clear hY
   repeat walk_at "m1"
   refine XS_Assign2 rfl rfl ?_
   repeat walk_at "m1"
   refine CALL_set fun jd hjd => ?_
   have hdj : d ≠ jd := St.apart hjd I.d
   have hM' : SM (S.put jd (.setS (fun _ => false) 0)).hp x dx (cvals J la lb auto mb oc (some (.ref d)) v8 v9) := hM.keeps ((Keeps.refl S.hp).put hjd)
   refine ASG_self (x := x) (dx := dx) H hl (by walk_at "loc") (NEXTA_mk hM' (by walk_at "loc") ?_)
   refine ASG_loc H hl (by walk_at "loc") ?_
   repeat walk_at "m1"
   have hM2 := SM.put (vals' := [some J, some (.ref la), some (.ref lb), some (.bool auto), some mb, some oc, some .none, some (.ref d), some (.ref jd), v9]) hM'
   refine EX_self H rfl (by walk_at "loc") hM2 (by walk_at "loc") (by rcases hJ with ⟨h, _⟩ | ⟨h, _⟩ <;> rw [h] <;> rfl) ?_
   repeat walk_at "m1"
   have kn : ∀ b o, b ≠ dx → S.hp b = some o → ((S.put jd (.setS (fun _ => false) 0)).put dx (.attrs (look attrNames [some J, some (.ref la), some (.ref lb), some (.bool auto), some mb, some oc, some .none, some (.ref d), some (.ref jd), v9]))).hp b = some o := fun b o h e => St.hp_there h (St.hp_there (St.apart hjd e) e)
   refine XB_gen (fun S2 => S2.loc = look nChain [some (.ref x), some (.ref lb), some (.ref d), o3, o4, o5, some (.ref jd), some J, none, none, none, none] ∧ (∀ b o, b ≠ dx → st.hp b = some o → S2.hp b = some o) ∧ SM S2.hp x dx (cvals J la lb auto mb oc (some (.ref d)) (some (.ref jd)) v9) ∧ S2.hp d = some (.dictS (tabOf ks f)) ∧
    (∀ ch ∈ ks, S2.hp (f ch) = some (.list (iL (places bs ch)))) ∧ S2.hp jd = some (.setS (setOf []) 0) ∧ st.hp jd = none) ⟨rfl, fun b o h e => kn b o h (hk b o h e), hM2, kn _ _ (Ne.symm hdx) I.d, fun ch h => kn _ _ (ne_hp (I.at_ ch h) hM.d rfl) (I.at_ ch h), St.hp_there (ne_hp hjd hM.d rfl) St.put_self, ?_⟩ ?_
   ·cases e : st.hp jd with
    | none => rfl
    | some o =>
     have := hk jd o (ne_hp hjd hM.d rfl) e
     rw [hjd] at this; cases this
   clear hM hM' hM2 kn hjd
   intro S2 hZ
   refine an7 hZ fun hl2 hk2 hM2 hd2 hf2 hj2 hj0 => ?_
   clear hZ
   have Inm := I.mem
   have Ind := I.nd
   clear I
   refine XB_cut (fun S3 => Ex3 fun o3 o4 o5 => ∃ (cs : List Nat), S3.loc = look nChain [some (.ref x), some (.ref lb), some (.ref d), o3, o4, o5, some (.ref jd), some J, none, none, none, none] ∧ (∀ b o, b ≠ d ∧ b ≠ jd → S2.hp b = some o → S3.hp b = some o) ∧ S3.hp d = some (.dictS (tabOf (ks.filter fun ch => !junk.contains ch) f)) ∧
    S3.hp jd = some (.setS (setOf cs) cs.length) ∧ ∀ ch ∈ bs, decide (ch ∈ cs) = junk.contains ch) ?_ ?_
   ·refine ABS_cut fun K3 hK3 => ?_
    refine XS_If' ?_
    refine TS_name H hl2 (by walk_at "loc") ?_
    rcases hJ with ⟨rfl, rfl⟩ | ⟨rfl, rfl⟩
    ·repeat walk_at "m1"
     refine ⟨fun q => by simp at q, fun _ => ?_⟩
     repeat walk_at "m1"
     refine hK3 _ (Ex3.mk o3 o4 o5 ⟨[], hl2, fun b o _ e => e, ?_, hj2, fun ch _ => rfl⟩)
     rw [hd2]
     congr 3
     exact (List.filter_eq_self.mpr (by simp)).symm
    ·obtain ⟨D, us, n0, FJ, _⟩ := H.base.fJunk
     refine TRU_fn FJ ?_
     refine ⟨fun _ => ?_, fun q => by simp at q⟩
     have hdx2 : d ≠ dx := Ne.symm hdx
     have hdj2 : d ≠ jd := ne_hp hd2 hj2 rfl
     refine XB_cut (fun S3 => ∃ (o4 : Option Value), S3.loc = look nChain [some (.ref x), some (.ref lb), some (.ref d), o3, o4, o5, some (.ref jd), some (.ref aJunk), none, none, none, none] ∧ (∀ b o, b ≠ d ∧ b ≠ jd → S2.hp b = some o → S3.hp b = some o) ∧ S3.hp d = some (.dictS (tabOf ks f)) ∧
      S3.hp jd = some (.setS (setOf (ks.filter fun ch => [32, 9].contains ch)) (ks.filter fun ch => [32, 9].contains ch).length)) ?_ ?_
     ·refine ABS_cut fun K4 hK4 => ?_
      refine XS_ForKeys H.hand (fun _ => rfl) (fun _ _ => rfl) ?_
      refine EX_M0 ⟨_, rfl⟩ ?_
      repeat walk_at "m1"
      refine METH_dictS hd2 F.slot_dict_keys rfl ?_
      repeat walk_at "m1"
      refine CALL_keys H.base.mods hd2 fun kv hkv => ?_
      have hdk : d ≠ kv := St.apart hkv hd2
      have hjk : jd ≠ kv := St.apart hkv hj2
      refine keys_mk kv d (tabOf ks f) (fun t S => ∃ (o4 : Option Value), S.loc = look nChain [some (.ref x), some (.ref lb), some (.ref d), o3, o4, o5, some (.ref jd), some (.ref aJunk), none, none, none, none] ∧ (∀ b o, b ≠ d ∧ b ≠ jd → S2.hp b = some o → S.hp b = some o) ∧
       S.hp jd = some (.setS (setOf ((ks.take t).filter fun ch => [32, 9].contains ch)) ((ks.take t).filter fun ch => [32, 9].contains ch).length)) rfl St.put_self (St.hp_there hdk hd2) ?_ ?_ ?_
      ·exact ⟨o4, hl2, fun b o h e => St.hp_del (St.hp_there (St.apart hkv e) e) h.1, St.hp_del (St.hp_there hjk hj2) (Ne.symm hdj2)⟩
      ·intro t p c1 S hp X hY
       refine ABS_asg fun K5 hK5 => ?_
       obtain ⟨o4, hY⟩ := hY
       refine an3 hY fun hl hkk hjj => ?_
       clear hY
       have H1 := H.ext X
       clear H
       obtain ⟨ch, hc, rfl⟩ := tabOf_get hp
       have hnot := snoc_not Ind hc
       refine ASG_loc H1 hl (by walk_at "loc") ?_
       refine XB_cons ?_
       refine XS_If' ?_
       refine TS_plain rfl ?_
       repeat walk_at "m1"
       refine ⟨KEEPER_fn (H1.base.fJunk.choose_spec.choose_spec.choose_spec.1), ?_⟩
       refine call_junk (n := n + 1) H1.good H1.base ?_
       repeat walk_at "m1"
       refine ⟨fun hc1 => ?_, fun hc1 => ?_⟩
       ·replace hc1 := of_decide_eq_true hc1
        repeat walk_at "m1"
        refine XS_E H1 rfl ?_
        refine EX_M ⟨_, rfl⟩ rfl rfl ?_
        repeat walk_at "m1"
        refine METH_set hjj F.slot_set_add rfl ?_
        repeat walk_at "m1"
        refine CALL_add (x := s1 ch) hjj (setSmall (by have := List.length_filter_le (fun ch => [32, 9].contains ch) (ks.take t); rw [List.length_take] at this; lia)) ?_
        repeat walk_at "m1"
        refine hK5 _ ⟨_, rfl, fun b o h e => St.hp_there h.2 (hkk b o h e), ?_⟩
        rw [setOf_step (P := fun ch => [32, 9].contains ch) hnot hc (by simpa using hc1)]
        exact St.put_self
       ·replace hc1 := of_decide_eq_false hc1
        repeat walk_at "m1"
        refine hK5 _ ⟨_, rfl, hkk, ?_⟩
        rw [setOf_skip (P := fun ch => [32, 9].contains ch) hc (by simpa using hc1)]
        exact hjj
      ·intro S hY
       refine hK4 _ ?_
       obtain ⟨o4, hY⟩ := hY
       refine an3 hY fun hl hkk hjj => ?_
       clear hY
       rw [tabOf_length, List.take_length] at hjj
       exact ⟨o4, hl, fun b o h e => St.hp_there h.1 (hkk b o h e), St.put_self, St.hp_there (Ne.symm hdj2) hjj⟩
     ·intro S3 hZ
      obtain ⟨o4, hZ⟩ := hZ
      refine an4 hZ fun hl3 hk3 hd3 hj3 => ?_
      clear hZ
      refine XB_cons ?_
      refine XS_delall (ks := ks) (cs := ks.filter fun ch => [32, 9].contains ch) H hl3 (by walk_at "loc") hd3 hj3 (by lia) (fun ch h => (List.mem_filter.mp h).1) fun o4' S4 hl4 hk4 hd4 => ?_
      repeat walk_at "m1"
      refine hK3 _ (Ex3.mk o3 o4' o5 ⟨ks.filter fun ch => [32, 9].contains ch, hl4, fun b o h e => hk4 b o h.1 (hk3 b o h e), ?_, hk4 _ _ (Ne.symm hdj2) hj3, fun ch hch => ?_⟩)
      ·rw [hd4]
       congr 3
       apply List.filter_congr
       intro y hy
       simp only [List.mem_filter, hy, true_and, decide_not, Bool.decide_eq_true]
      ·have hin : ch ∈ ks := (Inm ch).mpr hch
       simp only [List.mem_filter, hin, true_and, Bool.decide_eq_true]
   ·intro S3 hY
    refine Ex3.elim hY fun o3 o4 o5 hY => ?_
    obtain ⟨cs, hY⟩ := hY
    refine an5 hY fun hl3 hk3 hd3 hj3 hcs => ?_
    clear hY
    have hxj : x ≠ jd := ne_hp hM2.x hj2 rfl
    have hdxj : dx ≠ jd := ne_hp hM2.d hj2 rfl
    have hdj2 : d ≠ jd := ne_hp hd2 hj2 rfl
    have hM3 : SM S3.hp x dx (cvals J la lb auto mb oc (some (.ref d)) (some (.ref jd)) v9) := ⟨hk3 _ _ ⟨hxd, hxj⟩ hM2.x, hk3 _ _ ⟨hdx, hdxj⟩ hM2.d⟩
    have hlb3 : S3.hp lb = some (.list (sL bs)) := hk3 _ _ ⟨hlbd, St.apart hj0 hlb⟩ (hk2 _ _ hldx hlb)
    have hk3' : ∀ b o, b ≠ dx → st.hp b = some o → S3.hp b = some o := fun b o h e => hk3 b o ⟨St.apart hd e, St.apart hj0 e⟩ (hk2 b o h e)
    have hf3 : ∀ ch ∈ ks, S3.hp (f ch) = some (.list (iL (places bs ch))) := fun ch h => hk3 _ _ ⟨(ne_hp (hf2 ch h) hd2 rfl), (ne_hp (hf2 ch h) hj2 rfl)⟩ (hf2 ch h)
    generalize hks1 : (ks.filter fun ch => !junk.contains ch) = ks1 at hd3 ⊢
    have Ind1 : ks1.Nodup := by rw [← hks1]; exact Ind.sublist List.filter_sublist
    have hz1 : ks1.length ≤ 1000 := by have := List.length_filter_le (fun ch => !junk.contains ch) ks; rw [hks1] at this; lia
    have hsub1 : ∀ ch ∈ ks1, ch ∈ ks := fun ch h => by rw [← hks1] at h; exact (List.mem_filter.mp h).1
    repeat walk_at "m1"
    refine XS_Assign2 rfl rfl ?_
    repeat walk_at "m1"
    refine CALL_set fun pd hpd => ?_
    have hM3' : SM (S3.put pd (.setS (fun _ => false) 0)).hp x dx (cvals J la lb auto mb oc (some (.ref d)) (some (.ref jd)) v9) := hM3.keeps ((Keeps.refl S3.hp).put hpd)
    refine ASG_self (x := x) (dx := dx) H hl3 (by walk_at "loc") (NEXTA_mk hM3' (by walk_at "loc") ?_)
    refine ASG_loc H hl3 (by walk_at "loc") ?_
    repeat walk_at "m1"
    have kn : ∀ b o, b ≠ dx → S3.hp b = some o → ((S3.put pd (.setS (fun _ => false) 0)).put dx (.attrs (look attrNames (mvals J la lb auto mb oc d jd pd)))).hp b = some o := fun b o h e => St.hp_there h (St.hp_there (St.apart hpd e) e)
    refine CALL_lenL (kn _ _ hldx hlb3) (by rw [List.length_map]; lia) ?_
    rw [show (sL bs).length = bs.length from List.length_map ..]
    repeat walk_at "m1"
    refine XB_gen (fun S4 => S4.loc = look nChain [some (.ref x), some (.ref lb), some (.ref d), o3, o4, o5, some (.ref jd), some J, some (.ref pd), some (iv bs.length), none, none] ∧ (∀ b o, b ≠ dx → S3.hp b = some o → S4.hp b = some o) ∧ SM S4.hp x dx (mvals J la lb auto mb oc d jd pd) ∧ S4.hp pd = some (.setS (setOf []) 0)) ⟨rfl, kn, SM.put hM3', St.hp_there (ne_hp hpd hM3.d rfl) St.put_self⟩ ?_
    intro S4 hZ
    refine an4 hZ fun hl4 hk4 hM4 hp4 => ?_
    clear hZ
    have hp0 : st.hp pd = none := by
     cases e : st.hp pd with
     | none => rfl
     | some o =>
      have := hk3' pd o (ne_hp hpd hM3.d rfl) e
      rw [hpd] at this; cases this
    have hd4 : S4.hp d = some (.dictS (tabOf ks1 f)) := hk4 _ _ (Ne.symm hdx) hd3
    have hf4 : ∀ ch ∈ ks1, S4.hp (f ch) = some (.list (iL (places bs ch))) := fun ch h => hk4 _ _ (ne_hp (hf3 ch (hsub1 ch h)) hM3.d rfl) (hf3 ch (hsub1 ch h))
    have hdp : d ≠ pd := ne_hp hd4 hp4 rfl
    refine XB_cut (fun S5 => ∃ (ol : Str → Option Value), (∀ b o, b ≠ d ∧ b ≠ pd → S4.hp b = some o → S5.hp b = some o) ∧ S5.hp d = some (.dictS (tabOf (ks1.filter fun ch => !(auto && decide (200 ≤ bs.length) && decide (bs.length / 100 + 1 < bs.count ch))) f))) ?_ ?_
    ·refine ABS_cut fun K6 hK6 => ?_
     refine XS_If' (TS_val (auto = true ∧ 200 ≤ bs.length) ?_ ⟨fun hc => ?_, fun hc => ?_⟩)
     ·repeat walk_at "m1"
      refine TS_plain rfl ?_
      refine EX_self H hl4 (by walk_at "loc") hM4 (by walk_at "loc") rfl ?_
      refine TRU_bool ?_
      refine ⟨fun c1 => ?_, fun c1 => ⟨(decide_eq_false (fun h => by rw [h.1] at c1; cases c1)).symm, rfl⟩⟩
      repeat walk_at "m1"
      refine ⟨fun c2 => ?_, fun c2 => ⟨(decide_eq_false (fun h => by have := of_decide_eq_false c2; lia)).symm, rfl⟩⟩
      repeat walk_at "m1"
      exact ⟨(decide_eq_true ⟨c1, by have := of_decide_eq_true c2; lia⟩).symm, rfl⟩
     ·obtain ⟨ha, h200⟩ := of_decide_eq_true hc
      repeat walk_at "m1"
      refine BIN_div (by decide) (by decide) ?_
      repeat walk_at "m1"
      rw [show (bs.length : Int).fdiv 100 = ((bs.length / 100 : Nat) : Int) from fdiv_nat bs.length 100]
      have hfP : ∀ ch, (!(auto && decide (200 ≤ bs.length) && decide (bs.length / 100 + 1 < bs.count ch))) = !decide (bs.length / 100 + 1 < bs.count ch) := fun ch => by rw [ha, decide_eq_true h200]; rfl
      refine XB_cut (fun S5 => ∃ (o4 o11 : Option Value), S5.loc = look nChain [some (.ref x), some (.ref lb), some (.ref d), o3, o4, o5, some (.ref jd), some J, some (.ref pd), some (iv bs.length), some (iv ((bs.length / 100 : Nat) + 1)), o11] ∧ (∀ b o, b ≠ d ∧ b ≠ pd → S4.hp b = some o → S5.hp b = some o) ∧ S5.hp d = some (.dictS (tabOf ks1 f)) ∧
       S5.hp pd = some (.setS (setOf (ks1.filter fun ch => decide (bs.length / 100 + 1 < bs.count ch))) (ks1.filter fun ch => decide (bs.length / 100 + 1 < bs.count ch)).length)) ?_ ?_
      ·refine ABS_cut fun K7 hK7 => ?_
       refine XS_ForItems H.hand (fun _ => rfl) ?_
       refine EX_M0 ⟨_, rfl⟩ ?_
       repeat walk_at "m1"
       refine METH_dictS hd4 F.slot_dict_items rfl ?_
       repeat walk_at "m1"
       refine CALL_items H.base.mods hd4 fun kv hkv => ?_
       have hkv' : S4.hp kv = none := hkv
       have hdk : d ≠ kv := St.apart hkv' hd4
       have hpk : pd ≠ kv := St.apart hkv' hp4
       refine items_mk kv d (tabOf ks1 f) (fun t S => ∃ (o4 o11 : Option Value), S.loc = look nChain [some (.ref x), some (.ref lb), some (.ref d), o3, o4, o5, some (.ref jd), some J, some (.ref pd), some (iv bs.length), some (iv ((bs.length / 100 : Nat) + 1)), o11] ∧ (∀ b o, b ≠ d ∧ b ≠ pd → S4.hp b = some o → S.hp b = some o) ∧
        S.hp pd = some (.setS (setOf ((ks1.take t).filter fun ch => decide (bs.length / 100 + 1 < bs.count ch))) ((ks1.take t).filter fun ch => decide (bs.length / 100 + 1 < bs.count ch)).length)) rfl St.put_self (St.hp_there hdk hd4) ?_ ?_ ?_
       ·exact ⟨o4, none, rfl, fun b o h e => St.hp_del (St.hp_there (St.apart hkv' e) e) h.1, St.hp_del (St.hp_there hpk hp4) (Ne.symm hdp)⟩
       ·intro t p c1 T ts S hp X hT hts hY
        refine ABS_asg fun K8 hK8 => ?_
        revert hY; refine ex2i fun o4 o11 hY => ?_
        refine an3 hY fun hl hkk hpp => ?_
        clear hY
        have H1 := H.ext X
        clear H
        obtain ⟨ch, hch, rfl⟩ := tabOf_get hp
        have hnot := snoc_not Ind1 hch
        have hmem : ch ∈ ks1 := List.mem_of_getElem? hch
        refine ASG_Tuple2 H1.hand rfl rfl rfl (.inr ⟨ts, hT, hts⟩) ?_
        refine ASG_loc H1 hl (by walk_at "loc") ?_
        refine ASG_loc H1 rfl (by walk_at "loc") ?_
        refine XB_cons ?_
        refine XS_If' ?_
        repeat walk_at "m1"
        have hlist := hkk _ _ ⟨(ne_hp (hf4 ch hmem) hd4 rfl), (ne_hp (hf4 ch hmem) hp4 rfl)⟩ (hf4 ch hmem)
        have hcz : bs.count ch ≤ bs.length := List.count_le_length
        refine CALL_lenL hlist (by rw [List.length_map, places_length]; lia) ?_
        rw [show (iL (places bs ch)).length = bs.count ch from by rw [List.length_map, places_length]]
        repeat walk_at "m1"
        refine ⟨fun hc1 => ?_, fun hc1 => ?_⟩
        ·replace hc1 : bs.length / 100 + 1 < bs.count ch := by have := of_decide_eq_true hc1; lia
         repeat walk_at "m1"
         refine XS_E H1 rfl ?_
         refine EX_M ⟨_, rfl⟩ rfl rfl ?_
         repeat walk_at "m1"
         refine METH_set hpp F.slot_set_add rfl ?_
         repeat walk_at "m1"
         refine CALL_add (x := s1 ch) hpp (setSmall (by have := List.length_filter_le (fun ch => decide (bs.length / 100 + 1 < bs.count ch)) (ks1.take t); rw [List.length_take] at this; lia)) ?_
         repeat walk_at "m1"
         refine hK8 _ (exI2 _ _ ⟨rfl, fun b o h e => St.hp_there h.2 (hkk b o h e), ?_⟩)
         rw [setOf_step (P := fun ch => decide (bs.length / 100 + 1 < bs.count ch)) hnot hch (decide_eq_true hc1)]
         exact St.put_self
        ·replace hc1 : ¬ bs.length / 100 + 1 < bs.count ch := by have := of_decide_eq_false hc1; lia
         repeat walk_at "m1"
         refine hK8 _ (exI2 _ _ ⟨rfl, hkk, ?_⟩)
         rw [setOf_skip (P := fun ch => decide (bs.length / 100 + 1 < bs.count ch)) hch (decide_eq_false hc1)]
         exact hpp
       ·intro S hY
        refine hK7 _ ?_
        revert hY; refine ex2i fun o4 o11 hY => ?_
        refine an3 hY fun hl hkk hpp => ?_
        clear hY
        rw [tabOf_length, List.take_length] at hpp
        exact ⟨o4, o11, hl, fun b o h e => St.hp_there h.1 (hkk b o h e), St.put_self, St.hp_there (Ne.symm hdp) hpp⟩
      ·intro S5 hZ
       revert hZ; refine ex2i fun o4 o11 hZ => ?_
       refine an4 hZ fun hl5 hk5 hd5 hp5 => ?_
       clear hZ
       refine XB_cons ?_
       refine XS_delall (ks := ks1) (cs := ks1.filter fun ch => decide (bs.length / 100 + 1 < bs.count ch)) H hl5 (by walk_at "loc") hd5 hp5 hz1 (fun ch h => (List.mem_filter.mp h).1) fun o4' S6 hl6 hk6 hd6 => ?_
       repeat walk_at "m1"
       refine hK6 _ ⟨S6.loc, fun b o h e => hk6 b o h.1 (hk5 b o h e), ?_⟩
       rw [hd6]
       congr 3
       apply List.filter_congr
       intro y hy
       rw [hfP]
       simp only [List.mem_filter, hy, true_and, decide_not, Bool.decide_eq_true]
     ·replace hc := of_decide_eq_false hc
      repeat walk_at "m1"
      refine hK6 _ ⟨S4.loc, fun b o _ e => e, ?_⟩
      rw [hd4]
      congr 3
      refine (List.filter_eq_self.mpr fun ch _ => ?_).symm
      have : (auto && decide (200 ≤ bs.length)) = false := by
       cases auto with
       | false => rfl
       | true => simp only [Bool.true_and]; exact decide_eq_false fun h => hc ⟨rfl, h⟩
      rw [this]; rfl
    ·intro S5 hZ
     obtain ⟨_, hZ⟩ := hZ
     refine an2 hZ fun hk5 hd5 => ?_
     clear hZ
     repeat walk_at "m1"
     have hk4' : ∀ b o, b ≠ dx → st.hp b = some o → S4.hp b = some o := fun b o h e => hk4 b o h (hk3' b o h e)
     refine hΦ d jd pd _ (fun b o h e => hk5 b o ⟨St.apart hd e, St.apart hp0 e⟩ (hk4' b o h e)) ⟨hk5 _ _ ⟨hxd, St.apart hp0 M.x⟩ hM4.x, hk5 _ _ ⟨hdx, St.apart hp0 M.d⟩ hM4.d⟩ ⟨?_, ⟨_, hd5, fun ch => ⟨fun h => ?_, fun h => ?_⟩⟩, ⟨setOf cs, cs.length, ?_, fun ch h => ?_⟩⟩
     ·exact hk5 _ _ ⟨hlbd, St.apart hp0 hlb⟩ (hk4' _ _ hldx hlb)
     ·obtain ⟨h1, h2⟩ := h
      rw [Bool.and_eq_true] at h1
      have hin1 : ch ∈ ks1 := by rw [← hks1]; exact List.mem_filter.mpr ⟨(Inm ch).mpr h2, h1.1⟩
      have hin : ch ∈ ks1.filter fun ch => !(auto && decide (200 ≤ bs.length) && decide (bs.length / 100 + 1 < bs.count ch)) := List.mem_filter.mpr ⟨hin1, h1.2⟩
      exact ⟨f ch, tabOf_some hin, hk5 _ _ ⟨(ne_hp (hf4 ch hin1) hd4 rfl), (ne_hp (hf4 ch hin1) hp4 rfl)⟩ (hf4 ch hin1)⟩
     ·refine tabOf_none fun hin => h ?_
      obtain ⟨g1, g2⟩ := List.mem_filter.mp hin
      rw [← hks1] at g1
      obtain ⟨g3, g4⟩ := List.mem_filter.mp g1
      exact ⟨by rw [Bool.and_eq_true]; exact ⟨g4, g2⟩, (Inm ch).mp g3⟩
     ·refine hk5 _ _ ⟨Ne.symm hdj2, fun q => ?_⟩ (hk4 _ _ (Ne.symm hdxj) hj3)
      rw [q, hpd] at hj3; cases hj3
     ·rw [setOf_mem]; exact hcs ch h
end
end Mine
end
section
open PySem PySem.W PyProof.Rows PySem.Calls
namespace Mine
noncomputable abbrev nSeq1 : List Str := ["self", "a"]
noncomputable abbrev nSeq2 : List Str := ["self", "b"]
noncomputable abbrev nSeqs : List Str := ["self", "a", "b"]
noncomputable abbrev nInit : List Str := ["self", "isjunk", "a", "b", "autojunk"]
set_option maxHeartbeats 2000000 in
theorem tab_seq1 : Tab (inCls 5 3) nSeq1 where
 nodup := by decide +kernel
 loc := by decide +kernel
 dbg := by decide +kernel
 cell := by decide +kernel
 co := by rfl
 gen := by rfl
 kind := by rfl
set_option maxHeartbeats 2000000 in
theorem tab_seq2 : Tab (inCls 5 4) nSeq2 where
 nodup := by decide +kernel
 loc := by decide +kernel
 dbg := by decide +kernel
 cell := by decide +kernel
 co := by rfl
 gen := by rfl
 kind := by rfl
set_option maxHeartbeats 2000000 in
theorem tab_seqs : Tab (inCls 5 2) nSeqs where
 nodup := by decide +kernel
 loc := by decide +kernel
 dbg := by decide +kernel
 cell := by decide +kernel
 co := by rfl
 gen := by rfl
 kind := by rfl
set_option maxHeartbeats 2000000 in
theorem tab_init : Tab (inCls 5 1) nInit where
 nodup := by decide +kernel
 loc := by decide +kernel
 dbg := by decide +kernel
 cell := by decide +kernel
 co := by rfl
 gen := by rfl
 kind := by rfl
section
variable {c : Cx} {st : St} {Φ : Value → St → Prop} {n : Nat}
noncomputable def Other (hp : Addr → Option AObj) (la : Addr) (v : Value) : Prop := v = .none ∨ ∃ l ws, v = .ref l ∧ la ≠ l ∧ hp l = some (.list ws)
theorem Other.cmp {la : Addr} {vs : List Value} {v : Value} (o : Other st.hp la v) (hl : st.hp la = some (.list vs)) (h : Φ (.bool false) st) : CMP c .Is (.ref la) v st Φ := by
 rcases o with rfl | ⟨l, ws, rfl, h1, h2⟩
 ·exact CMP_isNone h
 ·exact CMP_isList h1 hl h2 h
theorem Other.handed {hp : Addr → Option AObj} {la : Addr} {v : Value} (o : Other hp la v) : handedIn v = true := by
 rcases o with rfl | ⟨l, ws, rfl, h1, h2⟩ <;> rfl
set_option maxHeartbeats 4000000 in
theorem call_seq1 {x dx la : Addr} {A0 : Value} {vs : List Value} {v0 v2 v3 v4 v5 v6 v7 v8 v9 : Option Value} (G : Good c (n + 1)) (Bs : Base c.w c.h₀) (M : SM st.hp x dx [v0, some A0, v2, v3, v4, v5, v6, v7, v8, v9]) (hla : st.hp la = some (.list vs)) (hA : Other st.hp la A0)
  (hΦ : ∀ hp', (∀ b o, b ≠ dx → st.hp b = some o → hp' b = some o) → SM hp' x dx [v0, some (.ref la), v2, v3, some .none, some .none, v6, v7, v8, v9] → Φ .none ⟨st.loc, hp'⟩) : CALL c (.ref aSeq1) [.ref x, .ref la] st Φ := by
 refine CALL_fn0 (vals := [some (.ref x), some (.ref la)]) G Bs Bs.fSeq1 tab_seq1 (fun nm q doc pm an code ct us hu => ?_) (by simp) rfl fun c' H => ?_
 ·obtain ⟨a, b, rfl⟩ := len2 hu; rfl
 ·refine XB_cons ?_
  refine XS_E H rfl ?_
  repeat walk_at "m1"
  refine XB_cons ?_
  refine XS_If' ?_
  repeat walk_at "m1"
  refine EX_self H rfl (by walk_at "loc") M (by walk_at "loc") hA.handed ?_
  refine Other.cmp (st := ⟨_, st.hp⟩) hA hla ?_
  repeat walk_at "m1"
  refine ⟨fun q => by simp at q, fun _ => ?_⟩
  repeat walk_at "m1"
  refine XS_selfA (x := x) (dx := dx) H rfl ?_
  repeat walk_at "m1"
  refine ⟨_, rfl, by walk_at "loc", NEXTA_mk M (by walk_at "loc") ?_⟩
  have M1 := SM.put (vals' := [v0, some (.ref la), v2, v3, v4, v5, v6, v7, v8, v9]) M
  repeat walk_at "m1"
  refine XS_Assign2 rfl rfl ?_
  repeat walk_at "m1"
  refine ASG_self (x := x) (dx := dx) H rfl (by walk_at "loc") (NEXTA_mk M1 (by walk_at "loc") ?_)
  have M2 := SM.put (vals' := [v0, some (.ref la), v2, v3, some .none, v5, v6, v7, v8, v9]) M1
  refine ASG_self (x := x) (dx := dx) H rfl (by walk_at "loc") (NEXTA_mk M2 (by walk_at "loc") ?_)
  have M3 := SM.put (vals' := [v0, some (.ref la), v2, v3, some .none, some .none, v6, v7, v8, v9]) M2
  repeat walk_at "m1"
  exact hΦ _ (fun b o h e => St.hp_there h (St.hp_there h (St.hp_there h e))) M3
set_option maxHeartbeats 4000000 in
theorem call_seq2 {x dx la lb : Addr} {J B0 : Value} {v4 v5 v6 v7 v8 v9 : Option Value} {auto : Bool} {bs junk : List Nat} (G : Good c (n + 4)) (Bs : Base c.w c.h₀) (M : SM st.hp x dx [some J, some (.ref la), some B0, some (.bool auto), v4, v5, v6, v7, v8, v9]) (hlb : st.hp lb = some (.list (sL bs)))
  (hB : Other st.hp lb B0) (zb : bs.length ≤ 1000) (hJ : (J = .none ∧ junk = []) ∨ (J = .ref aJunk ∧ junk = [32, 9]))
  (hΦ : ∀ d jd pd hp', (∀ b o, b ≠ dx → st.hp b = some o → hp' b = some o) → SM hp' x dx (mvals J la lb auto .none .none d jd pd) →
   Tabs hp' lb d jd bs junk (fun ch => !junk.contains ch && !(auto && decide (200 ≤ bs.length) && decide (bs.length / 100 + 1 < bs.count ch))) → Φ .none ⟨st.loc, hp'⟩) : CALL c (.ref aSeq2) [.ref x, .ref lb] st Φ := by
 refine CALL_fn0 (vals := [some (.ref x), some (.ref lb)]) G Bs Bs.fSeq2 tab_seq2 (fun nm q doc pm an code ct us hu => ?_) (by simp) rfl fun c' H => ?_
 ·obtain ⟨a, b, rfl⟩ := len2 hu; rfl
 ·refine XB_cons ?_
  refine XS_E H rfl ?_
  repeat walk_at "m1"
  refine XB_cons ?_
  refine XS_If' ?_
  repeat walk_at "m1"
  refine EX_self H rfl (by walk_at "loc") M (by walk_at "loc") hB.handed ?_
  refine Other.cmp (st := ⟨_, st.hp⟩) hB hlb ?_
  repeat walk_at "m1"
  refine ⟨fun q => by simp at q, fun _ => ?_⟩
  repeat walk_at "m1"
  refine XS_selfA (x := x) (dx := dx) H rfl ?_
  repeat walk_at "m1"
  refine ⟨_, rfl, by walk_at "loc", NEXTA_mk M (by walk_at "loc") ?_⟩
  have M1 := SM.put (vals' := [some J, some (.ref la), some (.ref lb), some (.bool auto), v4, v5, v6, v7, v8, v9]) M
  repeat walk_at "m1"
  refine XS_Assign2 rfl rfl ?_
  repeat walk_at "m1"
  refine ASG_self (x := x) (dx := dx) H rfl (by walk_at "loc") (NEXTA_mk M1 (by walk_at "loc") ?_)
  have M2 := SM.put (vals' := [some J, some (.ref la), some (.ref lb), some (.bool auto), some .none, v5, v6, v7, v8, v9]) M1
  refine ASG_self (x := x) (dx := dx) H rfl (by walk_at "loc") (NEXTA_mk M2 (by walk_at "loc") ?_)
  have M3 := SM.put (vals' := [some J, some (.ref la), some (.ref lb), some (.bool auto), some .none, some .none, v6, v7, v8, v9]) M2
  repeat walk_at "m1"
  refine XS_selfA (x := x) (dx := dx) H rfl ?_
  repeat walk_at "m1"
  refine ⟨_, rfl, by walk_at "loc", NEXTA_mk M3 (by walk_at "loc") ?_⟩
  have M4 := SM.put (vals' := [some J, some (.ref la), some (.ref lb), some (.bool auto), some .none, some .none, some .none, v7, v8, v9]) M3
  have k4 : ∀ b o, b ≠ dx → st.hp b = some o → _ := fun b o h e => St.hp_there (o := AObj.attrs (look attrNames [some J, some (.ref la), some (.ref lb), some (.bool auto), some .none, some .none, some .none, v7, v8, v9])) h
   (St.hp_there (o := AObj.attrs (look attrNames [some J, some (.ref la), some (.ref lb), some (.bool auto), some .none, some .none, v6, v7, v8, v9])) h
   (St.hp_there (o := AObj.attrs (look attrNames [some J, some (.ref la), some (.ref lb), some (.bool auto), some .none, v5, v6, v7, v8, v9])) h
   (St.hp_there (o := AObj.attrs (look attrNames [some J, some (.ref la), some (.ref lb), some (.bool auto), v4, v5, v6, v7, v8, v9])) h e)))
  repeat walk_at "m1"
  refine XS_E H rfl ?_
  refine EX_selfM0 H rfl (by walk_at "loc") M4 (by walk_at "loc") H.base.fChain ⟨_, rfl⟩ ?_
  refine call_chain (n := n) H.good H.base M4 (k4 _ _ (ne_hp hlb M.d rfl) hlb) zb hJ fun d jd pd hp' hk hM hT => ?_
  repeat walk_at "m1"
  exact hΦ d jd pd hp' (fun b o h e => hk b o h (k4 b o h e)) hM hT
set_option maxHeartbeats 4000000 in
theorem call_seqs {x dx la lb : Addr} {J A0 B0 : Value} {vs : List Value} {v4 v5 v6 v7 v8 v9 : Option Value} {auto : Bool} {bs junk : List Nat} (G : Good c (n + 5)) (Bs : Base c.w c.h₀) (M : SM st.hp x dx [some J, some A0, some B0, some (.bool auto), v4, v5, v6, v7, v8, v9]) (hla : st.hp la = some (.list vs)) (hlb : st.hp lb = some (.list (sL bs)))
  (hA : Other st.hp la A0) (hB : B0 = .none) (zb : bs.length ≤ 1000) (hJ : (J = .none ∧ junk = []) ∨ (J = .ref aJunk ∧ junk = [32, 9]))
  (hΦ : ∀ d jd pd hp', (∀ b o, b ≠ dx → st.hp b = some o → hp' b = some o) → SM hp' x dx (mvals J la lb auto .none .none d jd pd) →
   Tabs hp' lb d jd bs junk (fun ch => !junk.contains ch && !(auto && decide (200 ≤ bs.length) && decide (bs.length / 100 + 1 < bs.count ch))) → Φ .none ⟨st.loc, hp'⟩) : CALL c (.ref aSeqs) [.ref x, .ref la, .ref lb] st Φ := by
 refine CALL_fn0 (vals := [some (.ref x), some (.ref la), some (.ref lb)]) G Bs Bs.fSeqs tab_seqs (fun nm q doc pm an code ct us hu => ?_) (by simp) rfl fun c' H => ?_
 ·obtain ⟨a, b, d, rfl⟩ := len3 hu; rfl
 ·refine XB_cons ?_
  refine XS_E H rfl ?_
  repeat walk_at "m1"
  refine XS_E H rfl ?_
  refine EX_selfM H rfl (by walk_at "loc") M (by walk_at "loc") H.base.fSeq1 ⟨_, rfl⟩ rfl rfl ?_
  repeat walk_at "m1"
  refine call_seq1 (n := n + 3) H.good H.base M hla hA fun hp1 hk1 hM1 => ?_
  repeat walk_at "m1"
  refine XS_E H rfl ?_
  refine EX_selfM H rfl (by walk_at "loc") hM1 (by walk_at "loc") H.base.fSeq2 ⟨_, rfl⟩ rfl rfl ?_
  repeat walk_at "m1"
  refine call_seq2 (n := n) H.good H.base hM1 (hk1 _ _ (ne_hp hlb M.d rfl) hlb) (.inl hB) zb hJ fun d jd pd hp2 hk2 hM2 hT => ?_
  repeat walk_at "m1"
  exact hΦ d jd pd hp2 (fun b o h e => hk2 b o h (hk1 b o h e)) hM2 hT
set_option maxHeartbeats 4000000 in
theorem call_SM {la lb : Addr} {J : Value} {vs : List Value} {auto : Bool} {bs junk : List Nat} (G : Good c (n + 7)) (Bs : Base c.w c.h₀) (hla : st.hp la = some (.list vs)) (hlb : st.hp lb = some (.list (sL bs)))
  (zb : bs.length ≤ 1000) (hJ : (J = .none ∧ junk = []) ∨ (J = .ref aJunk ∧ junk = [32, 9]))
  (hΦ : ∀ x dx d jd pd hp', st.hp x = none → st.hp dx = none → Keeps st.hp hp' → SM hp' x dx (mvals J la lb auto .none .none d jd pd) →
   Tabs hp' lb d jd bs junk (fun ch => !junk.contains ch && !(auto && decide (200 ≤ bs.length) && decide (bs.length / 100 + 1 < bs.count ch))) → Φ (.ref x) ⟨st.loc, hp'⟩) : CALL c (.ref aSM) [J, .ref la, .ref lb, .bool auto] st Φ := by
 obtain ⟨D, us0, n0, F, hD1, hD2⟩ := Bs.fInit
 obtain ⟨nm, q, doc, pm, an, code, ct, cl, dc, sl, h1, h2⟩ := F.at_
 obtain ⟨K, X, S⟩ := Bs.sm
 obtain ⟨m1, m2⟩ := S.me ("__init__", aInit) (.head _)
 refine CALL_make (n := n + 6) (zb := fun x => nInit.zip [.ref x, J, .ref la, .ref lb, .bool auto]) G X S.mks m1 m2 h1 rfl h2 rfl (fun x s us hs hu => ?_) tab_init.cell (fun a y hy => tab_init.loc _ (List.of_mem_zip hy).1) tab_init.co tab_init.gen tab_init.kind fun x dx hxd hx hdx c' U => ?_
 ·have hl : us.length = 5 := by rw [← List.length_map (f := z), hu]; rfl
  obtain ⟨u1, u2, u3, u4, u5, rfl⟩ := len5 hl
  obtain ⟨v1, v2, v3, v4, e0, w1, w2, w3, w4⟩ := four hD2
  have : us0 = #[v1, v2, v3, v4] := by rw [← Array.toArray_toList (xs := us0), e0]
  subst this
  refine ⟨nInit.zip [u1, u2, u3, u4, u5], BindsTo.of_defaults rfl (hs _ _ hD1) rfl rfl rfl, ?_⟩
  rw [← hu]
  rfl
 ·have H : Here (inCls 5 1) nInit (n + 6) c' := ⟨by rw [U.w]; exact Bs.keeps U.keep, U.good G tab_init.kind, by rw [U.env]; rfl, by rw [U.env]; rfl, by rw [U.env]; rfl, tab_init.toTabN, U.off⟩
  rw [zip_look tab_init.nodup [.ref x, J, .ref la, .ref lb, .bool auto] (by simp)]
  have hatt : (AObj.attrs fun _ => none) = .attrs (look attrNames [none, none, none, none, none, none, none, none, none, none]) := by
   congr 1
   funext y
   exact (look_nones attrNames 10 y).symm
  rw [hatt]
  have hJh : handedIn J = true := by rcases hJ with ⟨rfl, _⟩ | ⟨rfl, _⟩ <;> rfl
  show XB c' (bodyOf (inCls 5 1)) ⟨look nInit [some (.ref x), some J, some (.ref la), some (.ref lb), some (.bool auto)], _⟩ _
  have M0 : SM ((st.put dx (.attrs (look attrNames [none, none, none, none, none, none, none, none, none, none]))).put x (.inst aSM dx)).hp x dx [none, none, none, none, none, none, none, none, none, none] := ⟨St.put_self, St.hp_there (Ne.symm hxd) St.put_self⟩
  have k0 : Keeps st.hp ((st.put dx (.attrs (look attrNames [none, none, none, none, none, none, none, none, none, none]))).put x (.inst aSM dx)).hp := fun b o e => St.hp_there (St.apart hx e) (St.hp_there (St.apart hdx e) e)
  generalize ((st.put dx (.attrs (look attrNames [none, none, none, none, none, none, none, none, none, none]))).put x (.inst aSM dx)).hp = hp0 at M0 k0 ⊢
  refine XB_cons ?_
  refine XS_E H rfl ?_
  repeat walk_at "m1"
  refine XS_selfA (x := x) (dx := dx) H rfl ?_
  repeat walk_at "m1"
  refine ⟨_, rfl, by walk_at "loc", NEXTA_mk (st := ⟨_, hp0⟩) M0 (by walk_at "loc") ?_⟩
  have M1 := SM.put (st := ⟨look nInit [some (.ref x), some J, some (.ref la), some (.ref lb), some (.bool auto)], hp0⟩) (vals' := [some J, none, none, none, none, none, none, none, none, none]) M0
  repeat walk_at "m1"
  refine XS_Assign2 rfl rfl ?_
  repeat walk_at "m1"
  refine ASG_self (x := x) (dx := dx) H rfl (by walk_at "loc") (NEXTA_mk M1 (by walk_at "loc") ?_)
  have M2 := SM.put (vals' := [some J, some .none, none, none, none, none, none, none, none, none]) M1
  refine ASG_self (x := x) (dx := dx) H rfl (by walk_at "loc") (NEXTA_mk M2 (by walk_at "loc") ?_)
  have M3 := SM.put (vals' := [some J, some .none, some .none, none, none, none, none, none, none, none]) M2
  repeat walk_at "m1"
  refine XS_selfA (x := x) (dx := dx) H rfl ?_
  repeat walk_at "m1"
  refine ⟨_, rfl, by walk_at "loc", NEXTA_mk M3 (by walk_at "loc") ?_⟩
  have M4 := SM.put (vals' := [some J, some .none, some .none, some (.bool auto), none, none, none, none, none, none]) M3
  repeat walk_at "m1"
  refine XS_E H rfl ?_
  refine EX_selfM H rfl (by walk_at "loc") M4 (by walk_at "loc") H.base.fSeqs ⟨_, rfl⟩ rfl rfl ?_
  repeat walk_at "m1"
  have kd : ∀ b o, st.hp b = some o → b ≠ dx := fun b o e => St.apart hdx e
  have k4 : ∀ b o, b ≠ dx → hp0 b = some o → _ := fun b o h e => St.hp_there (o := AObj.attrs (look attrNames [some J, some .none, some .none, some (.bool auto), none, none, none, none, none, none])) h
   (St.hp_there (o := AObj.attrs (look attrNames [some J, some .none, some .none, none, none, none, none, none, none, none])) h
   (St.hp_there (o := AObj.attrs (look attrNames [some J, some .none, none, none, none, none, none, none, none, none])) h
   (St.hp_there (st := ⟨look nInit [some (.ref x), some J, some (.ref la), some (.ref lb), some (.bool auto)], hp0⟩) (o := AObj.attrs (look attrNames [some J, none, none, none, none, none, none, none, none, none])) h e)))
  refine call_seqs (n := n + 1) H.good H.base M4 (k4 _ _ (kd _ _ hla) (k0 _ _ hla)) (k4 _ _ (kd _ _ hlb) (k0 _ _ hlb)) (.inl rfl) rfl zb hJ fun d jd pd hp' hk hM hT => ?_
  repeat walk_at "m1"
  exact ⟨rfl, hΦ x dx d jd pd hp' hx hdx (fun b o e => hk b o (kd _ _ e) (k4 b o (kd _ _ e) (k0 b o e))) hM hT⟩
end
end Mine
end
section
open PySem PySem.W PyProof.Rows PySem.Calls
namespace Mine
noncomputable abbrev nPairs : List Str := ["old", "new", "plain", "junk", "alo", "ahi", "blo", "bhi", "size", "begin", "back", "fore", "before", "behind"]
set_option maxHeartbeats 2000000 in
theorem tab_pairs : TabN (topAt 10) nPairs where
 nodup := by decide +kernel
 loc := by decide +kernel
 dbg := by decide +kernel
 co := by rfl
 gen := by rfl
 kind := by rfl
theorem cells_pairs : ∀ L : Nat, cellsFrom (L + 1) (scopeOf (topAt 10)).names [] = [(("place" : Str), L + 2), (("start" : Str), L + 1)] := by
 intro L; kernel_rfl
theorem kind_start : (scopeOf (topAt 10)).names.lookup ("start" : Str) = some .cell := by kernel_rfl
theorem kind_place : (scopeOf (topAt 10)).names.lookup ("place" : Str) = some .cell := by kernel_rfl
theorem dbg_start : (("start" : Str) == ("__debug__" : Str)) = false := by kernel_rfl
theorem dbg_place : (("place" : Str) == ("__debug__" : Str)) = false := by kernel_rfl
theorem start_place : ("start" : Str) ≠ ("place" : Str) := by decide +kernel
theorem look_place {a1 a2 : Addr} : List.lookup ("place" : Str) [(("place" : Str), a2), (("start" : Str), a1)] = some a2 := by simp [List.lookup]
theorem look_start {a1 a2 : Addr} : List.lookup ("start" : Str) [(("place" : Str), a2), (("start" : Str), a1)] = some a1 := by
 have : (("start" : Str) == ("place" : Str)) = false := by simpa using start_place
 simp [List.lookup, this]
noncomputable def compScope : Scope := match (bodyOf (topAt 10)).getLast? with | some (.Return (some (.BinOp (.BinOp _ _ (.ListComp _ _ s _) _) _ _ _)) _) => s | _ => default
theorem closure_pairs {env : Env} {aS aP : Addr} (h : env.cells = [(("place" : Str), aP), (("start" : Str), aS)]) : closureFor compScope env = pure [(("start" : Str), aS), (("place" : Str), aP)] := by
 obtain ⟨a1, a2, a3, a4, a5, a6, a7, a8, a9⟩ := env
 dsimp only at h
 subst h
 kernel_rfl
theorem comp_cell : ∀ y ∈ compScope.names, y.2 ≠ .cell := by decide +kernel
theorem comp_kind : compScope.kind = .function := by rfl
theorem comp_names : ∀ y ∈ compScope.names, y.2 = .local → compScope.names.lookup y.1 = some .local := by decide +kernel
theorem comp_at : compScope.names.lookup ("at" : Str) = some .local := by kernel_rfl
theorem comp_at' {env : Env} (h : env.scope = scopeOf (topAt 10)) : (relabel compScope env).names.lookup ("at" : Str) = some .local := by
 obtain ⟨a1, a2, a3, a4, a5, a6, a7, a8, a9⟩ := env
 dsimp only at h
 subst h
 kernel_rfl
theorem comp_start {env : Env} (h : env.scope = scopeOf (topAt 10)) : (relabel compScope env).names.lookup ("start" : Str) = some .cell := by
 obtain ⟨a1, a2, a3, a4, a5, a6, a7, a8, a9⟩ := env
 dsimp only at h
 subst h
 kernel_rfl
theorem comp_place {env : Env} (h : env.scope = scopeOf (topAt 10)) : (relabel compScope env).names.lookup ("place" : Str) = some .cell := by
 obtain ⟨a1, a2, a3, a4, a5, a6, a7, a8, a9⟩ := env
 dsimp only at h
 subst h
 kernel_rfl
theorem dbg_at : (("at" : Str) == ("__debug__" : Str)) = false := by kernel_rfl
theorem look_start' {a1 a2 : Addr} : List.lookup ("start" : Str) [(("start" : Str), a1), (("place" : Str), a2)] = some a1 := by simp [List.lookup]
theorem look_place' {a1 a2 : Addr} : List.lookup ("place" : Str) [(("start" : Str), a1), (("place" : Str), a2)] = some a2 := by
 have : (("place" : Str) == ("start" : Str)) = false := by simpa using Ne.symm start_place
 simp [List.lookup, this]
theorem scan_hit {w : Win} (ok : w.Ok) (hdot : ∀ x ∈ w.a, x ≠ 46) (h : (scanTo w (w.ahi - w.alo)).1 ≠ 0) : ∃ j, hit w (scanTo w (w.ahi - w.alo)).2 (scanTo w (w.ahi - w.alo)).1 = some j := by
 have h1 := ok.a1
 obtain ⟨g, _⟩ := scan_inv ok hdot (w.ahi - w.alo) (by lia)
 obtain ⟨j, hb⟩ := g.pos (by lia)
 cases e : hit w (scanTo w (w.ahi - w.alo)).2 (scanTo w (w.ahi - w.alo)).1 with
 | some j => exact ⟨j, rfl⟩
 | none => exact absurd hb (hit_none ok hdot hb.i0 hb.i1 e j)
theorem lawPairs_len (a b : List Nat) (act : Nat → Bool) (junk : List Nat) (hdot : ∀ x ∈ a, x ≠ 46) (f : Nat) : ∀ (alo ahi blo bhi : Nat), alo ≤ ahi → ahi ≤ a.length → blo ≤ bhi → bhi ≤ b.length →
  (lawPairs a b act junk f alo ahi blo bhi).length ≤ ahi - alo := by
 induction f with
 | zero => intros; exact Nat.zero_le _
 | succ f ih =>
  intro alo ahi blo bhi h1 h2 h3 h4
  have ok : Win.Ok ⟨a, b, act, alo, ahi, blo, bhi⟩ := ⟨h1, h2, h3, h4⟩
  have hin := longest_in ok junk
  rw [lawPairs_succ, longest_law ok hdot]
  generalize longest ⟨a, b, act, alo, ahi, blo, bhi⟩ junk = x at hin
  obtain ⟨i, j, k⟩ := x
  dsimp only at hin ⊢
  split
  ·exact Nat.zero_le _
  ·rename_i hk
   have e1 := ih alo i blo j (by lia) (by lia) (by lia) (by lia)
   have e2 := ih (i + k) ahi (j + k) bhi (by lia) (by lia) (by lia) (by lia)
   have e3 : (pairsOf (i, j, k)).length = k := by simp [pairsOf]
   rw [List.length_append, List.length_append, e3]
   lia
section
variable {c : Cx} {st : St} {Φ : Value → St → Prop} {n : Nat}
structure PC (c : Cx) (aS aP : Addr) : Prop where
 sc : c.env.scope = scopeOf (topAt 10)
 ce : c.env.cells = [(("place" : Str), aP), (("start" : Str), aS)]
theorem PC.ext {c c' : Cx} {aS aP : Addr} (x : PC c aS aP) (X : Ext c c') : PC c' aS aP := ⟨by rw [X.env]; exact x.sc, by rw [X.env]; exact x.ce⟩
theorem PC.fk {aS aP : Addr} (x : PC c aS aP) : c.env.scope.kind = .function := by rw [x.sc]; rfl
theorem EX_start {aS aP : Addr} {pos : Pos} {v : Value} (x : PC c aS aP) (ha : st.hp aS = some (.cell (some v))) (h : Φ v st) : EX c (.Name "start" pos) st Φ :=
 EX_cell x.fk (by unfold Env.kindOf; rw [x.sc]; exact kind_start) (by rw [x.ce]; exact look_start) dbg_start ha h
theorem EX_place {aS aP : Addr} {pos : Pos} {v : Value} (x : PC c aS aP) (ha : st.hp aP = some (.cell (some v))) (h : Φ v st) : EX c (.Name "place" pos) st Φ :=
 EX_cell x.fk (by unfold Env.kindOf; rw [x.sc]; exact kind_place) (by rw [x.ce]; exact look_place) dbg_place ha h
theorem ASG_start {aS aP : Addr} {p : Pos} {v : Value} {o : Option Value} {Q : St → Prop} (x : PC c aS aP) (ha : st.hp aS = some (.cell o)) (h : Q (st.put aS (.cell (some v)))) : ASG c (.Name "start" p) v st Q :=
 ASG_cell x.fk (by unfold Env.kindOf; rw [x.sc]; exact kind_start) (by rw [x.ce]; exact look_start) ha h
theorem ASG_place {aS aP : Addr} {p : Pos} {v : Value} {o : Option Value} {Q : St → Prop} (x : PC c aS aP) (ha : st.hp aP = some (.cell o)) (h : Q (st.put aP (.cell (some v)))) : ASG c (.Name "place" p) v st Q :=
 ASG_cell x.fk (by unfold Env.kindOf; rw [x.sc]; exact kind_place) (by rw [x.ce]; exact look_place) ha h
theorem XS_place {aS aP : Addr} {e : Expr} {p q : Pos} {Ψ : AF → St → Prop} (x : PC c aS aP) (hsw : swapsWith e (some (.Name "place" p)) q.line c.env = pure false)
  (h : EX c e st fun v st' => (∃ o, st'.hp aP = some (.cell o)) ∧ Ψ .next (st'.put aP (.cell (some v)))) : XS c (.Assign [.Name "place" p] e q) st Ψ :=
 XS_Acell x.fk (by unfold Env.kindOf; rw [x.sc]; exact kind_place) (by rw [x.ce]; exact look_place) hsw h
end
section
theorem law_facts {w : Win} (okw : w.Ok) (hdw : ∀ x ∈ w.a, x ≠ 46) (junk : List Nat) {size start pl : Nat} (hs : scanTo w (w.ahi - w.alo) = (size, start)) (hpl : placeOf w (size, start) = pl) :
  longestLaw w junk = (start - reach (seg w.a w.alo start).reverse (seg w.b w.blo pl).reverse junk, pl - reach (seg w.a w.alo start).reverse (seg w.b w.blo pl).reverse junk, reach (seg w.a w.alo start).reverse (seg w.b w.blo pl).reverse junk + size + reach (seg w.a (start + size) w.ahi) (seg w.b (pl + size) w.bhi) junk) ∧ w.alo ≤ start ∧ start + size ≤ w.ahi ∧ w.blo ≤ pl ∧ pl + size ≤ w.bhi ∧ (size ≠ 0 → ∃ j, hit w start size = some j) := by
 obtain ⟨h1, h2, h3, h4⟩ := best_in okw (scan_best okw hdw)
 have hsh := scan_hit okw hdw
 have hlaw : longestLaw w junk = ((scanTo w (w.ahi - w.alo)).2 - reach (seg w.a w.alo (scanTo w (w.ahi - w.alo)).2).reverse (seg w.b w.blo (placeOf w (scanTo w (w.ahi - w.alo)))).reverse junk,
   placeOf w (scanTo w (w.ahi - w.alo)) - reach (seg w.a w.alo (scanTo w (w.ahi - w.alo)).2).reverse (seg w.b w.blo (placeOf w (scanTo w (w.ahi - w.alo)))).reverse junk,
   reach (seg w.a w.alo (scanTo w (w.ahi - w.alo)).2).reverse (seg w.b w.blo (placeOf w (scanTo w (w.ahi - w.alo)))).reverse junk + (scanTo w (w.ahi - w.alo)).1 +
   reach (seg w.a ((scanTo w (w.ahi - w.alo)).2 + (scanTo w (w.ahi - w.alo)).1) w.ahi) (seg w.b (placeOf w (scanTo w (w.ahi - w.alo)) + (scanTo w (w.ahi - w.alo)).1) w.bhi) junk) := rfl
 rw [hs] at h1 h2 h3 h4 hsh hlaw
 rw [hpl] at h3 h4 hlaw
 exact ⟨hlaw, h1, h2, h3, h4, hsh⟩
theorem takez {l : List Nat} (h : l.length ≤ 1000) (a b : Nat) : ((l.drop a).take b).length ≤ sizeLine := by
 rw [sizeLine_eq]
 rw [List.length_take, List.length_drop]
 exact Nat.le_trans (Nat.le_trans (Nat.min_le_right ..) (Nat.le_trans (Nat.sub_le ..) h)) (by decide)
theorem rtakez {l : List Nat} (h : l.length ≤ 1000) (a b : Nat) : ((l.drop a).take b).reverse.length ≤ sizeLine := by
 rw [List.length_reverse]; exact takez h a b
theorem allz {l : List Nat} (h : l.length ≤ 1000) : l.length ≤ sizeLine := by
 rw [sizeLine_eq]; exact Nat.le_trans h (by decide)
set_option maxHeartbeats 8000000 in
theorem call_pairs {as bs junk : List Nat} {act : Nat → Bool} (za : as.length ≤ 60) (zb : bs.length ≤ 1000) (hdot : ∀ x ∈ as, x ≠ 46) : ∀ (f : Nat) {c : Cx} {st : St} {Φ : Value → St → Prop} {alo ahi blo bhi : Nat} (G : Good c (f + 3)) (Bs : Base c.w c.h₀)
  (ok : Win.Ok ⟨as, bs, act, alo, ahi, blo, bhi⟩) (hf : ahi - alo < f)
  (hΦ : ∀ r hp', st.hp r = none → Keeps st.hp hp' → LT hp' r ((lawPairs as bs act junk f alo ahi blo bhi).map encP) → Φ (.ref r) ⟨st.loc, hp'⟩),
  CALL c (.ref aPairs) [sv as, sv bs, sv (dots act bs), sv junk, iv alo, iv ahi, iv blo, iv bhi] st Φ := by
 have za' : as.length ≤ 1000 := Nat.le_trans za (by decide)
 intro f
 induction f with
 | zero => intro c st Φ alo ahi blo bhi G Bs ok hf; lia
 | succ f ih =>
  intro c st Φ alo ahi blo bhi G Bs ok hf hΦ
  obtain ⟨hw1, hw2, hw3, hw4⟩ := ok
  dsimp only at hw1 hw2 hw3 hw4
  refine CALL_fn2 (n := f + 3) (vals := [some (sv as), some (sv bs), some (sv (dots act bs)), some (sv junk), some (iv alo), some (iv ahi), some (iv blo), some (iv bhi), none, none, none, none, none, none]) G Bs Bs.fPairs tab_pairs (fun nm q doc pm an code ct us hu => ?_) (by simp) rfl cells_pairs start_place fun c' aS aP H hS hP hSP hce => ?_
  ·obtain ⟨a, b, d, e, f, g, h, i, rfl⟩ := len8 hu; rfl
  ·have P : PC c' aS aP := ⟨H.sc, hce⟩
   refine XB_cons ?_
   refine XS_AssignT rfl (H.swap (by kernel_rfl)) ?_
   repeat walk_at "m1"
   refine ⟨Nat.le_of_ble_eq_true rfl, fun t ht => ?_⟩
   have ht' : ((st.put aS (.cell none)).put aP (.cell none)).hp t = none := ht
   have hS1 : ((st.put aS (.cell none)).put aP (.cell none)).hp aS = some (.cell none) := St.hp_there hSP St.put_self
   have hP1 : ((st.put aS (.cell none)).put aP (.cell none)).hp aP = some (.cell none) := St.put_self
   have hSt : aS ≠ t := St.apart ht' hS1
   have hPt : aP ≠ t := St.apart ht' hP1
   refine ASG_Tuple2 H.hand rfl rfl rfl (.inl St.put_self) ?_
   refine ASG_loc H rfl (by walk_at "loc") ?_
   refine ASG_start P (o := none) (St.hp_there hSt hS1) ?_
   repeat walk_at "m1"
   refine XB_gen (fun S => S.loc = look nPairs [some (sv as), some (sv bs), some (sv (dots act bs)), some (sv junk), some (iv alo), some (iv ahi), some (iv blo), some (iv bhi), some (iv (0 : Nat)), none, none, none, none, none] ∧ Keeps st.hp S.hp ∧ S.hp aS = some (.cell (some (iv alo))) ∧ S.hp aP = some (.cell none)) ⟨rfl, fun b o e => ?_, St.put_self, St.hp_there (Ne.symm hSP) (St.hp_there hPt hP1)⟩ ?_
   ·have e1 : b ≠ aS := St.apart hS e
    have e2 : b ≠ aP := St.apart hP e
    have e3 : ((st.put aS (.cell none)).put aP (.cell none)).hp b = some o := St.hp_there e2 (St.hp_there e1 e)
    exact St.hp_there e1 (St.hp_there (St.apart ht' e3) e3)
   clear ht ht' hS1 hP1 hSt hPt
   intro S1 hZ
   refine an4 hZ fun hl1 k1 hS1 hP1 => ?_
   clear hZ
   generalize hw : (⟨as, bs, act, alo, ahi, blo, bhi⟩ : Win) = w
   have hwa : w.a = as := by rw [← hw]
   have hwb : dots w.act w.b = dots act bs := by rw [← hw]
   have hwalo : w.alo = alo := by rw [← hw]
   have hwahi : w.ahi = ahi := by rw [← hw]
   have hwblo : w.blo = blo := by rw [← hw]
   have hwbhi : w.bhi = bhi := by rw [← hw]
   have hhit : ∀ i n, hit w i n = firstAt (dots act bs) ((as.drop i).take n) blo bhi := fun i n => by rw [← hw]; rfl
   have hdl : (dots act bs).length = bs.length := List.length_map ..
   refine XB_cut (fun S => ∃ (o9 : Option Value), S.loc = look nPairs [some (sv as), some (sv bs), some (sv (dots act bs)), some (sv junk), some (iv alo), some (iv ahi), some (iv blo), some (iv bhi), some (iv (scanTo w (ahi - alo)).1), o9, none, none, none, none] ∧ Keeps st.hp S.hp ∧ S.hp aS = some (.cell (some (iv (scanTo w (ahi - alo)).2))) ∧ S.hp aP = some (.cell none)) ?_ ?_
   ·refine ABS_cut fun K1 hK1 => ?_
    refine XS_ForRange H.hand (fun _ => rfl) (fun _ _ => rfl) ?_
    repeat walk_at "m1"
    refine CALL_range fun r hr => ?_
    have hr' : S1.hp r = none := hr
    refine range_mk r alo ahi (fun i S => ∃ (o9 : Option Value), S.loc = look nPairs [some (sv as), some (sv bs), some (sv (dots act bs)), some (sv junk), some (iv alo), some (iv ahi), some (iv blo), some (iv bhi), some (iv (scanTo w i).1), o9, none, none, none, none] ∧ Keeps st.hp S.hp ∧ S.hp aS = some (.cell (some (iv (scanTo w i).2))) ∧ S.hp aP = some (.cell none)) rfl St.put_self (by lia) ?_ ?_ ?_
    ·have e0 : scanTo w 0 = (0, alo) := by rw [← hwalo]; rfl
     refine ⟨none, ?_⟩
     rw [e0]
     exact ⟨hl1, k1.put hr', St.hp_there (St.apart hr' hS1) hS1, St.hp_there (St.apart hr' hP1) hP1⟩
    ·intro i c1 S hi X hJ
     refine ABS_asg fun K2 hK2 => ?_
     obtain ⟨o9, hJ⟩ := hJ
     refine an4 hJ fun hl hk hcS hcP => ?_
     clear hJ
     have H1 := H.ext X
     have P1 := P.ext X
     clear H P
     have hi : alo + i < ahi := by lia
     rw [show ((alo : Int) + (i : Int)) = ((alo + i : Nat) : Int) from rfl]
     refine ASG_loc H1 hl (by walk_at "loc") ?_
     have hscan : scanTo w (i + 1) = grow w (alo + i) (ahi + 1) (scanTo w i) := by
      unfold scanTo
      rw [List.range_succ, List.foldl_append, hwalo, hwahi]; rfl
     refine XB_cons ?_
     refine XS_While' (fun m S => ∃ (f' : Nat) (s' : Nat × Nat), grow w (alo + i) f' s' = scanTo w (i + 1) ∧ ahi < f' + (alo + i + s'.1) ∧ m = ahi - (alo + i + s'.1) ∧ S.loc = look nPairs [some (sv as), some (sv bs), some (sv (dots act bs)), some (sv junk), some (iv alo), some (iv ahi), some (iv blo), some (iv bhi), some (iv s'.1), some (iv (alo + i : Nat)), none, none, none, none] ∧ Keeps st.hp S.hp ∧ S.hp aS = some (.cell (some (iv s'.2))) ∧ S.hp aP = some (.cell none)) (ahi - (alo + i + (scanTo w i).1)) ⟨ahi + 1, scanTo w i, hscan.symm, by lia, rfl, rfl, hk, hcS, hcP⟩ ?_
     intro m S2 hJ
     refine ABS_ts fun K3 hK3 => ?_
     obtain ⟨f', ⟨size, start⟩, hg, hf', rfl, hl2, hk2, hS2, hP2⟩ := hJ
     dsimp only at hf' hl2 hS2 ⊢
     refine TS_val (alo + i + size < ahi ∧ (hit w (alo + i) (size + 1)).isSome = true) ?_ ⟨fun hc => ?_, fun hc => ?_⟩
     ·repeat walk_at "m1"
      refine ⟨fun c1 => ?_, fun c1 => ⟨(decide_eq_false (fun h => by have := of_decide_eq_false c1; lia)).symm, rfl⟩⟩
      replace c1 : alo + i + size < ahi := by have := of_decide_eq_true c1; lia
      repeat walk_at "m1"
      refine EX_M ⟨_, rfl⟩ rfl rfl ?_
      repeat walk_at "m1"
      refine METH_str F.slot_str_find rfl ?_
      repeat walk_at "m1"
      refine EX_SliceS ?_
      repeat walk_at "m1"
      refine PART_some ?_
      repeat walk_at "m1"
      refine PART_some ?_
      repeat walk_at "m1"
      refine slice_mk (alo + i) (alo + i + size + 1) (allz za') (.inr rfl) (.inr rfl) (Nat.le_succ_of_le (Nat.le_add_right _ _)) (Nat.le_trans c1 hw2) ?_
      repeat walk_at "m1"
      refine CALL_find4 (by rw [hdl]; exact hw4) ?_
      repeat walk_at "m1"
      rw [lp1 (alo + i) size, ← hhit]
      cases e : hit w (alo + i) (size + 1) with
      | none =>
       refine ⟨fun q => absurd q (by simp), fun _ => ⟨(decide_eq_false (by simp)).symm, rfl⟩⟩
      | some j =>
       refine ⟨fun _ => ?_, fun q => absurd q (by simp)⟩
       repeat walk_at "m1"
       exact ⟨(decide_eq_true ⟨c1, rfl⟩).symm, rfl⟩
     ·obtain ⟨c1, c2⟩ := of_decide_eq_true hc
      clear hc
      repeat walk_at "m1"
      refine XS_AssignT rfl (H1.swap (by kernel_rfl)) ?_
      repeat walk_at "m1"
      refine ⟨Nat.le_of_ble_eq_true rfl, fun t ht => ?_⟩
      refine ASG_Tuple2 H1.hand rfl rfl rfl (.inl St.put_self) ?_
      refine ASG_loc H1 hl2 (by walk_at "loc") ?_
      have ht' : S2.hp t = none := ht
      refine ASG_start P1 (o := some (iv start)) (St.hp_there (St.apart ht' hS2) hS2) ?_
      repeat walk_at "m1"
      refine hK3 (ahi - (alo + i + (size + 1))) _ (lp2 c1) ⟨f' - 1, (size + 1, alo + i), ?_, lp3 hf' c1, rfl, rfl, fun b o e => ?_, St.put_self, St.hp_there (Ne.symm hSP) (St.hp_there (St.apart ht' hP2) hP2)⟩
      ·obtain ⟨f'', rfl⟩ : ∃ f'', f' = f'' + 1 := ⟨f' - 1, lp4 hf' c1⟩
       rw [← hg, grow, if_pos ⟨by rw [hwahi]; exact c1, c2⟩]
       rfl
      ·have e1 := hk2 b o e
       exact St.hp_there (St.apart hS e) (St.hp_there (St.apart ht' e1) e1)
     ·replace hc := of_decide_eq_false hc
      repeat walk_at "m1"
      have hstop : grow w (alo + i) f' (size, start) = (size, start) := by
       cases f' with
       | zero => rfl
       | succ f'' => rw [grow, if_neg (by rw [hwahi]; exact hc)]
      rw [hstop] at hg
      refine hK2 _ ⟨some (iv (alo + i : Nat)), ?_⟩
      rw [← hg]
      exact ⟨hl2, hk2, hS2, hP2⟩
    ·intro S hJ
     refine hK1 _ ?_
     obtain ⟨o9, hJ⟩ := hJ
     refine an4 hJ fun hl hk hcS hcP => ?_
     clear hJ
     rw [ltn hw1] at hl hcS
     exact ⟨o9, hl, hk, hcS, hcP⟩
   ·intro S3 hZ
    obtain ⟨o9, hZ⟩ := hZ
    refine an4 hZ fun hl3 hk3 hS3 hP3 => ?_
    clear hZ
    rcases hs : scanTo w (ahi - alo) with ⟨size, start⟩
    rw [hs] at hS3 hl3
    dsimp only at hS3 hl3
    generalize hpl : placeOf w (size, start) = pl
    obtain ⟨hlaw, b1, b2, b3, b4, hsh⟩ : longestLaw w junk = (start - reach (seg as alo start).reverse (seg bs blo pl).reverse junk, pl - reach (seg as alo start).reverse (seg bs blo pl).reverse junk, reach (seg as alo start).reverse (seg bs blo pl).reverse junk + size + reach (seg as (start + size) ahi) (seg bs (pl + size) bhi) junk) ∧ alo ≤ start ∧ start + size ≤ ahi ∧ blo ≤ pl ∧ pl + size ≤ bhi ∧ (size ≠ 0 → ∃ j, hit w start size = some j) := by
     clear hl3 hS3 hk3 hP3 hl1 hS1 hP1
     subst hw
     exact law_facts ⟨hw1, hw2, hw3, hw4⟩ hdot junk hs hpl
    repeat walk_at "m1"
    refine XS_place P rfl ?_
    refine EX_val (iv pl) (EX_IfExp' ?_) ?_
    ·refine TS_name H hl3 (by walk_at "loc") ?_
     repeat walk_at "m1"
     refine ⟨fun hc => ?_, fun hc => ?_⟩
     ·have hk0 : size ≠ 0 := by intro e; subst e; simp at hc
      obtain ⟨j, hj⟩ := hsh hk0
      refine EX_M ⟨_, rfl⟩ rfl rfl ?_
      repeat walk_at "m1"
      refine METH_str F.slot_str_find rfl ?_
      repeat walk_at "m1"
      refine EX_SliceS ?_
      repeat walk_at "m1"
      refine PART_some ?_
      refine EX_start P hS3 ?_
      refine PART_some ?_
      repeat walk_at "m1"
      refine EX_start P hS3 ?_
      repeat walk_at "m1"
      refine slice_mk start (start + size) (allz za') (.inr rfl) (.inr rfl) (Nat.le_add_right _ _) (Nat.le_trans b2 hw2) ?_
      repeat walk_at "m1"
      refine CALL_find4 (by rw [hdl]; exact hw4) ?_
      rw [show start + size - start = size from Nat.add_sub_cancel_left .., ← hhit, hj]
      have hpj : pl = j := by rw [← hpl]; unfold placeOf; dsimp only; rw [if_neg hk0, hj]; rfl
      rw [hpj]
      exact ⟨rfl, rfl⟩
     ·have hk0 : size = 0 := by
       cases size with
       | zero => rfl
       | succ k => exact absurd hc (by simp; lia)
      repeat walk_at "m1"
      have hpj : pl = blo := by rw [← hpl]; unfold placeOf; dsimp only; rw [if_pos hk0, hwblo]
      rw [hpj]
      exact ⟨rfl, rfl⟩
    clear hsh
    refine ⟨⟨_, hP3⟩, ?_⟩
    refine nextOr_next ?_
    refine XB_gen (fun S => S.loc = look nPairs [some (sv as), some (sv bs), some (sv (dots act bs)), some (sv junk), some (iv alo), some (iv ahi), some (iv blo), some (iv bhi), some (iv size), o9, none, none, none, none] ∧ Keeps st.hp S.hp ∧ S.hp aS = some (.cell (some (iv start))) ∧ S.hp aP = some (.cell (some (iv pl)))) ⟨hl3, fun b o e => St.hp_there (St.apart hP e) (hk3 b o e), St.hp_there hSP hS3, St.put_self⟩ ?_
    clear hS3 hl3 hk3 hP3
    intro S4 hZ
    refine an4 hZ fun hl4 hk4 hS4 hP4 => ?_
    clear hZ
    repeat walk_at "m1"
    refine EX_RevS ?_
    refine EX_SliceS ?_
    repeat walk_at "m1"
    refine PART_some ?_
    repeat walk_at "m1"
    refine PART_some ?_
    refine EX_start P hS4 ?_
    have b5 : start ≤ as.length := Nat.le_trans (Nat.le_trans (Nat.le_add_right _ _) b2) hw2
    have b6 : pl ≤ bs.length := Nat.le_trans (Nat.le_trans (Nat.le_add_right _ _) b4) hw4
    refine slice_mk alo start (allz za') (.inr rfl) (.inr rfl) b1 b5 ?_
    repeat walk_at "m1"
    refine ⟨_, rfl, takez za' _ _, rfl, ?_⟩
    repeat walk_at "m1"
    refine EX_RevS ?_
    refine EX_SliceS ?_
    repeat walk_at "m1"
    refine PART_some ?_
    repeat walk_at "m1"
    refine PART_some ?_
    refine EX_place P hP4 ?_
    refine slice_mk blo pl (allz zb) (.inr rfl) (.inr rfl) b3 b6 ?_
    repeat walk_at "m1"
    refine ⟨_, rfl, takez zb _ _, rfl, ?_⟩
    repeat walk_at "m1"
    refine ⟨KEEPER_fn H.base.fReach, ?_⟩
    have r1 := reach_le (seg as alo start).reverse (seg bs blo pl).reverse junk
    rw [List.length_reverse, List.length_reverse, seg_length b5, seg_length b6] at r1
    refine call_reach (n := f + 2) H.good H.base (rtakez za' _ _) (rtakez zb _ _) ?_
    show NEXT nPairs "back" (iv (reach (seg as alo start).reverse (seg bs blo pl).reverse junk : Nat)) _ _
    generalize reach (seg as alo start).reverse (seg bs blo pl).reverse junk = bk at r1 hlaw ⊢
    repeat walk_at "m1"
    refine EX_SliceS ?_
    repeat walk_at "m1"
    refine PART_some ?_
    repeat walk_at "m1"
    refine EX_start P hS4 ?_
    repeat walk_at "m1"
    refine PART_some ?_
    repeat walk_at "m1"
    refine slice_mk (start + size) ahi (allz za') (.inr rfl) (.inr rfl) b2 hw2 ?_
    repeat walk_at "m1"
    refine EX_SliceS ?_
    repeat walk_at "m1"
    refine PART_some ?_
    repeat walk_at "m1"
    refine EX_place P hP4 ?_
    repeat walk_at "m1"
    refine PART_some ?_
    repeat walk_at "m1"
    refine slice_mk (pl + size) bhi (allz zb) (.inr rfl) (.inr rfl) b4 hw4 ?_
    repeat walk_at "m1"
    refine ⟨KEEPER_fn H.base.fReach, ?_⟩
    have r2 := reach_le (seg as (start + size) ahi) (seg bs (pl + size) bhi) junk
    rw [seg_length hw2, seg_length hw4] at r2
    refine call_reach (n := f + 2) H.good H.base (takez za' _ _) (takez zb _ _) ?_
    show NEXT nPairs "fore" (iv (reach (seg as (start + size) ahi) (seg bs (pl + size) bhi) junk : Nat)) _ _
    generalize reach (seg as (start + size) ahi) (seg bs (pl + size) bhi) junk = fr at r2 hlaw ⊢
    repeat walk_at "m1"
    refine XS_AssignT rfl (H.swap (by kernel_rfl)) ?_
    repeat walk_at "m1"
    refine EX_start P hS4 ?_
    repeat walk_at "m1"
    refine EX_place P hP4 ?_
    repeat walk_at "m1"
    rw [lp5 r1.1, lp5 r1.2, show ((bk : Int) + (size : Int) + (fr : Int)) = ((bk + size + fr : Nat) : Int) from rfl]
    refine ⟨Nat.le_of_ble_eq_true rfl, fun t ht => ?_⟩
    have ht' : S4.hp t = none := ht
    refine ASG_Tuple3 H.hand rfl rfl rfl St.put_self ?_
    refine ASG_start P (o := some (iv start)) (St.hp_there (St.apart ht' hS4) hS4) ?_
    refine ASG_place P (o := some (iv pl)) (St.hp_there (Ne.symm hSP) (St.hp_there (St.apart ht' hP4) hP4)) ?_
    refine ASG_loc H rfl (by walk_at "loc") ?_
    refine nextOr_next ?_
    refine XB_gen (fun S => S.loc = look nPairs [some (sv as), some (sv bs), some (sv (dots act bs)), some (sv junk), some (iv alo), some (iv ahi), some (iv blo), some (iv bhi), some (iv (bk + size + fr : Nat)), o9, some (iv bk), some (iv fr), none, none] ∧ Keeps st.hp S.hp ∧ S.hp aS = some (.cell (some (iv (start - bk : Nat)))) ∧ S.hp aP = some (.cell (some (iv (pl - bk : Nat))))) ⟨rfl, fun b o e => St.hp_there (St.apart hP e) (St.hp_there (St.apart hS e) (St.hp_there (St.apart ht' (hk4 b o e)) (hk4 b o e))), St.hp_there hSP St.put_self, St.put_self⟩ ?_
    have q1 : alo ≤ start - bk := lp6 b1 r1.1
    have q2 : start - bk + (bk + size + fr) ≤ ahi := lp7 b2 r1.1 r2.1
    have q3 : blo ≤ pl - bk := lp6 b3 r1.2
    have q4 : pl - bk + (bk + size + fr) ≤ bhi := lp7 b4 r1.2 r2.2
    have hlp := lawPairs_succ as bs act junk f alo ahi blo bhi
    rw [hw, hlaw] at hlp
    dsimp only at hlp
    clear hlaw r1 r2 b1 b2 b3 b4 b5 b6 hpl hs hS4 hP4 hk4 hl4 ht ht'
    generalize start - bk = x1 at q1 q2 hlp ⊢
    generalize pl - bk = x2 at q3 q4 hlp ⊢
    generalize bk + size + fr = x3 at q2 q4 hlp ⊢
    intro S5 hZ
    refine an4 hZ fun hl5 hk5 hS5 hP5 => ?_
    clear hZ
    refine XB_cons ?_
    refine XS_If' ?_
    repeat walk_at "m1"
    refine ⟨fun hc => ?_, fun hc => ?_⟩
    ·have hx3 : x3 = 0 := by have := eq_of_beq hc; lia
     repeat walk_at "m1"
     refine ⟨Nat.zero_le _, fun r hr => ?_⟩
     repeat walk_at "m1"
     refine hΦ r _ (hk5.none hr) (hk5.put hr) ?_
     rw [hlp, if_pos hx3]
     exact ⟨[], St.put_self, .nil⟩
    ·have hx3 : x3 ≠ 0 := by have := ne_of_beq_false hc; lia
     rw [if_neg hx3] at hlp
     repeat walk_at "m1"
     refine EX_start P hS5 ?_
     repeat walk_at "m1"
     refine EX_place P hP5 ?_
     repeat walk_at "m1"
     refine ⟨KEEPER_fn H.base.fPairs, ?_⟩
     have w1 : x1 ≤ as.length := Nat.le_trans (Nat.le_trans (Nat.le_add_right _ _) q2) hw2
     have w2 : x2 ≤ bs.length := Nat.le_trans (Nat.le_trans (Nat.le_add_right _ _) q4) hw4
     refine ih H.good H.base ⟨q1, w1, q3, w2⟩ (lp8 hf q2 hx3 q1) fun r6 hp6 hr6 hk6 hL6 => ?_
     have hS6 := hk6 _ _ hS5
     have hP6 := hk6 _ _ hP5
     repeat walk_at "m1"
     refine EX_start P (st := ⟨_, hp6⟩) hS6 ?_
     repeat walk_at "m1"
     refine EX_place P (st := ⟨_, hp6⟩) hP6 ?_
     repeat walk_at "m1"
     refine ⟨KEEPER_fn H.base.fPairs, ?_⟩
     rw [show ((x1 : Int) + (x3 : Int)) = ((x1 + x3 : Nat) : Int) from rfl, show ((x2 : Int) + (x3 : Int)) = ((x2 + x3 : Nat) : Int) from rfl]
     refine ih H.good H.base ⟨q2, hw2, q4, hw4⟩ (lp9 hf q2 hx3 q1) fun r7 hp7 hr7 hk7 hL7 => ?_
     have hS7 := hk7 _ _ hS6
     have hP7 := hk7 _ _ hP6
     have hL67 : LT hp7 r6 _ := hL6.keeps hk7
     have n1 := lawPairs_len as bs act junk hdot f alo x1 blo x2 q1 w1 q3 w2
     have n2 := lawPairs_len as bs act junk hdot f (x1 + x3) ahi (x2 + x3) bhi q2 hw2 q4 hw4
     repeat walk_at "m1"
     refine EX_ListComp (scope := compScope) (J := fun i ys hp => ∃ cs : List Addr, ys = cs.map .ref ∧ Keeps hp7 hp ∧ Tups hp cs ((List.range i).map fun t => encP (x1 + t, x2 + t))) H.hand (fun _ => rfl) (closure_pairs P.ce) comp_cell comp_kind comp_names comp_at ?_
     repeat walk_at "m1"
     refine CALL_range1 fun rr hrr => ?_
     have hrr' : hp7 rr = none := hrr
     have krr : Keeps hp7 (St.put ⟨st.loc, hp7⟩ rr (.rng 0 x3)).hp := (Keeps.refl hp7).put (st := ⟨st.loc, hp7⟩) hrr'
     refine ⟨rr, x3, rfl, St.put_self, Nat.le_trans (Nat.le_trans (Nat.le_add_left _ _) q2) (Nat.le_trans hw2 za'), ⟨[], rfl, krr, .nil⟩, ?_, ?_⟩
     ·intro i ys hp c2 lc hi hJ e1 e2 hC hat
      refine ABS_ex fun K4 hK4 => ?_
      obtain ⟨cs, hJ⟩ := hJ
      refine an3 hJ fun e0 hk hT => ?_
      clear hJ
      subst e0
      obtain ⟨C, eC⟩ := hC
      have fk : c2.env.scope.kind = .function := by rw [eC]; rfl
      repeat walk_at "m1"
      refine EX_cell fk (by rw [eC]; exact comp_start P.sc) (by rw [eC]; exact look_start') dbg_start (hk _ _ hS7) ?_
      refine EX_local fk (by rw [eC]; exact comp_at' P.sc) dbg_at hat ?_
      repeat walk_at "m1"
      refine EX_cell fk (by rw [eC]; exact comp_place P.sc) (by rw [eC]; exact look_place') dbg_place (hk _ _ hP7) ?_
      refine EX_local fk (by rw [eC]; exact comp_at' P.sc) dbg_at hat ?_
      repeat walk_at "m1"
      refine ⟨Nat.le_of_ble_eq_true rfl, fun t ht => hK4 _ _ ⟨cs ++ [t], by rw [List.map_append]; rfl, hk.put ht, ?_⟩⟩
      rw [List.range_succ, List.map_append]
      exact (hT.keeps fun a v e => St.hp_there (St.apart ht e) e).append (.cons St.put_self .nil)
     ·rintro ys hp ⟨cs, rfl, hk, hT⟩ hlen a ha
      obtain ⟨c6, h61, h62⟩ := hL67.keeps hk
      obtain ⟨c7, h71, h72⟩ := hL7.keeps hk
      have l6 := h62.length
      have l7 := h72.length
      have lc := hT.length
      rw [List.length_map] at l6 l7 lc hlen
      rw [List.length_range] at lc
      have a6 : r6 ≠ a := St.apart (st := ⟨st.loc, hp⟩) ha h61
      have a7 : r7 ≠ a := St.apart (st := ⟨st.loc, hp⟩) ha h71
      refine BIN_addL (vs := c6.map .ref) (ws := cs.map .ref) (St.hp_there a6 h61) St.put_self (by rw [List.length_map, List.length_map, sizeLine_eq]; lia) fun r8 hr8 => ?_
      repeat walk_at "m1"
      have b7 : r7 ≠ r8 := St.apart hr8 (St.hp_there a7 h71)
      refine BIN_addL (vs := c6.map .ref ++ cs.map .ref) (ws := c7.map .ref) St.put_self (St.hp_there b7 (St.hp_there a7 h71)) (by rw [List.length_append, List.length_map, List.length_map, List.length_map, sizeLine_eq]; lia) fun r9 hr9 => ?_
      repeat walk_at "m1"
      have kk : Keeps hp (((St.put ⟨st.loc, hp⟩ a (.list (cs.map .ref))).put r8 (.list (c6.map .ref ++ cs.map .ref))).put r9 (.list (c6.map .ref ++ cs.map .ref ++ c7.map .ref))).hp := (((Keeps.refl hp).put (st := ⟨st.loc, hp⟩) ha).put hr8).put hr9
      have kall : Keeps st.hp hp := ((hk5.trans hk6).trans hk7).trans hk
      refine hΦ r9 _ ((kall.trans (((Keeps.refl hp).put (st := ⟨st.loc, hp⟩) ha).put hr8)).none hr9) (kall.trans kk) ?_
      rw [hlp, List.map_append, List.map_append]
      refine ⟨c6 ++ cs ++ c7, by rw [List.map_append, List.map_append]; exact St.put_self, (((h62.append ?_).append h72).keeps fun a v e => kk _ _ e)⟩
      have : (pairsOf (x1, x2, x3)).map encP = (List.range x3).map fun t => encP (x1 + t, x2 + t) := by
       show (List.map (fun t => (x1 + t, x2 + t)) (List.range x3)).map encP = _
       rw [List.map_map]; rfl
      rw [this]; exact hT
end
end Mine
end
section
open PySem PySem.W PyProof.Rows PySem.Calls
namespace Mine
section
variable {c : Cx} {st : St} {Φ : Value → St → Prop} {Ψ : AF → St → Prop} {n : Nat} {T : Stmt} {names : List Str}
noncomputable abbrev ice (c : Cx) (st : St) (s : Shared) : Cx := ⟨c.w, c.A, hideP s.heap (fun a => st.hp a ≠ none), c.env, c.g, c.o⟩
theorem Mod.freeze {s : Shared} (hs : Mod c st s) : Mod (ice c st s) st s := by
 obtain ⟨m, F, hm⟩ := hs.fr
 refine ⟨⟨m, ⟨F.ns, fun b o e => ?_⟩, hm⟩, fun a o e => ?_, hs.g, hs.o⟩
 ·by_cases q : st.hp b ≠ none
  ·rw [hideP_none q] at e; cases e
  ·rw [hideP_get q] at e; exact e
 ·obtain ⟨h1, h2, h3⟩ := hs.hp a o e
  exact ⟨h1, h2, hideP_none (by rw [e]; simp)⟩
theorem Mod.iceKeep {s : Shared} (hs : Mod c st s) : ∀ b o, c.h₀.get? b = some o → (ice c st s).h₀.get? b = some o := fun b o e => by
 obtain ⟨m, F, hm⟩ := hs.fr
 refine (hideP_get fun q => ?_).trans (F.keep b o e)
 cases hq : st.hp b with
 | none => exact q hq
 | some ob => have := (hs.hp b ob hq).2.2; rw [e] at this; cases this
theorem Mod.thaw {s s4 : Shared} {st2 : St} (hs : Mod c st s) (m4 : Mod (ice c st s) st2 s4) : Mod c ⟨st.loc, st2.hp⟩ s4 ∧ ∀ m, s.heap.Ns c.env.locals m → s4.heap.Ns c.env.locals m := by
 refine hide fun G9 hG9 => ?_
 obtain ⟨m, F, hm⟩ := hs.fr
 obtain ⟨m', F', _⟩ := m4.fr
 refine hG9 ?_
 have hLn : ¬ (st.hp c.env.locals ≠ none) := fun q => by
  cases hq : st.hp c.env.locals with
  | none => exact q hq
  | some ob => exact (hs.hp _ ob hq).2.1 rfl
 have kL : ∀ o, s.heap.get? c.env.locals = some o → s4.heap.get? c.env.locals = some o := fun o e => F'.keep _ _ ((hideP_get hLn).trans e)
 have hkeep := hs.iceKeep
 refine ⟨⟨⟨m, ⟨F.ns.at' kL, fun b o e => F'.keep b o (hkeep b o e)⟩, hm⟩, fun a o e => ?_, m4.g, m4.o⟩, fun m hm => hm.at' kL⟩
 obtain ⟨h1, h2, h3⟩ := m4.hp a o e
 refine ⟨h1, h2, ?_⟩
 cases q : c.h₀.get? a with
 | none => rfl
 | some ob => have := hkeep a ob q; rw [h3] at this; cases this
theorem WP_ice {α : Type} {t : Sem α} {Φ : α → St → Prop} {s : Shared} {m : Str → Option Value} (hs : Mod c st s) (hm : s.heap.Ns c.env.locals m) (h : WP (ice c st s) t st Φ) {Q : α → Shared → Prop}
  (k : ∀ v s4 st2, Mod c ⟨st.loc, st2.hp⟩ s4 → s4.heap.Ns c.env.locals m → s.toks ≤ s4.toks → Φ v st2 → Q v s4) : wpAny (model PW c.w) c.A t Q (fun _ _ => False) s := by
 refine wpAny_mono (wpAny_toks (h.run s hs.freeze)) (fun v s4 ⟨ht, st2, m4, hΦ⟩ => ?_) fun _ _ e => e.2
 obtain ⟨k1, k2⟩ := hs.thaw m4
 exact k v s4 st2 k1 (k2 m hm) ht hΦ
theorem setRaw {m : Str → Option Value} {x : Str} {v : Value} {names : List Str} {vals vals' : List (Option Value)} {lc : Str → Option Value} (hm : ∀ y, (m y).map z = lc y) (hn : names.Nodup) (e : lc = look names vals) (l : Sto names vals x (z v) vals') :
  ∀ y, ((fun y => if y = x then some v else m y) y).map z = look names vals' y := by
 intro y
 have := congrFun (l.look hn) y
 rw [← this]
 dsimp only
 by_cases q : y = x
 ·simp [q]
 ·simp [q, hm y, e]
theorem EX_ice {e : Expr} {s : Shared} {m : Str → Option Value} (hs : Mod c st s) (hm : s.heap.Ns c.env.locals m) (h : EX (ice c st s) e st Φ) {Q : Value → Shared → Prop}
  (k : ∀ v s4 st2, Mod c ⟨st.loc, st2.hp⟩ s4 → s4.heap.Ns c.env.locals m → s.toks ≤ s4.toks → Φ (z v) st2 → Q v s4) : wpAny (model PW c.w) c.A (eval e c.env) Q (fun _ _ => False) s := by
 refine wpAny_mono (wpAny_toks (h.run s hs.freeze)) (fun v s4 ⟨ht, st2, m4, hΦ⟩ => ?_) fun _ _ e => e.2
 obtain ⟨k1, k2⟩ := hs.thaw m4
 exact k v s4 st2 k1 (k2 m hm) ht hΦ
theorem TS_ice {e : Expr} {s : Shared} {m : Str → Option Value} {B : Bool → St → Prop} (hs : Mod c st s) (hm : s.heap.Ns c.env.locals m) (h : TS (ice c st s) e st B) {Q : Bool → Shared → Prop}
  (k : ∀ v s4 st2, Mod c ⟨st.loc, st2.hp⟩ s4 → s4.heap.Ns c.env.locals m → s.toks ≤ s4.toks → B v st2 → Q v s4) : wpAny (model PW c.w) c.A (isTrue e c.env (eval e c.env)) Q (fun _ _ => False) s := by
 refine wpAny_mono (wpAny_toks (h.run s hs.freeze)) (fun v s4 ⟨ht, st2, m4, hΦ⟩ => ?_) fun _ _ e => e.2
 obtain ⟨k1, k2⟩ := hs.thaw m4
 exact k v s4 st2 k1 (k2 m hm) ht hΦ
theorem EX_glob0 {c2 : Cx} {x : Str} {pos : Pos} {v : Value} (H : Here T names n c) (he : c2.env = c.env) (hw : c2.w = c.w) (hk2 : ∀ b o, c.h₀.get? b = some o → c2.h₀.get? b = some o) (l : Pr Mine.gl x v) (hk : (scopeOf T).names.lookup x = some .globalImplicit) (hd : (x == ("__debug__" : Str)) = false) (hz : z v = v) (h : Φ v st) : EX c2 (.Name x pos) st Φ := .of fun s hs => by
 refine hide fun G9 hG9 => ?_
 obtain ⟨mg, mb, h1, h2, h3⟩ := H.base.glob
 obtain ⟨m, F, _⟩ := hs.fr
 refine hG9 ?_
 refine wpAny_Name ?_ hd
 rw [loadName_read (by rw [he]; exact H.good.kind) (by unfold Env.kindOf; rw [he, H.sc]; exact hk)]
 unfold loadGlobal
 rw [he, H.gl, H.bi]
 refine wpAny_bind (wpAny_nsGet ((h1.keeps hk2).keeps F.keep) ?_)
 rcases h3 _ l.mem with e | ⟨e1, e2⟩
 ·rw [e]
  exact wpAny_pure ⟨st, hs, by rw [hz]; exact h⟩
 ·rw [e1]
  refine wpAny_bind (wpAny_nsGet ((h2.keeps hk2).keeps F.keep) ?_)
  rw [e2]
  exact wpAny_pure ⟨st, hs, by rw [hz]; exact h⟩
theorem RAW_M {o : Expr} {name : Str} {apos pos : Pos} {args : List Expr} {s : Shared} {Q : Value → Shared → Prop} {E : Value → Shared → Prop} (he : ∃ pl : Sem Bool, eval (.Call (.Attribute o name apos) args [] pos) c.env = (do
   let ov ← eval o c.env
   standAt apos.atName
   let (f, first) ← holding [ov] (getMethod ov name pl)
   callWith pos f first (backTo pos (starEach args c.env)) []))
  (h : ∀ pl : Sem Bool, wpAny (model PW c.w) c.A (eval o c.env) (fun ov s1 => wpAny (model PW c.w) c.A (getMethod ov name pl) (fun fx s2 => wpAny (model PW c.w) c.A (callWith pos fx.1 fx.2 (backTo pos (starEach args c.env)) []) Q E s2) E s1) E s) :
  wpAny (model PW c.w) c.A (eval (.Call (.Attribute o name apos) args [] pos) c.env) Q E s := by
 obtain ⟨pl, he⟩ := he
 exact MethodCall_ (h pl) he
theorem RAW_callWith {pos : Pos} {u : Value} {first : List Value} {e : Expr} {rest : List Expr} {id : String} {s : Shared} {Q : Value → Shared → Prop} {E : Value → Shared → Prop} (hf : u = .builtin id) (he : starEach (e :: rest) c.env = (false, eval e c.env) :: starEach rest c.env) (hp : (backTo pos (starEach rest c.env)).any (·.1) = false)
  (h : wpAny (model PW c.w) c.A (spliced (backTo pos (starEach (e :: rest) c.env))) (fun vs s2 => wpAny (model PW c.w) c.A (call u (first ++ vs)) Q E s2) E s) : wpAny (model PW c.w) c.A (callWith pos u first (backTo pos (starEach (e :: rest) c.env)) []) Q E s := by
 rw [he] at h ⊢
 refine callWith_of (P := fun _ => True) (by show ((false || (backTo pos (starEach rest c.env)).any (·.1)) || false) = false; rw [hp]; rfl) (fun h _ => ⟨.machine, .inr (.inl rfl), by rw [hf]; exact .of_pure rfl⟩) (evalArgs_plain ?_)
 exact wpAny_mono h (fun vs s2 x => ⟨trivial, x⟩) fun _ _ x => x
theorem dotStr : ("." : Str) = ⟨#[46]⟩ := by kernel_rfl
theorem XS_ForStrT {target : Expr} {x : Str} {k : Nat} {p pos : Pos} {body : List Stmt} (hh : c.A.handled = none) (hgo : ∀ it v, letOwnedTupleGo target it v = pure ()) (hx : x.cps.all (· < 128) = true)
  (J : Nat → St → Prop) (h0 : J 0 st)
  (turn : ∀ i ch c' st' s' u, x.cps[i]? = some ch → Ext c c' → J i st' → Mod c' st' s' → 0 < u → u < s'.toks → ∀ K : St → Prop, (∀ s, J (i + 1) s → K s) → wpAny (model PW c'.w) c'.A (assign target c'.env (.str ⟨#[ch]⟩ u)) (fun _ s1 => wpAny (model PW c'.w) c'.A (execs body c'.env) (fun f s2 => ∃ st2, Mod c' st2 s2 ∧ LP K Ψ (zf f) st2) (fun _ _ => False) s1) (fun _ _ => False) s')
  (done : ∀ st', J x.cps.size st' → Ψ .next st') : XS c (.For target (.Constant (.str x) k p) body [] pos) st Ψ := .of fun s0 hs0 => by
 refine wpAny_For (wpAny_Constant_str ?_) (fun _ => rfl)
 refine wpAny_pyIter_ascii hx ?_
 have hs : Mod c st { s0 with toks := s0.toks + 1 } := hs0.toks
 have ht0 : 0 < ({ s0 with toks := s0.toks + 1 } : Shared).toks := Nat.succ_pos _
 generalize ({ s0 with toks := s0.toks + 1 } : Shared) = s1 at hs ht0 ⊢
 obtain ⟨hI1, hI2, hI3⟩ := hs.above (b := s1.heap.objs.size) (Nat.le_refl _)
 have m1 : Mod c st { s1 with heap := s1.heap.push { cls := .type "str_ascii_iterator", data := .fields #[.str x s0.toks, .int 0 0] }, toks := s1.toks } := hs.keep fun b o e => Heap.get?_push_of_some _ e
 have hit : (s1.heap.push { cls := .type "str_ascii_iterator", data := .fields #[.str x s0.toks, .int 0 0] }).IsStrIter s1.heap.objs.size "str_ascii_iterator" x s0.toks 0 := ⟨_, Heap.get?_push_size _ rfl, rfl, rfl⟩
 generalize s1.heap.objs.size = I at hI1 hI2 hI3 hit ⊢
 generalize s0.toks = t0 at m1 hit ⊢
 generalize hs2 : ({ s1 with heap := s1.heap.push { cls := .type "str_ascii_iterator", data := .fields #[.str x t0, .int 0 0] }, toks := s1.toks } : Shared) = s2 at m1 hit ⊢
 have ht2 : 0 < s2.toks := by rw [← hs2]; exact ht0
 have hit2 : s2.heap.IsStrIter I "str_ascii_iterator" x t0 0 := by rw [← hs2]; exact hit
 show codeAny (model PW c.w) c.A (.forLoop target (.ref I) body [] c.env) _ _
 refine codeAny_mono (codeAny_forLoop_any (R := fun r s' => match r with | .ok f => ∃ st', Mod c st' s' ∧ Ψ (zf f) st' | .error _ => False) (fun k s => ∃ i st, i ≤ x.cps.size ∧ k = x.cps.size - i ∧ Mod c st s ∧ s.heap.IsStrIter I "str_ascii_iterator" x t0 i ∧ J i st ∧ st.hp I = none ∧ 0 < s.toks) ?_ x.cps.size ⟨0, st, Nat.zero_le _, rfl, m1, hit2, h0, hI1, ht2⟩) ?_
 ·intro k s hX9
  refine hide fun G9 hG9 => ?_
  obtain ⟨i, st, hi, rfl, hs, hS, hJ, hst, ht⟩ := hX9
  refine hG9 ?_
  by_cases hlt : i < x.cps.size
  ·obtain ⟨ch, hch⟩ : ∃ ch, x.cps[i]? = some ch := ⟨_, Array.getElem?_eq_getElem hlt⟩
   refine wpAny_pyNext_ascii_item hS hch fun h' hS' hsb => ?_
   have m1 : Mod c st { s with heap := h', toks := s.toks + 1 } := hs.off (fun b => b = I) (fun b o hb e => hsb.extBut b o hb e) fun b hb => by
    rw [hb]; exact ⟨hst, hI2, hI3⟩
   show wpAny _ _ (letOwnedTupleGo target (.ref I) _) _ _ _
   rw [hgo]
   refine wpAny_pure ?_
   obtain ⟨m, F, hm⟩ := m1.fr
   have hb : ∀ b, (c.h₀.get? b ≠ none ∨ b = I) → (hideP h' fun a => ¬ (c.h₀.get? a ≠ none ∨ a = I)).get? b = h'.get? b := fun b q => hideP_get (fun q' => q' q)
   have off : ∀ b, ¬ (c.h₀.get? b ≠ none ∨ b = I) → (hideP h' fun a => ¬ (c.h₀.get? a ≠ none ∨ a = I)).get? b = none := fun b q => hideP_none q
   have X : Ext c ⟨c.w, c.A, hideP h' fun a => ¬ (c.h₀.get? a ≠ none ∨ a = I), c.env, c.g, c.o⟩ := ⟨rfl, rfl, rfl, rfl, rfl, fun b o e => (hb b (.inl (by rw [e]; simp))).trans (F.keep b o e), fun ho => off _ (by rintro (q | q); exact q ho; exact hI3 q.symm)⟩
   have m2 : Mod ⟨c.w, c.A, hideP h' fun a => ¬ (c.h₀.get? a ≠ none ∨ a = I), c.env, c.g, c.o⟩ st { s with heap := h', toks := s.toks + 1 } := by
    refine ⟨⟨m, ⟨F.ns, fun b o e => ?_⟩, hm⟩, fun a o e => ?_, m1.g, m1.o⟩
    ·by_cases q : c.h₀.get? b ≠ none ∨ b = I
     ·rw [hb b q] at e; exact e
     ·rw [off b q] at e; cases e
    ·obtain ⟨h1, h2, h3⟩ := m1.hp a o e
     refine ⟨h1, h2, off _ ?_⟩
     rintro (q | q)
     ·exact q h3
     ·rw [q, hst] at e; cases e
   have key := turn i ch _ st _ s.toks hch X hJ m2 ht (Nat.lt_succ_self _) _ fun _ h => h
   refine wpAny_mono (wpAny_toks key) ?_ fun _ _ e => e.2.elim
   rintro _ s2 ⟨ht2, h3⟩
   refine wpAny_mono (wpAny_toks h3) ?_ fun _ _ e => e.2.elim
   intro f s3 hX9
   refine hide fun G9 hG9 => ?_
   obtain ⟨ht3, st3, m4, h4⟩ := hX9
   obtain ⟨m', F', _⟩ := m4.fr
   obtain ⟨oI, o1, o2⟩ := hS'
   refine hG9 ?_
   have k1 : (hideP h' fun a => ¬ (c.h₀.get? a ≠ none ∨ a = I)).get? I = some oI := (hb I (.inr rfl)).trans o1
   have hS3 : s3.heap.IsStrIter I "str_ascii_iterator" x t0 (i + 1) := ⟨oI, F'.keep _ _ k1, o2⟩
   have hst3 : st3.hp I = none := by
    cases e : st3.hp I with
    | none => rfl
    | some o => have := (m4.hp I o e).2.2; rw [k1] at this; cases this
   have m5 := m4.unext X
   have ht4 : 0 < s3.toks := by
    have a1 : s.toks + 1 ≤ s2.toks := ht2
    lia
   cases f with
   | next => exact ⟨x.cps.size - (i + 1), by lia, i + 1, st3, by lia, rfl, m5, hS3, h4, hst3, ht4⟩
   | cont => exact ⟨x.cps.size - (i + 1), by lia, i + 1, st3, by lia, rfl, m5, hS3, h4, hst3, ht4⟩
   | brk => exact ⟨st3, m5, h4⟩
   | ret v => exact ⟨st3, m5, h4⟩
  ·obtain rfl : i = x.cps.size := by lia
   refine wpAny_pyNext_ascii_end hh hS (by simp) fun h' hsb => wpAny_execs_nil ?_
   have m1 : Mod c st { s with heap := h', toks := s.toks } := hs.off (fun b => b = I) (fun b o hb e => hsb b o hb e) fun b hb => by
    rw [hb]; exact ⟨hst, hI2, hI3⟩
   exact ⟨st, m1, done st hJ⟩
 ·intro r s' hr
  cases r with
  | error e => exact hr.elim
  | ok f => exact hr
theorem repl_raw {l : List Nat} {ch : Nat} {t u v : Tok} {s : Shared} {A : Around} {w : World} {Q : Value → Shared → Prop} {E : Value → Shared → Prop} (hu : 0 < u) (huv : u < v) (hc : ch ≠ 46) (hl : l.length ≤ 1000)
  (h : ∀ t' tk, Q (.str ⟨(l.map fun n => if n = ch then 46 else n).toArray⟩ t') { s with toks := tk }) : wpAny (model PW w) A (call (.builtin "str.replace") [.str ⟨l.toArray⟩ t, .str ⟨#[ch]⟩ u, .str ⟨#[46]⟩ v]) Q E s := by
 have hlen : (⟨l.toArray⟩ : Str).length = l.length := by simp [Str.length]
 have hone : ∀ a, (⟨#[a]⟩ : Str).length = 1 := fun a => rfl
 have hocc := StrLaws.occ_length_le (⟨l.toArray⟩ : Str) ⟨#[ch]⟩ 0 (⟨l.toArray⟩ : Str).length ((⟨l.toArray⟩ : Str).length + 1)
 have hrep : Txt.replace ⟨l.toArray⟩ ⟨#[ch]⟩ ⟨#[46]⟩ = ⟨(l.map fun n => if n = ch then 46 else n).toArray⟩ := replace_swaps l ch 46
 refine call_gives F.slot_str_replace (typeIs_str _ _ _) F.entry_str_replace (F.args_str_replace_3 _ _ _) (gives_str_replace _ _ _ t u v fun _ => ⟨by have a1 : (u == 0) = false := beq_eq_false_iff_ne.mpr (Nat.ne_of_gt hu); have a2 : (v == 0) = false := beq_eq_false_iff_ne.mpr (Nat.ne_of_gt (Nat.lt_trans hu huv)); rw [a1, a2]; rfl, beq_eq_false_iff_ne.mpr (Nat.ne_of_lt huv), ?_, ?_⟩) ?_
 ·have : ¬ s1 ch = s1 46 := fun q => hc (s1_inj q)
  simpa using this
 ·unfold Builtin.Str.tooLong sizeLine
  refine decide_eq_false ?_
  rw [hone, hlen] at *
  lia
 ·rw [← hrep] at h
  unfold Txt.replace at h
  cases hcut : ((Builtin.Str.occurrences ⟨l.toArray⟩ ⟨#[ch]⟩ 0 (⟨l.toArray⟩ : Str).length ((⟨l.toArray⟩ : Str).length + 1)).isEmpty || ((⟨#[ch]⟩ : Str).length == 0 && (⟨#[46]⟩ : Str).length == 0))
  ·rw [hcut] at h
   simp only [Bool.false_eq_true, if_false] at h ⊢
   exact ⟨fits_replaced _ (by rw [hlen]; simp [Str.length]; lia), h _ _⟩
  ·rw [hcut] at h
   simp only [if_true] at h ⊢
   exact h t s.toks
end
end Mine
end
section
open PySem PySem.W PyProof.Rows PySem.Calls
namespace Mine
noncomputable abbrev nTold : List Str := ["old", "new", "junk", "auto", "plain", "letter", "crowd"]
set_option maxHeartbeats 2000000 in
theorem tab_told : Tab (topAt 12) nTold where
 nodup := by decide +kernel
 loc := by decide +kernel
 dbg := by decide +kernel
 cell := by decide +kernel
 co := by rfl
 gen := by rfl
 kind := by rfl
noncomputable abbrev letters : List Nat := [97, 98, 32, 9, 99]
noncomputable def modAct (junk : List Nat) (auto : Bool) (bs : List Nat) (ch : Nat) : Bool := !junk.contains ch && !(auto && decide (200 ≤ bs.length) && decide (bs.length / 100 + 1 < bs.count ch))
noncomputable def crowd (auto : Bool) (bs : List Nat) (ch : Nat) : Bool := auto && decide (200 ≤ bs.length) && decide (bs.length / 100 + 1 < bs.count ch)
noncomputable def rubbed (junk : List Nat) (auto : Bool) (bs : List Nat) (ch : Nat) : Bool := junk.contains ch || crowd auto bs ch
theorem rub_mod {junk bs : List Nat} {auto : Bool} {ch : Nat} (h : ch ∈ letters) : rubAct letters (rubbed junk auto bs) ch = modAct junk auto bs ch := by
 have : letters.contains ch = true := by simpa using h
 unfold rubAct rubbed modAct crowd
 rw [this]
 cases junk.contains ch <;> simp
section
variable {c : Cx} {st : St} {Φ : Value → St → Prop} {n : Nat}
theorem EX_locI {c2 : Cx} {T : Stmt} {names : List Str} {vals : List (Option Value)} {x : Str} {pos : Pos} {v : Value} (H : Here T names n c) (he : c2.env = c.env) (e : st.loc = look names vals) (l : Loc names vals x v) (h : Φ v st) : EX c2 (.Name x pos) st Φ :=
 EX_local (by rw [he]; exact H.good.kind) (by rw [he]; exact H.kindOf l.mem) (H.tab.dbg _ l.mem) (by rw [e]; exact l.look H.tab.nodup) h
theorem nodot {as : List Nat} (h : ∀ x ∈ as, x ∈ letters) : ∀ x ∈ as, x ≠ 46 := fun x hx e => by
 have := h x hx
 rw [e] at this
 exact absurd this (by decide)
set_option maxHeartbeats 8000000 in
theorem call_told {as bs junk : List Nat} {auto : Bool} (G : Good c (as.length + 6)) (Bs : Base c.w c.h₀) (za : as.length ≤ 30) (zb : bs.length ≤ 1000) (has : ∀ x ∈ as, x ∈ letters)
  (hΦ : ∀ r hp', st.hp r = none → Keeps st.hp hp' → LT hp' r ((opc 0 0 (joinGo as.length bs.length (0, 0, 0) (allBlocks as bs (modAct junk auto bs) junk))).map enc) → Φ (.ref r) ⟨st.loc, hp'⟩) : CALL c (.ref aTold) [sv as, sv bs, sv junk, .bool auto] st Φ := by
 refine CALL_fn0 (vals := [some (sv as), some (sv bs), some (sv junk), some (.bool auto), none, none, none]) G Bs Bs.fTold tab_told (fun nm q doc pm an code ct us hu => ?_) (by simp) rfl fun c' H => ?_
 ·obtain ⟨a, b, d, e, rfl⟩ := len4 hu; rfl
 ·refine XB_cons ?_
  repeat walk_at "m1"
  refine XB_cut (fun S => ∃ (o6 o7 : Option Value), S.loc = look nTold [some (sv as), some (sv bs), some (sv junk), some (.bool auto), some (sv (dots (rubAct letters (rubbed junk auto bs)) bs)), o6, o7] ∧ Keeps st.hp S.hp) ?_ ?_
  ·refine ABS_cut fun K1 hK1 => ?_
   refine XS_ForStrT H.hand (fun _ _ => rfl) (by kernel_rfl) (fun i S => ∃ (o6 o7 : Option Value), S.loc = look nTold [some (sv as), some (sv bs), some (sv junk), some (.bool auto), some (sv (dots (rubAct (letters.take i) (rubbed junk auto bs)) bs)), o6, o7] ∧ Keeps st.hp S.hp) ⟨none, none, by rw [List.take_zero, rub_nil], Keeps.refl _⟩ ?_ ?_
   ·intro i ch c1 S s' u hch X hJ hs hu hut K hK
    obtain ⟨o6, o7, hJ⟩ := hJ
    refine an2 hJ fun hl hk => ?_
    clear hJ
    have H1 := H.ext X
    clear H
    have hlb : (⟨bs.toArray⟩ : Str).length = bs.length := by simp [Str.length]
    have hlet : letters[i]? = some ch := by
     have e : (("ab \tc" : Str)).cps = letters.toArray := by kernel_rfl
     rw [e] at hch
     simpa using hch
    have hmem : ch ∈ letters := List.mem_of_getElem? hlet
    have htake := take_snoc hlet
    obtain ⟨m, Fx, hm⟩ := hs.fr
    refine wpAny_assign_Name (wpAny_storeName_local (H1.kindOf (x := "letter") (by decide +kernel)) Fx.ns (fun h1 hn1 sb1 => ?_) (by rw [H1.good.kind]; rfl))
    have m1 := hs.setName (tk := s'.toks + 1) Fx hm H1.off hn1 sb1
    rw [St.set_look (x := "letter") (v := z (.str ⟨#[ch]⟩ u)) H1.tab.nodup hl (vals' := [some (sv as), some (sv bs), some (sv junk), some (.bool auto), some (sv (dots (rubAct (letters.take i) (rubbed junk auto bs)) bs)), some (sv [ch]), o7]) (by walk_at "loc")] at m1
    refine wpAny_execs_cons (wpAny_Assign_Name (EX_ice (Φ := fun v st2 => v = .bool (crowd auto bs ch) ∧ st2.hp = S.hp) m1 hn1 ?_ fun v s2 st2 mo hn2 ht2 hv => ?_) ?_)
    ·have hkI := m1.iceKeep
     refine EX_And (EX_locI H1 rfl rfl (by walk_at "loc") (TRU_bool ?_))
     split
     ·rename_i ha
      refine EX_And ?_
      repeat walk_at "m1"
      refine EX_glob0 H1 rfl rfl hkI (by walk_at "loc") (by kernel_rfl) (by kernel_rfl) rfl ?_
      repeat walk_at "m1"
      refine EX_locI H1 rfl rfl (by walk_at "loc") ?_
      repeat walk_at "m1"
      refine CALL_lenS (by simp [Str.length]; lia) ?_
      repeat walk_at "m1"
      rw [hlb]
      split
      ·rename_i h2
       refine EX_And1 ?_
       repeat walk_at "m1"
       refine EX_M ⟨_, rfl⟩ rfl rfl ?_
       refine EX_locI H1 rfl rfl (by walk_at "loc") ?_
       refine METH_str F.slot_str_count rfl ?_
       repeat walk_at "m1"
       refine EX_locI H1 rfl rfl (by walk_at "loc") ?_
       repeat walk_at "m1"
       refine CALL_count ?_
       repeat walk_at "m1"
       refine EX_glob0 H1 rfl rfl hkI (by walk_at "loc") (by kernel_rfl) (by kernel_rfl) rfl ?_
       repeat walk_at "m1"
       refine EX_locI H1 rfl rfl (by walk_at "loc") ?_
       repeat walk_at "m1"
       refine CALL_lenS (by rw [hlb]; lia) ?_
       repeat walk_at "m1"
       refine BIN_div (by decide) (by decide) ?_
       repeat walk_at "m1"
       rw [hlb, show (bs.length : Int).fdiv 100 = ((bs.length / 100 : Nat) : Int) from fdiv_nat bs.length 100]
       refine ⟨?_, rfl⟩
       unfold crowd
       rw [ha, decide_eq_true (by have := of_decide_eq_true h2; lia : 200 ≤ bs.length)]
       congr 1
       simp only [Bool.true_and]
       exact decide_eq_decide.mpr (by lia)
      ·rename_i h2
       refine ⟨?_, rfl⟩
       unfold crowd
       have h3 : ¬ 200 ≤ bs.length := fun q => h2 (decide_eq_true (by lia))
       rw [decide_eq_false (fun q => h2 (decide_eq_true q)), decide_eq_false h3]
       simp
     ·rename_i ha
      replace ha : auto = false := by simpa using ha
      exact ⟨by unfold crowd; rw [ha]; rfl, rfl⟩
    ·obtain ⟨hv1, hv2⟩ := hv
     obtain ⟨_, F2, _⟩ := mo.fr
     have hm1 := setRaw (v := .str ⟨#[ch]⟩ u) (x := "letter") hm H1.tab.nodup hl (vals' := [some (sv as), some (sv bs), some (sv junk), some (.bool auto), some (sv (dots (rubAct (letters.take i) (rubbed junk auto bs)) bs)), some (sv [ch]), o7]) (by walk_at "loc")
     refine wpAny_storeName_local (H1.kindOf (x := "crowd") (by decide +kernel)) hn2 (fun h3 hn3 sb3 => ?_) (by rw [H1.good.kind]; rfl)
     have m3 := mo.setName (tk := s2.toks + 1) ⟨hn2, F2.keep⟩ hm1 H1.off hn3 sb3
     have hm2 := setRaw (v := v) (x := "crowd") hm1 H1.tab.nodup rfl (vals' := [some (sv as), some (sv bs), some (sv junk), some (.bool auto), some (sv (dots (rubAct (letters.take i) (rubbed junk auto bs)) bs)), some (sv [ch]), some (.bool (crowd auto bs ch))]) (by rw [hv1]; walk_at "loc")
     rw [hv1, hv2, St.set_look (x := "crowd") (v := .bool (crowd auto bs ch)) H1.tab.nodup rfl (vals' := [some (sv as), some (sv bs), some (sv junk), some (.bool auto), some (sv (dots (rubAct (letters.take i) (rubbed junk auto bs)) bs)), some (sv [ch]), some (.bool (crowd auto bs ch))]) (by walk_at "loc")] at m3
     have hlt : ((fun y => if y = ("crowd" : Str) then some v else (fun y => if y = ("letter" : Str) then some (Value.str ⟨#[ch]⟩ u) else m y) y) : Str → Option Value) "letter" = some (.str ⟨#[ch]⟩ u) := by
      dsimp only
      rw [if_neg (by decide +kernel), if_pos rfl]
     have ht3 : u < s2.toks + 1 := by
      have : s'.toks + 1 ≤ s2.toks := ht2
      lia
     generalize (fun y => if y = ("crowd" : Str) then some v else (fun y => if y = ("letter" : Str) then some (Value.str ⟨#[ch]⟩ u) else m y) y) = mr at hn3 hm2 hlt
     dsimp only
     obtain ⟨s3, hs3⟩ : ∃ s3 : Shared, { heap := h3, gens := s2.gens, drawn := s2.drawn, toks := s2.toks + 1, os := s2.os } = s3 := ⟨_, rfl⟩
     rw [hs3] at m3
     have hn3' : s3.heap.Ns c1.env.locals mr := by rw [← hs3]; exact hn3
     have ht3' : u < s3.toks := by rw [← hs3]; exact ht3
     rw [hs3]
     clear hs3 hn3 ht3 hn1 hn2 mo m1 sb1 sb3 hm1 F2 Fx hm hs ht2
     refine wpAny_execs_cons (wpAny_If (TS_ice (B := fun b st2 => b = rubbed junk auto bs ch ∧ st2.hp = S.hp) m3 hn3' ?_ fun b s4 st4 mo hn4 ht4 hb => ?_))
     ·have hkI := m3.iceKeep
      refine TS_Or (OR_cons' ?_)
      repeat walk_at "m1"
      refine EX_locI H1 rfl rfl (by walk_at "loc") ?_
      refine EX_locI H1 rfl rfl (by walk_at "loc") ?_
      refine CMP_in1 ?_
      repeat walk_at "m1"
      refine ⟨fun h => ⟨?_, rfl⟩, fun h => ?_⟩
      ·replace h : ch ∈ junk := of_decide_eq_true h
       unfold rubbed
       rw [show junk.contains ch = true by simpa using h]; rfl
      ·replace h : ch ∉ junk := of_decide_eq_false h
       refine OR_cons' (TS_plain rfl (EX_locI H1 rfl rfl (by walk_at "loc") (TRU_bool ?_)))
       have e : rubbed junk auto bs ch = crowd auto bs ch := by
        unfold rubbed
        rw [show junk.contains ch = false by simpa using h]; rfl
       refine ⟨fun q => ⟨by rw [e, q], rfl⟩, fun q => OR_nil ⟨by rw [e, q], rfl⟩⟩
     ·obtain ⟨hb1, hb2⟩ := hb
      rw [hb2] at mo
      have hstep := rub_step (letters.take i) (rubbed junk auto bs) ch bs
      rw [← htake] at hstep
      rw [← hb1] at hstep
      cases b with
      | false =>
       rw [if_neg (by simp)] at hstep
       refine wpAny_execs_nil (wpAny_execs_nil ⟨_, mo, hK _ ?_⟩)
       refine ⟨some (sv [ch]), some (.bool (crowd auto bs ch)), ?_, hk⟩
       rw [← hstep]
      | true =>
       rw [if_pos rfl] at hstep
       have hpz : (dots (rubAct (letters.take i) (rubbed junk auto bs)) bs).length ≤ 1000 := by rw [show (dots (rubAct (letters.take i) (rubbed junk auto bs)) bs).length = bs.length from List.length_map ..]; exact zb
       generalize dots (rubAct (letters.take i) (rubbed junk auto bs)) bs = pls at hstep hpz mo hm2
       refine wpAny_execs_cons (wpAny_Assign_Name (RAW_M ⟨_, rfl⟩ fun pl => ?_) rfl)
       refine EX_ice (Φ := fun v st2 => v = sv pls ∧ st2.hp = S.hp) mo hn4 (EX_locI H1 rfl rfl (by walk_at "loc") ⟨rfl, rfl⟩) fun ov s5 st5 mo5 hn5 ht5 hv5 => ?_
       rw [hv5.2] at mo5
       refine WP_ice (Φ := fun p st2 => z p.1 = .builtin "str.replace" ∧ p.2.map z = [sv pls] ∧ st2.hp = S.hp) mo5 hn5 (METH_str (Ψ := fun f first st' => f = .builtin "str.replace" ∧ first = [sv pls] ∧ st'.hp = S.hp) F.slot_str_replace rfl ?_ ov pl hv5.1) fun fx s6 st6 mo6 hn6 ht6 hv6 => ?_
       ·exact ⟨rfl, rfl, rfl⟩
       obtain ⟨f6, first6⟩ := fx
       obtain ⟨g1, g2, g3⟩ := hv6
       obtain ⟨w6, rfl, g4⟩ := one g2
       rw [g3] at mo6
       replace g1 := z_builtin g1
       dsimp only at g1
       subst g1
       obtain ⟨t6, rfl⟩ := z_str g4
       refine RAW_callWith rfl rfl rfl (wpAny_items_cons (wpAny_Name (wpAny_loadName_local H1.good.kind (H1.kindOf (x := "letter") (by decide +kernel)) hn6 hlt ?_) (H1.tab.dbg "letter" (by decide +kernel))) rfl)
       refine wpAny_items_cons (wpAny_Constant_str (wpAny_items_nil ?_)) rfl
       have hu6 : u < s6.toks := by
        have a1 : s3.toks ≤ s4.toks := ht4
        have a2 : s4.toks ≤ s5.toks := ht5
        have a3 : s5.toks ≤ s6.toks := ht6
        lia
       rw [dotStr]
       refine repl_raw hu hu6 (nodot (as := letters) (fun x hx => hx) ch hmem) hpz fun t' tk => ?_
       obtain ⟨_, F6, _⟩ := mo6.fr
       refine wpAny_storeName_local (H1.kindOf (x := "plain") (by decide +kernel)) hn6 (fun h7 hn7 sb7 => ?_) (by rw [H1.good.kind]; rfl)
       have m7 := mo6.setName (tk := tk + 1) ⟨hn6, F6.keep⟩ hm2 H1.off hn7 sb7
       refine wpAny_execs_nil (wpAny_execs_nil ⟨_, ⟨m7.fr, m7.hp, m7.g, m7.o⟩, hK _ ?_⟩)
       refine ⟨some (sv [ch]), some (.bool (crowd auto bs ch)), ?_, hk⟩
       rw [← hstep]
       exact congrArg St.loc (St.set_look (st := ⟨look nTold [some (sv as), some (sv bs), some (sv junk), some (.bool auto), some (sv pls), some (sv [ch]), some (.bool (crowd auto bs ch))], S.hp⟩) (x := "plain") (v := sv (pls.map fun n => if n = ch then 46 else n)) H1.tab.nodup rfl (by walk_at "loc"))
    ·rfl
   ·intro S hJ
    refine hK1 _ ?_
    obtain ⟨o6, o7, hJ⟩ := hJ
    refine an2 hJ fun hl hk => ?_
    clear hJ
    refine ⟨o6, o7, ?_, hk⟩
    have e : (("ab \tc" : Str)).cps.size = letters.length := by kernel_rfl
    rw [e, List.take_length] at hl
    exact hl
  ·intro S hZ
   obtain ⟨o6, o7, hZ⟩ := hZ
   refine an2 hZ fun hl hk => ?_
   clear hZ
   have hla : (⟨as.toArray⟩ : Str).length = as.length := by simp [Str.length]
   have hlb : (⟨bs.toArray⟩ : Str).length = bs.length := by simp [Str.length]
   repeat walk_at "m1"
   refine CALL_lenS (by rw [hla]; lia) ?_
   rw [hla]
   repeat walk_at "m1"
   refine CALL_lenS (by rw [hlb]; lia) ?_
   rw [hlb]
   repeat walk_at "m1"
   refine ⟨KEEPER_fn H.base.fPairs, ?_⟩
   refine call_pairs (by lia) zb (nodot has) (as.length + 1) (alo := 0) (blo := 0) (Good.less H.good (by lia)) H.base ⟨Nat.zero_le _, Nat.le_refl _, Nat.zero_le _, Nat.le_refl _⟩ (by lia) fun r hp' hr hk' hL => ?_
   repeat walk_at "m1"
   refine CALL_lenS (by rw [hla]; lia) ?_
   rw [hla]
   repeat walk_at "m1"
   refine CALL_lenS (by rw [hlb]; lia) ?_
   rw [hlb]
   repeat walk_at "m1"
   refine ⟨KEEPER_fn H.base.fLCodes, ?_⟩
   have hlen := lawPairs_len as bs (rubAct letters (rubbed junk auto bs)) junk (nodot has) (as.length + 1) 0 as.length 0 bs.length (Nat.zero_le _) (Nat.le_refl _) (Nat.zero_le _) (Nat.le_refl _)
   refine call_lcodes (n := as.length + 4) H.good H.base hL (by lia) fun r2 hp2 hr2 hk2 hL2 => ?_
   repeat walk_at "m1"
   refine hΦ r2 hp2 ((hk.trans hk').none hr2) ((hk.trans hk').trans hk2) ?_
   rw [told_eq as bs _ junk (nodot has), allBlocks_congr (act' := modAct junk auto bs) (fun x hx => rub_mod (has x hx))] at hL2
   exact hL2
end
end Mine
end
section
open PySem PySem.W PyProof.Rows PySem.Calls
namespace Mine
noncomputable def dataC (x : Code5) : PyData := .tuple [.str (wordOf x.1), .int x.2.1, .int x.2.2.1, .int x.2.2.2.1, .int x.2.2.2.2]
theorem noMix_code (x : Code5) : SeqAt.noMix (dataC x) (dataC x) = true := by
 unfold dataC
 simp [SeqAt.noMix, SeqAt.noMixAll]
theorem noMix_codes (l : List Code5) : SeqAt.noMix (.list (l.map dataC)) (.list (l.map dataC)) = true := by
 rw [SeqAt.noMix]
 induction l with
 | nil => simp [SeqAt.noMixAll]
 | cons x r ih => rw [List.map_cons, SeqAt.noMixAll, noMix_code, ih]; rfl
theorem strOk_word : ∀ k, PyData.strOk (wordOf k) = true
 | 0 => by kernel_rfl
 | 1 => by kernel_rfl
 | 2 => by kernel_rfl
 | _ + 3 => by show PyData.strOk "equal" = true; kernel_rfl
theorem canLay_codes (l : List Code5) : PyData.canLayAll0 (l.map dataC) = true := by
 induction l with
 | nil => simp [PyData.canLayAll0]
 | cons x r ih =>
  rw [List.map_cons, PyData.canLayAll0, ih]
  unfold dataC
  simp [PyData.canLay0, PyData.canLayAll0, strOk_word]
theorem depth_codes (l : List Code5) : PyData.depthAll (l.map dataC) ≤ 8 := by
 induction l with
 | nil => simp [PyData.depthAll]
 | cons x r ih =>
  rw [List.map_cons, PyData.depthAll]
  have : (dataC x).depth ≤ 8 := by
   unfold dataC
   simp [PyData.depth, PyData.depthAll]
  lia
theorem shaped_codes (l : List Code5) : SeqAt.shaped (.list (l.map dataC)) = true := by
 unfold SeqAt.shaped
 have h := depth_codes l
 rw [PyData.canLay0, canLay_codes, Bool.true_and, PyData.depth]
 exact decide_eq_true (by lia)
section
variable {c : Cx} {st : St} {Φ : Value → St → Prop} {n : Nat}
theorem READ_codes {r : Addr} {l : List Code5} (h : LT st.hp r (l.map enc)) : READ c st (.ref r) (.list (l.map dataC)) := by
 obtain ⟨as, h1, h2⟩ := h
 have hl := h2.length
 rw [List.length_map] at hl
 refine READ_list h1 (by rw [List.length_map, List.length_map, hl]) fun i v d hv hd => ?_
 rw [List.getElem?_map] at hv hd
 obtain ⟨a, e1, rfl⟩ := Option.map_eq_some_iff.mp hv
 obtain ⟨x, e2, rfl⟩ := Option.map_eq_some_iff.mp hd
 obtain ⟨w, e3, e4⟩ := h2.get e1
 rw [List.getElem?_map, e2] at e3
 cases e3
 refine READ_tup e4 rfl fun j v d hv hd => ?_
 match j, hv, hd with
 | 0, hv, hd => cases hv; cases hd; exact READ_str
 | 1, hv, hd => cases hv; cases hd; exact READ_int
 | 2, hv, hd => cases hv; cases hd; exact READ_int
 | 3, hv, hd => cases hv; cases hd; exact READ_int
 | 4, hv, hd => cases hv; cases hd; exact READ_int
theorem sum_nonneg : ∀ (l : List Int), (∀ n ∈ l, 0 ≤ n ∧ n < 840) → 0 ≤ l.sum
 | [], _ => by simp
 | a :: r, h => by
  have h1 := (h a (.head _)).1
  have h2 := sum_nonneg r fun n hn => h n (.tail _ hn)
  rw [List.sum_cons]; lia
theorem pick4 {a b d e : List Nat} {i : Nat} (h : i < 4) (ha : a.length ≤ 2) (hb : b.length ≤ 2) (hd : d.length ≤ 2) (he : e.length ≤ 2) : ∃ w : List Nat, ([sv a, sv b, sv d, sv e] : List Value)[i]? = some (sv w) ∧ w.length ≤ 2 := by
 match i, h with
 | 0, _ => exact ⟨a, rfl, ha⟩
 | 1, _ => exact ⟨b, rfl, hb⟩
 | 2, _ => exact ⟨d, rfl, hd⟩
 | 3, _ => exact ⟨e, rfl, he⟩
theorem pick5 {a b d e f : List Nat} {i : Nat} (h : i < 5) (ha : a.length ≤ 400) (hb : b.length ≤ 400) (hd : d.length ≤ 400) (he : e.length ≤ 400) (hf : f.length ≤ 400) : ∃ w : List Nat, ([sv a, sv b, sv d, sv e, sv f] : List Value)[i]? = some (sv w) ∧ w.length ≤ 400 := by
 match i, h with
 | 0, _ => exact ⟨a, rfl, ha⟩
 | 1, _ => exact ⟨b, rfl, hb⟩
 | 2, _ => exact ⟨d, rfl, hd⟩
 | 3, _ => exact ⟨e, rfl, he⟩
 | 4, _ => exact ⟨f, rfl, hf⟩
theorem rep_len (k : Nat) (a b : Nat) : ((List.replicate k [a, b]).flatten).length = 2 * k := by
 simp [List.length_flatten]
 lia
theorem catS (x y : List Nat) : (⟨x.toArray⟩ : Str) ++ ⟨y.toArray⟩ = ⟨(x ++ y).toArray⟩ := by
 show (⟨x.toArray ++ y.toArray⟩ : Str) = _
 simp
theorem BIN_catL {x y : List Nat} (hz : x.length + y.length ≤ 1000) (h : Φ (sv (x ++ y)) st) : BIN c .Add (sv x) (sv y) st Φ :=
 BIN_cat (by simp [Str.length]; rw [sizeLine_eq]; lia) (by rw [catS]; exact h)
theorem IOP_catL {x y : List Nat} (hz : x.length + y.length ≤ 1000) (h : Φ (sv (x ++ y)) st) : IOP c .Add (sv x) (sv y) st Φ :=
 IOP_cat (by simp [Str.length]; rw [sizeLine_eq]; lia) (by rw [catS]; exact h)
theorem strE : (Value.str "" 0) = sv [] := by kernel_rfl
theorem strL : (Value.str "ab \tc" 0) = sv [97, 98, 32, 9, 99] := by kernel_rfl
theorem strO : (Value.str "b \tca" 0) = sv [98, 32, 9, 99, 97] := by kernel_rfl
theorem strJ : (Value.str " \t" 0) = sv [32, 9] := by kernel_rfl
theorem strYZ : (Value.str "yz" 0) = sv [121, 122] := by kernel_rfl
theorem strAB : (Value.str "ab" 0) = sv [97, 98] := by kernel_rfl
theorem strC : (Value.str " c" 0) = sv [32, 99] := by kernel_rfl
end
noncomputable abbrev nLaw : List Str := ["script", "kept", "old", "new", "number", "letter", "other", "total", "junk", "auto", "pad", "cut", "turned", "matcher"]
set_option maxHeartbeats 2000000 in
theorem tab_law : Tab (topAt 13) nLaw where
 nodup := by decide +kernel
 loc := by decide +kernel
 dbg := by decide +kernel
 cell := by decide +kernel
 co := by rfl
 gen := by rfl
 kind := by rfl
section
variable {c : Cx} {st : St} {Φ : Value → St → Prop} {n : Nat}
set_option maxHeartbeats 8000000 in
theorem body_law {l : Addr} {ys : List Value} {nn : Nat} {xs : List Int} {hp0 : Addr → Option AObj} {Ψ : AF → St → Prop} (H : Here (topAt 13) nLaw (n + 40) c) (hl : c.h₀.get? l = some ⟨.type "list", none, .seq ys.toArray nn, #[]⟩) (hys : ys.map z = xs.map iv)
  (hΨ : ∀ st', Ψ (.ret (.bool true)) st') : XB c (bodyOf (topAt 13)) ⟨look nLaw [some (.ref l), none, none, none, none, none, none, none, none, none, none, none, none, none], hp0⟩ Ψ := by
 refine XB_cons ?_
 repeat walk_at "m1"
 refine ⟨KEEPER_fn H.base.fKept, ?_⟩
 refine call_keptB (n := n + 39) H.good H.base hl hys fun k ns hp1 hz hb hk0 hk1 hkl => ?_
 walk_at "m1"
 walk_at "m1"
 walk_at "m1"
 refine XS_AssignT rfl (H.swap (by kernel_rfl)) ?_
 repeat walk_at "m1"
 rw [strE]
 refine ⟨Nat.le_of_ble_eq_true rfl, fun t ht => ?_⟩
 have ht' : hp1 t = none := ht
 refine ASG_Tuple2 H.hand rfl rfl rfl (.inl St.put_self) ?_
 refine ASG_loc H rfl (by walk_at "loc") ?_
 refine ASG_loc H rfl (by walk_at "loc") ?_
 refine nextOr_next ?_
 refine XB_gen (fun S => S.loc = look nLaw [some (.ref l), some (.ref k), some (sv []), some (sv []), none, none, none, none, none, none, none, none, none, none] ∧ S.hp k = some (.list (ns.map iv))) ⟨rfl, St.hp_there (St.apart (st := ⟨(fun _ => none), hp1⟩) ht' hkl) hkl⟩ ?_
 clear ht ht' hk0 hk1 hkl hl
 intro S1 hZ
 refine an2 hZ fun hl1 hkl => ?_
 clear hZ
 refine XB_cut (fun S => ∃ (as bs : List Nat), Ex3 fun o4 o5 o6 => S.loc = look nLaw [some (.ref l), some (.ref k), some (sv as), some (sv bs), o4, o5, o6, none, none, none, none, none, none, none] ∧ S.hp k = some (.list (ns.map iv)) ∧ as.length ≤ 8 ∧ bs.length ≤ 16 ∧ ∀ x ∈ as, x ∈ letters) ?_ ?_
 ·refine ABS_cut fun K1 hK1 => ?_
  refine XS_ForList H.hand (fun _ => rfl) ?_
  repeat walk_at "m1"
  refine list_mk k (ns.map iv) (fun t S => ∃ (as bs : List Nat), Ex3 fun o4 o5 o6 => S.loc = look nLaw [some (.ref l), some (.ref k), some (sv as), some (sv bs), o4, o5, o6, none, none, none, none, none, none, none] ∧ as.length ≤ t ∧ bs.length ≤ 2 * t ∧ ∀ x ∈ as, x ∈ letters) rfl hkl ?_ ?_ ?_
  ·exact (exI2 [] [] (Ex3.mk none none none ⟨hl1, Nat.le_refl _, Nat.le_refl _, nofun⟩))
  ·intro t v c1 S hv X hJ
   refine ABS_asg fun K2 hK2 => ?_
   revert hJ; refine ex2i fun as bs hJ => ?_
   refine Ex3.elim hJ fun o4 o5 o6 hJ => ?_
   refine an4 hJ fun hl h1 h2 h3 => ?_
   clear hJ
   have H1 := H.ext X
   clear H
   rw [List.getElem?_map] at hv
   obtain ⟨num, e1, rfl⟩ := Option.map_eq_some_iff.mp hv
   obtain ⟨hn1, hn2⟩ := hb num (List.mem_of_getElem? e1)
   have ht8 : t < 8 := Nat.lt_of_lt_of_le (List.getElem?_eq_some_iff.mp e1).1 hz
   obtain ⟨m, rfl⟩ : ∃ m : Nat, num = (m : Int) := ⟨num.toNat, by lia⟩
   refine ASG_loc H1 hl (by walk_at "loc") ?_
   repeat walk_at "m1"
   refine EX_SubS (fun o i => ⟨_, rfl⟩) ?_
   repeat walk_at "m1"
   refine BIN_mod (by decide) ?_
   rw [strL, show (m : Int).fmod 5 = ((m % 5 : Nat) : Int) from fmod_nat m 5]
   have hm5 : m % 5 < 5 := Nat.mod_lt _ (by lia)
   refine subS_mk letters (m % 5) rfl hm5 (by rw [sizeLine_eq]; exact Nat.le_of_ble_eq_true rfl) ?_
   have hlm : letters[m % 5] ∈ letters := List.getElem_mem _
   generalize letters[m % 5] = le at hlm ⊢
   repeat walk_at "m1"
   refine EX_SubS (fun o i => ⟨_, rfl⟩) ?_
   repeat walk_at "m1"
   refine BIN_mod (by decide) ?_
   rw [strO, show (m : Int).fmod 5 = ((m % 5 : Nat) : Int) from fmod_nat m 5]
   refine subS_mk ([98, 32, 9, 99, 97]) (m % 5) rfl hm5 (by rw [sizeLine_eq]; exact Nat.le_of_ble_eq_true rfl) ?_
   generalize ([98, 32, 9, 99, 97] : List Nat)[m % 5] = ot
   repeat walk_at "m1"
   refine IOP_catL (by simp; lia) ?_
   repeat walk_at "m1"
   refine EX_SubT (fun o i => ⟨_, rfl⟩) ?_
   repeat walk_at "m1"
   refine BIN_catL (by simp) ?_
   repeat walk_at "m1"
   refine ⟨Nat.le_of_ble_eq_true rfl, fun u hu => ?_⟩
   repeat walk_at "m1"
   refine BIN_div (by decide) (by decide) ?_
   repeat walk_at "m1"
   refine BIN_mod (by decide) ?_
   rw [strE, show (m : Int).fdiv 5 = ((m / 5 : Nat) : Int) from fdiv_nat m 5, show ((m / 5 : Nat) : Int).fmod 4 = ((m / 5 % 4 : Nat) : Int) from fmod_nat (m / 5) 4]
   obtain ⟨w, hw1, hw2⟩ := pick4 (a := [le]) (b := []) (d := [ot]) (e := [ot] ++ [le]) (i := m / 5 % 4) (Nat.mod_lt _ (by lia)) (by simp) (by simp) (by simp) (by simp)
   refine subT_mk (m / 5 % 4) St.put_self rfl hw1 (by rw [sizeLine_eq]; exact Nat.le_of_ble_eq_true rfl) ?_
   repeat walk_at "m1"
   refine IOP_catL (by lia) ?_
   repeat walk_at "m1"
   refine hK2 _ (exI2 (as ++ [le]) (bs ++ w) (Ex3.mk _ _ _ ⟨rfl, by simp; lia, by simp; lia, fun x hx => ?_⟩))
   rcases List.mem_append.mp hx with hx | hx
   ·exact h3 x hx
   ·rw [List.mem_singleton.mp hx]; exact hlm
  ·intro S hJ hnk
   refine hK1 _ ?_
   revert hJ; refine ex2i fun as bs hJ => ?_
   refine Ex3.elim hJ fun o4 o5 o6 hJ => ?_
   refine an4 hJ fun hl h1 h2 h3 => ?_
   clear hJ
   rw [List.length_map] at h1 h2
   exact (exI2 as bs (Ex3.mk o4 o5 o6 ⟨hl, St.put_self, by lia, by lia, h3⟩))
 ·intro S2 hJ
  revert hJ; refine ex2i fun as bs hJ => ?_
  refine Ex3.elim hJ fun o4 o5 o6 hJ => ?_
  refine an5 hJ fun hl2 hk2 za zb has => ?_
  clear hJ
  repeat walk_at "m1"
  refine CALL_sum (by exact H.hand) hk2 (fun a ha => ⟨(hb a ha).1, by have := (hb a ha).2; lia⟩) (by lia) ?_
  obtain ⟨tot, htot⟩ : ∃ tot : Nat, ns.sum = (tot : Int) := ⟨ns.sum.toNat, by have := sum_nonneg ns hb; lia⟩
  rw [htot]
  walk_at "m1"
  refine nextOr_next ?_
  refine XB_cut (fun S => ∃ junk : List Nat, S.loc = look nLaw [some (.ref l), some (.ref k), some (sv as), some (sv bs), o4, o5, o6, some (iv tot), some (sv junk), none, none, none, none, none] ∧ (junk = [] ∨ junk = [32, 9])) ?_ ?_
  ·refine ABS_cut fun K3 hK3 => ?_
   repeat walk_at "m1"
   refine EX_IfExp' ?_
   refine TS_plain rfl ?_
   repeat walk_at "m1"
   refine BIN_mod (by decide) ?_
   repeat walk_at "m1"
   refine ⟨fun _ => ?_, fun _ => ?_⟩
   ·repeat walk_at "m1"
    rw [strJ]
    exact hK3 _ ⟨_, rfl, .inr rfl⟩
   ·repeat walk_at "m1"
    rw [strE]
    exact hK3 _ ⟨_, rfl, .inl rfl⟩
  intro S3 hZ
  obtain ⟨junk, hZ⟩ := hZ
  refine an2 hZ fun hl3 hj => ?_
  clear hZ
  refine XB_cut (fun S => ∃ auto : Bool, S.loc = look nLaw [some (.ref l), some (.ref k), some (sv as), some (sv bs), o4, o5, o6, some (iv tot), some (sv junk), some (.bool auto), none, none, none, none]) ?_ ?_
  ·refine ABS_cut fun K4 hK4 => ?_
   repeat walk_at "m1"
   refine BIN_div (by decide) (by decide) ?_
   repeat walk_at "m1"
   refine BIN_mod (by decide) ?_
   repeat walk_at "m1"
   exact hK4 _ ⟨_, rfl⟩
  rintro S4 ⟨auto, hl4⟩
  refine XB_cut (fun S => ∃ pad : List Nat, S.loc = look nLaw [some (.ref l), some (.ref k), some (sv as), some (sv bs), o4, o5, o6, some (iv tot), some (sv junk), some (.bool auto), some (sv pad), none, none, none] ∧ pad.length ≤ 400) ?_ ?_
  ·refine ABS_cut fun K5 hK5 => ?_
   repeat walk_at "m1"
   refine EX_SubT (fun o i => ⟨_, rfl⟩) ?_
   repeat walk_at "m1"
   rw [strYZ]
   refine BIN_mulS (by lia) (by lia) (by simp) (by simp) ?_
   repeat walk_at "m1"
   rw [strYZ]
   refine BIN_mulS (by lia) (by lia) (by simp) (by simp) ?_
   repeat walk_at "m1"
   rw [strAB]
   refine BIN_mulS (by lia) (by lia) (by simp) (by simp) ?_
   repeat walk_at "m1"
   rw [strC]
   refine BIN_mulS (by lia) (by lia) (by simp) (by simp) ?_
   repeat walk_at "m1"
   refine ⟨Nat.le_of_ble_eq_true rfl, fun u hu => ?_⟩
   repeat walk_at "m1"
   refine BIN_div (by decide) (by decide) ?_
   rw [strE, show (tot : Int).fdiv 12 = ((tot / 12 : Nat) : Int) from fdiv_nat tot 12]
   generalize tot / 12 = q12
   obtain ⟨p5, hp5⟩ : ∃ p5 : Nat → List Nat, ∀ i, i < 5 → ([sv [], sv (List.replicate (95 : Int).toNat [121, 122]).flatten, sv (List.replicate (145 : Int).toNat [121, 122]).flatten, sv (List.replicate (100 : Int).toNat [97, 98]).flatten, sv (List.replicate (100 : Int).toNat [32, 99]).flatten] : List Value)[i]? = some (sv (p5 i)) ∧ (p5 i).length ≤ 400 := by
    refine ⟨fun i => if h : i < 5 then Classical.choose (pick5 (a := []) (b := (List.replicate (95 : Int).toNat [121, 122]).flatten) (d := (List.replicate (145 : Int).toNat [121, 122]).flatten) (e := (List.replicate (100 : Int).toNat [97, 98]).flatten) (f := (List.replicate (100 : Int).toNat [32, 99]).flatten) h (by simp) (by rw [rep_len]; decide) (by rw [rep_len]; decide) (by rw [rep_len]; decide) (by rw [rep_len]; decide)) else [], fun i h => ?_⟩
    dsimp only
    rw [dif_pos h]
    exact Classical.choose_spec (pick5 (a := []) (b := (List.replicate (95 : Int).toNat [121, 122]).flatten) (d := (List.replicate (145 : Int).toNat [121, 122]).flatten) (e := (List.replicate (100 : Int).toNat [97, 98]).flatten) (f := (List.replicate (100 : Int).toNat [32, 99]).flatten) h (by simp) (by rw [rep_len]; decide) (by rw [rep_len]; decide) (by rw [rep_len]; decide) (by rw [rep_len]; decide))
   refine EX_IfExp' ?_
   refine TS_name H hl4 (by walk_at "loc") ?_
   repeat walk_at "m1"
   refine ⟨fun _ => ?_, fun _ => ?_⟩
   ·repeat walk_at "m1"
    refine BIN_mod (by decide) ?_
    rw [show (q12 : Int).fmod 5 = ((q12 % 5 : Nat) : Int) from fmod_nat q12 5]
    obtain ⟨e1, e2⟩ := hp5 (q12 % 5) (Nat.mod_lt _ (by lia))
    refine subT_mk (q12 % 5) St.put_self rfl e1 (by rw [sizeLine_eq]; exact Nat.le_of_ble_eq_true rfl) ?_
    refine ⟨_, _, hl4, by walk_at "loc", ?_⟩
    exact hK5 _ ⟨_, rfl, e2⟩
   ·repeat walk_at "m1"
    refine BIN_mod (by decide) ?_
    rw [show (q12 : Int).fmod 3 = ((q12 % 3 : Nat) : Int) from fmod_nat q12 3]
    obtain ⟨e1, e2⟩ := hp5 (q12 % 3) (by have := Nat.mod_lt q12 (show 3 > 0 by lia); lia)
    refine subT_mk (q12 % 3) St.put_self rfl e1 (by rw [sizeLine_eq]; exact Nat.le_of_ble_eq_true rfl) ?_
    refine ⟨_, _, hl4, by walk_at "loc", ?_⟩
    exact hK5 _ ⟨_, rfl, e2⟩
  intro S5 hZ
  obtain ⟨pad, hZ⟩ := hZ
  refine an2 hZ fun hl5 hpz => ?_
  clear hZ
  have hlb : (⟨bs.toArray⟩ : Str).length = bs.length := by simp [Str.length]
  repeat walk_at "m1"
  refine BIN_div (by decide) (by decide) ?_
  repeat walk_at "m1"
  refine CALL_lenS (by rw [hlb]; lia) ?_
  repeat walk_at "m1"
  rw [hlb]
  refine BIN_mod (by lia) ?_
  rw [show (tot : Int).fdiv 4 = ((tot / 4 : Nat) : Int) from fdiv_nat tot 4, show ((tot / 4 : Nat) : Int).fmod ((bs.length : Int) + 1) = ((tot / 4 % (bs.length + 1) : Nat) : Int) from fmod_nat (tot / 4) (bs.length + 1)]
  have hcut : tot / 4 % (bs.length + 1) ≤ bs.length := by have := Nat.mod_lt (tot / 4) (show bs.length + 1 > 0 by lia); lia
  generalize tot / 4 % (bs.length + 1) = cut at hcut ⊢
  repeat walk_at "m1"
  refine EX_SliceS ?_
  repeat walk_at "m1"
  refine PART_none ?_
  refine PART_some ?_
  repeat walk_at "m1"
  refine slice_mk 0 cut (by rw [sizeLine_eq]; lia) (.inl ⟨rfl, rfl⟩) (.inr rfl) (Nat.zero_le _) hcut ?_
  repeat walk_at "m1"
  refine BIN_catL (by simp; lia) ?_
  repeat walk_at "m1"
  refine EX_SliceS ?_
  repeat walk_at "m1"
  refine PART_some ?_
  repeat walk_at "m1"
  refine PART_none ?_
  refine slice_mk cut bs.length (by rw [sizeLine_eq]; lia) (.inr rfl) (.inl ⟨rfl, rfl⟩) hcut (Nat.le_refl _) ?_
  refine BIN_catL (by simp; lia) ?_
  have hnz : ((bs.drop 0).take (cut - 0) ++ pad ++ (bs.drop cut).take (bs.length - cut)).length ≤ 1000 := by simp; lia
  generalize (bs.drop 0).take (cut - 0) ++ pad ++ (bs.drop cut).take (bs.length - cut) = nw at hnz ⊢
  repeat walk_at "m1"
  refine EX_RevS ?_
  repeat walk_at "m1"
  refine ⟨as, rfl, by rw [sizeLine_eq]; lia, rfl, ?_⟩
  repeat walk_at "m1"
  obtain ⟨J, hJ⟩ : ∃ J : Value, (J = .none ∧ junk = []) ∨ (J = .ref aJunk ∧ junk = [32, 9]) := by
   rcases hj with h | h
   ·exact ⟨.none, .inl ⟨rfl, h⟩⟩
   ·exact ⟨.ref aJunk, .inr ⟨rfl, h⟩⟩
  have hjl : (⟨junk.toArray⟩ : Str).length = junk.length := by simp [Str.length]
  refine EX_val J (EX_IfExp' ?_) ?_
  ·refine TS_name H rfl (by walk_at "loc") (TRU_str (by rw [hjl]; rcases hj with rfl | rfl <;> simp) ?_)
   rw [hjl]
   rcases hJ with ⟨rfl, rfl⟩ | ⟨rfl, rfl⟩
   ·refine ⟨fun q => absurd q (by decide), fun _ => ?_⟩
    repeat walk_at "m1"
    exact ⟨rfl, rfl⟩
   ·refine ⟨fun _ => ?_, fun q => absurd q (by decide)⟩
    repeat walk_at "m1"
    exact ⟨rfl, rfl⟩
  repeat walk_at "m1"
  refine CALL_listS H.hand (by rw [sizeLine_eq]; lia) fun la hla => ?_
  repeat walk_at "m1"
  refine CALL_listS H.hand (by rw [sizeLine_eq]; lia) fun lb hlb => ?_
  repeat walk_at "m1"
  refine ⟨KEEPER_cls H.base (.inr rfl), ?_⟩
  have hlalb : la ≠ lb := St.apart hlb St.put_self
  refine call_SM (n := n + 33) (la := la) (lb := lb) (bs := nw) (junk := junk) H.good H.base (St.hp_there hlalb St.put_self) St.put_self hnz hJ fun x dx d jd pd hp2 hx hdx hk hM hT => ?_
  have hla2 : hp2 la = some (.list (sL as)) := hk _ _ (St.hp_there hlalb St.put_self)
  walk_at "m1"
  refine nextOr_next ?_
  refine XB_gen (fun S => S.loc = look nLaw [some (.ref l), some (.ref k), some (sv as), some (sv nw), o4, o5, o6, some (iv tot), some (sv junk), some (.bool auto), some (sv pad), some (iv cut), some (sv as.reverse), some (.ref x)] ∧ SM S.hp x dx (mvals J la lb auto .none .none d jd pd) ∧ S.hp la = some (.list (sL as)) ∧ Tabs S.hp lb d jd nw junk (modAct junk auto nw)) ⟨rfl, hM, hla2, hT⟩ ?_
  clear hM hT hla2 hk hx hdx hlalb hla hlb
  intro S6 hZ
  refine an4 hZ fun hl6 hM6 hla6 hT6 => ?_
  clear hZ
  have hun : c.A.units + 64 < cLine := by have := H.good.units; lia
  have har : ∀ x ∈ as.reverse, x ∈ letters := fun x hx => has x (List.mem_reverse.mp hx)
  have zar : as.reverse.length = as.length := List.length_reverse
  refine XB_cons ?_
  refine XS_If' ?_
  repeat walk_at "m1"
  refine EX_selfM0 H hl6 (by walk_at "loc") hM6 (by walk_at "loc") H.base.fCodes ⟨_, rfl⟩ ?_
  refine call_opcodes (n := n + 34) H.good H.base hM6 hla6 hT6 (by lia) hnz fun r1 mb1 hp7 hr1 hk7 hM7 hL7 => ?_
  repeat walk_at "m1"
  refine ⟨KEEPER_fn H.base.fTold, ?_⟩
  refine call_told (Good.less H.good (by lia)) H.base (by lia) hnz has fun r2 hp8 hr2 hk8 hL8 => ?_
  refine CMP_neD hun (READ_codes (hL7.keeps hk8)) (READ_codes hL8) (shaped_codes _) (shaped_codes _) (noMix_codes _) ?_
  rw [PySem.Spec.same_self]
  repeat walk_at "m1"
  refine ⟨fun q => absurd q (by decide), fun _ => ?_⟩
  repeat walk_at "m1"
  have hM8 := hM7.keeps hk8
  have hlad : la ≠ dx := ne_hp hla6 hM6.d rfl
  have hla8 : hp8 la = some (.list (sL as)) := hk8 _ _ (hk7 _ _ hlad hla6)
  have hT8 : Tabs hp8 lb d jd nw junk (modAct junk auto nw) := (hT6.keepsD hM6.d hk7).keeps hk8
  refine XS_E H rfl ?_
  refine EX_selfM H hl6 (by walk_at "loc") hM8 (by walk_at "loc") H.base.fSeq1 ⟨_, rfl⟩ rfl rfl ?_
  repeat walk_at "m1"
  refine CALL_listS H.hand (by rw [sizeLine_eq]; lia) fun la2 hla2 => ?_
  have hla2' : hp8 la2 = none := hla2
  have hne2 : la2 ≠ la := ne_hp hla2' hla8 rfl
  have k9 : Keeps hp8 (St.put ⟨S6.loc, hp8⟩ la2 (.list (sL as.reverse))).hp := (Keeps.refl hp8).put (st := ⟨S6.loc, hp8⟩) hla2'
  repeat walk_at "m1"
  refine call_seq1 (n := n + 39) H.good H.base (hM8.keeps k9) St.put_self (.inr ⟨la, _, rfl, hne2, k9 _ _ hla8⟩) fun hp10 hk10 hM10 => ?_
  walk_at "m1"
  have hla10 : hp10 la2 = some (.list (sL as.reverse)) := hk10 _ _ (ne_hp hla2' hM8.d rfl) St.put_self
  have hT10 : Tabs hp10 lb d jd nw junk (modAct junk auto nw) := (hT8.keeps k9).keepsD (hM8.keeps k9).d hk10
  refine XB_gen (fun S => S.loc = look nLaw [some (.ref l), some (.ref k), some (sv as), some (sv nw), o4, o5, o6, some (iv tot), some (sv junk), some (.bool auto), some (sv pad), some (iv cut), some (sv as.reverse), some (.ref x)] ∧ SM S.hp x dx (mvals J la2 lb auto .none .none d jd pd) ∧ S.hp la2 = some (.list (sL as.reverse)) ∧ Tabs S.hp lb d jd nw junk (modAct junk auto nw)) ⟨hl6, hM10, hla10, hT10⟩ ?_
  clear hT10 hla10 hM10 hk10 k9 hla2' hla2 hne2 hM8 hla8 hT8 hL8 hL7 hM7 hk8 hk7 hr1 hr2 hM6 hla6 hT6 hl6 hlad
  intro S6 hZ
  refine an4 hZ fun hl6 hM6 hla6 hT6 => ?_
  clear hZ
  refine XB_cons ?_
  refine XS_If' ?_
  repeat walk_at "m1"
  refine EX_selfM0 H hl6 (by walk_at "loc") hM6 (by walk_at "loc") H.base.fCodes ⟨_, rfl⟩ ?_
  refine call_opcodes (n := n + 34) H.good H.base hM6 hla6 hT6 (by lia) hnz fun r1 mb1 hp7 hr1 hk7 hM7 hL7 => ?_
  repeat walk_at "m1"
  refine ⟨KEEPER_fn H.base.fTold, ?_⟩
  refine call_told (Good.less H.good (by lia)) H.base (by lia) hnz har fun r2 hp8 hr2 hk8 hL8 => ?_
  refine CMP_neD hun (READ_codes (hL7.keeps hk8)) (READ_codes hL8) (shaped_codes _) (shaped_codes _) (noMix_codes _) ?_
  rw [PySem.Spec.same_self]
  repeat walk_at "m1"
  refine ⟨fun q => absurd q (by decide), fun _ => ?_⟩
  repeat walk_at "m1"
  have hM8 := hM7.keeps hk8
  have hlad : la2 ≠ dx := ne_hp hla6 hM6.d rfl
  have hla8 : hp8 la2 = some (.list (sL as.reverse)) := hk8 _ _ (hk7 _ _ hlad hla6)
  have hT8 : Tabs hp8 lb d jd nw junk (modAct junk auto nw) := (hT6.keepsD hM6.d hk7).keeps hk8
  refine XS_E H rfl ?_
  refine EX_selfM H hl6 (by walk_at "loc") hM8 (by walk_at "loc") H.base.fSeq2 ⟨_, rfl⟩ rfl rfl ?_
  repeat walk_at "m1"
  refine CALL_listS H.hand (by rw [sizeLine_eq]; lia) fun lb2 hlb2 => ?_
  have hlb2' : hp8 lb2 = none := hlb2
  have hne2 : lb2 ≠ lb := ne_hp hlb2' hT8.lb rfl
  have k9 : Keeps hp8 (St.put ⟨S6.loc, hp8⟩ lb2 (.list (sL as))).hp := (Keeps.refl hp8).put (st := ⟨S6.loc, hp8⟩) hlb2'
  repeat walk_at "m1"
  refine call_seq2 (n := n + 36) (la := la2) (bs := as) (junk := junk) H.good H.base (hM8.keeps k9) St.put_self (.inr ⟨lb, _, rfl, hne2, k9 _ _ hT8.lb⟩) (by lia) hJ fun d3 jd3 pd3 hp10 hk10 hM10 hT10 => ?_
  walk_at "m1"
  have hla10 : hp10 la2 = some (.list (sL as.reverse)) := hk10 _ _ hlad (k9 _ _ hla8)
  refine XB_gen (fun S => S.loc = look nLaw [some (.ref l), some (.ref k), some (sv as), some (sv nw), o4, o5, o6, some (iv tot), some (sv junk), some (.bool auto), some (sv pad), some (iv cut), some (sv as.reverse), some (.ref x)] ∧ SM S.hp x dx (mvals J la2 lb2 auto .none .none d3 jd3 pd3) ∧ S.hp la2 = some (.list (sL as.reverse)) ∧ Tabs S.hp lb2 d3 jd3 as junk (modAct junk auto as)) ⟨hl6, hM10, hla10, hT10⟩ ?_
  clear hT10 hla10 hM10 hk10 k9 hlb2' hlb2 hne2 hM8 hla8 hT8 hL8 hL7 hM7 hk8 hk7 hr1 hr2 hM6 hla6 hT6 hl6 hlad
  intro S6 hZ
  refine an4 hZ fun hl6 hM6 hla6 hT6 => ?_
  clear hZ
  repeat walk_at "m1"
  refine EX_selfM0 H hl6 (by walk_at "loc") hM6 (by walk_at "loc") H.base.fCodes ⟨_, rfl⟩ ?_
  refine call_opcodes (n := n + 34) H.good H.base hM6 hla6 hT6 (by lia) (by lia) fun r1 mb1 hp7 hr1 hk7 hM7 hL7 => ?_
  repeat walk_at "m1"
  refine ⟨KEEPER_fn H.base.fTold, ?_⟩
  refine call_told (Good.less H.good (by lia)) H.base (by lia) (by lia) har fun r2 hp8 hr2 hk8 hL8 => ?_
  refine CMP_eqD hun (READ_codes (hL7.keeps hk8)) (READ_codes hL8) (shaped_codes _) (shaped_codes _) (noMix_codes _) ?_
  rw [PySem.Spec.same_self]
  repeat walk_at "m1"
  exact hΨ _
end
end Mine
end
end
section
open PySem PySem.W PyProof.Rows PySem.Calls
namespace Mine
noncomputable def docStr (s : Stmt) : Str := (docOf (bodyOf s)).getD default
theorem docs_step {s : Str} {t : String} {l : List Char} (h : s = Str.ofString t) (e : t = String.ofList l) : s = ⟨(l.map Char.toNat).toArray⟩ := by
 rw [h, e]; exact PySem.W.Fast.ofString_ofList l
set_option maxHeartbeats 4000000 in
noncomputable def docL : { l : List Char // docStr (topAt 5) = ⟨(l.map Char.toNat).toArray⟩ } :=
 ⟨_, docs_step (t := _) (l := _) (Eq.refl (Str.ofString _)) (Eq.refl (String.ofList _))⟩
noncomputable def docF : Str := ⟨(docL.1.map Char.toNat).toArray⟩
noncomputable def setDoc : Stmt → Str → Stmt
 | .ClassDef n a k (.Expr (.Constant (.str _) p q) r :: b) c d e f g h i, s => .ClassDef n a k (.Expr (.Constant (.str s) p q) r :: b) c d e f g h i
 | x, _ => x
theorem top5 : topAt 5 = setDoc (topAt 5) docF := by
 rw [show docF = docStr (topAt 5) from docL.2.symm]
 kernel_rfl
noncomputable abbrev opre_11 (P : Params) : Obj := ⟨.type "tuple", none, .seq #[] 0, #[]⟩
noncomputable abbrev opre_12 (P : Params) : Obj := ⟨.none, none, .fields #[], #[]⟩
noncomputable abbrev opre_13 (P : Params) : Obj := ⟨.type "code", none, .fields #[.str "<module>" 182, .str "<module>" 183, .str "/claim/cut.py" 184, .int 1 0, .int 0 0, .int 0 0, .int 0 0, .int 0 0, .ref 11, .bool false, .int 181 0, .ref 12, .none, .none, .none, .none, .int 185 0, .int 1 0, .str "/claim/cut.py" 186], #[]⟩
noncomputable abbrev opre_14 (P : Params) : Obj := ⟨.type "frame", none, .plain, #[some (.ref 13), some (.ref 3), some (.ref 3), none, some (.str "__main__" 164), none, some (.ref 0)]⟩
noncomputable def t_pre (P : Params) : BT := .node (boot_o_0 P) (.node (boot_o_1 P) (.node (boot_o_3 P) (.node (boot_o_7 P) (.nil) (.nil)) (.node (opre_11 P) (.nil) (.nil))) (.node (boot_o_5 P) (.node (boot_o_9 P) (.nil) (.nil)) (.node (opre_13 P) (.nil) (.nil)))) (.node (boot_o_2 P) (.node (boot_o_4 P) (.node (boot_o_8 P) (.nil) (.nil)) (.node (opre_12 P) (.nil) (.nil))) (.node (boot_o_6 P) (.node (boot_o_10 P) (.nil) (.nil)) (.node (opre_14 P) (.nil) (.nil))))
noncomputable abbrev op0_3 (P : Params) : Obj := ⟨.type "dict", none, .dict #[⟨PyData.keyHash P "__name__", .str "__name__" 165, .str "__main__" 164⟩, ⟨PyData.keyHash P "__doc__", .str "__doc__" 166, .none⟩, ⟨PyData.keyHash P "__package__", .str "__package__" 167, .none⟩, ⟨PyData.keyHash P "__loader__", .str "__loader__" 168, .builtin "__main__.__loader__#opaque"⟩, ⟨PyData.keyHash P "__spec__", .str "__spec__" 169, .none⟩, ⟨PyData.keyHash P "__annotations__", .str "__annotations__" 170, .ref 6⟩, ⟨PyData.keyHash P "__builtins__", .str "__builtins__" 171, .ref 4⟩, ⟨PyData.keyHash P "__file__", .str "__file__" 173, .str "/claim/cut.py" 172⟩, ⟨PyData.keyHash P "__cached__", .str "__cached__" 174, .none⟩, ⟨PyData.keyHash P "_wall", .str "_wall" 193, .ref 21⟩] 10, #[]⟩
noncomputable abbrev op0_12 (P : Params) : Obj := ⟨.none, none, .fields #[.int 1 0, .int 0 0, .ref 20], #[]⟩
noncomputable abbrev op0_15 (P : Params) : Obj := ⟨.type "tuple", none, .seq #[] 0, #[]⟩
noncomputable abbrev op0_16 (P : Params) : Obj := ⟨.none, none, .fields #[], #[]⟩
noncomputable abbrev op0_17 (P : Params) : Obj := ⟨.type "tuple", none, .seq #[.str "k" 190] 0, #[]⟩
noncomputable abbrev op0_18 (P : Params) : Obj := ⟨.type "tuple", none, .seq #[] 0, #[]⟩
noncomputable abbrev op0_19 (P : Params) : Obj := ⟨.none, none, .func ⟨"_wall", "_wall", paramsOf (topAt 0), .stmts (bodyOf (topAt 0)), scopeOf (topAt 0), 0, [], .none, .none, .none, .none, none, .none, .none, 0⟩, #[]⟩
noncomputable abbrev op0_20 (P : Params) : Obj := ⟨.type "code", none, .fields #[.str "_wall" 187, .str "_wall" 188, .str "/claim/cut.py" 189, .int 1 0, .int 1 0, .int 0 0, .int 0 0, .int 3 0, .ref 15, .bool true, .int 181 0, .ref 16, .none, .ref 17, .ref 18, .ref 19, .int 191 0, .int 1 0, .str "/claim/cut.py" 192], #[]⟩
noncomputable abbrev op0_21 (P : Params) : Obj := ⟨.type "function", none, .func ⟨"_wall", "_wall", paramsOf (topAt 0), .stmts (bodyOf (topAt 0)), scopeOf (topAt 0), 3, [], .none, .none, .none, .str "__main__" 164, none, .ref 20, .none, 0⟩, #[]⟩
noncomputable def t_p0 (P : Params) : BT := .node (boot_o_0 P) (.node (boot_o_1 P) (.node (op0_3 P) (.node (boot_o_7 P) (.node (op0_15 P) (.nil) (.nil)) (.nil)) (.node (opre_11 P) (.node (op0_19 P) (.nil) (.nil)) (.nil))) (.node (boot_o_5 P) (.node (boot_o_9 P) (.node (op0_17 P) (.nil) (.nil)) (.nil)) (.node (opre_13 P) (.node (op0_21 P) (.nil) (.nil)) (.nil)))) (.node (boot_o_2 P) (.node (boot_o_4 P) (.node (boot_o_8 P) (.node (op0_16 P) (.nil) (.nil)) (.nil)) (.node (op0_12 P) (.node (op0_20 P) (.nil) (.nil)) (.nil))) (.node (boot_o_6 P) (.node (boot_o_10 P) (.node (op0_18 P) (.nil) (.nil)) (.nil)) (.node (opre_14 P) (.nil) (.nil))))
noncomputable abbrev op1_3 (P : Params) : Obj := ⟨.type "dict", none, .dict #[⟨PyData.keyHash P "__name__", .str "__name__" 165, .str "cpy313.difflib" 194⟩, ⟨PyData.keyHash P "__doc__", .str "__doc__" 166, .none⟩, ⟨PyData.keyHash P "__package__", .str "__package__" 167, .none⟩, ⟨PyData.keyHash P "__loader__", .str "__loader__" 168, .builtin "__main__.__loader__#opaque"⟩, ⟨PyData.keyHash P "__spec__", .str "__spec__" 169, .none⟩, ⟨PyData.keyHash P "__annotations__", .str "__annotations__" 170, .ref 6⟩, ⟨PyData.keyHash P "__builtins__", .str "__builtins__" 171, .ref 4⟩, ⟨PyData.keyHash P "__file__", .str "__file__" 173, .str "/claim/cut.py" 172⟩, ⟨PyData.keyHash P "__cached__", .str "__cached__" 174, .none⟩, ⟨PyData.keyHash P "_wall", .str "_wall" 193, .ref 21⟩] 10, #[]⟩
noncomputable def t_p1 (P : Params) : BT := .node (boot_o_0 P) (.node (boot_o_1 P) (.node (op1_3 P) (.node (boot_o_7 P) (.node (op0_15 P) (.nil) (.nil)) (.nil)) (.node (opre_11 P) (.node (op0_19 P) (.nil) (.nil)) (.nil))) (.node (boot_o_5 P) (.node (boot_o_9 P) (.node (op0_17 P) (.nil) (.nil)) (.nil)) (.node (opre_13 P) (.node (op0_21 P) (.nil) (.nil)) (.nil)))) (.node (boot_o_2 P) (.node (boot_o_4 P) (.node (boot_o_8 P) (.node (op0_16 P) (.nil) (.nil)) (.nil)) (.node (op0_12 P) (.node (op0_20 P) (.nil) (.nil)) (.nil))) (.node (boot_o_6 P) (.node (boot_o_10 P) (.node (op0_18 P) (.nil) (.nil)) (.nil)) (.node (opre_14 P) (.nil) (.nil))))
noncomputable abbrev op2_3 (P : Params) : Obj := ⟨.type "dict", none, .dict #[⟨PyData.keyHash P "__name__", .str "__name__" 165, .str "cpy313.difflib" 194⟩, ⟨PyData.keyHash P "__doc__", .str "__doc__" 166, .none⟩, ⟨PyData.keyHash P "__package__", .str "__package__" 167, .none⟩, ⟨PyData.keyHash P "__loader__", .str "__loader__" 168, .builtin "__main__.__loader__#opaque"⟩, ⟨PyData.keyHash P "__spec__", .str "__spec__" 169, .none⟩, ⟨PyData.keyHash P "__annotations__", .str "__annotations__" 170, .ref 6⟩, ⟨PyData.keyHash P "__builtins__", .str "__builtins__" 171, .ref 4⟩, ⟨PyData.keyHash P "__file__", .str "__file__" 173, .str "/claim/cut.py" 172⟩, ⟨PyData.keyHash P "__cached__", .str "__cached__" 174, .none⟩, ⟨PyData.keyHash P "_wall", .str "_wall" 193, .ref 21⟩, ⟨PyData.keyHash P "_tuplegetter", .str "_tuplegetter" 252, .ref 60⟩] 11, #[]⟩
noncomputable abbrev op2_12 (P : Params) : Obj := ⟨.none, none, .fields #[.int 1 0, .int 0 0, .ref 20, .int 5 0, .int 0 0, .ref 27], #[]⟩
noncomputable abbrev op2_22 (P : Params) : Obj := ⟨.type "tuple", none, .seq #[] 0, #[]⟩
noncomputable abbrev op2_23 (P : Params) : Obj := ⟨.type "builtin_function_or_method", none, .fields #[.builtin "type.__prepare__", .type "type"], #[]⟩
noncomputable abbrev op2_24 (P : Params) : Obj := ⟨.type "dict", none, .dict #[⟨PyData.keyHash P "__module__", .str "__module__" 203, .str "cpy313.difflib" 194⟩, ⟨PyData.keyHash P "__qualname__", .str "__qualname__" 205, .str "_tuplegetter" 204⟩, ⟨PyData.keyHash P "__firstlineno__", .str "__firstlineno__" 207, .int 5 206⟩, ⟨PyData.keyHash P "__init__", .str "__init__" 216, .ref 35⟩, ⟨PyData.keyHash P "__get__", .str "__get__" 225, .ref 43⟩, ⟨PyData.keyHash P "__set__", .str "__set__" 234, .ref 50⟩, ⟨PyData.keyHash P "__delete__", .str "__delete__" 242, .ref 57⟩, ⟨PyData.keyHash P "__static_attributes__", .str "__static_attributes__" 245, .ref 58⟩] 8, #[]⟩
noncomputable abbrev op2_25 (P : Params) : Obj := ⟨.type "tuple", none, .seq #[] 0, #[]⟩
noncomputable abbrev op2_26 (P : Params) : Obj := ⟨.none, none, .fields #[.int 7 0, .int 4 0, .ref 34, .int 11 0, .int 4 0, .ref 42, .int 18 0, .int 4 0, .ref 49, .int 21 0, .int 4 0, .ref 56], #[]⟩
noncomputable abbrev op2_27 (P : Params) : Obj := ⟨.type "code", none, .fields #[.str "_tuplegetter" 198, .str "_tuplegetter" 199, .str "/claim/cut.py" 200, .int 5 0, .int 0 0, .int 0 0, .int 0 0, .int 0 0, .ref 25, .bool false, .int 181 0, .ref 26, .none, .none, .none, .none, .int 201 0, .int 5 0, .str "/claim/cut.py" 202], #[]⟩
noncomputable abbrev op2_28 (P : Params) : Obj := ⟨.type "frame", none, .plain, #[some (.ref 27), some (.ref 3), some (.ref 24), none, some (.str "cpy313.difflib" 194), none, some (.ref 0)]⟩
noncomputable abbrev op2_29 (P : Params) : Obj := ⟨.type "tuple", none, .seq #[] 0, #[]⟩
noncomputable abbrev op2_30 (P : Params) : Obj := ⟨.none, none, .fields #[], #[]⟩
noncomputable abbrev op2_31 (P : Params) : Obj := ⟨.type "tuple", none, .seq #[.str "self" 211, .str "index" 212, .str "doc" 213] 0, #[]⟩
noncomputable abbrev op2_32 (P : Params) : Obj := ⟨.type "tuple", none, .seq #[] 0, #[]⟩
noncomputable abbrev op2_33 (P : Params) : Obj := ⟨.none, none, .func ⟨"__init__", "_tuplegetter.__init__", paramsOf (inCls 2 0), .stmts (bodyOf (inCls 2 0)), scopeOf (inCls 2 0), 0, [], .none, .none, .none, .none, none, .none, .none, 0⟩, #[]⟩
noncomputable abbrev op2_34 (P : Params) : Obj := ⟨.type "code", none, .fields #[.str "__init__" 208, .str "_tuplegetter.__init__" 209, .str "/claim/cut.py" 210, .int 7 0, .int 3 0, .int 0 0, .int 0 0, .int 3 0, .ref 29, .bool true, .int 181 0, .ref 30, .none, .ref 31, .ref 32, .ref 33, .int 214 0, .int 7 0, .str "/claim/cut.py" 215], #[]⟩
noncomputable abbrev op2_35 (P : Params) : Obj := ⟨.type "function", none, .func ⟨"__init__", "_tuplegetter.__init__", paramsOf (inCls 2 0), .stmts (bodyOf (inCls 2 0)), scopeOf (inCls 2 0), 3, [], .none, .none, .none, .str "cpy313.difflib" 194, none, .ref 34, .none, 0⟩, #[]⟩
noncomputable abbrev op2_36 (P : Params) : Obj := ⟨.type "tuple", none, .seq #[.none] 0, #[]⟩
noncomputable abbrev op2_37 (P : Params) : Obj := ⟨.type "tuple", none, .seq #[] 0, #[]⟩
noncomputable abbrev op2_38 (P : Params) : Obj := ⟨.none, none, .fields #[], #[]⟩
noncomputable abbrev op2_39 (P : Params) : Obj := ⟨.type "tuple", none, .seq #[.str "self" 220, .str "obj" 221, .str "objtype" 222] 0, #[]⟩
noncomputable abbrev op2_40 (P : Params) : Obj := ⟨.type "tuple", none, .seq #[] 0, #[]⟩
noncomputable abbrev op2_41 (P : Params) : Obj := ⟨.none, none, .func ⟨"__get__", "_tuplegetter.__get__", paramsOf (inCls 2 1), .stmts (bodyOf (inCls 2 1)), scopeOf (inCls 2 1), 0, [], .none, .none, .none, .none, none, .none, .none, 0⟩, #[]⟩
noncomputable abbrev op2_42 (P : Params) : Obj := ⟨.type "code", none, .fields #[.str "__get__" 217, .str "_tuplegetter.__get__" 218, .str "/claim/cut.py" 219, .int 11 0, .int 3 0, .int 0 0, .int 0 0, .int 3 0, .ref 37, .bool true, .int 181 0, .ref 38, .none, .ref 39, .ref 40, .ref 41, .int 223 0, .int 11 0, .str "/claim/cut.py" 224], #[]⟩
noncomputable abbrev op2_43 (P : Params) : Obj := ⟨.type "function", none, .func ⟨"__get__", "_tuplegetter.__get__", paramsOf (inCls 2 1), .stmts (bodyOf (inCls 2 1)), scopeOf (inCls 2 1), 3, [], .ref 36, .none, .none, .str "cpy313.difflib" 194, none, .ref 42, .none, 0⟩, #[]⟩
noncomputable abbrev op2_44 (P : Params) : Obj := ⟨.type "tuple", none, .seq #[] 0, #[]⟩
noncomputable abbrev op2_45 (P : Params) : Obj := ⟨.none, none, .fields #[], #[]⟩
noncomputable abbrev op2_46 (P : Params) : Obj := ⟨.type "tuple", none, .seq #[.str "self" 229, .str "obj" 230, .str "value" 231] 0, #[]⟩
noncomputable abbrev op2_47 (P : Params) : Obj := ⟨.type "tuple", none, .seq #[] 0, #[]⟩
noncomputable abbrev op2_48 (P : Params) : Obj := ⟨.none, none, .func ⟨"__set__", "_tuplegetter.__set__", paramsOf (inCls 2 2), .stmts (bodyOf (inCls 2 2)), scopeOf (inCls 2 2), 0, [], .none, .none, .none, .none, none, .none, .none, 0⟩, #[]⟩
noncomputable abbrev op2_49 (P : Params) : Obj := ⟨.type "code", none, .fields #[.str "__set__" 226, .str "_tuplegetter.__set__" 227, .str "/claim/cut.py" 228, .int 18 0, .int 3 0, .int 0 0, .int 0 0, .int 3 0, .ref 44, .bool true, .int 181 0, .ref 45, .none, .ref 46, .ref 47, .ref 48, .int 232 0, .int 18 0, .str "/claim/cut.py" 233], #[]⟩
noncomputable abbrev op2_50 (P : Params) : Obj := ⟨.type "function", none, .func ⟨"__set__", "_tuplegetter.__set__", paramsOf (inCls 2 2), .stmts (bodyOf (inCls 2 2)), scopeOf (inCls 2 2), 3, [], .none, .none, .none, .str "cpy313.difflib" 194, none, .ref 49, .none, 0⟩, #[]⟩
noncomputable abbrev op2_51 (P : Params) : Obj := ⟨.type "tuple", none, .seq #[] 0, #[]⟩
noncomputable abbrev op2_52 (P : Params) : Obj := ⟨.none, none, .fields #[], #[]⟩
noncomputable abbrev op2_53 (P : Params) : Obj := ⟨.type "tuple", none, .seq #[.str "self" 238, .str "obj" 239] 0, #[]⟩
noncomputable abbrev op2_54 (P : Params) : Obj := ⟨.type "tuple", none, .seq #[] 0, #[]⟩
noncomputable abbrev op2_55 (P : Params) : Obj := ⟨.none, none, .func ⟨"__delete__", "_tuplegetter.__delete__", paramsOf (inCls 2 3), .stmts (bodyOf (inCls 2 3)), scopeOf (inCls 2 3), 0, [], .none, .none, .none, .none, none, .none, .none, 0⟩, #[]⟩
noncomputable abbrev op2_56 (P : Params) : Obj := ⟨.type "code", none, .fields #[.str "__delete__" 235, .str "_tuplegetter.__delete__" 236, .str "/claim/cut.py" 237, .int 21 0, .int 2 0, .int 0 0, .int 0 0, .int 3 0, .ref 51, .bool true, .int 181 0, .ref 52, .none, .ref 53, .ref 54, .ref 55, .int 240 0, .int 21 0, .str "/claim/cut.py" 241], #[]⟩
noncomputable abbrev op2_57 (P : Params) : Obj := ⟨.type "function", none, .func ⟨"__delete__", "_tuplegetter.__delete__", paramsOf (inCls 2 3), .stmts (bodyOf (inCls 2 3)), scopeOf (inCls 2 3), 3, [], .none, .none, .none, .str "cpy313.difflib" 194, none, .ref 56, .none, 0⟩, #[]⟩
noncomputable abbrev op2_58 (P : Params) : Obj := ⟨.type "tuple", none, .seq #[.str "__doc__" 243, .str "index" 244] 0, #[]⟩
noncomputable abbrev op2_59 (P : Params) : Obj := ⟨.type "dict", none, .dict #[⟨PyData.keyHash P "__module__", .str "__module__" 203, .str "cpy313.difflib" 194⟩, ⟨PyData.keyHash P "__firstlineno__", .str "__firstlineno__" 207, .int 5 206⟩, ⟨PyData.keyHash P "__init__", .str "__init__" 216, .ref 35⟩, ⟨PyData.keyHash P "__get__", .str "__get__" 225, .ref 43⟩, ⟨PyData.keyHash P "__set__", .str "__set__" 234, .ref 50⟩, ⟨PyData.keyHash P "__delete__", .str "__delete__" 242, .ref 57⟩, ⟨PyData.keyHash P "__static_attributes__", .str "__static_attributes__" 245, .ref 58⟩, ⟨PyData.keyHash P "__dict__", .str "__dict__" 247, .ref 61⟩, ⟨PyData.keyHash P "__weakref__", .str "__weakref__" 249, .ref 62⟩, ⟨PyData.keyHash P "__doc__", .str "__doc__" 250, .none⟩] 4, #[]⟩
noncomputable abbrev op2_60 (P : Params) : Obj := ⟨.type "type", none, .cls ⟨"_tuplegetter", [.type "object"], [.ref 60, .type "object"], 59, "_tuplegetter", true, [], [], false, none, false⟩, #[none, none, some (.str "_tuplegetter" 196), some (.str "_tuplegetter" 204), some (.builtin "object.__new__"), some (.bool true)]⟩
noncomputable abbrev op2_61 (P : Params) : Obj := ⟨.type "getset_descriptor", none, .fields #[.str "__dict__" 246, .ref 60, .builtin "function.__dict__", .builtin "function.__dict__#set"], #[]⟩
noncomputable abbrev op2_62 (P : Params) : Obj := ⟨.type "getset_descriptor", none, .fields #[.str "__weakref__" 248, .ref 60, .builtin "ExceptionGroup.__weakref__", .none], #[]⟩
noncomputable abbrev op2_63 (P : Params) : Obj := ⟨.type "super", none, .fields #[.ref 60, .ref 60, .ref 60], #[]⟩
noncomputable abbrev op2_64 (P : Params) : Obj := ⟨.type "builtin_function_or_method", none, .fields #[.builtin "object.__init_subclass__", .ref 60], #[]⟩
noncomputable def t_p2 (P : Params) : BT := .node (boot_o_0 P) (.node (boot_o_1 P) (.node (op2_3 P) (.node (boot_o_7 P) (.node (op0_15 P) (.node (op2_31 P) (.node (op2_63 P) (.nil) (.nil)) (.nil)) (.node (op2_47 P) (.nil) (.nil))) (.node (op2_23 P) (.node (op2_39 P) (.nil) (.nil)) (.node (op2_55 P) (.nil) (.nil)))) (.node (opre_11 P) (.node (op0_19 P) (.node (op2_35 P) (.nil) (.nil)) (.node (op2_51 P) (.nil) (.nil))) (.node (op2_27 P) (.node (op2_43 P) (.nil) (.nil)) (.node (op2_59 P) (.nil) (.nil))))) (.node (boot_o_5 P) (.node (boot_o_9 P) (.node (op0_17 P) (.node (op2_33 P) (.nil) (.nil)) (.node (op2_49 P) (.nil) (.nil))) (.node (op2_25 P) (.node (op2_41 P) (.nil) (.nil)) (.node (op2_57 P) (.nil) (.nil)))) (.node (opre_13 P) (.node (op0_21 P) (.node (op2_37 P) (.nil) (.nil)) (.node (op2_53 P) (.nil) (.nil))) (.node (op2_29 P) (.node (op2_45 P) (.nil) (.nil)) (.node (op2_61 P) (.nil) (.nil)))))) (.node (boot_o_2 P) (.node (boot_o_4 P) (.node (boot_o_8 P) (.node (op0_16 P) (.node (op2_32 P) (.node (op2_64 P) (.nil) (.nil)) (.nil)) (.node (op2_48 P) (.nil) (.nil))) (.node (op2_24 P) (.node (op2_40 P) (.nil) (.nil)) (.node (op2_56 P) (.nil) (.nil)))) (.node (op2_12 P) (.node (op0_20 P) (.node (op2_36 P) (.nil) (.nil)) (.node (op2_52 P) (.nil) (.nil))) (.node (op2_28 P) (.node (op2_44 P) (.nil) (.nil)) (.node (op2_60 P) (.nil) (.nil))))) (.node (boot_o_6 P) (.node (boot_o_10 P) (.node (op0_18 P) (.node (op2_34 P) (.nil) (.nil)) (.node (op2_50 P) (.nil) (.nil))) (.node (op2_26 P) (.node (op2_42 P) (.nil) (.nil)) (.node (op2_58 P) (.nil) (.nil)))) (.node (opre_14 P) (.node (op2_22 P) (.node (op2_38 P) (.nil) (.nil)) (.node (op2_54 P) (.nil) (.nil))) (.node (op2_30 P) (.node (op2_46 P) (.nil) (.nil)) (.node (op2_62 P) (.nil) (.nil))))))
noncomputable abbrev op3_3 (P : Params) : Obj := ⟨.type "dict", none, .dict #[⟨PyData.keyHash P "__name__", .str "__name__" 165, .str "cpy313.difflib" 194⟩, ⟨PyData.keyHash P "__doc__", .str "__doc__" 166, .none⟩, ⟨PyData.keyHash P "__package__", .str "__package__" 167, .none⟩, ⟨PyData.keyHash P "__loader__", .str "__loader__" 168, .builtin "__main__.__loader__#opaque"⟩, ⟨PyData.keyHash P "__spec__", .str "__spec__" 169, .none⟩, ⟨PyData.keyHash P "__annotations__", .str "__annotations__" 170, .ref 6⟩, ⟨PyData.keyHash P "__builtins__", .str "__builtins__" 171, .ref 4⟩, ⟨PyData.keyHash P "__file__", .str "__file__" 173, .str "/claim/cut.py" 172⟩, ⟨PyData.keyHash P "__cached__", .str "__cached__" 174, .none⟩, ⟨PyData.keyHash P "_wall", .str "_wall" 193, .ref 21⟩, ⟨PyData.keyHash P "_tuplegetter", .str "_tuplegetter" 252, .ref 60⟩, ⟨PyData.keyHash P "Match", .str "Match" 380, .ref 135⟩] 12, #[]⟩
noncomputable abbrev op3_12 (P : Params) : Obj := ⟨.none, none, .fields #[.int 1 0, .int 0 0, .ref 20, .int 5 0, .int 0 0, .ref 27, .int 23 0, .int 0 0, .ref 71], #[]⟩
noncomputable abbrev op3_65 (P : Params) : Obj := ⟨.type "tuple", none, .seq #[.type "tuple"] 0, #[]⟩
noncomputable abbrev op3_66 (P : Params) : Obj := ⟨.type "builtin_function_or_method", none, .fields #[.builtin "type.__prepare__", .type "type"], #[]⟩
noncomputable abbrev op3_67 (P : Params) : Obj := ⟨.type "dict", none, .dict #[⟨PyData.keyHash P "__module__", .str "__module__" 260, .str "cpy313.difflib" 194⟩, ⟨PyData.keyHash P "__qualname__", .str "__qualname__" 262, .str "Match" 261⟩, ⟨PyData.keyHash P "__firstlineno__", .str "__firstlineno__" 264, .int 23 263⟩, ⟨PyData.keyHash P "__doc__", .str "__doc__" 266, .str "Match(a, b, size)" 265⟩, ⟨PyData.keyHash P "__slots__", .str "__slots__" 268, .ref 73⟩, ⟨PyData.keyHash P "_fields", .str "_fields" 272, .ref 74⟩, ⟨PyData.keyHash P "_field_defaults", .str "_field_defaults" 273, .ref 75⟩, ⟨PyData.keyHash P "__new__", .str "__new__" 284, .ref 82⟩, ⟨PyData.keyHash P "_make", .str "_make" 306, .ref 91⟩, ⟨PyData.keyHash P "_replace", .str "_replace" 317, .ref 100⟩, ⟨PyData.keyHash P "__replace__", .str "__replace__" 318, .ref 100⟩, ⟨PyData.keyHash P "__repr__", .str "__repr__" 326, .ref 107⟩, ⟨PyData.keyHash P "_asdict", .str "_asdict" 333, .ref 114⟩, ⟨PyData.keyHash P "__getnewargs__", .str "__getnewargs__" 341, .ref 121⟩, ⟨PyData.keyHash P "__match_args__", .str "__match_args__" 345, .ref 122⟩, ⟨PyData.keyHash P "a", .str "a" 355, .ref 124⟩, ⟨PyData.keyHash P "b", .str "b" 365, .ref 127⟩, ⟨PyData.keyHash P "size", .str "size" 375, .ref 130⟩, ⟨PyData.keyHash P "__static_attributes__", .str "__static_attributes__" 376, .ref 132⟩, ⟨PyData.keyHash P "__classcell__", .str "__classcell__" 377, .ref 68⟩] 20, #[]⟩
noncomputable abbrev op3_68 (P : Params) : Obj := ⟨.type "cell", none, .cell (some (.ref 135)), #[]⟩
noncomputable abbrev op3_69 (P : Params) : Obj := ⟨.type "tuple", none, .seq #[] 0, #[]⟩
noncomputable abbrev op3_70 (P : Params) : Obj := ⟨.none, none, .fields #[.int 29 0, .int 4 0, .ref 81, .int 34 0, .int 4 0, .ref 88, .int 41 0, .int 4 0, .ref 99, .int 52 0, .int 4 0, .ref 106, .int 56 0, .int 4 0, .ref 113, .int 59 0, .int 4 0, .ref 120], #[]⟩
noncomputable abbrev op3_71 (P : Params) : Obj := ⟨.type "code", none, .fields #[.str "Match" 255, .str "Match" 256, .str "/claim/cut.py" 257, .int 23 0, .int 0 0, .int 0 0, .int 0 0, .int 0 0, .ref 69, .bool false, .int 181 0, .ref 70, .none, .none, .none, .none, .int 258 0, .int 23 0, .str "/claim/cut.py" 259], #[]⟩
noncomputable abbrev op3_72 (P : Params) : Obj := ⟨.type "frame", none, .plain, #[some (.ref 71), some (.ref 3), some (.ref 67), none, some (.str "cpy313.difflib" 194), none, some (.ref 0)]⟩
noncomputable abbrev op3_73 (P : Params) : Obj := ⟨.type "tuple", none, .seq #[] 0, #[]⟩
noncomputable abbrev op3_74 (P : Params) : Obj := ⟨.type "tuple", none, .seq #[.str "a" 269, .str "b" 270, .str "size" 271] 0, #[]⟩
noncomputable abbrev op3_75 (P : Params) : Obj := ⟨.type "dict", none, .dict #[] 0, #[]⟩
noncomputable abbrev op3_76 (P : Params) : Obj := ⟨.type "tuple", none, .seq #[] 0, #[]⟩
noncomputable abbrev op3_77 (P : Params) : Obj := ⟨.none, none, .fields #[], #[]⟩
noncomputable abbrev op3_78 (P : Params) : Obj := ⟨.type "tuple", none, .seq #[.str "_cls" 277, .str "a" 278, .str "b" 279, .str "size" 280] 0, #[]⟩
noncomputable abbrev op3_79 (P : Params) : Obj := ⟨.type "tuple", none, .seq #[] 0, #[]⟩
noncomputable abbrev op3_80 (P : Params) : Obj := ⟨.none, none, .func ⟨"__new__", "Match.__new__", paramsOf (inCls 3 4), .stmts (bodyOf (inCls 3 4)), scopeOf (inCls 3 4), 0, [], .none, .none, .none, .none, none, .none, .none, 0⟩, #[]⟩
noncomputable abbrev op3_81 (P : Params) : Obj := ⟨.type "code", none, .fields #[.str "__new__" 274, .str "Match.__new__" 275, .str "/claim/cut.py" 276, .int 29 0, .int 4 0, .int 0 0, .int 0 0, .int 3 0, .ref 76, .bool true, .int 181 0, .ref 77, .none, .ref 78, .ref 79, .ref 80, .int 281 0, .int 29 0, .str "/claim/cut.py" 282], #[]⟩
noncomputable abbrev op3_82 (P : Params) : Obj := ⟨.type "function", none, .func ⟨"__new__", "Match.__new__", paramsOf (inCls 3 4), .stmts (bodyOf (inCls 3 4)), scopeOf (inCls 3 4), 3, [], .none, .none, .str "Create new instance of Match(a, b, size)" 283, .str "cpy313.difflib" 194, none, .ref 81, .none, 0⟩, #[]⟩
noncomputable abbrev op3_83 (P : Params) : Obj := ⟨.type "tuple", none, .seq #[] 0, #[]⟩
noncomputable abbrev op3_84 (P : Params) : Obj := ⟨.none, none, .fields #[], #[]⟩
noncomputable abbrev op3_85 (P : Params) : Obj := ⟨.type "tuple", none, .seq #[.str "cls" 288, .str "iterable" 289, .str "result" 290] 0, #[]⟩
noncomputable abbrev op3_86 (P : Params) : Obj := ⟨.type "tuple", none, .seq #[] 0, #[]⟩
noncomputable abbrev op3_87 (P : Params) : Obj := ⟨.none, none, .func ⟨"_make", "Match._make", paramsOf (inCls 3 5), .stmts (bodyOf (inCls 3 5)), scopeOf (inCls 3 5), 0, [], .none, .none, .none, .none, none, .none, .none, 0⟩, #[]⟩
noncomputable abbrev op3_88 (P : Params) : Obj := ⟨.type "code", none, .fields #[.str "_make" 285, .str "Match._make" 286, .str "/claim/cut.py" 287, .int 33 0, .int 2 0, .int 0 0, .int 0 0, .int 3 0, .ref 83, .bool true, .int 181 0, .ref 84, .none, .ref 85, .ref 86, .ref 87, .int 291 0, .int 33 0, .str "/claim/cut.py" 292], #[]⟩
noncomputable abbrev op3_89 (P : Params) : Obj := ⟨.type "function", none, .func ⟨"_make", "Match._make", paramsOf (inCls 3 5), .stmts (bodyOf (inCls 3 5)), scopeOf (inCls 3 5), 3, [], .none, .none, .str "Make a new Match object from a sequence or iterable" 293, .str "cpy313.difflib" 194, some (92), .ref 88, .none, 0⟩, #[]⟩
noncomputable abbrev op3_90 (P : Params) : Obj := ⟨.type "dict", none, .dict #[⟨PyData.keyHash P "__module__", .str "__module__" 295, .str "cpy313.difflib" 194⟩, ⟨PyData.keyHash P "__name__", .str "__name__" 298, .str "_make" 297⟩, ⟨PyData.keyHash P "__qualname__", .str "__qualname__" 301, .str "Match._make" 300⟩, ⟨PyData.keyHash P "__doc__", .str "__doc__" 303, .str "Make a new Match object from a sequence or iterable" 293⟩, ⟨PyData.keyHash P "__annotations__", .str "__annotations__" 305, .ref 92⟩] 5, #[]⟩
noncomputable abbrev op3_91 (P : Params) : Obj := ⟨.type "classmethod", some (90), .fields #[.ref 89, .bool false], #[]⟩
noncomputable abbrev op3_92 (P : Params) : Obj := ⟨.type "dict", none, .dict #[] 0, #[]⟩
noncomputable abbrev op3_93 (P : Params) : Obj := ⟨.type "tuple", none, .seq #[.ref 68] 0, #[]⟩
noncomputable abbrev op3_94 (P : Params) : Obj := ⟨.type "tuple", none, .seq #[.str "__class__" 310] 0, #[]⟩
noncomputable abbrev op3_95 (P : Params) : Obj := ⟨.none, none, .fields #[], #[]⟩
noncomputable abbrev op3_96 (P : Params) : Obj := ⟨.type "tuple", none, .seq #[.str "self" 311, .str "kwds" 312, .str "result" 313] 0, #[]⟩
noncomputable abbrev op3_97 (P : Params) : Obj := ⟨.type "tuple", none, .seq #[] 0, #[]⟩
noncomputable abbrev op3_98 (P : Params) : Obj := ⟨.none, none, .func ⟨"_replace", "Match._replace", paramsOf (inCls 3 6), .stmts (bodyOf (inCls 3 6)), scopeOf (inCls 3 6), 0, [], .none, .none, .none, .none, none, .none, .none, 0⟩, #[]⟩
noncomputable abbrev op3_99 (P : Params) : Obj := ⟨.type "code", none, .fields #[.str "_replace" 307, .str "Match._replace" 308, .str "/claim/cut.py" 309, .int 41 0, .int 1 0, .int 1 0, .int 0 0, .int 11 0, .ref 94, .bool true, .int 181 0, .ref 95, .none, .ref 96, .ref 97, .ref 98, .int 314 0, .int 41 0, .str "/claim/cut.py" 315], #[]⟩
noncomputable abbrev op3_100 (P : Params) : Obj := ⟨.type "function", none, .func ⟨"_replace", "Match._replace", paramsOf (inCls 3 6), .stmts (bodyOf (inCls 3 6)), scopeOf (inCls 3 6), 3, [("__class__", 68)], .none, .none, .str (docStr (inCls 3 6)) 316, .str "cpy313.difflib" 194, none, .ref 99, .ref 93, 0⟩, #[]⟩
noncomputable abbrev op3_101 (P : Params) : Obj := ⟨.type "tuple", none, .seq #[] 0, #[]⟩
noncomputable abbrev op3_102 (P : Params) : Obj := ⟨.none, none, .fields #[], #[]⟩
noncomputable abbrev op3_103 (P : Params) : Obj := ⟨.type "tuple", none, .seq #[.str "self" 322] 0, #[]⟩
noncomputable abbrev op3_104 (P : Params) : Obj := ⟨.type "tuple", none, .seq #[] 0, #[]⟩
noncomputable abbrev op3_105 (P : Params) : Obj := ⟨.none, none, .func ⟨"__repr__", "Match.__repr__", paramsOf (inCls 3 8), .stmts (bodyOf (inCls 3 8)), scopeOf (inCls 3 8), 0, [], .none, .none, .none, .none, none, .none, .none, 0⟩, #[]⟩
noncomputable abbrev op3_106 (P : Params) : Obj := ⟨.type "code", none, .fields #[.str "__repr__" 319, .str "Match.__repr__" 320, .str "/claim/cut.py" 321, .int 52 0, .int 1 0, .int 0 0, .int 0 0, .int 3 0, .ref 101, .bool true, .int 181 0, .ref 102, .none, .ref 103, .ref 104, .ref 105, .int 323 0, .int 52 0, .str "/claim/cut.py" 324], #[]⟩
noncomputable abbrev op3_107 (P : Params) : Obj := ⟨.type "function", none, .func ⟨"__repr__", "Match.__repr__", paramsOf (inCls 3 8), .stmts (bodyOf (inCls 3 8)), scopeOf (inCls 3 8), 3, [], .none, .none, .str "Return a nicely formatted representation string" 325, .str "cpy313.difflib" 194, none, .ref 106, .none, 0⟩, #[]⟩
noncomputable abbrev op3_108 (P : Params) : Obj := ⟨.type "tuple", none, .seq #[] 0, #[]⟩
noncomputable abbrev op3_109 (P : Params) : Obj := ⟨.none, none, .fields #[], #[]⟩
noncomputable abbrev op3_110 (P : Params) : Obj := ⟨.type "tuple", none, .seq #[.str "self" 330] 0, #[]⟩
noncomputable abbrev op3_111 (P : Params) : Obj := ⟨.type "tuple", none, .seq #[] 0, #[]⟩
noncomputable abbrev op3_112 (P : Params) : Obj := ⟨.none, none, .func ⟨"_asdict", "Match._asdict", paramsOf (inCls 3 9), .stmts (bodyOf (inCls 3 9)), scopeOf (inCls 3 9), 0, [], .none, .none, .none, .none, none, .none, .none, 0⟩, #[]⟩
noncomputable abbrev op3_113 (P : Params) : Obj := ⟨.type "code", none, .fields #[.str "_asdict" 327, .str "Match._asdict" 328, .str "/claim/cut.py" 329, .int 56 0, .int 1 0, .int 0 0, .int 0 0, .int 3 0, .ref 108, .bool true, .int 181 0, .ref 109, .none, .ref 110, .ref 111, .ref 112, .int 331 0, .int 56 0, .str "/claim/cut.py" 332], #[]⟩
noncomputable abbrev op3_114 (P : Params) : Obj := ⟨.type "function", none, .func ⟨"_asdict", "Match._asdict", paramsOf (inCls 3 9), .stmts (bodyOf (inCls 3 9)), scopeOf (inCls 3 9), 3, [], .none, .none, .none, .str "cpy313.difflib" 194, none, .ref 113, .none, 0⟩, #[]⟩
noncomputable abbrev op3_115 (P : Params) : Obj := ⟨.type "tuple", none, .seq #[] 0, #[]⟩
noncomputable abbrev op3_116 (P : Params) : Obj := ⟨.none, none, .fields #[], #[]⟩
noncomputable abbrev op3_117 (P : Params) : Obj := ⟨.type "tuple", none, .seq #[.str "self" 337] 0, #[]⟩
noncomputable abbrev op3_118 (P : Params) : Obj := ⟨.type "tuple", none, .seq #[] 0, #[]⟩
noncomputable abbrev op3_119 (P : Params) : Obj := ⟨.none, none, .func ⟨"__getnewargs__", "Match.__getnewargs__", paramsOf (inCls 3 10), .stmts (bodyOf (inCls 3 10)), scopeOf (inCls 3 10), 0, [], .none, .none, .none, .none, none, .none, .none, 0⟩, #[]⟩
noncomputable abbrev op3_120 (P : Params) : Obj := ⟨.type "code", none, .fields #[.str "__getnewargs__" 334, .str "Match.__getnewargs__" 335, .str "/claim/cut.py" 336, .int 59 0, .int 1 0, .int 0 0, .int 0 0, .int 3 0, .ref 115, .bool true, .int 181 0, .ref 116, .none, .ref 117, .ref 118, .ref 119, .int 338 0, .int 59 0, .str "/claim/cut.py" 339], #[]⟩
noncomputable abbrev op3_121 (P : Params) : Obj := ⟨.type "function", none, .func ⟨"__getnewargs__", "Match.__getnewargs__", paramsOf (inCls 3 10), .stmts (bodyOf (inCls 3 10)), scopeOf (inCls 3 10), 3, [], .none, .none, .str "Return self as a plain tuple.  Used by copy and pickle." 340, .str "cpy313.difflib" 194, none, .ref 120, .none, 0⟩, #[]⟩
noncomputable abbrev op3_122 (P : Params) : Obj := ⟨.type "tuple", none, .seq #[.str "a" 342, .str "b" 343, .str "size" 344] 0, #[]⟩
noncomputable abbrev op3_123 (P : Params) : Obj := ⟨.type "dict", none, .dict #[⟨PyData.keyHash P "index", .str "index" 352, .int 0 346⟩, ⟨PyData.keyHash P "__doc__", .str "__doc__" 354, .str "Alias for field number 0" 347⟩] 2, #[]⟩
noncomputable abbrev op3_124 (P : Params) : Obj := ⟨.ref 60, some (123), .plain, #[]⟩
noncomputable abbrev op3_125 (P : Params) : Obj := ⟨.type "frame", none, .dict #[⟨PyData.keyHash P "self", .str "self" 348, .ref 124⟩, ⟨PyData.keyHash P "index", .str "index" 349, .int 0 346⟩, ⟨PyData.keyHash P "doc", .str "doc" 350, .str "Alias for field number 0" 347⟩] 3, #[]⟩
noncomputable abbrev op3_126 (P : Params) : Obj := ⟨.type "dict", none, .dict #[⟨PyData.keyHash P "index", .str "index" 362, .int 1 356⟩, ⟨PyData.keyHash P "__doc__", .str "__doc__" 364, .str "Alias for field number 1" 357⟩] 2, #[]⟩
noncomputable abbrev op3_127 (P : Params) : Obj := ⟨.ref 60, some (126), .plain, #[]⟩
noncomputable abbrev op3_128 (P : Params) : Obj := ⟨.type "frame", none, .dict #[⟨PyData.keyHash P "self", .str "self" 358, .ref 127⟩, ⟨PyData.keyHash P "index", .str "index" 359, .int 1 356⟩, ⟨PyData.keyHash P "doc", .str "doc" 360, .str "Alias for field number 1" 357⟩] 3, #[]⟩
noncomputable abbrev op3_129 (P : Params) : Obj := ⟨.type "dict", none, .dict #[⟨PyData.keyHash P "index", .str "index" 372, .int 2 366⟩, ⟨PyData.keyHash P "__doc__", .str "__doc__" 374, .str "Alias for field number 2" 367⟩] 2, #[]⟩
noncomputable abbrev op3_130 (P : Params) : Obj := ⟨.ref 60, some (129), .plain, #[]⟩
noncomputable abbrev op3_131 (P : Params) : Obj := ⟨.type "frame", none, .dict #[⟨PyData.keyHash P "self", .str "self" 368, .ref 130⟩, ⟨PyData.keyHash P "index", .str "index" 369, .int 2 366⟩, ⟨PyData.keyHash P "doc", .str "doc" 370, .str "Alias for field number 2" 367⟩] 3, #[]⟩
noncomputable abbrev op3_132 (P : Params) : Obj := ⟨.type "tuple", none, .seq #[] 0, #[]⟩
noncomputable abbrev op3_133 (P : Params) : Obj := ⟨.type "list", none, .seq #[] 0, #[]⟩
noncomputable abbrev op3_134 (P : Params) : Obj := ⟨.type "dict", none, .dict #[⟨PyData.keyHash P "__module__", .str "__module__" 260, .str "cpy313.difflib" 194⟩, ⟨PyData.keyHash P "__firstlineno__", .str "__firstlineno__" 264, .int 23 263⟩, ⟨PyData.keyHash P "__doc__", .str "__doc__" 266, .str "Match(a, b, size)" 265⟩, ⟨PyData.keyHash P "__slots__", .str "__slots__" 268, .ref 73⟩, ⟨PyData.keyHash P "_fields", .str "_fields" 272, .ref 74⟩, ⟨PyData.keyHash P "_field_defaults", .str "_field_defaults" 273, .ref 75⟩, ⟨PyData.keyHash P "__new__", .str "__new__" 284, .ref 136⟩, ⟨PyData.keyHash P "_make", .str "_make" 306, .ref 91⟩, ⟨PyData.keyHash P "_replace", .str "_replace" 317, .ref 100⟩, ⟨PyData.keyHash P "__replace__", .str "__replace__" 318, .ref 100⟩, ⟨PyData.keyHash P "__repr__", .str "__repr__" 326, .ref 107⟩, ⟨PyData.keyHash P "_asdict", .str "_asdict" 333, .ref 114⟩, ⟨PyData.keyHash P "__getnewargs__", .str "__getnewargs__" 341, .ref 121⟩, ⟨PyData.keyHash P "__match_args__", .str "__match_args__" 345, .ref 122⟩, ⟨PyData.keyHash P "a", .str "a" 355, .ref 124⟩, ⟨PyData.keyHash P "b", .str "b" 365, .ref 127⟩, ⟨PyData.keyHash P "size", .str "size" 375, .ref 130⟩, ⟨PyData.keyHash P "__static_attributes__", .str "__static_attributes__" 376, .ref 132⟩] 2, #[]⟩
noncomputable abbrev op3_135 (P : Params) : Obj := ⟨.type "type", none, .cls ⟨"Match", [.type "tuple"], [.ref 135, .type "tuple", .type "object"], 134, "Match", false, [], [], false, none, false⟩, #[some (.ref 65), none, some (.str "Match" 253), some (.str "Match" 261), some (.none), some (.bool false)]⟩
noncomputable abbrev op3_136 (P : Params) : Obj := ⟨.type "staticmethod", none, .fields #[.ref 82], #[]⟩
noncomputable abbrev op3_137 (P : Params) : Obj := ⟨.type "super", none, .fields #[.ref 135, .ref 135, .ref 135], #[]⟩
noncomputable abbrev op3_138 (P : Params) : Obj := ⟨.type "builtin_function_or_method", none, .fields #[.builtin "object.__init_subclass__", .ref 135], #[]⟩
noncomputable def t_p3 (P : Params) : BT := .node (boot_o_0 P) (.node (boot_o_1 P) (.node (op3_3 P) (.node (boot_o_7 P) (.node (op0_15 P) (.node (op2_31 P) (.node (op2_63 P) (.node (op3_127 P) (.nil) (.nil)) (.nil)) (.node (op3_95 P) (.nil) (.nil))) (.node (op2_47 P) (.node (op3_79 P) (.nil) (.nil)) (.node (op3_111 P) (.nil) (.nil)))) (.node (op2_23 P) (.node (op2_39 P) (.node (op3_71 P) (.node (op3_135 P) (.nil) (.nil)) (.nil)) (.node (op3_103 P) (.nil) (.nil))) (.node (op2_55 P) (.node (op3_87 P) (.nil) (.nil)) (.node (op3_119 P) (.nil) (.nil))))) (.node (opre_11 P) (.node (op0_19 P) (.node (op2_35 P) (.node (op3_67 P) (.node (op3_131 P) (.nil) (.nil)) (.nil)) (.node (op3_99 P) (.nil) (.nil))) (.node (op2_51 P) (.node (op3_83 P) (.nil) (.nil)) (.node (op3_115 P) (.nil) (.nil)))) (.node (op2_27 P) (.node (op2_43 P) (.node (op3_75 P) (.nil) (.nil)) (.node (op3_107 P) (.nil) (.nil))) (.node (op2_59 P) (.node (op3_91 P) (.nil) (.nil)) (.node (op3_123 P) (.nil) (.nil)))))) (.node (boot_o_5 P) (.node (boot_o_9 P) (.node (op0_17 P) (.node (op2_33 P) (.node (op3_65 P) (.node (op3_129 P) (.nil) (.nil)) (.nil)) (.node (op3_97 P) (.nil) (.nil))) (.node (op2_49 P) (.node (op3_81 P) (.nil) (.nil)) (.node (op3_113 P) (.nil) (.nil)))) (.node (op2_25 P) (.node (op2_41 P) (.node (op3_73 P) (.node (op3_137 P) (.nil) (.nil)) (.nil)) (.node (op3_105 P) (.nil) (.nil))) (.node (op2_57 P) (.node (op3_89 P) (.nil) (.nil)) (.node (op3_121 P) (.nil) (.nil))))) (.node (opre_13 P) (.node (op0_21 P) (.node (op2_37 P) (.node (op3_69 P) (.node (op3_133 P) (.nil) (.nil)) (.nil)) (.node (op3_101 P) (.nil) (.nil))) (.node (op2_53 P) (.node (op3_85 P) (.nil) (.nil)) (.node (op3_117 P) (.nil) (.nil)))) (.node (op2_29 P) (.node (op2_45 P) (.node (op3_77 P) (.nil) (.nil)) (.node (op3_109 P) (.nil) (.nil))) (.node (op2_61 P) (.node (op3_93 P) (.nil) (.nil)) (.node (op3_125 P) (.nil) (.nil))))))) (.node (boot_o_2 P) (.node (boot_o_4 P) (.node (boot_o_8 P) (.node (op0_16 P) (.node (op2_32 P) (.node (op2_64 P) (.node (op3_128 P) (.nil) (.nil)) (.nil)) (.node (op3_96 P) (.nil) (.nil))) (.node (op2_48 P) (.node (op3_80 P) (.nil) (.nil)) (.node (op3_112 P) (.nil) (.nil)))) (.node (op2_24 P) (.node (op2_40 P) (.node (op3_72 P) (.node (op3_136 P) (.nil) (.nil)) (.nil)) (.node (op3_104 P) (.nil) (.nil))) (.node (op2_56 P) (.node (op3_88 P) (.nil) (.nil)) (.node (op3_120 P) (.nil) (.nil))))) (.node (op3_12 P) (.node (op0_20 P) (.node (op2_36 P) (.node (op3_68 P) (.node (op3_132 P) (.nil) (.nil)) (.nil)) (.node (op3_100 P) (.nil) (.nil))) (.node (op2_52 P) (.node (op3_84 P) (.nil) (.nil)) (.node (op3_116 P) (.nil) (.nil)))) (.node (op2_28 P) (.node (op2_44 P) (.node (op3_76 P) (.nil) (.nil)) (.node (op3_108 P) (.nil) (.nil))) (.node (op2_60 P) (.node (op3_92 P) (.nil) (.nil)) (.node (op3_124 P) (.nil) (.nil)))))) (.node (boot_o_6 P) (.node (boot_o_10 P) (.node (op0_18 P) (.node (op2_34 P) (.node (op3_66 P) (.node (op3_130 P) (.nil) (.nil)) (.nil)) (.node (op3_98 P) (.nil) (.nil))) (.node (op2_50 P) (.node (op3_82 P) (.nil) (.nil)) (.node (op3_114 P) (.nil) (.nil)))) (.node (op2_26 P) (.node (op2_42 P) (.node (op3_74 P) (.node (op3_138 P) (.nil) (.nil)) (.nil)) (.node (op3_106 P) (.nil) (.nil))) (.node (op2_58 P) (.node (op3_90 P) (.nil) (.nil)) (.node (op3_122 P) (.nil) (.nil))))) (.node (opre_14 P) (.node (op2_22 P) (.node (op2_38 P) (.node (op3_70 P) (.node (op3_134 P) (.nil) (.nil)) (.nil)) (.node (op3_102 P) (.nil) (.nil))) (.node (op2_54 P) (.node (op3_86 P) (.nil) (.nil)) (.node (op3_118 P) (.nil) (.nil)))) (.node (op2_30 P) (.node (op2_46 P) (.node (op3_78 P) (.nil) (.nil)) (.node (op3_110 P) (.nil) (.nil))) (.node (op2_62 P) (.node (op3_94 P) (.nil) (.nil)) (.node (op3_126 P) (.nil) (.nil)))))))
noncomputable abbrev op4_3 (P : Params) : Obj := ⟨.type "dict", none, .dict #[⟨PyData.keyHash P "__name__", .str "__name__" 165, .str "cpy313.difflib" 194⟩, ⟨PyData.keyHash P "__doc__", .str "__doc__" 166, .none⟩, ⟨PyData.keyHash P "__package__", .str "__package__" 167, .none⟩, ⟨PyData.keyHash P "__loader__", .str "__loader__" 168, .builtin "__main__.__loader__#opaque"⟩, ⟨PyData.keyHash P "__spec__", .str "__spec__" 169, .none⟩, ⟨PyData.keyHash P "__annotations__", .str "__annotations__" 170, .ref 6⟩, ⟨PyData.keyHash P "__builtins__", .str "__builtins__" 171, .ref 4⟩, ⟨PyData.keyHash P "__file__", .str "__file__" 173, .str "/claim/cut.py" 172⟩, ⟨PyData.keyHash P "__cached__", .str "__cached__" 174, .none⟩, ⟨PyData.keyHash P "_wall", .str "_wall" 193, .ref 21⟩, ⟨PyData.keyHash P "_tuplegetter", .str "_tuplegetter" 252, .ref 60⟩, ⟨PyData.keyHash P "Match", .str "Match" 380, .ref 135⟩, ⟨PyData.keyHash P "_calculate_ratio", .str "_calculate_ratio" 388, .ref 145⟩] 13, #[]⟩
noncomputable abbrev op4_12 (P : Params) : Obj := ⟨.none, none, .fields #[.int 1 0, .int 0 0, .ref 20, .int 5 0, .int 0 0, .ref 27, .int 23 0, .int 0 0, .ref 71, .int 66 0, .int 0 0, .ref 144], #[]⟩
noncomputable abbrev op4_139 (P : Params) : Obj := ⟨.type "tuple", none, .seq #[] 0, #[]⟩
noncomputable abbrev op4_140 (P : Params) : Obj := ⟨.none, none, .fields #[], #[]⟩
noncomputable abbrev op4_141 (P : Params) : Obj := ⟨.type "tuple", none, .seq #[.str "matches" 384, .str "length" 385] 0, #[]⟩
noncomputable abbrev op4_142 (P : Params) : Obj := ⟨.type "tuple", none, .seq #[] 0, #[]⟩
noncomputable abbrev op4_143 (P : Params) : Obj := ⟨.none, none, .func ⟨"_calculate_ratio", "_calculate_ratio", paramsOf (topAt 4), .stmts (bodyOf (topAt 4)), scopeOf (topAt 4), 0, [], .none, .none, .none, .none, none, .none, .none, 0⟩, #[]⟩
noncomputable abbrev op4_144 (P : Params) : Obj := ⟨.type "code", none, .fields #[.str "_calculate_ratio" 381, .str "_calculate_ratio" 382, .str "/claim/cut.py" 383, .int 66 0, .int 2 0, .int 0 0, .int 0 0, .int 3 0, .ref 139, .bool true, .int 181 0, .ref 140, .none, .ref 141, .ref 142, .ref 143, .int 386 0, .int 66 0, .str "/claim/cut.py" 387], #[]⟩
noncomputable abbrev op4_145 (P : Params) : Obj := ⟨.type "function", none, .func ⟨"_calculate_ratio", "_calculate_ratio", paramsOf (topAt 4), .stmts (bodyOf (topAt 4)), scopeOf (topAt 4), 3, [], .none, .none, .none, .str "cpy313.difflib" 194, none, .ref 144, .none, 0⟩, #[]⟩
noncomputable def t_p4 (P : Params) : BT := .node (boot_o_0 P) (.node (boot_o_1 P) (.node (op4_3 P) (.node (boot_o_7 P) (.node (op0_15 P) (.node (op2_31 P) (.node (op2_63 P) (.node (op3_127 P) (.nil) (.nil)) (.nil)) (.node (op3_95 P) (.nil) (.nil))) (.node (op2_47 P) (.node (op3_79 P) (.node (op4_143 P) (.nil) (.nil)) (.nil)) (.node (op3_111 P) (.nil) (.nil)))) (.node (op2_23 P) (.node (op2_39 P) (.node (op3_71 P) (.node (op3_135 P) (.nil) (.nil)) (.nil)) (.node (op3_103 P) (.nil) (.nil))) (.node (op2_55 P) (.node (op3_87 P) (.nil) (.nil)) (.node (op3_119 P) (.nil) (.nil))))) (.node (opre_11 P) (.node (op0_19 P) (.node (op2_35 P) (.node (op3_67 P) (.node (op3_131 P) (.nil) (.nil)) (.nil)) (.node (op3_99 P) (.nil) (.nil))) (.node (op2_51 P) (.node (op3_83 P) (.nil) (.nil)) (.node (op3_115 P) (.nil) (.nil)))) (.node (op2_27 P) (.node (op2_43 P) (.node (op3_75 P) (.node (op4_139 P) (.nil) (.nil)) (.nil)) (.node (op3_107 P) (.nil) (.nil))) (.node (op2_59 P) (.node (op3_91 P) (.nil) (.nil)) (.node (op3_123 P) (.nil) (.nil)))))) (.node (boot_o_5 P) (.node (boot_o_9 P) (.node (op0_17 P) (.node (op2_33 P) (.node (op3_65 P) (.node (op3_129 P) (.nil) (.nil)) (.nil)) (.node (op3_97 P) (.nil) (.nil))) (.node (op2_49 P) (.node (op3_81 P) (.node (op4_145 P) (.nil) (.nil)) (.nil)) (.node (op3_113 P) (.nil) (.nil)))) (.node (op2_25 P) (.node (op2_41 P) (.node (op3_73 P) (.node (op3_137 P) (.nil) (.nil)) (.nil)) (.node (op3_105 P) (.nil) (.nil))) (.node (op2_57 P) (.node (op3_89 P) (.nil) (.nil)) (.node (op3_121 P) (.nil) (.nil))))) (.node (opre_13 P) (.node (op0_21 P) (.node (op2_37 P) (.node (op3_69 P) (.node (op3_133 P) (.nil) (.nil)) (.nil)) (.node (op3_101 P) (.nil) (.nil))) (.node (op2_53 P) (.node (op3_85 P) (.nil) (.nil)) (.node (op3_117 P) (.nil) (.nil)))) (.node (op2_29 P) (.node (op2_45 P) (.node (op3_77 P) (.node (op4_141 P) (.nil) (.nil)) (.nil)) (.node (op3_109 P) (.nil) (.nil))) (.node (op2_61 P) (.node (op3_93 P) (.nil) (.nil)) (.node (op3_125 P) (.nil) (.nil))))))) (.node (boot_o_2 P) (.node (boot_o_4 P) (.node (boot_o_8 P) (.node (op0_16 P) (.node (op2_32 P) (.node (op2_64 P) (.node (op3_128 P) (.nil) (.nil)) (.nil)) (.node (op3_96 P) (.nil) (.nil))) (.node (op2_48 P) (.node (op3_80 P) (.node (op4_144 P) (.nil) (.nil)) (.nil)) (.node (op3_112 P) (.nil) (.nil)))) (.node (op2_24 P) (.node (op2_40 P) (.node (op3_72 P) (.node (op3_136 P) (.nil) (.nil)) (.nil)) (.node (op3_104 P) (.nil) (.nil))) (.node (op2_56 P) (.node (op3_88 P) (.nil) (.nil)) (.node (op3_120 P) (.nil) (.nil))))) (.node (op4_12 P) (.node (op0_20 P) (.node (op2_36 P) (.node (op3_68 P) (.node (op3_132 P) (.nil) (.nil)) (.nil)) (.node (op3_100 P) (.nil) (.nil))) (.node (op2_52 P) (.node (op3_84 P) (.nil) (.nil)) (.node (op3_116 P) (.nil) (.nil)))) (.node (op2_28 P) (.node (op2_44 P) (.node (op3_76 P) (.node (op4_140 P) (.nil) (.nil)) (.nil)) (.node (op3_108 P) (.nil) (.nil))) (.node (op2_60 P) (.node (op3_92 P) (.nil) (.nil)) (.node (op3_124 P) (.nil) (.nil)))))) (.node (boot_o_6 P) (.node (boot_o_10 P) (.node (op0_18 P) (.node (op2_34 P) (.node (op3_66 P) (.node (op3_130 P) (.nil) (.nil)) (.nil)) (.node (op3_98 P) (.nil) (.nil))) (.node (op2_50 P) (.node (op3_82 P) (.nil) (.nil)) (.node (op3_114 P) (.nil) (.nil)))) (.node (op2_26 P) (.node (op2_42 P) (.node (op3_74 P) (.node (op3_138 P) (.nil) (.nil)) (.nil)) (.node (op3_106 P) (.nil) (.nil))) (.node (op2_58 P) (.node (op3_90 P) (.nil) (.nil)) (.node (op3_122 P) (.nil) (.nil))))) (.node (opre_14 P) (.node (op2_22 P) (.node (op2_38 P) (.node (op3_70 P) (.node (op3_134 P) (.nil) (.nil)) (.nil)) (.node (op3_102 P) (.nil) (.nil))) (.node (op2_54 P) (.node (op3_86 P) (.nil) (.nil)) (.node (op3_118 P) (.nil) (.nil)))) (.node (op2_30 P) (.node (op2_46 P) (.node (op3_78 P) (.node (op4_142 P) (.nil) (.nil)) (.nil)) (.node (op3_110 P) (.nil) (.nil))) (.node (op2_62 P) (.node (op3_94 P) (.nil) (.nil)) (.node (op3_126 P) (.nil) (.nil)))))))
noncomputable abbrev op5_3 (P : Params) : Obj := ⟨.type "dict", none, .dict #[⟨PyData.keyHash P "__name__", .str "__name__" 165, .str "cpy313.difflib" 194⟩, ⟨PyData.keyHash P "__doc__", .str "__doc__" 166, .none⟩, ⟨PyData.keyHash P "__package__", .str "__package__" 167, .none⟩, ⟨PyData.keyHash P "__loader__", .str "__loader__" 168, .builtin "__main__.__loader__#opaque"⟩, ⟨PyData.keyHash P "__spec__", .str "__spec__" 169, .none⟩, ⟨PyData.keyHash P "__annotations__", .str "__annotations__" 170, .ref 6⟩, ⟨PyData.keyHash P "__builtins__", .str "__builtins__" 171, .ref 4⟩, ⟨PyData.keyHash P "__file__", .str "__file__" 173, .str "/claim/cut.py" 172⟩, ⟨PyData.keyHash P "__cached__", .str "__cached__" 174, .none⟩, ⟨PyData.keyHash P "_wall", .str "_wall" 193, .ref 21⟩, ⟨PyData.keyHash P "_tuplegetter", .str "_tuplegetter" 252, .ref 60⟩, ⟨PyData.keyHash P "Match", .str "Match" 380, .ref 135⟩, ⟨PyData.keyHash P "_calculate_ratio", .str "_calculate_ratio" 388, .ref 145⟩, ⟨PyData.keyHash P "SequenceMatcher", .str "SequenceMatcher" 582, .ref 242⟩] 14, #[]⟩
noncomputable abbrev op5_12 (P : Params) : Obj := ⟨.none, none, .fields #[.int 1 0, .int 0 0, .ref 20, .int 5 0, .int 0 0, .ref 27, .int 23 0, .int 0 0, .ref 71, .int 66 0, .int 0 0, .ref 144, .int 70 0, .int 0 0, .ref 151], #[]⟩
noncomputable abbrev op5_146 (P : Params) : Obj := ⟨.type "tuple", none, .seq #[] 0, #[]⟩
noncomputable abbrev op5_147 (P : Params) : Obj := ⟨.type "builtin_function_or_method", none, .fields #[.builtin "type.__prepare__", .type "type"], #[]⟩
noncomputable abbrev op5_148 (P : Params) : Obj := ⟨.type "dict", none, .dict #[⟨PyData.keyHash P "__module__", .str "__module__" 396, .str "cpy313.difflib" 194⟩, ⟨PyData.keyHash P "__qualname__", .str "__qualname__" 398, .str "SequenceMatcher" 397⟩, ⟨PyData.keyHash P "__firstlineno__", .str "__firstlineno__" 400, .int 70 399⟩, ⟨PyData.keyHash P "__doc__", .str "__doc__" 402, .str docF 401⟩, ⟨PyData.keyHash P "__init__", .str "__init__" 417, .ref 160⟩, ⟨PyData.keyHash P "set_seqs", .str "set_seqs" 427, .ref 167⟩, ⟨PyData.keyHash P "set_seq1", .str "set_seq1" 436, .ref 174⟩, ⟨PyData.keyHash P "set_seq2", .str "set_seq2" 445, .ref 181⟩, ⟨PyData.keyHash P "_SequenceMatcher__chain_b", .str "_SequenceMatcher__chain_b" 463, .ref 188⟩, ⟨PyData.keyHash P "find_longest_match", .str "find_longest_match" 491, .ref 196⟩, ⟨PyData.keyHash P "get_matching_blocks", .str "get_matching_blocks" 518, .ref 203⟩, ⟨PyData.keyHash P "get_opcodes", .str "get_opcodes" 533, .ref 210⟩, ⟨PyData.keyHash P "get_grouped_opcodes", .str "get_grouped_opcodes" 542, .ref 218⟩, ⟨PyData.keyHash P "ratio", .str "ratio" 551, .ref 225⟩, ⟨PyData.keyHash P "quick_ratio", .str "quick_ratio" 558, .ref 232⟩, ⟨PyData.keyHash P "real_quick_ratio", .str "real_quick_ratio" 565, .ref 239⟩, ⟨PyData.keyHash P "__static_attributes__", .str "__static_attributes__" 576, .ref 240⟩] 17, #[]⟩
noncomputable abbrev op5_149 (P : Params) : Obj := ⟨.type "tuple", none, .seq #[] 0, #[]⟩
noncomputable abbrev op5_150 (P : Params) : Obj := ⟨.none, none, .fields #[.int 145 0, .int 4 0, .ref 159, .int 173 0, .int 4 0, .ref 166, .int 184 0, .int 4 0, .ref 173, .int 209 0, .int 4 0, .ref 180, .int 236 0, .int 4 0, .ref 187, .int 260 0, .int 4 0, .ref 195, .int 335 0, .int 4 0, .ref 202, .int 383 0, .int 4 0, .ref 209, .int 430 0, .int 4 0, .ref 217, .int 433 0, .int 4 0, .ref 224, .int 457 0, .int 4 0, .ref 231, .int 460 0, .int 4 0, .ref 238], #[]⟩
noncomputable abbrev op5_151 (P : Params) : Obj := ⟨.type "code", none, .fields #[.str "SequenceMatcher" 391, .str "SequenceMatcher" 392, .str "/claim/cut.py" 393, .int 70 0, .int 0 0, .int 0 0, .int 0 0, .int 0 0, .ref 149, .bool false, .int 181 0, .ref 150, .none, .none, .none, .none, .int 394 0, .int 70 0, .str "/claim/cut.py" 395], #[]⟩
noncomputable abbrev op5_152 (P : Params) : Obj := ⟨.type "frame", none, .plain, #[some (.ref 151), some (.ref 3), some (.ref 148), none, some (.str "cpy313.difflib" 194), none, some (.ref 0)]⟩
noncomputable abbrev op5_153 (P : Params) : Obj := ⟨.type "tuple", none, .seq #[.none, .str "" 404, .str "" 405, .bool true] 0, #[]⟩
noncomputable abbrev op5_154 (P : Params) : Obj := ⟨.type "tuple", none, .seq #[] 0, #[]⟩
noncomputable abbrev op5_155 (P : Params) : Obj := ⟨.none, none, .fields #[], #[]⟩
noncomputable abbrev op5_156 (P : Params) : Obj := ⟨.type "tuple", none, .seq #[.str "self" 409, .str "isjunk" 410, .str "a" 411, .str "b" 412, .str "autojunk" 413] 0, #[]⟩
noncomputable abbrev op5_157 (P : Params) : Obj := ⟨.type "tuple", none, .seq #[] 0, #[]⟩
noncomputable abbrev op5_158 (P : Params) : Obj := ⟨.none, none, .func ⟨"__init__", "SequenceMatcher.__init__", paramsOf (inCls 5 1), .stmts (bodyOf (inCls 5 1)), scopeOf (inCls 5 1), 0, [], .none, .none, .none, .none, none, .none, .none, 0⟩, #[]⟩
noncomputable abbrev op5_159 (P : Params) : Obj := ⟨.type "code", none, .fields #[.str "__init__" 406, .str "SequenceMatcher.__init__" 407, .str "/claim/cut.py" 408, .int 145 0, .int 5 0, .int 0 0, .int 0 0, .int 3 0, .ref 154, .bool true, .int 181 0, .ref 155, .none, .ref 156, .ref 157, .ref 158, .int 414 0, .int 145 0, .str "/claim/cut.py" 415], #[]⟩
noncomputable abbrev op5_160 (P : Params) : Obj := ⟨.type "function", none, .func ⟨"__init__", "SequenceMatcher.__init__", paramsOf (inCls 5 1), .stmts (bodyOf (inCls 5 1)), scopeOf (inCls 5 1), 3, [], .ref 153, .none, .str (docStr (inCls 5 1)) 416, .str "cpy313.difflib" 194, none, .ref 159, .none, 0⟩, #[]⟩
noncomputable abbrev op5_161 (P : Params) : Obj := ⟨.type "tuple", none, .seq #[] 0, #[]⟩
noncomputable abbrev op5_162 (P : Params) : Obj := ⟨.none, none, .fields #[], #[]⟩
noncomputable abbrev op5_163 (P : Params) : Obj := ⟨.type "tuple", none, .seq #[.str "self" 421, .str "a" 422, .str "b" 423] 0, #[]⟩
noncomputable abbrev op5_164 (P : Params) : Obj := ⟨.type "tuple", none, .seq #[] 0, #[]⟩
noncomputable abbrev op5_165 (P : Params) : Obj := ⟨.none, none, .func ⟨"set_seqs", "SequenceMatcher.set_seqs", paramsOf (inCls 5 2), .stmts (bodyOf (inCls 5 2)), scopeOf (inCls 5 2), 0, [], .none, .none, .none, .none, none, .none, .none, 0⟩, #[]⟩
noncomputable abbrev op5_166 (P : Params) : Obj := ⟨.type "code", none, .fields #[.str "set_seqs" 418, .str "SequenceMatcher.set_seqs" 419, .str "/claim/cut.py" 420, .int 173 0, .int 3 0, .int 0 0, .int 0 0, .int 3 0, .ref 161, .bool true, .int 181 0, .ref 162, .none, .ref 163, .ref 164, .ref 165, .int 424 0, .int 173 0, .str "/claim/cut.py" 425], #[]⟩
noncomputable abbrev op5_167 (P : Params) : Obj := ⟨.type "function", none, .func ⟨"set_seqs", "SequenceMatcher.set_seqs", paramsOf (inCls 5 2), .stmts (bodyOf (inCls 5 2)), scopeOf (inCls 5 2), 3, [], .none, .none, .str (docStr (inCls 5 2)) 426, .str "cpy313.difflib" 194, none, .ref 166, .none, 0⟩, #[]⟩
noncomputable abbrev op5_168 (P : Params) : Obj := ⟨.type "tuple", none, .seq #[] 0, #[]⟩
noncomputable abbrev op5_169 (P : Params) : Obj := ⟨.none, none, .fields #[], #[]⟩
noncomputable abbrev op5_170 (P : Params) : Obj := ⟨.type "tuple", none, .seq #[.str "self" 431, .str "a" 432] 0, #[]⟩
noncomputable abbrev op5_171 (P : Params) : Obj := ⟨.type "tuple", none, .seq #[] 0, #[]⟩
noncomputable abbrev op5_172 (P : Params) : Obj := ⟨.none, none, .func ⟨"set_seq1", "SequenceMatcher.set_seq1", paramsOf (inCls 5 3), .stmts (bodyOf (inCls 5 3)), scopeOf (inCls 5 3), 0, [], .none, .none, .none, .none, none, .none, .none, 0⟩, #[]⟩
noncomputable abbrev op5_173 (P : Params) : Obj := ⟨.type "code", none, .fields #[.str "set_seq1" 428, .str "SequenceMatcher.set_seq1" 429, .str "/claim/cut.py" 430, .int 184 0, .int 2 0, .int 0 0, .int 0 0, .int 3 0, .ref 168, .bool true, .int 181 0, .ref 169, .none, .ref 170, .ref 171, .ref 172, .int 433 0, .int 184 0, .str "/claim/cut.py" 434], #[]⟩
noncomputable abbrev op5_174 (P : Params) : Obj := ⟨.type "function", none, .func ⟨"set_seq1", "SequenceMatcher.set_seq1", paramsOf (inCls 5 3), .stmts (bodyOf (inCls 5 3)), scopeOf (inCls 5 3), 3, [], .none, .none, .str (docStr (inCls 5 3)) 435, .str "cpy313.difflib" 194, none, .ref 173, .none, 0⟩, #[]⟩
noncomputable abbrev op5_175 (P : Params) : Obj := ⟨.type "tuple", none, .seq #[] 0, #[]⟩
noncomputable abbrev op5_176 (P : Params) : Obj := ⟨.none, none, .fields #[], #[]⟩
noncomputable abbrev op5_177 (P : Params) : Obj := ⟨.type "tuple", none, .seq #[.str "self" 440, .str "b" 441] 0, #[]⟩
noncomputable abbrev op5_178 (P : Params) : Obj := ⟨.type "tuple", none, .seq #[] 0, #[]⟩
noncomputable abbrev op5_179 (P : Params) : Obj := ⟨.none, none, .func ⟨"set_seq2", "SequenceMatcher.set_seq2", paramsOf (inCls 5 4), .stmts (bodyOf (inCls 5 4)), scopeOf (inCls 5 4), 0, [], .none, .none, .none, .none, none, .none, .none, 0⟩, #[]⟩
noncomputable abbrev op5_180 (P : Params) : Obj := ⟨.type "code", none, .fields #[.str "set_seq2" 437, .str "SequenceMatcher.set_seq2" 438, .str "/claim/cut.py" 439, .int 209 0, .int 2 0, .int 0 0, .int 0 0, .int 3 0, .ref 175, .bool true, .int 181 0, .ref 176, .none, .ref 177, .ref 178, .ref 179, .int 442 0, .int 209 0, .str "/claim/cut.py" 443], #[]⟩
noncomputable abbrev op5_181 (P : Params) : Obj := ⟨.type "function", none, .func ⟨"set_seq2", "SequenceMatcher.set_seq2", paramsOf (inCls 5 4), .stmts (bodyOf (inCls 5 4)), scopeOf (inCls 5 4), 3, [], .none, .none, .str (docStr (inCls 5 4)) 444, .str "cpy313.difflib" 194, none, .ref 180, .none, 0⟩, #[]⟩
noncomputable abbrev op5_182 (P : Params) : Obj := ⟨.type "tuple", none, .seq #[] 0, #[]⟩
noncomputable abbrev op5_183 (P : Params) : Obj := ⟨.none, none, .fields #[], #[]⟩
noncomputable abbrev op5_184 (P : Params) : Obj := ⟨.type "tuple", none, .seq #[.str "self" 449, .str "b" 450, .str "b2j" 451, .str "i" 452, .str "elt" 453, .str "indices" 454, .str "junk" 455, .str "isjunk" 456, .str "popular" 457, .str "n" 458, .str "ntest" 459, .str "idxs" 460] 0, #[]⟩
noncomputable abbrev op5_185 (P : Params) : Obj := ⟨.type "tuple", none, .seq #[] 0, #[]⟩
noncomputable abbrev op5_186 (P : Params) : Obj := ⟨.none, none, .func ⟨"__chain_b", "SequenceMatcher.__chain_b", paramsOf (inCls 5 5), .stmts (bodyOf (inCls 5 5)), scopeOf (inCls 5 5), 0, [], .none, .none, .none, .none, none, .none, .none, 0⟩, #[]⟩
noncomputable abbrev op5_187 (P : Params) : Obj := ⟨.type "code", none, .fields #[.str "__chain_b" 446, .str "SequenceMatcher.__chain_b" 447, .str "/claim/cut.py" 448, .int 236 0, .int 1 0, .int 0 0, .int 0 0, .int 3 0, .ref 182, .bool true, .int 181 0, .ref 183, .none, .ref 184, .ref 185, .ref 186, .int 461 0, .int 236 0, .str "/claim/cut.py" 462], #[]⟩
noncomputable abbrev op5_188 (P : Params) : Obj := ⟨.type "function", none, .func ⟨"__chain_b", "SequenceMatcher.__chain_b", paramsOf (inCls 5 5), .stmts (bodyOf (inCls 5 5)), scopeOf (inCls 5 5), 3, [], .none, .none, .none, .str "cpy313.difflib" 194, none, .ref 187, .none, 0⟩, #[]⟩
noncomputable abbrev op5_189 (P : Params) : Obj := ⟨.type "tuple", none, .seq #[.int 0 464, .none, .int 0 465, .none] 0, #[]⟩
noncomputable abbrev op5_190 (P : Params) : Obj := ⟨.type "tuple", none, .seq #[] 0, #[]⟩
noncomputable abbrev op5_191 (P : Params) : Obj := ⟨.none, none, .fields #[], #[]⟩
noncomputable abbrev op5_192 (P : Params) : Obj := ⟨.type "tuple", none, .seq #[.str "self" 469, .str "alo" 470, .str "ahi" 471, .str "blo" 472, .str "bhi" 473, .str "a" 474, .str "b" 475, .str "b2j" 476, .str "isbjunk" 477, .str "besti" 478, .str "bestj" 479, .str "bestsize" 480, .str "j2len" 481, .str "nothing" 482, .str "i" 483, .str "j2lenget" 484, .str "newj2len" 485, .str "j" 486, .str "k" 487] 0, #[]⟩
noncomputable abbrev op5_193 (P : Params) : Obj := ⟨.type "tuple", none, .seq #[] 0, #[]⟩
noncomputable abbrev op5_194 (P : Params) : Obj := ⟨.none, none, .func ⟨"find_longest_match", "SequenceMatcher.find_longest_match", paramsOf (inCls 5 6), .stmts (bodyOf (inCls 5 6)), scopeOf (inCls 5 6), 0, [], .none, .none, .none, .none, none, .none, .none, 0⟩, #[]⟩
noncomputable abbrev op5_195 (P : Params) : Obj := ⟨.type "code", none, .fields #[.str "find_longest_match" 466, .str "SequenceMatcher.find_longest_match" 467, .str "/claim/cut.py" 468, .int 260 0, .int 5 0, .int 0 0, .int 0 0, .int 3 0, .ref 190, .bool true, .int 181 0, .ref 191, .none, .ref 192, .ref 193, .ref 194, .int 488 0, .int 260 0, .str "/claim/cut.py" 489], #[]⟩
noncomputable abbrev op5_196 (P : Params) : Obj := ⟨.type "function", none, .func ⟨"find_longest_match", "SequenceMatcher.find_longest_match", paramsOf (inCls 5 6), .stmts (bodyOf (inCls 5 6)), scopeOf (inCls 5 6), 3, [], .ref 189, .none, .str (docStr (inCls 5 6)) 490, .str "cpy313.difflib" 194, none, .ref 195, .none, 0⟩, #[]⟩
noncomputable abbrev op5_197 (P : Params) : Obj := ⟨.type "tuple", none, .seq #[] 0, #[]⟩
noncomputable abbrev op5_198 (P : Params) : Obj := ⟨.none, none, .fields #[], #[]⟩
noncomputable abbrev op5_199 (P : Params) : Obj := ⟨.type "tuple", none, .seq #[.str "self" 495, .str "la" 496, .str "lb" 497, .str "queue" 498, .str "matching_blocks" 499, .str "alo" 500, .str "ahi" 501, .str "blo" 502, .str "bhi" 503, .str "i" 504, .str "j" 505, .str "k" 506, .str "x" 507, .str "i1" 508, .str "j1" 509, .str "k1" 510, .str "non_adjacent" 511, .str "i2" 512, .str "j2" 513, .str "k2" 514] 0, #[]⟩
noncomputable abbrev op5_200 (P : Params) : Obj := ⟨.type "tuple", none, .seq #[] 0, #[]⟩
noncomputable abbrev op5_201 (P : Params) : Obj := ⟨.none, none, .func ⟨"get_matching_blocks", "SequenceMatcher.get_matching_blocks", paramsOf (inCls 5 7), .stmts (bodyOf (inCls 5 7)), scopeOf (inCls 5 7), 0, [], .none, .none, .none, .none, none, .none, .none, 0⟩, #[]⟩
noncomputable abbrev op5_202 (P : Params) : Obj := ⟨.type "code", none, .fields #[.str "get_matching_blocks" 492, .str "SequenceMatcher.get_matching_blocks" 493, .str "/claim/cut.py" 494, .int 335 0, .int 1 0, .int 0 0, .int 0 0, .int 3 0, .ref 197, .bool true, .int 181 0, .ref 198, .none, .ref 199, .ref 200, .ref 201, .int 515 0, .int 335 0, .str "/claim/cut.py" 516], #[]⟩
noncomputable abbrev op5_203 (P : Params) : Obj := ⟨.type "function", none, .func ⟨"get_matching_blocks", "SequenceMatcher.get_matching_blocks", paramsOf (inCls 5 7), .stmts (bodyOf (inCls 5 7)), scopeOf (inCls 5 7), 3, [], .none, .none, .str (docStr (inCls 5 7)) 517, .str "cpy313.difflib" 194, none, .ref 202, .none, 0⟩, #[]⟩
noncomputable abbrev op5_204 (P : Params) : Obj := ⟨.type "tuple", none, .seq #[] 0, #[]⟩
noncomputable abbrev op5_205 (P : Params) : Obj := ⟨.none, none, .fields #[], #[]⟩
noncomputable abbrev op5_206 (P : Params) : Obj := ⟨.type "tuple", none, .seq #[.str "self" 522, .str "i" 523, .str "j" 524, .str "answer" 525, .str "ai" 526, .str "bj" 527, .str "size" 528, .str "tag" 529] 0, #[]⟩
noncomputable abbrev op5_207 (P : Params) : Obj := ⟨.type "tuple", none, .seq #[] 0, #[]⟩
noncomputable abbrev op5_208 (P : Params) : Obj := ⟨.none, none, .func ⟨"get_opcodes", "SequenceMatcher.get_opcodes", paramsOf (inCls 5 8), .stmts (bodyOf (inCls 5 8)), scopeOf (inCls 5 8), 0, [], .none, .none, .none, .none, none, .none, .none, 0⟩, #[]⟩
noncomputable abbrev op5_209 (P : Params) : Obj := ⟨.type "code", none, .fields #[.str "get_opcodes" 519, .str "SequenceMatcher.get_opcodes" 520, .str "/claim/cut.py" 521, .int 383 0, .int 1 0, .int 0 0, .int 0 0, .int 3 0, .ref 204, .bool true, .int 181 0, .ref 205, .none, .ref 206, .ref 207, .ref 208, .int 530 0, .int 383 0, .str "/claim/cut.py" 531], #[]⟩
noncomputable abbrev op5_210 (P : Params) : Obj := ⟨.type "function", none, .func ⟨"get_opcodes", "SequenceMatcher.get_opcodes", paramsOf (inCls 5 8), .stmts (bodyOf (inCls 5 8)), scopeOf (inCls 5 8), 3, [], .none, .none, .str (docStr (inCls 5 8)) 532, .str "cpy313.difflib" 194, none, .ref 209, .none, 0⟩, #[]⟩
noncomputable abbrev op5_211 (P : Params) : Obj := ⟨.type "tuple", none, .seq #[.int 3 534] 0, #[]⟩
noncomputable abbrev op5_212 (P : Params) : Obj := ⟨.type "tuple", none, .seq #[] 0, #[]⟩
noncomputable abbrev op5_213 (P : Params) : Obj := ⟨.none, none, .fields #[], #[]⟩
noncomputable abbrev op5_214 (P : Params) : Obj := ⟨.type "tuple", none, .seq #[.str "self" 538, .str "n" 539] 0, #[]⟩
noncomputable abbrev op5_215 (P : Params) : Obj := ⟨.type "tuple", none, .seq #[] 0, #[]⟩
noncomputable abbrev op5_216 (P : Params) : Obj := ⟨.none, none, .func ⟨"get_grouped_opcodes", "SequenceMatcher.get_grouped_opcodes", paramsOf (inCls 5 9), .stmts (bodyOf (inCls 5 9)), scopeOf (inCls 5 9), 0, [], .none, .none, .none, .none, none, .none, .none, 0⟩, #[]⟩
noncomputable abbrev op5_217 (P : Params) : Obj := ⟨.type "code", none, .fields #[.str "get_grouped_opcodes" 535, .str "SequenceMatcher.get_grouped_opcodes" 536, .str "/claim/cut.py" 537, .int 430 0, .int 2 0, .int 0 0, .int 0 0, .int 3 0, .ref 212, .bool true, .int 181 0, .ref 213, .none, .ref 214, .ref 215, .ref 216, .int 540 0, .int 430 0, .str "/claim/cut.py" 541], #[]⟩
noncomputable abbrev op5_218 (P : Params) : Obj := ⟨.type "function", none, .func ⟨"get_grouped_opcodes", "SequenceMatcher.get_grouped_opcodes", paramsOf (inCls 5 9), .stmts (bodyOf (inCls 5 9)), scopeOf (inCls 5 9), 3, [], .ref 211, .none, .none, .str "cpy313.difflib" 194, none, .ref 217, .none, 0⟩, #[]⟩
noncomputable abbrev op5_219 (P : Params) : Obj := ⟨.type "tuple", none, .seq #[] 0, #[]⟩
noncomputable abbrev op5_220 (P : Params) : Obj := ⟨.none, none, .fields #[], #[]⟩
noncomputable abbrev op5_221 (P : Params) : Obj := ⟨.type "tuple", none, .seq #[.str "self" 546, .str "matches" 547] 0, #[]⟩
noncomputable abbrev op5_222 (P : Params) : Obj := ⟨.type "tuple", none, .seq #[] 0, #[]⟩
noncomputable abbrev op5_223 (P : Params) : Obj := ⟨.none, none, .func ⟨"ratio", "SequenceMatcher.ratio", paramsOf (inCls 5 10), .stmts (bodyOf (inCls 5 10)), scopeOf (inCls 5 10), 0, [], .none, .none, .none, .none, none, .none, .none, 0⟩, #[]⟩
noncomputable abbrev op5_224 (P : Params) : Obj := ⟨.type "code", none, .fields #[.str "ratio" 543, .str "SequenceMatcher.ratio" 544, .str "/claim/cut.py" 545, .int 433 0, .int 1 0, .int 0 0, .int 0 0, .int 3 0, .ref 219, .bool true, .int 181 0, .ref 220, .none, .ref 221, .ref 222, .ref 223, .int 548 0, .int 433 0, .str "/claim/cut.py" 549], #[]⟩
noncomputable abbrev op5_225 (P : Params) : Obj := ⟨.type "function", none, .func ⟨"ratio", "SequenceMatcher.ratio", paramsOf (inCls 5 10), .stmts (bodyOf (inCls 5 10)), scopeOf (inCls 5 10), 3, [], .none, .none, .str (docStr (inCls 5 10)) 550, .str "cpy313.difflib" 194, none, .ref 224, .none, 0⟩, #[]⟩
noncomputable abbrev op5_226 (P : Params) : Obj := ⟨.type "tuple", none, .seq #[] 0, #[]⟩
noncomputable abbrev op5_227 (P : Params) : Obj := ⟨.none, none, .fields #[], #[]⟩
noncomputable abbrev op5_228 (P : Params) : Obj := ⟨.type "tuple", none, .seq #[.str "self" 555] 0, #[]⟩
noncomputable abbrev op5_229 (P : Params) : Obj := ⟨.type "tuple", none, .seq #[] 0, #[]⟩
noncomputable abbrev op5_230 (P : Params) : Obj := ⟨.none, none, .func ⟨"quick_ratio", "SequenceMatcher.quick_ratio", paramsOf (inCls 5 11), .stmts (bodyOf (inCls 5 11)), scopeOf (inCls 5 11), 0, [], .none, .none, .none, .none, none, .none, .none, 0⟩, #[]⟩
noncomputable abbrev op5_231 (P : Params) : Obj := ⟨.type "code", none, .fields #[.str "quick_ratio" 552, .str "SequenceMatcher.quick_ratio" 553, .str "/claim/cut.py" 554, .int 457 0, .int 1 0, .int 0 0, .int 0 0, .int 3 0, .ref 226, .bool true, .int 181 0, .ref 227, .none, .ref 228, .ref 229, .ref 230, .int 556 0, .int 457 0, .str "/claim/cut.py" 557], #[]⟩
noncomputable abbrev op5_232 (P : Params) : Obj := ⟨.type "function", none, .func ⟨"quick_ratio", "SequenceMatcher.quick_ratio", paramsOf (inCls 5 11), .stmts (bodyOf (inCls 5 11)), scopeOf (inCls 5 11), 3, [], .none, .none, .none, .str "cpy313.difflib" 194, none, .ref 231, .none, 0⟩, #[]⟩
noncomputable abbrev op5_233 (P : Params) : Obj := ⟨.type "tuple", none, .seq #[] 0, #[]⟩
noncomputable abbrev op5_234 (P : Params) : Obj := ⟨.none, none, .fields #[], #[]⟩
noncomputable abbrev op5_235 (P : Params) : Obj := ⟨.type "tuple", none, .seq #[.str "self" 562] 0, #[]⟩
noncomputable abbrev op5_236 (P : Params) : Obj := ⟨.type "tuple", none, .seq #[] 0, #[]⟩
noncomputable abbrev op5_237 (P : Params) : Obj := ⟨.none, none, .func ⟨"real_quick_ratio", "SequenceMatcher.real_quick_ratio", paramsOf (inCls 5 12), .stmts (bodyOf (inCls 5 12)), scopeOf (inCls 5 12), 0, [], .none, .none, .none, .none, none, .none, .none, 0⟩, #[]⟩
noncomputable abbrev op5_238 (P : Params) : Obj := ⟨.type "code", none, .fields #[.str "real_quick_ratio" 559, .str "SequenceMatcher.real_quick_ratio" 560, .str "/claim/cut.py" 561, .int 460 0, .int 1 0, .int 0 0, .int 0 0, .int 3 0, .ref 233, .bool true, .int 181 0, .ref 234, .none, .ref 235, .ref 236, .ref 237, .int 563 0, .int 460 0, .str "/claim/cut.py" 564], #[]⟩
noncomputable abbrev op5_239 (P : Params) : Obj := ⟨.type "function", none, .func ⟨"real_quick_ratio", "SequenceMatcher.real_quick_ratio", paramsOf (inCls 5 12), .stmts (bodyOf (inCls 5 12)), scopeOf (inCls 5 12), 3, [], .none, .none, .none, .str "cpy313.difflib" 194, none, .ref 238, .none, 0⟩, #[]⟩
noncomputable abbrev op5_240 (P : Params) : Obj := ⟨.type "tuple", none, .seq #[.str "a" 566, .str "autojunk" 567, .str "b" 568, .str "b2j" 569, .str "bjunk" 570, .str "bpopular" 571, .str "fullbcount" 572, .str "isjunk" 573, .str "matching_blocks" 574, .str "opcodes" 575] 0, #[]⟩
noncomputable abbrev op5_241 (P : Params) : Obj := ⟨.type "dict", none, .dict #[⟨PyData.keyHash P "__module__", .str "__module__" 396, .str "cpy313.difflib" 194⟩, ⟨PyData.keyHash P "__firstlineno__", .str "__firstlineno__" 400, .int 70 399⟩, ⟨PyData.keyHash P "__doc__", .str "__doc__" 402, .str docF 401⟩, ⟨PyData.keyHash P "__init__", .str "__init__" 417, .ref 160⟩, ⟨PyData.keyHash P "set_seqs", .str "set_seqs" 427, .ref 167⟩, ⟨PyData.keyHash P "set_seq1", .str "set_seq1" 436, .ref 174⟩, ⟨PyData.keyHash P "set_seq2", .str "set_seq2" 445, .ref 181⟩, ⟨PyData.keyHash P "_SequenceMatcher__chain_b", .str "_SequenceMatcher__chain_b" 463, .ref 188⟩, ⟨PyData.keyHash P "find_longest_match", .str "find_longest_match" 491, .ref 196⟩, ⟨PyData.keyHash P "get_matching_blocks", .str "get_matching_blocks" 518, .ref 203⟩, ⟨PyData.keyHash P "get_opcodes", .str "get_opcodes" 533, .ref 210⟩, ⟨PyData.keyHash P "get_grouped_opcodes", .str "get_grouped_opcodes" 542, .ref 218⟩, ⟨PyData.keyHash P "ratio", .str "ratio" 551, .ref 225⟩, ⟨PyData.keyHash P "quick_ratio", .str "quick_ratio" 558, .ref 232⟩, ⟨PyData.keyHash P "real_quick_ratio", .str "real_quick_ratio" 565, .ref 239⟩, ⟨PyData.keyHash P "__static_attributes__", .str "__static_attributes__" 576, .ref 240⟩, ⟨PyData.keyHash P "__dict__", .str "__dict__" 578, .ref 243⟩, ⟨PyData.keyHash P "__weakref__", .str "__weakref__" 580, .ref 244⟩] 3, #[]⟩
noncomputable abbrev op5_242 (P : Params) : Obj := ⟨.type "type", none, .cls ⟨"SequenceMatcher", [.type "object"], [.ref 242, .type "object"], 241, "SequenceMatcher", true, [], [], false, none, false⟩, #[none, none, some (.str "SequenceMatcher" 389), some (.str "SequenceMatcher" 397), some (.builtin "object.__new__"), some (.bool true)]⟩
noncomputable abbrev op5_243 (P : Params) : Obj := ⟨.type "getset_descriptor", none, .fields #[.str "__dict__" 577, .ref 242, .builtin "function.__dict__", .builtin "function.__dict__#set"], #[]⟩
noncomputable abbrev op5_244 (P : Params) : Obj := ⟨.type "getset_descriptor", none, .fields #[.str "__weakref__" 579, .ref 242, .builtin "ExceptionGroup.__weakref__", .none], #[]⟩
noncomputable abbrev op5_245 (P : Params) : Obj := ⟨.type "super", none, .fields #[.ref 242, .ref 242, .ref 242], #[]⟩
noncomputable abbrev op5_246 (P : Params) : Obj := ⟨.type "builtin_function_or_method", none, .fields #[.builtin "object.__init_subclass__", .ref 242], #[]⟩
noncomputable def t_p5 (P : Params) : BT := .node (boot_o_0 P) (.node (boot_o_1 P) (.node (op5_3 P) (.node (boot_o_7 P) (.node (op0_15 P) (.node (op2_31 P) (.node (op2_63 P) (.node (op3_127 P) (.nil) (.nil)) (.node (op5_191 P) (.nil) (.nil))) (.node (op3_95 P) (.node (op5_159 P) (.nil) (.nil)) (.node (op5_223 P) (.nil) (.nil)))) (.node (op2_47 P) (.node (op3_79 P) (.node (op4_143 P) (.nil) (.nil)) (.node (op5_207 P) (.nil) (.nil))) (.node (op3_111 P) (.node (op5_175 P) (.nil) (.nil)) (.node (op5_239 P) (.nil) (.nil))))) (.node (op2_23 P) (.node (op2_39 P) (.node (op3_71 P) (.node (op3_135 P) (.nil) (.nil)) (.node (op5_199 P) (.nil) (.nil))) (.node (op3_103 P) (.node (op5_167 P) (.nil) (.nil)) (.node (op5_231 P) (.nil) (.nil)))) (.node (op2_55 P) (.node (op3_87 P) (.node (op5_151 P) (.nil) (.nil)) (.node (op5_215 P) (.nil) (.nil))) (.node (op3_119 P) (.node (op5_183 P) (.nil) (.nil)) (.nil))))) (.node (opre_11 P) (.node (op0_19 P) (.node (op2_35 P) (.node (op3_67 P) (.node (op3_131 P) (.nil) (.nil)) (.node (op5_195 P) (.nil) (.nil))) (.node (op3_99 P) (.node (op5_163 P) (.nil) (.nil)) (.node (op5_227 P) (.nil) (.nil)))) (.node (op2_51 P) (.node (op3_83 P) (.node (op5_147 P) (.nil) (.nil)) (.node (op5_211 P) (.nil) (.nil))) (.node (op3_115 P) (.node (op5_179 P) (.nil) (.nil)) (.node (op5_243 P) (.nil) (.nil))))) (.node (op2_27 P) (.node (op2_43 P) (.node (op3_75 P) (.node (op4_139 P) (.nil) (.nil)) (.node (op5_203 P) (.nil) (.nil))) (.node (op3_107 P) (.node (op5_171 P) (.nil) (.nil)) (.node (op5_235 P) (.nil) (.nil)))) (.node (op2_59 P) (.node (op3_91 P) (.node (op5_155 P) (.nil) (.nil)) (.node (op5_219 P) (.nil) (.nil))) (.node (op3_123 P) (.node (op5_187 P) (.nil) (.nil)) (.nil)))))) (.node (boot_o_5 P) (.node (boot_o_9 P) (.node (op0_17 P) (.node (op2_33 P) (.node (op3_65 P) (.node (op3_129 P) (.nil) (.nil)) (.node (op5_193 P) (.nil) (.nil))) (.node (op3_97 P) (.node (op5_161 P) (.nil) (.nil)) (.node (op5_225 P) (.nil) (.nil)))) (.node (op2_49 P) (.node (op3_81 P) (.node (op4_145 P) (.nil) (.nil)) (.node (op5_209 P) (.nil) (.nil))) (.node (op3_113 P) (.node (op5_177 P) (.nil) (.nil)) (.node (op5_241 P) (.nil) (.nil))))) (.node (op2_25 P) (.node (op2_41 P) (.node (op3_73 P) (.node (op3_137 P) (.nil) (.nil)) (.node (op5_201 P) (.nil) (.nil))) (.node (op3_105 P) (.node (op5_169 P) (.nil) (.nil)) (.node (op5_233 P) (.nil) (.nil)))) (.node (op2_57 P) (.node (op3_89 P) (.node (op5_153 P) (.nil) (.nil)) (.node (op5_217 P) (.nil) (.nil))) (.node (op3_121 P) (.node (op5_185 P) (.nil) (.nil)) (.nil))))) (.node (opre_13 P) (.node (op0_21 P) (.node (op2_37 P) (.node (op3_69 P) (.node (op3_133 P) (.nil) (.nil)) (.node (op5_197 P) (.nil) (.nil))) (.node (op3_101 P) (.node (op5_165 P) (.nil) (.nil)) (.node (op5_229 P) (.nil) (.nil)))) (.node (op2_53 P) (.node (op3_85 P) (.node (op5_149 P) (.nil) (.nil)) (.node (op5_213 P) (.nil) (.nil))) (.node (op3_117 P) (.node (op5_181 P) (.nil) (.nil)) (.node (op5_245 P) (.nil) (.nil))))) (.node (op2_29 P) (.node (op2_45 P) (.node (op3_77 P) (.node (op4_141 P) (.nil) (.nil)) (.node (op5_205 P) (.nil) (.nil))) (.node (op3_109 P) (.node (op5_173 P) (.nil) (.nil)) (.node (op5_237 P) (.nil) (.nil)))) (.node (op2_61 P) (.node (op3_93 P) (.node (op5_157 P) (.nil) (.nil)) (.node (op5_221 P) (.nil) (.nil))) (.node (op3_125 P) (.node (op5_189 P) (.nil) (.nil)) (.nil))))))) (.node (boot_o_2 P) (.node (boot_o_4 P) (.node (boot_o_8 P) (.node (op0_16 P) (.node (op2_32 P) (.node (op2_64 P) (.node (op3_128 P) (.nil) (.nil)) (.node (op5_192 P) (.nil) (.nil))) (.node (op3_96 P) (.node (op5_160 P) (.nil) (.nil)) (.node (op5_224 P) (.nil) (.nil)))) (.node (op2_48 P) (.node (op3_80 P) (.node (op4_144 P) (.nil) (.nil)) (.node (op5_208 P) (.nil) (.nil))) (.node (op3_112 P) (.node (op5_176 P) (.nil) (.nil)) (.node (op5_240 P) (.nil) (.nil))))) (.node (op2_24 P) (.node (op2_40 P) (.node (op3_72 P) (.node (op3_136 P) (.nil) (.nil)) (.node (op5_200 P) (.nil) (.nil))) (.node (op3_104 P) (.node (op5_168 P) (.nil) (.nil)) (.node (op5_232 P) (.nil) (.nil)))) (.node (op2_56 P) (.node (op3_88 P) (.node (op5_152 P) (.nil) (.nil)) (.node (op5_216 P) (.nil) (.nil))) (.node (op3_120 P) (.node (op5_184 P) (.nil) (.nil)) (.nil))))) (.node (op5_12 P) (.node (op0_20 P) (.node (op2_36 P) (.node (op3_68 P) (.node (op3_132 P) (.nil) (.nil)) (.node (op5_196 P) (.nil) (.nil))) (.node (op3_100 P) (.node (op5_164 P) (.nil) (.nil)) (.node (op5_228 P) (.nil) (.nil)))) (.node (op2_52 P) (.node (op3_84 P) (.node (op5_148 P) (.nil) (.nil)) (.node (op5_212 P) (.nil) (.nil))) (.node (op3_116 P) (.node (op5_180 P) (.nil) (.nil)) (.node (op5_244 P) (.nil) (.nil))))) (.node (op2_28 P) (.node (op2_44 P) (.node (op3_76 P) (.node (op4_140 P) (.nil) (.nil)) (.node (op5_204 P) (.nil) (.nil))) (.node (op3_108 P) (.node (op5_172 P) (.nil) (.nil)) (.node (op5_236 P) (.nil) (.nil)))) (.node (op2_60 P) (.node (op3_92 P) (.node (op5_156 P) (.nil) (.nil)) (.node (op5_220 P) (.nil) (.nil))) (.node (op3_124 P) (.node (op5_188 P) (.nil) (.nil)) (.nil)))))) (.node (boot_o_6 P) (.node (boot_o_10 P) (.node (op0_18 P) (.node (op2_34 P) (.node (op3_66 P) (.node (op3_130 P) (.nil) (.nil)) (.node (op5_194 P) (.nil) (.nil))) (.node (op3_98 P) (.node (op5_162 P) (.nil) (.nil)) (.node (op5_226 P) (.nil) (.nil)))) (.node (op2_50 P) (.node (op3_82 P) (.node (op5_146 P) (.nil) (.nil)) (.node (op5_210 P) (.nil) (.nil))) (.node (op3_114 P) (.node (op5_178 P) (.nil) (.nil)) (.node (op5_242 P) (.nil) (.nil))))) (.node (op2_26 P) (.node (op2_42 P) (.node (op3_74 P) (.node (op3_138 P) (.nil) (.nil)) (.node (op5_202 P) (.nil) (.nil))) (.node (op3_106 P) (.node (op5_170 P) (.nil) (.nil)) (.node (op5_234 P) (.nil) (.nil)))) (.node (op2_58 P) (.node (op3_90 P) (.node (op5_154 P) (.nil) (.nil)) (.node (op5_218 P) (.nil) (.nil))) (.node (op3_122 P) (.node (op5_186 P) (.nil) (.nil)) (.nil))))) (.node (opre_14 P) (.node (op2_22 P) (.node (op2_38 P) (.node (op3_70 P) (.node (op3_134 P) (.nil) (.nil)) (.node (op5_198 P) (.nil) (.nil))) (.node (op3_102 P) (.node (op5_166 P) (.nil) (.nil)) (.node (op5_230 P) (.nil) (.nil)))) (.node (op2_54 P) (.node (op3_86 P) (.node (op5_150 P) (.nil) (.nil)) (.node (op5_214 P) (.nil) (.nil))) (.node (op3_118 P) (.node (op5_182 P) (.nil) (.nil)) (.node (op5_246 P) (.nil) (.nil))))) (.node (op2_30 P) (.node (op2_46 P) (.node (op3_78 P) (.node (op4_142 P) (.nil) (.nil)) (.node (op5_206 P) (.nil) (.nil))) (.node (op3_110 P) (.node (op5_174 P) (.nil) (.nil)) (.node (op5_238 P) (.nil) (.nil)))) (.node (op2_62 P) (.node (op3_94 P) (.node (op5_158 P) (.nil) (.nil)) (.node (op5_222 P) (.nil) (.nil))) (.node (op3_126 P) (.node (op5_190 P) (.nil) (.nil)) (.nil)))))))
noncomputable abbrev op13_3 (P : Params) : Obj := ⟨.type "dict", none, .dict #[⟨PyData.keyHash P "__name__", .str "__name__" 165, .str "law_sc0002_01" 593⟩, ⟨PyData.keyHash P "__doc__", .str "__doc__" 166, .none⟩, ⟨PyData.keyHash P "__package__", .str "__package__" 167, .none⟩, ⟨PyData.keyHash P "__loader__", .str "__loader__" 168, .builtin "__main__.__loader__#opaque"⟩, ⟨PyData.keyHash P "__spec__", .str "__spec__" 169, .none⟩, ⟨PyData.keyHash P "__annotations__", .str "__annotations__" 170, .ref 6⟩, ⟨PyData.keyHash P "__builtins__", .str "__builtins__" 171, .ref 4⟩, ⟨PyData.keyHash P "__file__", .str "__file__" 173, .str "/claim/cut.py" 172⟩, ⟨PyData.keyHash P "__cached__", .str "__cached__" 174, .none⟩, ⟨PyData.keyHash P "_wall", .str "_wall" 193, .ref 21⟩, ⟨PyData.keyHash P "_tuplegetter", .str "_tuplegetter" 252, .ref 60⟩, ⟨PyData.keyHash P "Match", .str "Match" 380, .ref 135⟩, ⟨PyData.keyHash P "_calculate_ratio", .str "_calculate_ratio" 388, .ref 145⟩, ⟨PyData.keyHash P "SequenceMatcher", .str "SequenceMatcher" 582, .ref 242⟩, ⟨PyData.keyHash P "IS_CHARACTER_JUNK", .str "IS_CHARACTER_JUNK" 592, .ref 254⟩, ⟨PyData.keyHash P "_law_kept", .str "_law_kept" 606, .ref 261⟩, ⟨PyData.keyHash P "_law_reach", .str "_law_reach" 616, .ref 268⟩, ⟨PyData.keyHash P "_law_pairs", .str "_law_pairs" 622, .ref 273⟩, ⟨PyData.keyHash P "_law_codes", .str "_law_codes" 637, .ref 280⟩, ⟨PyData.keyHash P "_law_told", .str "_law_told" 650, .ref 287⟩, ⟨PyData.keyHash P "law", .str "law" 670, .ref 294⟩] 21, #[]⟩
noncomputable abbrev op13_12 (P : Params) : Obj := ⟨.none, none, .fields #[.int 1 0, .int 0 0, .ref 20, .int 5 0, .int 0 0, .ref 27, .int 23 0, .int 0 0, .ref 71, .int 66 0, .int 0 0, .ref 144, .int 70 0, .int 0 0, .ref 151, .int 462 0, .int 0 0, .ref 253, .int 479 0, .int 0 0, .ref 260, .int 487 0, .int 0 0, .ref 267, .int 494 0, .int 0 0, .ref 272, .int 508 0, .int 0 0, .ref 279, .int 521 0, .int 0 0, .ref 286, .int 528 0, .int 0 0, .ref 293], #[]⟩
noncomputable abbrev op13_247 (P : Params) : Obj := ⟨.type "tuple", none, .seq #[.str " \t" 583] 0, #[]⟩
noncomputable abbrev op13_248 (P : Params) : Obj := ⟨.type "tuple", none, .seq #[] 0, #[]⟩
noncomputable abbrev op13_249 (P : Params) : Obj := ⟨.none, none, .fields #[], #[]⟩
noncomputable abbrev op13_250 (P : Params) : Obj := ⟨.type "tuple", none, .seq #[.str "ch" 587, .str "ws" 588] 0, #[]⟩
noncomputable abbrev op13_251 (P : Params) : Obj := ⟨.type "tuple", none, .seq #[] 0, #[]⟩
noncomputable abbrev op13_252 (P : Params) : Obj := ⟨.none, none, .func ⟨"IS_CHARACTER_JUNK", "IS_CHARACTER_JUNK", paramsOf (topAt 6), .stmts (bodyOf (topAt 6)), scopeOf (topAt 6), 0, [], .none, .none, .none, .none, none, .none, .none, 0⟩, #[]⟩
noncomputable abbrev op13_253 (P : Params) : Obj := ⟨.type "code", none, .fields #[.str "IS_CHARACTER_JUNK" 584, .str "IS_CHARACTER_JUNK" 585, .str "/claim/cut.py" 586, .int 462 0, .int 2 0, .int 0 0, .int 0 0, .int 3 0, .ref 248, .bool true, .int 181 0, .ref 249, .none, .ref 250, .ref 251, .ref 252, .int 589 0, .int 462 0, .str "/claim/cut.py" 590], #[]⟩
noncomputable abbrev op13_254 (P : Params) : Obj := ⟨.type "function", none, .func ⟨"IS_CHARACTER_JUNK", "IS_CHARACTER_JUNK", paramsOf (topAt 6), .stmts (bodyOf (topAt 6)), scopeOf (topAt 6), 3, [], .ref 247, .none, .str (docStr (topAt 6)) 591, .str "cpy313.difflib" 194, none, .ref 253, .none, 0⟩, #[]⟩
noncomputable abbrev op13_255 (P : Params) : Obj := ⟨.type "tuple", none, .seq #[] 0, #[]⟩
noncomputable abbrev op13_256 (P : Params) : Obj := ⟨.none, none, .fields #[], #[]⟩
noncomputable abbrev op13_257 (P : Params) : Obj := ⟨.type "tuple", none, .seq #[.str "script" 598, .str "most" 599, .str "wide" 600, .str "kept" 601, .str "at" 602, .str "number" 603] 0, #[]⟩
noncomputable abbrev op13_258 (P : Params) : Obj := ⟨.type "tuple", none, .seq #[] 0, #[]⟩
noncomputable abbrev op13_259 (P : Params) : Obj := ⟨.none, none, .func ⟨"_law_kept", "_law_kept", paramsOf (topAt 8), .stmts (bodyOf (topAt 8)), scopeOf (topAt 8), 0, [], .none, .none, .none, .none, none, .none, .none, 0⟩, #[]⟩
noncomputable abbrev op13_260 (P : Params) : Obj := ⟨.type "code", none, .fields #[.str "_law_kept" 595, .str "_law_kept" 596, .str "/claim/cut.py" 597, .int 479 0, .int 3 0, .int 0 0, .int 0 0, .int 3 0, .ref 255, .bool true, .int 181 0, .ref 256, .none, .ref 257, .ref 258, .ref 259, .int 604 0, .int 479 0, .str "/claim/cut.py" 605], #[]⟩
noncomputable abbrev op13_261 (P : Params) : Obj := ⟨.type "function", none, .func ⟨"_law_kept", "_law_kept", paramsOf (topAt 8), .stmts (bodyOf (topAt 8)), scopeOf (topAt 8), 3, [], .none, .none, .none, .str "law_sc0002_01" 593, none, .ref 260, .none, 0⟩, #[]⟩
noncomputable abbrev op13_262 (P : Params) : Obj := ⟨.type "tuple", none, .seq #[] 0, #[]⟩
noncomputable abbrev op13_263 (P : Params) : Obj := ⟨.none, none, .fields #[], #[]⟩
noncomputable abbrev op13_264 (P : Params) : Obj := ⟨.type "tuple", none, .seq #[.str "one" 610, .str "two" 611, .str "junk" 612, .str "far" 613] 0, #[]⟩
noncomputable abbrev op13_265 (P : Params) : Obj := ⟨.type "tuple", none, .seq #[] 0, #[]⟩
noncomputable abbrev op13_266 (P : Params) : Obj := ⟨.none, none, .func ⟨"_law_reach", "_law_reach", paramsOf (topAt 9), .stmts (bodyOf (topAt 9)), scopeOf (topAt 9), 0, [], .none, .none, .none, .none, none, .none, .none, 0⟩, #[]⟩
noncomputable abbrev op13_267 (P : Params) : Obj := ⟨.type "code", none, .fields #[.str "_law_reach" 607, .str "_law_reach" 608, .str "/claim/cut.py" 609, .int 487 0, .int 3 0, .int 0 0, .int 0 0, .int 3 0, .ref 262, .bool true, .int 181 0, .ref 263, .none, .ref 264, .ref 265, .ref 266, .int 614 0, .int 487 0, .str "/claim/cut.py" 615], #[]⟩
noncomputable abbrev op13_268 (P : Params) : Obj := ⟨.type "function", none, .func ⟨"_law_reach", "_law_reach", paramsOf (topAt 9), .stmts (bodyOf (topAt 9)), scopeOf (topAt 9), 3, [], .none, .none, .none, .str "law_sc0002_01" 593, none, .ref 267, .none, 0⟩, #[]⟩
noncomputable abbrev op13_269 (P : Params) : Obj := ⟨.type "tuple", none, .seq #[] 0, #[]⟩
noncomputable abbrev op13_270 (P : Params) : Obj := ⟨.none, none, .fields #[], #[]⟩
noncomputable abbrev op13_271 (P : Params) : Obj := ⟨.none, none, .func ⟨"_law_pairs", "_law_pairs", paramsOf (topAt 10), .stmts (bodyOf (topAt 10)), scopeOf (topAt 10), 0, [], .none, .none, .none, .none, none, .none, .none, 0⟩, #[]⟩
noncomputable abbrev op13_272 (P : Params) : Obj := ⟨.type "code", none, .fields #[.str "_law_pairs" 617, .str "_law_pairs" 618, .str "/claim/cut.py" 619, .int 494 0, .int 8 0, .int 0 0, .int 0 0, .int 3 0, .ref 269, .bool true, .int 181 0, .ref 270, .none, .none, .none, .ref 271, .int 620 0, .int 494 0, .str "/claim/cut.py" 621], #[]⟩
noncomputable abbrev op13_273 (P : Params) : Obj := ⟨.type "function", none, .func ⟨"_law_pairs", "_law_pairs", paramsOf (topAt 10), .stmts (bodyOf (topAt 10)), scopeOf (topAt 10), 3, [], .none, .none, .none, .str "law_sc0002_01" 593, none, .ref 272, .none, 0⟩, #[]⟩
noncomputable abbrev op13_274 (P : Params) : Obj := ⟨.type "tuple", none, .seq #[] 0, #[]⟩
noncomputable abbrev op13_275 (P : Params) : Obj := ⟨.none, none, .fields #[], #[]⟩
noncomputable abbrev op13_276 (P : Params) : Obj := ⟨.type "tuple", none, .seq #[.str "pairs" 626, .str "many" 627, .str "more" 628, .str "codes" 629, .str "i" 630, .str "j" 631, .str "p" 632, .str "q" 633, .str "word" 634] 0, #[]⟩
noncomputable abbrev op13_277 (P : Params) : Obj := ⟨.type "tuple", none, .seq #[] 0, #[]⟩
noncomputable abbrev op13_278 (P : Params) : Obj := ⟨.none, none, .func ⟨"_law_codes", "_law_codes", paramsOf (topAt 11), .stmts (bodyOf (topAt 11)), scopeOf (topAt 11), 0, [], .none, .none, .none, .none, none, .none, .none, 0⟩, #[]⟩
noncomputable abbrev op13_279 (P : Params) : Obj := ⟨.type "code", none, .fields #[.str "_law_codes" 623, .str "_law_codes" 624, .str "/claim/cut.py" 625, .int 508 0, .int 3 0, .int 0 0, .int 0 0, .int 3 0, .ref 274, .bool true, .int 181 0, .ref 275, .none, .ref 276, .ref 277, .ref 278, .int 635 0, .int 508 0, .str "/claim/cut.py" 636], #[]⟩
noncomputable abbrev op13_280 (P : Params) : Obj := ⟨.type "function", none, .func ⟨"_law_codes", "_law_codes", paramsOf (topAt 11), .stmts (bodyOf (topAt 11)), scopeOf (topAt 11), 3, [], .none, .none, .none, .str "law_sc0002_01" 593, none, .ref 279, .none, 0⟩, #[]⟩
noncomputable abbrev op13_281 (P : Params) : Obj := ⟨.type "tuple", none, .seq #[] 0, #[]⟩
noncomputable abbrev op13_282 (P : Params) : Obj := ⟨.none, none, .fields #[], #[]⟩
noncomputable abbrev op13_283 (P : Params) : Obj := ⟨.type "tuple", none, .seq #[.str "old" 641, .str "new" 642, .str "junk" 643, .str "auto" 644, .str "plain" 645, .str "letter" 646, .str "crowd" 647] 0, #[]⟩
noncomputable abbrev op13_284 (P : Params) : Obj := ⟨.type "tuple", none, .seq #[] 0, #[]⟩
noncomputable abbrev op13_285 (P : Params) : Obj := ⟨.none, none, .func ⟨"_law_told", "_law_told", paramsOf (topAt 12), .stmts (bodyOf (topAt 12)), scopeOf (topAt 12), 0, [], .none, .none, .none, .none, none, .none, .none, 0⟩, #[]⟩
noncomputable abbrev op13_286 (P : Params) : Obj := ⟨.type "code", none, .fields #[.str "_law_told" 638, .str "_law_told" 639, .str "/claim/cut.py" 640, .int 521 0, .int 4 0, .int 0 0, .int 0 0, .int 3 0, .ref 281, .bool true, .int 181 0, .ref 282, .none, .ref 283, .ref 284, .ref 285, .int 648 0, .int 521 0, .str "/claim/cut.py" 649], #[]⟩
noncomputable abbrev op13_287 (P : Params) : Obj := ⟨.type "function", none, .func ⟨"_law_told", "_law_told", paramsOf (topAt 12), .stmts (bodyOf (topAt 12)), scopeOf (topAt 12), 3, [], .none, .none, .none, .str "law_sc0002_01" 593, none, .ref 286, .none, 0⟩, #[]⟩
noncomputable abbrev op13_288 (P : Params) : Obj := ⟨.type "tuple", none, .seq #[] 0, #[]⟩
noncomputable abbrev op13_289 (P : Params) : Obj := ⟨.none, none, .fields #[], #[]⟩
noncomputable abbrev op13_290 (P : Params) : Obj := ⟨.type "tuple", none, .seq #[.str "script" 654, .str "kept" 655, .str "old" 656, .str "new" 657, .str "number" 658, .str "letter" 659, .str "other" 660, .str "total" 661, .str "junk" 662, .str "auto" 663, .str "pad" 664, .str "cut" 665, .str "turned" 666, .str "matcher" 667] 0, #[]⟩
noncomputable abbrev op13_291 (P : Params) : Obj := ⟨.type "tuple", none, .seq #[] 0, #[]⟩
noncomputable abbrev op13_292 (P : Params) : Obj := ⟨.none, none, .func ⟨"law", "law", paramsOf (topAt 13), .stmts (bodyOf (topAt 13)), scopeOf (topAt 13), 0, [], .none, .none, .none, .none, none, .none, .none, 0⟩, #[]⟩
noncomputable abbrev op13_293 (P : Params) : Obj := ⟨.type "code", none, .fields #[.str "law" 651, .str "law" 652, .str "/claim/cut.py" 653, .int 528 0, .int 1 0, .int 0 0, .int 0 0, .int 3 0, .ref 288, .bool true, .int 181 0, .ref 289, .none, .ref 290, .ref 291, .ref 292, .int 668 0, .int 528 0, .str "/claim/cut.py" 669], #[]⟩
noncomputable abbrev op13_294 (P : Params) : Obj := ⟨.type "function", none, .func ⟨"law", "law", paramsOf (topAt 13), .stmts (bodyOf (topAt 13)), scopeOf (topAt 13), 3, [], .none, .none, .none, .str "law_sc0002_01" 593, none, .ref 293, .none, 0⟩, #[]⟩
noncomputable def t_p13 (P : Params) : BT := .node (boot_o_0 P) (.node (boot_o_1 P) (.node (op13_3 P) (.node (boot_o_7 P) (.node (op0_15 P) (.node (op2_31 P) (.node (op2_63 P) (.node (op3_127 P) (.node (op13_255 P) (.nil) (.nil)) (.nil)) (.node (op5_191 P) (.nil) (.nil))) (.node (op3_95 P) (.node (op5_159 P) (.node (op13_287 P) (.nil) (.nil)) (.nil)) (.node (op5_223 P) (.nil) (.nil)))) (.node (op2_47 P) (.node (op3_79 P) (.node (op4_143 P) (.node (op13_271 P) (.nil) (.nil)) (.nil)) (.node (op5_207 P) (.nil) (.nil))) (.node (op3_111 P) (.node (op5_175 P) (.nil) (.nil)) (.node (op5_239 P) (.nil) (.nil))))) (.node (op2_23 P) (.node (op2_39 P) (.node (op3_71 P) (.node (op3_135 P) (.node (op13_263 P) (.nil) (.nil)) (.nil)) (.node (op5_199 P) (.nil) (.nil))) (.node (op3_103 P) (.node (op5_167 P) (.nil) (.nil)) (.node (op5_231 P) (.nil) (.nil)))) (.node (op2_55 P) (.node (op3_87 P) (.node (op5_151 P) (.node (op13_279 P) (.nil) (.nil)) (.nil)) (.node (op5_215 P) (.nil) (.nil))) (.node (op3_119 P) (.node (op5_183 P) (.nil) (.nil)) (.node (op13_247 P) (.nil) (.nil)))))) (.node (opre_11 P) (.node (op0_19 P) (.node (op2_35 P) (.node (op3_67 P) (.node (op3_131 P) (.node (op13_259 P) (.nil) (.nil)) (.nil)) (.node (op5_195 P) (.nil) (.nil))) (.node (op3_99 P) (.node (op5_163 P) (.node (op13_291 P) (.nil) (.nil)) (.nil)) (.node (op5_227 P) (.nil) (.nil)))) (.node (op2_51 P) (.node (op3_83 P) (.node (op5_147 P) (.node (op13_275 P) (.nil) (.nil)) (.nil)) (.node (op5_211 P) (.nil) (.nil))) (.node (op3_115 P) (.node (op5_179 P) (.nil) (.nil)) (.node (op5_243 P) (.nil) (.nil))))) (.node (op2_27 P) (.node (op2_43 P) (.node (op3_75 P) (.node (op4_139 P) (.node (op13_267 P) (.nil) (.nil)) (.nil)) (.node (op5_203 P) (.nil) (.nil))) (.node (op3_107 P) (.node (op5_171 P) (.nil) (.nil)) (.node (op5_235 P) (.nil) (.nil)))) (.node (op2_59 P) (.node (op3_91 P) (.node (op5_155 P) (.node (op13_283 P) (.nil) (.nil)) (.nil)) (.node (op5_219 P) (.nil) (.nil))) (.node (op3_123 P) (.node (op5_187 P) (.nil) (.nil)) (.node (op13_251 P) (.nil) (.nil))))))) (.node (boot_o_5 P) (.node (boot_o_9 P) (.node (op0_17 P) (.node (op2_33 P) (.node (op3_65 P) (.node (op3_129 P) (.node (op13_257 P) (.nil) (.nil)) (.nil)) (.node (op5_193 P) (.nil) (.nil))) (.node (op3_97 P) (.node (op5_161 P) (.node (op13_289 P) (.nil) (.nil)) (.nil)) (.node (op5_225 P) (.nil) (.nil)))) (.node (op2_49 P) (.node (op3_81 P) (.node (op4_145 P) (.node (op13_273 P) (.nil) (.nil)) (.nil)) (.node (op5_209 P) (.nil) (.nil))) (.node (op3_113 P) (.node (op5_177 P) (.nil) (.nil)) (.node (op5_241 P) (.nil) (.nil))))) (.node (op2_25 P) (.node (op2_41 P) (.node (op3_73 P) (.node (op3_137 P) (.node (op13_265 P) (.nil) (.nil)) (.nil)) (.node (op5_201 P) (.nil) (.nil))) (.node (op3_105 P) (.node (op5_169 P) (.nil) (.nil)) (.node (op5_233 P) (.nil) (.nil)))) (.node (op2_57 P) (.node (op3_89 P) (.node (op5_153 P) (.node (op13_281 P) (.nil) (.nil)) (.nil)) (.node (op5_217 P) (.nil) (.nil))) (.node (op3_121 P) (.node (op5_185 P) (.nil) (.nil)) (.node (op13_249 P) (.nil) (.nil)))))) (.node (opre_13 P) (.node (op0_21 P) (.node (op2_37 P) (.node (op3_69 P) (.node (op3_133 P) (.node (op13_261 P) (.nil) (.nil)) (.nil)) (.node (op5_197 P) (.nil) (.nil))) (.node (op3_101 P) (.node (op5_165 P) (.node (op13_293 P) (.nil) (.nil)) (.nil)) (.node (op5_229 P) (.nil) (.nil)))) (.node (op2_53 P) (.node (op3_85 P) (.node (op5_149 P) (.node (op13_277 P) (.nil) (.nil)) (.nil)) (.node (op5_213 P) (.nil) (.nil))) (.node (op3_117 P) (.node (op5_181 P) (.nil) (.nil)) (.node (op5_245 P) (.nil) (.nil))))) (.node (op2_29 P) (.node (op2_45 P) (.node (op3_77 P) (.node (op4_141 P) (.node (op13_269 P) (.nil) (.nil)) (.nil)) (.node (op5_205 P) (.nil) (.nil))) (.node (op3_109 P) (.node (op5_173 P) (.nil) (.nil)) (.node (op5_237 P) (.nil) (.nil)))) (.node (op2_61 P) (.node (op3_93 P) (.node (op5_157 P) (.node (op13_285 P) (.nil) (.nil)) (.nil)) (.node (op5_221 P) (.nil) (.nil))) (.node (op3_125 P) (.node (op5_189 P) (.nil) (.nil)) (.node (op13_253 P) (.nil) (.nil)))))))) (.node (boot_o_2 P) (.node (boot_o_4 P) (.node (boot_o_8 P) (.node (op0_16 P) (.node (op2_32 P) (.node (op2_64 P) (.node (op3_128 P) (.node (op13_256 P) (.nil) (.nil)) (.nil)) (.node (op5_192 P) (.nil) (.nil))) (.node (op3_96 P) (.node (op5_160 P) (.node (op13_288 P) (.nil) (.nil)) (.nil)) (.node (op5_224 P) (.nil) (.nil)))) (.node (op2_48 P) (.node (op3_80 P) (.node (op4_144 P) (.node (op13_272 P) (.nil) (.nil)) (.nil)) (.node (op5_208 P) (.nil) (.nil))) (.node (op3_112 P) (.node (op5_176 P) (.nil) (.nil)) (.node (op5_240 P) (.nil) (.nil))))) (.node (op2_24 P) (.node (op2_40 P) (.node (op3_72 P) (.node (op3_136 P) (.node (op13_264 P) (.nil) (.nil)) (.nil)) (.node (op5_200 P) (.nil) (.nil))) (.node (op3_104 P) (.node (op5_168 P) (.nil) (.nil)) (.node (op5_232 P) (.nil) (.nil)))) (.node (op2_56 P) (.node (op3_88 P) (.node (op5_152 P) (.node (op13_280 P) (.nil) (.nil)) (.nil)) (.node (op5_216 P) (.nil) (.nil))) (.node (op3_120 P) (.node (op5_184 P) (.nil) (.nil)) (.node (op13_248 P) (.nil) (.nil)))))) (.node (op13_12 P) (.node (op0_20 P) (.node (op2_36 P) (.node (op3_68 P) (.node (op3_132 P) (.node (op13_260 P) (.nil) (.nil)) (.nil)) (.node (op5_196 P) (.nil) (.nil))) (.node (op3_100 P) (.node (op5_164 P) (.node (op13_292 P) (.nil) (.nil)) (.nil)) (.node (op5_228 P) (.nil) (.nil)))) (.node (op2_52 P) (.node (op3_84 P) (.node (op5_148 P) (.node (op13_276 P) (.nil) (.nil)) (.nil)) (.node (op5_212 P) (.nil) (.nil))) (.node (op3_116 P) (.node (op5_180 P) (.nil) (.nil)) (.node (op5_244 P) (.nil) (.nil))))) (.node (op2_28 P) (.node (op2_44 P) (.node (op3_76 P) (.node (op4_140 P) (.node (op13_268 P) (.nil) (.nil)) (.nil)) (.node (op5_204 P) (.nil) (.nil))) (.node (op3_108 P) (.node (op5_172 P) (.nil) (.nil)) (.node (op5_236 P) (.nil) (.nil)))) (.node (op2_60 P) (.node (op3_92 P) (.node (op5_156 P) (.node (op13_284 P) (.nil) (.nil)) (.nil)) (.node (op5_220 P) (.nil) (.nil))) (.node (op3_124 P) (.node (op5_188 P) (.nil) (.nil)) (.node (op13_252 P) (.nil) (.nil))))))) (.node (boot_o_6 P) (.node (boot_o_10 P) (.node (op0_18 P) (.node (op2_34 P) (.node (op3_66 P) (.node (op3_130 P) (.node (op13_258 P) (.nil) (.nil)) (.nil)) (.node (op5_194 P) (.nil) (.nil))) (.node (op3_98 P) (.node (op5_162 P) (.node (op13_290 P) (.nil) (.nil)) (.nil)) (.node (op5_226 P) (.nil) (.nil)))) (.node (op2_50 P) (.node (op3_82 P) (.node (op5_146 P) (.node (op13_274 P) (.nil) (.nil)) (.nil)) (.node (op5_210 P) (.nil) (.nil))) (.node (op3_114 P) (.node (op5_178 P) (.nil) (.nil)) (.node (op5_242 P) (.nil) (.nil))))) (.node (op2_26 P) (.node (op2_42 P) (.node (op3_74 P) (.node (op3_138 P) (.node (op13_266 P) (.nil) (.nil)) (.nil)) (.node (op5_202 P) (.nil) (.nil))) (.node (op3_106 P) (.node (op5_170 P) (.nil) (.nil)) (.node (op5_234 P) (.nil) (.nil)))) (.node (op2_58 P) (.node (op3_90 P) (.node (op5_154 P) (.node (op13_282 P) (.nil) (.nil)) (.nil)) (.node (op5_218 P) (.nil) (.nil))) (.node (op3_122 P) (.node (op5_186 P) (.nil) (.nil)) (.node (op13_250 P) (.nil) (.nil)))))) (.node (opre_14 P) (.node (op2_22 P) (.node (op2_38 P) (.node (op3_70 P) (.node (op3_134 P) (.node (op13_262 P) (.nil) (.nil)) (.nil)) (.node (op5_198 P) (.nil) (.nil))) (.node (op3_102 P) (.node (op5_166 P) (.node (op13_294 P) (.nil) (.nil)) (.nil)) (.node (op5_230 P) (.nil) (.nil)))) (.node (op2_54 P) (.node (op3_86 P) (.node (op5_150 P) (.node (op13_278 P) (.nil) (.nil)) (.nil)) (.node (op5_214 P) (.nil) (.nil))) (.node (op3_118 P) (.node (op5_182 P) (.nil) (.nil)) (.node (op5_246 P) (.nil) (.nil))))) (.node (op2_30 P) (.node (op2_46 P) (.node (op3_78 P) (.node (op4_142 P) (.node (op13_270 P) (.nil) (.nil)) (.nil)) (.node (op5_206 P) (.nil) (.nil))) (.node (op3_110 P) (.node (op5_174 P) (.nil) (.nil)) (.node (op5_238 P) (.nil) (.nil)))) (.node (op2_62 P) (.node (op3_94 P) (.node (op5_158 P) (.node (op13_286 P) (.nil) (.nil)) (.nil)) (.node (op5_222 P) (.nil) (.nil))) (.node (op3_126 P) (.node (op5_190 P) (.nil) (.nil)) (.node (op13_254 P) (.nil) (.nil))))))))
noncomputable abbrev hEnv : Env := { scope := PW.main.scope, locals := mainNs, globals := mainNs, cells := [], code := .ref 13, frame := some 14 }
noncomputable abbrev hCode : Code := .body (behindTheImports PW) hEnv
noncomputable abbrev hB : List Frame := [topFrame ⟨0, 0, 0, 0⟩]
noncomputable abbrev hAnn : Option Value := some (.ref 6)
noncomputable def hSt (t : Params → BT) (n k : Nat) (w : World) (os : OsState) : SharedT := ⟨t w.params, n, {}, #[], {}, k, os⟩
noncomputable abbrev g_p0 : List Stmt := [topAt 0]
noncomputable abbrev g_p1 : List Stmt := [topAt 1]
noncomputable abbrev g_p2 : List Stmt := [topAt 2]
noncomputable abbrev g_p3 : List Stmt := [topAt 3]
noncomputable abbrev g_p4 : List Stmt := [topAt 4]
noncomputable abbrev g_p5 : List Stmt := [setDoc (topAt 5) docF]
noncomputable abbrev g_p13 : List Stmt := [topAt 6, topAt 7, topAt 8, topAt 9, topAt 10, topAt 11, topAt 12, topAt 13]
theorem run_p0 (w : World) (os : OsState) : segRunT tab PW w 11 hAnn 1 30 (hSt t_pre 15 187 w os) (piecesOf g_p0 hEnv hCode ⟨0, 0, 0, 0⟩ hB) = some (.next, hSt t_p0 22 194 w os, hCode, ⟨1, 0, 3, 12⟩) := by
 delta piecesOf
 rw [PySem.W.Fast.te10110043849684766642, PySem.W.Fast.te12563942051412417395]
 kernel_rfl
theorem run_p1 (w : World) (os : OsState) : segRunT tab PW w 11 hAnn 1 10 (hSt t_p0 22 194 w os) (piecesOf g_p1 hEnv hCode ⟨1, 0, 3, 12⟩ hB) = some (.next, hSt t_p1 22 196 w os, hCode, ⟨4, 0, 4, 8⟩) := by
 delta piecesOf
 rw [PySem.W.Fast.te10110043849684766642, PySem.W.Fast.te12563942051412417395]
 kernel_rfl
theorem run_p2 (w : World) (os : OsState) : segRunT tab PW w 11 hAnn 1 324 (hSt t_p1 22 196 w os) (piecesOf g_p2 hEnv hCode ⟨4, 0, 4, 8⟩ hB) = some (.next, hSt t_p2 65 253 w os, hCode, ⟨5, 0, 22, 54⟩) := by
 delta piecesOf
 rw [PySem.W.Fast.te10110043849684766642, PySem.W.Fast.te12563942051412417395]
 kernel_rfl
theorem run_p3 (w : World) (os : OsState) : segRunT tab PW w 11 hAnn 1 1047 (hSt t_p2 65 253 w os) (piecesOf g_p3 hEnv hCode ⟨5, 0, 22, 54⟩ hB) = some (.next, hSt t_p3 139 381 w os, hCode, ⟨23, 0, 65, 54⟩) := by
 delta piecesOf
 rw [PySem.W.Fast.te10110043849684766642, PySem.W.Fast.te12563942051412417395]
 kernel_rfl
theorem run_p4 (w : World) (os : OsState) : segRunT tab PW w 11 hAnn 1 31 (hSt t_p3 139 381 w os) (piecesOf g_p4 hEnv hCode ⟨23, 0, 65, 54⟩ hB) = some (.next, hSt t_p4 146 389 w os, hCode, ⟨66, 0, 69, 14⟩) := by
 delta piecesOf
 rw [PySem.W.Fast.te10110043849684766642, PySem.W.Fast.te12563942051412417395]
 kernel_rfl
theorem run_p5 (w : World) (os : OsState) : segRunT tab PW w 11 hAnn 1 657 (hSt t_p4 146 389 w os) (piecesOf g_p5 hEnv hCode ⟨66, 0, 69, 14⟩ hB) = some (.next, hSt t_p5 247 583 w os, hCode, ⟨70, 0, 461, 16⟩) := by
 delta piecesOf
 rw [PySem.W.Fast.te10110043849684766642, PySem.W.Fast.te12563942051412417395]
 kernel_rfl
theorem run_p13 (w : World) (os : OsState) : segRunT tab PW w 11 hAnn 1 249 (hSt t_p5 247 583 w os) (piecesOf g_p13 hEnv hCode ⟨70, 0, 461, 16⟩ hB) = some (.next, hSt t_p13 295 671 w os, hCode, ⟨528, 0, 550, 70⟩) := by
 delta piecesOf
 rw [PySem.W.Fast.te10110043849684766642, PySem.W.Fast.te12563942051412417395]
 kernel_rfl
noncomputable def hEnd (P : Params) : Heap := ⟨⟨[boot_o_0 P, boot_o_1 P, boot_o_2 P, op13_3 P, boot_o_4 P, boot_o_5 P, boot_o_6 P, boot_o_7 P, boot_o_8 P, boot_o_9 P, boot_o_10 P, opre_11 P, op13_12 P, opre_13 P, opre_14 P, op0_15 P, op0_16 P, op0_17 P, op0_18 P, op0_19 P, op0_20 P, op0_21 P, op2_22 P, op2_23 P, op2_24 P, op2_25 P, op2_26 P, op2_27 P, op2_28 P, op2_29 P, op2_30 P, op2_31 P, op2_32 P, op2_33 P, op2_34 P, op2_35 P, op2_36 P, op2_37 P, op2_38 P, op2_39 P, op2_40 P, op2_41 P, op2_42 P, op2_43 P, op2_44 P, op2_45 P, op2_46 P, op2_47 P, op2_48 P, op2_49 P, op2_50 P, op2_51 P, op2_52 P, op2_53 P, op2_54 P, op2_55 P, op2_56 P, op2_57 P, op2_58 P, op2_59 P, op2_60 P, op2_61 P, op2_62 P, op2_63 P, op2_64 P, op3_65 P, op3_66 P, op3_67 P, op3_68 P, op3_69 P, op3_70 P, op3_71 P, op3_72 P, op3_73 P, op3_74 P, op3_75 P, op3_76 P, op3_77 P, op3_78 P, op3_79 P, op3_80 P, op3_81 P, op3_82 P, op3_83 P, op3_84 P, op3_85 P, op3_86 P, op3_87 P, op3_88 P, op3_89 P, op3_90 P, op3_91 P, op3_92 P, op3_93 P, op3_94 P, op3_95 P, op3_96 P, op3_97 P, op3_98 P, op3_99 P, op3_100 P, op3_101 P, op3_102 P, op3_103 P, op3_104 P, op3_105 P, op3_106 P, op3_107 P, op3_108 P, op3_109 P, op3_110 P, op3_111 P, op3_112 P, op3_113 P, op3_114 P, op3_115 P, op3_116 P, op3_117 P, op3_118 P, op3_119 P, op3_120 P, op3_121 P, op3_122 P, op3_123 P, op3_124 P, op3_125 P, op3_126 P, op3_127 P, op3_128 P, op3_129 P, op3_130 P, op3_131 P, op3_132 P, op3_133 P, op3_134 P, op3_135 P, op3_136 P, op3_137 P, op3_138 P, op4_139 P, op4_140 P, op4_141 P, op4_142 P, op4_143 P, op4_144 P, op4_145 P, op5_146 P, op5_147 P, op5_148 P, op5_149 P, op5_150 P, op5_151 P, op5_152 P, op5_153 P, op5_154 P, op5_155 P, op5_156 P, op5_157 P, op5_158 P, op5_159 P, op5_160 P, op5_161 P, op5_162 P, op5_163 P, op5_164 P, op5_165 P, op5_166 P, op5_167 P, op5_168 P, op5_169 P, op5_170 P, op5_171 P, op5_172 P, op5_173 P, op5_174 P, op5_175 P, op5_176 P, op5_177 P, op5_178 P, op5_179 P, op5_180 P, op5_181 P, op5_182 P, op5_183 P, op5_184 P, op5_185 P, op5_186 P, op5_187 P, op5_188 P, op5_189 P, op5_190 P, op5_191 P, op5_192 P, op5_193 P, op5_194 P, op5_195 P, op5_196 P, op5_197 P, op5_198 P, op5_199 P, op5_200 P, op5_201 P, op5_202 P, op5_203 P, op5_204 P, op5_205 P, op5_206 P, op5_207 P, op5_208 P, op5_209 P, op5_210 P, op5_211 P, op5_212 P, op5_213 P, op5_214 P, op5_215 P, op5_216 P, op5_217 P, op5_218 P, op5_219 P, op5_220 P, op5_221 P, op5_222 P, op5_223 P, op5_224 P, op5_225 P, op5_226 P, op5_227 P, op5_228 P, op5_229 P, op5_230 P, op5_231 P, op5_232 P, op5_233 P, op5_234 P, op5_235 P, op5_236 P, op5_237 P, op5_238 P, op5_239 P, op5_240 P, op5_241 P, op5_242 P, op5_243 P, op5_244 P, op5_245 P, op5_246 P, op13_247 P, op13_248 P, op13_249 P, op13_250 P, op13_251 P, op13_252 P, op13_253 P, op13_254 P, op13_255 P, op13_256 P, op13_257 P, op13_258 P, op13_259 P, op13_260 P, op13_261 P, op13_262 P, op13_263 P, op13_264 P, op13_265 P, op13_266 P, op13_267 P, op13_268 P, op13_269 P, op13_270 P, op13_271 P, op13_272 P, op13_273 P, op13_274 P, op13_275 P, op13_276 P, op13_277 P, op13_278 P, op13_279 P, op13_280 P, op13_281 P, op13_282 P, op13_283 P, op13_284 P, op13_285 P, op13_286 P, op13_287 P, op13_288 P, op13_289 P, op13_290 P, op13_291 P, op13_292 P, op13_293 P, op13_294 P]⟩, {}⟩
theorem run_pre (w : World) (os : OsState) : topGo tab PW w 11 hAnn 12 ⟨boot_heap w.params, Array.mk [], boot_drawn, boot_toks, os⟩ (topStub PW) = some ((hSt t_pre 15 187 w os).abs, ⟨denote tab hCode, hCode, ⟨0, 0, 0, 0⟩, hB⟩) := by
 kernel_rfl
theorem run_block (w : World) (os : OsState) : segRun tab PW w 11 hAnn 1 1 (hSt t_pre 15 187 w os).abs (blockOf (behindTheImports PW) hEnv hCode ⟨0, 0, 0, 0⟩ hB) = some (.next, (hSt t_pre 15 187 w os).abs, hCode, ⟨0, 0, 0, 0⟩) := by
 kernel_rfl
theorem run_fin (w : World) (os : OsState) : topRun tab PW w 11 hAnn 2 (hSt t_p13 295 671 w os).abs ⟨doneF .next, hCode, ⟨528, 0, 550, 70⟩, hB⟩ = some ⟨hEnd w.params, Array.mk [], {}, 671, os⟩ := by
 kernel_rfl
theorem body_eq : behindTheImports PW = g_p0 ++ (g_p1 ++ (g_p2 ++ (g_p3 ++ (g_p4 ++ (g_p5 ++ (g_p13 ++ [])))))) := by
 have e : behindTheImports PW = g_p0 ++ (g_p1 ++ (g_p2 ++ (g_p3 ++ (g_p4 ++ ([topAt 5] ++ (g_p13 ++ [])))))) := by kernel_rfl
 have e5 : [topAt 5] = g_p5 := congrArg (fun x => [x]) top5
 rw [e, e5]
theorem run_rest (w : World) (os : OsState) : topRun tab PW w 11 hAnn (30 + (10 + (324 + (1047 + (31 + (657 + (249 + (2)))))))) (hSt t_pre 15 187 w os).abs (restOf (g_p0 ++ (g_p1 ++ (g_p2 ++ (g_p3 ++ (g_p4 ++ (g_p5 ++ (g_p13 ++ []))))))) hEnv hCode ⟨0, 0, 0, 0⟩ hB) = some ⟨hEnd w.params, Array.mk [], {}, 671, os⟩ :=
 piece_app (segRun_of (run_p0 w os)) (piece_app (segRun_of (run_p1 w os)) (piece_app (segRun_of (run_p2 w os)) (piece_app (segRun_of (run_p3 w os)) (piece_app (segRun_of (run_p4 w os)) (piece_app (segRun_of (run_p5 w os)) (piece_app (segRun_of (run_p13 w os)) (run_fin w os)))))))
theorem run_all (w : World) (os : OsState) : topRun tab PW w 11 hAnn (12 + (1 + (30 + (10 + (324 + (1047 + (31 + (657 + (249 + (2)))))))))) ⟨boot_heap w.params, Array.mk [], boot_drawn, boot_toks, os⟩ (topStub PW) = some ⟨hEnd w.params, Array.mk [], {}, 671, os⟩ :=
 go_top (run_pre w os) (piece_block (run_block w os) ((congrArg (fun b => topRun tab PW w 11 hAnn (30 + (10 + (324 + (1047 + (31 + (657 + (249 + (2)))))))) (hSt t_pre 15 187 w os).abs (restOf b hEnv hCode ⟨0, 0, 0, 0⟩ hB)) body_eq).trans (run_rest w os)))
noncomputable abbrev hAt : List Addr := [2, 81, 82, 88, 89, 91, 134, 135, 136, 153, 159, 160, 166, 167, 173, 174, 180, 181, 187, 188, 189, 195, 196, 202, 203, 209, 210, 241, 242, 247, 253, 254, 260, 261, 267, 268, 272, 273, 279, 280, 286, 287, 293, 294]
noncomputable def hK (P : Params) : Frag := [(2, boot_o_2 P), (81, op3_81 P), (82, op3_82 P), (88, op3_88 P), (89, op3_89 P), (91, op3_91 P), (134, op3_134 P), (135, op3_135 P), (136, op3_136 P), (153, op5_153 P), (159, op5_159 P), (160, op5_160 P), (166, op5_166 P), (167, op5_167 P), (173, op5_173 P), (174, op5_174 P), (180, op5_180 P), (181, op5_181 P), (187, op5_187 P), (188, op5_188 P), (189, op5_189 P), (195, op5_195 P), (196, op5_196 P), (202, op5_202 P), (203, op5_203 P), (209, op5_209 P), (210, op5_210 P), (241, op5_241 P), (242, op5_242 P), (247, op13_247 P), (253, op13_253 P), (254, op13_254 P), (260, op13_260 P), (261, op13_261 P), (267, op13_267 P), (268, op13_268 P), (272, op13_272 P), (273, op13_273 P), (279, op13_279 P), (280, op13_280 P), (286, op13_286 P), (287, op13_287 P), (293, op13_293 P), (294, op13_294 P)]
noncomputable abbrev qv : Program := { PW with main := { PW.main with body := [topAt 13] } }
noncomputable abbrev lv : List Str := ["_wall", "_tuplegetter", "Match", "_calculate_ratio", "SequenceMatcher", "IS_CHARACTER_JUNK", "_law_kept", "_law_reach", "_law_pairs", "_law_codes", "_law_told"]
noncomputable abbrev ownNames : List (Str × Value) := [("Match", .ref aMatch), ("SequenceMatcher", .ref aSM), ("IS_CHARACTER_JUNK", .ref aJunk), ("_law_kept", .ref aKept), ("_law_reach", .ref aReach), ("_law_pairs", .ref aPairs), ("_law_codes", .ref aLCodes), ("_law_told", .ref aTold), ("law", .ref aLaw)]
noncomputable def hdXt (s : Shared) : Bool := ownNames.all fun p => decide (s.heap.nsMap mainGlobals p.1 = some p.2)
noncomputable def hdObs (s : Shared) : List (Option Obj) × Bool := (hAt.map s.heap.get?, (s.heap.get? sysModules).isSome)
noncomputable def hdVal (w : World) : List (Option Obj) × Bool := ((hK w.params).map fun p => some p.2, true)
theorem look1 (w : World) (os : OsState) : (staticsOk (importedModules PW.main.body) (boot_heap w.params) (hEnd w.params) && namesBound PW (hEnd w.params) && gensDone ⟨hEnd w.params, Array.mk [], {}, 671, os⟩ && laidKept (boot_heap w.params) (hEnd w.params)) = true := by
 kernel_rfl
theorem look2 (w : World) (os : OsState) : openSeen qv lv (importedModules PW.main.body) hdXt true ⟨hEnd w.params, Array.mk [], {}, 671, os⟩ = openGood qv lv := by
 kernel_rfl
theorem look3 (w : World) (os : OsState) : hdObs ⟨hEnd w.params, Array.mk [], {}, 671, os⟩ = hdVal w := by
 kernel_rfl
theorem hOpen : opening PW = plainProg PW.main.scope.names := by kernel_rfl
theorem hFence (s : Shared) : fenceModules? PW s = some s := by kernel_rfl
theorem left : LeftO PW qv lv hdXt hdObs hdVal 6000 :=
 LeftO.of_pieces (H₀ := boot_heap) (H₁ := hEnd) (gs₀ := Array.mk []) (gs₁ := Array.mk []) (d₀ := boot_drawn) (d₁ := {}) (k₀ := boot_toks) (k₁ := 671) (m₀ := 11) (ann := hAnn) (M := 12 + (1 + (30 + (10 + (324 + (1047 + (31 + (657 + (249 + (2))))))))))
  (boot_open hOpen (by decide) hFence) (fun w => by kernel_rfl) (fun w os => by rw [tab_eq]; exact run_all w os) (by decide)
  (fun w => funext fun os => Prod.ext (look1 w os) (Prod.ext (look2 w os) (look3 w os)))
end Mine
end
section
open PySem PySem.W PyProof.Rows PySem.Calls
namespace Mine
section
variable {w : World} {h : Heap}
theorem at_K {a : Addr} {o : Obj} (X : (hK w.params).In h) (e : (hK w.params).lookup a = some o) : h.get? a = some o := X a o e
theorem of_all {α β : Type} {l : List α} {f g : α → β} (e : l.map f = l.map g) : ∀ x ∈ l, f x = g x := List.map_inj_left.mp e
structure FnW (w : World) (a c : Addr) (T : Stmt) (D : Value) : Prop where
 o : ∃ nm q doc pm an ct, (hK w.params).lookup a = some ⟨.type "function", none, .func ⟨nm, q, paramsOf T, .stmts (bodyOf T), scopeOf T, mainGlobals, [], D, .none, doc, pm, an, .ref c, ct, 0⟩, #[]⟩ ∧ ∃ oc vs t, (hK w.params).lookup c = some oc ∧ oc.data = .fields vs ∧ vs[1]? = some (.str q t)
theorem FnW.at_ {a c : Addr} {T : Stmt} {D : Value} (F : FnW w a c T D) (X : (hK w.params).In h) : FnAt h a T D := by
 obtain ⟨nm, q, doc, pm, an, ct, h1, oc, vs, t, h2, h3, h4⟩ := F.o
 exact ⟨⟨nm, q, doc, pm, an, .ref c, ct, _, _, _, X _ _ h1, ⟨c, oc, vs, t, rfl, X _ _ h2, h3, h4⟩⟩, ⟨_, X _ _ h1, rfl⟩⟩
theorem fnW_of {a c : Addr} {T : Stmt} {D : Value} {nm q : Str} {doc pm : Value} {an : Option Addr} {ct : Value} {oc : Obj} {vs : Array Value} {t : Tok}
  (h1 : (hK w.params).lookup a = some ⟨.type "function", none, .func ⟨nm, q, paramsOf T, .stmts (bodyOf T), scopeOf T, mainGlobals, [], D, .none, doc, pm, an, .ref c, ct, 0⟩, #[]⟩)
  (h2 : (hK w.params).lookup c = some oc) (h3 : oc.data = .fields vs) (h4 : vs[1]? = some (.str q t)) : FnW w a c T D := ⟨nm, q, doc, pm, an, ct, h1, oc, vs, t, h2, h3, h4⟩
theorem wNew : FnW w aNew 81 (inCls 3 4) (.none) := fnW_of (Eq.refl (some _)) (Eq.refl (some _)) (Eq.refl (Data.fields _)) (Eq.refl (some _))
theorem wMake : FnW w aMake 88 (inCls 3 5) (.none) := fnW_of (Eq.refl (some _)) (Eq.refl (some _)) (Eq.refl (Data.fields _)) (Eq.refl (some _))
theorem wInit : FnW w aInit 159 (inCls 5 1) (.ref 153) := fnW_of (Eq.refl (some _)) (Eq.refl (some _)) (Eq.refl (Data.fields _)) (Eq.refl (some _))
theorem wSeqs : FnW w aSeqs 166 (inCls 5 2) (.none) := fnW_of (Eq.refl (some _)) (Eq.refl (some _)) (Eq.refl (Data.fields _)) (Eq.refl (some _))
theorem wSeq1 : FnW w aSeq1 173 (inCls 5 3) (.none) := fnW_of (Eq.refl (some _)) (Eq.refl (some _)) (Eq.refl (Data.fields _)) (Eq.refl (some _))
theorem wSeq2 : FnW w aSeq2 180 (inCls 5 4) (.none) := fnW_of (Eq.refl (some _)) (Eq.refl (some _)) (Eq.refl (Data.fields _)) (Eq.refl (some _))
theorem wChain : FnW w aChain 187 (inCls 5 5) (.none) := fnW_of (Eq.refl (some _)) (Eq.refl (some _)) (Eq.refl (Data.fields _)) (Eq.refl (some _))
theorem wLong : FnW w aLong 195 (inCls 5 6) (.ref 189) := fnW_of (Eq.refl (some _)) (Eq.refl (some _)) (Eq.refl (Data.fields _)) (Eq.refl (some _))
theorem wBlocks : FnW w aBlocks 202 (inCls 5 7) (.none) := fnW_of (Eq.refl (some _)) (Eq.refl (some _)) (Eq.refl (Data.fields _)) (Eq.refl (some _))
theorem wCodes : FnW w aCodes 209 (inCls 5 8) (.none) := fnW_of (Eq.refl (some _)) (Eq.refl (some _)) (Eq.refl (Data.fields _)) (Eq.refl (some _))
theorem wJunk : FnW w aJunk 253 (topAt 6) (.ref 247) := fnW_of (Eq.refl (some _)) (Eq.refl (some _)) (Eq.refl (Data.fields _)) (Eq.refl (some _))
theorem wKept : FnW w aKept 260 (topAt 8) (.none) := fnW_of (Eq.refl (some _)) (Eq.refl (some _)) (Eq.refl (Data.fields _)) (Eq.refl (some _))
theorem wReach : FnW w aReach 267 (topAt 9) (.none) := fnW_of (Eq.refl (some _)) (Eq.refl (some _)) (Eq.refl (Data.fields _)) (Eq.refl (some _))
theorem wPairs : FnW w aPairs 272 (topAt 10) (.none) := fnW_of (Eq.refl (some _)) (Eq.refl (some _)) (Eq.refl (Data.fields _)) (Eq.refl (some _))
theorem wLCodes : FnW w aLCodes 279 (topAt 11) (.none) := fnW_of (Eq.refl (some _)) (Eq.refl (some _)) (Eq.refl (Data.fields _)) (Eq.refl (some _))
theorem wTold : FnW w aTold 286 (topAt 12) (.none) := fnW_of (Eq.refl (some _)) (Eq.refl (some _)) (Eq.refl (Data.fields _)) (Eq.refl (some _))
theorem wLaw : FnW w aLaw 293 (topAt 13) (.none) := fnW_of (Eq.refl (some _)) (Eq.refl (some _)) (Eq.refl (Data.fields _)) (Eq.refl (some _))
theorem smfrag (w : World) : SMFrag (hK w.params) where
 ga := by kernel_rfl
 gx := by kernel_rfl
 sa := by kernel_rfl
 po := by kernel_rfl
 cd := ⟨⟨"SequenceMatcher", [.type "object"], [.ref 242, .type "object"], 241, "SequenceMatcher", true, [], [], false, none, false⟩, by kernel_rfl, rfl⟩
 tk := of_all (g := fun _ => some none) (by kernel_rfl)
 no := of_all (g := fun _ => some none) (by kernel_rfl)
 me := fun p hp => by
  have e := of_all (l := methTab) (f := fun p => (findIn (hK w.params) (.ref aSM) p.1, typeIn (hK w.params) (.ref p.2))) (g := fun p => (some (some (.ref p.2)), some (.type "function"))) (by kernel_rfl) p hp
  exact ⟨congrArg Prod.fst e, congrArg Prod.snd e⟩
 mks := by kernel_rfl
theorem mlOf (X : (hK w.params).In h) : ML w h where
 isty := .of_peek X (by kernel_rfl)
 sub := .of_peek X (by kernel_rfl)
 made := .of_peek X (by kernel_rfl)
 init := .of_peek X (by kernel_rfl)
 iter := .of_peek X (by kernel_rfl)
 lt := .of_peek X (by kernel_rfl)
 len := .of_peek X (by kernel_rfl)
 nodel := .of_peek X (by kernel_rfl)
 chk := fun t => .of_peek X (by kernel_rfl)
theorem readsM : readsIn (hK w.params) aMatch (.type "type") = true := by kernel_rfl
theorem makesN (X : (hK w.params).In h) : MakesN w h aMatch aNew where
 obj := ⟨.type "type", none, ⟨"Match", [.type "tuple"], [.ref 135, .type "tuple", .type "object"], 134, "Match", false, [], [], false, none, false⟩, #[some (.ref 65), none, some (.str "Match" 253), some (.str "Match" 261), some .none, some (.bool false)], at_K X (by kernel_rfl), by kernel_rfl⟩
 made := .of_peek X (by kernel_rfl)
 self := .of_peek X (by kernel_rfl)
 top := .of_peek X (by kernel_rfl)
 call := .of_peek X (by kernel_rfl)
 typ := .of_peek X (by kernel_rfl)
 init := .of_peek X (by kernel_rfl)
 new := fun A E s Q hk q => by
  have Xs := X.keeps hk
  refine cls_bind (g := .builtin "staticmethod.__get__") (a := .ref 136) (obj := .none) (tp := .ref aMatch) Xs readsM (by kernel_rfl) ?_
  refine wpAny_call ?_
  refine sm_get (f := .ref aNew) (rest := []) (s := { s with toks := s.toks + 1 }) Xs (by kernel_rfl) ?_
  exact handed_on (by kernel_rfl) (q _)
theorem makeGet (X : (hK w.params).In h) : MakeGet w h := fun A E s Q ex hk q => by
 have Xs := X.keeps hk
 refine cls_bind (g := .builtin "classmethod.__get__") (a := .ref 91) (obj := .none) (tp := .ref aMatch) Xs readsM (by kernel_rfl) ?_
 refine wpAny_call ?_
 refine cm_get (f := .ref aMake) (rest := [.bool false]) (s := { s with toks := s.toks + 1 }) Xs (by kernel_rfl) ?_
 exact handed_on (by kernel_rfl) (q _)
noncomputable abbrev outNames : List (Str × Value) := [("len", .builtin "len"), ("range", .type "range"), ("enumerate", .type "enumerate"), ("list", .type "list"), ("sum", .builtin "sum"), ("set", .type "set"), ("map", .type "map"), ("tuple", .type "tuple")]
theorem base_of {mg mb : Str → Option Value} (X : (hK w.params).In h) (hm : ∃ ob, h.get? sysModules = some ob) (g : h.Ns mainGlobals mg) (b : h.Ns 0 mb) (own : ∀ p ∈ ownNames, mg p.1 = some p.2) (out : ∀ p ∈ outNames, mg p.1 = none ∧ mb p.1 = some p.2) : Base w h where
 glob := ⟨mg, mb, g, b, fun p hp => by
  have : p ∈ outNames ++ ownNames := by
   revert p
   decide
  rcases List.mem_append.mp this with q | q
  ·exact .inr (out p q)
  ·exact .inl (own p q)⟩
 mods := hm
 sm := ⟨_, X, smfrag w⟩
 ml := mlOf X
 mkn := makesN X
 mget := makeGet X
 kc := fun C hC => by
  rcases hC with rfl | rfl
  ·exact ⟨.machine, .inr rfl, .of_peek X (by kernel_rfl)⟩
  ·exact ⟨.machine, .inr rfl, .of_peek X (by kernel_rfl)⟩
 fInit := ⟨153, #[.none, .str "" 404, .str "" 405, .bool true], 0, wInit.at_ X, at_K X (by kernel_rfl), rfl⟩
 fSeqs := wSeqs.at_ X
 fSeq1 := wSeq1.at_ X
 fSeq2 := wSeq2.at_ X
 fChain := wChain.at_ X
 fLong := ⟨189, #[.int 0 464, .none, .int 0 465, .none], 0, wLong.at_ X, at_K X (by kernel_rfl), rfl⟩
 fBlocks := wBlocks.at_ X
 fCodes := wCodes.at_ X
 fJunk := ⟨247, #[.str " \t" 583], 0, wJunk.at_ X, at_K X (by kernel_rfl), rfl⟩
 fKept := wKept.at_ X
 fReach := wReach.at_ X
 fPairs := wPairs.at_ X
 fLCodes := wLCodes.at_ X
 fTold := wTold.at_ X
 fNew := wNew.at_ X
 fMake := wMake.at_ X
end
end Mine
end
open PySem PySem.W PyProof.Rows PySem.Calls
namespace Mine
noncomputable def hdXP (mg : Str → Option Value) (h : Heap) : Prop := ∀ p ∈ ownNames, mg p.1 = some p.2
theorem hdXP_of (s : Shared) (e : hdXt s = true) : hdXP (s.heap.nsMap mainGlobals) s.heap := fun p hp => of_decide_eq_true (List.all_eq_true.mp e p hp)
theorem layZ {R : WRecords} {cl : Str → Option Addr} {P : Params} {ord : List DictEntry → List DictEntry} : ∀ (xs : List WData) (s : Shared) (r : List Value × Shared), WShape.hasItems R xs .int = true → layAllW R cl P ord xs s = some r → ∃ ns : List Int, r.1.map z = ns.map iv
 | [], s, r, _, e => by
  have : layAllW R cl P ord [] s = some ([], s) := by simp [layAllW]
  rw [this] at e
  cases e; exact ⟨[], rfl⟩
 | x :: xs, s, r, h, e => by
  have h' : WShape.has R x .int = true ∧ WShape.hasItems R xs .int = true := by simpa [WShape.hasItems] using h
  obtain ⟨i, rfl⟩ := hasW_int h'.1
  simp only [layAllW, layW] at e
  cases q : layAllW R cl P ord xs { s with toks := s.toks + 1 } with
  | none => rw [q] at e; cases e
  | some r' =>
   rw [q] at e
   cases e
   obtain ⟨ns, hn⟩ := layZ xs _ r' h'.2 q
   exact ⟨i :: ns, by rw [List.map_cons, List.map_cons, hn]; rfl⟩
theorem script_is {R : WRecords} {w : World} {s₀ s₁ : Shared} {args : List WData} {vs : List Value} {as : List Addr} (L : Laid R w s₀ s₁ args vs as) (h : WShape.hasAll R args [.list .int] = true) :
  ∃ (l : Addr) (ys : List Value) (ns : List Int), vs = [.ref l] ∧ s₁.heap.get? l = some ⟨.type "list", none, .seq ys.toArray 0, #[]⟩ ∧ ys.map z = ns.map iv := by
 obtain ⟨d, r, rfl, h1, h2⟩ := hasAllW_cons h
 obtain rfl := hasAllW_nil h2
 obtain ⟨xs, rfl, h3⟩ := hasW_list h1
 obtain ⟨ord, _, e⟩ := L.laid
 simp only [layAllW, layW] at e
 cases q : layAllW R (classAt s₀.heap) w.params ord xs s₀ with
 | none => rw [q] at e; cases e
 | some r =>
  rw [q] at e
  obtain ⟨ns, hn⟩ := layZ xs _ r h3 q
  simp only [Option.some.injEq, Prod.mk.injEq] at e
  obtain ⟨ea, es⟩ := e
  exact ⟨_, r.1, ns, ea.symm, by rw [← es]; exact Heap.get?_push_size _ rfl, hn⟩
theorem z_true {v : Value} (h : z v = .bool true) : v = .bool true := by
 cases v <;> first | exact h | (exfalso; revert h; simp [z])
end Mine
open Mine
set_option maxHeartbeats 8000000 in
theorem PySem.Challenge.cw_sc0002_01_holds : PySem.Challenge.rw_sc0002_01.Holds := by
 refine holds_law said fun said' => ?_
 refine holds_openX (q := qv) (loose := lv) (Xt := hdXt) (XP := hdXP) (Yf := hdObs) (Ya := hdVal) (N := 6000) left hdXP_of (fun _ _ _ x _ => x) (by rfl) (by rfl) (by rfl) (fun s e => recFacts_nil rfl) (by rfl) (by assumption) (by decide +kernel) ⟨rfl, rfl, rfl, rfl, rfl, by decide +kernel⟩ ?hw ?hc
 case hw => w_witness2
 case hc =>
  intro w s₀ s₁ mg mb G Y a o pm cd doc dV kV ho hd hcd hD hmg hg args vals as L hpre hlay hrd hwl hlo
  obtain ⟨l, ys, ns, rfl, hl, hys⟩ := script_is L (pre_splitW hpre).1
  have Y1 : hAt.map s₀.heap.get? = (hK w.params).map fun p => some p.2 := congrArg Prod.fst Y
  have Y2 : (s₀.heap.get? sysModules).isSome = true := congrArg Prod.snd Y
  have X : (hK w.params).In s₁.heap := (Frag.in_of (by rfl) Y1).keeps L.keeps
  obtain ⟨ob, hob⟩ := Option.isSome_iff_exists.mp Y2
  have out : ∀ p ∈ outNames, mg p.1 = none ∧ mb p.1 = some p.2 := fun p hp => by
   constructor
   ·refine G.T.free p.1 ?_ ?_ ?_ ?_ ?_ <;> (revert p; decide +kernel)
   ·have e : ∀ p ∈ outNames, p.1 ≠ "__name__" ∧ bootBuiltins p.1 = some p.2 := by decide +kernel
    rw [G.T.builtins p.1 (e p hp).1]; exact (e p hp).2
  have B : Base w s₁.heap := base_of X ⟨ob, L.keeps _ _ hob⟩ G.T.g G.T.b G.X out
  have ha : mg "law" = some (.ref aLaw) := G.X ("law", .ref aLaw) (by simp)
  obtain rfl : aLaw = a := by
   have : some (Value.ref aLaw) = some (Value.ref a) := ha.symm.trans hmg
   cases this; rfl
  let c : Cx := ⟨w, callerA, s₁.heap, { scope := scopeOf (topAt 13), locals := mainGlobals, globals := mainGlobals, cells := [] }, s₁.gens, s₁.os⟩
  have gd : Good c (40 + 1) := ⟨rfl, by show callerA.units + 20 * 41 + 500 < cLine; decide +kernel, by show callerA.depth + 3 * 41 + 10 < recursionLimit; decide +kernel, tab_law.kind, G.T.nolimit⟩
  have md : Mod c ⟨fun x => (mg x).map z, fun _ => none⟩ s₁ := ⟨⟨mg, ⟨G.T.g, fun _ _ e => e⟩, fun _ => rfl⟩, fun _ _ e => (nomatch e), rfl, rfl⟩
  have cl : CALL c (.ref aLaw) [.ref l] ⟨fun x => (mg x).map z, fun _ => none⟩ fun v _ => v = .bool true := by
   refine CALL_fnK (vals := [some (.ref l), none, none, none, none, none, none, none, none, none, none, none, none, none]) gd B (wLaw.at_ X) tab_law (fun nm q doc pm an code ct us hu => ?_) (Nat.le_of_ble_eq_true rfl) rfl fun c' H kp => ?_
   ·obtain ⟨u1, rfl⟩ : ∃ u1, us = [u1] := by
     exact len1 hu
    rfl
   ·exact body_law (n := 0) H (kp _ _ hl) hys fun _ => rfl
  refine wpAny_mono ((cl (.ref aLaw) [.ref l] rfl rfl).run s₁ md) (fun v s' ⟨st', m', hv⟩ => ?_) (fun _ _ e => e.elim)
  obtain rfl := z_true hv
  obtain ⟨m, F, _⟩ := m'.fr
  exact GoodW.toG ⟨.inl ⟨.bool true, .bool true, [], rfl, fun _ => rfl, .bool _, by wrow_post, fun _ => ⟨.nil, fun a ha => (nomatch ha)⟩⟩, F.keep, m'.o, m'.g.trans hg⟩
