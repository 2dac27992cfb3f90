/-
  What one step of keep does to the invariant.
-/
import Derived.Test.Qxb6000622aKI
namespace Go.Proofs.Qxb6000622a
open Go.RowKit Go.Maps Go.WideMaps
set_option linter.unusedVariables false

/-- One more span at place i. -/
theorem KI.push {w : World} {B Wb M : Nat} {S : Value} {vs : List Value} {hr : Bool} {names : List ByteArray} {sp : ByteArray → List (Nat × Nat)} (K : KI w B Wb M S vs hr names sp) (hnd : names.Nodup)
    {i : Nat} {v : Value} {s : ByteArray} {cs : List Value} (hv : vs[i]? = some v) (hs : names[i]? = some s) (hcs : w.ownsRow B 75 2 v (sp s).length cs) (hsp : SpansAt w hr (sp s) cs)
    {rv tv : Value} {lo hi : Nat} (hrv : RowsVal w rv lo hi) (htv : RatesVal w hr tv lo hi)
    {wa : World} (hx : Ext w wa) {w1 : World} {g cap : Nat} (hown : w1.ownsRow B 75 2 (.slice (some ⟨g, 0, none⟩) ((sp s).length + 1) cap) ((sp s).length + 1) (cs ++ [rv, tv]))
    (hgrow : wa.grownBy w1 v.ownBlock) (hat : v.ownBlock = some g ∨ g = wa.heap.size) {Sg Sc : Nat} (hS : S = .slice (some ⟨Sg, 0, none⟩) names.length Sc) :
    KI (w1.setCell ⟨Sg, i, none⟩ (.slice (some ⟨g, 0, none⟩) ((sp s).length + 1) cap)) B Wb M S (vs.set i (.slice (some ⟨g, 0, none⟩) ((sp s).length + 1) cap)) hr names (fun x => if x = s then sp s ++ [(lo, hi)] else sp x) ∧
    Fr w (w1.setCell ⟨Sg, i, none⟩ (.slice (some ⟨g, 0, none⟩) ((sp s).length + 1) cap)) ∧ Below B wa (w1.setCell ⟨Sg, i, none⟩ (.slice (some ⟨g, 0, none⟩) ((sp s).length + 1) cap)) := by
  have hSb : S.ownBlock = some Sg := by rw [hS]; rfl
  obtain ⟨curS, hSg⟩ := ownsRow_type K.arow hSb
  have hSB : B ≤ Sg := (K.arow.lt Sg hSb).1
  obtain ⟨curg, hgt⟩ := ownsRow_type hown (g := g) rfl
  -- a block of w that is no list of spans at v is still there
  have F1 : ∀ (b : Nat) (o : Obj), w.heap[b]? = some o → v.ownBlock ≠ some b → w1.heap[b]? = some o := fun b o hb hne => by
    have hb' := hx b o hb
    rw [hgrow.block b (heap_lt hb') (fun e => hne e.symm)]
    exact hb'
  have tyne : ∀ (b : Nat) (o : Obj), w.heap[b]? = some o → (∀ cur, o ≠ .cells cur 75 (0, 0)) → v.ownBlock ≠ some b := fun b o hb hne e => by
    obtain ⟨cur, hc⟩ := ownsRow_type hcs e
    rw [hb] at hc
    exact hne cur (Option.some.inj hc)
  have hSg1 : w1.heap[Sg]? = some (.cells curS 71 (0, 0)) := F1 Sg _ hSg (tyne Sg _ hSg (fun cur e => by simp at e))
  have hgS : g ≠ Sg := fun e => by rw [e, hSg1] at hgt; simp at hgt
  obtain ⟨u, hu⟩ : ∃ u : Value, u = .slice (some ⟨g, 0, none⟩) ((sp s).length + 1) cap := ⟨_, rfl⟩
  rw [← hu] at hown ⊢
  have hub : u.ownBlock = some g := by rw [hu]; rfl
  have F2 : ∀ (b : Nat) (o : Obj), w1.heap[b]? = some o → b ≠ Sg → (w1.setCell ⟨Sg, i, none⟩ u).heap[b]? = some o := fun b o hb hne => by
    rw [heap_setCell_other _ _ _ _ (by exact hne)]
    exact hb
  have fr : Fr w (w1.setCell ⟨Sg, i, none⟩ u) := fun b cur t fz hb h1 h2 h3 => by
    refine F2 b _ (F1 b _ hb (tyne b _ hb (fun cur' e => by simp at e; exact h3 e.2.1))) (fun e => ?_)
    rw [e, hSg] at hb
    simp at hb
    exact h2 hb.2.1.symm
  refine ⟨⟨K.bW, K.bM, ?_, ?_, ?_, ?_, ?_⟩, fr, ?_⟩
  · refine F2 Wb _ (F1 Wb _ K.wblk (tyne Wb _ K.wblk (fun cur e => by simp at e))) (fun e => ?_)
    have := K.wblk
    rw [e, hSg] at this
    simp at this
  · obtain ⟨es, clock, hM⟩ := ownsMap_type K.amap
    exact ownsMap_congr K.amap (fun o ho => F2 M _ (F1 M _ ho (tyne M _ ho (fun cur e => by rw [hM] at ho; rw [← Option.some.inj ho] at e; simp at e))) (fun e => by rw [e, hSg] at hM; simp at hM))
  · have h1 : w1.ownsRow B 71 1 S names.length vs := ownsRow_congr K.arow (fun g' o hg' ho => by
      rw [hSb] at hg'
      obtain rfl := Option.some.inj hg'
      rw [hSg] at ho
      rw [hSg1, ← ho])
    subst hS
    exact (h1.stored i u).1
  · intro j v' s' hv' hs'
    by_cases hji : j = i
    · subst hji
      have hjl : j < vs.length := (List.getElem?_eq_some_iff.1 hv).1
      rw [List.getElem?_set_self hjl] at hv'
      obtain rfl := Option.some.inj hv'
      rw [hs] at hs'
      obtain rfl := Option.some.inj hs'
      rw [if_pos rfl]
      refine ⟨cs ++ [rv, tv], ?_, ?_⟩
      · rw [List.length_append]
        exact ownsRow_setCell_other hown (by rw [hub]; exact fun e => hgS (Option.some.inj e)) _
      · have hcl : cs.length = (sp s).length * 2 := hcs.1
        intro k lo' hi' hk
        by_cases hkl : k < (sp s).length
        · rw [List.getElem?_append_left hkl] at hk
          obtain ⟨rv', tv', h1, h2, h3, h4⟩ := hsp k lo' hi' hk
          exact ⟨rv', tv', by rw [List.getElem?_append_left (by omega)]; exact h1, by rw [List.getElem?_append_left (by omega)]; exact h2, h3.fr fr, h4.fr fr⟩
        · rw [List.getElem?_append_right (by omega)] at hk
          have hk0 : k - (sp s).length = 0 := by
            have := (List.getElem?_eq_some_iff.1 hk).1
            simp at this
            omega
          rw [hk0] at hk
          simp at hk
          obtain ⟨rfl, rfl⟩ := hk
          have hke : k = (sp s).length := by omega
          refine ⟨rv, tv, ?_, ?_, hrv.fr fr, htv.fr fr⟩
          · rw [List.getElem?_append_right (by omega), hcl, hke, Nat.sub_self]; rfl
          · rw [List.getElem?_append_right (by omega), hcl, hke, show (sp s).length * 2 + 1 - (sp s).length * 2 = 1 from by omega]; rfl
    · rw [List.getElem?_set_ne (fun e => hji e.symm)] at hv'
      obtain ⟨cs', h1, h2⟩ := K.each j v' s' hv' hs'
      have hne : s' ≠ s := fun e => by
        obtain ⟨hjl, hje⟩ := List.getElem?_eq_some_iff.1 hs'
        obtain ⟨hil, hie⟩ := List.getElem?_eq_some_iff.1 hs
        exact hji ((List.getElem_inj hnd).1 (by rw [hje, hie, e]))
      rw [if_neg hne]
      refine ⟨cs', ownsRow_congr h1 (fun g' o hg' ho => ?_), h2.fr fr⟩
      refine F2 g' _ (F1 g' _ ho (fun e => hji (K.apart j i v' v g' hv' hv hg' e))) (fun e => ?_)
      obtain ⟨cur', hc'⟩ := ownsRow_type h1 hg'
      rw [e, hSg] at hc'
      simp at hc'
  · intro a b va vb bl ha hb hba hbb
    have old : ∀ (j : Nat) (v' : Value), vs[j]? = some v' → v'.ownBlock = some g → j = i := fun j v' hj hj' => by
      rcases hat with h | h
      · exact K.apart j i v' v g hj hv hj' h
      · exfalso
        by_cases hjn : ∃ s', names[j]? = some s'
        · obtain ⟨s', hs'⟩ := hjn
          obtain ⟨cs', h1, _⟩ := K.each j v' s' hj hs'
          obtain ⟨cur', hc'⟩ := ownsRow_type h1 hj'
          have := heap_lt (hx _ _ hc')
          omega
        · have hl := K.arow.1
          have hjl := (List.getElem?_eq_some_iff.1 hj).1
          exact hjn ⟨names[j], List.getElem?_eq_getElem (by omega)⟩
    have hil : i < vs.length := (List.getElem?_eq_some_iff.1 hv).1
    by_cases hai : a = i
    · subst hai
      rw [List.getElem?_set_self hil] at ha
      obtain rfl := Option.some.inj ha
      by_cases hbi : b = a
      · exact hbi.symm
      · rw [List.getElem?_set_ne (fun e => hbi e.symm)] at hb
        rw [hub] at hba
        exact (old b vb hb (by rw [hbb, ← hba])).symm
    · rw [List.getElem?_set_ne (fun e => hai e.symm)] at ha
      by_cases hbi : b = i
      · subst hbi
        rw [List.getElem?_set_self hil] at hb
        obtain rfl := Option.some.inj hb
        rw [hub] at hbb
        exact old a va ha (by rw [hba, ← hbb])
      · rw [List.getElem?_set_ne (fun e => hbi e.symm)] at hb
        exact K.apart a b va vb bl ha hb hba hbb
  · have hbel : Below B wa w1 := ⟨hgrow.os, hgrow.tape, hgrow.output, hgrow.size, fun k hk => by
      by_cases hkl : k < wa.heap.size
      · exact hgrow.block k hkl (fun e => by have := (hcs.lt k e.symm).1; omega)
      · exfalso
        have := heap_lt (hx _ _ hSg)
        omega⟩
    exact hbel.setCell hSB _

/-- The Work's own block, behind a store into its map. -/
theorem KI.wblk1 {w : World} {B Wb M : Nat} {S : Value} {vs : List Value} {hr : Bool} {names : List ByteArray} {sp : ByteArray → List (Nat × Nat)} (K : KI w B Wb M S vs hr names sp)
    {w1 : World} (hg1 : w.grownBy w1 (some M)) : w1.heap[Wb]? = some (.cells #[.string ByteArray.empty, .bool hr, .map (some M), S] 70 (0, 0)) := by
  obtain ⟨es, clock, hM⟩ := ownsMap_type K.amap
  have hne : Wb ≠ M := fun e => by have := K.wblk; rw [e, hM] at this; cases this
  rw [hg1.block Wb (heap_lt K.wblk) (fun e => hne (Option.some.inj e))]
  exact K.wblk
theorem KI.arow1 {w : World} {B Wb M : Nat} {S : Value} {vs : List Value} {hr : Bool} {names : List ByteArray} {sp : ByteArray → List (Nat × Nat)} (K : KI w B Wb M S vs hr names sp)
    {w1 : World} (hg1 : w.grownBy w1 (some M)) {wa : World} (hx : Ext w1 wa) : wa.ownsRow B 71 1 S names.length vs := by
  obtain ⟨es, clock, hM⟩ := ownsMap_type K.amap
  refine ownsRow_congr K.arow (fun g o hg ho => hx _ _ ?_)
  obtain ⟨cur, hc⟩ := ownsRow_type K.arow hg
  have hne : g ≠ M := fun e => by rw [e, hM] at hc; cases hc
  rw [hg1.block g (heap_lt ho) (fun e => hne (Option.some.inj e))]
  exact ho
/-- .. and behind an append to its list. -/
theorem KI.wblk2 {w : World} {B Wb M : Nat} {S : Value} {vs : List Value} {hr : Bool} {names : List ByteArray} {sp : ByteArray → List (Nat × Nat)} (K : KI w B Wb M S vs hr names sp)
    {w1 : World} (hg1 : w.grownBy w1 (some M)) {wa : World} (hx : Ext w1 wa) {w2 : World} (hgrow : wa.grownBy w2 S.ownBlock) : w2.heap[Wb]? = some (.cells #[.string ByteArray.empty, .bool hr, .map (some M), S] 70 (0, 0)) := by
  have h1 := hx _ _ (K.wblk1 hg1)
  rw [hgrow.block Wb (heap_lt h1) (fun e => ?_)]
  · exact h1
  · obtain ⟨curS, hc⟩ := ownsRow_type K.arow e.symm
    rw [K.wblk] at hc
    simp at hc

/-- A new member. -/
theorem KI.newMember {w : World} {B Wb M : Nat} {S : Value} {vs : List Value} {hr : Bool} {names : List ByteArray} {sp : ByteArray → List (Nat × Nat)} (K : KI w B Wb M S vs hr names sp) {s : ByteArray} (hsp : sp s = [])
    {w1 : World} (hmap : w1.ownsMap Try.prog 9 (plainElem (H := Unit) Try.prog 3) M (names.length + 1) (pmap (names ++ [s]))) (hg1 : w.grownBy w1 (some M))
    {wa : World} (hx : Ext w1 wa) {w2 : World} {g cap : Nat} (hown : w2.ownsRow B 71 1 (.slice (some ⟨g, 0, none⟩) (names.length + 1) cap) (names.length + 1) (vs ++ [.slice none 0 0]))
    (hgrow : wa.grownBy w2 S.ownBlock) (hos : wa.os = w1.os ∧ wa.tape = w1.tape ∧ wa.output = w1.output ∧ w1.heap.size ≤ wa.heap.size) :
    KI (w2.setCell ⟨Wb, 3, none⟩ (.slice (some ⟨g, 0, none⟩) (names.length + 1) cap)) B Wb M (.slice (some ⟨g, 0, none⟩) (names.length + 1) cap) (vs ++ [.slice none 0 0]) hr (names ++ [s]) sp ∧
    Fr w (w2.setCell ⟨Wb, 3, none⟩ (.slice (some ⟨g, 0, none⟩) (names.length + 1) cap)) ∧ Below B w (w2.setCell ⟨Wb, 3, none⟩ (.slice (some ⟨g, 0, none⟩) (names.length + 1) cap)) := by
  obtain ⟨es, clock, hM⟩ := ownsMap_type K.amap
  obtain ⟨es1, clock1, hM1⟩ := ownsMap_type hmap
  obtain ⟨curg, hgt⟩ := ownsRow_type hown (g := g) rfl
  have hvl : vs.length = names.length := by have := K.arow.1; omega
  obtain ⟨u, hu⟩ : ∃ u : Value, u = .slice (some ⟨g, 0, none⟩) (names.length + 1) cap := ⟨_, rfl⟩
  rw [← hu] at hown ⊢
  have hub : u.ownBlock = some g := by rw [hu]; rfl
  -- a block of cells of w that is not the list of members is still there in w2
  have F1 : ∀ (b : Nat) (cur : Array Value) (t : TypeId) (fz : Nat × Nat), w.heap[b]? = some (.cells cur t fz) → t ≠ 71 → w2.heap[b]? = some (.cells cur t fz) := fun b cur t fz hb ht => by
    have hbM : b ≠ M := fun e => by rw [e, hM] at hb; cases hb
    have h1 : w1.heap[b]? = some (.cells cur t fz) := by
      rw [hg1.block b (heap_lt hb) (fun e => hbM (Option.some.inj e))]
      exact hb
    have h2 := hx _ _ h1
    rw [hgrow.block b (heap_lt h2) (fun e => ?_)]
    · exact h2
    · obtain ⟨curS, hc⟩ := ownsRow_type K.arow e.symm
      rw [hb] at hc
      simp at hc
      exact ht hc.2.1
  have hW2 := F1 Wb _ 70 _ K.wblk (by decide)
  have hgW : g ≠ Wb := fun e => by rw [e, hW2] at hgt; simp at hgt
  have F2 : ∀ (b : Nat) (o : Obj), w2.heap[b]? = some o → b ≠ Wb → (w2.setCell ⟨Wb, 3, none⟩ u).heap[b]? = some o := fun b o hb hne => by
    rw [heap_setCell_other _ _ _ _ (by exact hne)]
    exact hb
  have fr : Fr w (w2.setCell ⟨Wb, 3, none⟩ u) := fun b cur t fz hb h1 h2 h3 => by
    refine F2 b _ (F1 b cur t fz hb h2) (fun e => ?_)
    have := K.wblk
    rw [e, this] at hb
    simp at hb
    exact h1 hb.2.1.symm
  have hM2 : ∀ o, w1.heap[M]? = some o → (w2.setCell ⟨Wb, 3, none⟩ u).heap[M]? = some o := fun o ho => by
    refine F2 M _ ?_ (fun e => by have := K.wblk; rw [← e, hM] at this; cases this)
    have h2 := hx _ _ ho
    rw [hgrow.block M (heap_lt h2) (fun e => ?_)]
    · exact h2
    · obtain ⟨curS, hc⟩ := ownsRow_type K.arow e.symm
      rw [hM] at hc
      cases hc
  refine ⟨⟨K.bW, K.bM, ?_, ?_, ?_, ?_, ?_⟩, fr, ?_⟩
  · rw [heap_setCell_same w2 Wb 3 _ 70 u hW2]
    rfl
  · rw [List.length_append]
    exact ownsMap_congr hmap hM2
  · rw [List.length_append]
    exact ownsRow_setCell_other hown (by rw [hub]; exact fun e => hgW (Option.some.inj e)) _
  · intro j v' s' hv' hs'
    by_cases hj : j < names.length
    · rw [List.getElem?_append_left (by omega)] at hv'
      rw [List.getElem?_append_left hj] at hs'
      obtain ⟨cs', h1, h2⟩ := K.each j v' s' hv' hs'
      refine ⟨cs', ownsRow_congr h1 (fun g' o hg' ho => ?_), h2.fr fr⟩
      obtain ⟨cur', hc'⟩ := ownsRow_type h1 hg'
      rw [hc'] at ho
      rw [← Option.some.inj ho]
      refine F2 g' _ (F1 g' cur' 75 _ hc' (by decide)) (fun e => ?_)
      have := K.wblk
      rw [← e, hc'] at this
      simp at this
    · rw [List.getElem?_append_right (by omega)] at hv' hs'
      have h0 : j - names.length = 0 := by
        have := (List.getElem?_eq_some_iff.1 hs').1
        simp at this
        omega
      rw [h0] at hs'
      rw [hvl, h0] at hv'
      simp at hs' hv'
      subst hs' hv'
      rw [hsp]
      exact ⟨[], World.ownsRow_nil _ _ _ _, fun k lo hi hk => by simp at hk⟩
  · intro a b va vb bl ha hb hba hbb
    have key : ∀ (j : Nat) (v' : Value), (vs ++ [Value.slice none 0 0])[j]? = some v' → v'.ownBlock = some bl → vs[j]? = some v' := fun j v' hj hj' => by
      by_cases hjl : j < vs.length
      · rwa [List.getElem?_append_left hjl] at hj
      · rw [List.getElem?_append_right (by omega)] at hj
        have h0 : j - vs.length = 0 := by
          have := (List.getElem?_eq_some_iff.1 hj).1
          simp at this
          omega
        rw [h0] at hj
        simp at hj
        subst hj
        simp [Value.ownBlock] at hj'
    exact K.apart a b va vb bl (key a va ha hba) (key b vb hb hbb) hba hbb
  · have hbel : Below B w w2 := by
      refine ⟨?_, ?_, ?_, ?_, fun k hk => ?_⟩
      · rw [hgrow.os, hos.1, hg1.os]
      · rw [hgrow.tape, hos.2.1, hg1.tape]
      · rw [hgrow.output, hos.2.2.1, hg1.output]
      · exact Nat.le_trans hg1.size (Nat.le_trans hos.2.2.2 hgrow.size)
      · have hkM : k ≠ M := by have := K.bM; omega
        have hkw : k < w.heap.size := by have := heap_lt hM; have := K.bM; omega
        have h1 := hg1.block k hkw (fun e => hkM (Option.some.inj e))
        have hk1 : k < w1.heap.size := Nat.lt_of_lt_of_le hkw hg1.size
        have hwa : wa.heap[k]? = w1.heap[k]? := by
          rw [Array.getElem?_eq_getElem hk1]
          exact hx k _ (Array.getElem?_eq_getElem hk1)
        rw [hgrow.block k (Nat.lt_of_lt_of_le hk1 hos.2.2.2) (fun e => by have := (K.arow.lt k e.symm).1; omega), hwa, h1]
    exact hbel.setCell K.bW _

end Go.Proofs.Qxb6000622a
