/-
  What ZZRows holds: four lists of its own; and the plain words of a member's rows.
-/
import Derived.Test.Qxb6000622aKRead
import Derived.Test.Qxb6000622aKModel
namespace Go.Proofs.Qxb6000622a
open Go.RowKit Go.Maps Go.WideMaps
set_option linter.unusedVariables false

/-- Four rows of its own (elements of types 21, 57, 2, 2), over the memory that was there. -/
structure ZR (w0 w : World) (mv lv hv tv : Value) (ms ls hs ts : List Value) : Prop where
  m : w.ownsRow w0.heap.size 21 1 mv ms.length ms
  l : w.ownsRow w0.heap.size 57 1 lv ls.length ls
  h : w.ownsRow w0.heap.size 2 1 hv hs.length hs
  t : w.ownsRow w0.heap.size 2 1 tv ts.length ts
  ap : ∀ b, hv.ownBlock = some b → tv.ownBlock = some b → False
  x : Ext w0 w
  b : Below w0.heap.size w0 w

theorem ZR.start (w : World) : ZR w w (.slice none 0 0) (.slice none 0 0) (.slice none 0 0) (.slice none 0 0) [] [] [] [] :=
  ⟨World.ownsRow_nil _ _ _ _, World.ownsRow_nil _ _ _ _, World.ownsRow_nil _ _ _ _, World.ownsRow_nil _ _ _ _, fun b h _ => by simp [Value.ownBlock] at h, Ext.refl _, Below.refl _ _⟩

theorem own_ge {w : World} {base : Nat} {e : TypeId} {size : Nat} {v : Value} {n : Nat} {xs : List Value} (h : w.ownsRow base e size v n xs) {g : Nat} (hg : v.ownBlock = some g) : base ≤ g ∧ g < w.heap.size := by
  rcases h.2 with ⟨h', _⟩ | ⟨g', cap, cur, hv, hb, hh, _⟩
  · rw [h'] at hg; simp [Value.ownBlock] at hg
  · rw [hv] at hg
    simp [Value.ownBlock] at hg
    subst hg
    exact ⟨hb, heap_lt hh⟩

theorem own_apart {w : World} {base base' : Nat} {e e' : TypeId} {size size' : Nat} {v v' : Value} {n n' : Nat} {xs xs' : List Value} (h : w.ownsRow base e size v n xs) (h' : w.ownsRow base' e' size' v' n' xs') (hne : e ≠ e') : v.ownBlock = none ∨ v.ownBlock ≠ v'.ownBlock := by
  cases hv : v.ownBlock with
  | none => exact .inl rfl
  | some g =>
    right
    intro e2
    obtain ⟨c1, h1⟩ := ownsRow_type h hv
    obtain ⟨c2, h2⟩ := ownsRow_type h' e2.symm
    rw [h1] at h2
    injection h2 with h2
    injection h2 with _ h3 _
    exact hne h3

theorem ZR.ext {w0 w w' : World} {mv lv hv tv : Value} {ms ls hs ts : List Value} (Z : ZR w0 w mv lv hv tv ms ls hs ts) (x : Ext w w') (b : Below w0.heap.size w w') : ZR w0 w' mv lv hv tv ms ls hs ts :=
  ⟨ownsRow_congr Z.m (fun g o _ ho => x _ _ ho), ownsRow_congr Z.l (fun g o _ ho => x _ _ ho), ownsRow_congr Z.h (fun g o _ ho => x _ _ ho), ownsRow_congr Z.t (fun g o _ ho => x _ _ ho), Z.ap, Z.x.trans x, Z.b.trans b⟩

theorem grown_old {w0 w w1 : World} {row : Option Nat} (hx : Ext w0 w) (hb : Below w0.heap.size w0 w) (hg : w.grownBy w1 row) (hrow : ∀ k, row = some k → w0.heap.size ≤ k) : Ext w0 w1 ∧ Below w0.heap.size w0 w1 := by
  constructor
  · intro b o ho
    have h := hx _ _ ho
    rw [hg.block b (heap_lt h) (fun e => by have := hrow b e.symm; have := heap_lt ho; omega)]
    exact h
  · exact hb.trans ⟨hg.os, hg.tape, hg.output, hg.size, fun k hk => hg.block k (Nat.lt_of_lt_of_le hk hb.size) (fun e => by have := hrow k e.symm; omega)⟩

theorem ZR.am {w0 w w1 : World} {mv lv hv tv mv' : Value} {ms ls hs ts : List Value} {u : Value} (Z : ZR w0 w mv lv hv tv ms ls hs ts) (hg : w.grownBy w1 mv.ownBlock) (ho : w1.ownsRow w0.heap.size 21 1 mv' (ms.length + 1) (ms ++ [u])) : ZR w0 w1 mv' lv hv tv (ms ++ [u]) ls hs ts := by
  obtain ⟨x1, b1⟩ := grown_old Z.x Z.b hg (fun k hk => (own_ge Z.m hk).1)
  exact ⟨by simpa using ho, Z.l.kept hg (own_apart Z.l Z.m (by decide)), Z.h.kept hg (own_apart Z.h Z.m (by decide)), Z.t.kept hg (own_apart Z.t Z.m (by decide)), Z.ap, x1, b1⟩
theorem ZR.al {w0 w w1 : World} {mv lv hv tv lv' : Value} {ms ls hs ts : List Value} {u : Value} (Z : ZR w0 w mv lv hv tv ms ls hs ts) (hg : w.grownBy w1 lv.ownBlock) (ho : w1.ownsRow w0.heap.size 57 1 lv' (ls.length + 1) (ls ++ [u])) : ZR w0 w1 mv lv' hv tv ms (ls ++ [u]) hs ts := by
  obtain ⟨x1, b1⟩ := grown_old Z.x Z.b hg (fun k hk => (own_ge Z.l hk).1)
  exact ⟨Z.m.kept hg (own_apart Z.m Z.l (by decide)), by simpa using ho, Z.h.kept hg (own_apart Z.h Z.l (by decide)), Z.t.kept hg (own_apart Z.t Z.l (by decide)), Z.ap, x1, b1⟩
theorem ZR.ah {w0 w w1 : World} {mv lv hv tv : Value} {g c n : Nat} {ms ls hs ts : List Value} {u : Value} (Z : ZR w0 w mv lv hv tv ms ls hs ts) (hg : w.grownBy w1 hv.ownBlock) (ho : w1.ownsRow w0.heap.size 2 1 (.slice (some ⟨g, 0, none⟩) n c) (hs.length + 1) (hs ++ [u])) (hat : hv.ownBlock = some g ∨ g = w.heap.size) : ZR w0 w1 mv lv (.slice (some ⟨g, 0, none⟩) n c) tv ms ls (hs ++ [u]) ts := by
  obtain ⟨x1, b1⟩ := grown_old Z.x Z.b hg (fun k hk => (own_ge Z.h hk).1)
  have hne : tv.ownBlock = none ∨ tv.ownBlock ≠ hv.ownBlock := by
    cases ht : tv.ownBlock with
    | none => exact .inl rfl
    | some b => exact .inr (fun e => Z.ap b e.symm ht)
  refine ⟨Z.m.kept hg (own_apart Z.m Z.h (by decide)), Z.l.kept hg (own_apart Z.l Z.h (by decide)), by simpa using ho, Z.t.kept hg hne, fun b hb ht => ?_, x1, b1⟩
  simp [Value.ownBlock] at hb
  subst hb
  rcases hat with h | h
  · exact Z.ap _ h ht
  · have := (own_ge Z.t ht).2
    omega
theorem ZR.at {w0 w w1 : World} {mv lv hv tv : Value} {g c n : Nat} {ms ls hs ts : List Value} {u : Value} (Z : ZR w0 w mv lv hv tv ms ls hs ts) (hg : w.grownBy w1 tv.ownBlock) (ho : w1.ownsRow w0.heap.size 2 1 (.slice (some ⟨g, 0, none⟩) n c) (ts.length + 1) (ts ++ [u])) (hat : tv.ownBlock = some g ∨ g = w.heap.size) : ZR w0 w1 mv lv hv (.slice (some ⟨g, 0, none⟩) n c) ms ls hs (ts ++ [u]) := by
  obtain ⟨x1, b1⟩ := grown_old Z.x Z.b hg (fun k hk => (own_ge Z.t hk).1)
  have hne : hv.ownBlock = none ∨ hv.ownBlock ≠ tv.ownBlock := by
    cases ht : hv.ownBlock with
    | none => exact .inl rfl
    | some b => exact .inr (fun e => Z.ap b ht e.symm)
  refine ⟨Z.m.kept hg (own_apart Z.m Z.t (by decide)), Z.l.kept hg (own_apart Z.l Z.t (by decide)), Z.h.kept hg hne, by simpa using ho, fun b hb ht => ?_, x1, b1⟩
  simp [Value.ownBlock] at ht
  subst ht
  rcases hat with h | h
  · exact Z.ap _ hb h
  · have := (own_ge Z.h hb).2
    omega

/-- A block of another type outlives an append. -/
theorem blk_kept {w w1 : World} {base : Nat} {e : TypeId} {size : Nat} {v : Value} {n : Nat} {xs : List Value} (h : w.ownsRow base e size v n xs) (hg : w.grownBy w1 v.ownBlock) {b : Nat} {cur : Array Value} {t : TypeId} (hb : w.heap[b]? = some (.cells cur t (0, 0))) (hne : t ≠ e) : w1.heap[b]? = some (.cells cur t (0, 0)) := by
  rw [hg.block b (heap_lt hb) (fun e2 => by
    obtain ⟨c, hc⟩ := ownsRow_type h e2.symm
    rw [hb] at hc
    injection hc with hc
    injection hc with _ h3 _
    exact hne h3)]
  exact hb

/-! ### The plain words -/
def rng (lo t : Nat) : List Nat := (List.range t).map (lo + ·)
def fl (sps : List (Nat × Nat)) : List Nat := sps.flatMap (fun p => rng p.1 (p.2 - p.1))
theorem rng_len (lo t : Nat) : (rng lo t).length = t := by simp [rng]
theorem rng_succ (lo t : Nat) : rng lo (t + 1) = rng lo t ++ [lo + t] := by simp [rng, List.range_succ]
theorem rng_at (lo t i : Nat) (h : i < t) : (rng lo t)[i]? = some (lo + i) := by simp [rng, h]
theorem fl_nil : fl [] = [] := rfl
theorem fl_snoc (l : List (Nat × Nat)) (p : Nat × Nat) : fl (l ++ [p]) = fl l ++ rng p.1 (p.2 - p.1) := by simp [fl]
theorem fl_append (l m : List (Nat × Nat)) : fl (l ++ m) = fl l ++ fl m := by simp [fl]
theorem fl_take (l : List (Nat × Nat)) (k lo hi : Nat) (h : l[k]? = some (lo, hi)) : fl (l.take (k + 1)) = fl (l.take k) ++ rng lo (hi - lo) := by
  obtain ⟨hk, e⟩ := List.getElem?_eq_some_iff.1 h
  rw [List.take_succ_eq_append_getElem hk, e, fl_snoc]
theorem fl_spn_le (mem : List ByteArray) (stt : Nat → Nat) (hm : ∀ i j, i ≤ j → stt i ≤ stt j) (s : ByteArray) : ∀ k, (fl (spn mem stt k s)).length ≤ stt k
  | 0 => by simp [spn, fl]
  | k + 1 => by
    have ih := fl_spn_le mem stt hm s k
    have := hm k (k + 1) (by omega)
    rw [spn]
    split
    · rw [fl_snoc, List.length_append, rng_len]
      simp only
      omega
    · omega
theorem spn_ext (mem : List ByteArray) (stt : Nat → Nat) (s : ByteArray) (i : Nat) : ∀ j, i ≤ j → ∃ t, spn mem stt j s = spn mem stt i s ++ t
  | 0, h => ⟨[], by
      obtain rfl : i = 0 := by omega
      simp⟩
  | j + 1, h => by
    by_cases e : i = j + 1
    · exact ⟨[], by rw [e]; simp⟩
    · obtain ⟨t, ht⟩ := spn_ext mem stt s i j (by omega)
      rw [spn]
      split
      · exact ⟨t ++ [(stt j, stt (j + 1))], by rw [ht, List.append_assoc]⟩
      · exact ⟨t, ht⟩
/-- The row of member s at place 'rows so far' + t, in run j. -/
theorem fl_at (mem : List ByteArray) (stt : Nat → Nat) (s : ByteArray) (j T t : Nat) (hj : j < T) (hs : s = mem.getD j ByteArray.empty) (ht : t < stt (j + 1) - stt j) : (fl (spn mem stt T s))[(fl (spn mem stt j s)).length + t]? = some (stt j + t) := by
  obtain ⟨r, hr⟩ := spn_ext mem stt s (j + 1) T hj
  rw [hr, fl_append, spn, if_pos hs, fl_snoc, List.append_assoc, List.getElem?_append_right (by omega), Nat.add_sub_cancel_left, List.getElem?_append_left (by rw [rng_len]; exact ht)]
  exact rng_at _ _ _ ht

end Go.Proofs.Qxb6000622a
