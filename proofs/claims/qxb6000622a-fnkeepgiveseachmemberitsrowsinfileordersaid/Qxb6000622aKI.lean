/-
  The Work that the call builds, as memory: what holds of it between two steps of keep.
-/
import Derived.Test.Qxb6000622aRows
import Derived.WalkKit
import Derived.WalkSpells
import Derived.WalkLawsBesides
import Derived.Maps.OwnSet
import Derived.Maps.Ext
import Derived.Deep.AppendLies
namespace Go.Proofs.Qxb6000622a
open Go.RowKit Go.Maps Go.WideMaps
set_option linter.unusedVariables false

/-! ### The map from names to places -/
/-- A name as a key. -/
def nkey (s : ByteArray) : Lit := .string s.data.toList

theorem nkey_inj {s t : ByteArray} (h : nkey s = nkey t) : s = t := by
  unfold nkey at h
  simp at h
  cases s; cases t
  simp at h
  rw [h]

/-- The first k names, each at its place. -/
def pmapN (names : List ByteArray) : Nat → DataW Unit
  | 0 => .map []
  | k + 1 => (pmapN names k).put (nkey (names.getD k ByteArray.empty)) (.lit (.int .i64 k))
def pmap (names : List ByteArray) : DataW Unit := pmapN names names.length

theorem pmapN_append (names : List ByteArray) (s : ByteArray) : ∀ k, k ≤ names.length → pmapN (names ++ [s]) k = pmapN names k
  | 0, _ => rfl
  | k + 1, h => by
    unfold pmapN
    rw [pmapN_append names s k (by omega)]
    congr 2
    simp [List.getElem?_append_left (show k < names.length from by omega)]

theorem pmap_snoc (names : List ByteArray) (s : ByteArray) : pmap (names ++ [s]) = (pmap names).put (nkey s) (.lit (.int .i64 names.length)) := by
  unfold pmap
  rw [List.length_append]
  show pmapN (names ++ [s]) (names.length + 1) = _
  rw [pmapN, pmapN_append names s _ (Nat.le_refl _)]
  simp

theorem pmapN_isMap (names : List ByteArray) : ∀ k, IsMap (pmapN names k)
  | 0 => isMap_empty
  | k + 1 => (pmapN_isMap names k).put _ _

theorem has_pmapN (names : List ByteArray) (s : ByteArray) : ∀ k, k ≤ names.length → (Maps.has (pmapN names k) (nkey s) = true ↔ s ∈ names.take k)
  | 0, _ => by simp [pmapN, Maps.has]
  | k + 1, h => by
    unfold pmapN
    have ih := has_pmapN names s k (by omega)
    rw [List.take_succ_eq_append_getElem (by omega), List.mem_append]
    by_cases e : s = names.getD k ByteArray.empty
    · rw [← e, has_put_same (pmapN_isMap names k) (show WideAt.IsKeyLit (nkey s) from trivial)]
      simp
      right
      rw [e]
      simp [List.getElem?_eq_getElem (show k < names.length from by omega)]
    · rw [has_put_other (fun h' => e (nkey_inj h')), ih]
      constructor
      · exact fun h => .inl h
      · rintro (h' | h')
        · exact h'
        · exfalso
          apply e
          simp at h'
          rw [h']
          simp [List.getElem?_eq_getElem (show k < names.length from by omega)]

theorem has_pmap (names : List ByteArray) (s : ByteArray) : Maps.has (pmap names) (nkey s) = true ↔ s ∈ names := by
  unfold pmap
  rw [has_pmapN names s _ (Nat.le_refl _), List.take_length]

theorem atKey_pmapN (names : List ByteArray) (hnd : names.Nodup) (i : Nat) (s : ByteArray) (hi : names[i]? = some s) (z : DataW Unit) : ∀ k, k ≤ names.length → i < k → (pmapN names k).atKey (nkey s) z = .lit (.int .i64 i)
  | 0, _, h => by omega
  | k + 1, h, hk => by
    unfold pmapN
    obtain ⟨hil, hie⟩ := List.getElem?_eq_some_iff.1 hi
    by_cases e : i = k
    · subst e
      have : names.getD i ByteArray.empty = s := by simp [hi]
      rw [this]
      exact atKey_put_same (pmapN_isMap names i) (show WideAt.IsKeyLit (nkey s) from trivial) _ _
    · have hne : s ≠ names.getD k ByteArray.empty := by
        intro e2
        have hkl : k < names.length := by omega
        have : names[i] = names[k] := by
          rw [hie, e2]
          simp [List.getElem?_eq_getElem hkl]
        exact e ((List.getElem_inj hnd).1 this)
      rw [atKey_put_other (fun h' => hne (nkey_inj h'))]
      exact atKey_pmapN names hnd i s hi z k (by omega) (by omega)

theorem atKey_pmap (names : List ByteArray) (hnd : names.Nodup) (i : Nat) (s : ByteArray) (hi : names[i]? = some s) (z : DataW Unit) : (pmap names).atKey (nkey s) z = .lit (.int .i64 i) := by
  obtain ⟨hil, _⟩ := List.getElem?_eq_some_iff.1 hi
  exact atKey_pmapN names hnd i s hi z _ (Nat.le_refl _) hil

theorem law9 : Keyed Try.prog 9 := string_keyed Try.underlying9
theorem zero3 (w : World) : (zeroValue 3).run Try.prog w = .ok (.int .i64 0) w := by kernel_rfl

/-! ### Memory -/
/-- The q-th cell of stored row g. -/
def scell (g q : Nat) : Value := if q = 0 then .int .i32 (g : Int) else if q = 1 then .int .u32 ((g : Int) + 1) else .int .i64 (3 * (g : Int))

/-- A span's rows: rows lo .. hi-1 of the file. -/
def RowsVal (w : World) (v : Value) (lo hi : Nat) : Prop :=
  ∃ b off c cur, v = .slice (some ⟨b, off, none⟩) (hi - lo) c ∧ w.heap[b]? = some (.cells cur 77 (0, 0)) ∧ ∀ t q, t < hi - lo → q < 3 → cur[off + t * 3 + q]? = some (scell (lo + t) q)

/-- A span's rates. -/
def RatesVal (w : World) (hr : Bool) (v : Value) (lo hi : Nat) : Prop :=
  (hr = false ∧ v = .slice none 0 0) ∨ (hr = true ∧ ∃ b off c cur, v = .slice (some ⟨b, off, none⟩) (hi - lo) c ∧ w.heap[b]? = some (.cells cur 32 (0, 0)) ∧ ∀ t, t < hi - lo → cur[off + t]? = some (.int .i64 (7 * ((lo + t : Nat) : Int))))

/-- The spans' cells, two a span. -/
def SpansAt (w : World) (hr : Bool) (sps : List (Nat × Nat)) (cs : List Value) : Prop :=
  ∀ i lo hi, sps[i]? = some (lo, hi) → ∃ rv tv, cs[i * 2]? = some rv ∧ cs[i * 2 + 1]? = some tv ∧ RowsVal w rv lo hi ∧ RatesVal w hr tv lo hi

/-- No block of cells has turned but such as hold a Work, its list of members, or a list of spans. -/
def Fr (w w' : World) : Prop := ∀ (b : Nat) (cur : Array Value) (t : TypeId) (fz : Nat × Nat), w.heap[b]? = some (.cells cur t fz) → t ≠ 70 → t ≠ 71 → t ≠ 75 → w'.heap[b]? = some (.cells cur t fz)

theorem Fr.refl (w : World) : Fr w w := fun _ _ _ _ h _ _ _ => h
theorem Fr.trans {a b c : World} (h : Fr a b) (k : Fr b c) : Fr a c := fun x cur t fz hx h1 h2 h3 => k x cur t fz (h x cur t fz hx h1 h2 h3) h1 h2 h3

/-- All blocks are as they were. -/
def Ext (w w' : World) : Prop := ∀ (b : Nat) (o : Obj), w.heap[b]? = some o → w'.heap[b]? = some o
theorem Ext.refl (w : World) : Ext w w := fun _ _ h => h
theorem Ext.trans {a b c : World} (h : Ext a b) (k : Ext b c) : Ext a c := fun x o hx => k x o (h x o hx)
theorem Ext.fr {a b : World} (h : Ext a b) : Fr a b := fun x cur t fz hx _ _ _ => h x _ hx
theorem heap_lt {w : World} {b : Nat} {o : Obj} (h : w.heap[b]? = some o) : b < w.heap.size := by
  rcases Nat.lt_or_ge b w.heap.size with hl | hl
  · exact hl
  · rw [Array.getElem?_eq_none hl] at h; cases h
theorem Ext.alloc {a w : World} (h : Ext a w) (o : Obj) : Ext a (w.alloc o) := fun x p hx => by
  have := h x p hx
  rw [Below.heap_alloc _ _ _ (heap_lt this)]
  exact this
theorem Ext.drewN {a w : World} (h : Ext a w) (n : Nat) : Ext a (w.drewN n) := h
theorem Ext.drew {a w : World} (h : Ext a w) : Ext a w.drew := h

theorem RowsVal.fr {w w' : World} {v : Value} {lo hi : Nat} (h : RowsVal w v lo hi) (f : Fr w w') : RowsVal w' v lo hi := by
  obtain ⟨b, off, c, cur, hv, hb, hc⟩ := h
  exact ⟨b, off, c, cur, hv, f b cur 77 _ hb (by decide) (by decide) (by decide), hc⟩
theorem RatesVal.fr {w w' : World} {hr : Bool} {v : Value} {lo hi : Nat} (h : RatesVal w hr v lo hi) (f : Fr w w') : RatesVal w' hr v lo hi := by
  rcases h with h | ⟨h1, b, off, c, cur, hv, hb, hc⟩
  · exact .inl h
  · exact .inr ⟨h1, b, off, c, cur, hv, f b cur 32 _ hb (by decide) (by decide) (by decide), hc⟩
theorem SpansAt.fr {w w' : World} {hr : Bool} {sps : List (Nat × Nat)} {cs : List Value} (h : SpansAt w hr sps cs) (f : Fr w w') : SpansAt w' hr sps cs := fun i lo hi hs => by
  obtain ⟨rv, tv, h1, h2, h3, h4⟩ := h i lo hi hs
  exact ⟨rv, tv, h1, h2, h3.fr f, h4.fr f⟩

theorem ownsRow_congr {w w' : World} {base : Nat} {e : TypeId} {size : Nat} {v : Value} {n : Nat} {xs : List Value} (h : w.ownsRow base e size v n xs) (hb : ∀ g o, v.ownBlock = some g → w.heap[g]? = some o → w'.heap[g]? = some o) : w'.ownsRow base e size v n xs := by
  refine ⟨h.1, ?_⟩
  rcases h.2 with h' | ⟨g, cap, cur, hv, hbase, hg, rest⟩
  · exact .inl h'
  · exact .inr ⟨g, cap, cur, hv, hbase, hb g _ (by rw [hv]; rfl) hg, rest⟩
theorem ownsRow_type {w : World} {base : Nat} {e : TypeId} {size : Nat} {v : Value} {n : Nat} {xs : List Value} (h : w.ownsRow base e size v n xs) {g : Nat} (hg : v.ownBlock = some g) : ∃ cur, w.heap[g]? = some (.cells cur e (0, 0)) := by
  rcases h.2 with ⟨h', _⟩ | ⟨g', cap, cur, hv, _, hh, _⟩
  · rw [h'] at hg; simp [Value.ownBlock] at hg
  · rw [hv] at hg
    simp [Value.ownBlock] at hg
    subst hg
    exact ⟨cur, hh⟩
theorem ownsMap_congr {w w' : World} {b n : Nat} {D : DataW Unit} {R : Value → Option (DataW Unit × List MemPlace)} (h : w.ownsMap Try.prog 9 R b n D) (hb : ∀ o, w.heap[b]? = some o → w'.heap[b]? = some o) : w'.ownsMap Try.prog 9 R b n D := by
  obtain ⟨es, clock, hh, rest⟩ := h
  exact ⟨es, clock, hb _ hh, rest⟩
theorem ownsMap_type {w : World} {b n : Nat} {D : DataW Unit} {R : Value → Option (DataW Unit × List MemPlace)} (h : w.ownsMap Try.prog 9 R b n D) : ∃ es clock, w.heap[b]? = some (.map es clock) := by
  obtain ⟨es, clock, hh, rest⟩ := h
  exact ⟨es, clock, hh⟩

/-- THE INVARIANT: block Wb holds the Work; block M its map; S its list of members' spans (the values vs); 'names': the members in the order of their places; 'sp s': the ranges of rows of member s. -/
structure KI (w : World) (B Wb M : Nat) (S : Value) (vs : List Value) (hr : Bool) (names : List ByteArray) (sp : ByteArray → List (Nat × Nat)) : Prop where
  bW : B ≤ Wb
  bM : B ≤ M
  wblk : w.heap[Wb]? = some (.cells #[.string ByteArray.empty, .bool hr, .map (some M), S] 70 (0, 0))
  amap : w.ownsMap Try.prog 9 (plainElem (H := Unit) Try.prog 3) M names.length (pmap names)
  arow : w.ownsRow B 71 1 S names.length vs
  each : ∀ (i : Nat) (v : Value) (s : ByteArray), vs[i]? = some v → names[i]? = some s → ∃ cs, w.ownsRow B 75 2 v (sp s).length cs ∧ SpansAt w hr (sp s) cs
  apart : ∀ (i j : Nat) (v v' : Value) (b : Nat), vs[i]? = some v → vs[j]? = some v' → v.ownBlock = some b → v'.ownBlock = some b → i = j

theorem KI.ext {w w' : World} {B Wb M : Nat} {S : Value} {vs : List Value} {hr : Bool} {names : List ByteArray} {sp : ByteArray → List (Nat × Nat)} (K : KI w B Wb M S vs hr names sp) (h : Ext w w') : KI w' B Wb M S vs hr names sp where
  bW := K.bW
  bM := K.bM
  wblk := h _ _ K.wblk
  amap := ownsMap_congr K.amap (fun o ho => h _ _ ho)
  arow := ownsRow_congr K.arow (fun g o _ ho => h _ _ ho)
  each := fun i v s hv hs => by
    obtain ⟨cs, h1, h2⟩ := K.each i v s hv hs
    exact ⟨cs, ownsRow_congr h1 (fun g o _ ho => h _ _ ho), h2.fr h.fr⟩
  apart := K.apart

end Go.Proofs.Qxb6000622a
