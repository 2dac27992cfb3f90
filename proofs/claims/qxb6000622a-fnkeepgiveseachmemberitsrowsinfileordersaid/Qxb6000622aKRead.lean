/-
  Reading the Work: look-ups in its map; ZZNewWork (36), ZZMemberCount (25), ZZPlace (27), ZZSpanCount (29).
-/
import Derived.Test.Qxb6000622aKSteps
import Derived.Test.Qxb6000622aClone
namespace Go.Proofs.Qxb6000622a
open Go.RowKit Go.Maps Go.WideMaps
set_option linter.unusedVariables false

theorem look_yes {w : World} {M n : Nat} {names : List ByteArray} (h : w.ownsMap Try.prog 9 (plainElem (H := Unit) Try.prog 3) M n (pmap names)) (hnd : names.Nodup) {s : ByteArray} (hs : s.size ≤ maxLen) {i : Nat} (hi : names[i]? = some s) :
    (Instr.lookup 67 (.map (some M)) (.string s) true).run Try.prog w = .ok (.tuple #[.int .i64 i, .bool true]) w := by
  obtain ⟨v, ps, hrun, hv⟩ := h.look_ok law9 Try.underlying67 (zero3 w) (plainElem_int Try.underlying3 (by decide)) (keyOf_string_mk Try.underlying9 hs)
  have hat := atKey_pmap names hnd i s hi (.lit (.int .i64 0))
  have hhas : Maps.has (pmap names) (nkey s) = true := (has_pmap names s).2 (List.mem_of_getElem? hi)
  obtain ⟨c, rfl, hc, _⟩ := plainElem_int_inv Try.underlying3 hv
  have hc' : (pmap names).atKey (nkey s) (.lit (.int .i64 0)) = .lit (.int .i64 c) := congrArg Prod.fst hc
  rw [hat] at hc'
  have e1 : (c : Int) = i := by simpa using hc'.symm
  subst e1
  have e2 : Maps.has (pmap names) (.string s.data.toList) = true := hhas
  rw [e2] at hrun
  exact hrun

theorem look_no {w : World} {M n : Nat} {names : List ByteArray} (h : w.ownsMap Try.prog 9 (plainElem (H := Unit) Try.prog 3) M n (pmap names)) {s : ByteArray} (hs : s.size ≤ maxLen) (hi : s ∉ names) :
    (Instr.lookup 67 (.map (some M)) (.string s) true).run Try.prog w = .ok (.tuple #[.int .i64 0, .bool false]) w := by
  obtain ⟨v, ps, hrun, hv⟩ := h.look_ok law9 Try.underlying67 (zero3 w) (plainElem_int Try.underlying3 (by decide)) (keyOf_string_mk Try.underlying9 hs)
  have hhas : Maps.has (pmap names) (nkey s) = false := by
    cases hb : Maps.has (pmap names) (nkey s) with
    | false => rfl
    | true => exact absurd ((has_pmap names s).1 hb) hi
  have hat := atKey_of_not_has hhas (.lit (.int .i64 0))
  obtain ⟨c, rfl, hc, _⟩ := plainElem_int_inv Try.underlying3 hv
  have hc' : (pmap names).atKey (nkey s) (.lit (.int .i64 0)) = .lit (.int .i64 c) := congrArg Prod.fst hc
  rw [hat] at hc'
  have e1 : (c : Int) = 0 := by simpa using hc'.symm
  subst e1
  have e2 : Maps.has (pmap names) (.string s.data.toList) = false := hhas
  rw [e2] at hrun
  exact hrun

theorem cell_of_blk {w : World} {b : Nat} {cur : Array Value} {t : TypeId} {fz : Nat × Nat} (h : w.heap[b]? = some (.cells cur t fz)) (i : Nat) : w.cell? ⟨b, i, none⟩ = cur[i]? := by simp [World.cell?, h]
theorem free_of_blk {w : World} {b : Nat} {cur : Array Value} {t : TypeId} (h : w.heap[b]? = some (.cells cur t (0, 0))) (i : Nat) : w.frozen? ⟨b, i, none⟩ = false := frozen_of_row w b i cur t h

theorem slice_form {w : World} {base : Nat} {e : TypeId} {size : Nat} {v : Value} {n : Nat} {xs : List Value} (h : w.ownsRow base e size v n xs) : ∃ ao c, v = .slice ao n c := by
  rcases h.2 with ⟨h', h0⟩ | ⟨g, cap, cur, hv, _⟩
  · subst h0; exact ⟨none, 0, h'⟩
  · exact ⟨_, _, hv⟩

theorem below_drewN' {B : Nat} {a w : World} (h : Below B a w) (n : Nat) : Below B a (w.drewN n) := ⟨h.os, h.tape, h.output, h.size, h.block⟩


/-- An empty Work. -/
theorem newWork_any (hr : Bool) (sp : ByteArray → List (Nat × Nat)) (w : World) :
    Calls Try.prog 36 #[.bool hr] w fun e w' => e = .returned (.pointer (some ⟨w.heap.size + 1, 0, none⟩)) ∧ KI w' w.heap.size (w.heap.size + 1) w.heap.size (.slice none 0 0) [] hr [] sp ∧ Ext w w' ∧ Below w.heap.size w w' := by
  have hmm := @run_makeMap Try.prog
  go_enter Try.func36, Try.ntmps36
  go_wp2
  go_ret
  have e1 : (w.alloc (.map #[] 0)).heap.size = w.heap.size + 1 := by simp
  refine ⟨rfl, ⟨by omega, Nat.le_refl _, ?_, ?_, World.ownsRow_nil _ _ _ _, fun i v s hv => by simp at hv, fun i j v v' b hv => by simp at hv⟩, ((Ext.refl _).alloc _).alloc _, ((Below.refl _ _).alloc (Nat.le_refl _) _).alloc (by simp) _⟩
  · have h := heap_alloc_new (w.alloc (.map #[] 0)) (.cells #[.string ByteArray.empty, .bool hr, .map (some w.heap.size), .slice none 0 0] 70)
    rw [e1] at h
    exact h
  · exact (World.ownsMap_made w Try.prog 9 (plainElem (H := Unit) Try.prog 3)).alloc _

theorem memberCount_any {w : World} {B Wb M : Nat} {S : Value} {vs : List Value} {hr : Bool} {names : List ByteArray} {sp : ByteArray → List (Nat × Nat)} (K : KI w B Wb M S vs hr names sp) :
    Calls Try.prog 25 #[.pointer (some ⟨Wb, 0, none⟩)] w fun e w' => e = .returned (.int .i64 (names.length : Nat)) ∧ w' = w := by
  obtain ⟨ao, Sc, hS⟩ := slice_form K.arow
  have c3 : w.cell? ⟨Wb, 3, none⟩ = some (.slice ao names.length Sc) := by rw [cell_of_blk K.wblk, hS]; rfl
  clear K hS
  go_enter Try.func25, Try.ntmps25
  go_wp2
  go_ret
  exact ⟨rfl, rfl⟩

theorem place_yes {w : World} {B Wb M : Nat} {S : Value} {vs : List Value} {hr : Bool} {names : List ByteArray} {sp : ByteArray → List (Nat × Nat)} (K : KI w B Wb M S vs hr names sp) (hnd : names.Nodup) {s : ByteArray} (hs : s.size ≤ maxLen) {i : Nat} (hi : names[i]? = some s) :
    Calls Try.prog 27 #[.pointer (some ⟨Wb, 0, none⟩), .string s] w fun e w' => e = .returned (.tuple #[.int .i64 (i : Int), .bool true]) ∧ w' = w := by
  have c2 : w.cell? ⟨Wb, 2, none⟩ = some (.map (some M)) := by rw [cell_of_blk K.wblk]; rfl
  have hl := look_yes K.amap hnd hs hi
  clear K hi
  go_enter Try.func27, Try.ntmps27
  go_wp2
  go_ret2
  exact ⟨rfl, rfl⟩

theorem place_no {w : World} {B Wb M : Nat} {S : Value} {vs : List Value} {hr : Bool} {names : List ByteArray} {sp : ByteArray → List (Nat × Nat)} (K : KI w B Wb M S vs hr names sp) {s : ByteArray} (hs : s.size ≤ maxLen) (hi : s ∉ names) :
    Calls Try.prog 27 #[.pointer (some ⟨Wb, 0, none⟩), .string s] w fun e w' => e = .returned (.tuple #[.int .i64 0, .bool false]) ∧ w' = w := by
  have c2 : w.cell? ⟨Wb, 2, none⟩ = some (.map (some M)) := by rw [cell_of_blk K.wblk]; rfl
  have hl := look_no K.amap hs hi
  clear K hi
  go_enter Try.func27, Try.ntmps27
  go_wp2
  go_ret2
  exact ⟨rfl, rfl⟩

theorem spanCount_any {w : World} {B Wb M : Nat} {S : Value} {vs : List Value} {hr : Bool} {names : List ByteArray} {sp : ByteArray → List (Nat × Nat)} (K : KI w B Wb M S vs hr names sp) {s : ByteArray} {i : Nat} (hi : names[i]? = some s) :
    Calls Try.prog 29 #[.pointer (some ⟨Wb, 0, none⟩), .int .i64 (i : Int)] w fun e w' => e = .returned (.int .i64 ((sp s).length : Nat)) ∧ w' = w := by
  have hil : i < names.length := (List.getElem?_eq_some_iff.1 hi).1
  have hvl : vs.length = names.length := by have := K.arow.1; omega
  obtain ⟨v, hv⟩ : ∃ v, vs[i]? = some v := ⟨_, List.getElem?_eq_getElem (by omega)⟩
  obtain ⟨cs, hcs, _⟩ := K.each i v s hv hi
  obtain ⟨Sg, Sc, hS, _, hSl⟩ := K.arow.form (by omega)
  obtain ⟨av, cv, hvf⟩ := slice_form hcs
  obtain ⟨n, hn⟩ : ∃ n, n = (sp s).length := ⟨_, rfl⟩
  have c3 : w.cell? ⟨Wb, 3, none⟩ = some (.slice (some ⟨Sg, 0, none⟩) names.length Sc) := by rw [cell_of_blk K.wblk, hS]; rfl
  have c4 : w.cell? ⟨Sg, i, none⟩ = some (.slice av n cv) := by
    have h := K.arow
    rw [hS] at h
    rw [h.cellAt i (by omega), hv, hvf, hn]
  have HN := hid hn
  have j1 : (i : Int) < (names.length : Int) := by omega
  clear K hv hcs hvf hS hi hn
  go_enter Try.func29, Try.ntmps29
  go_wp2
  go_ret
  exact ⟨by rw [← HN.out]; rfl, rfl⟩

end Go.Proofs.Qxb6000622a
