/-
  ZZKeep (40), keep's contract taken as a hypothesis.
-/
import Derived.Test.Qxb6000622aKPart
import Derived.Deep.QuietTactic
import Derived.BigQuiet
import Derived.BigRegion
import Derived.Deep.DeepCutAuto
namespace Go.Proofs.Qxb6000622a
open Go.RowKit Go.Maps Go.WideMaps
set_option linter.unusedVariables false

theorem Try.info77 : (Try.prog.info? 77).map (fun i => (i.zero, i.size, i.bytes)) = some (some (.agg #[.int .i32 0, .int .u32 0, .int .i64 0]), 3, 16) := by kernel_rfl
theorem Try.info83 : (Try.prog.info? 83).map (fun i => (i.zero, i.size, i.bytes)) = some (some (.agg #[.string ByteArray.empty, .int .i64 0, .bool false, .int .i64 0]), 4, 40) := by kernel_rfl
theorem Try.info32 : (Try.prog.info? 32).map (fun i => (i.zero, i.size, i.bytes)) = some (some (.int .i64 0), 1, 8) := by kernel_rfl

/-- 'make([]T, n)' whatever the element's size. -/
theorem make_any {T E : TypeId} {z : Value} {size by' : Nat} (hu : Try.prog.underlying T = some (.slice E)) (hinfo : (Try.prog.info? E).map (fun i => (i.zero, i.size, i.bytes)) = some (some z, size, by'))
    (n : Nat) (hn : by' * n ≤ 281474976710656) (hm : n ≤ 1048576) (w : World) :
    (Instr.makeSlice T (.int .i64 (n : Int)) (.int .i64 (n : Int))).run Try.prog w = .ok (.slice (some ⟨w.heap.size, 0, none⟩) n n) (w.alloc (.cells (madeCells z.cells (n * size)) E)) := by
  obtain ⟨i0, hi, hz0, hz1, hz2⟩ := info_parts hinfo
  have hb' : (i0.bytes : Int) * (n : Int) ≤ 281474976710656 := by
    have h : ((i0.bytes * n : Nat) : Int) ≤ 281474976710656 := by rw [hz2]; omega
    rwa [Int.natCast_mul] at h
  have h := run_make (P := Try.prog) w T E i0 z hu hi hz0 .i64 .i64 (n : Int) (n : Int) (by omega) (by omega) hb' (by omega)
  rw [hz1] at h
  simpa using h

/-- The stored rows behind k rounds. -/
def rows3 (base n k : Nat) : Array Value := (Array.range (n * 3)).map (fun i => if i / 3 < k then scell (base + i / 3) (i % 3) else #[Value.int .i32 0, .int .u32 0, .int .i64 0][i % 3]!)
theorem rows3_size (base n k : Nat) : (rows3 base n k).size = n * 3 := by simp [rows3]
theorem rows3_at (base n k i : Nat) (h : i < (rows3 base n k).size) : (rows3 base n k)[i] = if i / 3 < k then scell (base + i / 3) (i % 3) else #[Value.int .i32 0, .int .u32 0, .int .i64 0][i % 3]! := by simp [rows3]
theorem rows3_zero (base n : Nat) : madeCells #[Value.int .i32 0, .int .u32 0, .int .i64 0] (n * 3) = rows3 base n 0 := by
  apply Array.ext
  · simp [madeCells, rows3]
  · intro i h1 h2
    rw [rows3_at, if_neg (by omega)]
    simp [madeCells]
theorem rows3_get (base n k t q : Nat) (ht : t < k) (hk : k ≤ n) (hq : q < 3) : (rows3 base n k)[t * 3 + q]? = some (scell (base + t) q) := by
  have hlt : t * 3 + q < (rows3 base n k).size := by rw [rows3_size]; omega
  rw [Array.getElem?_eq_getElem hlt, rows3_at, show (t * 3 + q) / 3 = t from by omega, show (t * 3 + q) % 3 = q from by omega, if_pos ht]
theorem rows3_step (base n k : Nat) (hk : k < n) :
    (((rows3 base n k).setIfInBounds (k * 3) (.int .i32 ((base + k : Nat) : Int))).setIfInBounds (k * 3 + 1) (.int .u32 (((base + k : Nat) : Int) + 1))).setIfInBounds (k * 3 + 2) (.int .i64 (3 * ((base + k : Nat) : Int))) = rows3 base n (k + 1) := by
  apply Array.ext_getElem?
  intro i
  simp only [Array.getElem?_setIfInBounds, Array.size_setIfInBounds, rows3_size]
  by_cases c2 : k * 3 + 2 = i
  · rw [if_pos c2, if_pos (by omega), ← c2, rows3_get base n (k + 1) k 2 (by omega) (by omega) (by omega)]; rfl
  · rw [if_neg c2]
    by_cases c1 : k * 3 + 1 = i
    · rw [if_pos c1, if_pos (by omega), ← c1, rows3_get base n (k + 1) k 1 (by omega) (by omega) (by omega)]; rfl
    · rw [if_neg c1]
      by_cases c0 : k * 3 = i
      · rw [if_pos c0, if_pos (by omega), ← c0]
        exact (rows3_get base n (k + 1) k 0 (by omega) (by omega) (by omega)).symm
      · rw [if_neg c0]
        by_cases hi : i < n * 3
        · rw [Array.getElem?_eq_getElem (by rw [rows3_size]; exact hi), Array.getElem?_eq_getElem (by rw [rows3_size]; exact hi), rows3_at, rows3_at]
          by_cases hlt : i / 3 < k
          · rw [if_pos hlt, if_pos (by omega)]
          · rw [if_neg hlt, if_neg (by omega)]
        · rw [Array.getElem?_eq_none (by rw [rows3_size]; omega), Array.getElem?_eq_none (by rw [rows3_size]; omega)]

/-- The runs behind k rounds. -/
def rucell (mem : List ByteArray) (stt : Nat → Nat) (a k q : Nat) : Value :=
  if q = 0 then .string (mem.getD (a + k) ByteArray.empty) else if q = 1 then .int .i64 0 else if q = 2 then .bool false else .int .i64 ((stt (a + (k + 1)) - stt a : Nat) : Int)
def runs4 (mem : List ByteArray) (stt : Nat → Nat) (a L k : Nat) : Array Value := (Array.range (L * 4)).map (fun i => if i / 4 < k then rucell mem stt a (i / 4) (i % 4) else #[Value.string ByteArray.empty, .int .i64 0, .bool false, .int .i64 0][i % 4]!)
theorem runs4_size (mem : List ByteArray) (stt : Nat → Nat) (a L k : Nat) : (runs4 mem stt a L k).size = L * 4 := by simp [runs4]
theorem runs4_at (mem : List ByteArray) (stt : Nat → Nat) (a L k i : Nat) (h : i < (runs4 mem stt a L k).size) : (runs4 mem stt a L k)[i] = if i / 4 < k then rucell mem stt a (i / 4) (i % 4) else #[Value.string ByteArray.empty, .int .i64 0, .bool false, .int .i64 0][i % 4]! := by simp [runs4]
theorem runs4_zero (mem : List ByteArray) (stt : Nat → Nat) (a L : Nat) : madeCells #[Value.string ByteArray.empty, .int .i64 0, .bool false, .int .i64 0] (L * 4) = runs4 mem stt a L 0 := by
  apply Array.ext
  · simp [madeCells, runs4]
  · intro i h1 h2
    rw [runs4_at, if_neg (by omega)]
    simp [madeCells]
theorem runs4_get (mem : List ByteArray) (stt : Nat → Nat) (a L k t q : Nat) (ht : t < k) (hk : k ≤ L) (hq : q < 4) : (runs4 mem stt a L k)[t * 4 + q]? = some (rucell mem stt a t q) := by
  have hlt : t * 4 + q < (runs4 mem stt a L k).size := by rw [runs4_size]; omega
  rw [Array.getElem?_eq_getElem hlt, runs4_at, show (t * 4 + q) / 4 = t from by omega, show (t * 4 + q) % 4 = q from by omega, if_pos ht]
theorem runs4_step (mem : List ByteArray) (stt : Nat → Nat) (a L k : Nat) (hk : k < L) (s : ByteArray) (e : Nat) (hs : s = mem.getD (a + k) ByteArray.empty) (he : e = stt (a + (k + 1)) - stt a) :
    ((((runs4 mem stt a L k).setIfInBounds (k * 4) (.string s)).setIfInBounds (k * 4 + 1) (.int .i64 0)).setIfInBounds (k * 4 + 2) (.bool false)).setIfInBounds (k * 4 + 3) (.int .i64 (e : Int)) = runs4 mem stt a L (k + 1) := by
  subst hs he
  apply Array.ext_getElem?
  intro i
  simp only [Array.getElem?_setIfInBounds, Array.size_setIfInBounds, runs4_size]
  by_cases c3 : k * 4 + 3 = i
  · rw [if_pos c3, if_pos (by omega), ← c3, runs4_get mem stt a L (k + 1) k 3 (by omega) (by omega) (by omega)]; rfl
  · rw [if_neg c3]
    by_cases c2 : k * 4 + 2 = i
    · rw [if_pos c2, if_pos (by omega), ← c2, runs4_get mem stt a L (k + 1) k 2 (by omega) (by omega) (by omega)]; rfl
    · rw [if_neg c2]
      by_cases c1 : k * 4 + 1 = i
      · rw [if_pos c1, if_pos (by omega), ← c1, runs4_get mem stt a L (k + 1) k 1 (by omega) (by omega) (by omega)]; rfl
      · rw [if_neg c1]
        by_cases c0 : k * 4 = i
        · rw [if_pos c0, if_pos (by omega), ← c0]
          exact (runs4_get mem stt a L (k + 1) k 0 (by omega) (by omega) (by omega)).symm
        · rw [if_neg c0]
          by_cases hi : i < L * 4
          · rw [Array.getElem?_eq_getElem (by rw [runs4_size]; exact hi), Array.getElem?_eq_getElem (by rw [runs4_size]; exact hi), runs4_at, runs4_at]
            by_cases hlt : i / 4 < k
            · rw [if_pos hlt, if_pos (by omega)]
            · rw [if_neg hlt, if_neg (by omega)]
          · rw [Array.getElem?_eq_none (by rw [runs4_size]; omega), Array.getElem?_eq_none (by rw [runs4_size]; omega)]

theorem Ext.setFresh {a w : World} (h : Ext a w) {b : Nat} (hb : a.heap.size ≤ b) (i : Nat) (u : Value) : Ext a (w.setCell ⟨b, i, none⟩ u) := fun x o hx => by
  rw [heap_setCell_other _ _ _ _ (show x ≠ b by have := heap_lt hx; omega)]
  exact h x o hx

/-- keep's contract. -/
def KeepSaid : Prop := ∀ (hr : Bool) (ratesV : Value) (mem : List ByteArray) (stt : Nat → Nat) (a L Pb RB UB B Wb M : Nat) (S0 : Value) (vs0 : List Value) (w : World),
    (∀ i j, i ≤ j → stt i ≤ stt j) → stt (a + L) ≤ 65536 → a + L ≤ 4096 → (∀ s ∈ mem, s.size ≤ maxLen) → a + L ≤ mem.length →
    KI w B Wb M S0 vs0 hr (nm mem a) (spn mem stt a) → PartAt w ratesV mem stt a L Pb RB UB → RatesAt w hr ratesV (stt a) (stt (a + L) - stt a) →
    Calls Try.prog 43 #[.pointer (some ⟨Wb, 0, none⟩), .pointer (some ⟨Pb, 0, none⟩)] w fun e w' => e = .returned (.tuple #[]) ∧ (∃ S vs, KI w' B Wb M S vs hr (nm mem (a + L)) (spn mem stt (a + L))) ∧ Fr w w' ∧ Below B w w'

/-- The plain data that ZZKeep is handed. -/
structure Handed (w : World) (hr : Bool) (ratesV : Value) (mem : List ByteArray) (stt : Nat → Nat) (a L Qb Eb Ob Lb Hb : Nat) : Prop where
  mblk : ∃ cur, w.heap[Qb]? = some (.cells cur 9 (0, 0)) ∧ ∀ k, k < L → cur[k]? = some (.string (mem.getD (a + k) ByteArray.empty))
  eblk : ∃ cur, w.heap[Eb]? = some (.cells cur 3 (0, 0)) ∧ ∀ k, k < L → cur[k]? = some (.int .i64 ((stt (a + (k + 1)) - stt a : Nat) : Int))
  oblk : ∃ cur, w.heap[Ob]? = some (.cells cur 21 (0, 0)) ∧ ∀ t, t < stt (a + L) - stt a → cur[t]? = some (.int .i32 ((stt a + t : Nat) : Int))
  lblk : ∃ cur, w.heap[Lb]? = some (.cells cur 57 (0, 0)) ∧ ∀ t, t < stt (a + L) - stt a → cur[t]? = some (.int .u32 (((stt a + t : Nat) : Int) + 1))
  hblk : ∃ cur, w.heap[Hb]? = some (.cells cur 2 (0, 0)) ∧ ∀ t, t < stt (a + L) - stt a → cur[t]? = some (.int .i64 (3 * ((stt a + t : Nat) : Int)))
  rates : (hr = false ∧ ratesV = .slice none 0 0) ∨ (hr = true ∧ ∃ TB cur, ratesV = .slice (some ⟨TB, 0, none⟩) (stt (a + L) - stt a) (stt (a + L) - stt a) ∧ w.heap[TB]? = some (.cells cur 2 (0, 0)) ∧ ∀ t, t < stt (a + L) - stt a → cur[t]? = some (.int .i64 (7 * ((stt a + t : Nat) : Int))))

set_option maxRecDepth 100000 in
set_option maxHeartbeats 8000000 in
theorem zzkeep_any (hkeep : KeepSaid) (hr : Bool) (ratesV : Value) (mem : List ByteArray) (stt : Nat → Nat) (a L Qb Eb Ob Lb Hb B Wb M : Nat) (S0 : Value) (vs0 : List Value) (w : World)
    (hmono : ∀ i j, i ≤ j → stt i ≤ stt j) (hbig : stt (a + L) ≤ 65536) (hL : a + L ≤ 4096) (hsz : ∀ s ∈ mem, s.size ≤ maxLen) (hml : a + L ≤ mem.length)
    (K : KI w B Wb M S0 vs0 hr (nm mem a) (spn mem stt a)) (hH : Handed w hr ratesV mem stt a L Qb Eb Ob Lb Hb) :
    Calls Try.prog 40 #[.pointer (some ⟨Wb, 0, none⟩), .slice (some ⟨Qb, 0, none⟩) L L, .slice (some ⟨Eb, 0, none⟩) L L, .slice (some ⟨Ob, 0, none⟩) (stt (a + L) - stt a) (stt (a + L) - stt a), .slice (some ⟨Lb, 0, none⟩) (stt (a + L) - stt a) (stt (a + L) - stt a), .slice (some ⟨Hb, 0, none⟩) (stt (a + L) - stt a) (stt (a + L) - stt a), ratesV] w
      fun e w' => e = .returned (.tuple #[]) ∧ (∃ S vs, KI w' B Wb M S vs hr (nm mem (a + L)) (spn mem stt (a + L))) ∧ Fr w w' ∧ Below B w w' := by
  have HKE := hid hkeep
  clear hkeep
  obtain ⟨n, hn⟩ : ∃ n, n = stt (a + L) - stt a := ⟨_, rfl⟩
  obtain ⟨base, hbase⟩ : ∃ base, base = stt a := ⟨_, rfl⟩
  have hmono1 := hmono a (a + L) (by omega)
  have hnb : n ≤ 65536 := by omega
  have hL1 : L ≤ 4096 := by omega
  rw [← hn]
  have hmk72 := fun (w : World) => make_any Try.underlying72 Try.info77 n (by omega) (by omega) w
  have hmk73 := fun (w : World) => make_one Try.underlying73 Try.info32 rfl n (by omega) (by omega) w
  have hmk81 := fun (w : World) => make_any Try.underlying81 Try.info83 L (by omega) (by omega) w
  have e72 : ∀ w : World, (Instr.makeSlice 72 (.int .i64 (n : Int)) (.int .i64 (n : Int))).run Try.prog w = .ok (.slice (some ⟨w.heap.size, 0, none⟩) n n) (w.alloc (.cells (rows3 base n 0) 77)) := fun w => by
    rw [← rows3_zero]; exact hmk72 w
  have e81 : ∀ w : World, (Instr.makeSlice 81 (.int .i64 (L : Int)) (.int .i64 (L : Int))).run Try.prog w = .ok (.slice (some ⟨w.heap.size, 0, none⟩) L L) (w.alloc (.cells (runs4 mem stt a L 0) 83)) := fun w => by
    rw [← runs4_zero]; exact hmk81 w
  clear hmk72 hmk81
  obtain ⟨ta, tn, tc, hRV, hnone⟩ : ∃ ta tn tc, ratesV = .slice ta tn tc ∧ ta.isNone = !hr := by
    rcases hH.rates with ⟨h1, h2⟩ | ⟨h1, TB, cur, h2, _⟩
    · exact ⟨none, 0, 0, h2, by rw [h1]; rfl⟩
    · exact ⟨_, _, _, h2, by rw [h1]; rfl⟩
  have hnilr := fun (w : World) => run_neq_slice_nil_any (P := Try.prog) w 23 2 ta tn tc 0 0 Try.underlying23
  rw [hnone] at hnilr
  rw [hRV]
  have hBw : B ≤ w.heap.size := by have := heap_lt K.wblk; have := K.bW; omega
  obtain ⟨RB, hRB⟩ : ∃ RB, RB = w.heap.size := ⟨_, rfl⟩
  obtain ⟨curO, hO, hOc⟩ := hH.oblk
  obtain ⟨curL, hLb, hLc⟩ := hH.lblk
  obtain ⟨curH, hHb, hHc⟩ := hH.hblk
  have HH := hid hH
  have HK := hid K
  have HN := hid hn
  have HBs := hid hbase
  have HRV := hid hRV
  have Hnone := hid hnone
  have HRB := hid hRB
  have HO := hid hO
  have HOc := hid hOc
  have HLb := hid hLb
  have HLc := hid hLc
  have HHb := hid hHb
  have HHc := hid hHc
  clear hH K hn hbase hRV hnone hO hOc hLb hLc hHb hHc hRB
  go_enter Try.func40, Try.ntmps40
  go_wp2
  rw [← HRB.out]
  go_loopw [25] (fun i wr => ∃ k : Nat, k ≤ n ∧ i = .int .i64 k ∧ wr.heap[RB]? = some (.cells (rows3 base n k) 77 (0, 0)) ∧ Ext w wr ∧ Below w.heap.size w wr) (fun i _ => n - (intOf i).toNat)
  case atStart => exact ⟨0, Nat.zero_le _, rfl, by rw [HRB.out]; exact heap_alloc_new _ _, (Ext.refl w).alloc _, (Below.refl _ _).alloc (Nat.le_refl _) _⟩
  case round =>
    obtain ⟨k, hk, rfl, hR, xr, bel⟩ := hrel
    by_cases hlt : k < n
    · have c1 : wr.cell? ⟨Ob, k, none⟩ = some (.int .i32 ((base + k : Nat) : Int)) := by rw [cell_of_blk (xr _ _ HO.out), HBs.out]; exact HOc.out k (by have := HN.out; omega)
      have c2 : wr.cell? ⟨Lb, k, none⟩ = some (.int .u32 (((base + k : Nat) : Int) + 1)) := by rw [cell_of_blk (xr _ _ HLb.out), HBs.out]; exact HLc.out k (by have := HN.out; omega)
      have c3 : wr.cell? ⟨Hb, k, none⟩ = some (.int .i64 (3 * ((base + k : Nat) : Int))) := by rw [cell_of_blk (xr _ _ HHb.out), HBs.out]; exact HHc.out k (by have := HN.out; omega)
      have l1 := heap_lt (xr _ _ HO.out)
      have l2 := heap_lt (xr _ _ HLb.out)
      have l3 := heap_lt (xr _ _ HHb.out)
      have l4 := heap_lt hR
      have hsz3 := rows3_size base n k
      obtain ⟨o0, q0⟩ : ∃ v, wr.cell? ⟨RB, k * 3, none⟩ = some v := ⟨_, by rw [cell_of_blk hR]; exact Array.getElem?_eq_getElem (by omega)⟩
      obtain ⟨o1, q1⟩ : ∃ v, wr.cell? ⟨RB, k * 3 + 1, none⟩ = some v := ⟨_, by rw [cell_of_blk hR]; exact Array.getElem?_eq_getElem (by omega)⟩
      obtain ⟨o2, q2⟩ : ∃ v, wr.cell? ⟨RB, k * 3 + 2, none⟩ = some v := ⟨_, by rw [cell_of_blk hR]; exact Array.getElem?_eq_getElem (by omega)⟩
      have f0 := free_of_blk hR (k * 3)
      have f1 := free_of_blk hR (k * 3 + 1)
      have f2 := free_of_blk hR (k * 3 + 2)
      have i1 : (0 : Int) ≤ (k : Int) := by omega
      have i2 : (k : Int) < (n : Int) := by omega
      obtain ⟨g, hg⟩ : ∃ g : Int, g = ((base + k : Nat) : Int) := ⟨_, rfl⟩
      rw [← hg] at c1 c2 c3
      have HG := hid hg
      have HR := hid hR
      have HX := hid xr
      have HB := hid bel
      clear hR xr bel hg hsz3
      go_wp2
      go_region
      go_wp2
      go_roundw
      case rel =>
        refine ⟨k + 1, by omega, by go_num, ?_, ?_, ?_⟩
        · rw [← rows3_step base n k hlt, ← HG.out]
          exact heap_setCell_same _ _ _ _ _ _ (heap_setCell_same _ _ _ _ _ _ (heap_setCell_same _ _ _ _ _ _ HR.out))
        · have hb : w.heap.size ≤ RB := by rw [HRB.out]; exact Nat.le_refl _
          exact (((HX.out.setFresh hb _ _).setFresh hb _ _).setFresh hb _ _).drew
        · have hb : w.heap.size ≤ RB := by rw [HRB.out]; exact Nat.le_refl _
          exact (((HB.out.setCell hb _).setCell hb _).setCell hb _).drew
      case measure => simp [intOf]; omega
    · have hkn : k = n := by omega
      subst hkn
      have HR := hid hR
      have HX := hid xr
      have HB := hid bel
      clear hR xr bel
      go_upto_if 46 with (fail)
      go_cut [16] (fun rv wc => ∃ ra rn rc, rv = .slice ra rn rc ∧ RatesAt wc hr rv base k ∧ Ext wr wc ∧ Below w.heap.size wr wc)
      case first =>
        cases hr
        · go_wp2
          go_meet
          case rel => exact ⟨_, _, _, rfl, .inl ⟨rfl, rfl⟩, Ext.refl _, Below.refl _ _⟩
        · rcases HH.out.rates with ⟨h1, _⟩ | ⟨_, TB, curT, hRV2, hTB, hTc⟩
          · cases h1
          obtain ⟨rfl, rfl, rfl⟩ : ta = some ⟨TB, 0, none⟩ ∧ k = tn ∧ k = tc := by
            have h := HRV.out
            rw [hRV2, ← HN.out] at h
            injection h with h1 h2 h3
            exact ⟨h1.symm, h2, h3⟩
          obtain ⟨rs, hrs⟩ : ∃ rs : List Int, rs = (List.range k).map (fun t => 7 * ((base + t : Nat) : Int)) := ⟨_, rfl⟩
          have hrl : rs.length = k := by simp [hrs]
          have hrg : ∀ t, t < k → rs[t]? = some (7 * ((base + t : Nat) : Int)) := fun t ht => by simp [hrs, ht]
          have hTx := HX.out _ _ hTB
          have hTl := heap_lt hTx
          have Hrl := hid hrl
          have Hrg := hid hrg
          have Hrs := hid hrs
          have HTx := hid hTx
          have HTc := hid hTc
          have HM := hid (cpy_zero (.int .i64 0) (rs.map (Value.int .i64)) k)
          clear hrl hrg hrs hTx hTc hTB hRV2
          go_wp2
          go_loopw [52] (fun i wq => ∃ j : Nat, j ≤ k ∧ i = .int .i64 j ∧ wq = wr.alloc (.cells (cpy (.int .i64 0) (rs.map (Value.int .i64)) k j) 32)) (fun i _ => k - (intOf i).toNat)
          case atStart => exact ⟨0, Nat.zero_le _, rfl, by rw [HM.out]⟩
          case round =>
            obtain ⟨j, hj, rfl, rfl⟩ := hrel
            by_cases hlt2 : j < k
            · obtain ⟨s, hs⟩ : ∃ s : Int, s = 7 * ((base + j : Nat) : Int) := ⟨_, rfl⟩
              have hsn : (rs.map (Value.int .i64))[j]? = some (.int .i64 s) := by rw [List.getElem?_map, Hrg.out j hlt2, hs]; rfl
              have hcx : wr.cell? ⟨TB, j, none⟩ = some (.int .i64 s) := by rw [cell_of_blk HTx.out, HTc.out j (by rw [← HN.out]; exact hlt2), hs, HBs.out]
              have HST := hid (cpy_step (.int .i64 0) (rs.map (Value.int .i64)) k j (.int .i64 s) hsn (by simp [Hrl.out]))
              have hsz := cpy_size (.int .i64 0) (rs.map (Value.int .i64)) k j hj (by simp [Hrl.out])
              obtain ⟨old, hold⟩ : ∃ v, (cpy (.int .i64 0) (rs.map (Value.int .i64)) k j)[j]? = some v := ⟨_, Array.getElem?_eq_getElem (by omega)⟩
              have HS := hid hs
              clear hsn hs
              go_wp2
              go_roundw
              case rel => exact ⟨j + 1, by omega, by go_num, by rw [HST.out]⟩
              case measure => simp [intOf]; omega
            · have hjl : j = k := by omega
              subst hjl
              go_wp2
              go_meet
              case rel =>
                refine ⟨_, _, _, rfl, .inr ⟨rfl, wr.heap.size, _, rfl, heap_alloc_new _ _, fun t ht => ?_⟩, (Ext.refl _).alloc _, (Below.refl _ _).alloc HB.out.size _⟩
                rw [cpy_get _ _ _ _ _ ht (Nat.le_refl _) (by simp [Hrl.out]), List.getElem?_map, Hrg.out t ht]
                rfl
      case rest =>
        obtain ⟨ra, rn, rc, rfl, hT, xc, belc⟩ := hcut
        obtain ⟨wx, hwx⟩ : ∃ wx, wx = wc := ⟨_, rfl⟩
        subst hwx
        have hRx := xc _ _ HR.out
        have XX := HX.out.trans xc
        have BB := HB.out.trans belc
        obtain ⟨UB, hUB⟩ : ∃ UB, UB = wx.heap.size := ⟨_, rfl⟩
        have HT := hid hT
        have HRx := hid hRx
        have HXX := hid XX
        have HBB := hid BB
        have HUB := hid hUB
        clear hT xc belc hRx XX BB hUB hnilr hmk73 e72
        go_wp2
        rw [← HUB.out]
        obtain ⟨curQ, hQ, hQc⟩ := HH.out.mblk
        obtain ⟨curE, hE, hEc⟩ := HH.out.eblk
        have HQ := hid hQ
        have HQc := hid hQc
        have HE := hid hE
        have HEc := hid hEc
        clear hQ hQc hE hEc
        go_loopw [68] (fun i wq => ∃ j : Nat, j ≤ L ∧ i = .int .i64 j ∧ wq.heap[UB]? = some (.cells (runs4 mem stt a L j) 83 (0, 0)) ∧ Ext wx wq ∧ Below w.heap.size wx wq) (fun i _ => L - (intOf i).toNat)
        case atStart => exact ⟨0, Nat.zero_le _, rfl, by rw [HUB.out]; exact heap_alloc_new _ _, (Ext.refl _).alloc _, (Below.refl _ _).alloc HBB.out.size _⟩
        case round =>
          obtain ⟨j, hj, rfl, hU, xq, belq⟩ := hrel
          obtain ⟨wq, hwq⟩ : ∃ wq, wq = wr := ⟨_, rfl⟩
          subst hwq
          by_cases hlt : j < L
          · obtain ⟨s, hs⟩ : ∃ s, s = mem.getD (a + j) ByteArray.empty := ⟨_, rfl⟩
            obtain ⟨e, he⟩ : ∃ e, e = stt (a + (j + 1)) - stt a := ⟨_, rfl⟩
            have c1 : wq.cell? ⟨Qb, j, none⟩ = some (.string s) := by rw [cell_of_blk (xq _ _ (HXX.out _ _ HQ.out)), hs]; exact HQc.out j hlt
            have c2 : wq.cell? ⟨Eb, j, none⟩ = some (.int .i64 (e : Int)) := by rw [cell_of_blk (xq _ _ (HXX.out _ _ HE.out)), he]; exact HEc.out j hlt
            have l1 := heap_lt (xq _ _ (HXX.out _ _ HQ.out))
            have l2 := heap_lt (xq _ _ (HXX.out _ _ HE.out))
            have l4 := heap_lt hU
            have hsz4 := runs4_size mem stt a L j
            obtain ⟨o0, q0⟩ : ∃ v, wq.cell? ⟨UB, j * 4, none⟩ = some v := ⟨_, by rw [cell_of_blk hU]; exact Array.getElem?_eq_getElem (by omega)⟩
            obtain ⟨o1, q1⟩ : ∃ v, wq.cell? ⟨UB, j * 4 + 1, none⟩ = some v := ⟨_, by rw [cell_of_blk hU]; exact Array.getElem?_eq_getElem (by omega)⟩
            obtain ⟨o2, q2⟩ : ∃ v, wq.cell? ⟨UB, j * 4 + 2, none⟩ = some v := ⟨_, by rw [cell_of_blk hU]; exact Array.getElem?_eq_getElem (by omega)⟩
            obtain ⟨o3, q3⟩ : ∃ v, wq.cell? ⟨UB, j * 4 + 3, none⟩ = some v := ⟨_, by rw [cell_of_blk hU]; exact Array.getElem?_eq_getElem (by omega)⟩
            have f0 := free_of_blk hU (j * 4)
            have f1 := free_of_blk hU (j * 4 + 1)
            have f2 := free_of_blk hU (j * 4 + 2)
            have f3 := free_of_blk hU (j * 4 + 3)
            have i1 : (0 : Int) ≤ (j : Int) := by omega
            have i2 : (j : Int) < (L : Int) := by omega
            have HS := hid hs
            have HEe := hid he
            have HU := hid hU
            have HXq := hid xq
            have HBq := hid belq
            clear hs he hU xq belq hsz4
            go_wp2
            go_region
            go_wp2
            go_roundw
            case rel =>
              have hb : wx.heap.size ≤ UB := by rw [HUB.out]; exact Nat.le_refl _
              have hb2 : w.heap.size ≤ UB := Nat.le_trans HBB.out.size hb
              refine ⟨j + 1, by omega, by go_num, ?_, ?_, ?_⟩
              · rw [← runs4_step mem stt a L j hlt s e HS.out HEe.out]
                exact heap_setCell_same _ _ _ _ _ _ (heap_setCell_same _ _ _ _ _ _ (heap_setCell_same _ _ _ _ _ _ (heap_setCell_same _ _ _ _ _ _ HU.out)))
              · exact ((((HXq.out.setFresh hb _ _).setFresh hb _ _).setFresh hb _ _).setFresh hb _ _).drew
              · exact ((((HBq.out.setCell hb2 _).setCell hb2 _).setCell hb2 _).setCell hb2 _).drew
            case measure => simp [intOf]; omega
          · have hjl : j = L := by omega
            subst hjl
            have HU := hid hU
            have HXq := hid xq
            have HBq := hid belq
            have HXw := hid (HXX.out.trans xq)
            have HBw := hid (HBB.out.trans belq)
            obtain ⟨wp, hwp⟩ : ∃ wp, wp = wq.alloc (.cells #[.pointer none, .slice (some ⟨RB, 0, none⟩) k k, .slice ra rn rc, .slice (some ⟨UB, 0, none⟩) j j] 88) := ⟨_, rfl⟩
            have xp : Ext w wp := by rw [hwp]; exact HXw.out.alloc _
            have xp2 : Ext wx wp := by rw [hwp]; exact HXq.out.alloc _
            have bp : Below w.heap.size w wp := by rw [hwp]; exact HBw.out.alloc (HBw.out.size) _
            have HPart : PartAt wp (.slice ra rn rc) mem stt a j wq.heap.size RB UB := {
              pblk := by rw [hwp, ← HN.out]; exact heap_alloc_new _ _
              rblk := ⟨_, xp2 _ _ HRx.out, fun t q ht hq => by rw [← HBs.out]; exact rows3_get base k k t q (by rw [HN.out]; exact ht) (Nat.le_refl _) hq⟩
              ublk := ⟨_, by rw [hwp]; exact (Ext.refl wq).alloc _ _ _ HU.out, fun t ht => ⟨runs4_get mem stt a j j t 0 ht (Nat.le_refl _) (by omega), runs4_get mem stt a j j t 1 ht (Nat.le_refl _) (by omega), runs4_get mem stt a j j t 2 ht (Nat.le_refl _) (by omega), runs4_get mem stt a j j t 3 ht (Nat.le_refl _) (by omega)⟩⟩ }
            have HRat : RatesAt wp hr (.slice ra rn rc) (stt a) (stt (a + j) - stt a) := by
              rw [← HN.out, ← HBs.out]; exact HT.out.fr xp2.fr
            have hcall := HKE.out hr (.slice ra rn rc) mem stt a j wq.heap.size RB UB B Wb M S0 vs0 wp hmono hbig hL hsz hml (HK.out.ext xp) HPart HRat
            rw [hwp] at hcall
            have HC := hid hcall
            have Hwp := hid hwp
            have Hxp := hid xp
            have Hbp := hid bp
            clear hU xq belq hcall hwp xp xp2 bp HPart HRat
            go_wp2_with fail
            refine HC.out.mono ?_
            rintro e w' ⟨rfl, hK', fr, bel⟩
            have HK2 := hid hK'
            have Hfr := hid fr
            have Hbe := hid bel
            clear hK' fr bel
            go_wp2
            go_end0
            rw [← Hwp.out] at Hfr Hbe
            exact ⟨rfl, HK2.out, Hxp.out.fr.trans Hfr.out, (Hbp.out.mono hBw).trans Hbe.out⟩

end Go.Proofs.Qxb6000622a
