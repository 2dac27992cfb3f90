/-
  records.Before (15).
-/
import Derived.Test.Qxb6000622aKept
import Derived.Maps.AppendAt
namespace Go.Proofs.Qxb6000622a
open Go.RowKit
set_option linter.unusedVariables false

/-- The rows' cells lie at block R. -/
def RowsAt (w : World) (R len : Nat) (zs hs : List Int) : Prop := R < w.heap.size ∧ ∀ j q, j < len → q < 4 → w.cell? ⟨R, j * 4 + q, none⟩ = some (rcell zs hs j q)

theorem RowsAt.below {w w' : World} {B R len : Nat} {zs hs : List Int} (h : RowsAt w R len zs hs) (hb : Below B w w') (hR : R < B) : RowsAt w' R len zs hs :=
  ⟨Nat.lt_of_lt_of_le h.1 hb.size, fun j q hj hq => (hb.cell (by exact hR)).trans (h.2 j q hj hq)⟩

/-- One row's four cells, in the walk's own spelling. -/
theorem RowsAt.four {w : World} {R len : Nat} {zs hs : List Int} (h : RowsAt w R len zs hs) (k : Nat) (hk : k < len) :
    w.cell? ⟨R, k * 4, none⟩ = some (.int .i64 (zs.getD k 0)) ∧ w.cell? ⟨R, k * 4 + 1, none⟩ = some (.int .i64 (hs.getD k 0)) ∧ w.cell? ⟨R, k * 4 + 2, none⟩ = some (.int .i64 (k : Int)) ∧ w.cell? ⟨R, k * 4 + 3, none⟩ = some (.int .i64 ((k : Int) + 1)) :=
  ⟨h.2 k 0 hk (by omega), h.2 k 1 hk (by omega), h.2 k 2 hk (by omega), h.2 k 3 hk (by omega)⟩

/-- What Before gives. -/
def BeforeOut (w : World) (R len : Nat) (zs hs : List Int) (m : Int) (e : Ending) (w' : World) : Prop :=
  ∃ G c, e = .returned (.slice (some ⟨G, 0, none⟩) (kept zs m len).length c) ∧
    (∀ t q, t < (kept zs m len).length → q < 4 → w'.cell? ⟨G, t * 4 + q, none⟩ = some (rcell zs hs ((kept zs m len).getD t 0) q)) ∧
    Below w.heap.size w w' ∧ G < w'.heap.size ∧ ((kept zs m len).length = len → G = R) ∧ ((kept zs m len).length ≠ len → w.heap.size ≤ G ∧ ∃ cur, w'.heap[G]? = some (.cells cur 34 (0, 0)))

theorem ret_slice {G n n' c : Nat} (h : n = n') : Ending.returned (.slice (some ⟨G, 0, none⟩) n c) = .returned (.slice (some ⟨G, 0, none⟩) n' c) := by rw [h]

theorem out_all {w w' : World} {R len : Nat} {zs hs : List Int} {m : Int} (hr : RowsAt w R len zs hs) (hall : (kept zs m len).length = len) (hb : Below w.heap.size w w') :
    BeforeOut w R len zs hs m (.returned (.slice (some ⟨R, 0, none⟩) len len)) w' := by
  refine ⟨R, len, ret_slice hall.symm, fun t q ht hq => ?_, hb, Nat.lt_of_lt_of_le hr.1 hb.size, fun _ => rfl, fun h => absurd hall h⟩
  rw [hb.cell (by exact hr.1), hr.2 t q (by omega) hq, kept_all zs m len hall]
  simp [List.getElem?_range (show t < len from by omega)]

theorem cells_new (w : World) (a b c d : Value) (t : TypeId) : ∀ j u, [a, b, c, d][j]? = some u → (w.alloc (.cells #[a, b, c, d] t)).cell? ((⟨w.heap.size, 0, none⟩ : Addr).add j) = some u := by
  intro j u hj
  have e : (w.alloc (.cells #[a, b, c, d] t)).cell? ((⟨w.heap.size, 0, none⟩ : Addr).add j) = #[a, b, c, d][j]? := by
    have : (⟨w.heap.size, 0, none⟩ : Addr).add j = ⟨w.heap.size, 0 + j, none⟩ := by simp [Addr.add]; omega
    rw [this, Nat.zero_add, World.cell?_alloc_at _ _ _ _ rfl]
  rw [e]
  simpa using hj

theorem row_block {w : World} {base e size n g cap : Nat} {xs : List Value} (h : w.ownsRow base e size (.slice (some ⟨g, 0, none⟩) n cap) n xs) : ∃ cur, w.heap[g]? = some (.cells cur e (0, 0)) := by
  rcases h.2 with ⟨h', _⟩ | ⟨g', cap', cur, h', hb', hg, rest⟩
  · simp at h'
  · simp only [Value.slice.injEq, Option.some.injEq, Addr.mk.injEq, and_true, true_and] at h'
    obtain ⟨rfl, rfl⟩ := h'
    exact ⟨cur, hg⟩

set_option maxHeartbeats 1600000 in
theorem before_any (R len : Nat) (zs hs : List Int) (m : Int) (hl : len ≤ 65536) (w : World) (hr : RowsAt w R len zs hs) :
    Calls Try.prog 15 #[.slice (some ⟨R, 0, none⟩) len len, .int .i64 m] w fun e w' => BeforeOut w R len zs hs m e w' := by
  obtain ⟨i0, hi, hz0, hz1, hz2⟩ := info_parts Try.info34
  have HR := hid hr
  clear hr
  go_enter Try.func15, Try.ntmps15
  go_wp2
  go_loopw [5, 13] (fun n i wr => ∃ k : Nat, k ≤ len ∧ i = .int .i64 k ∧ n = .int .i64 ((kept zs m k).length : Nat) ∧ Below w.heap.size w wr) (fun _ i _ => len - (intOf i).toNat)
  case atStart => exact ⟨0, Nat.zero_le _, rfl, by rw [kept_zero]; rfl, Below.refl _ _⟩
  case round =>
    obtain ⟨k, hk, rfl, rfl, hnx⟩ := hrel
    have hkl := kept_le zs m k
    have hRr := HR.out.below hnx HR.out.1
    by_cases hlt : k < len
    · obtain ⟨c0, c1, c2, c3⟩ := hRr.four k hlt
      obtain ⟨z, hz⟩ : ∃ z, z = zs.getD k 0 := ⟨_, rfl⟩
      obtain ⟨h, hh⟩ : ∃ h, h = hs.getD k 0 := ⟨_, rfl⟩
      rw [← hz] at c0
      rw [← hh] at c1
      have HZ := hid hz
      clear hz hh
      have HRr := hid hRr
      clear hRr
      by_cases hm : z < m
      · have HK : Hid (kept zs m (k + 1) = kept zs m k ++ [k]) := kept_yes zs m k (by rw [← HZ.out]; exact hm)
        go_wp2
        go_roundw
        case rel => exact ⟨k + 1, by omega, by go_num, by rw [HK.out, List.length_append]; simp, hnx.alloc hnx.size _⟩
        case measure => simp [intOf]; omega
      · have HK : Hid (kept zs m (k + 1) = kept zs m k) := kept_no zs m k (by rw [← HZ.out]; exact hm)
        go_wp2
        go_roundw
        case rel => exact ⟨k + 1, by omega, by go_num, by rw [HK.out], hnx.alloc hnx.size _⟩
        case measure => simp [intOf]; omega
    · have hkl' : k = len := by omega
      subst hkl'
      by_cases hall : (kept zs m k).length = k
      · have HO := hid (out_all HR.out hall hnx)
        have hall' : (((kept zs m k).length : Int) == (k : Int)) = true := by simp; omega
        clear hall hRr
        go_wp2
        go_ret
        exact HO.out
      · have hall' : (((kept zs m k).length : Int) == (k : Int)) = false := by simp; omega
        obtain ⟨n, hn⟩ : ∃ n, n = (kept zs m k).length := ⟨_, rfl⟩
        rw [← hn] at hall' hkl ⊢
        have HN := hid hn
        have HALL := hid hall
        clear hn hall
        have HRr := hid hRr
        clear hRr
        go_wp2_with (at_make; refine wpList_make_own _ rfl _ _ 28 rfl wr.heap.size 34 i0 _ 4 Try.underlying28 hi hz0 hz1 .i64 .i64 _ n rfl rfl (by omega) (by rw [hz2]; omega) (by unfold maxLen; omega) (Nat.le_refl _) ?_; intro w3 hown hgrow)
        obtain ⟨G, hG⟩ : ∃ G, G = wr.heap.size := ⟨_, rfl⟩
        rw [← hG] at hown ⊢
        have hwG : w.heap.size ≤ G := by rw [hG]; exact hnx.size
        have hbel3 : Below w.heap.size w w3 := hnx.grown hgrow hnx.size (fun k hk => by cases hk)
        have hG3 : G < w3.heap.size := (hown.lt G rfl).2
        clear hgrow hnx HRr hG
        go_loopw [8, 33] (fun v i wr => ∃ j : Nat, j ≤ k ∧ i = .int .i64 j ∧ v = .slice (some ⟨G, 0, none⟩) (kept zs m j).length n ∧ wr.ownsRow G 34 4 (.slice (some ⟨G, 0, none⟩) (kept zs m j).length n) (kept zs m j).length (rows4 zs hs (kept zs m j)) ∧ Below w.heap.size w wr) (fun _ i _ => k - (intOf i).toNat)
        case atStart => exact ⟨0, Nat.zero_le _, rfl, rfl, hown, hbel3⟩
        case round =>
          clear hown hbel3 hG3
          obtain ⟨j, hj, rfl, rfl, hown, hnx⟩ := hrel
          have hGr := (hown.lt G rfl).2
          have hws := hnx.size
          have hRr := HR.out.below hnx HR.out.1
          by_cases hlt : j < k
          · obtain ⟨c0, c1, c2, c3⟩ := hRr.four j hlt
            obtain ⟨z, hz⟩ : ∃ z, z = zs.getD j 0 := ⟨_, rfl⟩
            obtain ⟨h, hh⟩ : ∃ h, h = hs.getD j 0 := ⟨_, rfl⟩
            rw [← hz] at c0
            rw [← hh] at c1
            have HZ := hid hz
            have HH := hid hh
            clear hz hh hRr
            by_cases hm : z < m
            · have HK : Hid (kept zs m (j + 1) = kept zs m j ++ [j]) := kept_yes zs m j (by rw [← HZ.out]; exact hm)
              have hfit : (kept zs m j).length + 1 ≤ n := by
                have := kept_mono zs m (show j + 1 ≤ k from hlt)
                rw [HK.out, List.length_append] at this
                rw [HN.out]; simpa using this
              obtain ⟨L, hL⟩ : ∃ L, L = (kept zs m j).length := ⟨_, rfl⟩
              rw [← hL] at hown hfit ⊢
              have HL := hid hL
              clear hL
              go_wp2_with (at_builtin; refine wpList_append_fits _ rfl _ _ 28 rfl G 34 i0 4 Try.underlying28 hi hz1 G L n _ rfl ((hown.alloc _).alloc _) ⟨wr.heap.size + 1, 0, none⟩ 1 1 [.int .i64 z, .int .i64 h, .int .i64 (j : Int), .int .i64 ((j : Int) + 1)] rfl rfl (by simpa using cells_new (wr.alloc (.cells #[.int .i64 z, .int .i64 h, .int .i64 (j : Int), .int .i64 ((j : Int) + 1)] 34)) (.int .i64 z) (.int .i64 h) (.int .i64 (j : Int)) (.int .i64 ((j : Int) + 1)) 34) (fun u hu => by simp at hu; rcases hu with rfl | rfl | rfl | rfl <;> rfl) hfit ?_; intro w4 hown4 hgrow4)
              go_roundw
              case rel =>
                refine ⟨j + 1, by omega, by go_num, by rw [HK.out, List.length_append, HL.out]; rfl, ?_, ?_⟩
                · rw [HK.out, List.length_append, rows4_snoc]
                  have e : [Value.int .i64 z, .int .i64 h, .int .i64 (j : Int), .int .i64 ((j : Int) + 1)] = [rcell zs hs j 0, rcell zs hs j 1, rcell zs hs j 2, rcell zs hs j 3] := by
                    rw [HZ.out, HH.out]; rfl
                  rw [e, HL.out] at hown4
                  exact hown4
                · exact ((hnx.alloc hws _).alloc (by simp; omega) _).grown hgrow4 (by simp; omega) (fun g hg => by cases hg; exact hwG)
              case measure => simp [intOf]; omega
            · have HK : Hid (kept zs m (j + 1) = kept zs m j) := kept_no zs m j (by rw [← HZ.out]; exact hm)
              go_wp2
              go_roundw
              case rel => exact ⟨j + 1, by omega, by go_num, by rw [HK.out], by rw [HK.out]; exact hown.alloc _, hnx.alloc hnx.size _⟩
              case measure => simp [intOf]; omega
          · have hjk : j = k := by omega
            subst hjk
            clear hRr
            go_wp2
            go_ret
            refine ⟨G, n, rfl, fun t q ht hq => ?_, hnx, hGr, fun h => absurd h HALL.out, fun _ => ⟨hwG, row_block hown⟩⟩
            rw [hown.cellAt (t * 4 + q) (by omega)]
            exact rows4_get zs hs _ t q ht hq

end Go.Proofs.Qxb6000622a
