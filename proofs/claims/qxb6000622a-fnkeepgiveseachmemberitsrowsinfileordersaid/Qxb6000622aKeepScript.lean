/-
  keepScript (24).
-/
import Derived.Test.Qxb6000622aKeepPart
import Derived.Test.Qxb6000622aSmall
namespace Go.Proofs.Qxb6000622a
open Go.RowKit Go.Maps Go.WideMaps
set_option linter.unusedVariables false

/-- The starts, as far as they are known. -/
def StartsTo (w : World) (Sb T i : Nat) (stt : Nat → Nat) : Prop := ∃ cur : Array Value, w.heap[Sb]? = some (.cells cur 3 (0, 0)) ∧ cur.size = T + 1 ∧ ∀ j, j ≤ i → cur[j]? = some (.int .i64 (stt j))

/-- A list of whole numbers apart from the Work may turn. -/
theorem KI.other {w w' : World} {B Wb M : Nat} {S : Value} {vs : List Value} {hr : Bool} {names : List ByteArray} {sp : ByteArray → List (Nat × Nat)} (K : KI w B Wb M S vs hr names sp) {Sb : Nat} {cur0 : Array Value} (hS : w.heap[Sb]? = some (.cells cur0 3 (0, 0)))
    (h : ∀ b o, b ≠ Sb → w.heap[b]? = some o → w'.heap[b]? = some o) : KI w' B Wb M S vs hr names sp := by
  have ht : ∀ (b : Nat) (cur : Array Value) (t : TypeId), t ≠ 3 → w.heap[b]? = some (.cells cur t (0, 0)) → b ≠ Sb := fun b cur t h3 hb e => by
    subst e
    rw [hS] at hb
    injection hb with hb
    injection hb with h1 h2 h4
    exact h3 h2.symm
  have hrv : ∀ v lo hi, RowsVal w v lo hi → RowsVal w' v lo hi := fun v lo hi ⟨b, off, c, cur, hv, hb, hc⟩ => ⟨b, off, c, cur, hv, h _ _ (ht _ _ _ (by decide) hb) hb, hc⟩
  have htv : ∀ v lo hi, RatesVal w hr v lo hi → RatesVal w' hr v lo hi := fun v lo hi h0 => by
    rcases h0 with h0 | ⟨h1, b, off, c, cur, hv, hb, hc⟩
    · exact .inl h0
    · exact .inr ⟨h1, b, off, c, cur, hv, h _ _ (ht _ _ _ (by decide) hb) hb, hc⟩
  exact {
    bW := K.bW
    bM := K.bM
    wblk := h _ _ (ht _ _ _ (by decide) K.wblk) K.wblk
    amap := ownsMap_congr K.amap (fun o ho => h _ _ (fun e => by
      obtain ⟨es, c, hm⟩ := ownsMap_type K.amap
      rw [e, hS] at hm
      cases hm) ho)
    arow := ownsRow_congr K.arow (fun g o hg ho => by
      obtain ⟨cur, hc⟩ := ownsRow_type K.arow hg
      exact h _ _ (ht _ _ _ (by decide) hc) ho)
    each := fun i v s hv hs => by
      obtain ⟨cs, h1, h2⟩ := K.each i v s hv hs
      refine ⟨cs, ownsRow_congr h1 (fun g o hg ho => ?_), fun i lo hi hs => ?_⟩
      · obtain ⟨cur, hc⟩ := ownsRow_type h1 hg
        exact h _ _ (ht _ _ _ (by decide) hc) ho
      · obtain ⟨rv, tv, a1, a2, a3, a4⟩ := h2 i lo hi hs
        exact ⟨rv, tv, a1, a2, hrv _ _ _ a3, htv _ _ _ a4⟩
    apart := K.apart }

set_option maxRecDepth 100000 in
set_option maxHeartbeats 8000000 in
theorem keepScript_any (hr : Bool) (mem : List ByteArray) (rs : List Int) (ns : List Bool) (ma ra na : Option Addr) (mc rlen rc nlen nc : Nat) (w : World)
    (hml : mem.length ≤ 4096) (hrl : rlen ≤ maxLen) (hnl : nlen ≤ maxLen) (hbig : stN rs mem.length ≤ 65536) (hsz : ∀ s ∈ mem, s.size ≤ maxLen) (hw : ∀ n ∈ rs, (Lit.int .u8 n).wf = true)
    (hM : IsVals w ma mem.length (mem.map Value.string)) (hR : IsVals w ra rlen (rs.map (Value.int .u8))) (hNs : IsVals w na nlen (ns.map Value.bool)) :
    Calls Try.prog 24 #[.slice ma mem.length mc, .slice ra rlen rc, .slice na nlen nc, .bool hr] w
      fun e w' => ∃ Wb M Sb S vs, e = .returned (.tuple #[.pointer (some ⟨Wb, 0, none⟩), .slice (some ⟨Sb, 0, none⟩) (mem.length + 1) (mem.length + 1)]) ∧ KI w' w.heap.size Wb M S vs hr (nm mem mem.length) (spn mem (stN rs) mem.length) ∧ StartsTo w' Sb mem.length mem.length (stN rs) ∧ Below w.heap.size w w' := by
  obtain ⟨T, hT⟩ : ∃ T, T = mem.length := ⟨_, rfl⟩
  obtain ⟨B, hB⟩ : ∃ B, B = w.heap.size := ⟨_, rfl⟩
  have hT4 : T ≤ 4096 := by omega
  have mk : ∀ w : World, (Instr.makeSlice 47 (.int .i64 ((T : Int) + 1)) (.int .i64 ((T : Int) + 1))).run Try.prog w = .ok (.slice (some ⟨w.heap.size, 0, none⟩) (T + 1) (T + 1)) (w.alloc (.cells (madeCells #[.int .i64 0] (T + 1)) 3)) := fun w => by
    rw [show ((T : Int) + 1) = ((T + 1 : Nat) : Int) from by omega]
    exact make_one Try.underlying47 Try.info3 rfl (T + 1) (by omega) (by omega) w
  rw [← hT]
  have HT := hid hT
  have HB := hid hB
  have HM := hid hM
  have HR := hid hR
  have HNs := hid hNs
  clear hT hB hM hR hNs
  go_enter Try.func24, Try.ntmps24
  go_wp2_with fail
  refine (newWork_any hr (spn mem (stN rs) 0) w).mono ?_
  rintro e w1 ⟨rfl, hK, x1, b1⟩
  have HK := hid hK
  have HX1 := hid x1
  have HB1 := hid b1
  clear hK x1 b1
  go_wp2
  obtain ⟨Sb, hSb⟩ : ∃ Sb, Sb = w1.heap.size := ⟨_, rfl⟩
  rw [← hSb, ← HB.out]
  have HSb := hid hSb
  clear hSb
  have hst0 : StartsTo (w1.alloc (.cells (madeCells #[.int .i64 0] (T + 1)) 3)) Sb T 0 (stN rs) := by
    refine ⟨_, by rw [HSb.out]; exact heap_alloc_new _ _, by simp [madeCells], fun j hj => ?_⟩
    obtain rfl : j = 0 := by omega
    simp [madeCells, stN]
  have HST0 := hid hst0
  clear hst0
  go_loopw [12, 13] (fun pf i wr => ∃ p k : Nat, p ≤ k ∧ p ≤ T ∧ k ≤ T + 1 ∧ i = .int .i64 k ∧ pf = .int .i64 p ∧ (∃ S vs, KI wr B (B + 1) B S vs hr (nm mem p) (spn mem (stN rs) p)) ∧ StartsTo wr Sb T (min k T) (stN rs) ∧ Below B w wr ∧ (k = T + 1 → p = T)) (fun _ i _ => T + 1 - (intOf i).toNat)
  case atStart =>
    refine ⟨0, 0, Nat.le_refl _, Nat.zero_le _, Nat.zero_le _, rfl, rfl, ⟨.slice none 0 0, [], ?_⟩, ?_, ?_, fun h => by omega⟩
    · have h := (HK.out).ext ((Ext.refl w1).alloc (.cells (madeCells #[.int .i64 0] (T + 1)) 3))
      rw [← HB.out] at h
      exact h
    · rw [Nat.zero_min]; exact HST0.out
    · have h := HB1.out
      rw [← HB.out] at h
      exact h.alloc (by rw [HB.out]; exact h.size) _
  case round =>
    clear mk
    obtain ⟨p, k, hpk, hpT, hk, rfl, rfl, ⟨S, vs, K⟩, hst, bel, hend⟩ := hrel
    by_cases hlt : k < T + 1
    · have HKr := hid K
      have Hst := hid hst
      have Hbel := hid bel
      have Hend := hid hend
      clear K hst bel hend
      have hMr : IsVals wr ma T (mem.map Value.string) := by rw [HT.out]; exact HM.out.below (by rw [← HB.out]; exact Hbel.out)
      have hRr : IsVals wr ra rlen (rs.map (Value.int .u8)) := HR.out.below (by rw [← HB.out]; exact Hbel.out)
      have hNr : IsVals wr na nlen (ns.map Value.bool) := HNs.out.below (by rw [← HB.out]; exact Hbel.out)
      have HMr := hid hMr
      have HRr := hid hRr
      have HNr := hid hNr
      clear hMr hRr hNr
      go_upto_region 7 with (fail)
      go_cut [38] (fun c wc => ∃ bb, c = .bool bb ∧ wc = wr ∧ (k = T → bb = true))
      case first =>
        by_cases hkT : k = T
        · subst hkT
          go_wp2_with fail
          go_meet
          case rel => exact ⟨true, rfl, rfl, fun _ => rfl⟩
        · have hkT' : ¬ (k : Int) = (T : Int) := by omega
          rcases Nat.eq_zero_or_pos k with h0 | h0
          · subst h0
            go_wp2_with fail
            go_meet
            case rel => exact ⟨_, rfl, rfl, fun h => absurd h hkT⟩
          · go_wp2_with fail
            refine (newPartAt_any na nlen nc ns k (by omega) hnl wr HNr.out).mono ?_
            rintro e w2 ⟨rfl, rfl⟩
            go_wp2_with fail
            go_meet
            case rel => exact ⟨_, rfl, rfl, fun h => absurd h hkT⟩
      case rest =>
        obtain ⟨bb, rfl, rfl, hbb⟩ := hcut
        have Hbb := hid hbb
        clear hbb
        go_upto_if 38 with (fail)
        obtain ⟨wa, hwa⟩ : ∃ wa, wa = wc := ⟨_, rfl⟩
        subst hwa
        go_cut [12] (fun pf wd => ∃ p' : Nat, pf = .int .i64 p' ∧ p' ≤ k ∧ p' ≤ T ∧ (k = T → p' = T) ∧ (∃ S vs, KI wd B (B + 1) B S vs hr (nm mem p') (spn mem (stN rs) p')) ∧ StartsTo wd Sb T (min k T) (stN rs) ∧ Below B w wd)
        case first =>
          cases bb
          · go_wp2_with fail
            go_meet
            case rel => exact ⟨p, rfl, hpk, hpT, fun h => (by have := Hbb.out h; cases this), ⟨_, _, HKr.out⟩, Hst.out, Hbel.out⟩
          · by_cases hpk' : p < k
            · obtain ⟨L, hL⟩ : ∃ L, k = p + L := ⟨k - p, by omega⟩
              have hcall := keepPart_any hr mem (stN rs) p L Sb B (B + 1) B ma mc S vs wa (fun i j h => stN_mono rs i j h) (by have := stN_mono rs (p + L) mem.length (by have := HT.out; omega); omega) (by omega) (by omega) hsz (by have := HT.out; omega) HKr.out (by rw [← HT.out]; exact HMr.out) (by
                obtain ⟨cur, h1, h2, h3⟩ := Hst.out
                exact ⟨cur, h1, fun j hj => h3 j (by omega)⟩)
              rw [← hL, ← HT.out] at hcall
              have HC := hid hcall
              have HL := hid hL
              clear hcall hL
              have hgt : (p : Int) < (k : Int) := by omega
              go_wp2_with fail
              refine HC.out.mono ?_
              rintro e w2 ⟨rfl, ⟨S2, vs2, K2⟩, fr, bel⟩
              have HK2 := hid K2
              have Hfr := hid fr
              have Hb2 := hid bel
              clear K2 fr bel
              go_wp2_with fail
              go_meet
              case rel =>
                refine ⟨k, rfl, Nat.le_refl _, by omega, fun h => h, ⟨_, _, HK2.out⟩, ?_, Hbel.out.trans Hb2.out⟩
                obtain ⟨cur, h1, h2, h3⟩ := Hst.out
                exact ⟨cur, Hfr.out _ _ _ _ h1 (by decide) (by decide) (by decide), h2, h3⟩
            · obtain rfl : p = k := by omega
              go_wp2_with fail
              go_meet
              case rel => exact ⟨p, rfl, Nat.le_refl _, hpT, fun h => h, ⟨_, _, HKr.out⟩, Hst.out, Hbel.out⟩
        case rest =>
          obtain ⟨p', rfl, hp1, hp2, hp3, ⟨S2, vs2, K2⟩, hst2, bel2⟩ := hcut
          obtain ⟨wb, hwb⟩ : ∃ wb, wb = wc := ⟨_, rfl⟩
          subst hwb
          have HK2 := hid K2
          have Hp3 := hid hp3
          have Hst2 := hid hst2
          have Hbel2 := hid bel2
          clear K2 hp3 hst2 bel2 HMr HRr HNr HKr Hst Hbel Hbb
          by_cases hkT : k < T
          · obtain ⟨cur, h1, h2, h3⟩ := Hst2.out
            have hmin : min k T = k := by omega
            rw [hmin] at h3
            obtain ⟨st, hst⟩ : ∃ st, st = stN rs k := ⟨_, rfl⟩
            have c1 : wb.cell? ⟨Sb, k, none⟩ = some (.int .i64 (st : Int)) := by rw [cell_of_blk h1, h3 k (Nat.le_refl _), hst]
            obtain ⟨o2, c2⟩ : ∃ v, wb.cell? ⟨Sb, k + 1, none⟩ = some v := ⟨_, by rw [cell_of_blk h1]; exact Array.getElem?_eq_getElem (by omega)⟩
            have f2 := free_of_blk h1 (k + 1)
            have l1 := heap_lt h1
            have hstb : st ≤ 65536 := by rw [hst]; have := stN_mono rs k mem.length (by have := HT.out; omega); omega
            have hrlb := rl_le rs hw k
            have i1 : k + 1 < T + 1 := by omega
            have hRr : IsVals wb.drew ra rlen (rs.map (Value.int .u8)) := HR.out.below (by rw [← HB.out]; exact Hbel2.out.drew)
            have HC := hid (runLen_any ra rlen rc rs k hw (by omega) hrl wb.drew hRr)
            have H1 := hid h1
            have H2 := hid h2
            have H3 := hid h3
            have Hs := hid hst
            clear h1 h2 h3 hst hRr hmin
            have hBS : B ≤ Sb := by rw [HSb.out]; have := HB1.out.size; have := HB.out; omega
            go_upto_region 12 with (fail)
            go_region_with (go_at_call 35; refine HC.out.mono ?_; rintro e w2 ⟨rfl, rfl⟩)
            all_goals (
              go_wp2_with fail
              go_roundw
              case rel =>
                refine ⟨p', k + 1, by omega, hp2, by omega, by go_num, rfl, ⟨_, _, HK2.out.other H1.out (fun b o hne hb => (heap_setCell_other _ _ _ _ hne).trans hb)⟩, ⟨_, heap_setCell_same _ _ _ _ _ _ H1.out, by rw [Array.size_setIfInBounds]; exact H2.out, fun j hj => ?_⟩, (Hbel2.out.setCell hBS _).drew, fun h => by omega⟩
                rw [show min (k + 1) T = k + 1 from by omega] at hj
                rw [Array.getElem?_setIfInBounds]
                by_cases hjk : k + 1 = j
                · rw [if_pos hjk, if_pos (by have := H2.out; omega), ← hjk]
                  show _ = some (Value.int .i64 ((stN rs k + rl rs k : Nat) : Int))
                  rw [← Hs.out]
                  congr 2
                  try omega
                · rw [if_neg hjk]
                  exact H3.out j (by omega)
              case measure => simp [intOf]; omega)
          · have hkT' : k = T := by omega
            have hkT2 : ¬ (k : Int) < (T : Int) := by omega
            go_wp2_with fail
            go_roundw
            case rel =>
              refine ⟨p', k + 1, by omega, hp2, by omega, by go_num, rfl, ⟨_, _, HK2.out⟩, ?_, Hbel2.out, fun _ => Hp3.out hkT'⟩
              have h := Hst2.out
              rw [show min (k + 1) T = min k T from by omega]
              exact h
            case measure => simp [intOf]; omega
    · have hkn : k = T + 1 := by omega
      have hle : ¬ (k : Int) ≤ (T : Int) := by omega
      have hp := hend hkn
      subst hp
      have HKr := hid K
      have Hst := hid hst
      have Hbel := hid bel
      clear K hst bel hend
      go_wp2_with fail
      go_ret2
      refine ⟨B + 1, B, Sb, rfl, ⟨_, _, by rw [← HB.out]; exact HKr.out⟩, ?_, by rw [← HB.out]; exact Hbel.out⟩
      have h := Hst.out
      rw [show min k p = p from by omega] at h
      exact h

end Go.Proofs.Qxb6000622a
