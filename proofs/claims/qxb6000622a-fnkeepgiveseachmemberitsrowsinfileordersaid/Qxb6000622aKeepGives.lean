/-
  The walk of FnKeepGivesEachMemberItsRowsInFileOrder (6).
-/
import Derived.Test.Qxb6000622aKeepPlaces
import Derived.Test.Qxb6000622aZZRows
namespace Go.Proofs.Qxb6000622a
open Go.RowKit Go.Maps Go.WideMaps
set_option linter.unusedVariables false

theorem below_cell {B : Nat} {w w' : World} (h : Below B w w') (hB : B = w.heap.size) {b off : Nat} {v : Value} (hb : b < w.heap.size) (hc : w.cell? ⟨b, off, none⟩ = some v) : w'.cell? ⟨b, off, none⟩ = some v :=
  (h.cell (by rw [hB]; exact hb)).trans hc

theorem row_cell {w : World} {base : Nat} {e : TypeId} {a : Option Addr} {G c n k : Nat} {xs : List Value} (h : w.ownsRow base e 1 (.slice a G c) n xs) (hk : k < n) : ∃ b, a = some ⟨b, 0, none⟩ ∧ b < w.heap.size ∧ w.cell? ⟨b, k, none⟩ = xs[k]? := by
  rcases h.2 with ⟨_, h0⟩ | ⟨g, cap, cur, hv, _, hh, _, _, hcs, hxs⟩
  · omega
  · injection hv with h1 h2 h3
    refine ⟨g, h1, heap_lt hh, ?_⟩
    rw [cell_of_blk hh, ← hxs, List.getElem?_take_of_lt (by omega)]
    simp

set_option maxRecDepth 100000 in
set_option maxHeartbeats 8000000 in
theorem keepGives_walk (a0 a1 a2 : Option Addr) (len0 cap0 len1 cap1 len2 cap2 : Nat) (mem : List ByteArray) (rs : List Int) (ns : List Bool) (hr : Bool) (w : World)
    (hl0 : len0 ≤ maxLen) (hl1 : len1 ≤ maxLen) (hl2 : len2 ≤ maxLen) (n0 : a0 = none → len0 = 0 ∧ cap0 = 0) (n1 : a1 = none → len1 = 0 ∧ cap1 = 0) (n2 : a2 = none → len2 = 0 ∧ cap2 = 0)
    (hsz : ∀ s ∈ mem, s.size ≤ maxLen) (hw : ∀ n ∈ rs, (Lit.int .u8 n).wf = true)
    (i0 : IsVals w a0 len0 (mem.map Value.string)) (i1 : IsVals w a1 len1 (rs.map (Value.int .u8))) (i2 : IsVals w a2 len2 (ns.map Value.bool)) :
    Calls Try.prog 6 #[.slice a0 len0 cap0, .slice a1 len1 cap1, .slice a2 len2 cap2, .bool hr] w fun e w' => e = .returned (.bool true) ∧ Below w.heap.size w w' := by
  have hmlen : mem.length = len0 := by simpa using i0.1
  have I0 := hid i0
  have I1 := hid i1
  have I2 := hid i2
  have HL := hid hmlen
  clear i0 i1 i2 hmlen
  have hl01 := hl0
  have hl11 := hl1
  have hl21 := hl2
  unfold maxLen at hl01 hl11 hl21
  go_enter Try.func6, Try.ntmps6
  go_wp2_with fail
  refine (bytes18_any a0 a1 a2 len0 cap0 len1 cap1 len2 cap2 mem hr hl0 hl1 hl2 w I0.out).mono ?_
  rintro e w' ⟨⟨b, rfl⟩, rfl⟩
  cases b
  · go_wp2
    go_ret
    exact ⟨rfl, Below.refl _ _⟩
  go_wp2_with fail
  refine (keepBytes_any a0 a1 a2 len0 cap0 len1 cap1 len2 cap2 mem hl0 w' I0.out).mono ?_
  rintro e w' ⟨⟨z, rfl⟩, rfl⟩
  by_cases hz : (1048576 : Int) < z
  · go_wp2
    go_ret
    exact ⟨rfl, Below.refl _ _⟩
  by_cases h4 : (4096 : Int) < (len0 : Int)
  · go_wp2
    go_ret
    exact ⟨rfl, Below.refl _ _⟩
  by_cases h5 : (4096 : Int) < (len1 : Int)
  · go_wp2
    go_ret
    exact ⟨rfl, Below.refl _ _⟩
  by_cases h6 : (4096 : Int) < (len2 : Int)
  · go_wp2
    go_ret
    exact ⟨rfl, Below.refl _ _⟩
  go_wp2_with fail
  refine (keepRows_any a0 a1 len0 cap0 len1 cap1 rs hw (by omega) hl1 w' I1.out).mono ?_
  rintro e w' ⟨rfl, rfl⟩
  by_cases hrows : 65536 < stN rs len0
  · go_wp2
    go_ret
    exact ⟨rfl, Below.refl _ _⟩
  have hrows' : ¬ (65536 : Int) < (stN rs len0 : Int) := by omega
  have hm0 : len0 ≤ 4096 := by omega
  have hm1 : len1 ≤ 4096 := by omega
  have hm2 : len2 ≤ 4096 := by omega
  clear hz h4 h5 h6
  obtain ⟨wa, hwa⟩ : ∃ wa, wa = w' := ⟨_, rfl⟩
  subst hwa
  go_wp2_with fail
  refine (clone21_any _ _ _ mem (by omega) n0 _ I0.out).mono ?_
  rintro e w1 ⟨a0', cap0', rfl, j0, hbel1⟩
  go_wp2_with fail
  refine (clone22_any _ _ _ rs (by omega) n1 _ (I1.out.below hbel1)).mono ?_
  rintro e w2 ⟨a1', cap1', rfl, j1, hbel2⟩
  have j0' := j0.below hbel2
  have hb12 : Below wa.heap.size wa w2 := hbel1.trans (hbel2.mono hbel1.size)
  go_wp2_with fail
  refine (clone23_any _ _ _ ns (by omega) n2 _ (I2.out.below hb12)).mono ?_
  rintro e w3 ⟨a2', cap2', rfl, j2, hbel3⟩
  have j0'' := j0'.below hbel3
  have j1' := j1.below hbel3
  have hb13 : Below wa.heap.size wa w3 := hb12.trans (hbel3.mono hb12.size)
  have HB13 := hid hb13
  have J0 := hid j0''
  clear j0 j0' hbel1 hbel2 hbel3 hb12 hb13 j1
  have hsc := keepScript_any hr mem rs ns a0' a1' a2' cap0' len1 cap1' len2 cap2' w3 (by rw [HL.out]; exact hm0) hl1 hl2 (by rw [HL.out]; omega) hsz hw (by rw [HL.out]; exact j0'') j1' j2
  rw [HL.out] at hsc
  clear j0'' j1' j2
  have HSC := hid hsc
  clear hsc
  go_wp2_with fail
  refine HSC.out.mono ?_
  rintro e w4 ⟨Wb, M, Sb, S, vs, rfl, K, hst, hbel4⟩
  have HK := hid K
  have HB4 := hid hbel4
  have J4 := hid (J0.out.below hbel4)
  have HSt := hid hst
  obtain ⟨nms, hnms⟩ : ∃ nms, nms = nm mem len0 := ⟨_, rfl⟩
  have hmc := memberCount_any K
  rw [← hnms] at hmc
  have HMc := hid hmc
  have HNm := hid hnms
  have hnl : nms.length ≤ 4096 := by rw [hnms]; have := nm_le mem len0; omega
  clear K hst hbel4 J0 hnms hmc
  go_wp2_with fail
  refine HMc.out.mono ?_
  rintro e w5 ⟨rfl, rfl⟩
  obtain ⟨w4, hw4⟩ : ∃ w4, w4 = w5 := ⟨_, rfl⟩
  subst hw4
  go_wp2_with fail
  go_loopw [12] (fun i wr => ∃ k : Nat, k ≤ len0 ∧ i = .int .i64 k ∧ Ext w4 wr ∧ Below w4.heap.size w4 wr) (fun i _ => len0 - (intOf i).toNat)
  case atStart => exact ⟨0, Nat.zero_le _, rfl, Ext.refl _, Below.refl _ _⟩
  case round =>
    obtain ⟨k, hk, rfl, xr, br⟩ := hrel
    by_cases hlt : k < len0
    · obtain ⟨b, off, rfl, hb, hc⟩ := (J4.out.below br).2 (by omega)
      have hc' : ∀ j, j < len0 → wr.cell? ⟨b, off + j, none⟩ = some (.string (mem.getD j ByteArray.empty)) := fun j hj => by
        rw [hc j hj]
        simp [List.getElem?_eq_getElem (show j < mem.length by rw [HL.out]; exact hj)]
      have HC := hid hc'
      have HXr := hid xr
      have HBr := hid br
      clear hc hc' xr br
      go_wp2_with fail
      refine (seenBefore_any b off len0 cap0' mem k hlt hm0 HL.out wr hb (fun j hj => HC.out j hj)).mono ?_
      rintro e w5 ⟨rfl, nq2, rfl⟩
      cases hsee : seenB mem k
      · have hnot : mem.getD k ByteArray.empty ∉ nm mem k := fun h => by
          have := (seenB_nm mem k (by rw [HL.out]; exact hlt)).2 h
          rw [hsee] at this
          cases this
        obtain ⟨s, hs⟩ : ∃ s, s = mem.getD k ByteArray.empty := ⟨_, rfl⟩
        obtain ⟨dk, hdk⟩ : ∃ dk, dk = (nm mem k).length := ⟨_, rfl⟩
        have hpl : nms[dk]? = some s := by rw [HNm.out, hdk, hs]; exact nm_place hlt hnot
        have hdl : dk < nms.length := (List.getElem?_eq_some_iff.1 hpl).1
        have hss : s.size ≤ maxLen := hsz s (by rw [hs]; simp [List.getElem?_eq_getElem (show k < mem.length by rw [HL.out]; exact hlt)])
        obtain ⟨wy, hwy⟩ : ∃ wy, wy = wr.drewN nq2 := ⟨_, rfl⟩
        have xy : Ext w4 wy := by rw [hwy]; exact HXr.out.drewN nq2
        have by' : Below w4.heap.size w4 wy := by rw [hwy]; exact below_drewN' HBr.out nq2
        have hcy : ∀ j, j < len0 → wy.cell? ⟨b, off + j, none⟩ = some (.string (mem.getD j ByteArray.empty)) := by rw [hwy]; exact HC.out
        have hby : b < wy.heap.size := by rw [hwy]; exact hb
        have Ky := HK.out.ext xy
        rw [← HNm.out] at Ky
        have cs : wy.cell? ⟨b, off + k, none⟩ = some (.string s) := by rw [hs]; exact hcy k hlt
        have hnd : nms.Nodup := by rw [HNm.out]; exact nm_nodup _ _
        rw [← hwy]
        have HNot := hid hnot
        have HPl := hid hpl
        have HS := hid hs
        have HSee := hid hsee
        have HDk := hid hdk
        have HXy := hid xy
        have HBy := hid by'
        have HCy := hid hcy
        have HKy := hid Ky
        clear hnot hpl hs hsee hdk xy by' hcy Ky hwy HC HXr HBr hb
        have i1 : (k : Int) < (len0 : Int) := by omega
        have i2 : (dk : Int) < (nms.length : Int) := by omega
        go_wp2_with fail
        refine (place_yes HKy.out hnd hss HPl.out).mono ?_
        rintro e w6 ⟨rfl, rfl⟩
        obtain ⟨wy, hwy⟩ : ∃ wy, wy = w6 := ⟨_, rfl⟩
        subst hwy
        have hgl : (fl (spn mem (stN rs) len0 s)).length ≤ 65536 := by
          have := fl_spn_le mem (stN rs) (fun i j h => stN_mono rs i j h) s len0
          omega
        have hsl : (spn mem (stN rs) len0 s).length ≤ 4096 := by
          have := spn_le mem (stN rs) s len0
          omega
        go_wp2_with fail
        refine (zzrows_any HKy.out HPl.out hsl hgl).mono ?_
        rintro e w7 ⟨mv, lv, hv, tv, rfl, Z⟩
        obtain ⟨gs, hgs⟩ : ∃ gs, gs = fl (spn mem (stN rs) len0 s) := ⟨_, rfl⟩
        obtain ⟨nsp, hnsp⟩ : ∃ nsp, nsp = (spn mem (stN rs) len0 s).length := ⟨_, rfl⟩
        rw [← hgs] at Z hgl
        rw [← hnsp] at hsl ⊢
        obtain ⟨am, cm, rfl⟩ := slice_form Z.m
        obtain ⟨al, cl, rfl⟩ := slice_form Z.l
        obtain ⟨ah, ch, rfl⟩ := slice_form Z.h
        obtain ⟨at', ct, rfl⟩ := slice_form Z.t
        have e1 : (mval gs).length = gs.length := by simp [mval]
        have e2 : (lval gs).length = gs.length := by simp [lval]
        have e3 : (hval gs).length = gs.length := by simp [hval]
        obtain ⟨tl, htl⟩ : ∃ tl, tl = (tvl hr gs).length := ⟨_, rfl⟩
        rw [e1, e2, e3, ← htl] at Z ⊢
        clear e1 e2 e3
        obtain ⟨G, hG⟩ : ∃ G, G = gs.length := ⟨_, rfl⟩
        rw [← hG] at Z hgl ⊢
        obtain ⟨cr, hcr⟩ : ∃ cr, cr = cntR hr nsp := ⟨_, rfl⟩
        rw [← hcr]
        have hcrl : cr ≤ 4096 := by rw [hcr]; unfold cntR; split <;> omega
        have htll : tl ≤ 65536 := by rw [htl]; cases hr <;> simp [tvl, tval] <;> omega
        have HZ := hid Z
        have HGs := hid hgs
        have HNsp := hid hnsp
        have HTl := hid htl
        have HG := hid hG
        have HCr := hid hcr
        clear Z hgs hnsp htl hG hcr
        have hsp0 : spn mem (stN rs) k s = [] := by rw [HS.out]; exact spn_new HNot.out
        have HSp0 := hid hsp0
        clear hsp0
        have x7 : Ext wy w7 := HZ.out.x
        have b7 : Below wy.heap.size wy w7 := HZ.out.b
        have hc7 : ∀ j, j < len0 → w7.cell? ⟨b, off + j, none⟩ = some (.string (mem.getD j ByteArray.empty)) := fun j hj => below_cell b7 rfl hby (HCy.out j hj)
        have hb7 : b < w7.heap.size := Nat.lt_of_lt_of_le hby b7.size
        have cs7 : w7.cell? ⟨b, off + k, none⟩ = some (.string s) := by rw [HS.out]; exact hc7 k hlt
        obtain ⟨curS, hS1, hS2, hS3⟩ := HSt.out
        have hS7 := x7 _ _ (HXy.out _ _ hS1)
        have hst7 : ∀ j, j ≤ len0 → w7.cell? ⟨Sb, j, none⟩ = some (.int .i64 (stN rs j : Nat)) := fun j hj => by rw [cell_of_blk hS7]; exact hS3 j hj
        have lS7 := heap_lt hS7
        have HC7 := hid hc7
        have HSt7 := hid hst7
        have HX7 := hid x7
        have HB7 := hid b7
        clear hc7 x7 b7 hS1 hS2 hS3 hS7 hst7 cs hby
        go_wp2_with fail
        go_loopw [20, 21] (fun kk i wr => ∃ j m : Nat, k ≤ j ∧ j ≤ len0 ∧ i = .int .i64 j ∧ kk = .int .i64 ((fl (spn mem (stN rs) j s)).length : Nat) ∧ wr = w7.drewN m) (fun _ i _ => len0 - (intOf i).toNat)
        case atStart => exact ⟨k, 0, Nat.le_refl _, hk, rfl, by rw [HSp0.out]; rfl, rfl⟩
        case round =>
          obtain ⟨j, m, hkj, hj, rfl, rfl, rfl⟩ := hrel
          obtain ⟨fj, hfj⟩ : ∃ fj, fj = (fl (spn mem (stN rs) j s)).length := ⟨_, rfl⟩
          have hfj4 : fj ≤ 65536 := by
            have := fl_spn_le mem (stN rs) (fun i j h => stN_mono rs i j h) s j
            have := stN_mono rs j len0 hj
            omega
          rw [← hfj]
          have HFj := hid hfj
          clear hfj
          by_cases hlt2 : j < len0
          · obtain ⟨t, ht⟩ : ∃ t, t = mem.getD j ByteArray.empty := ⟨_, rfl⟩
            have ct : w7.cell? ⟨b, off + j, none⟩ = some (.string t) := by rw [ht]; exact HC7.out j hlt2
            have HTt := hid ht
            clear ht
            have i3 : (j : Int) < (len0 : Int) := by omega
            have hbe := bytes_eq t s
            by_cases e : t = s
            · have hbt : (t.toList == s.toList) = true := by rw [hbe]; simpa using e
              have HE := hid e
              clear hbe e
              obtain ⟨sj, hsj⟩ : ∃ sj, sj = stN rs j := ⟨_, rfl⟩
              obtain ⟨sj1, hsj1⟩ : ∃ sj1, sj1 = stN rs (j + 1) := ⟨_, rfl⟩
              have c5 : w7.cell? ⟨Sb, j, none⟩ = some (.int .i64 (sj : Int)) := by rw [hsj]; exact HSt7.out j hj
              have c6 : w7.cell? ⟨Sb, j + 1, none⟩ = some (.int .i64 (sj1 : Int)) := by rw [hsj1]; exact HSt7.out (j + 1) (by omega)
              have hsm : sj ≤ sj1 := by rw [hsj, hsj1]; exact stN_mono rs j (j + 1) (by omega)
              have hsb : sj1 ≤ 65536 := by rw [hsj1]; have := stN_mono rs (j + 1) len0 (by omega); omega
              have HSj := hid hsj
              have HSj1 := hid hsj1
              clear hsj hsj1
              have i4 : j + 1 < len0 + 1 := by omega
              have i5 : j < len0 + 1 := by omega
              go_wp2_with fail
              go_quiet (fail)
              go_wp2_with fail
              go_loopw [20, 22] (fun kv gv wr => ∃ gg kk m' : Nat, sj ≤ gg ∧ gg ≤ sj1 ∧ kk + sj = fj + gg ∧ gv = .int .i64 (gg : Int) ∧ kv = .int .i64 (kk : Int) ∧ wr = w7.drewN m') (fun _ g _ => sj1 - (intOf g).toNat)
              case atStart => exact ⟨sj, fj, m + nq, Nat.le_refl _, hsm, rfl, rfl, rfl, by simp⟩
              case round =>
                obtain ⟨gg, kk, m', hg1, hg2, hgk, rfl, rfl, rfl⟩ := hrel
                have hggb : gg ≤ 65536 := by omega
                have hkkb : kk ≤ 131072 := by omega
                have HGk := hid hgk
                clear hgk
                by_cases hlt3 : gg < sj1
                · have hat : gs[kk]? = some gg := by
                    obtain ⟨t', ht'⟩ : ∃ t', gg = sj + t' := ⟨gg - sj, by omega⟩
                    have hkt : kk = fj + t' := by have := HGk.out; omega
                    rw [HGs.out, hkt, HFj.out, ht', HSj.out]
                    exact fl_at mem (stN rs) s j len0 t' hlt2 (by rw [← HE.out, HTt.out]) (by rw [← HSj.out, ← HSj1.out]; omega)
                  have hkG : kk < G := by rw [HG.out]; exact (List.getElem?_eq_some_iff.1 hat).1
                  obtain ⟨mb, rfl, lm, cm'⟩ := row_cell HZ.out.m (k := kk) (by simp [mval]; rw [← HG.out]; exact hkG)
                  obtain ⟨lb, rfl, ll, cl'⟩ := row_cell HZ.out.l (k := kk) (by simp [lval]; rw [← HG.out]; exact hkG)
                  obtain ⟨hb', rfl, lh, ch'⟩ := row_cell HZ.out.h (k := kk) (by simp [hval]; rw [← HG.out]; exact hkG)
                  have cm2 : w7.cell? ⟨mb, kk, none⟩ = some (.int .i32 (gg : Int)) := by rw [cm']; simp [mval, hat]
                  have cl2 : w7.cell? ⟨lb, kk, none⟩ = some (.int .u32 ((gg : Int) + 1)) := by rw [cl']; simp [lval, hat]
                  have ch2 : w7.cell? ⟨hb', kk, none⟩ = some (.int .i64 (3 * (gg : Int))) := by rw [ch']; simp [hval, hat]
                  have i6 : (kk : Int) < (G : Int) := by omega
                  have i7 : (gg : Int) < (sj1 : Int) := by omega
                  have i8 : ¬ (G : Int) ≤ (kk : Int) := by omega
                  have HAt := hid hat
                  clear cm' cl' ch' hat
                  cases hr
                  · go_wp2_with fail
                    go_roundw
                    case rel => exact ⟨gg + 1, kk + 1, m', by omega, by omega, by have := HGk.out; omega, by go_num, by go_num, rfl⟩
                    case measure => simp [intOf]; omega
                  · obtain rfl : G = tl := by rw [HTl.out, HG.out]; simp [tvl, tval]
                    obtain ⟨tb, rfl, lt, ct'⟩ := row_cell HZ.out.t (k := kk) (by simp [tvl, tval]; rw [← HG.out]; exact hkG)
                    have ct2 : w7.cell? ⟨tb, kk, none⟩ = some (.int .i64 (7 * (gg : Int))) := by rw [ct']; simp [tvl, tval, HAt.out]
                    clear ct'
                    go_wp2_with fail
                    go_roundw
                    case rel => exact ⟨gg + 1, kk + 1, m', by omega, by omega, by have := HGk.out; omega, by go_num, by go_num, rfl⟩
                    case measure => simp [intOf]; omega
                · have hge : ¬ (gg : Int) < (sj1 : Int) := by omega
                  go_wp2_with fail
                  go_roundw
                  case rel =>
                    refine ⟨j + 1, m', by omega, by omega, by go_num, ?_, rfl⟩
                    rw [spn_yes (show s = mem.getD j ByteArray.empty by rw [← HE.out, HTt.out]), fl_snoc, List.length_append, rng_len, ← HFj.out]
                    congr 1
                    have h2 := HGk.out
                    have h3 := HSj.out
                    have h4 := HSj1.out
                    simp only
                    omega
                  case measure => simp [intOf]; omega
            · have hbt : (t.toList == s.toList) = false := by rw [hbe]; simpa using e
              have HE := hid e
              clear hbe e
              go_wp2_with fail
              go_quiet (fail)
              go_wp2_with fail
              go_roundw
              case rel => exact ⟨j + 1, m + nq, by omega, by omega, by go_num, by rw [spn_not (show s ≠ mem.getD j ByteArray.empty by rw [← HTt.out]; exact fun e => HE.out e.symm), HFj.out], by simp⟩
              case measure => simp [intOf]; omega
          · have hjl : len0 = j := by omega
            subst hjl
            have hfG : fj = G := by rw [HFj.out, HG.out, HGs.out]
            subst hfG
            have X8 : Ext w4 (w7.drewN m) := (HXy.out.trans HX7.out).drewN m
            have B8 : Below w4.heap.size w4 (w7.drewN m) := below_drewN' (HBy.out.trans (HB7.out.mono HBy.out.size)) m
            have K8 := HK.out.ext X8
            rw [← HNm.out] at K8
            have hcnt := spanCount_any K8 HPl.out
            rw [← HNsp.out] at hcnt
            have HX8 := hid X8
            have HB8 := hid B8
            have HCnt := hid hcnt
            clear X8 B8 K8 hcnt
            cases hr
            · obtain rfl : 0 = tl := by rw [HTl.out]; rfl
              obtain rfl : 0 = cr := by rw [HCr.out]; rfl
              go_wp2_with fail
              go_roundw
              case rel => exact ⟨k + 1, by omega, by go_num, HX8.out, HB8.out⟩
              case measure => simp [intOf]; omega
            · obtain rfl : fj = tl := by rw [HTl.out, HG.out]; simp [tvl, tval]
              obtain rfl : nsp = cr := by rw [HCr.out]; rfl
              go_wp2_with fail
              refine HCnt.out.mono ?_
              rintro e w9 ⟨rfl, rfl⟩
              go_wp2_with fail
              go_roundw
              case rel => exact ⟨k + 1, by omega, by go_num, HX8.out, HB8.out⟩
              case measure => simp [intOf]; omega
      · clear hsee
        go_wp2_with fail
        go_roundw
        case rel => exact ⟨k + 1, by omega, by go_num, HXr.out.drewN nq2, below_drewN' HBr.out nq2⟩
        case measure => simp [intOf]; omega
    · have hkl : len0 = k := by omega
      subst hkl
      have HBr := hid br
      clear xr br
      go_wp2_with fail
      go_ret
      exact ⟨rfl, HB13.out.trans ((HB4.out.trans (HBr.out.mono HB4.out.size)).mono HB13.out.size)⟩

end Go.Proofs.Qxb6000622a
