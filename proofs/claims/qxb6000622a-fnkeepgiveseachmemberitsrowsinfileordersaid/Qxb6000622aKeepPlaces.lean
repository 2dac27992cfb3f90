/-
  The walk of FnKeepPlacesMembersInOrderOfFirstRun (7).
-/
import Derived.Test.Qxb6000622aKeepScript
import Derived.Test.Qxb6000622aBytes
namespace Go.Proofs.Qxb6000622a
open Go.RowKit Go.Maps Go.WideMaps
set_option linter.unusedVariables false

theorem nm_ext (mem : List ByteArray) (i : Nat) : ∀ j, i ≤ j → ∃ t, nm mem j = nm mem i ++ t
  | 0, h => ⟨[], by
      obtain rfl : i = 0 := by omega
      simp⟩
  | j + 1, h => by
    by_cases e : i = j + 1
    · exact ⟨[], by rw [e]; simp⟩
    · obtain ⟨t, ht⟩ := nm_ext mem i j (by omega)
      by_cases hin : mem.getD j ByteArray.empty ∈ nm mem j
      · exact ⟨t, by rw [nm_old hin, ht]⟩
      · exact ⟨t ++ [mem.getD j ByteArray.empty], by rw [nm_new hin, ht, List.append_assoc]⟩

theorem seenB_nm (mem : List ByteArray) (i : Nat) (hi : i < mem.length) : seenB mem i = true ↔ mem.getD i ByteArray.empty ∈ nm mem i := by
  rw [nm_mem]
  constructor
  · intro h
    unfold seenB at h
    rw [List.any_eq_true] at h
    obtain ⟨x, hx, hd⟩ := h
    obtain ⟨j, hj, rfl⟩ := List.mem_take_iff_getElem.1 hx
    have hj2 : j < mem.length := by omega
    exact ⟨j, by omega, by simpa [List.getElem?_eq_getElem hj2] using hd⟩
  · rintro ⟨j, hj, e⟩
    exact seen_yes mem i j hj hi e

/-- The place of a member at its first run. -/
theorem nm_place {mem : List ByteArray} {i T : Nat} (hi : i < T) (h : mem.getD i ByteArray.empty ∉ nm mem i) : (nm mem T)[(nm mem i).length]? = some (mem.getD i ByteArray.empty) := by
  obtain ⟨t, ht⟩ := nm_ext mem (i + 1) T hi
  rw [ht, nm_new h]
  simp

theorem spn_yes {mem : List ByteArray} {stt : Nat → Nat} {k : Nat} {s : ByteArray} (h : s = mem.getD k ByteArray.empty) : spn mem stt (k + 1) s = spn mem stt k s ++ [(stt k, stt (k + 1))] := by rw [spn, if_pos h]
theorem spn_not {mem : List ByteArray} {stt : Nat → Nat} {k : Nat} {s : ByteArray} (h : s ≠ mem.getD k ByteArray.empty) : spn mem stt (k + 1) s = spn mem stt k s := by rw [spn, if_neg h]

set_option maxRecDepth 100000 in
set_option maxHeartbeats 8000000 in
theorem keepPlaces_walk (a0 a1 a2 : Option Addr) (len0 cap0 len1 cap1 len2 cap2 : Nat) (mem : List ByteArray) (rs : List Int) (ns : List Bool) (p : ByteArray) (w : World)
    (hp : p.size ≤ maxLen) (hl0 : len0 ≤ maxLen) (hl1 : len1 ≤ maxLen) (hl2 : len2 ≤ maxLen) (n0 : a0 = none → len0 = 0 ∧ cap0 = 0) (n1 : a1 = none → len1 = 0 ∧ cap1 = 0) (n2 : a2 = none → len2 = 0 ∧ cap2 = 0)
    (hsz : ∀ s ∈ mem, s.size ≤ maxLen) (hw : ∀ n ∈ rs, (Lit.int .u8 n).wf = true)
    (i0 : IsVals w a0 len0 (mem.map Value.string)) (i1 : IsVals w a1 len1 (rs.map (Value.int .u8))) (i2 : IsVals w a2 len2 (ns.map Value.bool)) :
    Calls Try.prog 7 #[.slice a0 len0 cap0, .slice a1 len1 cap1, .slice a2 len2 cap2, .string p] w fun e w' => e = .returned (.bool true) ∧ Below w.heap.size w w' := by
  have hmlen : mem.length = len0 := by simpa using i0.1
  have I0 := hid i0
  have I1 := hid i1
  have I2 := hid i2
  have HL := hid hmlen
  clear i0 i1 i2 hmlen
  have hp1 := hp
  have hl01 := hl0
  have hl11 := hl1
  have hl21 := hl2
  unfold maxLen at hp1 hl01 hl11 hl21
  go_enter Try.func7, Try.ntmps7
  go_wp2_with fail
  refine (bytes30_any a0 a1 a2 len0 cap0 len1 cap1 len2 cap2 mem p hp hl0 hl1 hl2 w I0.out).mono ?_
  rintro e w' ⟨⟨b, rfl⟩, rfl⟩
  cases b
  · go_wp2
    go_ret
    exact ⟨rfl, Below.refl _ _⟩
  by_cases hpb : (1048576 : Int) < (p.size : Int)
  · go_wp2
    go_ret
    exact ⟨rfl, Below.refl _ _⟩
  go_wp2_with fail
  refine (keepBytes_any a0 a1 a2 len0 cap0 len1 cap1 len2 cap2 mem hl0 w' I0.out).mono ?_
  rintro e w' ⟨⟨z, rfl⟩, rfl⟩
  by_cases hz : (1048576 : Int) < wrap64 (z + (p.size : Int))
  · go_wp2
    go_ret
    exact ⟨rfl, Below.refl _ _⟩
  by_cases h4 : (4096 : Int) < (len0 : Int)
  · go_wp2
    go_ret
    exact ⟨rfl, Below.refl _ _⟩
  by_cases h5 : (4096 : Int) < (len1 : Int)
  · go_wp2
    go_ret
    exact ⟨rfl, Below.refl _ _⟩
  by_cases h6 : (4096 : Int) < (len2 : Int)
  · go_wp2
    go_ret
    exact ⟨rfl, Below.refl _ _⟩
  go_wp2_with fail
  refine (keepRows_any a0 a1 len0 cap0 len1 cap1 rs hw (by omega) hl1 w' I1.out).mono ?_
  rintro e w' ⟨rfl, rfl⟩
  by_cases hrows : 65536 < stN rs len0
  · go_wp2
    go_ret
    exact ⟨rfl, Below.refl _ _⟩
  have hrows' : ¬ (65536 : Int) < (stN rs len0 : Int) := by omega
  have hm0 : len0 ≤ 4096 := by omega
  have hm1 : len1 ≤ 4096 := by omega
  have hm2 : len2 ≤ 4096 := by omega
  clear hpb hz h4 h5 h6
  obtain ⟨wa, hwa⟩ : ∃ wa, wa = w' := ⟨_, rfl⟩
  subst hwa
  go_wp2_with fail
  go_loopw [9] (fun i wr => ∃ k : Nat, k ≤ len0 ∧ i = .int .i64 k ∧ wr = wa ∧ ∀ j, j < k → mem.getD j ByteArray.empty ≠ p) (fun i _ => len0 - (intOf i).toNat)
  case atStart => exact ⟨0, Nat.zero_le _, rfl, rfl, fun j hj => by omega⟩
  case round =>
    obtain ⟨k, hk, rfl, rfl, hne⟩ := hrel
    have HNE := hid hne
    clear hne
    by_cases hlt : k < len0
    · obtain ⟨b, off, rfl, hb, hc⟩ := I0.out.2 (by omega)
      obtain ⟨s, hs⟩ : ∃ s, s = mem.getD k ByteArray.empty := ⟨_, rfl⟩
      have cs : wr.cell? ⟨b, off + k, none⟩ = some (.string s) := by
        rw [hc k hlt, hs]
        simp [List.getElem?_eq_getElem (show k < mem.length by rw [HL.out]; exact hlt)]
      have HS := hid hs
      clear hs hc
      have i1 : (k : Int) < (len0 : Int) := by omega
      have hbe := bytes_eq s p
      by_cases e : s = p
      · have hbt : (s.toList == p.toList) = true := by rw [hbe]; simpa using e
        clear hbe e
        go_wp2_with fail
        go_ret
        exact ⟨rfl, Below.refl _ _⟩
      · have hbt : (s.toList == p.toList) = false := by rw [hbe]; simpa using e
        have HE := hid e
        clear hbe e
        go_wp2_with fail
        go_roundw
        case rel => exact ⟨k + 1, by omega, by go_num, trivial, fun j hj => by
            by_cases hjk : j = k
            · subst hjk; rw [← HS.out]; exact HE.out
            · exact HNE.out j (by omega)⟩
        case measure => simp [intOf]; omega
    · have hkl : len0 = k := by omega
      subst hkl
      obtain ⟨wa, hwa⟩ : ∃ wa, wa = wr := ⟨_, rfl⟩
      subst hwa
      go_wp2_with fail
      refine (clone21_any _ _ _ mem (by omega) n0 _ I0.out).mono ?_
      rintro e w1 ⟨a0', cap0', rfl, j0, hbel1⟩
      go_wp2_with fail
      refine (clone22_any _ _ _ rs (by omega) n1 _ (I1.out.below hbel1)).mono ?_
      rintro e w2 ⟨a1', cap1', rfl, j1, hbel2⟩
      have j0' := j0.below hbel2
      have hb12 : Below wa.heap.size wa w2 := hbel1.trans (hbel2.mono hbel1.size)
      go_wp2_with fail
      refine (clone23_any _ _ _ ns (by omega) n2 _ (I2.out.below hb12)).mono ?_
      rintro e w3 ⟨a2', cap2', rfl, j2, hbel3⟩
      have j0'' := j0'.below hbel3
      have j1' := j1.below hbel3
      have hb13 : Below wa.heap.size wa w3 := hb12.trans (hbel3.mono hb12.size)
      have HB13 := hid hb13
      have J0 := hid j0''
      clear j0 j0' hbel1 hbel2 hbel3 hb12 hb13 j1
      have hsc := keepScript_any false mem rs ns a0' a1' a2' cap0' len1 cap1' len2 cap2' w3 (by rw [HL.out]; exact hm0) hl1 hl2 (by rw [HL.out]; omega) hsz hw (by rw [HL.out]; exact j0'') j1' j2
      rw [HL.out] at hsc
      clear j0'' j1' j2
      have HSC := hid hsc
      clear hsc
      go_wp2_with fail
      refine HSC.out.mono ?_
      rintro e w4 ⟨Wb, M, Sb, S, vs, rfl, K, hst, hbel4⟩
      have HK := hid K
      have HB4 := hid hbel4
      have J4 := hid (J0.out.below hbel4)
      clear K hst hbel4 J0
      obtain ⟨nms, hnms⟩ : ∃ nms, nms = nm mem len0 := ⟨_, rfl⟩
      have HNm := hid hnms
      clear hnms
      go_wp2_with fail
      go_loopw [12, 13] (fun d i wr => ∃ k n : Nat, k ≤ len0 ∧ i = .int .i64 k ∧ d = .int .i64 ((nm mem k).length : Nat) ∧ wr = w4.drewN n) (fun _ i _ => len0 - (intOf i).toNat)
      case atStart => exact ⟨0, 0, Nat.zero_le _, rfl, rfl, rfl⟩
      case round =>
        obtain ⟨k, n, hk, rfl, rfl, rfl⟩ := hrel
        obtain ⟨dk, hdk⟩ : ∃ dk, dk = (nm mem k).length := ⟨_, rfl⟩
        have hdk4 : dk ≤ 4096 := by have := nm_le mem k; omega
        rw [← hdk]
        have HDk := hid hdk
        clear hdk
        by_cases hlt : k < len0
        · obtain ⟨b, off, rfl, hb, hc⟩ := J4.out.2 (by omega)
          have hc' : ∀ j, j < len0 → w4.cell? ⟨b, off + j, none⟩ = some (.string (mem.getD j ByteArray.empty)) := fun j hj => by
            rw [hc j hj]
            simp [List.getElem?_eq_getElem (show j < mem.length by rw [HL.out]; exact hj)]
          have HC := hid hc'
          clear hc hc'
          go_wp2_with fail
          refine (seenBefore_any b off len0 cap0' mem k hlt hm0 HL.out (w4.drewN n) hb (fun j hj => HC.out j hj)).mono ?_
          rintro e w5 ⟨rfl, n2, rfl⟩
          cases hsee : seenB mem k
          · have hnot : mem.getD k ByteArray.empty ∉ nm mem k := fun h => by
              have := (seenB_nm mem k (by rw [HL.out]; exact hlt)).2 h
              rw [hsee] at this
              cases this
            obtain ⟨s, hs⟩ : ∃ s, s = mem.getD k ByteArray.empty := ⟨_, rfl⟩
            have hpl : nms[dk]? = some s := by rw [HNm.out, HDk.out, hs]; exact nm_place hlt hnot
            have hss : s.size ≤ maxLen := hsz s (by rw [hs]; simp [List.getElem?_eq_getElem (show k < mem.length by rw [HL.out]; exact hlt)])
            have cs : w4.cell? ⟨b, off + k, none⟩ = some (.string s) := by rw [hs]; exact HC.out k hlt
            have HNot := hid hnot
            have HPl := hid hpl
            have HS := hid hs
            have HSee := hid hsee
            clear hnot hpl hs hsee
            have i1 : (k : Int) < (len0 : Int) := by omega
            have hb' : b < w4.heap.size := hb
            have hKn : ∀ m, KI (w4.drewN m) w3.heap.size Wb M S vs false nms (spn mem (stN rs) len0) := fun m => by
              have h := HK.out.ext ((Ext.refl w4).drewN m)
              rw [← HNm.out] at h
              exact h
            have HKn := hid hKn
            clear hKn
            have hnd : nms.Nodup := by rw [HNm.out]; exact nm_nodup _ _
            have e22 : (w4.drewN n).drewN n2 = w4.drewN (n + n2) := by simp
            rw [e22]
            clear e22
            go_wp2_with fail
            refine (place_yes (HKn.out _) hnd hss HPl.out).mono ?_
            rintro e w6 ⟨rfl, rfl⟩
            go_wp2_with fail
            have hsp0 : spn mem (stN rs) k s = [] := by rw [HS.out]; exact spn_new HNot.out
            have HSp0 := hid hsp0
            clear hsp0
            go_loopw [16, 17] (fun r i wr => ∃ j m : Nat, k ≤ j ∧ j ≤ len0 ∧ i = .int .i64 j ∧ r = .int .i64 ((spn mem (stN rs) j s).length : Nat) ∧ wr = w4.drewN m) (fun _ i _ => len0 - (intOf i).toNat)
            case atStart => exact ⟨k, n + n2, Nat.le_refl _, hk, rfl, by rw [HSp0.out]; rfl, rfl⟩
            case round =>
              obtain ⟨j, m, hkj, hj, rfl, rfl, rfl⟩ := hrel
              obtain ⟨rj, hrj⟩ : ∃ rj, rj = (spn mem (stN rs) j s).length := ⟨_, rfl⟩
              have hrj4 : rj ≤ 4096 := by have := spn_le mem (stN rs) s j; omega
              rw [← hrj]
              have HRj := hid hrj
              clear hrj
              by_cases hlt2 : j < len0
              · obtain ⟨t, ht⟩ : ∃ t, t = mem.getD j ByteArray.empty := ⟨_, rfl⟩
                have ct : w4.cell? ⟨b, off + j, none⟩ = some (.string t) := by rw [ht]; exact HC.out j hlt2
                have HTt := hid ht
                clear ht
                have i2 : (j : Int) < (len0 : Int) := by omega
                have hbe := bytes_eq t s
                by_cases e : t = s
                · have hbt : (t.toList == s.toList) = true := by rw [hbe]; simpa using e
                  have HE := hid e
                  clear hbe e
                  go_wp2_with fail
                  go_quiet (fail)
                  go_wp2_with fail
                  go_roundw
                  case rel => exact ⟨j + 1, m + nq, by omega, by omega, by go_num, by rw [spn_yes (show s = mem.getD j ByteArray.empty by rw [← HTt.out, HE.out]), List.length_append, HRj.out]; simp, by simp⟩
                  case measure => simp [intOf]; omega
                · have hbt : (t.toList == s.toList) = false := by rw [hbe]; simpa using e
                  have HE := hid e
                  clear hbe e
                  go_wp2_with fail
                  go_quiet (fail)
                  go_wp2_with fail
                  go_roundw
                  case rel => exact ⟨j + 1, m + nq, by omega, by omega, by go_num, by rw [spn_not (show s ≠ mem.getD j ByteArray.empty by rw [← HTt.out]; exact fun e => HE.out e.symm), HRj.out], by simp⟩
                  case measure => simp [intOf]; omega
              · have hjl : len0 = j := by omega
                subst hjl
                have hcnt := spanCount_any (HKn.out m) HPl.out
                rw [← HRj.out] at hcnt
                have HCnt := hid hcnt
                clear hcnt
                go_wp2_with fail
                refine HCnt.out.mono ?_
                rintro e w6 ⟨rfl, rfl⟩
                go_wp2_with fail
                go_roundw
                case rel => exact ⟨k + 1, m, by omega, by go_num, by rw [nm_new HNot.out, List.length_append, HDk.out]; simp, rfl⟩
                case measure => simp [intOf]; omega
          · have hin : mem.getD k ByteArray.empty ∈ nm mem k := (seenB_nm mem k (by rw [HL.out]; exact hlt)).1 hsee
            have HIn := hid hin
            clear hin hsee
            go_wp2_with fail
            go_roundw
            case rel => exact ⟨k + 1, n + n2, by omega, by go_num, by rw [nm_old HIn.out, HDk.out], by simp⟩
            case measure => simp [intOf]; omega
        · have hkl : len0 = k := by omega
          subst hkl
          have hKn : KI (w4.drewN n) w3.heap.size Wb M S vs false nms (spn mem (stN rs) len0) := by
            have h := HK.out.ext ((Ext.refl w4).drewN n)
            rw [← HNm.out] at h
            exact h
          have hmc := memberCount_any hKn
          rw [HNm.out, ← HDk.out] at hmc
          have hno : p ∉ nms := by
            rw [HNm.out, nm_mem]
            rintro ⟨j, hj, e⟩
            exact HNE.out j hj e
          have hpn := place_no hKn hp hno
          have HMc := hid hmc
          have HPn := hid hpn
          clear hKn hmc hno hpn
          go_wp2_with fail
          refine HMc.out.mono ?_
          rintro e w6 ⟨rfl, rfl⟩
          go_wp2_with fail
          refine HPn.out.mono ?_
          rintro e w7 ⟨rfl, rfl⟩
          go_wp2_with fail
          go_ret
          have h4 : Below w3.heap.size w3 (w4.drewN n) := below_drewN' HB4.out n
          exact ⟨rfl, HB13.out.trans (h4.mono HB13.out.size)⟩

end Go.Proofs.Qxb6000622a
