/-
  (*Work).keep (43).
-/
import Derived.Test.Qxb6000622aKSteps
import Derived.Test.Qxb6000622aKModel
import Derived.Test.Qxb6000622aKPart
import Derived.Test.Qxb6000622aClone
import Derived.Deep.QuietTactic
import Derived.BigQuiet
import Derived.Deep.RegionHeld3
import Derived.Deep.DrawnRows
import Derived.BigRegion
import Derived.Deep.RegionLaw
import Derived.Deep.DeepCutAuto
namespace Go.Proofs.Qxb6000622a
open Go.RowKit Go.Maps Go.WideMaps
set_option linter.unusedVariables false
attribute [local go_sem ↓] Go.wp_at_zero Go.wp_at_succ

theorem Try.info71 : (Try.prog.info? 71).map (fun i => (i.zero, i.size, i.bytes)) = some (some (.slice none 0 0), 1, 24) := by kernel_rfl
theorem Try.info75 : (Try.prog.info? 75).map (fun i => (i.zero, i.size, i.bytes)) = some (some (.agg #[.slice none 0 0, .slice none 0 0]), 2, 48) := by kernel_rfl

theorem rows_part {w : World} {ratesV : Value} {mem : List ByteArray} {stt : Nat → Nat} {a L Pb RB UB : Nat} (h : PartAt w ratesV mem stt a L Pb RB UB) (lo hi f : Nat) (h1 : lo = stt a + f) (h2 : lo ≤ hi) (h3 : hi ≤ stt (a + L)) :
    RowsVal w (.slice (some ⟨RB, f * 3, none⟩) (hi - lo) (hi - lo)) lo hi := by
  obtain ⟨cur, hb, hc⟩ := h.rblk
  refine ⟨RB, f * 3, hi - lo, cur, rfl, hb, fun t q ht hq => ?_⟩
  have := hc (f + t) q (by omega) hq
  rw [show f * 3 + t * 3 + q = (f + t) * 3 + q from by omega, this, show stt a + (f + t) = lo + t from by omega]

theorem rows_part0 {w : World} {ratesV : Value} {mem : List ByteArray} {stt : Nat → Nat} {a L Pb RB UB : Nat} (h : PartAt w ratesV mem stt a L Pb RB UB) (lo hi : Nat) (h1 : hi - lo = 0) :
    RowsVal w (.slice (some ⟨RB, 0, none⟩) 0 0) lo hi := by
  obtain ⟨cur, hb, hc⟩ := h.rblk
  exact ⟨RB, 0, 0, cur, by rw [h1], hb, fun t q ht hq => by omega⟩

theorem Ext.setNew {a w : World} (h : Ext a w) {b : Nat} (hb : a.heap.size ≤ b) (i : Nat) (u : Value) : Ext a (w.setCell ⟨b, i, none⟩ u) := fun x o hx => by
  rw [heap_setCell_other _ _ _ _ (show x ≠ b by have := heap_lt hx; omega)]
  exact h x o hx

theorem keep_blk {w wa w1 : World} {row : Option Nat} (hx : Ext w wa) (hgrow : wa.grownBy w1 row) {b : Nat} {o : Obj} (hb : w.heap[b]? = some o) (hne : row ≠ some b) : w1.heap[b]? = some o := by
  have h := hx _ _ hb
  rw [hgrow.block b (heap_lt h) (fun e => hne e.symm)]
  exact h

/-- The r of a round. -/
def rcs (s : ByteArray) (e : Nat) : Array Value := #[.string s, .int .i64 0, .bool false, .int .i64 (e : Int)]

set_option maxRecDepth 100000 in
set_option maxHeartbeats 8000000 in
theorem keep_any (hr : Bool) (ratesV : Value) (mem : List ByteArray) (stt : Nat → Nat) (a L Pb RB UB B Wb M : Nat) (S0 : Value) (vs0 : List Value) (w : World)
    (hmono : ∀ i j, i ≤ j → stt i ≤ stt j) (hbig : stt (a + L) ≤ 65536) (hL : a + L ≤ 4096) (hsz : ∀ s ∈ mem, s.size ≤ maxLen) (hml : a + L ≤ mem.length)
    (K : KI w B Wb M S0 vs0 hr (nm mem a) (spn mem stt a)) (hP : PartAt w ratesV mem stt a L Pb RB UB) (hT : RatesAt w hr ratesV (stt a) (stt (a + L) - stt a)) :
    Calls Try.prog 43 #[.pointer (some ⟨Wb, 0, none⟩), .pointer (some ⟨Pb, 0, none⟩)] w fun e w' => e = .returned (.tuple #[]) ∧ (∃ S vs, KI w' B Wb M S vs hr (nm mem (a + L)) (spn mem stt (a + L))) ∧ Fr w w' ∧ Below B w w' := by
  obtain ⟨i71, hi71, hz0, hz1, hz2⟩ := info_parts Try.info71
  obtain ⟨i75, hi75, hy0, hy1, hy2⟩ := info_parts Try.info75
  obtain ⟨n, hn⟩ : ∃ n, n = stt (a + L) - stt a := ⟨_, rfl⟩
  have p1 : w.cell? ⟨Pb, 3, none⟩ = some (.slice (some ⟨UB, 0, none⟩) L L) := by rw [cell_of_blk hP.pblk]; rfl
  have HP := hid hP
  have HK := hid K
  have HT := hid hT
  clear hP K hT
  go_enter Try.func43, Try.ntmps43
  go_wp2
  go_loopw [4, 15] (fun f i wr => ∃ k : Nat, k ≤ L ∧ i = .int .i64 k ∧ f = .int .i64 ((stt (a + k) - stt a : Nat) : Int) ∧ (∃ S vs, KI wr B Wb M S vs hr (nm mem (a + k)) (spn mem stt (a + k))) ∧ Fr w wr ∧ Below B w wr) (fun _ i _ => L - (intOf i).toNat)
  case atStart => exact ⟨0, Nat.zero_le _, rfl, by simp, ⟨_, _, HK.out⟩, Fr.refl _, Below.refl _ _⟩
  case round =>
    clear p1
    obtain ⟨k, hk, rfl, rfl, ⟨S, vs, K⟩, fr, bel⟩ := hrel
    have hP := HP.out.fr fr
    have hT := HT.out.fr fr
    by_cases hlt : k < L
    · -- what the round reads
      obtain ⟨s, hs⟩ : ∃ s, s = mem.getD (a + k) ByteArray.empty := ⟨_, rfl⟩
      obtain ⟨f, hf⟩ : ∃ f, f = stt (a + k) - stt a := ⟨_, rfl⟩
      obtain ⟨e, he⟩ : ∃ e, e = stt (a + (k + 1)) - stt a := ⟨_, rfl⟩
      have m1 := hmono a (a + k) (by omega)
      have m2 := hmono (a + k) (a + (k + 1)) (by omega)
      have m3 := hmono (a + (k + 1)) (a + L) (by omega)
      have hfe : f ≤ e := by omega
      have hen : e ≤ n := by omega
      have hnb : n ≤ 65536 := by omega
      rw [← hf]
      obtain ⟨curU, hU, hUc⟩ := hP.ublk
      obtain ⟨u0, u1, u2, u3⟩ := hUc k hlt
      rw [← cell_of_blk hU, ← hs] at u0
      rw [← cell_of_blk hU] at u1 u2 u3
      rw [← he] at u3
      have hUl := heap_lt hU
      have w2 : wr.cell? ⟨Wb, 2, none⟩ = some (.map (some M)) := by rw [cell_of_blk K.wblk]; rfl
      have hWl := heap_lt K.wblk
      have hWB : B ≤ wr.heap.size := by have := K.bW; omega
      have hss : s.size ≤ maxLen := hsz s (by rw [hs]; simp [List.getElem?_eq_getElem (show a + k < mem.length from by omega)])
      obtain ⟨names, hnm⟩ : ∃ names, names = nm mem (a + k) := ⟨_, rfl⟩
      rw [← hnm] at K
      have hnd : names.Nodup := by rw [hnm]; exact nm_nodup _ _
      obtain ⟨rB, hrB⟩ : ∃ rB, rB = wr.heap.size := ⟨_, rfl⟩
      have HP' := hid hP
      have HT' := hid hT
      have HK' := hid K
      have hs1 := hid hs
      have hf1 := hid hf
      have he1 := hid he
      have hn1 := hid hn
      have hnm1 := hid hnm
      have hrB1 := hid hrB
      have Hfr := hid fr
      have Hbel := hid bel
      clear hP K hU hUc hs hf he hn hT hnm hrB fr bel
      go_wp2
      -- m, ok := w.byMember[run.member]
      go_cut [7, 8] (fun m ok wc => ∃ (i : Nat) (bb : Bool), m = .int .i64 i ∧ ok = .bool bb ∧ (bb = true → names[i]? = some s) ∧ (bb = false → s ∉ names) ∧ Ext wr wc ∧ Below B wr wc ∧ wc.heap[rB]? = some (.cells (rcs s e) 83 (0, 0)))
      case first =>
        have hxx : ∀ nq, Ext wr ((wr.alloc (.cells #[.string s, .int .i64 0, .bool false, .int .i64 (e : Int)] 83)).drewN nq) := fun nq => ((Ext.refl wr).alloc _).drewN nq
        have hbb : ∀ nq, Below B wr ((wr.alloc (.cells #[.string s, .int .i64 0, .bool false, .int .i64 (e : Int)] 83)).drewN nq) := fun nq => below_drewN' ((Below.refl _ _).alloc hWB _) nq
        have hrr : ∀ nq, ((wr.alloc (.cells #[.string s, .int .i64 0, .bool false, .int .i64 (e : Int)] 83)).drewN nq).heap[rB]? = some (.cells (rcs s e) 83 (0, 0)) := fun nq => by rw [hrB1.out]; exact heap_alloc_new _ _
        have Hxx := hid hxx
        have Hbb := hid hbb
        have Hrr := hid hrr
        clear hxx hbb hrr
        by_cases hin : s ∈ names
        · obtain ⟨i, hi⟩ := List.getElem?_of_mem hin
          have hlook : ∀ nq, (Instr.lookup 67 (.map (some M)) (.string s) true).run Try.prog ((wr.alloc (.cells #[.string s, .int .i64 0, .bool false, .int .i64 (e : Int)] 83)).drewN nq) = .ok (.tuple #[.int .i64 i, .bool true]) ((wr.alloc (.cells #[.string s, .int .i64 0, .bool false, .int .i64 (e : Int)] 83)).drewN nq) := fun nq =>
            look_yes (HK'.out.ext (((Ext.refl wr).alloc _).drewN nq)).amap hnd hss hi
          have HI := hid hi
          clear hi hin
          go_quiet (fail)
          go_wp2
          go_meet
          case rel => exact ⟨i, true, rfl, rfl, fun _ => HI.out, fun h => (by cases h), Hxx.out _, Hbb.out _, Hrr.out _⟩
        · have hlook : ∀ nq, (Instr.lookup 67 (.map (some M)) (.string s) true).run Try.prog ((wr.alloc (.cells #[.string s, .int .i64 0, .bool false, .int .i64 (e : Int)] 83)).drewN nq) = .ok (.tuple #[.int .i64 0, .bool false]) ((wr.alloc (.cells #[.string s, .int .i64 0, .bool false, .int .i64 (e : Int)] 83)).drewN nq) := fun nq =>
            look_no (HK'.out.ext (((Ext.refl wr).alloc _).drewN nq)).amap hss hin
          have HI := hid hin
          clear hin
          go_quiet (fail)
          go_wp2
          go_meet
          case rel => exact ⟨0, false, rfl, rfl, fun h => (by cases h), fun _ => HI.out, Hxx.out _, Hbb.out _, Hrr.out _⟩
      case rest =>
        obtain ⟨i, bb, rfl, rfl, hyes, hno, xc, belc, hrc⟩ := hcut
        have Kc := HK'.out.ext xc
        rw [← hrB1.out]
        have HKc := hid Kc
        have Hxc := hid xc
        have Hbc := hid belc
        have Hrc := hid hrc
        have Hyes := hid hyes
        have Hno := hid hno
        have hBc : B ≤ wc.heap.size := by have := heap_lt Kc.wblk; have := Kc.bW; omega
        have hWc := heap_lt Kc.wblk
        have hrl := heap_lt hrc
        clear Kc xc belc hrc hyes hno u0 u1 u2 u3 w2 hUl hWl hWB
        go_upto_if 30 with (fail)
        obtain ⟨wx, hwx⟩ : ∃ wx, wx = wc := ⟨_, rfl⟩
        subst hwx
        -- if !ok { .. }
        go_cut [7] (fun m wd => ∃ i : Nat, m = .int .i64 i ∧ (nm mem (a + (k + 1)))[i]? = some s ∧ (∃ S vs, KI wd B Wb M S vs hr (nm mem (a + (k + 1))) (spn mem stt (a + k))) ∧ Fr wx wd ∧ Below B wx wd)
        case first =>
          cases bb
          · have hnew : nm mem (a + (k + 1)) = names ++ [s] := by
              have h := Hno.out rfl
              rw [hnm1.out, hs1.out] at h
              rw [← Nat.add_assoc, nm_new h, hnm1.out, hs1.out]
            have Hnew := hid hnew
            have HNO := hid (Hno.out rfl)
            clear Hno Hyes
            obtain ⟨ao, Sc, hS⟩ := slice_form HKc.out.arow
            have c2 : wx.cell? ⟨Wb, 2, none⟩ = some (.map (some M)) := by rw [cell_of_blk HKc.out.wblk]; rfl
            have c3 : wx.cell? ⟨Wb, 3, none⟩ = some (.slice ao names.length Sc) := by rw [cell_of_blk HKc.out.wblk, hS]; rfl
            have r0 : wx.cell? ⟨rB, 0, none⟩ = some (.string s) := by rw [cell_of_blk Hrc.out]; rfl
            have hnl : names.length ≤ 4096 := by rw [hnm1.out]; have := nm_le mem (a + k); omega
            have HS := hid hS
            have Kdr : KI wx.drew B Wb M S vs hr names (spn mem stt (a + k)) := HKc.out.ext (Ext.refl _).drew
            obtain ⟨w1, hrun, hmap, hg1⟩ := (show wx.drew.ownsMap Try.prog 9 (plainElem (H := Unit) Try.prog 3) M names.length (pmap names) from HKc.out.amap).update (val := .int .i64 (names.length : Int)) law9 Try.underlying67 (by unfold maxLen; omega) (keyOf_string_mk Try.underlying9 hss) (plainElem_int Try.underlying3 (WalkArith.wf_i64 (by omega)))
            have Hmap := hid hmap
            have Hg1 := hid hg1
            have d3 : w1.cell? ⟨Wb, 3, none⟩ = some (.slice ao names.length Sc) := by rw [cell_of_blk (Kdr.wblk1 hg1), hS]; rfl
            have hW1 := heap_lt (Kdr.wblk1 hg1)
            have hownS : (w1.alloc (.cells #[.slice none 0 0] 71)).ownsRow B 71 1 (.slice ao names.length Sc) names.length vs := by rw [← hS]; exact Kdr.arow1 hg1 ((Ext.refl _).alloc _)
            have hB1 : B ≤ w1.heap.size := by have := hg1.size; exact Nat.le_trans hBc this
            have HKdr := hid Kdr
            have HoS := hid hownS
            clear hS hnew hmap hg1 Kdr hownS
            go_wp2
            go_region
            go_wp2_with (at_builtin; refine wpList_append_lies _ rfl _ _ 68 rfl B 71 i71 (.slice none 0 0) 1 24 Try.underlying68 hi71 hz0 hz1 hz2 rfl (by decide) _ names.length vs rfl HoS.out ⟨w1.heap.size, 0, none⟩ 1 1 [.slice none 0 0] rfl rfl (cell_one_new _ _ _) (fun u hu => by simp at hu; subst hu; rfl) (by decide) (by unfold maxLen; omega) (by omega) (by simp; omega) _ rfl ?_; intro g cap w2 hown2 hgrow2 hat2 hlt2; rw [← HS.out] at hgrow2; have e3 := cell_of_blk (HKdr.out.wblk2 Hg1.out ((Ext.refl _).alloc _) hgrow2) 3; have e4 := free_of_blk (HKdr.out.wblk2 Hg1.out ((Ext.refl _).alloc _) hgrow2) 3; have e5 := heap_lt (HKdr.out.wblk2 Hg1.out ((Ext.refl _).alloc _) hgrow2))
            go_meet
            case rel =>
              have hsn : spn mem stt (a + k) s = [] := by
                have h := HNO.out
                rw [hnm1.out, hs1.out] at h
                rw [hs1.out]
                exact spn_new h
              have hmap' : w1.ownsMap Try.prog 9 (plainElem (H := Unit) Try.prog 3) M (names.length + 1) (pmap (names ++ [s])) := by rw [pmap_snoc]; exact Hmap.out
              obtain ⟨Kn, frn, beln⟩ := HKdr.out.newMember hsn hmap' Hg1.out ((Ext.refl _).alloc _) hown2 hgrow2 ⟨rfl, rfl, rfl, by simp⟩
              exact ⟨names.length, rfl, by rw [Hnew.out]; simp, ⟨_, _, by rw [Hnew.out]; exact Kn⟩, (Ext.refl wx).drew.fr.trans frn, (Below.refl B wx).drew.trans beln⟩
          · have hold : nm mem (a + (k + 1)) = names := by
              have h := List.mem_of_getElem? (Hyes.out rfl)
              rw [hnm1.out, hs1.out] at h
              rw [← Nat.add_assoc, nm_old h, hnm1.out]
            have Hold := hid hold
            have HY := hid (Hyes.out rfl)
            clear hold Hyes Hno
            go_wp2
            go_meet
            case rel => exact ⟨i, rfl, by rw [Hold.out]; exact HY.out, ⟨S, vs, by rw [Hold.out]; exact HKc.out⟩, Fr.refl _, Below.refl _ _⟩
        case rest =>
          obtain ⟨i', rfl, hi', ⟨S', vs', Kd⟩, frd, beld⟩ := hcut
          obtain ⟨wd, hwd⟩ : ∃ wd, wd = wc := ⟨_, rfl⟩
          subst hwd
          have hrd : wd.heap[rB]? = some (.cells (rcs s e) 83 (0, 0)) := frd _ _ _ _ Hrc.out (by decide) (by decide) (by decide)
          have hPd := HP'.out.fr (Hxc.out.fr.trans frd)
          have hTd := HT'.out.fr (Hxc.out.fr.trans frd)
          have hBd : B ≤ wd.heap.size := by have := heap_lt Kd.wblk; have := Kd.bW; omega
          have r3 : wd.cell? ⟨rB, 3, none⟩ = some (.int .i64 (e : Int)) := by rw [cell_of_blk hrd]; rfl
          have q1 : wd.cell? ⟨Pb, 1, none⟩ = some (.slice (some ⟨RB, 0, none⟩) n n) := by rw [cell_of_blk hPd.pblk, hn1.out]; rfl
          have l1 := heap_lt hrd
          have l2 := heap_lt hPd.pblk
          have i1 : (0 : Int) ≤ (f : Int) := by omega
          have i2 : (f : Int) ≤ (e : Int) := by omega
          have i3 : (e : Int) ≤ (n : Int) := by omega
          have HKd := hid Kd
          have Hfd := hid frd
          have Hbd := hid beld
          have Hrd := hid hrd
          have HPd := hid hPd
          have HTd := hid hTd
          have Hi' := hid hi'
          clear Kd frd beld hrd hPd hTd hi' hrl hWc hBc HKc Hrc HP' HT' HK'
          go_wp2
          -- s := span{rows: ..}
          go_cut [9] (fun sp we => ∃ (sB : Nat) (rv : Value), sp = .pointer (some ⟨sB, 0, none⟩) ∧ wd.heap.size ≤ sB ∧ we.heap[sB]? = some (.cells #[rv, .slice none 0 0] 75 (0, 0)) ∧ RowsVal wd rv (stt (a + k)) (stt (a + (k + 1))) ∧ Ext wd we ∧ Below B wd we)
          case first =>
            by_cases hef : e = f
            · have Hef := hid hef
              subst hef
              go_region
              go_wp2
              go_meet
              case rel =>
                refine ⟨wd.heap.size, _, rfl, Nat.le_refl _, heap_alloc_new _ _, ?_, ((Ext.refl wd).alloc _).drew, ((Below.refl _ _).alloc hBd _).drew⟩
                exact (rows_part0 HPd.out _ _ (by have := he1.out; have := hf1.out; omega))
            · have hef' : ¬ (e : Int) = (f : Int) := by omega
              go_region
              go_wp2
              go_meet
              case rel =>
                refine ⟨wd.heap.size, .slice (some ⟨RB, f * 3, none⟩) (e - f) (e - f), rfl, Nat.le_refl _, heap_alloc_new _ _, ?_, ((Ext.refl wd).alloc _).drew, ((Below.refl _ _).alloc hBd _).drew⟩
                have hx1 := hf1.out
                have hx2 := he1.out
                have hrp := rows_part HPd.out (stt (a + k)) (stt (a + (k + 1))) f (by omega) m2 m3
                rw [show stt (a + (k + 1)) - stt (a + k) = e - f from by omega] at hrp
                exact hrp
          case rest =>
            obtain ⟨sB, rv, rfl, hsB, hsb, hrv, xe, bele⟩ := hcut
            obtain ⟨we, hwe⟩ : ∃ we, we = wc := ⟨_, rfl⟩
            subst hwe
            obtain ⟨ta, tn, tc, hRV, hnone⟩ : ∃ ta tn tc, ratesV = .slice ta tn tc ∧ ta.isNone = !hr := by
              rcases HTd.out with ⟨h1, h2⟩ | ⟨h1, TB, cur, h2, _⟩
              · exact ⟨none, 0, 0, h2, by rw [h1]; rfl⟩
              · exact ⟨_, _, _, h2, by rw [h1]; rfl⟩
            have hnilr := fun (w : World) => run_neq_slice_nil_any (P := Try.prog) w 73 32 ta tn tc 0 0 Try.underlying73
            rw [hnone] at hnilr
            have q2 : we.cell? ⟨Pb, 2, none⟩ = some (.slice ta tn tc) := by rw [cell_of_blk (HPd.out.fr xe.fr).pblk, hRV]; rfl
            have l2e : Pb < we.heap.size := heap_lt (HPd.out.fr xe.fr).pblk
            have Hsb := hid hsb
            have Hrv := hid hrv
            have Hxe := hid xe
            have Hbe := hid bele
            have HRV := hid hRV
            have Hnone := hid hnone
            clear hsb hrv xe bele hRV hnone r3 q1 l1 l2
            go_upto_if 67 with (fail)
            -- if p.rates != nil { .. }
            go_cut [] (fun wf => ∃ tv : Value, wf.heap[sB]? = some (.cells #[rv, tv] 75 (0, 0)) ∧ RatesVal wf hr tv (stt (a + k)) (stt (a + (k + 1))) ∧ Ext wd wf ∧ Below B wd wf)
            case first =>
              cases hr
              · clear hnilr q2
                go_wp2
                go_meet
                case rel => exact ⟨_, Hsb.out, .inl ⟨rfl, rfl⟩, Hxe.out, Hbe.out⟩
              · rcases HTd.out with ⟨h1, _⟩ | ⟨_, TB, curT, hRV2, hTB, hTc⟩
                · cases h1
                obtain ⟨rfl, rfl, rfl⟩ : ta = some ⟨TB, 0, none⟩ ∧ tn = n ∧ tc = n := by
                  have h := HRV.out
                  rw [hRV2, ← hn1.out] at h
                  simpa [eq_comm] using h
                have r3 : we.cell? ⟨rB, 3, none⟩ = some (.int .i64 (e : Int)) := by rw [cell_of_blk (Hxe.out _ _ Hrd.out)]; rfl
                have l1 := heap_lt (Hxe.out _ _ Hrd.out)
                have s1 : we.cell? ⟨sB, 1, none⟩ = some (.slice none 0 0) := by rw [cell_of_blk Hsb.out]; rfl
                have s2 := free_of_blk Hsb.out 1
                have l3 := heap_lt Hsb.out
                have HTB := hid hTB
                have HTc := hid hTc
                have hBs : B ≤ sB := Nat.le_trans hBd hsB
                clear hRV2 hTB hTc HRV Hnone
                by_cases hef : e = f
                · subst hef
                  have HR0 : Hid (RatesVal wd true (.slice (some ⟨TB, 0, none⟩) 0 0) (stt (a + k)) (stt (a + (k + 1)))) := .inr ⟨rfl, TB, 0, 0, curT, by rw [show stt (a + (k + 1)) - stt (a + k) = 0 from by have := he1.out; have := hf1.out; omega], HTB.out, fun t ht => by have := he1.out; have := hf1.out; omega⟩
                  go_wp2
                  go_region
                  go_wp2
                  go_meet
                  case rel => exact ⟨_, heap_setCell_same we sB 1 _ 75 _ Hsb.out, HR0.out.fr (Hxe.out.setNew hsB 1 _).drew.fr, (Hxe.out.setNew hsB 1 _).drew, (Hbe.out.setCell hBs _).drew⟩
                · have hef' : ¬ (e : Int) = (f : Int) := by omega
                  have HR0 : Hid (RatesVal wd true (.slice (some ⟨TB, f, none⟩) (e - f) (e - f)) (stt (a + k)) (stt (a + (k + 1)))) := by
                    have hx1 := hf1.out
                    have hx2 := he1.out
                    have hx3 := hn1.out
                    refine .inr ⟨rfl, TB, f, e - f, curT, by rw [show stt (a + (k + 1)) - stt (a + k) = e - f from by omega], HTB.out, fun t ht => ?_⟩
                    rw [HTc.out (f + t) (by omega), show stt a + (f + t) = stt (a + k) + t from by omega]
                  go_wp2
                  go_region
                  go_wp2
                  go_meet
                  case rel => exact ⟨_, heap_setCell_same we sB 1 _ 75 _ Hsb.out, HR0.out.fr (Hxe.out.setNew hsB 1 _).drew.fr, (Hxe.out.setNew hsB 1 _).drew, (Hbe.out.setCell hBs _).drew⟩
            case rest =>
              obtain ⟨tv, hsf, htv, xf, belf⟩ := hcut
              obtain ⟨wf, hwf⟩ : ∃ wf, wf = wc := ⟨_, rfl⟩
              subst hwf
              obtain ⟨names', hnm'⟩ : ∃ names', names' = nm mem (a + (k + 1)) := ⟨_, rfl⟩
              have Kf := HKd.out.ext xf
              rw [← hnm'] at Kf
              have hi2 : names'[i']? = some s := by rw [hnm']; exact Hi'.out
              have hnd' : names'.Nodup := by rw [hnm']; exact nm_nodup _ _
              have hil : i' < names'.length := (List.getElem?_eq_some_iff.1 hi2).1
              have hvl : vs'.length = names'.length := by have := Kf.arow.1; omega
              obtain ⟨v, hv⟩ : ∃ v, vs'[i']? = some v := ⟨_, List.getElem?_eq_getElem (by omega)⟩
              obtain ⟨cs, hcs, hspa⟩ := Kf.each i' v s hv hi2
              obtain ⟨Sg, Sc, hS', hSB, hSl⟩ := Kf.arow.form (by omega)
              obtain ⟨av, cv, hvf⟩ := slice_form hcs
              obtain ⟨nv, hnv⟩ : ∃ nv, nv = (spn mem stt (a + k) s).length := ⟨_, rfl⟩
              have hnvl : nv ≤ 4096 := by rw [hnv]; have := spn_le mem stt s (a + k); omega
              have hnl' : names'.length ≤ 4096 := by rw [hnm']; have := nm_le mem (a + (k + 1)); omega
              rw [← hnv] at hcs hvf
              obtain ⟨rb, ro, rc, curR, hrvf, hrvb, hrvc⟩ := Hrv.out
              obtain ⟨tva, tvn, tvc, htvf⟩ : ∃ tva tvn tvc, tv = .slice tva tvn tvc := by
                rcases htv with ⟨_, h⟩ | ⟨_, b', o', c', cur', h, _⟩
                · exact ⟨_, _, _, h⟩
                · exact ⟨_, _, _, h⟩
              have g1 : wf.cell? ⟨Wb, 3, none⟩ = some (.slice (some ⟨Sg, 0, none⟩) names'.length Sc) := by rw [cell_of_blk Kf.wblk, hS']; rfl
              have g2 : wf.cell? ⟨Sg, i', none⟩ = some (.slice av nv cv) := by
                have h := Kf.arow
                rw [hS'] at h
                rw [h.cellAt i' (by omega), hv, hvf]
              have g3 : wf.cell? ⟨sB, 0, none⟩ = some (.slice (some ⟨rb, ro, none⟩) (stt (a + (k + 1)) - stt (a + k)) rc) := by rw [cell_of_blk hsf, hrvf]; rfl
              have g4 : wf.cell? ⟨sB, 1, none⟩ = some (.slice tva tvn tvc) := by rw [cell_of_blk hsf, htvf]; rfl
              have l1 := heap_lt Kf.wblk
              have l2 := heap_lt hsf
              have j1 : (i' : Int) < (names'.length : Int) := by omega
              obtain ⟨rn, hrn⟩ : ∃ rn, rn = stt (a + (k + 1)) - stt (a + k) := ⟨_, rfl⟩
              rw [← hrn] at g3 hrvf
              have Hrn := hid hrn
              clear hrn
              have HKf := hid Kf
              have Hhv := hid hv
              have Hhi := hid hi2
              have Hcs := hid hcs
              have Hspa := hid hspa
              have HS' := hid hS'
              have Hvf := hid hvf
              have Hnv := hid hnv
              have Hrvf := hid hrvf
              have Htvf := hid htvf
              have Hsf := hid hsf
              have Htv := hid htv
              have Hxf := hid xf
              have Hbf := hid belf
              have Hnm' := hid hnm'
              -- what the append is told
              have HWf := hid Kf.wblk
              obtain ⟨curS, hSf⟩ := ownsRow_type Kf.arow (g := Sg) (by rw [hS']; rfl)
              have HSf := hid hSf
              have HneW : Hid ((Value.slice av nv cv).ownBlock ≠ some Wb) := fun e' => by
                rw [← hvf] at e'
                obtain ⟨c', h'⟩ := ownsRow_type hcs e'
                rw [Kf.wblk] at h'
                simp at h'
              have HneS : Hid ((Value.slice av nv cv).ownBlock ≠ some Sg) := fun e' => by
                rw [← hvf] at e'
                obtain ⟨c', h'⟩ := ownsRow_type hcs e'
                rw [hSf] at h'
                simp at h'
              have HneB : Hid ((Value.slice av nv cv).ownBlock ≠ some sB) := fun e' => by
                rw [← hvf] at e'
                obtain ⟨cs2, h2, _⟩ := HKd.out.each i' v s hv (by rw [← hnm']; exact hi2)
                have := (h2.lt sB e').2
                omega
              have HxV : Hid (Ext wf (wf.alloc (.cells #[.slice (some ⟨rb, ro, none⟩) rn rc, .slice tva tvn tvc] 75)).drew) := ((Ext.refl wf).alloc _).drew
              have HownV : Hid ((wf.alloc (.cells #[.slice (some ⟨rb, ro, none⟩) rn rc, .slice tva tvn tvc] 75)).drew.ownsRow B 75 2 (.slice av nv cv) nv cs) := by
                rw [← hvf]
                exact ownsRow_congr hcs (fun g o _ ho => HxV.out _ _ ho)
              have HnewV : Hid (∀ j u, [Value.slice (some ⟨rb, ro, none⟩) rn rc, Value.slice tva tvn tvc][j]? = some u → (wf.alloc (.cells #[.slice (some ⟨rb, ro, none⟩) rn rc, .slice tva tvn tvc] 75)).drew.cell? ((⟨wf.heap.size, 0, none⟩ : Addr).add j) = some u) := fun j u hj => World.news_of_block (w := (wf.alloc (.cells #[.slice (some ⟨rb, ro, none⟩) rn rc, .slice tva tvn tvc] 75)).drew) (heap_alloc_new _ _) j u (by simpa using hj)
              have HbaV : Hid (B ≤ (wf.alloc (.cells #[.slice (some ⟨rb, ro, none⟩) rn rc, .slice tva tvn tvc] 75)).drew.heap.size) := (show B ≤ (wf.alloc (.cells #[.slice (some ⟨rb, ro, none⟩) rn rc, .slice tva tvn tvc] 75)).heap.size by have := Kf.bW; simp; omega)
              have HsiV : Hid ((wf.alloc (.cells #[.slice (some ⟨rb, ro, none⟩) rn rc, .slice tva tvn tvc] 75)).drew.heap.size = wf.heap.size + 1) := (show (wf.alloc (.cells #[.slice (some ⟨rb, ro, none⟩) rn rc, .slice tva tvn tvc] 75)).heap.size = _ by simp)
              have HoneV : Hid (∀ u ∈ [Value.slice (some ⟨rb, ro, none⟩) rn rc, Value.slice tva tvn tvc], u.oneCell' = true) := fun u hu => by
                simp at hu
                rcases hu with rfl | rfl <;> rfl
              have HposV : Hid (0 < 1) := (show 0 < 1 by omega)
              have HtwoV : Hid (0 < 2) := (show 0 < 2 by omega)
              have HmaxV : Hid (nv + 1 ≤ maxLen) := (show nv + 1 ≤ maxLen by unfold maxLen; omega)
              have HbyV : Hid ((nv + 1) * 48 ≤ 140737488355328) := (show (nv + 1) * 48 ≤ 140737488355328 by omega)
              clear Kf hv hi2 hcs hspa hS' hvf hnv hrvf htvf hsf htv xf belf hnm' hrvb hrvc hnilr q2 l2e
              go_wp2
              -- w.spans[m] = append(w.spans[m], s)
              go_cut [] (fun wg => ∃ g cap, (∃ w1, w1.ownsRow B 75 2 (.slice (some ⟨g, 0, none⟩) (nv + 1) cap) (nv + 1) (cs ++ [.slice (some ⟨rb, ro, none⟩) rn rc, .slice tva tvn tvc]) ∧ (wf.alloc (.cells #[.slice (some ⟨rb, ro, none⟩) rn rc, .slice tva tvn tvc] 75)).drew.grownBy w1 (Value.slice av nv cv).ownBlock ∧ ((Value.slice av nv cv).ownBlock = some g ∨ g = wf.heap.size + 1) ∧ wg = w1.setCell ⟨Sg, i', none⟩ (.slice (some ⟨g, 0, none⟩) (nv + 1) cap)))
              case first =>
                go_region_law ((refine step_append_lies _ (by rfl) _ _ _ (by rfl) B 75 i75 (.agg #[.slice none 0 0, .slice none 0 0]) 2 48 Try.underlying71 hi75 hy0 hy1 hy2 rfl HtwoV.out (.slice av nv cv) nv cs (by rfl) HownV.out ⟨wf.heap.size, 0, none⟩ 1 1 [.slice (some ⟨rb, ro, none⟩) rn rc, .slice tva tvn tvc] (by rfl) (by rfl) HnewV.out HoneV.out HposV.out HmaxV.out HbyV.out HbaV.out (wf.heap.size + 1) HsiV.out ?_; intro g cap w1 hown1 hgrow1 hat1 hlt1; have k1 := (cell_of_blk (keep_blk HxV.out hgrow1 HWf.out HneW.out) 3).trans ((cell_of_blk HWf.out 3).symm.trans g1); have k2 := (cell_of_blk (keep_blk HxV.out hgrow1 HSf.out HneS.out) i').trans ((cell_of_blk HSf.out i').symm.trans g2); have k2f := free_of_blk (keep_blk HxV.out hgrow1 HSf.out HneS.out) i'; have k2l := heap_lt (keep_blk HxV.out hgrow1 HSf.out HneS.out); have k3 := (cell_of_blk (keep_blk HxV.out hgrow1 Hsf.out HneB.out) 0).trans ((cell_of_blk Hsf.out 0).symm.trans g3); have k4 := (cell_of_blk (keep_blk HxV.out hgrow1 Hsf.out HneB.out) 1).trans ((cell_of_blk Hsf.out 1).symm.trans g4)))
                all_goals (go_wp2; go_meet; case rel => exact ⟨_, _, _, hown1, hgrow1, hat1, rfl⟩)
              case rest =>
                obtain ⟨g, cap, w1, hown1, hgrow1, hat1, hwg⟩ := hcut
                have hcs := Hcs.out
                have hrv := Hrv.out.fr Hxf.out.fr
                have htv := Htv.out
                rw [Hrvf.out] at hrv
                rw [Htvf.out] at htv
                rw [← Hvf.out] at hgrow1 hat1
                rw [Hnv.out] at hcs hown1
                have hat2 : v.ownBlock = some g ∨ g = (wf.alloc (.cells #[.slice (some ⟨rb, ro, none⟩) rn rc, .slice tva tvn tvc] 75)).drew.heap.size := by rw [HsiV.out]; exact hat1
                obtain ⟨Kn, frn, beln⟩ := HKf.out.push hnd' Hhv.out Hhi.out hcs Hspa.out hrv htv HxV.out hown1 hgrow1 hat2 HS'.out
                have hst : (fun x => if x = s then spn mem stt (a + k) s ++ [(stt (a + k), stt (a + (k + 1)))] else spn mem stt (a + k) x) = spn mem stt (a + (k + 1)) := spn_step mem stt (a + k) s hs1.out
                rw [hst, Hnm'.out, ← Hnv.out, ← hwg] at Kn
                rw [← Hnv.out, ← hwg] at frn beln
                clear hwg
                have r3 : wc.cell? ⟨rB, 3, none⟩ = some (.int .i64 (e : Int)) := by rw [cell_of_blk (frn _ _ _ _ (Hxf.out _ _ Hrd.out) (by decide) (by decide) (by decide))]; rfl
                have l1 := heap_lt (frn _ _ _ _ (Hxf.out _ _ Hrd.out) (by decide) (by decide) (by decide))
                have FR : Hid (Fr w wc) := (((Hfr.out.trans Hxc.out.fr).trans Hfd.out).trans Hxf.out.fr).trans frn
                have hBf : B ≤ wf.heap.size := by have := heap_lt HKf.out.wblk; have := HKf.out.bW; omega
                have BEL : Hid (Below B w wc) := (((Hbel.out.trans Hbc.out).trans Hbd.out).trans Hbf.out).trans ((((Below.refl B wf).alloc hBf _).drew).trans beln)
                have KN := hid Kn
                clear Kn frn beln hcs hrv htv hown1 hgrow1 hat1 hat2
                go_wp2
                go_roundw
                case rel => exact ⟨k + 1, by omega, by go_num, by rw [he1.out], ⟨_, _, KN.out⟩, FR.out, BEL.out⟩
                case measure => simp [intOf]; omega
    · have hkL : k = L := by omega
      subst hkL
      clear hP hT
      have HK' := hid K
      clear K
      go_wp2
      go_end0
      exact ⟨rfl, ⟨S, vs, HK'.out⟩, fr, bel⟩

end Go.Proofs.Qxb6000622a
