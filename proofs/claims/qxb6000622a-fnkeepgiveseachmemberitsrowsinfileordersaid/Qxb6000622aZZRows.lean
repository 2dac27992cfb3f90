/-
  ZZRows (28).
-/
import Derived.Test.Qxb6000622aZR
import Derived.Test.Qxb6000622aKPart
import Derived.Test.Qxb6000622aKSteps
import Derived.Deep.QuietTactic
import Derived.BigQuiet
import Derived.BigRegion
import Derived.Deep.DeepCutAuto
import Derived.Deep.AppendLies
namespace Go.Proofs.Qxb6000622a
open Go.RowKit Go.Maps Go.WideMaps
set_option linter.unusedVariables false

theorem Try.inf21 : (Try.prog.info? 21).map (fun i => (i.zero, i.size, i.bytes)) = some (some (.int .i32 0), 1, 4) := by kernel_rfl
theorem Try.inf57 : (Try.prog.info? 57).map (fun i => (i.zero, i.size, i.bytes)) = some (some (.int .u32 0), 1, 4) := by kernel_rfl
theorem Try.inf2 : (Try.prog.info? 2).map (fun i => (i.zero, i.size, i.bytes)) = some (some (.int .i64 0), 1, 8) := by kernel_rfl

def mval (gs : List Nat) : List Value := gs.map (fun (g : Nat) => Value.int .i32 (g : Int))
def lval (gs : List Nat) : List Value := gs.map (fun (g : Nat) => Value.int .u32 ((g : Int) + 1))
def hval (gs : List Nat) : List Value := gs.map (fun (g : Nat) => Value.int .i64 (3 * (g : Int)))
def tval (gs : List Nat) : List Value := gs.map (fun (g : Nat) => Value.int .i64 (7 * (g : Int)))

def cntR (hr : Bool) (k : Nat) : Nat := if hr then k else 0
def tvl (hr : Bool) (gs : List Nat) : List Value := if hr then tval gs else []

theorem mval_snoc (gs : List Nat) (g : Nat) : mval (gs ++ [g]) = mval gs ++ [Value.int .i32 (g : Int)] := by simp [mval]
theorem lval_snoc (gs : List Nat) (g : Nat) : lval (gs ++ [g]) = lval gs ++ [Value.int .u32 ((g : Int) + 1)] := by simp [lval]
theorem hval_snoc (gs : List Nat) (g : Nat) : hval (gs ++ [g]) = hval gs ++ [Value.int .i64 (3 * (g : Int))] := by simp [hval]
theorem tval_snoc (gs : List Nat) (g : Nat) : tval (gs ++ [g]) = tval gs ++ [Value.int .i64 (7 * (g : Int))] := by simp [tval]
theorem results_tmp5 {fn : Func} {a b c d e : Tmp} (h : fn.results = #[.tmp a, .tmp b, .tmp c, .tmp d, .tmp e]) (tmps : Array Value) (P : Program) (w : World) :
    (results fn tmps).run P w = .ok (.tuple #[tmps.getD a undef, tmps.getD b undef, tmps.getD c undef, tmps.getD d undef, tmps.getD e undef]) w := by
  simp [results, h]
theorem fl_part_le (sps : List (Nat × Nat)) (k lo hi t : Nat) (h : sps[k]? = some (lo, hi)) (ht : t ≤ hi - lo) : (fl (sps.take k) ++ rng lo t).length ≤ (fl sps).length := by
  have e : fl sps = fl (sps.take (k + 1)) ++ fl (sps.drop (k + 1)) := by rw [← fl_append, List.take_append_drop]
  rw [e, fl_take sps k lo hi h]
  simp only [List.length_append, rng_len]
  omega

set_option maxRecDepth 100000 in
set_option maxHeartbeats 8000000 in
theorem zzrows_any {w : World} {B Wb M : Nat} {S : Value} {vs : List Value} {hr : Bool} {names : List ByteArray} {sp : ByteArray → List (Nat × Nat)} (K : KI w B Wb M S vs hr names sp) {s : ByteArray} {i : Nat} (hi : names[i]? = some s)
    (hn : (sp s).length ≤ 4096) (hg : (fl (sp s)).length ≤ 65536) :
    Calls Try.prog 28 #[.pointer (some ⟨Wb, 0, none⟩), .int .i64 (i : Int)] w fun e w' => ∃ mv lv hv tv, e = .returned (.tuple #[mv, lv, hv, tv, .int .i64 (cntR hr (sp s).length : Nat)]) ∧
      ZR w w' mv lv hv tv (mval (fl (sp s))) (lval (fl (sp s))) (hval (fl (sp s))) (tvl hr (fl (sp s))) := by
  have hil : i < names.length := (List.getElem?_eq_some_iff.1 hi).1
  have hvl : vs.length = names.length := by have := K.arow.1; omega
  obtain ⟨v, hv⟩ : ∃ v, vs[i]? = some v := ⟨_, List.getElem?_eq_getElem (by omega)⟩
  obtain ⟨cs, hcs, hspa⟩ := K.each i v s hv hi
  obtain ⟨Sg, Sc, hS, hSB, hSl⟩ := K.arow.form (by omega)
  obtain ⟨sps, hsps⟩ : ∃ sps, sps = sp s := ⟨_, rfl⟩
  rw [← hsps] at hn hg hcs hspa ⊢
  obtain ⟨nv, hnv⟩ : ∃ nv, nv = sps.length := ⟨_, rfl⟩
  obtain ⟨av, cv, hvf⟩ := slice_form hcs
  rw [← hnv] at hn hcs hvf ⊢
  have g1 : w.cell? ⟨Wb, 3, none⟩ = some (.slice (some ⟨Sg, 0, none⟩) names.length Sc) := by rw [cell_of_blk K.wblk, hS]; rfl
  have g2 : w.cell? ⟨Sg, i, none⟩ = some (.slice av nv cv) := by
    have h := K.arow
    rw [hS] at h
    rw [h.cellAt i (by omega), hv, hvf]
  have l1 := heap_lt K.wblk
  have j1 : (i : Int) < (names.length : Int) := by omega
  obtain ⟨i21, hi21, a0, a1, a2⟩ := info_parts Try.inf21
  obtain ⟨i57, hi57, b0, b1, b2⟩ := info_parts Try.inf57
  obtain ⟨i2, hi2, c0, c1, c2⟩ := info_parts Try.inf2
  have HK := hid K
  have Hcs := hid hcs
  have Hspa := hid hspa
  have HS := hid hS
  have Hvf := hid hvf
  have Hnv := hid hnv
  have Hsps := hid hsps
  clear K hi hv hcs hspa hS hvf hnv hsps hSB
  go_enter Try.func28, Try.ntmps28
  go_wp2_with fail
  go_loopw [4, 5, 6, 7, 8, 21] (fun mv lv hv tv c j wr => ∃ k : Nat, k ≤ nv ∧ j = .int .i64 k ∧ c = .int .i64 ((cntR hr k : Nat) : Int) ∧ ZR w wr mv lv hv tv (mval (fl (sps.take k))) (lval (fl (sps.take k))) (hval (fl (sps.take k))) (tvl hr (fl (sps.take k)))) (fun _ _ _ _ _ j _ => nv - (intOf j).toNat)
  case atStart => exact ⟨0, Nat.zero_le _, rfl, by cases hr <;> rfl, by
    have h := ZR.start w
    cases hr <;> exact h⟩
  case round =>
    obtain ⟨k, hk, rfl, rfl, Z⟩ := hrel
    by_cases hlt : k < nv
    · obtain ⟨⟨lo, hi'⟩, hsk⟩ : ∃ p, sps[k]? = some p := ⟨_, List.getElem?_eq_getElem (by have := Hnv.out; omega)⟩
      obtain ⟨rv, tvv, q1, q2, hrv, htv⟩ := Hspa.out k lo hi' hsk
      obtain ⟨rb, ro, rc, curR, hrvf, hRb, hRc⟩ := hrv
      obtain ⟨ta, tn, tc, htvf, hnone⟩ : ∃ ta tn tc, tvv = .slice ta tn tc ∧ ta.isNone = !hr := by
        rcases htv with ⟨h1, h2⟩ | ⟨h1, b', o', c', cur', h2, _⟩
        · exact ⟨none, 0, 0, h2, by rw [h1]; rfl⟩
        · exact ⟨_, _, _, h2, by rw [h1]; rfl⟩
      obtain ⟨Gv, Cv, hvG, hGB, hGl⟩ := Hcs.out.form (by omega)
      have hrow := Hcs.out
      rw [hvG] at hrow
      obtain ⟨rfl, rfl⟩ : av = some ⟨Gv, 0, none⟩ ∧ cv = Cv := by
        have h := Hvf.out
        rw [hvG] at h
        injection h with h1 h2 h3
        exact ⟨h1.symm, h3.symm⟩
      obtain ⟨ln, hln⟩ : ∃ ln, ln = hi' - lo := ⟨_, rfl⟩
      have hlnb : ln ≤ 65536 := by
        have h := fl_part_le sps k lo hi' ln hsk (by omega)
        rw [List.length_append, rng_len] at h
        omega
      rw [← hln] at hrvf hRc
      have p1 : wr.cell? ⟨Gv, k * 2, none⟩ = some (.slice (some ⟨rb, ro, none⟩) ln rc) := by
        have h := hrow.cellAt (k * 2) (by omega)
        rw [q1, hrvf] at h
        obtain ⟨cur, hc⟩ := ownsRow_type hrow (g := Gv) rfl
        rw [cell_of_blk (Z.x _ _ hc), ← cell_of_blk hc]
        exact h
      have p2 : wr.cell? ⟨Gv, k * 2 + 1, none⟩ = some (.slice ta tn tc) := by
        have h := hrow.cellAt (k * 2 + 1) (by omega)
        rw [q2, htvf] at h
        obtain ⟨cur, hc⟩ := ownsRow_type hrow (g := Gv) rfl
        rw [cell_of_blk (Z.x _ _ hc), ← cell_of_blk hc]
        exact h
      have hnilr := fun (w : World) => run_neq_slice_nil_any (P := Try.prog) w 73 32 ta tn tc 0 0 Try.underlying73
      rw [hnone] at hnilr
      have lG : Gv < wr.heap.size := by
        obtain ⟨cur, hc⟩ := ownsRow_type hrow (g := Gv) rfl
        exact heap_lt (Z.x _ _ hc)
      have i1 : (k : Int) < (nv : Int) := by omega
      obtain ⟨sB, hsB⟩ : ∃ sB, sB = wr.heap.size := ⟨_, rfl⟩
      have HZ := hid Z
      have Hsk := hid hsk
      have Hrv := hid hrvf
      have HRb := hid hRb
      have HRc := hid hRc
      have Htvf := hid htvf
      have Hnone := hid hnone
      have Htv := hid htv
      have Hln := hid hln
      have HsB := hid hsB
      have Hrow := hid hrow
      clear Z hsk hrvf hRb hRc htvf hnone htv hln hsB hrow q1 q2 hvG g1 g2 l1 j1
      go_upto_if 27 with (fail)
      rw [← HsB.out]
      obtain ⟨wa, hwa⟩ : ∃ wa, wa = wr.alloc (.cells #[.slice (some ⟨rb, ro, none⟩) ln rc, .slice ta tn tc] 75) := ⟨_, rfl⟩
      rw [← hwa]
      have xa : Ext wr wa := by rw [hwa]; exact (Ext.refl wr).alloc _
      have ba : Below w.heap.size wr wa := by rw [hwa]; exact (Below.refl _ wr).alloc HZ.out.b.size _
      have hsa : wa.heap[sB]? = some (.cells #[.slice (some ⟨rb, ro, none⟩) ln rc, .slice ta tn tc] 75 (0, 0)) := by rw [hwa, HsB.out]; exact heap_alloc_new _ _
      have HZa := hid (HZ.out.ext xa ba)
      have Hsa := hid hsa
      clear HZ xa ba hsa p1 p2 lG hwa
      have hck : cntR hr k ≤ 4096 := by unfold cntR; split <;> omega
      go_cut [8] (fun c wc => c = .int .i64 ((cntR hr (k + 1) : Nat) : Int) ∧ wc = wa)
      case first =>
        cases hr
        · go_wp2_with fail
          go_meet
          case rel => exact ⟨rfl, rfl⟩
        · go_wp2_with fail
          go_meet
          case rel => exact ⟨by simp [cntR], rfl⟩
      case rest =>
        obtain ⟨rfl, hwc⟩ := hcut
        subst hwc
        obtain ⟨wb, hwb⟩ : ∃ wb, wb = wc := ⟨_, rfl⟩
        subst hwb
        have p1 : wb.cell? ⟨sB, 0, none⟩ = some (.slice (some ⟨rb, ro, none⟩) ln rc) := by rw [cell_of_blk Hsa.out]; rfl
        have lS := heap_lt Hsa.out
        go_wp2_with fail
        go_loopw [4, 5, 6, 7, 33] (fun mv lv hv tv j wq => ∃ t : Nat, t ≤ ln ∧ j = .int .i64 t ∧ wq.heap[sB]? = some (.cells #[.slice (some ⟨rb, ro, none⟩) ln rc, .slice ta tn tc] 75 (0, 0)) ∧ ZR w wq mv lv hv tv (mval (fl (sps.take k) ++ rng lo t)) (lval (fl (sps.take k) ++ rng lo t)) (hval (fl (sps.take k) ++ rng lo t)) (tvl hr (fl (sps.take k) ++ rng lo t))) (fun _ _ _ _ j _ => ln - (intOf j).toNat)
        case atStart =>
          refine ⟨0, Nat.zero_le _, rfl, Hsa.out, ?_⟩
          rw [show rng lo 0 = [] from rfl, List.append_nil]
          exact HZa.out
        case round =>
          clear p1 lS
          obtain ⟨t, ht, rfl, hs2, Z⟩ := hrel
          obtain ⟨wq, hwq⟩ : ∃ wq, wq = wr := ⟨_, rfl⟩
          subst hwq
          by_cases hlt2 : t < ln
          · obtain ⟨g, hg2⟩ : ∃ g, g = lo + t := ⟨_, rfl⟩
            obtain ⟨gs, hgs⟩ : ∃ gs, gs = fl (sps.take k) ++ rng lo t := ⟨_, rfl⟩
            rw [← hgs] at Z
            have hR2 := Z.x _ _ HRb.out
            have r0 : wq.cell? ⟨rb, ro + t * 3, none⟩ = some (.int .i32 (g : Int)) := by rw [cell_of_blk hR2, hg2]; exact HRc.out t 0 hlt2 (by omega)
            have r1 : wq.cell? ⟨rb, ro + t * 3 + 1, none⟩ = some (.int .u32 ((g : Int) + 1)) := by rw [cell_of_blk hR2, hg2]; exact HRc.out t 1 hlt2 (by omega)
            have r2 : wq.cell? ⟨rb, ro + t * 3 + 2, none⟩ = some (.int .i64 (3 * (g : Int))) := by rw [cell_of_blk hR2, hg2]; exact HRc.out t 2 hlt2 (by omega)
            have lR := heap_lt hR2
            have j1 : (t : Int) < (ln : Int) := by omega
            have hgl : gs.length ≤ 65536 := by rw [hgs]; exact Nat.le_trans (fl_part_le sps k lo hi' t Hsk.out (by rw [← Hln.out]; exact ht)) hg
            have HG := hid hg2
            have HGs := hid hgs
            have Hs2 := hid hs2
            have HZq := hid Z
            clear hg2 hgs hs2 Z hR2
            have hml2 : (mval gs).length = gs.length := by simp [mval]
            have hll2 : (lval gs).length = gs.length := by simp [lval]
            have hhl2 : (hval gs).length = gs.length := by simp [hval]
            have hM1 : (mval gs).length + 1 ≤ maxLen := by unfold maxLen; omega
            have hM2 : ((mval gs).length + 1) * 4 ≤ 140737488355328 := by omega
            have hL1 : (lval gs).length + 1 ≤ maxLen := by unfold maxLen; omega
            have hL2 : ((lval gs).length + 1) * 4 ≤ 140737488355328 := by omega
            have hH1 : (hval gs).length + 1 ≤ maxLen := by unfold maxLen; omega
            have hH2 : ((hval gs).length + 1) * 8 ≤ 140737488355328 := by omega
            clear hml2 hll2 hhl2
            have HM1 := hid hM1
            have HM2 := hid hM2
            have HL1 := hid hL1
            have HL2 := hid hL2
            have HH1 := hid hH1
            have HH2 := hid hH2
            clear hM1 hM2 hL1 hL2 hH1 hH2
            go_upto_region 9 with (fail)
            obtain ⟨rB, hrB⟩ : ∃ rB, rB = wq.heap.size := ⟨_, rfl⟩
            obtain ⟨x0, hx0⟩ : ∃ x0, x0 = wq.alloc (.cells #[.int .i32 (g : Int), .int .u32 ((g : Int) + 1), .int .i64 (3 * (g : Int))] 77) := ⟨_, rfl⟩
            rw [← hx0, ← hrB]
            have xx0 : Ext wq x0 := by rw [hx0]; exact (Ext.refl wq).alloc _
            have bx0 : Below w.heap.size wq x0 := by rw [hx0]; exact (Below.refl _ wq).alloc HZq.out.b.size _
            have Z0 := HZq.out.ext xx0 bx0
            have k0 : x0.heap[rB]? = some (.cells #[.int .i32 (g : Int), .int .u32 ((g : Int) + 1), .int .i64 (3 * (g : Int))] 77 (0, 0)) := by rw [hx0, hrB]; exact heap_alloc_new _ _
            have s0 := xx0 _ _ Hs2.out
            have d0 : x0.cell? ⟨rB, 0, none⟩ = some (.int .i32 (g : Int)) := by rw [cell_of_blk k0]; rfl
            have lx0 := heap_lt k0
            have Z0a := Z0.ext ((Ext.refl x0).alloc (.cells #[.int .i32 (g : Int)] 21)) ((Below.refl _ x0).alloc Z0.b.size _)
            have HZ0 := hid Z0
            have OM := hid Z0a.m
            have HBM : Hid (w.heap.size ≤ (x0.alloc (.cells #[.int .i32 (g : Int)] 21)).heap.size) := Z0a.b.size
            have Hk0 := hid k0
            have Hs0 := hid s0
            have Hr0 := hid hrB
            have HZ0a := hid Z0a
            clear Z0 Z0a xx0 bx0 k0 s0 hrB hx0 HZq r0 r1 r2 lR
            go_upto_region 10 with (at_builtin; refine wpList_append_lies _ rfl _ _ 22 rfl w.heap.size 21 i21 (.int .i32 0) 1 4 Try.underlying22 hi21 a0 a1 a2 rfl (by decide) _ (mval gs).length (mval gs) rfl OM.out ⟨x0.heap.size, 0, none⟩ 1 1 [.int .i32 (g : Int)] rfl rfl (cell_one_new _ _ _) (fun u hu => by simp at hu; subst hu; rfl) (by decide) HM1.out HM2.out HBM.out _ rfl ?_; intro g1 cap1 w1 hown1 hgrow1 hat1 hlt1)
            have Z1 := HZ0a.out.am hgrow1 hown1
            have k1 := blk_kept OM.out hgrow1 (((Ext.refl x0).alloc _) _ _ Hk0.out) (by decide)
            have s1 := blk_kept OM.out hgrow1 (((Ext.refl x0).alloc _) _ _ Hs0.out) (by decide)
            have d1 : w1.cell? ⟨rB, 1, none⟩ = some (.int .u32 ((g : Int) + 1)) := by rw [cell_of_blk k1]; rfl
            have lx1 := heap_lt k1
            have Z1a := Z1.ext ((Ext.refl w1).alloc (.cells #[.int .u32 ((g : Int) + 1)] 57)) ((Below.refl _ w1).alloc Z1.b.size _)
            have OL := hid Z1a.l
            have HBL : Hid (w.heap.size ≤ (w1.alloc (.cells #[.int .u32 ((g : Int) + 1)] 57)).heap.size) := Z1a.b.size
            have Hk1 := hid k1
            have Hs1 := hid s1
            have HZ1a := hid Z1a
            clear Z1 Z1a k1 s1 hown1 hgrow1 hat1 d0 lx0 OM HBM HZ0 HZ0a Hk0 Hs0
            go_upto_region 11 with (at_builtin; refine wpList_append_lies _ rfl _ _ 54 rfl w.heap.size 57 i57 (.int .u32 0) 1 4 Try.underlying54 hi57 b0 b1 b2 rfl (by decide) _ (lval gs).length (lval gs) rfl OL.out ⟨w1.heap.size, 0, none⟩ 1 1 [.int .u32 ((g : Int) + 1)] rfl rfl (cell_one_new _ _ _) (fun u hu => by simp at hu; subst hu; rfl) (by decide) HL1.out HL2.out HBL.out _ rfl ?_; intro g2 cap2 w2 hown1 hgrow1 hat1 hlt2')
            have Z1 := HZ1a.out.al hgrow1 hown1
            have k1 := blk_kept OL.out hgrow1 (((Ext.refl w1).alloc _) _ _ Hk1.out) (by decide)
            have s1 := blk_kept OL.out hgrow1 (((Ext.refl w1).alloc _) _ _ Hs1.out) (by decide)
            have d2 : w2.cell? ⟨rB, 2, none⟩ = some (.int .i64 (3 * (g : Int))) := by rw [cell_of_blk k1]; rfl
            have lx2 := heap_lt k1
            have Z1a := Z1.ext ((Ext.refl w2).alloc (.cells #[.int .i64 (3 * (g : Int))] 2)) ((Below.refl _ w2).alloc Z1.b.size _)
            have OH := hid Z1a.h
            have HBH : Hid (w.heap.size ≤ (w2.alloc (.cells #[.int .i64 (3 * (g : Int))] 2)).heap.size) := Z1a.b.size
            have Hk2 := hid k1
            have Hs22 := hid s1
            have HZ2a := hid Z1a
            clear Z1 Z1a k1 s1 hown1 hgrow1 hat1 d1 lx1 OL HBL HZ1a Hk1 Hs1
            go_upto_region 12 with (at_builtin; refine wpList_append_lies _ rfl _ _ 23 rfl w.heap.size 2 i2 (.int .i64 0) 1 8 Try.underlying23 hi2 c0 c1 c2 rfl (by decide) _ (hval gs).length (hval gs) rfl OH.out ⟨w2.heap.size, 0, none⟩ 1 1 [.int .i64 (3 * (g : Int))] rfl rfl (cell_one_new _ _ _) (fun u hu => by simp at hu; subst hu; rfl) (by decide) HH1.out HH2.out HBH.out _ rfl ?_; intro g3 cap3 w3 hown1 hgrow1 hat1 hlt3')
            have Z3 := HZ2a.out.ah hgrow1 hown1 hat1
            have s3 := blk_kept OH.out hgrow1 (((Ext.refl w2).alloc _) _ _ Hs22.out) (by decide)
            have HZ3 := hid Z3
            have d3 : w3.cell? ⟨sB, 1, none⟩ = some (.slice ta tn tc) := by rw [cell_of_blk s3]; rfl
            have lx3 := heap_lt s3
            have Hs3 := hid s3
            clear Z3 s3 hown1 hgrow1 hat1 d2 lx2 OH HBH HZ2a Hk2 Hs22
            have hgs1 : gs ++ [g] = fl (sps.take k) ++ rng lo (t + 1) := by rw [rng_succ, ← List.append_assoc, ← HGs.out, ← HG.out]
            have HGs1 := hid hgs1
            clear hgs1
            cases hr
            · go_wp2_with fail
              go_roundw
              case rel =>
                refine ⟨t + 1, by omega, by go_num, Hs3.out, ?_⟩
                rw [← HGs1.out, mval_snoc, lval_snoc, hval_snoc]
                exact HZ3.out
              case measure => simp [intOf]; omega
            · rcases Htv.out with ⟨h1, _⟩ | ⟨_, tb, to', tc', curT, h2, hTb, hTc⟩
              · cases h1
              obtain ⟨rfl, rfl, rfl⟩ : ta = some ⟨tb, to', none⟩ ∧ ln = tn ∧ tc = tc' := by
                have h := Htvf.out
                rw [h2] at h
                injection h with h1 h2' h3
                exact ⟨h1.symm, by rw [Hln.out]; exact h2', h3.symm⟩
              have hT3 := HZ3.out.x _ _ hTb
              have d4 : w3.cell? ⟨tb, to' + t, none⟩ = some (.int .i64 (7 * (g : Int))) := by
                rw [cell_of_blk hT3, hTc t (by rw [← Hln.out]; exact hlt2), HG.out]
              have lx4 := heap_lt hT3
              have htl2 : (tvl true gs).length = gs.length := by simp [tvl, tval]
              have hT1 : (tvl true gs).length + 1 ≤ maxLen := by unfold maxLen; omega
              have hT2 : ((tvl true gs).length + 1) * 8 ≤ 140737488355328 := by omega
              have Z3a := HZ3.out.ext ((Ext.refl w3).alloc (.cells #[.int .i64 (7 * (g : Int))] 2)) ((Below.refl _ w3).alloc HZ3.out.b.size _)
              have OT := hid Z3a.t
              have HBT : Hid (w.heap.size ≤ (w3.alloc (.cells #[.int .i64 (7 * (g : Int))] 2)).heap.size) := Z3a.b.size
              have HZ3a := hid Z3a
              have HT1 := hid hT1
              have HT2 := hid hT2
              have Hs3a := hid (((Ext.refl w3).alloc (.cells #[.int .i64 (7 * (g : Int))] 2)) _ _ Hs3.out)
              clear hT3 hTb hTc h2 htl2 hT1 hT2 Z3a
              go_wp2_with (at_builtin; refine wpList_append_lies _ rfl _ _ 23 rfl w.heap.size 2 i2 (.int .i64 0) 1 8 Try.underlying23 hi2 c0 c1 c2 rfl (by decide) _ (tvl true gs).length (tvl true gs) rfl OT.out ⟨w3.heap.size, 0, none⟩ 1 1 [.int .i64 (7 * (g : Int))] rfl rfl (cell_one_new _ _ _) (fun u hu => by simp at hu; subst hu; rfl) (by decide) HT1.out HT2.out HBT.out _ rfl ?_; intro g4 cap4 w4 hown1 hgrow1 hat1 hlt4')
              go_roundw
              case rel =>
                refine ⟨t + 1, by omega, by go_num, blk_kept OT.out hgrow1 Hs3a.out (by decide), ?_⟩
                have h := HZ3a.out.at hgrow1 hown1 hat1
                rw [← HGs1.out, mval_snoc, lval_snoc, hval_snoc, show tvl true (gs ++ [g]) = tvl true gs ++ [Value.int .i64 (7 * (g : Int))] from tval_snoc gs g]
                exact h
              case measure => simp [intOf]; omega
          · have htl : ln = t := by omega
            subst htl
            have HZq := hid Z
            clear Z
            go_wp2_with fail
            go_roundw
            case rel =>
              refine ⟨k + 1, by omega, by go_num, rfl, ?_⟩
              have h := HZq.out
              rw [Hln.out, ← fl_take sps k lo hi' Hsk.out] at h
              exact h
            case measure => simp [intOf]; omega
    · have hkn : nv = k := by omega
      subst hkn
      have HZ := hid Z
      clear Z
      go_wp2_with fail
      refine bodyPost_ret (results_tmp5 rfl _ _ _) rfl ?_
      refine ⟨_, _, _, _, rfl, ?_⟩
      have h := HZ.out
      rw [List.take_of_length_le (by rw [← Hnv.out]; exact Nat.le_refl _)] at h
      exact h

end Go.Proofs.Qxb6000622a
