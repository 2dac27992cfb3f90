/-
  keepPart (38).
-/
import Derived.Test.Qxb6000622aKeep
import Derived.Test.Qxb6000622aZZKeep
namespace Go.Proofs.Qxb6000622a
open Go.RowKit Go.Maps Go.WideMaps
set_option linter.unusedVariables false

theorem Try.info57 : (Try.prog.info? 57).map (fun i => (i.zero, i.size, i.bytes)) = some (some (.int .u32 0), 1, 4) := by kernel_rfl
theorem Try.info3 : (Try.prog.info? 3).map (fun i => (i.zero, i.size, i.bytes)) = some (some (.int .i64 0), 1, 8) := by kernel_rfl

/-- The rates' slice behind k rounds. -/
def RJ (w : World) (hr : Bool) (tv : Value) (TB : Nat) (vs : List Value) (n k : Nat) : Prop :=
  (hr = false ∧ tv = .slice none 0 0) ∨ (hr = true ∧ tv = .slice (some ⟨TB, 0, none⟩) n n ∧ w.heap[TB]? = some (.cells (cpy (.int .i64 0) vs n k) 2 (0, 0)))

/-- A list of numbers by its places. -/
def lin (f : Nat → Int) (n : Nat) (K : IntKind) : List Value := (List.range n).map (fun t => .int K (f t))
theorem lin_len (f : Nat → Int) (n : Nat) (K : IntKind) : (lin f n K).length = n := by simp [lin]
theorem lin_at (f : Nat → Int) (n : Nat) (K : IntKind) (t : Nat) (h : t < n) : (lin f n K)[t]? = some (.int K (f t)) := by simp [lin, h]

theorem n01 (x : Nat) : x ≠ x + 1 := by omega
theorem n02 (x : Nat) : x ≠ x + 1 + 1 := by omega
theorem n03 (x : Nat) : x ≠ x + 3 := by omega
theorem n12 (x : Nat) : x + 1 ≠ x + 1 + 1 := by omega
theorem n13 (x : Nat) : x + 1 ≠ x + 3 := by omega
theorem n23 (x : Nat) : x + 1 + 1 ≠ x + 3 := by omega
theorem o1' (x : Nat) : x ≤ x + 1 := by omega
theorem o2' (x : Nat) : x ≤ x + 1 + 1 := by omega
theorem o3' (x : Nat) : x ≤ x + 3 := by omega

set_option maxRecDepth 100000 in
set_option maxHeartbeats 8000000 in
theorem keepPart_any (hr : Bool) (mem : List ByteArray) (stt : Nat → Nat) (a L Sb B Wb M : Nat) (ma : Option Addr) (mc : Nat) (S0 : Value) (vs0 : List Value) (w : World)
    (hmono : ∀ i j, i ≤ j → stt i ≤ stt j) (hbig : stt (a + L) ≤ 65536) (hL : a + L ≤ 4096) (hL0 : 0 < L) (hsz : ∀ s ∈ mem, s.size ≤ maxLen) (hml : a + L ≤ mem.length)
    (K : KI w B Wb M S0 vs0 hr (nm mem a) (spn mem stt a)) (hM : IsVals w ma mem.length (mem.map Value.string)) (hS : ∃ cur, w.heap[Sb]? = some (.cells cur 3 (0, 0)) ∧ ∀ j, j ≤ a + L → cur[j]? = some (.int .i64 (stt j))) :
    Calls Try.prog 38 #[.pointer (some ⟨Wb, 0, none⟩), .slice ma mem.length mc, .slice (some ⟨Sb, 0, none⟩) (mem.length + 1) (mem.length + 1), .int .i64 a, .int .i64 (a + L : Nat), .bool hr] w
      fun e w' => e = .returned (.tuple #[]) ∧ (∃ S vs, KI w' B Wb M S vs hr (nm mem (a + L)) (spn mem stt (a + L))) ∧ Fr w w' ∧ Below B w w' := by
  obtain ⟨n, hn⟩ : ∃ n, n = stt (a + L) - stt a := ⟨_, rfl⟩
  obtain ⟨base, hbase⟩ : ∃ base, base = stt a := ⟨_, rfl⟩
  obtain ⟨top, htop⟩ : ∃ top, top = stt (a + L) := ⟨_, rfl⟩
  obtain ⟨T, hTT⟩ : ∃ T, T = mem.length := ⟨_, rfl⟩
  obtain ⟨b, hb⟩ : ∃ b, b = a + L := ⟨_, rfl⟩
  have hmono1 := hmono a (a + L) (by omega)
  have hnb : n ≤ 65536 := by omega
  have hbn : base + n ≤ 65536 := by omega
  have htb : top = base + n := by omega
  have hL1 : L ≤ 4096 := by omega
  have hbL : b = a + L := hb
  have hbT : b ≤ T := by omega
  have hb4 : b ≤ 4096 := by omega
  have hBw : B ≤ w.heap.size := by have := heap_lt K.wblk; have := K.bW; omega
  obtain ⟨Mb, mo, hma, hMl, hMc⟩ : ∃ Mb mo, ma = some ⟨Mb, mo, none⟩ ∧ Mb < w.heap.size ∧ ∀ j, j < mem.length → w.cell? ⟨Mb, mo + j, none⟩ = (mem.map Value.string)[j]? := by
    obtain ⟨b, off, e, h⟩ := hM.2 (by omega)
    exact ⟨b, off, e, h⟩
  subst hma
  obtain ⟨curS, hSb, hSc⟩ := hS
  have s1 : w.cell? ⟨Sb, a, none⟩ = some (.int .i64 (base : Int)) := by rw [cell_of_blk hSb, hSc a (by omega), hbase]
  have s2 : w.cell? ⟨Sb, b, none⟩ = some (.int .i64 (top : Int)) := by rw [cell_of_blk hSb, hb, hSc (a + L) (by omega), ← htop]
  have hSl := heap_lt hSb
  have i1 : (0 : Int) ≤ (a : Int) := by omega
  have i2 : (a : Int) < ((T + 1 : Nat) : Int) := by omega
  have i3 : (0 : Int) ≤ (b : Int) := by omega
  have i4 : (b : Int) < ((T + 1 : Nat) : Int) := by omega
  have hd : (top : Int) - (base : Int) = (n : Int) := by omega
  have mk1 := fun (w : World) => make_one Try.underlying22 Try.info21 rfl n (by omega) (by omega) w
  have mk2 := fun (w : World) => make_one Try.underlying54 Try.info57 rfl n (by omega) (by omega) w
  have mk3 := fun (w : World) => make_one Try.underlying23 Try.info2 rfl n (by omega) (by omega) w
  have mk4 := fun (w : World) => make_one Try.underlying47 Try.info3 rfl L (by omega) (by omega) w
  have mk5 := fun (w : World) => make_one Try.underlying37 Try.info9 rfl L (by omega) (by omega) w
  rw [← hb, ← hTT]
  have HN := hid hn
  have HBs := hid hbase
  have HTop := hid htop
  have Htb := hid htb
  have HTT := hid hTT
  have Hb := hid hb
  have HK := hid K
  have HMc := hid hMc
  have HSb := hid hSb
  have HSc := hid hSc
  clear hn hbase htop htb hTT hb K hMc hSb hSc hM hbL
  go_enter Try.func38, Try.ntmps38
  go_upto_if 39 with (fail)
  obtain ⟨Ob, hOb⟩ : ∃ Ob, Ob = w.heap.size := ⟨_, rfl⟩
  obtain ⟨w3, hw3⟩ : ∃ w3, w3 = ((w.alloc (Obj.cells (madeCells #[Value.int IntKind.i32 0] n) 21)).alloc (Obj.cells (madeCells #[Value.int IntKind.u32 0] n) 57)).alloc (Obj.cells (madeCells #[Value.int IntKind.i64 0] n) 2) := ⟨_, rfl⟩
  have hw3s : w3.heap.size = Ob + 3 := by rw [hw3, hOb]; simp
  have x3 : Ext w w3 := by rw [hw3]; exact (((Ext.refl w).alloc _).alloc _).alloc _
  have b3 : Below Ob w w3 := by rw [hw3, hOb]; exact (((Below.refl _ w).alloc (Nat.le_refl _) _).alloc (by simp) _).alloc (by simp; omega) _
  obtain ⟨os, hos⟩ : ∃ os, os = lin (fun t => ((base + t : Nat) : Int)) n .i32 := ⟨_, rfl⟩
  obtain ⟨ls, hls⟩ : ∃ ls, ls = lin (fun t => ((base + t : Nat) : Int) + 1) n .u32 := ⟨_, rfl⟩
  obtain ⟨hs, hhs⟩ : ∃ hs, hs = lin (fun t => 3 * ((base + t : Nat) : Int)) n .i64 := ⟨_, rfl⟩
  obtain ⟨ts, hts⟩ : ∃ ts, ts = lin (fun t => 7 * ((base + t : Nat) : Int)) n .i64 := ⟨_, rfl⟩
  have hosl : os.length = n := by rw [hos]; exact lin_len _ _ _
  have hlsl : ls.length = n := by rw [hls]; exact lin_len _ _ _
  have hhsl : hs.length = n := by rw [hhs]; exact lin_len _ _ _
  have htsl : ts.length = n := by rw [hts]; exact lin_len _ _ _
  have k1 : w3.heap[Ob]? = some (.cells (cpy (.int .i32 0) os n 0) 21 (0, 0)) := by
    rw [hw3, hOb, cpy_zero]
    exact (((Ext.refl _).alloc _).alloc _) _ _ (heap_alloc_new _ _)
  have k2 : w3.heap[Ob + 1]? = some (.cells (cpy (.int .u32 0) ls n 0) 57 (0, 0)) := by
    rw [hw3, hOb, cpy_zero]
    refine ((Ext.refl _).alloc _) _ _ ?_
    have h := heap_alloc_new (w.alloc (Obj.cells (madeCells #[Value.int IntKind.i32 0] n) 21)) (Obj.cells (madeCells #[Value.int IntKind.u32 0] n) 57)
    simpa using h
  have k3 : w3.heap[Ob + 1 + 1]? = some (.cells (cpy (.int .i64 0) hs n 0) 2 (0, 0)) := by
    rw [hw3, hOb, cpy_zero]
    have h := heap_alloc_new ((w.alloc (Obj.cells (madeCells #[Value.int IntKind.i32 0] n) 21)).alloc (Obj.cells (madeCells #[Value.int IntKind.u32 0] n) 57)) (Obj.cells (madeCells #[Value.int IntKind.i64 0] n) 2)
    simpa using h
  rw [← hw3, ← hOb]
  have HOb := hid hOb
  have Hw3 := hid hw3
  have Hw3s := hid hw3s
  have HX3 := hid x3
  have HB3 := hid b3
  have Hos := hid hos
  have Hls := hid hls
  have Hhs := hid hhs
  have Hts := hid hts
  have Hosl := hid hosl
  have Hlsl := hid hlsl
  have Hhsl := hid hhsl
  have Htsl := hid htsl
  have HK1 := hid k1
  have HK2 := hid k2
  have HK3 := hid k3
  clear hOb hw3 hw3s x3 b3 hos hls hhs hts hosl hlsl hhsl htsl k1 k2 k3
  go_cut [17] (fun tv wc => RJ wc hr tv (Ob + 3) ts n 0 ∧ Ext w3 wc ∧ Below Ob w wc ∧ Ob + 3 ≤ wc.heap.size)
  case first =>
    cases hr
    · go_wp2
      go_meet
      case rel => exact ⟨.inl ⟨rfl, rfl⟩, Ext.refl _, HB3.out, by rw [Hw3s.out]; exact Nat.le_refl _⟩
    · go_wp2
      go_meet
      case rel =>
        refine ⟨.inr ⟨rfl, by rw [Hw3s.out], ?_⟩, (Ext.refl _).alloc _, HB3.out.alloc (by rw [Hw3s.out]; omega) _, by simp [Hw3s.out]⟩
        rw [cpy_zero, ← Hw3s.out]
        exact heap_alloc_new _ _
  case rest =>
    obtain ⟨hJ, xc, bc, sc⟩ := hcut
    obtain ⟨wx, hwx⟩ : ∃ wx, wx = wc := ⟨_, rfl⟩
    subst hwx
    have X := HX3.out.trans xc
    have HJ := hid hJ
    have HXc := hid xc
    have HBc := hid bc
    have Hsc := hid sc
    have HX := hid X
    clear hJ xc bc sc X mk1 mk2 mk3
    go_wp2
    go_loopw [18] (fun i wr => ∃ k : Nat, k ≤ n ∧ i = .int .i64 k ∧ wr.heap[Ob]? = some (.cells (cpy (.int .i32 0) os n k) 21 (0, 0)) ∧ wr.heap[Ob + 1]? = some (.cells (cpy (.int .u32 0) ls n k) 57 (0, 0)) ∧ wr.heap[Ob + 1 + 1]? = some (.cells (cpy (.int .i64 0) hs n k) 2 (0, 0)) ∧ RJ wr hr u17 (Ob + 3) ts n k ∧ Ext w wr ∧ Below Ob w wr ∧ Ob + 3 ≤ wr.heap.size) (fun i _ => n - (intOf i).toNat)
    case atStart => exact ⟨0, Nat.zero_le _, rfl, HXc.out _ _ HK1.out, HXc.out _ _ HK2.out, HXc.out _ _ HK3.out, HJ.out, HX.out, HBc.out, Hsc.out⟩
    case round =>
      obtain ⟨k, hk, rfl, h1, h2, h3, hJ, xr, bel, sr⟩ := hrel
      by_cases hlt : k < n
      · obtain ⟨o1, q1⟩ : ∃ v, wr.cell? ⟨Ob, k, none⟩ = some v := ⟨_, by rw [cell_of_blk h1]; exact Array.getElem?_eq_getElem (by rw [cpy_size _ _ _ _ hk Hosl.out]; exact hlt)⟩
        obtain ⟨o2, q2⟩ : ∃ v, wr.cell? ⟨Ob + 1, k, none⟩ = some v := ⟨_, by rw [cell_of_blk h2]; exact Array.getElem?_eq_getElem (by rw [cpy_size _ _ _ _ hk Hlsl.out]; exact hlt)⟩
        obtain ⟨o3, q3⟩ : ∃ v, wr.cell? ⟨Ob + 1 + 1, k, none⟩ = some v := ⟨_, by rw [cell_of_blk h3]; exact Array.getElem?_eq_getElem (by rw [cpy_size _ _ _ _ hk Hhsl.out]; exact hlt)⟩
        have f1 := free_of_blk h1 k
        have f2 := free_of_blk h2 k
        have f3 := free_of_blk h3 k
        have l1 := heap_lt h1
        have l2 := heap_lt h2
        have l3 := heap_lt h3
        have j1 : (0 : Int) ≤ (k : Int) := by omega
        have j2 : (k : Int) < (n : Int) := by omega
        obtain ⟨g, hg⟩ : ∃ g : Nat, g = base + k := ⟨_, rfl⟩
        have hgi : (base : Int) + (k : Int) = (g : Int) := by omega
        have hgb : g ≤ 65536 := by omega
        have e1 := hid (cpy_step (.int .i32 0) os n k (.int .i32 (g : Int)) (by rw [Hos.out, lin_at _ _ _ _ hlt, hg]) Hosl.out)
        have e2 := hid (cpy_step (.int .u32 0) ls n k (.int .u32 ((g : Int) + 1)) (by rw [Hls.out, lin_at _ _ _ _ hlt, hg]) Hlsl.out)
        have e3 := hid (cpy_step (.int .i64 0) hs n k (.int .i64 (3 * (g : Int))) (by rw [Hhs.out, lin_at _ _ _ _ hlt, hg]) Hhsl.out)
        have e4 := hid (cpy_step (.int .i64 0) ts n k (.int .i64 (7 * (g : Int))) (by rw [Hts.out, lin_at _ _ _ _ hlt, hg]) Htsl.out)
        have H1 := hid h1
        have H2 := hid h2
        have H3 := hid h3
        have HJr := hid hJ
        have HXr := hid xr
        have HBr := hid bel
        have Hsr := hid sr
        have HG := hid hg
        clear h1 h2 h3 hJ xr bel hg
        cases hr
        · go_wp2
          go_roundw
          case rel =>
            have hb0 : w.heap.size ≤ Ob := Nat.le_of_eq HOb.out.symm
            refine ⟨k + 1, by omega, by go_num, ?_, ?_, ?_, ?_, ?_, ?_, ?_⟩
            · rw [heap_setCell_other _ _ _ _ (n02 Ob), heap_setCell_other _ _ _ _ (n01 Ob), ← e1.out]
              exact heap_setCell_same _ _ _ _ _ _ H1.out
            · rw [heap_setCell_other _ _ _ _ (n12 Ob), ← e2.out]
              exact heap_setCell_same _ _ _ _ _ _ ((heap_setCell_other _ _ _ _ (n01 Ob).symm).trans H2.out)
            · rw [← e3.out]
              exact heap_setCell_same _ _ _ _ _ _ ((heap_setCell_other _ _ _ _ (n12 Ob).symm).trans ((heap_setCell_other _ _ _ _ (n02 Ob).symm).trans H3.out))
            · rcases HJr.out with ⟨_, h⟩ | ⟨h, _⟩
              · exact .inl ⟨rfl, h⟩
              · cases h
            · exact ((HXr.out.setFresh hb0 _ _).setFresh (Nat.le_trans hb0 (o1' Ob)) _ _).setFresh (Nat.le_trans hb0 (o2' Ob)) _ _
            · exact ((HBr.out.setCell (Nat.le_refl Ob) _).setCell (o1' Ob) _).setCell (o2' Ob) _
            · simpa using sr
          case measure => simp [intOf]; omega
        · rcases HJr.out with ⟨h, _⟩ | ⟨_, hu, hTB⟩
          · cases h
          subst hu
          obtain ⟨o4, q4⟩ : ∃ v, wr.cell? ⟨Ob + 3, k, none⟩ = some v := ⟨_, by rw [cell_of_blk hTB]; exact Array.getElem?_eq_getElem (by rw [cpy_size _ _ _ _ hk Htsl.out]; exact hlt)⟩
          have f4 := free_of_blk hTB k
          have l4 := heap_lt hTB
          have H4 := hid hTB
          clear hTB
          go_wp2
          go_roundw
          case rel =>
            have hb0 : w.heap.size ≤ Ob := Nat.le_of_eq HOb.out.symm
            refine ⟨k + 1, by omega, by go_num, ?_, ?_, ?_, ?_, ?_, ?_, ?_⟩
            · rw [heap_setCell_other _ _ _ _ (n03 Ob), heap_setCell_other _ _ _ _ (n02 Ob), heap_setCell_other _ _ _ _ (n01 Ob), ← e1.out]
              exact heap_setCell_same _ _ _ _ _ _ H1.out
            · rw [heap_setCell_other _ _ _ _ (n13 Ob), heap_setCell_other _ _ _ _ (n12 Ob), ← e2.out]
              exact heap_setCell_same _ _ _ _ _ _ ((heap_setCell_other _ _ _ _ (n01 Ob).symm).trans H2.out)
            · rw [heap_setCell_other _ _ _ _ (n23 Ob), ← e3.out]
              exact heap_setCell_same _ _ _ _ _ _ ((heap_setCell_other _ _ _ _ (n12 Ob).symm).trans ((heap_setCell_other _ _ _ _ (n02 Ob).symm).trans H3.out))
            · refine .inr ⟨rfl, rfl, ?_⟩
              rw [← e4.out]
              exact heap_setCell_same _ _ _ _ _ _ ((heap_setCell_other _ _ _ _ (n23 Ob).symm).trans ((heap_setCell_other _ _ _ _ (n13 Ob).symm).trans ((heap_setCell_other _ _ _ _ (n03 Ob).symm).trans H4.out)))
            · exact (((HXr.out.setFresh hb0 _ _).setFresh (Nat.le_trans hb0 (o1' Ob)) _ _).setFresh (Nat.le_trans hb0 (o2' Ob)) _ _).setFresh (Nat.le_trans hb0 (o3' Ob)) _ _
            · exact (((HBr.out.setCell (Nat.le_refl Ob) _).setCell (o1' Ob) _).setCell (o2' Ob) _).setCell (o3' Ob) _
            · simpa using sr
          case measure => simp [intOf]; omega
      · have hkn : k = n := by omega
        subst hkn
        have H1 := hid h1
        have H2 := hid h2
        have H3 := hid h3
        have HJr := hid hJ
        have HXr := hid xr
        have HBr := hid bel
        have Hsr := hid sr
        clear h1 h2 h3 hJ xr bel
        have hd2 : (b : Int) - (a : Int) = (L : Int) := by have := Hb.out; omega
        obtain ⟨wa, hwa⟩ : ∃ wa, wa = wr := ⟨_, rfl⟩
        subst hwa
        go_wp2
        obtain ⟨Eb, hEb⟩ : ∃ Eb, Eb = wa.heap.size := ⟨_, rfl⟩
        obtain ⟨es, hes⟩ : ∃ es, es = lin (fun t => ((stt (a + (t + 1)) - stt a : Nat) : Int)) L .i64 := ⟨_, rfl⟩
        obtain ⟨ps, hps⟩ : ∃ ps, ps = (List.range L).map (fun t => Value.string (mem.getD (a + t) ByteArray.empty)) := ⟨_, rfl⟩
        have hesl : es.length = L := by rw [hes]; exact lin_len _ _ _
        have hpsl : ps.length = L := by simp [hps]
        obtain ⟨w5, hw5⟩ : ∃ w5, w5 = (wa.alloc (Obj.cells (madeCells #[Value.int IntKind.i64 0] L) 3)).alloc (Obj.cells (madeCells #[Value.string ByteArray.empty] L) 9) := ⟨_, rfl⟩
        have k4 : w5.heap[Eb]? = some (.cells (cpy (.int .i64 0) es L 0) 3 (0, 0)) := by
          rw [hw5, hEb, cpy_zero]
          exact ((Ext.refl _).alloc _) _ _ (heap_alloc_new _ _)
        have k5 : w5.heap[Eb + 1]? = some (.cells (cpy (.string ByteArray.empty) ps L 0) 9 (0, 0)) := by
          rw [hw5, hEb, cpy_zero]
          have h := heap_alloc_new (wa.alloc (Obj.cells (madeCells #[Value.int IntKind.i64 0] L) 3)) (Obj.cells (madeCells #[Value.string ByteArray.empty] L) 9)
          simpa using h
        have x5 : Ext wa w5 := by rw [hw5]; exact (((Ext.refl wa).alloc _).alloc _)
        have b5 : Below Eb wa w5 := by rw [hw5, hEb]; exact (((Below.refl _ wa).alloc (Nat.le_refl _) _).alloc (by simp) _)
        have hOE : Ob ≤ Eb := by omega
        rw [← hw5, ← hEb]
        have HEb := hid hEb
        have Hw5 := hid hw5
        have Hes := hid hes
        have Hps := hid hps
        have Hesl := hid hesl
        have Hpsl := hid hpsl
        have HK4 := hid k4
        have HK5 := hid k5
        have HX5 := hid x5
        have HB5 := hid b5
        clear hEb hes hps hesl hpsl hw5 k4 k5 x5 b5 mk4 mk5
        go_loopw [22] (fun i wq => ∃ j : Nat, j ≤ L ∧ i = .int .i64 j ∧ wq.heap[Eb]? = some (.cells (cpy (.int .i64 0) es L j) 3 (0, 0)) ∧ wq.heap[Eb + 1]? = some (.cells (cpy (.string ByteArray.empty) ps L j) 9 (0, 0)) ∧ Ext wa wq ∧ Below Eb wa wq) (fun i _ => L - (intOf i).toNat)
        case atStart => exact ⟨0, Nat.zero_le _, rfl, HK4.out, HK5.out, HX5.out, HB5.out⟩
        case round =>
          obtain ⟨j, hj, rfl, h4, h5, xq, belq⟩ := hrel
          by_cases hlt : j < L
          · obtain ⟨st, hst⟩ : ∃ st, st = stt (a + (j + 1)) := ⟨_, rfl⟩
            obtain ⟨en, hen⟩ : ∃ en, en = stt (a + (j + 1)) - stt a := ⟨_, rfl⟩
            obtain ⟨s, hs⟩ : ∃ s, s = mem.getD (a + j) ByteArray.empty := ⟨_, rfl⟩
            have hd3 : (st : Int) - (base : Int) = (en : Int) := by have := hmono a (a + (j + 1)) (by omega); have := HBs.out; omega
            have hstb : st ≤ 65536 := by have := hmono (a + (j + 1)) (a + L) (by omega); omega
            have hbb : base ≤ 65536 := by omega
            have c1 : wr.cell? ⟨Sb, a + j + 1, none⟩ = some (.int .i64 (st : Int)) := by
              rw [cell_of_blk (xq _ _ (HXr.out _ _ HSb.out)), hst]; exact HSc.out (a + (j + 1)) (by omega)
            have c2 : wr.cell? ⟨Mb, mo + (a + j), none⟩ = some (.string s) := by
              rw [belq.cell (by have := HXr.out; have := HBr.out.size; have := HEb.out; have := HOb.out; show Mb < Eb; omega), HBr.out.cell (by have := HOb.out; show Mb < Ob; omega), HMc.out (a + j) (by omega), hs]
              simp [List.getElem?_eq_getElem (show a + j < mem.length by omega)]
            have l1 := heap_lt (xq _ _ (HXr.out _ _ HSb.out))
            have l2 : Mb < wr.heap.size := by have := belq.size; have := HEb.out; have := HOb.out; omega
            have l4 := heap_lt h4
            have l5 := heap_lt h5
            obtain ⟨o4, q4⟩ : ∃ v, wr.cell? ⟨Eb, j, none⟩ = some v := ⟨_, by rw [cell_of_blk h4]; exact Array.getElem?_eq_getElem (by rw [cpy_size _ _ _ _ hj Hesl.out]; exact hlt)⟩
            obtain ⟨o5, q5⟩ : ∃ v, wr.cell? ⟨Eb + 1, j, none⟩ = some v := ⟨_, by rw [cell_of_blk h5]; exact Array.getElem?_eq_getElem (by rw [cpy_size _ _ _ _ hj Hpsl.out]; exact hlt)⟩
            have f4 := free_of_blk h4 j
            have f5 := free_of_blk h5 j
            have j1 : (0 : Int) ≤ (j : Int) := by omega
            have j2 : (j : Int) < (L : Int) := by omega
            have j3 : a + j + 1 < T + 1 := by omega
            have j4 : a + j < T := by omega
            have e4 := hid (cpy_step (.int .i64 0) es L j (.int .i64 (en : Int)) (by rw [Hes.out, lin_at _ _ _ _ hlt, hen]) Hesl.out)
            have e5 := hid (cpy_step (.string ByteArray.empty) ps L j (.string s) (by rw [Hps.out, hs]; simp [hlt]) Hpsl.out)
            have hne : Sb ≠ Eb := by have := heap_lt HSb.out; have := HOb.out; omega
            have hne2 : Mb ≠ Eb := by have := HOb.out; omega
            have hne3 : Mb ≠ Eb + 1 := by have := HOb.out; omega
            have H4 := hid h4
            have H5 := hid h5
            have HXq := hid xq
            have HBq := hid belq
            have Hst := hid hst
            have Hen := hid hen
            have Hs := hid hs
            clear h4 h5 xq belq hst hen hs
            go_wp2
            go_roundw
            case rel =>
              have hb0 : wa.heap.size ≤ Eb := Nat.le_of_eq HEb.out.symm
              refine ⟨j + 1, by omega, by go_num, ?_, ?_, ?_, ?_⟩
              · rw [heap_setCell_other _ _ _ _ (n01 Eb), ← e4.out]
                exact heap_setCell_same _ _ _ _ _ _ H4.out
              · rw [← e5.out]
                exact heap_setCell_same _ _ _ _ _ _ ((heap_setCell_other _ _ _ _ (n01 Eb).symm).trans H5.out)
              · exact (HXq.out.setFresh hb0 _ _).setFresh (Nat.le_trans hb0 (o1' Eb)) _ _
              · exact (HBq.out.setCell (Nat.le_refl Eb) _).setCell (o1' Eb) _
            case measure => simp [intOf]; omega
          · have hjl : j = L := by omega
            subst hjl
            have X := HXr.out.trans xq
            have bw : Below B w wr := (HBr.out.mono (by have := HOb.out; omega)).trans (belq.mono (by have := HOb.out; omega))
            have hHan : Handed wr hr u17 mem stt a j (Eb + 1) Eb Ob (Ob + 1) (Ob + 1 + 1) := {
              mblk := ⟨_, h5, fun t ht => by rw [cpy_get _ _ _ _ _ ht (Nat.le_refl _) Hpsl.out, Hps.out]; simp [ht]⟩
              eblk := ⟨_, h4, fun t ht => by rw [cpy_get _ _ _ _ _ ht (Nat.le_refl _) Hesl.out, Hes.out, lin_at _ _ _ _ ht]⟩
              oblk := ⟨_, xq _ _ H1.out, fun t ht => by rw [← HN.out] at ht; rw [cpy_get _ _ _ _ _ ht (Nat.le_refl _) Hosl.out, Hos.out, lin_at _ _ _ _ ht, HBs.out]⟩
              lblk := ⟨_, xq _ _ H2.out, fun t ht => by rw [← HN.out] at ht; rw [cpy_get _ _ _ _ _ ht (Nat.le_refl _) Hlsl.out, Hls.out, lin_at _ _ _ _ ht, HBs.out]⟩
              hblk := ⟨_, xq _ _ H3.out, fun t ht => by rw [← HN.out] at ht; rw [cpy_get _ _ _ _ _ ht (Nat.le_refl _) Hhsl.out, Hhs.out, lin_at _ _ _ _ ht, HBs.out]⟩
              rates := by
                rcases HJr.out with h | ⟨h1, h2, h3⟩
                · exact .inl h
                · refine .inr ⟨h1, _, _, by rw [← HN.out]; exact h2, xq _ _ h3, fun t ht => ?_⟩
                  rw [← HN.out] at ht
                  rw [cpy_get _ _ _ _ _ ht (Nat.le_refl _) Htsl.out, Hts.out, lin_at _ _ _ _ ht, HBs.out] }
            have hcall := zzkeep_any keep_any hr u17 mem stt a j (Eb + 1) Eb Ob (Ob + 1) (Ob + 1 + 1) B Wb M S0 vs0 wr hmono hbig hL hsz hml (HK.out.ext X) hHan
            rw [← HN.out] at hcall
            have HC := hid hcall
            have HX2 := hid X
            have Hbw := hid bw
            have H4 := hid h4
            have H5 := hid h5
            clear h4 h5 xq belq X bw hHan hcall
            go_wp2_with fail
            refine HC.out.mono ?_
            rintro e w' ⟨rfl, hK', fr, bel⟩
            have HK2 := hid hK'
            have Hfr := hid fr
            have Hbe := hid bel
            clear hK' fr bel
            go_wp2
            go_end0
            exact ⟨rfl, by rw [Hb.out]; exact HK2.out, HX2.out.fr.trans Hfr.out, Hbw.out.trans Hbe.out⟩

end Go.Proofs.Qxb6000622a
