/-
  LawS2322ABacking's walk.
-/
import Derived.Test.YbulkavbiSt
import Derived.Deep.DeepCutAuto
import Derived.Deep.CutBlock
import Derived.Deep.RegionWith
import Derived.Deep.RegionHeld
namespace Go.Proofs.Ybulkavbi
open Go Go.RowKit

set_option maxRecDepth 100000 in
set_option maxHeartbeats 4000000 in
theorem law_any (ad : Option Addr) (len cap : Nat) (z : Raw) (q run mc fh : Int) (w : World) (hz : z.Ok) (hA : ArgAt w ad len z) (hl : len ≤ 1024)
    (hrun : -9223372036854775808 ≤ run ∧ run ≤ 9223372036854775807) (hmc : -2147483648 ≤ mc ∧ mc ≤ 2147483647) (hfh : -2147483648 ≤ fh ∧ fh ≤ 2147483647) :
    Calls Yba.prog 3 #[.slice ad len cap, .int .i64 q, .int .i64 run, .int .i32 mc, .int .i32 fh] w fun e w' => e = .returned (.bool true) ∧ Below w.heap.size w w' := by
  have hd : decide ((1024 : Int) < (len : Int)) = false := by simp; omega
  have m23 := mk23
  have m28 := mk28 len hl
  have m29 := mk29 len hl
  go_enter Yba.func3, Yba.ntmps3
  go_wp2_with fail
  go_loopw [37] (fun kv wr => ∃ k : Nat, k ≤ 4 ∧ kv = .int .i64 k ∧ Rs w k wr) (fun kv _ => 4 - (intOf kv).toNat)
  case atStart => exact ⟨0, by omega, rfl, rs_start w⟩
  case round =>
    obtain ⟨k, hk, rfl, hRs⟩ := hrel
    rename World => w1
    by_cases hlt : k < 4
    · have p1 := hRs.ptr k hlt
      have p2 := hRs.pf k hlt
      have l1 : w.heap.size < w1.heap.size := cell_lt p1
      go_wp2_with fail
      go_roundw
      case rel => exact ⟨k + 1, by omega, by go_num, hRs.step hlt⟩
      case measure => simp [intOf]; omega
    · have hd4 : decide ((k : Int) < 4) = false := by simp; omega
      have hk4 : k = 4 := by omega
      have hR4 : Rs w 4 w1 := hk4 ▸ hRs
      clear hlt hk hk4 hRs
      go_wp2_with fail
      have hs1 : w1.heap.size = w.heap.size + 1 + 4 := hR4.size
      rw [hs1]
      clear hs1
      go_loopw [54] (fun iv wr => ∃ i : Nat, i ≤ len ∧ iv = .int .i64 i ∧ ∃ hd, Bs w len z hd i i i wr) (fun iv _ => len - (intOf iv).toNat)
      case atStart => exact ⟨0, by omega, rfl, fun _ => 0, bs_start hR4 len z _ _ _⟩
      case round =>
        obtain ⟨i, hi, rfl, hd, hBs⟩ := hrel
        rename World => w2
        by_cases hlt : i < len
        ·
          obtain ⟨b, off, rfl, c1, c2, c3, c4⟩ := hA.below hBs.bel i hlt
          have hzs := hz.s i
          have hzr := hz.r i
          have hzh := hz.h i
          have hb : b < w2.heap.size := cell_lt c1
          obtain ⟨r, hr, Hr⟩ : ∃ r : Nat, z.r i % 4 = (r : Int) ∧ Hid (r = (z.r i % 4).toNat) := ⟨(z.r i % 4).toNat, by omega, rfl⟩
          have hr4 : r < 4 := by omega
          have hwr : IntKind.i64.wrap (z.h i) = z.h i := by rw [IntKind.wrap_i64]; omega
          go_light
          go_wp2_with (first
            | (go_at_call 5; refine (around_any _ _ _ _ _ hzr).mono ?_; rintro e w3 ⟨rfl, rfl⟩)
            | fail)
          have hsz := hBs.size
          have hb4 : ∀ o1 o2 o3 o4 : Obj, Below w2.heap.size w2 ((((w2.alloc o1).alloc o2).alloc o3).alloc o4) := fun o1 o2 o3 o4 =>
            ((((Below.refl _ _).alloc (Nat.le_refl _) _).alloc (by simp) _).alloc (by simp; omega) _).alloc (by simp; omega) _
          obtain ⟨⟨y0, s0'⟩, f0'⟩ := there_cell hBs.vt (o := i * 7) (by omega)
          have s0 := fun o1 o2 o3 o4 => ((hb4 o1 o2 o3 o4).cell (cell_lt s0')).trans s0'
          have f0 := fun o1 o2 o3 o4 => ((hb4 o1 o2 o3 o4).frozen (cell_lt s0')).trans f0'
          clear s0' f0'
          obtain ⟨⟨y1, s1'⟩, f1'⟩ := there_cell hBs.vt (o := i * 7 + 1) (by omega)
          have s1 := fun o1 o2 o3 o4 => ((hb4 o1 o2 o3 o4).cell (cell_lt s1')).trans s1'
          have f1 := fun o1 o2 o3 o4 => ((hb4 o1 o2 o3 o4).frozen (cell_lt s1')).trans f1'
          clear s1' f1'
          obtain ⟨⟨y2, s2'⟩, f2'⟩ := there_cell hBs.vt (o := i * 7 + 2) (by omega)
          have s2 := fun o1 o2 o3 o4 => ((hb4 o1 o2 o3 o4).cell (cell_lt s2')).trans s2'
          have f2 := fun o1 o2 o3 o4 => ((hb4 o1 o2 o3 o4).frozen (cell_lt s2')).trans f2'
          clear s2' f2'
          obtain ⟨⟨y3, s3'⟩, f3'⟩ := there_cell hBs.vt (o := i * 7 + 3) (by omega)
          have s3 := fun o1 o2 o3 o4 => ((hb4 o1 o2 o3 o4).cell (cell_lt s3')).trans s3'
          have f3 := fun o1 o2 o3 o4 => ((hb4 o1 o2 o3 o4).frozen (cell_lt s3')).trans f3'
          clear s3' f3'
          obtain ⟨⟨y4, s4'⟩, f4'⟩ := there_cell hBs.vt (o := i * 7 + 4) (by omega)
          have s4 := fun o1 o2 o3 o4 => ((hb4 o1 o2 o3 o4).cell (cell_lt s4')).trans s4'
          have f4 := fun o1 o2 o3 o4 => ((hb4 o1 o2 o3 o4).frozen (cell_lt s4')).trans f4'
          clear s4' f4'
          obtain ⟨⟨y5, s5'⟩, f5'⟩ := there_cell hBs.vt (o := i * 7 + 5) (by omega)
          have s5 := fun o1 o2 o3 o4 => ((hb4 o1 o2 o3 o4).cell (cell_lt s5')).trans s5'
          have f5 := fun o1 o2 o3 o4 => ((hb4 o1 o2 o3 o4).frozen (cell_lt s5')).trans f5'
          clear s5' f5'
          obtain ⟨⟨y6, s6'⟩, f6'⟩ := there_cell hBs.vt (o := i * 7 + 6) (by omega)
          have s6 := fun o1 o2 o3 o4 => ((hb4 o1 o2 o3 o4).cell (cell_lt s6')).trans s6'
          have f6 := fun o1 o2 o3 o4 => ((hb4 o1 o2 o3 o4).frozen (cell_lt s6')).trans f6'
          clear s6' f6'
          go_cut [] (fun wx => ∃ hd, Bs w len z hd (i + 1) i (i + 1) wx)
          case first =>
            clear hb4 m23 m28 m29
            have hne : w.heap.size + 1 + 4 ≠ w2.heap.size := by omega
            go_region_held (fun w' => w'.cell? ⟨w2.heap.size, 0, none⟩ = some (.int .u32 (z.s i)) ∧ w'.cell? ⟨w2.heap.size, 1, none⟩ = some (.bool (z.c i)) ∧ w'.cell? ⟨w2.heap.size, 2, none⟩ = some (.int .u8 (z.r i)) ∧ w'.cell? ⟨w2.heap.size, 3, none⟩ = some (.int .i32 (z.h i))) (go_keep) ((go_at_call 6; refine (astake_any _ _ _ _ _ hzs).mono ?_; rintro e w3 ⟨rfl, rfl⟩))
            · go_wp2_with fail
              go_meet
              exact ⟨_, hBs.after1 hlt _ _ _ _ _ rfl⟩
            · go_wp2_with fail
              go_meet
              exact ⟨_, hBs.after2 hlt _ _ _ _ _ rfl⟩
          case rest =>
            obtain ⟨hd', hBc⟩ := hcut
            have g1 := hBc.ptr r hr4
            obtain ⟨⟨x0, a0⟩, e0⟩ := there_cell hBc.at_ (o := i * 6) (by omega)
            obtain ⟨⟨x1, a1⟩, e1⟩ := there_cell hBc.at_ (o := i * 6 + 1) (by omega)
            obtain ⟨⟨x2, a2⟩, e2⟩ := there_cell hBc.at_ (o := i * 6 + 2) (by omega)
            obtain ⟨⟨x3, a3⟩, e3⟩ := there_cell hBc.at_ (o := i * 6 + 3) (by omega)
            obtain ⟨⟨x4, a4⟩, e4⟩ := there_cell hBc.at_ (o := i * 6 + 4) (by omega)
            obtain ⟨⟨x5, a5⟩, e5⟩ := there_cell hBc.at_ (o := i * 6 + 5) (by omega)
            go_wp2_with fail
            go_roundw
            case rel => exact ⟨i + 1, by omega, by go_num, hd', by have h := hBc.setA hlt; rw [stL, ← Hr.out, hr] at h; exact h⟩
            case measure => simp [intOf]; omega
        · have hdn : decide ((i : Int) < (len : Int)) = false := by simp; omega
          have hin : i = len := by omega
          have hBn : Bs w len z hd len len len w2 := hin ▸ hBs
          clear hBs hin m23 m28 m29
          go_wp2_with fail
          obtain ⟨c, hbd, c0, c3, c5, c53⟩ := build99 ⟨w2.heap.size, 0, none⟩ ⟨w.heap.size + 1 + 4, 0, none⟩ ⟨w2.heap.size + 1, 0, none⟩ len len run
          refine wp_build_to 99 _ rfl #[(0, .pointer (some ⟨w2.heap.size, 0, none⟩)), (3, .slice (some ⟨w.heap.size + 1 + 4, 0, none⟩) len len), (5, .int .i64 run), (37, .agg #[.pointer (some ⟨w2.heap.size + 1, 0, none⟩), .int .i64 0, .int .i64 0])] (by first | go_simp | simp [Act.eval] | kernel_rfl) c hbd ?_
          go_wp2_with fail
          have hbs := hBn.size
          refine (backing_any (x := ⟨q, run, mc, fh⟩) (vals_ok hl hz) ⟨hrun, hmc⟩ (env_of hBn hz _ _ c _ _ _ _ _ rfl rfl c0 c3 c5 c53 rfl rfl rfl rfl rfl rfl) (fun r h => by simp at h) w.heap.size (by simp; omega) (fun j _ => by show w.heap.size ≤ w.heap.size + 1 + j; omega)).mono ?_
          rintro e w3 ⟨he, ⟨K', hE3, hK3⟩, hB3⟩
          obtain ⟨g, Hg, rfl⟩ : ∃ g, Hid (g = bk (vals len z) ⟨q, run, mc, fh⟩ (fin (vals len z) q) len) ∧ e = .returned (.int .i64 g) := ⟨_, rfl, he⟩
          clear he
          have hW : Below w.heap.size w w3 := (hBn.bel.trans (((((Below.refl _ _).alloc (Nat.le_refl _) _).alloc (by simp) _).alloc (by simp; omega) _).alloc (by simp; omega) _ |>.mono (by omega))).trans hB3
          have hA3 := hA.below hW
          have r3 : ∀ j, j < 4 → w3.cell? ⟨w.heap.size, j, none⟩ = some (.pointer (some ⟨w.heap.size + 1 + j, 0, none⟩)) := hE3.r
          have k3 : ∀ j, j < 4 → w3.cell? ⟨w.heap.size + 1 + j, 3, none⟩ = some (.bool (fin (vals len z) q j)) := fun j hj => by rw [← hK3 j]; exact hE3.k j hj
          clear hE3 hK3 hB3 hBn hbd c0 c3 c5 c53 hA hbs
          go_upto_block 4 with fail
          go_cut [] (fun wx => Below w3.heap.size w3 wx ∧ ∀ j, j < 4 → wx.cell? ⟨w3.heap.size, j + 1, none⟩ = some (.bool (fin (vals len z) q j)))
          case first =>
            go_wp2_with fail
            go_loopw [22] (fun rv wr => ∃ r : Nat, r ≤ 4 ∧ rv = .int .i64 ((r : Int) + 1) ∧ okUp (vals len z) q r = true ∧ St w3 (vals len z) q r wr) (fun rv _ => 5 - (intOf rv).toNat)
            case atStart => exact ⟨0, by omega, rfl, rfl, st_start w3 _ _⟩
            case round =>
              obtain ⟨r, hr5, rfl, hu, hSt⟩ := hrel
              rename World => w4
              have Hu : Hid (okUp (vals len z) q r = true) := hu
              clear hu
              by_cases hr4 : r < 4
              · have hdr : decide ((r : Int) + 1 ≤ 4) = true := by simp; omega
                go_wp2_with fail
                go_loopw [23, 24, 112] (fun hv sv iv wr => ∃ i : Nat, i ≤ len ∧ iv = .int .i64 i ∧ hv = .bool (hasR (vals len z) r i) ∧ sv = .int .i64 (sr (vals len z) r i) ∧ Below w4.heap.size w4 wr) (fun _ _ iv _ => len - (intOf iv).toNat)
                case atStart => exact ⟨0, by omega, rfl, rfl, rfl, Below.refl _ _⟩
                case round =>
                  obtain ⟨i4, hi4, rfl, rfl, rfl, hB5⟩ := hrel
                  rename World => w5
                  by_cases hlt4 : i4 < len
                  · obtain ⟨b, off, rfl, c1, c2, c3, c4⟩ := (hA3.below (hSt.bel.trans (hB5.mono hSt.bel.size))) i4 hlt4
                    have hzs := hz.s i4
                    have hzr := hz.r i4
                    have hzh := hz.h i4
                    have hsr := sr_range (vals_ok hl hz) r i4
                    have Hs := (show Hid _ from sr_succ (vals len z) r i4)
                    have Hh := (show Hid _ from hasR_succ (vals len z) r i4)
                    have hb : b < w5.heap.size := cell_lt c1
                    obtain ⟨r', hr', Hr⟩ : ∃ r : Nat, z.r i4 % 4 = (r : Int) ∧ Hid ((vals len z).R i4 = r) := ⟨(z.r i4 % 4).toNat, by omega, rfl⟩
                    have Hc : Hid ((vals len z).C i4 = z.c i4) := rfl
                    have HS : Hid ((vals len z).S i4 = z.s i4 % 1048576) := rfl
                    generalize hgs : sr (vals len z) r i4 = s0 at hsr Hs
                    generalize hgh : hasR (vals len z) r i4 = h0 at Hh
                    clear hgs hgh
                    go_light
                    cases hC : z.c i4
                    · rw [hC] at c2
                      by_cases hrr : r' = r
                      · have hbe : ((r' : Int) + 1 == (r : Int) + 1) = true := by simp; omega
                        have Hg1 : Hid ((!(vals len z).C i4 && decide ((vals len z).R i4 = r)) = true) := by show _ = _; rw [Hc.out, Hr.out, hC]; simpa using hrr
                        clear hrr
                        go_wp2_with (first
                          | (go_at_call 5; refine (around_any _ _ _ _ _ hzr).mono ?_; rintro e w6 ⟨rfl, rfl⟩)
                          | (go_at_call 6; refine (astake_any _ _ _ _ _ hzs).mono ?_; rintro e w6 ⟨rfl, rfl⟩)
                          | fail)
                        go_roundw
                        case rel => exact ⟨i4 + 1, by omega, by go_num, by rw [Hh.out, if_pos Hg1.out], by rw [Hs.out, if_pos Hg1.out, HS.out], ((hB5.alloc hB5.size _).alloc (by simp; exact Nat.le_succ_of_le hB5.size) _).alloc (by simp; exact Nat.le_succ_of_le (Nat.le_succ_of_le hB5.size)) _⟩
                        case measure => simp [intOf]; omega
                      · have hbe : ((r' : Int) + 1 == (r : Int) + 1) = false := by simp; omega
                        have Hg1 : Hid (¬ (!(vals len z).C i4 && decide ((vals len z).R i4 = r)) = true) := by show ¬ _; rw [Hc.out, Hr.out, hC]; simpa using hrr
                        clear hrr
                        go_wp2_with (first
                          | (go_at_call 5; refine (around_any _ _ _ _ _ hzr).mono ?_; rintro e w6 ⟨rfl, rfl⟩)
                          | fail)
                        go_roundw
                        case rel => exact ⟨i4 + 1, by omega, by go_num, by rw [Hh.out, if_neg Hg1.out], by rw [Hs.out, if_neg Hg1.out], (hB5.alloc hB5.size _).alloc (by simp; exact Nat.le_succ_of_le hB5.size) _⟩
                        case measure => simp [intOf]; omega
                    · rw [hC] at c2
                      have Hg1 : Hid (¬ (!(vals len z).C i4 && decide ((vals len z).R i4 = r)) = true) := by show ¬ _; rw [Hc.out, hC]; simp
                      go_wp2_with fail
                      go_roundw
                      case rel => exact ⟨i4 + 1, by omega, by go_num, by rw [Hh.out, if_neg Hg1.out], by rw [Hs.out, if_neg Hg1.out], hB5.alloc hB5.size _⟩
                      case measure => simp [intOf]; omega
                  · have hdn : decide ((i4 : Int) < (len : Int)) = false := by simp; omega
                    have hin : i4 = len := by omega
                    have hSt5 := hSt.grow hB5
                    have hcr := hSt5.c r hr4
                    have hfr := hSt5.f r hr4
                    cases hh : hasR (vals len z) r i4
                    · have Hh : Hid (hasR (vals len z) r (vals len z).n = false) := by show hasR (vals len z) r len = false; have h := hh; rw [hin] at h; exact h
                      clear hin
                      go_wp2_with fail
                      go_roundw
                      case rel => exact ⟨r + 1, by omega, by go_num, okUp_skip Hu.out Hh.out, hSt5.skip Hh.out⟩
                      case measure => simp [intOf]; omega
                    · have Hh : Hid (hasR (vals len z) r (vals len z).n = true) := by show hasR (vals len z) r len = true; have h := hh; rw [hin] at h; exact h
                      by_cases hs : sr (vals len z) r i4 < q
                      · have hsd : decide (q ≤ sr (vals len z) r i4) = false := by simp; omega
                        have Hs : Hid (sr (vals len z) r (vals len z).n < q) := by show sr (vals len z) r len < q; have h := hs; rw [hin] at h; exact h
                        clear hin hs
                        go_wp2_with fail
                        go_roundw
                        case rel => exact ⟨r + 1, by omega, by go_num, okUp_on Hu.out Hs.out, hSt5.set hr4 (fin_on Hu.out Hh.out Hs.out)⟩
                        case measure => simp [intOf]; omega
                      · have hsd : decide (q ≤ sr (vals len z) r i4) = true := by simp; omega
                        have Hs : Hid (q ≤ sr (vals len z) r (vals len z).n) := by show q ≤ sr (vals len z) r len; have h := hs; rw [hin] at h; omega
                        clear hin hs
                        go_wp2_with fail
                        go_meet
                        exact ⟨hSt5.bel, hSt5.stop Hh.out (Int.not_lt.2 Hs.out)⟩
              · have hdr : decide ((r : Int) + 1 ≤ 4) = false := by simp; omega
                have hr4' : r = 4 := by omega
                have hSt4 : St w3 (vals len z) q 4 w4 := hr4' ▸ hSt
                clear hr4'
                go_wp2_with fail
                go_meet
                exact ⟨hSt4.bel, hSt4.all⟩
          case rest =>
            obtain ⟨hBc, hsc⟩ := hcut
            have hWc : Below w.heap.size w wc := hW.trans (hBc.mono hW.size)
            have hAc := hA3.below hBc
            have rc : ∀ j, j < 4 → wc.cell? ⟨w.heap.size, j, none⟩ = some (.pointer (some ⟨w.heap.size + 1 + j, 0, none⟩)) := fun j hj => by rw [hBc.cell (cell_lt (r3 j hj))]; exact r3 j hj
            have kc : ∀ j, j < 4 → wc.cell? ⟨w.heap.size + 1 + j, 3, none⟩ = some (.bool (fin (vals len z) q j)) := fun j hj => by rw [hBc.cell (cell_lt (k3 j hj))]; exact k3 j hj
            clear r3 k3 hA3 hBc
            go_wp2_with fail
            go_loopw [27, 140] (fun wv iv wr => ∃ i : Nat, i ≤ len ∧ iv = .int .i64 i ∧ wv = .int .i64 (bk (vals len z) ⟨q, run, mc, fh⟩ (fin (vals len z) q) i) ∧ Below wc.heap.size wc wr) (fun _ iv _ => len - (intOf iv).toNat)
            case atStart => exact ⟨0, by omega, rfl, rfl, Below.refl _ _⟩
            case round =>
              obtain ⟨i4, hi4, rfl, rfl, hB5⟩ := hrel
              rename World => w5
              by_cases hlt4 : i4 < len
              · obtain ⟨b, off, rfl, c1, c2, c3, c4⟩ := hAc.below hB5 i4 hlt4
                have hzs := hz.s i4
                have hzr := hz.r i4
                have hzh := hz.h i4
                have Hs := (show Hid _ from bk_succ (vals len z) ⟨q, run, mc, fh⟩ (fin (vals len z) q) i4)
                have hb : b < w5.heap.size := cell_lt c1
                obtain ⟨r', hr', Hr⟩ : ∃ r : Nat, z.r i4 % 4 = (r : Int) ∧ Hid ((vals len z).R i4 = r) := ⟨(z.r i4 % 4).toNat, by omega, rfl⟩
                have hr4 : r' < 4 := by omega
                have hst : w5.cell? ⟨w3.heap.size, r' + 1, none⟩ = some (.bool (fin (vals len z) q r')) := by rw [hB5.cell (cell_lt (hsc r' hr4))]; exact hsc r' hr4
                have lS : w3.heap.size < w5.heap.size := cell_lt hst
                have Hc : Hid ((vals len z).C i4 = z.c i4) := rfl
                have HS : Hid ((vals len z).S i4 = z.s i4 % 1048576) := rfl
                have HH : Hid ((vals len z).H i4 = z.h i4) := rfl
                generalize hgs : bk (vals len z) ⟨q, run, mc, fh⟩ (fin (vals len z) q) i4 = s0 at Hs
                clear hgs
                go_light
                cases hC : z.c i4
                · rw [hC] at c2
                  cases hk : fin (vals len z) q r'
                  · rw [hk] at hst
                    have Hx : Hid (bk (vals len z) ⟨q, run, mc, fh⟩ (fin (vals len z) q) (i4 + 1) = s0) := by show _ = _; rw [Hs.out, cut, Hc.out, Hr.out, hC, hk]; rfl
                    go_wp2_with (first
                      | (go_at_call 5; refine (around_any _ _ _ _ _ hzr).mono ?_; rintro e w6 ⟨rfl, rfl⟩)
                      | fail)
                    go_roundw
                    case rel => exact ⟨i4 + 1, by omega, by go_num, by rw [Hx.out], (hB5.alloc hB5.size _).alloc (by simp; exact Nat.le_succ_of_le hB5.size) _⟩
                    case measure => simp [intOf]; omega
                  · rw [hk] at hst
                    by_cases hm1 : z.h i4 - mc ≤ fh
                    · have hd2 : decide (z.h i4 - mc ≤ fh) = true := by simpa using hm1
                      have Hx : Hid (bk (vals len z) ⟨q, run, mc, fh⟩ (fin (vals len z) q) (i4 + 1) = wrap64 (s0 - z.s i4 % 1048576)) := by show _ = _; rw [Hs.out, cut, Hc.out, Hr.out, HH.out, hC, hk, hd2]; rfl
                      clear hm1
                      go_wp2_with (first
                        | (go_at_call 5; refine (around_any _ _ _ _ _ hzr).mono ?_; rintro e w6 ⟨rfl, rfl⟩)
                        | (go_at_call 6; refine (astake_any _ _ _ _ _ hzs).mono ?_; rintro e w6 ⟨rfl, rfl⟩)
                        | fail)
                      go_roundw
                      case rel => exact ⟨i4 + 1, by omega, by go_num, by rw [Hx.out], ((hB5.alloc hB5.size _).alloc (by simp; exact Nat.le_succ_of_le hB5.size) _).alloc (by simp; exact Nat.le_succ_of_le (Nat.le_succ_of_le hB5.size)) _⟩
                      case measure => simp [intOf]; omega
                    · have hd2 : decide (z.h i4 - mc ≤ fh) = false := by simpa using hm1
                      have Hx : Hid (bk (vals len z) ⟨q, run, mc, fh⟩ (fin (vals len z) q) (i4 + 1) = s0) := by show _ = _; rw [Hs.out, cut, Hc.out, Hr.out, HH.out, hC, hk, hd2]; rfl
                      clear hm1
                      go_wp2_with (first
                        | (go_at_call 5; refine (around_any _ _ _ _ _ hzr).mono ?_; rintro e w6 ⟨rfl, rfl⟩)
                        | fail)
                      go_roundw
                      case rel => exact ⟨i4 + 1, by omega, by go_num, by rw [Hx.out], (hB5.alloc hB5.size _).alloc (by simp; exact Nat.le_succ_of_le hB5.size) _⟩
                      case measure => simp [intOf]; omega
                · rw [hC] at c2
                  have Hx : Hid (bk (vals len z) ⟨q, run, mc, fh⟩ (fin (vals len z) q) (i4 + 1) = s0) := by show _ = _; rw [Hs.out, cut, Hc.out, hC]; rfl
                  go_wp2_with fail
                  go_roundw
                  case rel => exact ⟨i4 + 1, by omega, by go_num, by rw [Hx.out], hB5.alloc hB5.size _⟩
                  case measure => simp [intOf]; omega
              · have hdn : decide ((i4 : Int) < (len : Int)) = false := by simp; omega
                have hin : i4 = len := by omega
                have hge : bk (vals len z) ⟨q, run, mc, fh⟩ (fin (vals len z) q) i4 = g := by rw [hin]; exact Hg.out.symm
                have hW5 : Below w.heap.size w w5 := hWc.trans (hB5.mono hWc.size)
                have r5 : ∀ j, j < 4 → w5.cell? ⟨w.heap.size, j, none⟩ = some (.pointer (some ⟨w.heap.size + 1 + j, 0, none⟩)) := fun j hj => by rw [hB5.cell (cell_lt (rc j hj))]; exact rc j hj
                have k5 : ∀ j, j < 4 → w5.cell? ⟨w.heap.size + 1 + j, 3, none⟩ = some (.bool (fin (vals len z) q j)) := fun j hj => by rw [hB5.cell (cell_lt (kc j hj))]; exact kc j hj
                have s5 : ∀ j, j < 4 → w5.cell? ⟨w3.heap.size, j + 1, none⟩ = some (.bool (fin (vals len z) q j)) := fun j hj => by rw [hB5.cell (cell_lt (hsc j hj))]; exact hsc j hj
                clear hin rc kc hsc hAc hB5 hWc
                rw [hge]
                clear hge
                go_wp2_with fail
                go_loopw [30] (fun rv wr => ∃ r : Nat, r ≤ 4 ∧ rv = .int .i64 ((r : Int) + 1) ∧ Below w5.heap.size w5 wr) (fun rv _ => 5 - (intOf rv).toNat)
                case atStart => exact ⟨0, by omega, rfl, Below.refl _ _⟩
                case round =>
                  obtain ⟨r, hr5, rfl, hB6⟩ := hrel
                  rename World => w6
                  by_cases hr4 : r < 4
                  · have hdr : decide ((r : Int) + 1 ≤ 4) = true := by simp; omega
                    have g1 : w6.cell? ⟨w.heap.size, r, none⟩ = some (.pointer (some ⟨w.heap.size + 1 + r, 0, none⟩)) := by rw [hB6.cell (cell_lt (r5 r hr4))]; exact r5 r hr4
                    have g2 : w6.cell? ⟨w.heap.size + 1 + r, 3, none⟩ = some (.bool (fin (vals len z) q r)) := by rw [hB6.cell (cell_lt (k5 r hr4))]; exact k5 r hr4
                    have g3 : w6.cell? ⟨w3.heap.size, r + 1, none⟩ = some (.bool (fin (vals len z) q r)) := by rw [hB6.cell (cell_lt (s5 r hr4))]; exact s5 r hr4
                    generalize hfb : fin (vals len z) q r = fb at g2 g3
                    clear hfb
                    go_wp2_with fail
                    go_quiet (fail)
                    go_wp2_with fail
                    go_roundw
                    case rel => exact ⟨r + 1, by omega, by go_num, below_drewN hB6 _⟩
                    case measure => simp [intOf]; omega
                  · have hdr : decide ((r : Int) + 1 ≤ 4) = false := by simp; omega
                    go_wp2_with fail
                    go_ret
                    exact ⟨rfl, hW5.trans (hB6.mono hW5.size)⟩

end Go.Proofs.Ybulkavbi
