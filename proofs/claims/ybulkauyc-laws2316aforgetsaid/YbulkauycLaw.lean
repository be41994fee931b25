/-
  LawS2316AForget's walk, where there is at least one mask.
-/
import Derived.Test.YbulkauycParts
import Derived.Deep.DeepCutAuto
import Derived.Deep.CutBlock
import Derived.Deep.QuietTactic
import Derived.BigQuiet
import Derived.Deep.Light
namespace Go.Proofs.Ybulkauyc
open Go Go.Maps Go.RowKit

set_option maxRecDepth 100000 in
set_option maxHeartbeats 4000000 in
theorem law_some (name : ByteArray) (b off len cap : Nat) (z : List Int) (fm em ev : Int) (w : World) (hname : name.size ≤ 140737488351232)
    (hl0 : 0 < len) (hl1 : len ≤ 256)
    (hcell : ∀ i, i < len → w.cell? ⟨b, off + i, none⟩ = some (.int .u8 (z.getD i 0))) (hwz : ∀ i, 0 ≤ z.getD i 0 ∧ z.getD i 0 ≤ 255)
    (_hfm : 0 ≤ fm ∧ fm ≤ 255) (_hem : 0 ≤ em ∧ em ≤ 255) (_hev : 0 ≤ ev ∧ ev ≤ 255) :
    Calls Yba.prog 3 #[.string name, .slice (some ⟨b, off, none⟩) len cap, .int .u8 fm, .int .u8 em, .int .u8 ev] w fun e w' => e = .returned (.bool true) ∧ Below w.heap.size w w' := by
  have hmm := @run_makeMap Yba.prog
  have hcat := run_string_add_sum (P := Yba.prog) (w := w) name ⟨#[35]⟩ (by show name.size + 1 ≤ _; omega)
  have hd : decide ((256 : Int) < (len : Int)) = false := by simp; omega
  go_enter Yba.func3, Yba.ntmps3
  go_wp2_with fail
  go_loopw [13] (fun kv wr => ∃ k n : Nat, k ≤ 4 ∧ kv = .int .i64 k ∧ n ≤ k ∧ IsM Yba.prog 9 wr w.heap.size n (fill (bt fm) vT k) ∧ Fr (fun _ => False) w wr)
    (fun kv _ => 4 - (intOf kv).toNat)
  case atStart => exact ⟨0, 0, by omega, rfl, by omega, IsM.made _ _ _, Fr.alloc _ _⟩
  case round =>
    obtain ⟨k, n, hk, rfl, hn, hM, hfr⟩ := hrel
    rename World => w1
    by_cases hlt : k < 4
    ·
      go_light
      cases hb : bt fm k
      · have hb' : (bits BinOp.and IntKind.u8 (fm / 2 ^ k) 1 == 1) = false := hb
        go_wp2_with fail
        go_roundw
        case rel => exact ⟨k + 1, n, by omega, by go_num, by omega, by rw [fill, hb]; exact hM, hfr⟩
        case measure => simp [intOf]; omega
      · have hb' : (bits BinOp.and IntKind.u8 (fm / 2 ^ k) 1 == 1) = true := hb
        go_wp2_with (first
          | (go_at_call 6; refine (key_any k hlt _).mono ?_; rintro e w2 ⟨rfl, rfl⟩)
          | (at_mapUpdate; refine wpList_storeM _ rfl _ _ _ 23 rfl 9 25 u9 Yba.underlying23 w.heap.size n _ rfl hM (by unfold maxLen; omega) (keyS k) (vT k) rfl rfl (keyS_size k) ?_; intro w2 hM2 hturn)
          | go_in)
        go_roundw
        case rel => exact ⟨k + 1, _, by omega, by go_num, ite_le1 hn, by rw [fill, hb]; exact hM2, hfr.andThen (Fr.turned hturn) (fun i e => Or.inr (by omega))⟩
        case measure => simp [intOf]; omega
    · have hd4 : decide ((k : Int) < 4) = false := by simp; omega
      go_wp2_with fail
      have hk4 : k = 4 := by omega
      have hM4 : IsM Yba.prog 9 w1 w.heap.size n (fill (bt fm) vT 4) := hk4 ▸ hM
      have hn4 : n ≤ 4 := by omega
      clear hlt hk hcat hmm hM hn hk4
      have hft := hM4.lt
      go_loopw [15, 58] (fun uv iv wr => ∃ i : Nat, i ≤ len ∧ iv = .int .i64 i ∧ uv = .int .u8 (un z i) ∧ Masks w1 z i wr)
        (fun _ iv _ => len - (intOf iv).toNat)
      case atStart => exact ⟨0, by omega, rfl, rfl, masks_start w1 z⟩
      case round =>
        obtain ⟨i, hi, rfl, rfl, hMk⟩ := hrel
        rename World => w2
        have hmm := @run_makeMap Yba.prog
        by_cases hlt : i < len
        ·
          go_light
          have hc2 : w2.cell? ⟨b, off + i, none⟩ = some (.int .u8 (z.getD i 0)) := by
            obtain ⟨_, _, _, hf⟩ := hMk
            have h1 := cell_lt (hcell i hlt)
            rw [hf.cell (p := ⟨b, off + i, none⟩) (Nat.lt_of_lt_of_le h1 hfr.size) (fun e => e), hfr.cell (p := ⟨b, off + i, none⟩) h1 (fun e => e)]
            exact hcell i hlt
          have hzi := hwz i
          have HMk : Hid (Masks w1 z i w2) := hMk
          clear hMk
          generalize hmi : z.getD i 0 = mi at hc2 hzi
          have Hmi : Hid (z.getD i 0 = mi) := hmi
          clear hmi
          go_wp2_with fail
          clear hc2
          go_loopw [19] (fun kv wr => ∃ (k nf : Nat) (g : List UInt8 → Option Value), k ≤ 4 ∧ kv = .int .i64 k ∧ nf ≤ k ∧ IsM Yba.prog 9 wr w2.heap.size nf g ∧ (∀ x, (g x).isSome = inK (bt mi) k x) ∧ Fr (fun _ => False) w2 wr)
            (fun kv _ => 4 - (intOf kv).toNat)
          case atStart => exact ⟨0, 0, _, by omega, rfl, by omega, IsM.made _ _ _, fun _ => rfl, Fr.alloc _ _⟩
          case round =>
            obtain ⟨k, nf, g, hk, rfl, hnf, hG, hgs, hf3⟩ := hrel
            rename World => w3
            have Hgs : Hid (∀ x, (g x).isSome = inK (bt mi) k x) := hgs
            clear hgs
            by_cases hlt3 : k < 4
            · cases hb : bt mi k
              · have hb' : (bits BinOp.and IntKind.u8 (mi / 2 ^ k) 1 == 1) = false := hb
                go_wp2_with fail
                go_roundw
                case rel => exact ⟨k + 1, nf, g, by omega, by go_num, by omega, hG, fun x => (by rw [inK, hb, Hgs.out x]; simp), hf3⟩
                case measure => simp [intOf]; omega
              · have hb' : (bits BinOp.and IntKind.u8 (mi / 2 ^ k) 1 == 1) = true := hb
                go_wp2_with (first
                  | (go_at_call 6; refine (key_any k hlt3 _).mono ?_; rintro e w4 ⟨rfl, rfl⟩)
                  | (at_mapUpdate; refine wpList_storeM _ rfl _ _ _ 28 rfl 9 29 u9 Yba.underlying28 w2.heap.size nf g rfl (hG.alloc _) (by unfold maxLen; omega) (keyS k) _ rfl rfl (keyS_size k) ?_; intro w4 hG4 hturn)
                  | go_in)
                go_roundw
                case rel => exact ⟨k + 1, _, _, by omega, by go_num, ite_le1 hnf, hG4, inK_step hb Hgs.out _, (hf3.andThen (Fr.alloc _ _) (fun i e => False.elim e)).andThen (Fr.turned hturn) (fun i e => Or.inr (by omega))⟩
                case measure => simp [intOf]; omega
            · have hd4 : decide ((k : Int) < 4) = false := by simp; omega
              have hcv := run_conv i
              obtain ⟨fS, hser, hkeys, hf12⟩ := HMk.out
              have hS3 : IsM Yba.prog 9 w3 w1.heap.size i fS := hser.1.fr hf3 (fun e => e)
              have Hkeys := (show Hid (∀ s, (fS s).isSome = true ↔ ∃ j, j < i ∧ s = [UInt8.ofNat j]) from hkeys)
              clear hkeys
              go_wp2_with (first
                | (at_mapUpdate; refine wpList_storeM _ rfl _ _ _ 27 rfl 9 34 u9 Yba.underlying27 w1.heap.size i fS rfl ((hS3.alloc _).alloc _) (by unfold maxLen; omega) (byteS i) _ rfl rfl (byteS_size i) ?_; intro w4 hS4 hturn)
                | go_in)
              go_roundw
              case rel =>
                have hk4' : k = 4 := by omega
                exact ⟨i + 1, by omega, by go_num, by rw [un, Hmi.out], masks_step hser Hkeys.out hf12 (by omega) Hmi.out hf3 hG (hk4' ▸ Hgs.out) _ hS4 hturn⟩
              case measure => simp [intOf]; omega
        · have hdl : decide ((i : Int) < (len : Int)) = false := by simp; omega
          have Hi : Hid (i = len) := by show i = len; omega
          have h44 := run_ins44
          have hne := hne_other name
          have hsa : name.size ≤ maxLen := by unfold maxLen; omega
          have hsb : (name ++ ⟨#[35]⟩).size ≤ maxLen := by
            rw [ByteArray.size_append]
            have h2 : (⟨#[35]⟩ : ByteArray).size = 1 := rfl
            unfold maxLen; omega
          have h52a := fun (W : World) (n : Nat) (v : Value) (hn : n = W.heap.size) => run_ins52 W.drew n name v hsa hn
          have h52b := fun (W : World) (n : Nat) (v : Value) (hn : n = W.heap.size) => run_ins52 W.drew n (name ++ ⟨#[35]⟩) v hsb hn
          have h52c := fun (W : World) (n : Nat) (v v' : Value) (hn : n = W.heap.size) => run_ins52b W.drew n name (name ++ ⟨#[35]⟩) v v' hsa hsb hne hn
          have h52d := fun (W : World) (n : Nat) (v v' : Value) (hn : n = W.heap.size) => run_ins52b W.drew n (name ++ ⟨#[35]⟩) name v v' hsb hsa (Ne.symm hne) hn
          have edr : ∀ (W : World) (o : Obj), W.drew.alloc o = (W.alloc o).drew := fun _ _ => rfl
          simp only [edr] at h52a h52b h52c h52d
          clear edr hne
          go_upto_region 27 with fail
          go_cut [20, 21, 22, 23] (fun mv omv pv shv wx => ∃ mB omB pB mbB shB tB : Nat, mv = .pointer (some ⟨mB, 0, none⟩) ∧ omv = .pointer (some ⟨omB, 0, none⟩) ∧ pv = .pointer (some ⟨pB, 0, none⟩) ∧ shv = .pointer (some ⟨shB, 0, none⟩) ∧ w2.heap.size ≤ mB ∧ mB < omB ∧ omB < pB ∧ pB < mbB ∧ mbB < shB ∧ shB < wx.heap.size ∧
            Built wx name w.heap.size w1.heap.size mB omB pB mbB shB (.map (some tB)) ∧ Fr (fun _ => False) w2 wx)
          case first =>
            go_region
            · go_wp2_with fail
              go_meet
              exact ⟨_, _, _, w2.heap.size + 1 + 1 + 1 + 1 + 1 + 1, _, _, rfl, rfl, rfl, rfl, by omega, by omega, by omega, by omega, by omega, by simp, built_a w2 name w.heap.size w1.heap.size hsa hsb (hne_other name), built_fr w2 w.heap.size w1.heap.size _ _⟩
            · go_wp2_with fail
              go_meet
              exact ⟨_, _, _, w2.heap.size + 1 + 1 + 1 + 1 + 1 + 1, _, _, rfl, rfl, rfl, rfl, by omega, by omega, by omega, by omega, by omega, by simp, built_b w2 name w.heap.size w1.heap.size hsa hsb (hne_other name), built_fr w2 w.heap.size w1.heap.size _ _⟩
          case rest =>
            obtain ⟨mB, omB, pB, mbB, shB, tB, rfl, rfl, rfl, rfl, o0, o1, o2, o3, o4, o5, hBt, hf2c⟩ := hcut
            have hMkc := hMk
            clear hMk h52a h52b h52c h52d h44
            go_wp2_with fail
            go_loopw [25] (fun kv wr => ∃ k nE : Nat, k ≤ 4 ∧ kv = .int .i64 k ∧ nE ≤ k ∧ IsM Yba.prog 9 wr wc.heap.size nE (fill (bt em) (vE ev) k) ∧ Fr (fun _ => False) wc wr)
              (fun kv _ => 4 - (intOf kv).toNat)
            case atStart => exact ⟨0, 0, by omega, rfl, by omega, IsM.made _ _ _, Fr.alloc _ _⟩
            case round =>
              obtain ⟨k4, nE, hk, rfl, hnE, hE, hfE⟩ := hrel
              rename World => w3
              by_cases hlt4 : k4 < 4
              ·
                go_light
                cases hb : bt em k4
                · have hb' : (bits BinOp.and IntKind.u8 (em / 2 ^ k4) 1 == 1) = false := hb
                  go_wp2_with fail
                  go_roundw
                  case rel => exact ⟨k4 + 1, nE, by omega, by go_num, by omega, by rw [fill, hb]; exact hE, hfE⟩
                  case measure => simp [intOf]; omega
                · have hb' : (bits BinOp.and IntKind.u8 (em / 2 ^ k4) 1 == 1) = true := hb
                  go_wp2_with (first
                    | (go_at_call 6; refine (key_any k4 hlt4 _).mono ?_; rintro e w4 ⟨rfl, rfl⟩)
                    | (at_mapUpdate; refine wpList_storeM _ rfl _ _ _ 70 rfl 9 4 u9 Yba.underlying70 wc.heap.size nE _ rfl hE (by unfold maxLen; omega) (keyS k4) (vE ev k4) rfl rfl (keyS_size k4) ?_; intro w4 hE4 hturn)
                    | go_in)
                  go_roundw
                  case rel => exact ⟨k4 + 1, _, by omega, by go_num, ite_le1 hnE, by rw [fill, hb]; exact hE4, hfE.andThen (Fr.turned hturn) (fun i e => Or.inr (by omega))⟩
                  case measure => simp [intOf]; omega
              · have hd44 : decide ((k4 : Int) < 4) = false := by simp; omega
                have hk44 : k4 = 4 := by omega
                have hE4 : IsM Yba.prog 9 w3 wc.heap.size nE (fill (bt em) (vE ev) 4) := hk44 ▸ hE
                clear hE hk44 hk hlt4
                obtain ⟨fM, m1, m2, m3⟩ := hBt.hM
                have hBt3 := hBt.fr hfE (fun i e => False.elim e) o1 o2 o3 o4 o5
                obtain ⟨fS, hser, hkeys, hf12⟩ := hMkc
                have hser3 := (hser.fr hf2c (fun i e => False.elim e)).fr hfE (fun i e => False.elim e)
                have hT3 : IsM Yba.prog 9 w3 w.heap.size n (fill (bt fm) vT 4) := (((hM4.fr hf12 (fun e => e)).fr hf2c (fun e => e)).fr hfE (fun e => e))
                have hM3 : IsM Yba.prog 9 w3 mbB 2 fM := m1.fr hfE (fun e => e)
                have hU := fun x => unK_iff hwz (show i ≤ 256 by omega) hkeys x
                have hs12 := hser.1.lt
                have hs3c : wc.heap.size < w3.heap.size := hE4.lt
                have hi0 : 0 < i := by have := Hi.out; omega
                have hs2c := hf2c.size
                have hfo := forget_some shB pB mB mbB w.heap.size wc.heap.size w1.heap.size w2.heap.size w1.heap.size i 2 n nE name fM fS (fill (bt fm) vT 4) (fill (bt em) (vE ev) 4) (hsZ z) (unK z i) (.map (some tB)) w3 hsa
                  hBt3.c1 hBt3.c2 hM3 m2 hBt3.c3 hBt3.c4 hBt3.c5 hBt3.f5 hser3 hT3 hE4 hU hi0
                  (by omega) (by omega) (by omega) (by omega) (by omega) (by omega) (Or.inr (by omega)) (Or.inl (by omega)) (by omega) (by omega) (by omega) (by omega)
                have Hfo := hfo
                clear hfo hU hkeys
                go_wp2_with fail
                refine Hfo.mono ?_
                rintro e w4 ⟨rfl, nT', hnT', hT4, ⟨q, hq1, hq2⟩, hf34⟩
                have hs4 : w3.heap.size ≤ w4.heap.size := hf34.size
                have g1 : w4.cell? ⟨shB, 4, none⟩ = some (.map (some mbB)) := by rw [hf34.cell (p := ⟨shB, 4, none⟩) (show shB < _ by omega) (show ¬ (shB = _ ∨ shB = _) by omega)]; exact hBt3.c2
                have g2 : w4.cell? ⟨mB, 0, none⟩ = some (.map (some w.heap.size)) := by rw [hf34.cell (p := ⟨mB, 0, none⟩) (show mB < _ by omega) (show ¬ (mB = _ ∨ mB = _) by omega)]; exact hBt3.c3
                have g3 : w4.cell? ⟨mB, 1, none⟩ = some (.map (some w1.heap.size)) := by rw [hf34.cell (p := ⟨mB, 1, none⟩) (show mB < _ by omega) (show ¬ (mB = _ ∨ mB = _) by omega)]; exact hBt3.c4
                have hM4' : IsM Yba.prog 9 w4 mbB 2 fM := hM3.fr hf34 (show ¬ (mbB = _ ∨ mbB = _) by omega)
                have hS4' : IsM Yba.prog 9 w4 w1.heap.size i fS := hser3.1.fr hf34 (show ¬ (w1.heap.size = _ ∨ w1.heap.size = _) by omega)
                have lk1 := hM4'.look u9 Yba.underlying52 (z38 _) hsb
                rw [m3] at lk1
                have lk2 := hM4'.look u9 Yba.underlying52 (z38 _) hsa
                rw [m2] at lk2
                have ln1 := hS4'.len Yba.underlying27
                have ln2 := hM4'.len Yba.underlying52
                have e1 : ((i : Int) != (len : Int)) = false := by rw [Hi.out]; simp
                have e2 : ((len : Int) == 0) = false := by simp; omega
                obtain ⟨tv, g5, htv⟩ := types_of hq1 hq2
                have Htv : Hid (tv.isNone = fg em (un z i) 4) := htv
                have n38 := run_neq38
                have n44 := run_eql44
                have hun := un_range hwz i
                have HT4 : Hid (IsM Yba.prog 9 w4 w.heap.size nT' (struck (fill (bt em) (vE ev) 4) (unK z i) (fun _ => false) (fill (bt fm) vT 4))) := hT4
                have Hf34 : Hid (Fr (fun i => i = w.heap.size ∨ i = pB) w3 w4) := hf34
                clear hq1 htv hq2 hT4 hf34 hM4' hS4' hser3 hM3 hBt3 hBt m1 m2 m3 hE4 hT3 hser hM4 hcell hwz
                go_wp2_with fail
                clear lk1 lk2 ln1 ln2 e1 g1 g3 hsa hsb n38 hmm
                go_loopw [28, 29] (fun fv kv wr => ∃ k5 : Nat, k5 ≤ 4 ∧ kv = .int .i64 k5 ∧ fv = .bool (fg em (un z i) k5) ∧ Fr (fun _ => False) w4 wr)
                  (fun _ kv _ => 4 - (intOf kv).toNat)
                case atStart => exact ⟨0, by omega, rfl, rfl, Fr.refl _ _⟩
                case round =>
                  obtain ⟨k5, hk5, rfl, rfl, hf5⟩ := hrel
                  rename World => w5
                  have hmB4 : mB < w4.heap.size := by omega
                  have r2 : w5.cell? ⟨mB, 0, none⟩ = some (.map (some w.heap.size)) := by rw [hf5.cell (p := ⟨mB, 0, none⟩) hmB4 (fun e => e)]; exact g2
                  have hT5 := HT4.out.fr hf5 (fun e => e)
                  by_cases hlt5 : k5 < 4
                  · go_light
                    have hfk := final_key fm em ev z i hlt5
                    have hlk := fun nq : Nat => (hT5.block (w' := w5.drewN nq) (by simp)).look_ok u9 Yba.underlying23 (z25 _) (keyS_size k5)
                    rw [keyS_data, hfk] at hlk
                    have hfg : fg em (un z i) (k5 + 1) = (fg em (un z i) k5 || (bt em k5 && !bt (un z i) k5)) := rfl
                    have hbz := bt_zero (un z i) hun.1 hun.2 k5
                    clear hfk hT5
                    cases hbe : bt em k5 <;> cases hbu : bt (un z i) k5 <;> cases hbf : bt fm k5
                    all_goals
                      have xe : (bits BinOp.and IntKind.u8 (em / 2 ^ k5) 1 == 1) = _ := hbe
                      have xf : (bits BinOp.and IntKind.u8 (fm / 2 ^ k5) 1 == 1) = _ := hbf
                      rw [hbu] at hbz
                      rw [hbe, hbu, hbf] at hlk
                      rw [hbe, hbu] at hfg
                      simp only [Bool.and_true, Bool.and_false, Bool.not_true, Bool.not_false, Bool.false_eq_true, if_true, if_false, Option.getD_some, Option.getD_none, Option.isSome_some, Option.isSome_none, Bool.or_false, vT] at hlk hbz hfg
                      have Hfg : Hid (_ = _) := hfg
                      clear hfg hbe hbf hbu
                    all_goals
                      go_wp2_with fail
                      go_quiet ((go_at_call 6; exact Calls.quiet_of_same (key_any k5 hlt5 _)))
                      go_wp2_with fail
                      go_roundw
                      case rel => exact ⟨k5 + 1, by omega, by go_num, (by first | (rw [Hfg.out]; done) | (rw [Hfg.out]; simp)), hf5.trans (Fr.drewN _ _)⟩
                      case measure => simp [intOf]; omega
                  · have hpB4 : pB < w4.heap.size := by omega
                    have r5 : w5.cell? ⟨pB, 5, none⟩ = some (.map tv) := by rw [hf5.cell (p := ⟨pB, 5, none⟩) hpB4 (fun e => e)]; exact g5
                    have lnr := hT5.len Yba.underlying23
                    have hnle : nT' ≤ 4 := by omega
                    have dk5 : decide ((k5 : Int) < 4) = false := by simp; omega
                    have hk54 : k5 = 4 := by omega
                    have hbel : Below w.heap.size w w5 := by
                      have f1 : Fr (fun i => w.heap.size ≤ i) w w1 := hfr.mono (fun i e => False.elim e)
                      have f2 : Fr (fun i => w.heap.size ≤ i) w w2 := f1.trans (hf12.mono (fun i e => False.elim e))
                      have f3 : Fr (fun i => w.heap.size ≤ i) w wc := f2.trans (hf2c.mono (fun i e => False.elim e))
                      have f4 : Fr (fun i => w.heap.size ≤ i) w w3 := f3.trans (hfE.mono (fun i e => False.elim e))
                      have f5 : Fr (fun i => w.heap.size ≤ i) w w4 := f4.trans (Hf34.out.mono (fun i e => by omega))
                      have f6 : Fr (fun i => w.heap.size ≤ i) w w5 := f5.trans (hf5.mono (fun i e => False.elim e))
                      exact f6.below (Nat.le_refl _) (fun i e => e)
                    have Hbel : Hid (Below w.heap.size w w5) := hbel
                    have hfin : (tv.isNone == fg em (un z i) k5) = true := by rw [Htv.out, hk54]; simp
                    clear hbel hk54 hT5
                    go_wp2_with fail
                    go_ret
                    exact ⟨rfl, Hbel.out⟩

end Go.Proofs.Ybulkauyc
