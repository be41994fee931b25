/-
  LawS2316AForget's walk, where there is no mask, and where there are too many.
-/
import Derived.Test.YbulkauycParts
import Derived.Deep.DeepCutAuto
import Derived.Deep.CutBlock
import Derived.Deep.QuietTactic
import Derived.BigQuiet
import Derived.Deep.Light
namespace Go.Proofs.Ybulkauyc
open Go Go.Maps Go.RowKit

set_option maxRecDepth 100000 in
theorem law_big (name : ByteArray) (a : Option Addr) (len cap : Nat) (fm em ev : Int) (w : World) (hl : 256 < len) :
    Calls Yba.prog 3 #[.string name, .slice a len cap, .int .u8 fm, .int .u8 em, .int .u8 ev] w fun e w' => e = .returned (.bool true) ∧ Below w.heap.size w w' := by
  have hd : decide ((256 : Int) < (len : Int)) = true := by simp; omega
  go_enter Yba.func3, Yba.ntmps3
  go_wp2_with fail
  go_ret
  exact ⟨rfl, Below.refl _ _⟩

set_option maxRecDepth 100000 in
set_option maxHeartbeats 4000000 in
theorem law_none (name : ByteArray) (a : Option Addr) (cap : Nat) (fm em ev : Int) (w : World) (hname : name.size ≤ 140737488351232)
    (_hfm : 0 ≤ fm ∧ fm ≤ 255) (_hem : 0 ≤ em ∧ em ≤ 255) (_hev : 0 ≤ ev ∧ ev ≤ 255) :
    Calls Yba.prog 3 #[.string name, .slice a 0 cap, .int .u8 fm, .int .u8 em, .int .u8 ev] w fun e w' => e = .returned (.bool true) ∧ Below w.heap.size w w' := by
  have hmm := @run_makeMap Yba.prog
  have hcat := run_string_add_sum (P := Yba.prog) (w := w) name ⟨#[35]⟩ (by show name.size + 1 ≤ _; omega)
  go_enter Yba.func3, Yba.ntmps3
  go_wp2_with fail
  go_loopw [13] (fun kv wr => ∃ k n : Nat, k ≤ 4 ∧ kv = .int .i64 k ∧ n ≤ k ∧ IsM Yba.prog 9 wr w.heap.size n (fill (bt fm) vT k) ∧ Fr (fun _ => False) w wr)
    (fun kv _ => 4 - (intOf kv).toNat)
  case atStart => exact ⟨0, 0, by omega, rfl, by omega, IsM.made _ _ _, Fr.alloc _ _⟩
  case round =>
    obtain ⟨k, n, hk, rfl, hn, hM, hfr⟩ := hrel
    rename World => w1
    by_cases hlt : k < 4
    ·
      go_light
      cases hb : bt fm k
      · have hb' : (bits BinOp.and IntKind.u8 (fm / 2 ^ k) 1 == 1) = false := hb
        go_wp2_with fail
        go_roundw
        case rel => exact ⟨k + 1, n, by omega, by go_num, by omega, by rw [fill, hb]; exact hM, hfr⟩
        case measure => simp [intOf]; omega
      · have hb' : (bits BinOp.and IntKind.u8 (fm / 2 ^ k) 1 == 1) = true := hb
        go_wp2_with (first
          | (go_at_call 6; refine (key_any k hlt _).mono ?_; rintro e w2 ⟨rfl, rfl⟩)
          | (at_mapUpdate; refine wpList_storeM _ rfl _ _ _ 23 rfl 9 25 u9 Yba.underlying23 w.heap.size n _ rfl hM (by unfold maxLen; omega) (keyS k) (vT k) rfl rfl (keyS_size k) ?_; intro w2 hM2 hturn)
          | go_in)
        go_roundw
        case rel => exact ⟨k + 1, _, by omega, by go_num, ite_le1 hn, by rw [fill, hb]; exact hM2, hfr.andThen (Fr.turned hturn) (fun i e => Or.inr (by omega))⟩
        case measure => simp [intOf]; omega
    · have hd4 : decide ((k : Int) < 4) = false := by simp; omega
      go_wp2_with fail
      have hk4 : k = 4 := by omega
      have hM4 : IsM Yba.prog 9 w1 w.heap.size n (fill (bt fm) vT 4) := hk4 ▸ hM
      have hn4 : n ≤ 4 := by omega
      clear hlt hk hcat hmm hM hn hk4
      have hft := hM4.lt
      go_loopw [15, 58] (fun uv iv wr => iv = .int .i64 0 ∧ uv = .int .u8 0 ∧ Masks w1 [] 0 wr)
        (fun _ _ _ => 0)
      case atStart => exact ⟨rfl, rfl, masks_start w1 []⟩
      case round =>
        obtain ⟨rfl, rfl, hMk⟩ := hrel
        rename World => w2
        have hmm := @run_makeMap Yba.prog
        have h44 := run_ins44
        have hne := hne_other name
        have hsa : name.size ≤ maxLen := by unfold maxLen; omega
        have hsb : (name ++ ⟨#[35]⟩).size ≤ maxLen := by
          rw [ByteArray.size_append]
          have h2 : (⟨#[35]⟩ : ByteArray).size = 1 := rfl
          unfold maxLen; omega
        have h52a := fun (W : World) (n : Nat) (v : Value) (hn : n = W.heap.size) => run_ins52 W.drew n name v hsa hn
        have h52b := fun (W : World) (n : Nat) (v : Value) (hn : n = W.heap.size) => run_ins52 W.drew n (name ++ ⟨#[35]⟩) v hsb hn
        have h52c := fun (W : World) (n : Nat) (v v' : Value) (hn : n = W.heap.size) => run_ins52b W.drew n name (name ++ ⟨#[35]⟩) v v' hsa hsb hne hn
        have h52d := fun (W : World) (n : Nat) (v v' : Value) (hn : n = W.heap.size) => run_ins52b W.drew n (name ++ ⟨#[35]⟩) name v v' hsb hsa (Ne.symm hne) hn
        have edr : ∀ (W : World) (o : Obj), W.drew.alloc o = (W.alloc o).drew := fun _ _ => rfl
        simp only [edr] at h52a h52b h52c h52d
        clear edr hne
        go_upto_region 27 with fail
        go_cut [20, 21, 22, 23] (fun mv omv pv shv wx => ∃ mB omB pB mbB shB tB : Nat, mv = .pointer (some ⟨mB, 0, none⟩) ∧ omv = .pointer (some ⟨omB, 0, none⟩) ∧ pv = .pointer (some ⟨pB, 0, none⟩) ∧ shv = .pointer (some ⟨shB, 0, none⟩) ∧ w2.heap.size ≤ mB ∧ mB < omB ∧ omB < pB ∧ pB < mbB ∧ mbB < shB ∧ shB < wx.heap.size ∧
          Built wx name w.heap.size w1.heap.size mB omB pB mbB shB (.map (some tB)) ∧ Fr (fun _ => False) w2 wx)
        case first =>
          go_region
          · go_wp2_with fail
            go_meet
            exact ⟨_, _, _, w2.heap.size + 1 + 1 + 1 + 1 + 1 + 1, _, _, rfl, rfl, rfl, rfl, by omega, by omega, by omega, by omega, by omega, by simp, built_a w2 name w.heap.size w1.heap.size hsa hsb (hne_other name), built_fr w2 w.heap.size w1.heap.size _ _⟩
          · go_wp2_with fail
            go_meet
            exact ⟨_, _, _, w2.heap.size + 1 + 1 + 1 + 1 + 1 + 1, _, _, rfl, rfl, rfl, rfl, by omega, by omega, by omega, by omega, by omega, by simp, built_b w2 name w.heap.size w1.heap.size hsa hsb (hne_other name), built_fr w2 w.heap.size w1.heap.size _ _⟩
        case rest =>
          obtain ⟨mB, omB, pB, mbB, shB, tB, rfl, rfl, rfl, rfl, o0, o1, o2, o3, o4, o5, hBt, hf2c⟩ := hcut
          have hMkc := hMk
          clear hMk h52a h52b h52c h52d h44
          go_wp2_with fail
          go_loopw [25] (fun kv wr => ∃ k nE : Nat, k ≤ 4 ∧ kv = .int .i64 k ∧ nE ≤ k ∧ IsM Yba.prog 9 wr wc.heap.size nE (fill (bt em) (vE ev) k) ∧ Fr (fun _ => False) wc wr)
            (fun kv _ => 4 - (intOf kv).toNat)
          case atStart => exact ⟨0, 0, by omega, rfl, by omega, IsM.made _ _ _, Fr.alloc _ _⟩
          case round =>
            obtain ⟨k4, nE, hk, rfl, hnE, hE, hfE⟩ := hrel
            rename World => w3
            by_cases hlt4 : k4 < 4
            ·
              go_light
              cases hb : bt em k4
              · have hb' : (bits BinOp.and IntKind.u8 (em / 2 ^ k4) 1 == 1) = false := hb
                go_wp2_with fail
                go_roundw
                case rel => exact ⟨k4 + 1, nE, by omega, by go_num, by omega, by rw [fill, hb]; exact hE, hfE⟩
                case measure => simp [intOf]; omega
              · have hb' : (bits BinOp.and IntKind.u8 (em / 2 ^ k4) 1 == 1) = true := hb
                go_wp2_with (first
                  | (go_at_call 6; refine (key_any k4 hlt4 _).mono ?_; rintro e w4 ⟨rfl, rfl⟩)
                  | (at_mapUpdate; refine wpList_storeM _ rfl _ _ _ 70 rfl 9 4 u9 Yba.underlying70 wc.heap.size nE _ rfl hE (by unfold maxLen; omega) (keyS k4) (vE ev k4) rfl rfl (keyS_size k4) ?_; intro w4 hE4 hturn)
                  | go_in)
                go_roundw
                case rel => exact ⟨k4 + 1, _, by omega, by go_num, ite_le1 hnE, by rw [fill, hb]; exact hE4, hfE.andThen (Fr.turned hturn) (fun i e => Or.inr (by omega))⟩
                case measure => simp [intOf]; omega
            · have hd44 : decide ((k4 : Int) < 4) = false := by simp; omega
              have hk44 : k4 = 4 := by omega
              have hE4 : IsM Yba.prog 9 w3 wc.heap.size nE (fill (bt em) (vE ev) 4) := hk44 ▸ hE
              clear hE hk44 hk hlt4
              obtain ⟨fM, m1, m2, m3⟩ := hBt.hM
              have hBt3 := hBt.fr hfE (fun i e => False.elim e) o1 o2 o3 o4 o5
              obtain ⟨fS, hser, hkeys, hf12⟩ := hMkc
              have hser3 := (hser.fr hf2c (fun i e => False.elim e)).fr hfE (fun i e => False.elim e)
              have hM3 : IsM Yba.prog 9 w3 mbB 2 fM := m1.fr hfE (fun e => e)
              have hs12 := hser.1.lt
              have hs3c : wc.heap.size < w3.heap.size := hE4.lt
              have hs2c := hf2c.size
              have Hfo := forget_none shB pB mB mbB wc.heap.size w1.heap.size 2 name fM fS (.map (some tB)) w3 hsa
                hBt3.c1 hBt3.c2 hM3 m2 hBt3.c4 hBt3.c5 hBt3.f5 hser3.1 (by omega) (by omega) (by omega) (by omega)
              clear hkeys
              go_wp2_with fail
              refine Hfo.mono ?_
              rintro e w4 ⟨rfl, hM4', g5, hf34⟩
              have hs4 : w3.heap.size ≤ w4.heap.size := hf34.size
              have g1 : w4.cell? ⟨shB, 4, none⟩ = some (.map (some mbB)) := by rw [hf34.cell (p := ⟨shB, 4, none⟩) (show shB < _ by omega) (show ¬ (shB = _ ∨ shB = _) by omega)]; exact hBt3.c2
              have hdo : (name ++ ⟨#[35]⟩ : ByteArray).data.toList ≠ name.data.toList := fun e => hne_other name (ByteArray.ext (Array.toList_inj.1 e.symm))
              have lk1 := hM4'.look u9 Yba.underlying52 (z38 _) hsb
              rw [show del fM name.data.toList (name ++ ⟨#[35]⟩ : ByteArray).data.toList = some (.pointer (some ⟨omB, 0, none⟩)) by unfold del; rw [if_neg hdo, m3]] at lk1
              have lk2 := hM4'.look_ok u9 Yba.underlying52 (z38 _) hsa
              rw [show del fM name.data.toList name.data.toList = none by unfold del; rw [if_pos rfl]] at lk2
              have ln2 := hM4'.len Yba.underlying52
              have n38 := run_neq38
              have n44 := run_eql44
              have hbel : Below w.heap.size w w4 := by
                have f1 : Fr (fun i => w.heap.size ≤ i) w w1 := hfr.mono (fun i e => False.elim e)
                have f2 : Fr (fun i => w.heap.size ≤ i) w w2 := f1.trans (hf12.mono (fun i e => False.elim e))
                have f3 : Fr (fun i => w.heap.size ≤ i) w wc := f2.trans (hf2c.mono (fun i e => False.elim e))
                have f4 : Fr (fun i => w.heap.size ≤ i) w w3 := f3.trans (hfE.mono (fun i e => False.elim e))
                have f5 : Fr (fun i => w.heap.size ≤ i) w w4 := f4.trans (hf34.mono (fun i e => by omega))
                exact f5.below (Nat.le_refl _) (fun i e => e)
              have Hbel : Hid (Below w.heap.size w w4) := hbel
              clear hbel hf34 hM4' hser3 hM3 hBt3 hBt m1 m2 m3 hE4 hser hM4 hdo
              go_wp2_with fail
              go_ret
              exact ⟨rfl, Hbel.out⟩

end Go.Proofs.Ybulkauyc
