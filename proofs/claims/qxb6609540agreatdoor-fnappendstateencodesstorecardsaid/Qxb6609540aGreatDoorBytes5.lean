/-
  The bound on lengths that the law bears: it returns, whatever it finds.
-/
import Derived.Test.Qxb6609540aGreatDoorRead
namespace Go.Proofs.Qxb6609540aGreatDoor
open Go.RowKit
set_option linter.unusedSimpArgs false
set_option linter.unusedVariables false
set_option maxRecDepth 100000 in
set_option maxHeartbeats 40000000 in
theorem zzBytes5_any (ba : Option Addr) (bn bc : Nat) (hbn : bn ≤ 140737488351232) (x1 x2 : Int) (a0 : Option Addr) (c0 : Nat) (D : List DbV) (sa : Option Addr) (sc : Nat) (S : List SegV) (w : World) (hd : DbsAt w a0 D) (hs : SegsAt w sa S) :
    Calls Tryz.prog 5 #[.slice ba bn bc, .int .u64 x1, .int .i64 x2, .slice a0 D.length c0, .slice sa S.length sc] w fun e w' => RetBool e ∧ w' = w := by
  have HS := hid hs
  have HD := hid hd
  have hl1 := hd.1
  have hl2 := hs.1
  clear hs hd
  have hr : Tryz.f5.results = #[.tmp 10] := by rfl
  refine Ag.start (n := 557) Tryz.func5 rfl Tryz.ntmps5 (by simp) [(0, .slice ba bn bc), (3, .slice a0 D.length c0), (4, .slice sa S.length sc)] ?_ ?_
  · intro p hp
    simp only [List.mem_cons, List.not_mem_nil, or_false] at hp
    rcases hp with rfl | rfl | rfl <;> rfl
  generalize hfn : Tryz.f5 = fn at hr ⊢
  clear hfn
  have hret : ∀ a E b, Ag 557 a E → E.lookup 10 = some (.bool b) → bodyPost Tryz.prog fn (fun e w' => RetBool e ∧ w' = w) .ret a w := fun a E b hA hE => hA.fin hr hE ⟨⟨b, rfl⟩, rfl⟩
  intro a hA
  refine wp_seq_k fun K hK => ?_
  refine wp_region_lit ?_
  refine rd_assign_const hA (by decide) ?_; clear hA a; intro a hA
  refine wpList_nil ?_
  refine hK _ _ ?_
  clear hK
  refine wp_seq_k fun K hK => ?_
  refine wp_region_lit ?_
  refine rd_assign_const hA (by decide) ?_; clear hA a; intro a hA
  refine wpList_nil ?_
  refine hK _ _ ?_
  clear hK
  refine wp_seq_k fun K hK => ?_
  refine wp_seq_k fun K2 hK2 => ?_
  refine wp_region_lit ?_
  refine rd_move hA (by decide) rfl ?_; clear hA a; intro a hA
  refine rd_len_slice hA (by decide) rfl ln22 ?_; clear hA a; intro a hA
  refine rd_gtr hA (by decide) rfl ?_; clear hA a; intro a hA
  refine wpList_nil ?_
  refine hK2 _ _ ?_
  clear hK2
  refine wp_cond_split (hA.eval rfl) (fun hb => ?_) (fun hb => ?_)
  · clear hK
    refine wp_seq_k fun K3 hK3 => ?_
    refine wp_region_lit ?_
    refine rd_assign_const hA (by decide) ?_; clear hA a; intro a hA
    refine wpList_nil ?_
    refine hK3 _ _ ?_
    clear hK3
    refine wp_ret ?_
    exact hret _ _ _ hA rfl
  refine wp_skip ?_
  replace hb := of_decide_eq_false hb
  refine hK _ _ ?_
  clear hK
  refine wp_seq_k fun K hK => ?_
  refine wp_region_lit ?_
  refine rd_move hA (by decide) rfl ?_; clear hA a; intro a hA
  refine rd_move hA (by decide) rfl ?_; clear hA a; intro a hA
  refine rd_len_slice hA (by decide) rfl ln22 ?_; clear hA a; intro a hA
  refine rd_add hA (by decide) rfl rfl (by omega) (by omega) ?_; clear hA a; intro a hA
  refine rd_assign hA (by decide) rfl ?_; clear hA a; intro a hA
  refine wpList_nil ?_
  refine hK _ _ ?_
  clear hK
  refine wp_seq_k fun K hK => ?_
  refine wp_seq_k fun K2 hK2 => ?_
  refine wp_region_lit ?_
  refine rd_move hA (by decide) rfl ?_; clear hA a; intro a hA
  refine rd_gtr hA (by decide) rfl ?_; clear hA a; intro a hA
  refine wpList_nil ?_
  refine hK2 _ _ ?_
  clear hK2
  refine wp_cond_split (hA.eval rfl) (fun hb => ?_) (fun hb => ?_)
  · clear hK
    refine wp_seq_k fun K3 hK3 => ?_
    refine wp_region_lit ?_
    refine rd_assign_const hA (by decide) ?_; clear hA a; intro a hA
    refine wpList_nil ?_
    refine hK3 _ _ ?_
    clear hK3
    refine wp_ret ?_
    exact hret _ _ _ hA rfl
  refine wp_skip ?_
  replace hb := of_decide_eq_false hb
  refine hK _ _ ?_
  clear hK
  refine wp_seq_k fun K hK => ?_
  refine wp_seq_k fun K2 hK2 => ?_
  refine wp_region_lit ?_
  refine rd_move hA (by decide) rfl ?_; clear hA a; intro a hA
  refine rd_len_slice hA (by decide) rfl ln24 ?_; clear hA a; intro a hA
  refine rd_gtr hA (by decide) rfl ?_; clear hA a; intro a hA
  refine wpList_nil ?_
  refine hK2 _ _ ?_
  clear hK2
  refine wp_cond_split (hA.eval rfl) (fun hb => ?_) (fun hb => ?_)
  · clear hK
    refine wp_seq_k fun K3 hK3 => ?_
    refine wp_region_lit ?_
    refine rd_assign_const hA (by decide) ?_; clear hA a; intro a hA
    refine wpList_nil ?_
    refine hK3 _ _ ?_
    clear hK3
    refine wp_ret ?_
    exact hret _ _ _ hA rfl
  refine wp_skip ?_
  replace hb := of_decide_eq_false hb
  refine hK _ _ ?_
  clear hK
  refine wp_seq_k fun K hK => ?_
  refine wp_region_lit ?_
  refine rd_move hA (by decide) rfl ?_; clear hA a; intro a hA
  refine rd_move hA (by decide) rfl ?_; clear hA a; intro a hA
  refine rd_len_slice hA (by decide) rfl ln24 ?_; clear hA a; intro a hA
  refine rd_add hA (by decide) rfl rfl (by omega) (by omega) ?_; clear hA a; intro a hA
  refine rd_assign hA (by decide) rfl ?_; clear hA a; intro a hA
  refine wpList_nil ?_
  refine hK _ _ ?_
  clear hK
  refine wp_seq_k fun K hK => ?_
  refine wp_seq_k fun K2 hK2 => ?_
  refine wp_region_lit ?_
  refine rd_move hA (by decide) rfl ?_; clear hA a; intro a hA
  refine rd_gtr hA (by decide) rfl ?_; clear hA a; intro a hA
  refine wpList_nil ?_
  refine hK2 _ _ ?_
  clear hK2
  refine wp_cond_split (hA.eval rfl) (fun hb => ?_) (fun hb => ?_)
  · clear hK
    refine wp_seq_k fun K3 hK3 => ?_
    refine wp_region_lit ?_
    refine rd_assign_const hA (by decide) ?_; clear hA a; intro a hA
    refine wpList_nil ?_
    refine hK3 _ _ ?_
    clear hK3
    refine wp_ret ?_
    exact hret _ _ _ hA rfl
  refine wp_skip ?_
  replace hb := of_decide_eq_false hb
  refine hK _ _ ?_
  clear hK
  refine wp_seq_k fun K hK => ?_
  refine wp_seq_k fun K2 hK2 => ?_
  refine wp_region_lit ?_
  refine rd_assign_const hA (by decide) ?_; clear hA a; intro a hA
  refine wpList_nil ?_
  refine hK2 _ _ ?_
  clear hK2
  refine wp_block ?_
  refine wp_loop (fun a' w' => w' = w ∧ ∃ (rj : Int) (j : Nat), j ≤ D.length ∧ 0 ≤ rj ∧ rj ≤ 1048576 ∧ Ag 557 a' [(3, .slice a0 D.length c0), (4, .slice sa S.length sc), (10, .bool false), (11, .int .i64 rj), (12, .int .i64 (j : Nat))]) (fun a' _ => D.length - (intOf (a'.eval (.tmp 12))).toNat) ⟨rfl, _, 0, Nat.zero_le _, ?_, ?_, hA.part ⟨rfl, rfl, rfl, rfl, rfl, trivial⟩⟩ ?_
  · omega
  · omega
  clear hA a
  rintro a w' ⟨hw', rj, j, hj, h0j, h1j, hA⟩
  subst w'
  have hmj : intOf (a.eval (.tmp 12)) = (j : Nat) := by rw [hA.eval rfl]; rfl
  generalize intOf (a.eval (.tmp 12)) = mj at hmj ⊢
  refine wp_seq_k fun K3 hK3 => ?_
  refine wp_seq_k fun K4 hK4 => ?_
  refine wp_region_lit ?_
  refine rd_move hA (by decide) rfl ?_; clear hA a; intro a hA
  refine rd_move hA (by decide) rfl ?_; clear hA a; intro a hA
  refine rd_len_slice hA (by decide) rfl ln24 ?_; clear hA a; intro a hA
  refine rd_lss hA (by decide) rfl rfl ?_; clear hA a; intro a hA
  refine wpList_nil ?_
  refine hK4 _ _ ?_
  clear hK4
  refine wp_cond_split (hA.eval rfl) (fun hb => ?_) (fun hb => ?_)
  · have hltj : j < D.length := by have := of_decide_eq_true hb; omega
    clear hb hK
    refine wp_skip ?_
    refine hK3 _ _ ?_
    clear hK3
    obtain ⟨d, hzj⟩ := get_of hltj
    obtain ⟨bj, oj, pa, pc, rfl, _, j0, _, j2, j3, hP, jn, jd, _⟩ := HD.out.2 j d hzj
    have hP1 := hP.1
    have HP := hid hP
    clear hzj hP
    refine wp_seq_k fun K5 hK5 => ?_
    refine wp_block ?_
    refine wp_seq_k fun K hK => ?_
    refine wp_seq_k fun K2 hK2 => ?_
    refine wp_region_lit ?_
    refine rd_move hA (by decide) rfl ?_; clear hA a; intro a hA
    refine rd_move hA (by decide) rfl ?_; clear hA a; intro a hA
    refine rd_index hA (by decide) rfl rfl (by assumption) ix24 ?_; clear hA a; intro a hA
    refine rd_field hA (by decide) rfl fl39_0 ?_; clear hA a; intro a hA
    refine rd_load hA (by decide) rfl (by assumption) ag9 ?_; clear hA a; intro a hA
    refine rd_len_string hA (by decide) rfl ln9 ?_; clear hA a; intro a hA
    refine rd_gtr hA (by decide) rfl ?_; clear hA a; intro a hA
    refine wpList_nil ?_
    refine hK2 _ _ ?_
    clear hK2
    refine wp_cond_split (hA.eval rfl) (fun hb => ?_) (fun hb => ?_)
    · clear hK
      refine wp_seq_k fun K3 hK3 => ?_
      refine wp_region_lit ?_
      refine rd_assign_const hA (by decide) ?_; clear hA a; intro a hA
      refine wpList_nil ?_
      refine hK3 _ _ ?_
      clear hK3
      refine wp_ret ?_
      exact hret _ _ _ hA rfl
    refine wp_skip ?_
    replace hb := of_decide_eq_false hb
    refine hK _ _ ?_
    clear hK
    refine wp_seq_k fun K hK => ?_
    refine wp_region_lit ?_
    refine rd_move hA (by decide) rfl ?_; clear hA a; intro a hA
    refine rd_move hA (by decide) rfl ?_; clear hA a; intro a hA
    refine rd_move hA (by decide) rfl ?_; clear hA a; intro a hA
    refine rd_index hA (by decide) rfl rfl (by assumption) ix24 ?_; clear hA a; intro a hA
    refine rd_field hA (by decide) rfl fl39_0 ?_; clear hA a; intro a hA
    refine rd_load hA (by decide) rfl (by assumption) ag9 ?_; clear hA a; intro a hA
    refine rd_len_string hA (by decide) rfl ln9 ?_; clear hA a; intro a hA
    refine rd_add hA (by decide) rfl rfl (by omega) (by omega) ?_; clear hA a; intro a hA
    refine rd_assign hA (by decide) rfl ?_; clear hA a; intro a hA
    refine wpList_nil ?_
    refine hK _ _ ?_
    clear hK
    refine wp_seq_k fun K hK => ?_
    refine wp_seq_k fun K2 hK2 => ?_
    refine wp_region_lit ?_
    refine rd_move hA (by decide) rfl ?_; clear hA a; intro a hA
    refine rd_gtr hA (by decide) rfl ?_; clear hA a; intro a hA
    refine wpList_nil ?_
    refine hK2 _ _ ?_
    clear hK2
    refine wp_cond_split (hA.eval rfl) (fun hb => ?_) (fun hb => ?_)
    · clear hK
      refine wp_seq_k fun K3 hK3 => ?_
      refine wp_region_lit ?_
      refine rd_assign_const hA (by decide) ?_; clear hA a; intro a hA
      refine wpList_nil ?_
      refine hK3 _ _ ?_
      clear hK3
      refine wp_ret ?_
      exact hret _ _ _ hA rfl
    refine wp_skip ?_
    replace hb := of_decide_eq_false hb
    refine hK _ _ ?_
    clear hK
    refine wp_seq_k fun K hK => ?_
    refine wp_seq_k fun K2 hK2 => ?_
    refine wp_region_lit ?_
    refine rd_move hA (by decide) rfl ?_; clear hA a; intro a hA
    refine rd_move hA (by decide) rfl ?_; clear hA a; intro a hA
    refine rd_index hA (by decide) rfl rfl (by assumption) ix24 ?_; clear hA a; intro a hA
    refine rd_field hA (by decide) rfl fl39_2 ?_; clear hA a; intro a hA
    refine rd_load hA (by decide) rfl (by assumption) ag9 ?_; clear hA a; intro a hA
    refine rd_len_string hA (by decide) rfl ln9 ?_; clear hA a; intro a hA
    refine rd_gtr hA (by decide) rfl ?_; clear hA a; intro a hA
    refine wpList_nil ?_
    refine hK2 _ _ ?_
    clear hK2
    refine wp_cond_split (hA.eval rfl) (fun hb => ?_) (fun hb => ?_)
    · clear hK
      refine wp_seq_k fun K3 hK3 => ?_
      refine wp_region_lit ?_
      refine rd_assign_const hA (by decide) ?_; clear hA a; intro a hA
      refine wpList_nil ?_
      refine hK3 _ _ ?_
      clear hK3
      refine wp_ret ?_
      exact hret _ _ _ hA rfl
    refine wp_skip ?_
    replace hb := of_decide_eq_false hb
    refine hK _ _ ?_
    clear hK
    refine wp_seq_k fun K hK => ?_
    refine wp_region_lit ?_
    refine rd_move hA (by decide) rfl ?_; clear hA a; intro a hA
    refine rd_move hA (by decide) rfl ?_; clear hA a; intro a hA
    refine rd_move hA (by decide) rfl ?_; clear hA a; intro a hA
    refine rd_index hA (by decide) rfl rfl (by assumption) ix24 ?_; clear hA a; intro a hA
    refine rd_field hA (by decide) rfl fl39_2 ?_; clear hA a; intro a hA
    refine rd_load hA (by decide) rfl (by assumption) ag9 ?_; clear hA a; intro a hA
    refine rd_len_string hA (by decide) rfl ln9 ?_; clear hA a; intro a hA
    refine rd_add hA (by decide) rfl rfl (by omega) (by omega) ?_; clear hA a; intro a hA
    refine rd_assign hA (by decide) rfl ?_; clear hA a; intro a hA
    refine wpList_nil ?_
    refine hK _ _ ?_
    clear hK
    refine wp_seq_k fun K hK => ?_
    refine wp_seq_k fun K2 hK2 => ?_
    refine wp_region_lit ?_
    refine rd_move hA (by decide) rfl ?_; clear hA a; intro a hA
    refine rd_gtr hA (by decide) rfl ?_; clear hA a; intro a hA
    refine wpList_nil ?_
    refine hK2 _ _ ?_
    clear hK2
    refine wp_cond_split (hA.eval rfl) (fun hb => ?_) (fun hb => ?_)
    · clear hK
      refine wp_seq_k fun K3 hK3 => ?_
      refine wp_region_lit ?_
      refine rd_assign_const hA (by decide) ?_; clear hA a; intro a hA
      refine wpList_nil ?_
      refine hK3 _ _ ?_
      clear hK3
      refine wp_ret ?_
      exact hret _ _ _ hA rfl
    refine wp_skip ?_
    replace hb := of_decide_eq_false hb
    refine hK _ _ ?_
    clear hK
    refine wp_seq_k fun K hK => ?_
    refine wp_seq_k fun K2 hK2 => ?_
    refine wp_region_lit ?_
    refine rd_move hA (by decide) rfl ?_; clear hA a; intro a hA
    refine rd_move hA (by decide) rfl ?_; clear hA a; intro a hA
    refine rd_index hA (by decide) rfl rfl (by assumption) ix24 ?_; clear hA a; intro a hA
    refine rd_field hA (by decide) rfl fl39_3 ?_; clear hA a; intro a hA
    refine rd_load hA (by decide) rfl (by assumption) ag37 ?_; clear hA a; intro a hA
    refine rd_len_slice hA (by decide) rfl ln37 ?_; clear hA a; intro a hA
    refine rd_gtr hA (by decide) rfl ?_; clear hA a; intro a hA
    refine wpList_nil ?_
    refine hK2 _ _ ?_
    clear hK2
    refine wp_cond_split (hA.eval rfl) (fun hb => ?_) (fun hb => ?_)
    · clear hK
      refine wp_seq_k fun K3 hK3 => ?_
      refine wp_region_lit ?_
      refine rd_assign_const hA (by decide) ?_; clear hA a; intro a hA
      refine wpList_nil ?_
      refine hK3 _ _ ?_
      clear hK3
      refine wp_ret ?_
      exact hret _ _ _ hA rfl
    refine wp_skip ?_
    replace hb := of_decide_eq_false hb
    refine hK _ _ ?_
    clear hK
    refine wp_seq_k fun K hK => ?_
    refine wp_region_lit ?_
    refine rd_move hA (by decide) rfl ?_; clear hA a; intro a hA
    refine rd_move hA (by decide) rfl ?_; clear hA a; intro a hA
    refine rd_move hA (by decide) rfl ?_; clear hA a; intro a hA
    refine rd_index hA (by decide) rfl rfl (by assumption) ix24 ?_; clear hA a; intro a hA
    refine rd_field hA (by decide) rfl fl39_3 ?_; clear hA a; intro a hA
    refine rd_load hA (by decide) rfl (by assumption) ag37 ?_; clear hA a; intro a hA
    refine rd_len_slice hA (by decide) rfl ln37 ?_; clear hA a; intro a hA
    refine rd_add hA (by decide) rfl rfl (by omega) (by omega) ?_; clear hA a; intro a hA
    refine rd_assign hA (by decide) rfl ?_; clear hA a; intro a hA
    refine wpList_nil ?_
    refine hK _ _ ?_
    clear hK
    refine wp_seq_k fun K hK => ?_
    refine wp_seq_k fun K2 hK2 => ?_
    refine wp_region_lit ?_
    refine rd_move hA (by decide) rfl ?_; clear hA a; intro a hA
    refine rd_gtr hA (by decide) rfl ?_; clear hA a; intro a hA
    refine wpList_nil ?_
    refine hK2 _ _ ?_
    clear hK2
    refine wp_cond_split (hA.eval rfl) (fun hb => ?_) (fun hb => ?_)
    · clear hK
      refine wp_seq_k fun K3 hK3 => ?_
      refine wp_region_lit ?_
      refine rd_assign_const hA (by decide) ?_; clear hA a; intro a hA
      refine wpList_nil ?_
      refine hK3 _ _ ?_
      clear hK3
      refine wp_ret ?_
      exact hret _ _ _ hA rfl
    refine wp_skip ?_
    replace hb := of_decide_eq_false hb
    refine hK _ _ ?_
    clear hK
    refine wp_seq_k fun K2 hK2 => ?_
    refine wp_region_lit ?_
    refine rd_assign_const hA (by decide) ?_; clear hA a; intro a hA
    refine wpList_nil ?_
    refine hK2 _ _ ?_
    clear hK2
    refine wp_block ?_
    refine wp_loop (fun a' w' => w' = w ∧ ∃ (rk : Int) (k : Nat), k ≤ d.pols.length ∧ 0 ≤ rk ∧ rk ≤ 1048576 ∧ Ag 557 a' [(3, .slice (some ⟨bj, oj, none⟩) D.length c0), (4, .slice sa S.length sc), (10, .bool false), (12, .int .i64 (j : Nat)), (11, .int .i64 rk), (13, .int .i64 (k : Nat))]) (fun a' _ => d.pols.length - (intOf (a'.eval (.tmp 13))).toNat) ⟨rfl, _, 0, Nat.zero_le _, ?_, ?_, hA.part ⟨rfl, rfl, rfl, rfl, rfl, rfl, trivial⟩⟩ ?_
    · omega
    · omega
    clear hA a
    rintro a w' ⟨hw', rk, k, hk, h0k, h1k, hA⟩
    subst w'
    have hmk : intOf (a.eval (.tmp 13)) = (k : Nat) := by rw [hA.eval rfl]; rfl
    generalize intOf (a.eval (.tmp 13)) = mk at hmk ⊢
    refine wp_seq_k fun K3 hK3 => ?_
    refine wp_seq_k fun K4 hK4 => ?_
    refine wp_region_lit ?_
    refine rd_move hA (by decide) rfl ?_; clear hA a; intro a hA
    refine rd_move hA (by decide) rfl ?_; clear hA a; intro a hA
    refine rd_move hA (by decide) rfl ?_; clear hA a; intro a hA
    refine rd_index hA (by decide) rfl rfl (by assumption) ix24 ?_; clear hA a; intro a hA
    refine rd_field hA (by decide) rfl fl39_3 ?_; clear hA a; intro a hA
    refine rd_load hA (by decide) rfl (by assumption) ag37 ?_; clear hA a; intro a hA
    refine rd_len_slice hA (by decide) rfl ln37 ?_; clear hA a; intro a hA
    refine rd_lss hA (by decide) rfl rfl ?_; clear hA a; intro a hA
    refine wpList_nil ?_
    refine hK4 _ _ ?_
    clear hK4
    refine wp_cond_split (hA.eval rfl) (fun hb => ?_) (fun hb => ?_)
    · have hltk : k < d.pols.length := by have := of_decide_eq_true hb; omega
      clear hb
      refine wp_skip ?_
      refine hK3 _ _ ?_
      clear hK3
      obtain ⟨p, hzk⟩ := get_of hltk
      obtain ⟨bk, ok, ga, gc, rfl, _, k0, _, _, _, k4, hG, kn, _, _, _⟩ := HP.out.2 k p hzk
      have hG1 := hG.1
      have HG := hid hG
      clear hzk hG
      refine wp_seq_k fun K5 hK5 => ?_
      refine wp_block ?_
      refine wp_seq_k fun K hK => ?_
      refine wp_seq_k fun K2 hK2 => ?_
      refine wp_region_lit ?_
      refine rd_move hA (by decide) rfl ?_; clear hA a; intro a hA
      refine rd_move hA (by decide) rfl ?_; clear hA a; intro a hA
      refine rd_index hA (by decide) rfl rfl (by assumption) ix24 ?_; clear hA a; intro a hA
      refine rd_field hA (by decide) rfl fl39_3 ?_; clear hA a; intro a hA
      refine rd_load hA (by decide) rfl (by assumption) ag37 ?_; clear hA a; intro a hA
      refine rd_move hA (by decide) rfl ?_; clear hA a; intro a hA
      refine rd_index hA (by decide) rfl rfl (by assumption) ix37 ?_; clear hA a; intro a hA
      refine rd_field hA (by decide) rfl fl42_0 ?_; clear hA a; intro a hA
      refine rd_load hA (by decide) rfl (by assumption) ag9 ?_; clear hA a; intro a hA
      refine rd_len_string hA (by decide) rfl ln9 ?_; clear hA a; intro a hA
      refine rd_gtr hA (by decide) rfl ?_; clear hA a; intro a hA
      refine wpList_nil ?_
      refine hK2 _ _ ?_
      clear hK2
      refine wp_cond_split (hA.eval rfl) (fun hb => ?_) (fun hb => ?_)
      · clear hK
        refine wp_seq_k fun K3 hK3 => ?_
        refine wp_region_lit ?_
        refine rd_assign_const hA (by decide) ?_; clear hA a; intro a hA
        refine wpList_nil ?_
        refine hK3 _ _ ?_
        clear hK3
        refine wp_ret ?_
        exact hret _ _ _ hA rfl
      refine wp_skip ?_
      replace hb := of_decide_eq_false hb
      refine hK _ _ ?_
      clear hK
      refine wp_seq_k fun K hK => ?_
      refine wp_region_lit ?_
      refine rd_move hA (by decide) rfl ?_; clear hA a; intro a hA
      refine rd_move hA (by decide) rfl ?_; clear hA a; intro a hA
      refine rd_move hA (by decide) rfl ?_; clear hA a; intro a hA
      refine rd_index hA (by decide) rfl rfl (by assumption) ix24 ?_; clear hA a; intro a hA
      refine rd_field hA (by decide) rfl fl39_3 ?_; clear hA a; intro a hA
      refine rd_load hA (by decide) rfl (by assumption) ag37 ?_; clear hA a; intro a hA
      refine rd_move hA (by decide) rfl ?_; clear hA a; intro a hA
      refine rd_index hA (by decide) rfl rfl (by assumption) ix37 ?_; clear hA a; intro a hA
      refine rd_field hA (by decide) rfl fl42_0 ?_; clear hA a; intro a hA
      refine rd_load hA (by decide) rfl (by assumption) ag9 ?_; clear hA a; intro a hA
      refine rd_len_string hA (by decide) rfl ln9 ?_; clear hA a; intro a hA
      refine rd_add hA (by decide) rfl rfl (by omega) (by omega) ?_; clear hA a; intro a hA
      refine rd_assign hA (by decide) rfl ?_; clear hA a; intro a hA
      refine wpList_nil ?_
      refine hK _ _ ?_
      clear hK
      refine wp_seq_k fun K hK => ?_
      refine wp_seq_k fun K2 hK2 => ?_
      refine wp_region_lit ?_
      refine rd_move hA (by decide) rfl ?_; clear hA a; intro a hA
      refine rd_gtr hA (by decide) rfl ?_; clear hA a; intro a hA
      refine wpList_nil ?_
      refine hK2 _ _ ?_
      clear hK2
      refine wp_cond_split (hA.eval rfl) (fun hb => ?_) (fun hb => ?_)
      · clear hK
        refine wp_seq_k fun K3 hK3 => ?_
        refine wp_region_lit ?_
        refine rd_assign_const hA (by decide) ?_; clear hA a; intro a hA
        refine wpList_nil ?_
        refine hK3 _ _ ?_
        clear hK3
        refine wp_ret ?_
        exact hret _ _ _ hA rfl
      refine wp_skip ?_
      replace hb := of_decide_eq_false hb
      refine hK _ _ ?_
      clear hK
      refine wp_seq_k fun K hK => ?_
      refine wp_seq_k fun K2 hK2 => ?_
      refine wp_region_lit ?_
      refine rd_move hA (by decide) rfl ?_; clear hA a; intro a hA
      refine rd_move hA (by decide) rfl ?_; clear hA a; intro a hA
      refine rd_index hA (by decide) rfl rfl (by assumption) ix24 ?_; clear hA a; intro a hA
      refine rd_field hA (by decide) rfl fl39_3 ?_; clear hA a; intro a hA
      refine rd_load hA (by decide) rfl (by assumption) ag37 ?_; clear hA a; intro a hA
      refine rd_move hA (by decide) rfl ?_; clear hA a; intro a hA
      refine rd_index hA (by decide) rfl rfl (by assumption) ix37 ?_; clear hA a; intro a hA
      refine rd_field hA (by decide) rfl fl42_4 ?_; clear hA a; intro a hA
      refine rd_load hA (by decide) rfl (by assumption) ag40 ?_; clear hA a; intro a hA
      refine rd_len_slice hA (by decide) rfl ln40 ?_; clear hA a; intro a hA
      refine rd_gtr hA (by decide) rfl ?_; clear hA a; intro a hA
      refine wpList_nil ?_
      refine hK2 _ _ ?_
      clear hK2
      refine wp_cond_split (hA.eval rfl) (fun hb => ?_) (fun hb => ?_)
      · clear hK
        refine wp_seq_k fun K3 hK3 => ?_
        refine wp_region_lit ?_
        refine rd_assign_const hA (by decide) ?_; clear hA a; intro a hA
        refine wpList_nil ?_
        refine hK3 _ _ ?_
        clear hK3
        refine wp_ret ?_
        exact hret _ _ _ hA rfl
      refine wp_skip ?_
      replace hb := of_decide_eq_false hb
      refine hK _ _ ?_
      clear hK
      refine wp_seq_k fun K hK => ?_
      refine wp_region_lit ?_
      refine rd_move hA (by decide) rfl ?_; clear hA a; intro a hA
      refine rd_move hA (by decide) rfl ?_; clear hA a; intro a hA
      refine rd_move hA (by decide) rfl ?_; clear hA a; intro a hA
      refine rd_index hA (by decide) rfl rfl (by assumption) ix24 ?_; clear hA a; intro a hA
      refine rd_field hA (by decide) rfl fl39_3 ?_; clear hA a; intro a hA
      refine rd_load hA (by decide) rfl (by assumption) ag37 ?_; clear hA a; intro a hA
      refine rd_move hA (by decide) rfl ?_; clear hA a; intro a hA
      refine rd_index hA (by decide) rfl rfl (by assumption) ix37 ?_; clear hA a; intro a hA
      refine rd_field hA (by decide) rfl fl42_4 ?_; clear hA a; intro a hA
      refine rd_load hA (by decide) rfl (by assumption) ag40 ?_; clear hA a; intro a hA
      refine rd_len_slice hA (by decide) rfl ln40 ?_; clear hA a; intro a hA
      refine rd_add hA (by decide) rfl rfl (by omega) (by omega) ?_; clear hA a; intro a hA
      refine rd_assign hA (by decide) rfl ?_; clear hA a; intro a hA
      refine wpList_nil ?_
      refine hK _ _ ?_
      clear hK
      refine wp_seq_k fun K hK => ?_
      refine wp_seq_k fun K2 hK2 => ?_
      refine wp_region_lit ?_
      refine rd_move hA (by decide) rfl ?_; clear hA a; intro a hA
      refine rd_gtr hA (by decide) rfl ?_; clear hA a; intro a hA
      refine wpList_nil ?_
      refine hK2 _ _ ?_
      clear hK2
      refine wp_cond_split (hA.eval rfl) (fun hb => ?_) (fun hb => ?_)
      · clear hK
        refine wp_seq_k fun K3 hK3 => ?_
        refine wp_region_lit ?_
        refine rd_assign_const hA (by decide) ?_; clear hA a; intro a hA
        refine wpList_nil ?_
        refine hK3 _ _ ?_
        clear hK3
        refine wp_ret ?_
        exact hret _ _ _ hA rfl
      refine wp_skip ?_
      replace hb := of_decide_eq_false hb
      refine hK _ _ ?_
      clear hK
      refine wp_seq_k fun K2 hK2 => ?_
      refine wp_region_lit ?_
      refine rd_assign_const hA (by decide) ?_; clear hA a; intro a hA
      refine wpList_nil ?_
      refine hK2 _ _ ?_
      clear hK2
      refine wp_block ?_
      refine wp_loop (fun a' w' => w' = w ∧ ∃ (rl : Int) (l : Nat), l ≤ p.grps.length ∧ 0 ≤ rl ∧ rl ≤ 1048576 ∧ Ag 557 a' [(3, .slice (some ⟨bj, oj, none⟩) D.length c0), (4, .slice sa S.length sc), (10, .bool false), (12, .int .i64 (j : Nat)), (13, .int .i64 (k : Nat)), (11, .int .i64 rl), (14, .int .i64 (l : Nat))]) (fun a' _ => p.grps.length - (intOf (a'.eval (.tmp 14))).toNat) ⟨rfl, _, 0, Nat.zero_le _, ?_, ?_, hA.part ⟨rfl, rfl, rfl, rfl, rfl, rfl, rfl, trivial⟩⟩ ?_
      · omega
      · omega
      clear hA a
      rintro a w' ⟨hw', rl, l, hl, h0l, h1l, hA⟩
      subst w'
      have hml : intOf (a.eval (.tmp 14)) = (l : Nat) := by rw [hA.eval rfl]; rfl
      generalize intOf (a.eval (.tmp 14)) = ml at hml ⊢
      refine wp_seq_k fun K3 hK3 => ?_
      refine wp_seq_k fun K4 hK4 => ?_
      refine wp_region_lit ?_
      refine rd_move hA (by decide) rfl ?_; clear hA a; intro a hA
      refine rd_move hA (by decide) rfl ?_; clear hA a; intro a hA
      refine rd_move hA (by decide) rfl ?_; clear hA a; intro a hA
      refine rd_index hA (by decide) rfl rfl (by assumption) ix24 ?_; clear hA a; intro a hA
      refine rd_field hA (by decide) rfl fl39_3 ?_; clear hA a; intro a hA
      refine rd_load hA (by decide) rfl (by assumption) ag37 ?_; clear hA a; intro a hA
      refine rd_move hA (by decide) rfl ?_; clear hA a; intro a hA
      refine rd_index hA (by decide) rfl rfl (by assumption) ix37 ?_; clear hA a; intro a hA
      refine rd_field hA (by decide) rfl fl42_4 ?_; clear hA a; intro a hA
      refine rd_load hA (by decide) rfl (by assumption) ag40 ?_; clear hA a; intro a hA
      refine rd_len_slice hA (by decide) rfl ln40 ?_; clear hA a; intro a hA
      refine rd_lss hA (by decide) rfl rfl ?_; clear hA a; intro a hA
      refine wpList_nil ?_
      refine hK4 _ _ ?_
      clear hK4
      refine wp_cond_split (hA.eval rfl) (fun hb => ?_) (fun hb => ?_)
      · have hltl : l < p.grps.length := by have := of_decide_eq_true hb; omega
        clear hb
        refine wp_skip ?_
        refine hK3 _ _ ?_
        clear hK3
        obtain ⟨g, hzl⟩ := get_of hltl
        obtain ⟨bl, ol, sa1, sc1, pa1, pc1, rfl, _, _, _, m2, _, m4, hgs, hgp, _, _⟩ := HG.out.2 l g hzl
        have hgs1 := hgs.1
        have hgp1 := hgp.1
        have HGS := hid hgs
        have HGP := hid hgp
        clear hzl hgs hgp
        refine wp_seq_k fun K5 hK5 => ?_
        refine wp_block ?_
        refine wp_seq_k fun K hK => ?_
        refine wp_seq_k fun K2 hK2 => ?_
        refine wp_region_lit ?_
        refine rd_move hA (by decide) rfl ?_; clear hA a; intro a hA
        refine rd_move hA (by decide) rfl ?_; clear hA a; intro a hA
        refine rd_index hA (by decide) rfl rfl (by assumption) ix24 ?_; clear hA a; intro a hA
        refine rd_field hA (by decide) rfl fl39_3 ?_; clear hA a; intro a hA
        refine rd_load hA (by decide) rfl (by assumption) ag37 ?_; clear hA a; intro a hA
        refine rd_move hA (by decide) rfl ?_; clear hA a; intro a hA
        refine rd_index hA (by decide) rfl rfl (by assumption) ix37 ?_; clear hA a; intro a hA
        refine rd_field hA (by decide) rfl fl42_4 ?_; clear hA a; intro a hA
        refine rd_load hA (by decide) rfl (by assumption) ag40 ?_; clear hA a; intro a hA
        refine rd_move hA (by decide) rfl ?_; clear hA a; intro a hA
        refine rd_index hA (by decide) rfl rfl (by assumption) ix40 ?_; clear hA a; intro a hA
        refine rd_field hA (by decide) rfl fl44_2 ?_; clear hA a; intro a hA
        refine rd_load hA (by decide) rfl (by assumption) ag25 ?_; clear hA a; intro a hA
        refine rd_len_slice hA (by decide) rfl ln25 ?_; clear hA a; intro a hA
        refine rd_gtr hA (by decide) rfl ?_; clear hA a; intro a hA
        refine wpList_nil ?_
        refine hK2 _ _ ?_
        clear hK2
        refine wp_cond_split (hA.eval rfl) (fun hb => ?_) (fun hb => ?_)
        · clear hK
          refine wp_seq_k fun K3 hK3 => ?_
          refine wp_region_lit ?_
          refine rd_assign_const hA (by decide) ?_; clear hA a; intro a hA
          refine wpList_nil ?_
          refine hK3 _ _ ?_
          clear hK3
          refine wp_ret ?_
          exact hret _ _ _ hA rfl
        refine wp_skip ?_
        replace hb := of_decide_eq_false hb
        refine hK _ _ ?_
        clear hK
        refine wp_seq_k fun K hK => ?_
        refine wp_region_lit ?_
        refine rd_move hA (by decide) rfl ?_; clear hA a; intro a hA
        refine rd_move hA (by decide) rfl ?_; clear hA a; intro a hA
        refine rd_move hA (by decide) rfl ?_; clear hA a; intro a hA
        refine rd_index hA (by decide) rfl rfl (by assumption) ix24 ?_; clear hA a; intro a hA
        refine rd_field hA (by decide) rfl fl39_3 ?_; clear hA a; intro a hA
        refine rd_load hA (by decide) rfl (by assumption) ag37 ?_; clear hA a; intro a hA
        refine rd_move hA (by decide) rfl ?_; clear hA a; intro a hA
        refine rd_index hA (by decide) rfl rfl (by assumption) ix37 ?_; clear hA a; intro a hA
        refine rd_field hA (by decide) rfl fl42_4 ?_; clear hA a; intro a hA
        refine rd_load hA (by decide) rfl (by assumption) ag40 ?_; clear hA a; intro a hA
        refine rd_move hA (by decide) rfl ?_; clear hA a; intro a hA
        refine rd_index hA (by decide) rfl rfl (by assumption) ix40 ?_; clear hA a; intro a hA
        refine rd_field hA (by decide) rfl fl44_2 ?_; clear hA a; intro a hA
        refine rd_load hA (by decide) rfl (by assumption) ag25 ?_; clear hA a; intro a hA
        refine rd_len_slice hA (by decide) rfl ln25 ?_; clear hA a; intro a hA
        refine rd_add hA (by decide) rfl rfl (by omega) (by omega) ?_; clear hA a; intro a hA
        refine rd_assign hA (by decide) rfl ?_; clear hA a; intro a hA
        refine wpList_nil ?_
        refine hK _ _ ?_
        clear hK
        refine wp_seq_k fun K hK => ?_
        refine wp_seq_k fun K2 hK2 => ?_
        refine wp_region_lit ?_
        refine rd_move hA (by decide) rfl ?_; clear hA a; intro a hA
        refine rd_gtr hA (by decide) rfl ?_; clear hA a; intro a hA
        refine wpList_nil ?_
        refine hK2 _ _ ?_
        clear hK2
        refine wp_cond_split (hA.eval rfl) (fun hb => ?_) (fun hb => ?_)
        · clear hK
          refine wp_seq_k fun K3 hK3 => ?_
          refine wp_region_lit ?_
          refine rd_assign_const hA (by decide) ?_; clear hA a; intro a hA
          refine wpList_nil ?_
          refine hK3 _ _ ?_
          clear hK3
          refine wp_ret ?_
          exact hret _ _ _ hA rfl
        refine wp_skip ?_
        replace hb := of_decide_eq_false hb
        refine hK _ _ ?_
        clear hK
        refine wp_seq_k fun K hK => ?_
        refine wp_seq_k fun K2 hK2 => ?_
        refine wp_region_lit ?_
        refine rd_assign_const hA (by decide) ?_; clear hA a; intro a hA
        refine wpList_nil ?_
        refine hK2 _ _ ?_
        clear hK2
        refine wp_block ?_
        refine wp_loop (fun a' w' => w' = w ∧ ∃ (ru : Int) (u : Nat), u ≤ g.segs.length ∧ 0 ≤ ru ∧ ru ≤ 1048576 ∧ Ag 557 a' [(3, .slice (some ⟨bj, oj, none⟩) D.length c0), (4, .slice sa S.length sc), (10, .bool false), (12, .int .i64 (j : Nat)), (13, .int .i64 (k : Nat)), (14, .int .i64 (l : Nat)), (11, .int .i64 ru), (15, .int .i64 (u : Nat))]) (fun a' _ => g.segs.length - (intOf (a'.eval (.tmp 15))).toNat) ⟨rfl, _, 0, Nat.zero_le _, ?_, ?_, hA.part ⟨rfl, rfl, rfl, rfl, rfl, rfl, rfl, rfl, trivial⟩⟩ ?_
        · omega
        · omega
        clear hA a
        rintro a w' ⟨hw', ru, u, hu, h0u, h1u, hA⟩
        subst w'
        have hmu : intOf (a.eval (.tmp 15)) = (u : Nat) := by rw [hA.eval rfl]; rfl
        generalize intOf (a.eval (.tmp 15)) = mu at hmu ⊢
        refine wp_seq_k fun K3 hK3 => ?_
        refine wp_seq_k fun K4 hK4 => ?_
        refine wp_region_lit ?_
        refine rd_move hA (by decide) rfl ?_; clear hA a; intro a hA
        refine rd_move hA (by decide) rfl ?_; clear hA a; intro a hA
        refine rd_move hA (by decide) rfl ?_; clear hA a; intro a hA
        refine rd_index hA (by decide) rfl rfl (by assumption) ix24 ?_; clear hA a; intro a hA
        refine rd_field hA (by decide) rfl fl39_3 ?_; clear hA a; intro a hA
        refine rd_load hA (by decide) rfl (by assumption) ag37 ?_; clear hA a; intro a hA
        refine rd_move hA (by decide) rfl ?_; clear hA a; intro a hA
        refine rd_index hA (by decide) rfl rfl (by assumption) ix37 ?_; clear hA a; intro a hA
        refine rd_field hA (by decide) rfl fl42_4 ?_; clear hA a; intro a hA
        refine rd_load hA (by decide) rfl (by assumption) ag40 ?_; clear hA a; intro a hA
        refine rd_move hA (by decide) rfl ?_; clear hA a; intro a hA
        refine rd_index hA (by decide) rfl rfl (by assumption) ix40 ?_; clear hA a; intro a hA
        refine rd_field hA (by decide) rfl fl44_2 ?_; clear hA a; intro a hA
        refine rd_load hA (by decide) rfl (by assumption) ag25 ?_; clear hA a; intro a hA
        refine rd_len_slice hA (by decide) rfl ln25 ?_; clear hA a; intro a hA
        refine rd_lss hA (by decide) rfl rfl ?_; clear hA a; intro a hA
        refine wpList_nil ?_
        refine hK4 _ _ ?_
        clear hK4
        refine wp_cond_split (hA.eval rfl) (fun hb => ?_) (fun hb => ?_)
        · have hltu : u < g.segs.length := by have := of_decide_eq_true hb; omega
          clear hb hK
          refine wp_skip ?_
          refine hK3 _ _ ?_
          clear hK3
          obtain ⟨su, hzu⟩ := get_of hltu
          obtain ⟨bu, ou, amu, cmu, rfl, _, _, _, eu, hSu, _, _⟩ := HGS.out.2 u su hzu
          have hlu := hSu.1
          have HSu := hid hSu
          clear hzu hSu
          refine wp_seq_k fun K5 hK5 => ?_
          refine wp_block ?_
          refine wp_seq_k fun K hK => ?_
          refine wp_seq_k fun K2 hK2 => ?_
          refine wp_region_lit ?_
          refine rd_move hA (by decide) rfl ?_; clear hA a; intro a hA
          refine rd_move hA (by decide) rfl ?_; clear hA a; intro a hA
          refine rd_index hA (by decide) rfl rfl (by assumption) ix24 ?_; clear hA a; intro a hA
          refine rd_field hA (by decide) rfl fl39_3 ?_; clear hA a; intro a hA
          refine rd_load hA (by decide) rfl (by assumption) ag37 ?_; clear hA a; intro a hA
          refine rd_move hA (by decide) rfl ?_; clear hA a; intro a hA
          refine rd_index hA (by decide) rfl rfl (by assumption) ix37 ?_; clear hA a; intro a hA
          refine rd_field hA (by decide) rfl fl42_4 ?_; clear hA a; intro a hA
          refine rd_load hA (by decide) rfl (by assumption) ag40 ?_; clear hA a; intro a hA
          refine rd_move hA (by decide) rfl ?_; clear hA a; intro a hA
          refine rd_index hA (by decide) rfl rfl (by assumption) ix40 ?_; clear hA a; intro a hA
          refine rd_field hA (by decide) rfl fl44_2 ?_; clear hA a; intro a hA
          refine rd_load hA (by decide) rfl (by assumption) ag25 ?_; clear hA a; intro a hA
          refine rd_move hA (by decide) rfl ?_; clear hA a; intro a hA
          refine rd_index hA (by decide) rfl rfl (by assumption) ix25 ?_; clear hA a; intro a hA
          refine rd_field hA (by decide) rfl fl47_2 ?_; clear hA a; intro a hA
          refine rd_load hA (by decide) rfl (by assumption) ag45 ?_; clear hA a; intro a hA
          refine rd_len_slice hA (by decide) rfl ln45 ?_; clear hA a; intro a hA
          refine rd_gtr hA (by decide) rfl ?_; clear hA a; intro a hA
          refine wpList_nil ?_
          refine hK2 _ _ ?_
          clear hK2
          refine wp_cond_split (hA.eval rfl) (fun hb => ?_) (fun hb => ?_)
          · clear hK
            refine wp_seq_k fun K3 hK3 => ?_
            refine wp_region_lit ?_
            refine rd_assign_const hA (by decide) ?_; clear hA a; intro a hA
            refine wpList_nil ?_
            refine hK3 _ _ ?_
            clear hK3
            refine wp_ret ?_
            exact hret _ _ _ hA rfl
          refine wp_skip ?_
          replace hb := of_decide_eq_false hb
          refine hK _ _ ?_
          clear hK
          refine wp_seq_k fun K hK => ?_
          refine wp_region_lit ?_
          refine rd_move hA (by decide) rfl ?_; clear hA a; intro a hA
          refine rd_move hA (by decide) rfl ?_; clear hA a; intro a hA
          refine rd_move hA (by decide) rfl ?_; clear hA a; intro a hA
          refine rd_index hA (by decide) rfl rfl (by assumption) ix24 ?_; clear hA a; intro a hA
          refine rd_field hA (by decide) rfl fl39_3 ?_; clear hA a; intro a hA
          refine rd_load hA (by decide) rfl (by assumption) ag37 ?_; clear hA a; intro a hA
          refine rd_move hA (by decide) rfl ?_; clear hA a; intro a hA
          refine rd_index hA (by decide) rfl rfl (by assumption) ix37 ?_; clear hA a; intro a hA
          refine rd_field hA (by decide) rfl fl42_4 ?_; clear hA a; intro a hA
          refine rd_load hA (by decide) rfl (by assumption) ag40 ?_; clear hA a; intro a hA
          refine rd_move hA (by decide) rfl ?_; clear hA a; intro a hA
          refine rd_index hA (by decide) rfl rfl (by assumption) ix40 ?_; clear hA a; intro a hA
          refine rd_field hA (by decide) rfl fl44_2 ?_; clear hA a; intro a hA
          refine rd_load hA (by decide) rfl (by assumption) ag25 ?_; clear hA a; intro a hA
          refine rd_move hA (by decide) rfl ?_; clear hA a; intro a hA
          refine rd_index hA (by decide) rfl rfl (by assumption) ix25 ?_; clear hA a; intro a hA
          refine rd_field hA (by decide) rfl fl47_2 ?_; clear hA a; intro a hA
          refine rd_load hA (by decide) rfl (by assumption) ag45 ?_; clear hA a; intro a hA
          refine rd_len_slice hA (by decide) rfl ln45 ?_; clear hA a; intro a hA
          refine rd_add hA (by decide) rfl rfl (by omega) (by omega) ?_; clear hA a; intro a hA
          refine rd_assign hA (by decide) rfl ?_; clear hA a; intro a hA
          refine wpList_nil ?_
          refine hK _ _ ?_
          clear hK
          refine wp_seq_k fun K hK => ?_
          refine wp_seq_k fun K2 hK2 => ?_
          refine wp_region_lit ?_
          refine rd_move hA (by decide) rfl ?_; clear hA a; intro a hA
          refine rd_gtr hA (by decide) rfl ?_; clear hA a; intro a hA
          refine wpList_nil ?_
          refine hK2 _ _ ?_
          clear hK2
          refine wp_cond_split (hA.eval rfl) (fun hb => ?_) (fun hb => ?_)
          · clear hK
            refine wp_seq_k fun K3 hK3 => ?_
            refine wp_region_lit ?_
            refine rd_assign_const hA (by decide) ?_; clear hA a; intro a hA
            refine wpList_nil ?_
            refine hK3 _ _ ?_
            clear hK3
            refine wp_ret ?_
            exact hret _ _ _ hA rfl
          refine wp_skip ?_
          replace hb := of_decide_eq_false hb
          refine hK _ _ ?_
          clear hK
          refine wp_seq_k fun K2 hK2 => ?_
          refine wp_region_lit ?_
          refine rd_assign_const hA (by decide) ?_; clear hA a; intro a hA
          refine wpList_nil ?_
          refine hK2 _ _ ?_
          clear hK2
          refine wp_block ?_
          refine wp_loop (fun a' w' => w' = w ∧ ∃ (rmu : Int) (mu : Nat), mu ≤ su.ms.length ∧ 0 ≤ rmu ∧ rmu ≤ 1048576 ∧ Ag 557 a' [(3, .slice (some ⟨bj, oj, none⟩) D.length c0), (4, .slice sa S.length sc), (10, .bool false), (12, .int .i64 (j : Nat)), (13, .int .i64 (k : Nat)), (14, .int .i64 (l : Nat)), (15, .int .i64 (u : Nat)), (11, .int .i64 rmu), (16, .int .i64 (mu : Nat))]) (fun a' _ => su.ms.length - (intOf (a'.eval (.tmp 16))).toNat) ⟨rfl, _, 0, Nat.zero_le _, ?_, ?_, hA.part ⟨rfl, rfl, rfl, rfl, rfl, rfl, rfl, rfl, rfl, trivial⟩⟩ ?_
          · omega
          · omega
          clear hA a
          rintro a w' ⟨hw', rmu, mu, hmu, h0mu, h1mu, hA⟩
          subst w'
          have hmmu : intOf (a.eval (.tmp 16)) = (mu : Nat) := by rw [hA.eval rfl]; rfl
          generalize intOf (a.eval (.tmp 16)) = mmu at hmmu ⊢
          refine wp_seq_k fun K3 hK3 => ?_
          refine wp_seq_k fun K4 hK4 => ?_
          refine wp_region_lit ?_
          refine rd_move hA (by decide) rfl ?_; clear hA a; intro a hA
          refine rd_move hA (by decide) rfl ?_; clear hA a; intro a hA
          refine rd_move hA (by decide) rfl ?_; clear hA a; intro a hA
          refine rd_index hA (by decide) rfl rfl (by assumption) ix24 ?_; clear hA a; intro a hA
          refine rd_field hA (by decide) rfl fl39_3 ?_; clear hA a; intro a hA
          refine rd_load hA (by decide) rfl (by assumption) ag37 ?_; clear hA a; intro a hA
          refine rd_move hA (by decide) rfl ?_; clear hA a; intro a hA
          refine rd_index hA (by decide) rfl rfl (by assumption) ix37 ?_; clear hA a; intro a hA
          refine rd_field hA (by decide) rfl fl42_4 ?_; clear hA a; intro a hA
          refine rd_load hA (by decide) rfl (by assumption) ag40 ?_; clear hA a; intro a hA
          refine rd_move hA (by decide) rfl ?_; clear hA a; intro a hA
          refine rd_index hA (by decide) rfl rfl (by assumption) ix40 ?_; clear hA a; intro a hA
          refine rd_field hA (by decide) rfl fl44_2 ?_; clear hA a; intro a hA
          refine rd_load hA (by decide) rfl (by assumption) ag25 ?_; clear hA a; intro a hA
          refine rd_move hA (by decide) rfl ?_; clear hA a; intro a hA
          refine rd_index hA (by decide) rfl rfl (by assumption) ix25 ?_; clear hA a; intro a hA
          refine rd_field hA (by decide) rfl fl47_2 ?_; clear hA a; intro a hA
          refine rd_load hA (by decide) rfl (by assumption) ag45 ?_; clear hA a; intro a hA
          refine rd_len_slice hA (by decide) rfl ln45 ?_; clear hA a; intro a hA
          refine rd_lss hA (by decide) rfl rfl ?_; clear hA a; intro a hA
          refine wpList_nil ?_
          refine hK4 _ _ ?_
          clear hK4
          refine wp_cond_split (hA.eval rfl) (fun hb => ?_) (fun hb => ?_)
          · have hltmu : mu < su.ms.length := by have := of_decide_eq_true hb; omega
            clear hb
            refine wp_skip ?_
            refine hK3 _ _ ?_
            clear hK3
            obtain ⟨zmu, hzmu⟩ := get_of hltmu
            obtain ⟨bmu, omu, rfl, _, emu, ezmu⟩ := HSu.out.2 mu zmu hzmu
            clear hzmu
            refine wp_seq_k fun K5 hK5 => ?_
            refine wp_block ?_
            refine wp_seq_k fun K hK => ?_
            refine wp_seq_k fun K2 hK2 => ?_
            refine wp_region_lit ?_
            refine rd_move hA (by decide) rfl ?_; clear hA a; intro a hA
            refine rd_move hA (by decide) rfl ?_; clear hA a; intro a hA
            refine rd_index hA (by decide) rfl rfl (by assumption) ix24 ?_; clear hA a; intro a hA
            refine rd_field hA (by decide) rfl fl39_3 ?_; clear hA a; intro a hA
            refine rd_load hA (by decide) rfl (by assumption) ag37 ?_; clear hA a; intro a hA
            refine rd_move hA (by decide) rfl ?_; clear hA a; intro a hA
            refine rd_index hA (by decide) rfl rfl (by assumption) ix37 ?_; clear hA a; intro a hA
            refine rd_field hA (by decide) rfl fl42_4 ?_; clear hA a; intro a hA
            refine rd_load hA (by decide) rfl (by assumption) ag40 ?_; clear hA a; intro a hA
            refine rd_move hA (by decide) rfl ?_; clear hA a; intro a hA
            refine rd_index hA (by decide) rfl rfl (by assumption) ix40 ?_; clear hA a; intro a hA
            refine rd_field hA (by decide) rfl fl44_2 ?_; clear hA a; intro a hA
            refine rd_load hA (by decide) rfl (by assumption) ag25 ?_; clear hA a; intro a hA
            refine rd_move hA (by decide) rfl ?_; clear hA a; intro a hA
            refine rd_index hA (by decide) rfl rfl (by assumption) ix25 ?_; clear hA a; intro a hA
            refine rd_field hA (by decide) rfl fl47_2 ?_; clear hA a; intro a hA
            refine rd_load hA (by decide) rfl (by assumption) ag45 ?_; clear hA a; intro a hA
            refine rd_move hA (by decide) rfl ?_; clear hA a; intro a hA
            refine rd_index1 hA (by decide) rfl rfl (by assumption) ?_; clear hA a; intro a hA
            refine rd_load hA (by decide) rfl (by assumption) ag9 ?_; clear hA a; intro a hA
            refine rd_len_string hA (by decide) rfl ln9 ?_; clear hA a; intro a hA
            refine rd_gtr hA (by decide) rfl ?_; clear hA a; intro a hA
            refine wpList_nil ?_
            refine hK2 _ _ ?_
            clear hK2
            refine wp_cond_split (hA.eval rfl) (fun hb => ?_) (fun hb => ?_)
            · clear hK
              refine wp_seq_k fun K3 hK3 => ?_
              refine wp_region_lit ?_
              refine rd_assign_const hA (by decide) ?_; clear hA a; intro a hA
              refine wpList_nil ?_
              refine hK3 _ _ ?_
              clear hK3
              refine wp_ret ?_
              exact hret _ _ _ hA rfl
            refine wp_skip ?_
            replace hb := of_decide_eq_false hb
            refine hK _ _ ?_
            clear hK
            refine wp_seq_k fun K hK => ?_
            refine wp_region_lit ?_
            refine rd_move hA (by decide) rfl ?_; clear hA a; intro a hA
            refine rd_move hA (by decide) rfl ?_; clear hA a; intro a hA
            refine rd_move hA (by decide) rfl ?_; clear hA a; intro a hA
            refine rd_index hA (by decide) rfl rfl (by assumption) ix24 ?_; clear hA a; intro a hA
            refine rd_field hA (by decide) rfl fl39_3 ?_; clear hA a; intro a hA
            refine rd_load hA (by decide) rfl (by assumption) ag37 ?_; clear hA a; intro a hA
            refine rd_move hA (by decide) rfl ?_; clear hA a; intro a hA
            refine rd_index hA (by decide) rfl rfl (by assumption) ix37 ?_; clear hA a; intro a hA
            refine rd_field hA (by decide) rfl fl42_4 ?_; clear hA a; intro a hA
            refine rd_load hA (by decide) rfl (by assumption) ag40 ?_; clear hA a; intro a hA
            refine rd_move hA (by decide) rfl ?_; clear hA a; intro a hA
            refine rd_index hA (by decide) rfl rfl (by assumption) ix40 ?_; clear hA a; intro a hA
            refine rd_field hA (by decide) rfl fl44_2 ?_; clear hA a; intro a hA
            refine rd_load hA (by decide) rfl (by assumption) ag25 ?_; clear hA a; intro a hA
            refine rd_move hA (by decide) rfl ?_; clear hA a; intro a hA
            refine rd_index hA (by decide) rfl rfl (by assumption) ix25 ?_; clear hA a; intro a hA
            refine rd_field hA (by decide) rfl fl47_2 ?_; clear hA a; intro a hA
            refine rd_load hA (by decide) rfl (by assumption) ag45 ?_; clear hA a; intro a hA
            refine rd_move hA (by decide) rfl ?_; clear hA a; intro a hA
            refine rd_index1 hA (by decide) rfl rfl (by assumption) ?_; clear hA a; intro a hA
            refine rd_load hA (by decide) rfl (by assumption) ag9 ?_; clear hA a; intro a hA
            refine rd_len_string hA (by decide) rfl ln9 ?_; clear hA a; intro a hA
            refine rd_add hA (by decide) rfl rfl (by omega) (by omega) ?_; clear hA a; intro a hA
            refine rd_assign hA (by decide) rfl ?_; clear hA a; intro a hA
            refine wpList_nil ?_
            refine hK _ _ ?_
            clear hK
            refine wp_seq_k fun K2 hK2 => ?_
            refine wp_region_lit ?_
            refine rd_move hA (by decide) rfl ?_; clear hA a; intro a hA
            refine rd_gtr hA (by decide) rfl ?_; clear hA a; intro a hA
            refine wpList_nil ?_
            refine hK2 _ _ ?_
            clear hK2
            refine wp_cond_split (hA.eval rfl) (fun hb => ?_) (fun hb => ?_)
            · refine wp_seq_k fun K3 hK3 => ?_
              refine wp_region_lit ?_
              refine rd_assign_const hA (by decide) ?_; clear hA a; intro a hA
              refine wpList_nil ?_
              refine hK3 _ _ ?_
              clear hK3
              refine wp_ret ?_
              exact hret _ _ _ hA rfl
            refine wp_skip ?_
            replace hb := of_decide_eq_false hb
            refine hK5 _ _ ?_
            clear hK5
            refine wp_region_lit ?_
            refine rd_move hA (by decide) rfl ?_; clear hA a; intro a hA
            refine rd_inc hA (by decide) rfl (by omega) (by omega) ?_; clear hA a; intro a hA
            refine rd_assign hA (by decide) rfl ?_; clear hA a; intro a hA
            refine wpList_nil ?_
            refine ⟨⟨rfl, _, mu + 1, by omega, ?_, ?_, hA.part ⟨rfl, rfl, rfl, rfl, rfl, rfl, rfl, rfl, rfl, trivial⟩⟩, ?_⟩
            · omega
            · omega
            · rw [hA.eval rfl]
              simp only [intOf]
              omega
          · have hgemu := of_decide_eq_false hb
            clear hb hK3
            refine wp_exit ?_
            refine hK5 _ _ ?_
            clear hK5
            refine wp_region_lit ?_
            refine rd_move hA (by decide) rfl ?_; clear hA a; intro a hA
            refine rd_inc hA (by decide) rfl (by omega) (by omega) ?_; clear hA a; intro a hA
            refine rd_assign hA (by decide) rfl ?_; clear hA a; intro a hA
            refine wpList_nil ?_
            refine ⟨⟨rfl, _, u + 1, by omega, ?_, ?_, hA.part ⟨rfl, rfl, rfl, rfl, rfl, rfl, rfl, rfl, trivial⟩⟩, ?_⟩
            · omega
            · omega
            · rw [hA.eval rfl]
              simp only [intOf]
              omega
        · have hgeu := of_decide_eq_false hb
          clear hb hK3
          refine wp_exit ?_
          refine hK _ _ ?_
          clear hK
          refine wp_seq_k fun K hK => ?_
          refine wp_seq_k fun K2 hK2 => ?_
          refine wp_region_lit ?_
          refine rd_move hA (by decide) rfl ?_; clear hA a; intro a hA
          refine rd_move hA (by decide) rfl ?_; clear hA a; intro a hA
          refine rd_index hA (by decide) rfl rfl (by assumption) ix24 ?_; clear hA a; intro a hA
          refine rd_field hA (by decide) rfl fl39_3 ?_; clear hA a; intro a hA
          refine rd_load hA (by decide) rfl (by assumption) ag37 ?_; clear hA a; intro a hA
          refine rd_move hA (by decide) rfl ?_; clear hA a; intro a hA
          refine rd_index hA (by decide) rfl rfl (by assumption) ix37 ?_; clear hA a; intro a hA
          refine rd_field hA (by decide) rfl fl42_4 ?_; clear hA a; intro a hA
          refine rd_load hA (by decide) rfl (by assumption) ag40 ?_; clear hA a; intro a hA
          refine rd_move hA (by decide) rfl ?_; clear hA a; intro a hA
          refine rd_index hA (by decide) rfl rfl (by assumption) ix40 ?_; clear hA a; intro a hA
          refine rd_field hA (by decide) rfl fl44_4 ?_; clear hA a; intro a hA
          refine rd_load hA (by decide) rfl (by assumption) ag25 ?_; clear hA a; intro a hA
          refine rd_len_slice hA (by decide) rfl ln25 ?_; clear hA a; intro a hA
          refine rd_gtr hA (by decide) rfl ?_; clear hA a; intro a hA
          refine wpList_nil ?_
          refine hK2 _ _ ?_
          clear hK2
          refine wp_cond_split (hA.eval rfl) (fun hb => ?_) (fun hb => ?_)
          · clear hK
            refine wp_seq_k fun K3 hK3 => ?_
            refine wp_region_lit ?_
            refine rd_assign_const hA (by decide) ?_; clear hA a; intro a hA
            refine wpList_nil ?_
            refine hK3 _ _ ?_
            clear hK3
            refine wp_ret ?_
            exact hret _ _ _ hA rfl
          refine wp_skip ?_
          replace hb := of_decide_eq_false hb
          refine hK _ _ ?_
          clear hK
          refine wp_seq_k fun K hK => ?_
          refine wp_region_lit ?_
          refine rd_move hA (by decide) rfl ?_; clear hA a; intro a hA
          refine rd_move hA (by decide) rfl ?_; clear hA a; intro a hA
          refine rd_move hA (by decide) rfl ?_; clear hA a; intro a hA
          refine rd_index hA (by decide) rfl rfl (by assumption) ix24 ?_; clear hA a; intro a hA
          refine rd_field hA (by decide) rfl fl39_3 ?_; clear hA a; intro a hA
          refine rd_load hA (by decide) rfl (by assumption) ag37 ?_; clear hA a; intro a hA
          refine rd_move hA (by decide) rfl ?_; clear hA a; intro a hA
          refine rd_index hA (by decide) rfl rfl (by assumption) ix37 ?_; clear hA a; intro a hA
          refine rd_field hA (by decide) rfl fl42_4 ?_; clear hA a; intro a hA
          refine rd_load hA (by decide) rfl (by assumption) ag40 ?_; clear hA a; intro a hA
          refine rd_move hA (by decide) rfl ?_; clear hA a; intro a hA
          refine rd_index hA (by decide) rfl rfl (by assumption) ix40 ?_; clear hA a; intro a hA
          refine rd_field hA (by decide) rfl fl44_4 ?_; clear hA a; intro a hA
          refine rd_load hA (by decide) rfl (by assumption) ag25 ?_; clear hA a; intro a hA
          refine rd_len_slice hA (by decide) rfl ln25 ?_; clear hA a; intro a hA
          refine rd_add hA (by decide) rfl rfl (by omega) (by omega) ?_; clear hA a; intro a hA
          refine rd_assign hA (by decide) rfl ?_; clear hA a; intro a hA
          refine wpList_nil ?_
          refine hK _ _ ?_
          clear hK
          refine wp_seq_k fun K hK => ?_
          refine wp_seq_k fun K2 hK2 => ?_
          refine wp_region_lit ?_
          refine rd_move hA (by decide) rfl ?_; clear hA a; intro a hA
          refine rd_gtr hA (by decide) rfl ?_; clear hA a; intro a hA
          refine wpList_nil ?_
          refine hK2 _ _ ?_
          clear hK2
          refine wp_cond_split (hA.eval rfl) (fun hb => ?_) (fun hb => ?_)
          · clear hK
            refine wp_seq_k fun K3 hK3 => ?_
            refine wp_region_lit ?_
            refine rd_assign_const hA (by decide) ?_; clear hA a; intro a hA
            refine wpList_nil ?_
            refine hK3 _ _ ?_
            clear hK3
            refine wp_ret ?_
            exact hret _ _ _ hA rfl
          refine wp_skip ?_
          replace hb := of_decide_eq_false hb
          refine hK _ _ ?_
          clear hK
          refine wp_seq_k fun K2 hK2 => ?_
          refine wp_region_lit ?_
          refine rd_assign_const hA (by decide) ?_; clear hA a; intro a hA
          refine wpList_nil ?_
          refine hK2 _ _ ?_
          clear hK2
          refine wp_block ?_
          refine wp_loop (fun a' w' => w' = w ∧ ∃ (rv : Int) (v : Nat), v ≤ g.plan.length ∧ 0 ≤ rv ∧ rv ≤ 1048576 ∧ Ag 557 a' [(3, .slice (some ⟨bj, oj, none⟩) D.length c0), (4, .slice sa S.length sc), (10, .bool false), (12, .int .i64 (j : Nat)), (13, .int .i64 (k : Nat)), (14, .int .i64 (l : Nat)), (11, .int .i64 rv), (17, .int .i64 (v : Nat))]) (fun a' _ => g.plan.length - (intOf (a'.eval (.tmp 17))).toNat) ⟨rfl, _, 0, Nat.zero_le _, ?_, ?_, hA.part ⟨rfl, rfl, rfl, rfl, rfl, rfl, rfl, rfl, trivial⟩⟩ ?_
          · omega
          · omega
          clear hA a
          rintro a w' ⟨hw', rv, v, hv, h0v, h1v, hA⟩
          subst w'
          have hmv : intOf (a.eval (.tmp 17)) = (v : Nat) := by rw [hA.eval rfl]; rfl
          generalize intOf (a.eval (.tmp 17)) = mv at hmv ⊢
          refine wp_seq_k fun K3 hK3 => ?_
          refine wp_seq_k fun K4 hK4 => ?_
          refine wp_region_lit ?_
          refine rd_move hA (by decide) rfl ?_; clear hA a; intro a hA
          refine rd_move hA (by decide) rfl ?_; clear hA a; intro a hA
          refine rd_move hA (by decide) rfl ?_; clear hA a; intro a hA
          refine rd_index hA (by decide) rfl rfl (by assumption) ix24 ?_; clear hA a; intro a hA
          refine rd_field hA (by decide) rfl fl39_3 ?_; clear hA a; intro a hA
          refine rd_load hA (by decide) rfl (by assumption) ag37 ?_; clear hA a; intro a hA
          refine rd_move hA (by decide) rfl ?_; clear hA a; intro a hA
          refine rd_index hA (by decide) rfl rfl (by assumption) ix37 ?_; clear hA a; intro a hA
          refine rd_field hA (by decide) rfl fl42_4 ?_; clear hA a; intro a hA
          refine rd_load hA (by decide) rfl (by assumption) ag40 ?_; clear hA a; intro a hA
          refine rd_move hA (by decide) rfl ?_; clear hA a; intro a hA
          refine rd_index hA (by decide) rfl rfl (by assumption) ix40 ?_; clear hA a; intro a hA
          refine rd_field hA (by decide) rfl fl44_4 ?_; clear hA a; intro a hA
          refine rd_load hA (by decide) rfl (by assumption) ag25 ?_; clear hA a; intro a hA
          refine rd_len_slice hA (by decide) rfl ln25 ?_; clear hA a; intro a hA
          refine rd_lss hA (by decide) rfl rfl ?_; clear hA a; intro a hA
          refine wpList_nil ?_
          refine hK4 _ _ ?_
          clear hK4
          refine wp_cond_split (hA.eval rfl) (fun hb => ?_) (fun hb => ?_)
          · have hltv : v < g.plan.length := by have := of_decide_eq_true hb; omega
            clear hb
            refine wp_skip ?_
            refine hK3 _ _ ?_
            clear hK3
            obtain ⟨sv, hzv⟩ := get_of hltv
            obtain ⟨bv, ov, amv, cmv, rfl, _, _, _, ev, hSv, _, _⟩ := HGP.out.2 v sv hzv
            have hlv := hSv.1
            have HSv := hid hSv
            clear hzv hSv
            refine wp_seq_k fun K5 hK5 => ?_
            refine wp_block ?_
            refine wp_seq_k fun K hK => ?_
            refine wp_seq_k fun K2 hK2 => ?_
            refine wp_region_lit ?_
            refine rd_move hA (by decide) rfl ?_; clear hA a; intro a hA
            refine rd_move hA (by decide) rfl ?_; clear hA a; intro a hA
            refine rd_index hA (by decide) rfl rfl (by assumption) ix24 ?_; clear hA a; intro a hA
            refine rd_field hA (by decide) rfl fl39_3 ?_; clear hA a; intro a hA
            refine rd_load hA (by decide) rfl (by assumption) ag37 ?_; clear hA a; intro a hA
            refine rd_move hA (by decide) rfl ?_; clear hA a; intro a hA
            refine rd_index hA (by decide) rfl rfl (by assumption) ix37 ?_; clear hA a; intro a hA
            refine rd_field hA (by decide) rfl fl42_4 ?_; clear hA a; intro a hA
            refine rd_load hA (by decide) rfl (by assumption) ag40 ?_; clear hA a; intro a hA
            refine rd_move hA (by decide) rfl ?_; clear hA a; intro a hA
            refine rd_index hA (by decide) rfl rfl (by assumption) ix40 ?_; clear hA a; intro a hA
            refine rd_field hA (by decide) rfl fl44_4 ?_; clear hA a; intro a hA
            refine rd_load hA (by decide) rfl (by assumption) ag25 ?_; clear hA a; intro a hA
            refine rd_move hA (by decide) rfl ?_; clear hA a; intro a hA
            refine rd_index hA (by decide) rfl rfl (by assumption) ix25 ?_; clear hA a; intro a hA
            refine rd_field hA (by decide) rfl fl47_2 ?_; clear hA a; intro a hA
            refine rd_load hA (by decide) rfl (by assumption) ag45 ?_; clear hA a; intro a hA
            refine rd_len_slice hA (by decide) rfl ln45 ?_; clear hA a; intro a hA
            refine rd_gtr hA (by decide) rfl ?_; clear hA a; intro a hA
            refine wpList_nil ?_
            refine hK2 _ _ ?_
            clear hK2
            refine wp_cond_split (hA.eval rfl) (fun hb => ?_) (fun hb => ?_)
            · clear hK
              refine wp_seq_k fun K3 hK3 => ?_
              refine wp_region_lit ?_
              refine rd_assign_const hA (by decide) ?_; clear hA a; intro a hA
              refine wpList_nil ?_
              refine hK3 _ _ ?_
              clear hK3
              refine wp_ret ?_
              exact hret _ _ _ hA rfl
            refine wp_skip ?_
            replace hb := of_decide_eq_false hb
            refine hK _ _ ?_
            clear hK
            refine wp_seq_k fun K hK => ?_
            refine wp_region_lit ?_
            refine rd_move hA (by decide) rfl ?_; clear hA a; intro a hA
            refine rd_move hA (by decide) rfl ?_; clear hA a; intro a hA
            refine rd_move hA (by decide) rfl ?_; clear hA a; intro a hA
            refine rd_index hA (by decide) rfl rfl (by assumption) ix24 ?_; clear hA a; intro a hA
            refine rd_field hA (by decide) rfl fl39_3 ?_; clear hA a; intro a hA
            refine rd_load hA (by decide) rfl (by assumption) ag37 ?_; clear hA a; intro a hA
            refine rd_move hA (by decide) rfl ?_; clear hA a; intro a hA
            refine rd_index hA (by decide) rfl rfl (by assumption) ix37 ?_; clear hA a; intro a hA
            refine rd_field hA (by decide) rfl fl42_4 ?_; clear hA a; intro a hA
            refine rd_load hA (by decide) rfl (by assumption) ag40 ?_; clear hA a; intro a hA
            refine rd_move hA (by decide) rfl ?_; clear hA a; intro a hA
            refine rd_index hA (by decide) rfl rfl (by assumption) ix40 ?_; clear hA a; intro a hA
            refine rd_field hA (by decide) rfl fl44_4 ?_; clear hA a; intro a hA
            refine rd_load hA (by decide) rfl (by assumption) ag25 ?_; clear hA a; intro a hA
            refine rd_move hA (by decide) rfl ?_; clear hA a; intro a hA
            refine rd_index hA (by decide) rfl rfl (by assumption) ix25 ?_; clear hA a; intro a hA
            refine rd_field hA (by decide) rfl fl47_2 ?_; clear hA a; intro a hA
            refine rd_load hA (by decide) rfl (by assumption) ag45 ?_; clear hA a; intro a hA
            refine rd_len_slice hA (by decide) rfl ln45 ?_; clear hA a; intro a hA
            refine rd_add hA (by decide) rfl rfl (by omega) (by omega) ?_; clear hA a; intro a hA
            refine rd_assign hA (by decide) rfl ?_; clear hA a; intro a hA
            refine wpList_nil ?_
            refine hK _ _ ?_
            clear hK
            refine wp_seq_k fun K hK => ?_
            refine wp_seq_k fun K2 hK2 => ?_
            refine wp_region_lit ?_
            refine rd_move hA (by decide) rfl ?_; clear hA a; intro a hA
            refine rd_gtr hA (by decide) rfl ?_; clear hA a; intro a hA
            refine wpList_nil ?_
            refine hK2 _ _ ?_
            clear hK2
            refine wp_cond_split (hA.eval rfl) (fun hb => ?_) (fun hb => ?_)
            · clear hK
              refine wp_seq_k fun K3 hK3 => ?_
              refine wp_region_lit ?_
              refine rd_assign_const hA (by decide) ?_; clear hA a; intro a hA
              refine wpList_nil ?_
              refine hK3 _ _ ?_
              clear hK3
              refine wp_ret ?_
              exact hret _ _ _ hA rfl
            refine wp_skip ?_
            replace hb := of_decide_eq_false hb
            refine hK _ _ ?_
            clear hK
            refine wp_seq_k fun K2 hK2 => ?_
            refine wp_region_lit ?_
            refine rd_assign_const hA (by decide) ?_; clear hA a; intro a hA
            refine wpList_nil ?_
            refine hK2 _ _ ?_
            clear hK2
            refine wp_block ?_
            refine wp_loop (fun a' w' => w' = w ∧ ∃ (rmv : Int) (mv : Nat), mv ≤ sv.ms.length ∧ 0 ≤ rmv ∧ rmv ≤ 1048576 ∧ Ag 557 a' [(3, .slice (some ⟨bj, oj, none⟩) D.length c0), (4, .slice sa S.length sc), (10, .bool false), (12, .int .i64 (j : Nat)), (13, .int .i64 (k : Nat)), (14, .int .i64 (l : Nat)), (17, .int .i64 (v : Nat)), (11, .int .i64 rmv), (18, .int .i64 (mv : Nat))]) (fun a' _ => sv.ms.length - (intOf (a'.eval (.tmp 18))).toNat) ⟨rfl, _, 0, Nat.zero_le _, ?_, ?_, hA.part ⟨rfl, rfl, rfl, rfl, rfl, rfl, rfl, rfl, rfl, trivial⟩⟩ ?_
            · omega
            · omega
            clear hA a
            rintro a w' ⟨hw', rmv, mv, hmv, h0mv, h1mv, hA⟩
            subst w'
            have hmmv : intOf (a.eval (.tmp 18)) = (mv : Nat) := by rw [hA.eval rfl]; rfl
            generalize intOf (a.eval (.tmp 18)) = mmv at hmmv ⊢
            refine wp_seq_k fun K3 hK3 => ?_
            refine wp_seq_k fun K4 hK4 => ?_
            refine wp_region_lit ?_
            refine rd_move hA (by decide) rfl ?_; clear hA a; intro a hA
            refine rd_move hA (by decide) rfl ?_; clear hA a; intro a hA
            refine rd_move hA (by decide) rfl ?_; clear hA a; intro a hA
            refine rd_index hA (by decide) rfl rfl (by assumption) ix24 ?_; clear hA a; intro a hA
            refine rd_field hA (by decide) rfl fl39_3 ?_; clear hA a; intro a hA
            refine rd_load hA (by decide) rfl (by assumption) ag37 ?_; clear hA a; intro a hA
            refine rd_move hA (by decide) rfl ?_; clear hA a; intro a hA
            refine rd_index hA (by decide) rfl rfl (by assumption) ix37 ?_; clear hA a; intro a hA
            refine rd_field hA (by decide) rfl fl42_4 ?_; clear hA a; intro a hA
            refine rd_load hA (by decide) rfl (by assumption) ag40 ?_; clear hA a; intro a hA
            refine rd_move hA (by decide) rfl ?_; clear hA a; intro a hA
            refine rd_index hA (by decide) rfl rfl (by assumption) ix40 ?_; clear hA a; intro a hA
            refine rd_field hA (by decide) rfl fl44_4 ?_; clear hA a; intro a hA
            refine rd_load hA (by decide) rfl (by assumption) ag25 ?_; clear hA a; intro a hA
            refine rd_move hA (by decide) rfl ?_; clear hA a; intro a hA
            refine rd_index hA (by decide) rfl rfl (by assumption) ix25 ?_; clear hA a; intro a hA
            refine rd_field hA (by decide) rfl fl47_2 ?_; clear hA a; intro a hA
            refine rd_load hA (by decide) rfl (by assumption) ag45 ?_; clear hA a; intro a hA
            refine rd_len_slice hA (by decide) rfl ln45 ?_; clear hA a; intro a hA
            refine rd_lss hA (by decide) rfl rfl ?_; clear hA a; intro a hA
            refine wpList_nil ?_
            refine hK4 _ _ ?_
            clear hK4
            refine wp_cond_split (hA.eval rfl) (fun hb => ?_) (fun hb => ?_)
            · have hltmv : mv < sv.ms.length := by have := of_decide_eq_true hb; omega
              clear hb
              refine wp_skip ?_
              refine hK3 _ _ ?_
              clear hK3
              obtain ⟨zmv, hzmv⟩ := get_of hltmv
              obtain ⟨bmv, omv, rfl, _, emv, ezmv⟩ := HSv.out.2 mv zmv hzmv
              clear hzmv
              refine wp_seq_k fun K5 hK5 => ?_
              refine wp_block ?_
              refine wp_seq_k fun K hK => ?_
              refine wp_seq_k fun K2 hK2 => ?_
              refine wp_region_lit ?_
              refine rd_move hA (by decide) rfl ?_; clear hA a; intro a hA
              refine rd_move hA (by decide) rfl ?_; clear hA a; intro a hA
              refine rd_index hA (by decide) rfl rfl (by assumption) ix24 ?_; clear hA a; intro a hA
              refine rd_field hA (by decide) rfl fl39_3 ?_; clear hA a; intro a hA
              refine rd_load hA (by decide) rfl (by assumption) ag37 ?_; clear hA a; intro a hA
              refine rd_move hA (by decide) rfl ?_; clear hA a; intro a hA
              refine rd_index hA (by decide) rfl rfl (by assumption) ix37 ?_; clear hA a; intro a hA
              refine rd_field hA (by decide) rfl fl42_4 ?_; clear hA a; intro a hA
              refine rd_load hA (by decide) rfl (by assumption) ag40 ?_; clear hA a; intro a hA
              refine rd_move hA (by decide) rfl ?_; clear hA a; intro a hA
              refine rd_index hA (by decide) rfl rfl (by assumption) ix40 ?_; clear hA a; intro a hA
              refine rd_field hA (by decide) rfl fl44_4 ?_; clear hA a; intro a hA
              refine rd_load hA (by decide) rfl (by assumption) ag25 ?_; clear hA a; intro a hA
              refine rd_move hA (by decide) rfl ?_; clear hA a; intro a hA
              refine rd_index hA (by decide) rfl rfl (by assumption) ix25 ?_; clear hA a; intro a hA
              refine rd_field hA (by decide) rfl fl47_2 ?_; clear hA a; intro a hA
              refine rd_load hA (by decide) rfl (by assumption) ag45 ?_; clear hA a; intro a hA
              refine rd_move hA (by decide) rfl ?_; clear hA a; intro a hA
              refine rd_index1 hA (by decide) rfl rfl (by assumption) ?_; clear hA a; intro a hA
              refine rd_load hA (by decide) rfl (by assumption) ag9 ?_; clear hA a; intro a hA
              refine rd_len_string hA (by decide) rfl ln9 ?_; clear hA a; intro a hA
              refine rd_gtr hA (by decide) rfl ?_; clear hA a; intro a hA
              refine wpList_nil ?_
              refine hK2 _ _ ?_
              clear hK2
              refine wp_cond_split (hA.eval rfl) (fun hb => ?_) (fun hb => ?_)
              · clear hK
                refine wp_seq_k fun K3 hK3 => ?_
                refine wp_region_lit ?_
                refine rd_assign_const hA (by decide) ?_; clear hA a; intro a hA
                refine wpList_nil ?_
                refine hK3 _ _ ?_
                clear hK3
                refine wp_ret ?_
                exact hret _ _ _ hA rfl
              refine wp_skip ?_
              replace hb := of_decide_eq_false hb
              refine hK _ _ ?_
              clear hK
              refine wp_seq_k fun K hK => ?_
              refine wp_region_lit ?_
              refine rd_move hA (by decide) rfl ?_; clear hA a; intro a hA
              refine rd_move hA (by decide) rfl ?_; clear hA a; intro a hA
              refine rd_move hA (by decide) rfl ?_; clear hA a; intro a hA
              refine rd_index hA (by decide) rfl rfl (by assumption) ix24 ?_; clear hA a; intro a hA
              refine rd_field hA (by decide) rfl fl39_3 ?_; clear hA a; intro a hA
              refine rd_load hA (by decide) rfl (by assumption) ag37 ?_; clear hA a; intro a hA
              refine rd_move hA (by decide) rfl ?_; clear hA a; intro a hA
              refine rd_index hA (by decide) rfl rfl (by assumption) ix37 ?_; clear hA a; intro a hA
              refine rd_field hA (by decide) rfl fl42_4 ?_; clear hA a; intro a hA
              refine rd_load hA (by decide) rfl (by assumption) ag40 ?_; clear hA a; intro a hA
              refine rd_move hA (by decide) rfl ?_; clear hA a; intro a hA
              refine rd_index hA (by decide) rfl rfl (by assumption) ix40 ?_; clear hA a; intro a hA
              refine rd_field hA (by decide) rfl fl44_4 ?_; clear hA a; intro a hA
              refine rd_load hA (by decide) rfl (by assumption) ag25 ?_; clear hA a; intro a hA
              refine rd_move hA (by decide) rfl ?_; clear hA a; intro a hA
              refine rd_index hA (by decide) rfl rfl (by assumption) ix25 ?_; clear hA a; intro a hA
              refine rd_field hA (by decide) rfl fl47_2 ?_; clear hA a; intro a hA
              refine rd_load hA (by decide) rfl (by assumption) ag45 ?_; clear hA a; intro a hA
              refine rd_move hA (by decide) rfl ?_; clear hA a; intro a hA
              refine rd_index1 hA (by decide) rfl rfl (by assumption) ?_; clear hA a; intro a hA
              refine rd_load hA (by decide) rfl (by assumption) ag9 ?_; clear hA a; intro a hA
              refine rd_len_string hA (by decide) rfl ln9 ?_; clear hA a; intro a hA
              refine rd_add hA (by decide) rfl rfl (by omega) (by omega) ?_; clear hA a; intro a hA
              refine rd_assign hA (by decide) rfl ?_; clear hA a; intro a hA
              refine wpList_nil ?_
              refine hK _ _ ?_
              clear hK
              refine wp_seq_k fun K2 hK2 => ?_
              refine wp_region_lit ?_
              refine rd_move hA (by decide) rfl ?_; clear hA a; intro a hA
              refine rd_gtr hA (by decide) rfl ?_; clear hA a; intro a hA
              refine wpList_nil ?_
              refine hK2 _ _ ?_
              clear hK2
              refine wp_cond_split (hA.eval rfl) (fun hb => ?_) (fun hb => ?_)
              · refine wp_seq_k fun K3 hK3 => ?_
                refine wp_region_lit ?_
                refine rd_assign_const hA (by decide) ?_; clear hA a; intro a hA
                refine wpList_nil ?_
                refine hK3 _ _ ?_
                clear hK3
                refine wp_ret ?_
                exact hret _ _ _ hA rfl
              refine wp_skip ?_
              replace hb := of_decide_eq_false hb
              refine hK5 _ _ ?_
              clear hK5
              refine wp_region_lit ?_
              refine rd_move hA (by decide) rfl ?_; clear hA a; intro a hA
              refine rd_inc hA (by decide) rfl (by omega) (by omega) ?_; clear hA a; intro a hA
              refine rd_assign hA (by decide) rfl ?_; clear hA a; intro a hA
              refine wpList_nil ?_
              refine ⟨⟨rfl, _, mv + 1, by omega, ?_, ?_, hA.part ⟨rfl, rfl, rfl, rfl, rfl, rfl, rfl, rfl, rfl, trivial⟩⟩, ?_⟩
              · omega
              · omega
              · rw [hA.eval rfl]
                simp only [intOf]
                omega
            · have hgemv := of_decide_eq_false hb
              clear hb hK3
              refine wp_exit ?_
              refine hK5 _ _ ?_
              clear hK5
              refine wp_region_lit ?_
              refine rd_move hA (by decide) rfl ?_; clear hA a; intro a hA
              refine rd_inc hA (by decide) rfl (by omega) (by omega) ?_; clear hA a; intro a hA
              refine rd_assign hA (by decide) rfl ?_; clear hA a; intro a hA
              refine wpList_nil ?_
              refine ⟨⟨rfl, _, v + 1, by omega, ?_, ?_, hA.part ⟨rfl, rfl, rfl, rfl, rfl, rfl, rfl, rfl, trivial⟩⟩, ?_⟩
              · omega
              · omega
              · rw [hA.eval rfl]
                simp only [intOf]
                omega
          · have hgev := of_decide_eq_false hb
            clear hb hK3
            refine wp_exit ?_
            refine hK5 _ _ ?_
            clear hK5
            refine wp_region_lit ?_
            refine rd_move hA (by decide) rfl ?_; clear hA a; intro a hA
            refine rd_inc hA (by decide) rfl (by omega) (by omega) ?_; clear hA a; intro a hA
            refine rd_assign hA (by decide) rfl ?_; clear hA a; intro a hA
            refine wpList_nil ?_
            refine ⟨⟨rfl, _, l + 1, by omega, ?_, ?_, hA.part ⟨rfl, rfl, rfl, rfl, rfl, rfl, rfl, trivial⟩⟩, ?_⟩
            · omega
            · omega
            · rw [hA.eval rfl]
              simp only [intOf]
              omega
      · have hgel := of_decide_eq_false hb
        clear hb hK3
        refine wp_exit ?_
        refine hK5 _ _ ?_
        clear hK5
        refine wp_region_lit ?_
        refine rd_move hA (by decide) rfl ?_; clear hA a; intro a hA
        refine rd_inc hA (by decide) rfl (by omega) (by omega) ?_; clear hA a; intro a hA
        refine rd_assign hA (by decide) rfl ?_; clear hA a; intro a hA
        refine wpList_nil ?_
        refine ⟨⟨rfl, _, k + 1, by omega, ?_, ?_, hA.part ⟨rfl, rfl, rfl, rfl, rfl, rfl, trivial⟩⟩, ?_⟩
        · omega
        · omega
        · rw [hA.eval rfl]
          simp only [intOf]
          omega
    · have hgek := of_decide_eq_false hb
      clear hb hK3
      refine wp_exit ?_
      refine hK5 _ _ ?_
      clear hK5
      refine wp_region_lit ?_
      refine rd_move hA (by decide) rfl ?_; clear hA a; intro a hA
      refine rd_inc hA (by decide) rfl (by omega) (by omega) ?_; clear hA a; intro a hA
      refine rd_assign hA (by decide) rfl ?_; clear hA a; intro a hA
      refine wpList_nil ?_
      refine ⟨⟨rfl, _, j + 1, by omega, ?_, ?_, hA.part ⟨rfl, rfl, rfl, rfl, rfl, trivial⟩⟩, ?_⟩
      · omega
      · omega
      · rw [hA.eval rfl]
        simp only [intOf]
        omega
  · have hgej := of_decide_eq_false hb
    clear hb hK3
    refine wp_exit ?_
    refine hK _ _ ?_
    clear hK
    refine wp_seq_k fun K hK => ?_
    refine wp_seq_k fun K2 hK2 => ?_
    refine wp_region_lit ?_
    refine rd_move hA (by decide) rfl ?_; clear hA a; intro a hA
    refine rd_len_slice hA (by decide) rfl ln25 ?_; clear hA a; intro a hA
    refine rd_gtr hA (by decide) rfl ?_; clear hA a; intro a hA
    refine wpList_nil ?_
    refine hK2 _ _ ?_
    clear hK2
    refine wp_cond_split (hA.eval rfl) (fun hb => ?_) (fun hb => ?_)
    · clear hK
      refine wp_seq_k fun K3 hK3 => ?_
      refine wp_region_lit ?_
      refine rd_assign_const hA (by decide) ?_; clear hA a; intro a hA
      refine wpList_nil ?_
      refine hK3 _ _ ?_
      clear hK3
      refine wp_ret ?_
      exact hret _ _ _ hA rfl
    refine wp_skip ?_
    replace hb := of_decide_eq_false hb
    refine hK _ _ ?_
    clear hK
    refine wp_seq_k fun K hK => ?_
    refine wp_region_lit ?_
    refine rd_move hA (by decide) rfl ?_; clear hA a; intro a hA
    refine rd_move hA (by decide) rfl ?_; clear hA a; intro a hA
    refine rd_len_slice hA (by decide) rfl ln25 ?_; clear hA a; intro a hA
    refine rd_add hA (by decide) rfl rfl (by omega) (by omega) ?_; clear hA a; intro a hA
    refine rd_assign hA (by decide) rfl ?_; clear hA a; intro a hA
    refine wpList_nil ?_
    refine hK _ _ ?_
    clear hK
    refine wp_seq_k fun K hK => ?_
    refine wp_seq_k fun K2 hK2 => ?_
    refine wp_region_lit ?_
    refine rd_move hA (by decide) rfl ?_; clear hA a; intro a hA
    refine rd_gtr hA (by decide) rfl ?_; clear hA a; intro a hA
    refine wpList_nil ?_
    refine hK2 _ _ ?_
    clear hK2
    refine wp_cond_split (hA.eval rfl) (fun hb => ?_) (fun hb => ?_)
    · clear hK
      refine wp_seq_k fun K3 hK3 => ?_
      refine wp_region_lit ?_
      refine rd_assign_const hA (by decide) ?_; clear hA a; intro a hA
      refine wpList_nil ?_
      refine hK3 _ _ ?_
      clear hK3
      refine wp_ret ?_
      exact hret _ _ _ hA rfl
    refine wp_skip ?_
    replace hb := of_decide_eq_false hb
    refine hK _ _ ?_
    clear hK
    refine wp_seq_k fun K hK => ?_
    refine wp_seq_k fun K2 hK2 => ?_
    refine wp_region_lit ?_
    refine rd_assign_const hA (by decide) ?_; clear hA a; intro a hA
    refine wpList_nil ?_
    refine hK2 _ _ ?_
    clear hK2
    refine wp_block ?_
    refine wp_loop (fun a' w' => w' = w ∧ ∃ (rx : Int) (x : Nat), x ≤ S.length ∧ 0 ≤ rx ∧ rx ≤ 1048576 ∧ Ag 557 a' [(3, .slice a0 D.length c0), (4, .slice sa S.length sc), (10, .bool false), (11, .int .i64 rx), (19, .int .i64 (x : Nat))]) (fun a' _ => S.length - (intOf (a'.eval (.tmp 19))).toNat) ⟨rfl, _, 0, Nat.zero_le _, ?_, ?_, hA.part ⟨rfl, rfl, rfl, rfl, rfl, trivial⟩⟩ ?_
    · omega
    · omega
    clear hA a
    rintro a w' ⟨hw', rx, x, hx, h0x, h1x, hA⟩
    subst w'
    have hmx : intOf (a.eval (.tmp 19)) = (x : Nat) := by rw [hA.eval rfl]; rfl
    generalize intOf (a.eval (.tmp 19)) = mx at hmx ⊢
    refine wp_seq_k fun K3 hK3 => ?_
    refine wp_seq_k fun K4 hK4 => ?_
    refine wp_region_lit ?_
    refine rd_move hA (by decide) rfl ?_; clear hA a; intro a hA
    refine rd_move hA (by decide) rfl ?_; clear hA a; intro a hA
    refine rd_len_slice hA (by decide) rfl ln25 ?_; clear hA a; intro a hA
    refine rd_lss hA (by decide) rfl rfl ?_; clear hA a; intro a hA
    refine wpList_nil ?_
    refine hK4 _ _ ?_
    clear hK4
    refine wp_cond_split (hA.eval rfl) (fun hb => ?_) (fun hb => ?_)
    · have hltx : x < S.length := by have := of_decide_eq_true hb; omega
      clear hb hK
      refine wp_skip ?_
      refine hK3 _ _ ?_
      clear hK3
      obtain ⟨sx, hzx⟩ := get_of hltx
      obtain ⟨bx, ox, amx, cmx, rfl, _, _, _, ex, hSx, _, _⟩ := HS.out.2 x sx hzx
      have hlx := hSx.1
      have HSx := hid hSx
      clear hzx hSx
      refine wp_seq_k fun K5 hK5 => ?_
      refine wp_block ?_
      refine wp_seq_k fun K hK => ?_
      refine wp_seq_k fun K2 hK2 => ?_
      refine wp_region_lit ?_
      refine rd_move hA (by decide) rfl ?_; clear hA a; intro a hA
      refine rd_move hA (by decide) rfl ?_; clear hA a; intro a hA
      refine rd_index hA (by decide) rfl rfl (by assumption) ix25 ?_; clear hA a; intro a hA
      refine rd_field hA (by decide) rfl fl47_2 ?_; clear hA a; intro a hA
      refine rd_load hA (by decide) rfl (by assumption) ag45 ?_; clear hA a; intro a hA
      refine rd_len_slice hA (by decide) rfl ln45 ?_; clear hA a; intro a hA
      refine rd_gtr hA (by decide) rfl ?_; clear hA a; intro a hA
      refine wpList_nil ?_
      refine hK2 _ _ ?_
      clear hK2
      refine wp_cond_split (hA.eval rfl) (fun hb => ?_) (fun hb => ?_)
      · clear hK
        refine wp_seq_k fun K3 hK3 => ?_
        refine wp_region_lit ?_
        refine rd_assign_const hA (by decide) ?_; clear hA a; intro a hA
        refine wpList_nil ?_
        refine hK3 _ _ ?_
        clear hK3
        refine wp_ret ?_
        exact hret _ _ _ hA rfl
      refine wp_skip ?_
      replace hb := of_decide_eq_false hb
      refine hK _ _ ?_
      clear hK
      refine wp_seq_k fun K hK => ?_
      refine wp_region_lit ?_
      refine rd_move hA (by decide) rfl ?_; clear hA a; intro a hA
      refine rd_move hA (by decide) rfl ?_; clear hA a; intro a hA
      refine rd_move hA (by decide) rfl ?_; clear hA a; intro a hA
      refine rd_index hA (by decide) rfl rfl (by assumption) ix25 ?_; clear hA a; intro a hA
      refine rd_field hA (by decide) rfl fl47_2 ?_; clear hA a; intro a hA
      refine rd_load hA (by decide) rfl (by assumption) ag45 ?_; clear hA a; intro a hA
      refine rd_len_slice hA (by decide) rfl ln45 ?_; clear hA a; intro a hA
      refine rd_add hA (by decide) rfl rfl (by omega) (by omega) ?_; clear hA a; intro a hA
      refine rd_assign hA (by decide) rfl ?_; clear hA a; intro a hA
      refine wpList_nil ?_
      refine hK _ _ ?_
      clear hK
      refine wp_seq_k fun K hK => ?_
      refine wp_seq_k fun K2 hK2 => ?_
      refine wp_region_lit ?_
      refine rd_move hA (by decide) rfl ?_; clear hA a; intro a hA
      refine rd_gtr hA (by decide) rfl ?_; clear hA a; intro a hA
      refine wpList_nil ?_
      refine hK2 _ _ ?_
      clear hK2
      refine wp_cond_split (hA.eval rfl) (fun hb => ?_) (fun hb => ?_)
      · clear hK
        refine wp_seq_k fun K3 hK3 => ?_
        refine wp_region_lit ?_
        refine rd_assign_const hA (by decide) ?_; clear hA a; intro a hA
        refine wpList_nil ?_
        refine hK3 _ _ ?_
        clear hK3
        refine wp_ret ?_
        exact hret _ _ _ hA rfl
      refine wp_skip ?_
      replace hb := of_decide_eq_false hb
      refine hK _ _ ?_
      clear hK
      refine wp_seq_k fun K2 hK2 => ?_
      refine wp_region_lit ?_
      refine rd_assign_const hA (by decide) ?_; clear hA a; intro a hA
      refine wpList_nil ?_
      refine hK2 _ _ ?_
      clear hK2
      refine wp_block ?_
      refine wp_loop (fun a' w' => w' = w ∧ ∃ (rmx : Int) (mx : Nat), mx ≤ sx.ms.length ∧ 0 ≤ rmx ∧ rmx ≤ 1048576 ∧ Ag 557 a' [(3, .slice a0 D.length c0), (4, .slice (some ⟨bx, ox, none⟩) S.length sc), (10, .bool false), (19, .int .i64 (x : Nat)), (11, .int .i64 rmx), (20, .int .i64 (mx : Nat))]) (fun a' _ => sx.ms.length - (intOf (a'.eval (.tmp 20))).toNat) ⟨rfl, _, 0, Nat.zero_le _, ?_, ?_, hA.part ⟨rfl, rfl, rfl, rfl, rfl, rfl, trivial⟩⟩ ?_
      · omega
      · omega
      clear hA a
      rintro a w' ⟨hw', rmx, mx, hmx, h0mx, h1mx, hA⟩
      subst w'
      have hmmx : intOf (a.eval (.tmp 20)) = (mx : Nat) := by rw [hA.eval rfl]; rfl
      generalize intOf (a.eval (.tmp 20)) = mmx at hmmx ⊢
      refine wp_seq_k fun K3 hK3 => ?_
      refine wp_seq_k fun K4 hK4 => ?_
      refine wp_region_lit ?_
      refine rd_move hA (by decide) rfl ?_; clear hA a; intro a hA
      refine rd_move hA (by decide) rfl ?_; clear hA a; intro a hA
      refine rd_move hA (by decide) rfl ?_; clear hA a; intro a hA
      refine rd_index hA (by decide) rfl rfl (by assumption) ix25 ?_; clear hA a; intro a hA
      refine rd_field hA (by decide) rfl fl47_2 ?_; clear hA a; intro a hA
      refine rd_load hA (by decide) rfl (by assumption) ag45 ?_; clear hA a; intro a hA
      refine rd_len_slice hA (by decide) rfl ln45 ?_; clear hA a; intro a hA
      refine rd_lss hA (by decide) rfl rfl ?_; clear hA a; intro a hA
      refine wpList_nil ?_
      refine hK4 _ _ ?_
      clear hK4
      refine wp_cond_split (hA.eval rfl) (fun hb => ?_) (fun hb => ?_)
      · have hltmx : mx < sx.ms.length := by have := of_decide_eq_true hb; omega
        clear hb
        refine wp_skip ?_
        refine hK3 _ _ ?_
        clear hK3
        obtain ⟨zmx, hzmx⟩ := get_of hltmx
        obtain ⟨bmx, omx, rfl, _, emx, ezmx⟩ := HSx.out.2 mx zmx hzmx
        clear hzmx
        refine wp_seq_k fun K5 hK5 => ?_
        refine wp_block ?_
        refine wp_seq_k fun K hK => ?_
        refine wp_seq_k fun K2 hK2 => ?_
        refine wp_region_lit ?_
        refine rd_move hA (by decide) rfl ?_; clear hA a; intro a hA
        refine rd_move hA (by decide) rfl ?_; clear hA a; intro a hA
        refine rd_index hA (by decide) rfl rfl (by assumption) ix25 ?_; clear hA a; intro a hA
        refine rd_field hA (by decide) rfl fl47_2 ?_; clear hA a; intro a hA
        refine rd_load hA (by decide) rfl (by assumption) ag45 ?_; clear hA a; intro a hA
        refine rd_move hA (by decide) rfl ?_; clear hA a; intro a hA
        refine rd_index1 hA (by decide) rfl rfl (by assumption) ?_; clear hA a; intro a hA
        refine rd_load hA (by decide) rfl (by assumption) ag9 ?_; clear hA a; intro a hA
        refine rd_len_string hA (by decide) rfl ln9 ?_; clear hA a; intro a hA
        refine rd_gtr hA (by decide) rfl ?_; clear hA a; intro a hA
        refine wpList_nil ?_
        refine hK2 _ _ ?_
        clear hK2
        refine wp_cond_split (hA.eval rfl) (fun hb => ?_) (fun hb => ?_)
        · clear hK
          refine wp_seq_k fun K3 hK3 => ?_
          refine wp_region_lit ?_
          refine rd_assign_const hA (by decide) ?_; clear hA a; intro a hA
          refine wpList_nil ?_
          refine hK3 _ _ ?_
          clear hK3
          refine wp_ret ?_
          exact hret _ _ _ hA rfl
        refine wp_skip ?_
        replace hb := of_decide_eq_false hb
        refine hK _ _ ?_
        clear hK
        refine wp_seq_k fun K hK => ?_
        refine wp_region_lit ?_
        refine rd_move hA (by decide) rfl ?_; clear hA a; intro a hA
        refine rd_move hA (by decide) rfl ?_; clear hA a; intro a hA
        refine rd_move hA (by decide) rfl ?_; clear hA a; intro a hA
        refine rd_index hA (by decide) rfl rfl (by assumption) ix25 ?_; clear hA a; intro a hA
        refine rd_field hA (by decide) rfl fl47_2 ?_; clear hA a; intro a hA
        refine rd_load hA (by decide) rfl (by assumption) ag45 ?_; clear hA a; intro a hA
        refine rd_move hA (by decide) rfl ?_; clear hA a; intro a hA
        refine rd_index1 hA (by decide) rfl rfl (by assumption) ?_; clear hA a; intro a hA
        refine rd_load hA (by decide) rfl (by assumption) ag9 ?_; clear hA a; intro a hA
        refine rd_len_string hA (by decide) rfl ln9 ?_; clear hA a; intro a hA
        refine rd_add hA (by decide) rfl rfl (by omega) (by omega) ?_; clear hA a; intro a hA
        refine rd_assign hA (by decide) rfl ?_; clear hA a; intro a hA
        refine wpList_nil ?_
        refine hK _ _ ?_
        clear hK
        refine wp_seq_k fun K2 hK2 => ?_
        refine wp_region_lit ?_
        refine rd_move hA (by decide) rfl ?_; clear hA a; intro a hA
        refine rd_gtr hA (by decide) rfl ?_; clear hA a; intro a hA
        refine wpList_nil ?_
        refine hK2 _ _ ?_
        clear hK2
        refine wp_cond_split (hA.eval rfl) (fun hb => ?_) (fun hb => ?_)
        · refine wp_seq_k fun K3 hK3 => ?_
          refine wp_region_lit ?_
          refine rd_assign_const hA (by decide) ?_; clear hA a; intro a hA
          refine wpList_nil ?_
          refine hK3 _ _ ?_
          clear hK3
          refine wp_ret ?_
          exact hret _ _ _ hA rfl
        refine wp_skip ?_
        replace hb := of_decide_eq_false hb
        refine hK5 _ _ ?_
        clear hK5
        refine wp_region_lit ?_
        refine rd_move hA (by decide) rfl ?_; clear hA a; intro a hA
        refine rd_inc hA (by decide) rfl (by omega) (by omega) ?_; clear hA a; intro a hA
        refine rd_assign hA (by decide) rfl ?_; clear hA a; intro a hA
        refine wpList_nil ?_
        refine ⟨⟨rfl, _, mx + 1, by omega, ?_, ?_, hA.part ⟨rfl, rfl, rfl, rfl, rfl, rfl, trivial⟩⟩, ?_⟩
        · omega
        · omega
        · rw [hA.eval rfl]
          simp only [intOf]
          omega
      · have hgemx := of_decide_eq_false hb
        clear hb hK3
        refine wp_exit ?_
        refine hK5 _ _ ?_
        clear hK5
        refine wp_region_lit ?_
        refine rd_move hA (by decide) rfl ?_; clear hA a; intro a hA
        refine rd_inc hA (by decide) rfl (by omega) (by omega) ?_; clear hA a; intro a hA
        refine rd_assign hA (by decide) rfl ?_; clear hA a; intro a hA
        refine wpList_nil ?_
        refine ⟨⟨rfl, _, x + 1, by omega, ?_, ?_, hA.part ⟨rfl, rfl, rfl, rfl, rfl, trivial⟩⟩, ?_⟩
        · omega
        · omega
        · rw [hA.eval rfl]
          simp only [intOf]
          omega
    · have hgex := of_decide_eq_false hb
      clear hb hK3
      refine wp_exit ?_
      refine hK _ _ ?_
      clear hK
      refine wp_seq_k fun K hK => ?_
      refine wp_region_lit ?_
      refine rd_assign_const hA (by decide) ?_; clear hA a; intro a hA
      refine wpList_nil ?_
      refine hK _ _ ?_
      clear hK
      refine wp_ret ?_
      exact hret _ _ _ hA rfl
end Go.Proofs.Qxb6609540aGreatDoor
