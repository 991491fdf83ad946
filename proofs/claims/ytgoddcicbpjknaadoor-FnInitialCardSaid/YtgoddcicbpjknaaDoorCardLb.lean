/- FnInitial, as its card states it: whatever the sign, the bytes and the choice, the call returns true and leaves all that was there as it was. Behind it: Walks: FnInitial. -/
import Derived.Test.YtgoddcicbpjknaaDoorPartE
import Derived.Lay
/-! Walks: FnInitial. -/
set_option maxRecDepth 20000
namespace Go.Proofs.YtgoddcicbpjknaaDoor
open Go
open Cfb
set_option maxHeartbeats 4000000 in
theorem FnInitial_early (sg n cn : Nat) (p : Option Addr) (four : Bool) (hn : n = 0 ∨ 10 < n) :
    Ct Tryd.prog 4 [.int .u8 (sg : Int), .slice p n cn, .bool four] [] (fun v q => v = .bool true ∧ q = []) := by
  refine Ct_of Tryd.func4 rfl Tryd.ntmps4 rfl ?_
  intro E F
  simp only [numL, List.nil_append, List.cons_append]
  refine CW_seq ?_
  refine CW_region ?_
  refine RW_y rfl rfl rfl (Yl.h (Yl_assign rfl)) ?_
  refine (RW_nil (QW_then (CW_live (ks := [0, 1, 2]) (.cons rfl (.cons rfl (.cons rfl .nil))) ?_)))
  refine CW_seq ?_
  refine CW_seq ?_
  refine CW_region ?_
  refine RW_y rfl rfl rfl (Yl.h (Yl_move rfl)) ?_
  refine RW_y rfl rfl rfl (Yl.h (Yl_len rfl sl_23)) ?_
  refine RW_y rfl rfl rfl (Yl.h (Yl_gtr rfl rfl)) ?_
  refine (RW_nil (QW_then (CW_live (ks := [0, 1, 2, 16]) (.cons rfl (.cons rfl (.cons rfl (.cons rfl .nil)))) ?_)))
  refine CW_cond rfl (fun hc1 => ?_) (fun hc1 => ?_)
  · replace hc1 := of_decide_eq_true hc1
    refine CW_seq ?_
    refine CW_region ?_
    refine RW_y rfl rfl rfl (Yl.h (Yl_assign rfl)) ?_
    refine (RW_nil (QW_then (CW_live (ks := [6]) (.cons rfl .nil) ?_)))
    refine CW_ret ?_
    refine QW_ret_then ?_
    exact QW_ret1 rfl rfl [] ⟨rfl, rfl⟩ (Prm.nil _)
  · replace hc1 := of_decide_eq_false hc1
    refine (CW_skip (QW_then (CW_live (ks := [0, 1, 2]) (.cons rfl (.cons rfl (.cons rfl .nil))) ?_)))
    refine CW_seq ?_
    refine CW_seq ?_
    refine CW_region ?_
    refine RW_y rfl rfl rfl (Yl.h (Yl_move rfl)) ?_
    refine RW_y rfl rfl rfl (Yl.h (Yl_len rfl sl_23)) ?_
    refine RW_y rfl rfl rfl (Yl.h (Yl_eql rfl rfl)) ?_
    refine RW_y rfl rfl rfl (Yl.h (Yl_move rfl)) ?_
    refine RW_bool 20 rfl (fun hg2 => ?_) (fun hg2 => ?_)
    · replace hg2 := of_decide_eq_true hg2
      refine RW_skip rfl rfl rfl ?_
      refine RW_skip rfl rfl rfl ?_
      refine RW_skip rfl rfl rfl ?_
      refine RW_y rfl rfl rfl (Yl.h (Yl_pick_t rfl rfl)) ?_
      refine (RW_nil (QW_then (CW_live (ks := [0, 1, 2, 24]) (.cons rfl (.cons rfl (.cons rfl (.cons rfl .nil)))) ?_)))
      refine CW_true rfl ?_
      refine CW_seq ?_
      refine CW_region ?_
      refine RW_y rfl rfl rfl (Yl.h (Yl_assign rfl)) ?_
      refine (RW_nil (QW_then (CW_live (ks := [6]) (.cons rfl .nil) ?_)))
      refine CW_ret ?_
      refine QW_ret_then ?_
      exact QW_ret1 rfl rfl [] ⟨rfl, rfl⟩ (Prm.nil _)
    · replace hg2 := of_decide_eq_false hg2
      refine RW_gy rfl rfl rfl (Yl.h (Yl_move rfl)) ?_
      refine RW_gy rfl rfl rfl (Yl.h (Yl_len rfl sl_23)) ?_
      refine RW_gy rfl rfl rfl (Yl.h (Yl_gtr rfl rfl)) ?_
      refine RW_y rfl rfl rfl (Yl.h (Yl_pick_f rfl rfl)) ?_
      refine (RW_nil (QW_then (CW_live (ks := [0, 1, 2, 24]) (.cons rfl (.cons rfl (.cons rfl (.cons rfl .nil)))) ?_)))
      refine CW_cond rfl (fun hc3 => ?_) (fun hc3 => ?_)
      · replace hc3 := of_decide_eq_true hc3
        refine CW_seq ?_
        refine CW_region ?_
        refine RW_y rfl rfl rfl (Yl.h (Yl_assign rfl)) ?_
        refine (RW_nil (QW_then (CW_live (ks := [6]) (.cons rfl .nil) ?_)))
        refine CW_ret ?_
        refine QW_ret_then ?_
        exact QW_ret1 rfl rfl [] ⟨rfl, rfl⟩ (Prm.nil _)
      · replace hc3 := of_decide_eq_false hc3
        exfalso
        omega
set_option maxHeartbeats 4000000 in
theorem FnInitial_main (sg n cn bn on : Nat) (nm : List UInt8) (ln : List Value) (Tn : TypeId) (fz : Nat × Nat) (four : Bool) (hsg : sg ≤ 255) (hn : 1 ≤ n ∧ n ≤ 10) (hnl : n = nm.length) (hln : ∀ i, i < n → ln[on + i]? = some (bv (nm.getD i 0))) (ps : List Value) (T : TypeId) (hp : PsOk ps) (D : Heap) (hmem : (bn, Obj.cells ln.toArray Tn fz) ∈ (2, blk ps T) :: D) :
    Ct Tryd.prog 4 [.int .u8 (sg : Int), .slice (some ⟨bn, on, none⟩) n cn, .bool four] ((2, blk ps T) :: D) (fun v q => v = .bool true ∧ q = (2, blk ps T) :: D) := by
  refine Ct_of Tryd.func4 rfl Tryd.ntmps4 rfl ?_
  intro E F
  simp only [numL, List.nil_append, List.cons_append]
  refine CW_seq ?_
  refine CW_region ?_
  refine RW_y rfl rfl rfl (Yl.h (Yl_assign rfl)) ?_
  refine (RW_nil (QW_then (CW_live (ks := [0, 1, 2]) (.cons rfl (.cons rfl (.cons rfl .nil))) ?_)))
  refine CW_seq ?_
  refine CW_seq ?_
  refine CW_region ?_
  refine RW_y rfl rfl rfl (Yl.h (Yl_move rfl)) ?_
  refine RW_y rfl rfl rfl (Yl.h (Yl_len rfl sl_23)) ?_
  refine RW_y rfl rfl rfl (Yl.h (Yl_gtr rfl rfl)) ?_
  refine (RW_nil (QW_then (CW_live (ks := [0, 1, 2, 16]) (.cons rfl (.cons rfl (.cons rfl (.cons rfl .nil)))) ?_)))
  refine CW_cond rfl (fun hc1 => ?_) (fun hc1 => ?_)
  · replace hc1 := of_decide_eq_true hc1
    exfalso; omega
  · replace hc1 := of_decide_eq_false hc1
    refine (CW_skip (QW_then (CW_live (ks := [0, 1, 2]) (.cons rfl (.cons rfl (.cons rfl .nil))) ?_)))
    refine CW_seq ?_
    refine CW_seq ?_
    refine CW_region ?_
    refine RW_y rfl rfl rfl (Yl.h (Yl_move rfl)) ?_
    refine RW_y rfl rfl rfl (Yl.h (Yl_len rfl sl_23)) ?_
    refine RW_y rfl rfl rfl (Yl.h (Yl_eql rfl rfl)) ?_
    refine RW_y rfl rfl rfl (Yl.h (Yl_move rfl)) ?_
    refine RW_bool 20 rfl (fun hg2 => ?_) (fun hg2 => ?_)
    · replace hg2 := of_decide_eq_true hg2
      exfalso
      omega
    · replace hg2 := of_decide_eq_false hg2
      refine RW_gy rfl rfl rfl (Yl.h (Yl_move rfl)) ?_
      refine RW_gy rfl rfl rfl (Yl.h (Yl_len rfl sl_23)) ?_
      refine RW_gy rfl rfl rfl (Yl.h (Yl_gtr rfl rfl)) ?_
      refine RW_y rfl rfl rfl (Yl.h (Yl_pick_f rfl rfl)) ?_
      refine (RW_nil (QW_then (CW_live (ks := [0, 1, 2, 24]) (.cons rfl (.cons rfl (.cons rfl (.cons rfl .nil)))) ?_)))
      refine CW_cond rfl (fun hc3 => ?_) (fun hc3 => ?_)
      · replace hc3 := of_decide_eq_true hc3
        exfalso
        omega
      · replace hc3 := of_decide_eq_false hc3
        refine (CW_skip (QW_then (CW_live (ks := [0, 1, 2]) (.cons rfl (.cons rfl (.cons rfl .nil))) ?_)))
        refine CW_seq ?_
        refine CW_region ?_
        refine RW_y rfl rfl rfl (Yl.h (Yl_assign rfl)) ?_
        refine (RW_nil (QW_then (CW_live (ks := [0, 1, 2, 7]) (.cons rfl (.cons rfl (.cons rfl (.cons rfl .nil)))) ?_)))
        refine CW_seq ?_
        refine CW_seq ?_
        refine CW_region ?_
        refine RW_y rfl rfl rfl (Yl.h (Yl_move rfl)) ?_
        refine RW_y rfl rfl rfl (Yl.h (Yl_len rfl sl_23)) ?_
        refine RW_y rfl rfl rfl (Yl.h (Yl_move rfl)) ?_
        refine (RW_nil (QW_then (CW_live (ks := [0, 2, 7, 25, 26, 27]) (.cons rfl (.cons rfl (.cons rfl (.cons rfl (.cons rfl (.cons rfl .nil)))))) ?_)))
        refine CW_block ?_
        refine CW_loop (σ := Nat) (fun q => [(0, .int .u8 (sg : Int)), (2, .bool four), (7, .string (bar (txt (nm.take q)))), (25, .slice (some ⟨bn, on, none⟩) n cn), (26, nv n), (27, nv q)]) (fun q => (2, blk ps T) :: (D ++ F)) (fun q => q ≤ n) (fun q => n - q) 0 (Nat.zero_le _) (by repeat (first | exact Prm.nil _ | exact Rem.here _ _ | apply Rem.there | apply Prm.cons)) (.cons rfl (.cons rfl (.cons rfl (.cons rfl (.cons rfl (.cons rfl .nil)))))) ?_
        rintro i hi
        refine CW_seq ?_
        refine CW_region ?_
        refine RW_y rfl rfl rfl (Yl.h (Yl_lss rfl rfl)) ?_
        refine (RW_nil (QW_then (CW_live (ks := [0, 2, 7, 25, 26, 27, 28]) (.cons rfl (.cons rfl (.cons rfl (.cons rfl (.cons rfl (.cons rfl (.cons rfl .nil))))))) ?_)))
        refine CW_seq ?_
        refine CW_cond rfl (fun hc4 => ?_) (fun hc4 => ?_)
        · replace hc4 := of_decide_eq_true hc4
          refine (CW_skip (QW_then (CW_live (ks := [0, 2, 7, 25, 26, 27]) (.cons rfl (.cons rfl (.cons rfl (.cons rfl (.cons rfl (.cons rfl .nil)))))) ?_)))
          refine CW_seq ?_
          refine CW_block ?_
          refine CW_seq ?_
          have hx255 := (nm.getD i 0).toNat_lt
          refine CW_region ?_
          refine RW_y rfl rfl rfl (Yl.h (Yl_indexN (b := bn) (off := on) (i := i) (o' := on + i) rfl rfl sl_23 (by omega) (by omega))) ?_
          refine RW_y rfl rfl rfl (Yh_load (v := bv (nm.getD i 0)) rfl sc_5 ((show List.Sublist ((2, blk ps T) :: D) _ by repeat (first | exact .cons_cons _ (List.sublist_append_left _ _) | apply List.Sublist.cons)).subset hmem) (hln i (by omega))) ?_
          refine RW_y rfl rfl rfl (Yl.h (Yl_assign rfl)) ?_
          refine (RW_nil (QW_then (CW_live (ks := [0, 2, 7, 9, 25, 26, 27]) (.cons rfl (.cons rfl (.cons rfl (.cons rfl (.cons rfl (.cons rfl (.cons rfl .nil))))))) ?_)))
          refine CW_region ?_
          refine RW_y rfl rfl rfl (Yl.h (Yl_move rfl)) ?_
          refine RW_y rfl rfl rfl (Yl.h (Yl_move rfl)) ?_
          refine RW_y rfl rfl rfl (Yl.h (Yl_rem (c := (((nm.getD i 0).toNat % 26 : Nat) : Int)) rfl rfl (by omega) (remN (nm.getD i 0).toNat 26))) ?_
          refine RW_y rfl rfl rfl (Yl.h (Yl_add (c := ((65 + (nm.getD i 0).toNat % 26 : Nat) : Int)) rfl rfl (wu8 (by omega) (by omega)))) ?_
          refine RW_y rfl rfl rfl (Yl.h (Yl_conv (c := ((65 + (nm.getD i 0).toNat % 26 : Nat) : Int)) rfl in_5 in_21 (wi32 (by omega) (by omega)))) ?_
          refine RW_y rfl rfl rfl (Yl.h (Yl_rune (n := 65 + (nm.getD i 0).toNat % 26) rfl in_21 st_9 (by omega))) ?_
          refine RW_y rfl rfl rfl (Yl.h (Yl_concatB (a := (txt (nm.take i))) (b := [UInt8.ofNat (65 + (nm.getD i 0).toNat % 26)]) rfl rfl (by simp [txt]; omega))) ?_
          refine RW_y rfl rfl rfl (Yl.h (Yl_assign rfl)) ?_
          refine RW_nil ?_
          refine QW_normal_block ?_
          refine (QW_then (CW_live (ks := [0, 2, 7, 25, 26, 27]) (.cons rfl (.cons rfl (.cons rfl (.cons rfl (.cons rfl (.cons rfl .nil)))))) ?_))
          refine CW_region ?_
          refine RW_y rfl rfl rfl (Yl.h (Yl_add (c := ((i + 1 : Nat) : Int)) rfl rfl (wi64 (by omega) (by omega)))) ?_
          refine RW_y rfl rfl rfl (Yl.h (Yl_move rfl)) ?_
          refine RW_nil ?_
          have hsx := txt_succ (l := nm) (i := i) (by omega)
          rw [← hsx]
          exact QW_round (i + 1) (by omega) (by omega) (by repeat (first | exact Prm.nil _ | exact Rem.here _ _ | apply Rem.there | apply Prm.cons)) (.cons rfl (.cons rfl (.cons rfl (.cons rfl (.cons rfl (.cons rfl .nil))))))
        · replace hc4 := of_decide_eq_false hc4
          refine CW_exit ?_
          refine QW_exit_then ?_
          refine QW_exit_then ?_
          refine QW_exit_block ?_
          refine (QW_then (CW_live (ks := [0, 2, 7]) (.cons rfl (.cons rfl (.cons rfl .nil))) ?_))
          refine CW_seq ?_
          have hin : i = n := by omega
          rw [hin, hnl, List.take_length]
          obtain ⟨fst, hfst⟩ : ∃ x, x = 1 + sg % 31 := ⟨_, rfl⟩
          have htx : ∀ c ∈ txt nm, c.toNat < 128 := by
            intro c hc
            obtain ⟨x, _, rfl⟩ := List.mem_map.1 hc
            rw [UInt8.toNat_ofNat']; omega
          refine CW_region ?_
          refine RW_y rfl rfl rfl (Yl.h (Yl_move rfl)) ?_
          refine RW_y rfl rfl rfl (Yl.h (Yl_rem (c := ((sg % 31 : Nat) : Int)) rfl rfl (by omega) (remN sg 31))) ?_
          refine RW_y rfl rfl rfl (Yl.h (Yl_add (c := (fst : Int)) rfl rfl (by rw [hfst]; exact wu8 (by omega) (by omega)))) ?_
          refine RW_y rfl rfl rfl (Yl.h (Yl_assign rfl)) ?_
          refine (RW_nil (QW_then (CW_live (ks := [2, 7, 10]) (.cons rfl (.cons rfl (.cons rfl .nil))) ?_)))
          refine CW_seq ?_
          refine CW_region ?_
          refine RW_y rfl rfl rfl (Yl.h (Yl_build (cs := (plainNm rootName (-1) (-1) 1).cells) pl_43 ze_43 rfl rfl)) ?_
          refine RW_y rfl rfl rfl (Yl.h (Yl_move rfl)) ?_
          refine RW_y rfl rfl rfl (Yl.h (Yl_conv (c := (fst : Int)) rfl in_5 in_21 (wi32 (by omega) (by omega)))) ?_
          refine RW_y rfl rfl rfl (Yl.h (Yl_rune (n := fst) rfl in_21 st_9 (by omega))) ?_
          refine RW_y rfl rfl rfl (Yl.h (Yl_move rfl)) ?_
          refine RW_y rfl rfl rfl (Yl.h (Yl_concatB (a := [UInt8.ofNat fst]) (b := txt nm) rfl rfl (by simp [txt]; omega))) ?_
          refine RW_fx rfl rfl rfl (Fx_litS (vs := bys [1, 2, 3]) sl_23 ze_5 rfl rfl rfl rfl rfl) ?_
          rintro _ _ ⟨b48, rfl, rfl⟩
          refine RW_y rfl rfl rfl (Yl.h (Yl_build (cs := (inNm fst (txt nm) b48).cells) pl_43 ze_43 rfl rfl)) ?_
          refine RW_fx rfl rfl rfl (Fx_lit (vs := [.agg (plainNm rootName (-1) (-1) 1).cells.toArray, .agg (inNm fst (txt nm) b48).cells.toArray]) (css := [(plainNm rootName (-1) (-1) 1).cells, (inNm fst (txt nm) b48).cells]) (cs := nms (inNs fst (txt nm) b48)) sl_25 ze_43 rfl rfl rfl rfl rfl (by intro c hc; simp only [List.mem_cons, List.not_mem_nil, or_false] at hc; rcases hc with rfl | rfl <;> exact Nm.length_cells _) (by simp [inNs, nms])) ?_
          rintro _ _ ⟨g, rfl, rfl⟩
          refine RW_y rfl rfl rfl (Yl.h (Yl_assign rfl)) ?_
          refine (RW_nil (QW_then (CW_live (ks := [2, 7, 10, 11]) (.cons rfl (.cons rfl (.cons rfl (.cons rfl .nil)))) ?_)))
          refine CW_seq ?_
          have hw := write_ct g 2 (verF four) 0 (inNs fst (txt nm) b48) [] (inXs fst (txt nm)) rfl inXs_ok (inNs_ok (by simp [txt]; omega)) (by rcases verF_or four with e | e <;> omega) (by omega)
          rw [List.append_nil] at hw
          have hnh : nmsH (inNs fst (txt nm) b48) = [(b48, blk (bys [1, 2, 3]) 5)] := rfl
          rw [hnh] at hw
          change Ct Tryd.prog 15 [.slice (some ⟨g, 0, none⟩) 2 2, _, _] _ _ at hw
          refine CW_region ?_
          refine RW_y rfl rfl rfl (Yl.h (Yl_move rfl)) ?_
          refine RW_y rfl rfl rfl (Yl.h (Yl_move rfl)) ?_
          refine RW_fx rfl rfl rfl (Fx_callQ ok_16 (vs := [.bool four]) (R := fun v => v = nv (verF four)) rfl (Pick.nil _) (versionOf_ct four)) ?_
          rintro _ _ ⟨rfl, rfl⟩
          refine RW_fx rfl rfl rfl (Fx_call ok_15 (vs := [.slice (some ⟨g, 0, none⟩) 2 2, nv (verF four), nv 0]) rfl (Pick.cons (by repeat (first | exact Rem.here _ _ | apply Rem.there)) (Pick.cons (by repeat (first | exact Rem.here _ _ | apply Rem.there)) (Pick.nil _))) hw) ?_
          rintro _ _ ⟨_, ⟨g1, rfl, rfl⟩, rfl⟩
          simp only [List.cons_append, List.nil_append]
          refine RW_fx rfl rfl rfl (Fx_call ok_18 (vs := [.slice (some ⟨g1, 0, none⟩) (NF (verF four) (inXs fst (txt nm))) (NF (verF four) (inXs fst (txt nm)))]) rfl (Pick.cons (by repeat (first | exact Rem.here _ _ | apply Rem.there)) (Pick.cons (by repeat (first | exact Rem.here _ _ | apply Rem.there)) (Pick.nil _))) (Initial_entries (T := T) (four := four) hp (by omega) (by simp [txt]; omega) htx g1)) ?_
          rintro _ _ ⟨_, ⟨go, cap, l, rfl, hl27, hl30, hl31, rfl⟩, rfl⟩
          simp only [List.cons_append, List.nil_append]
          refine RW_y rfl rfl rfl (Yl.h (Yl_move rfl)) ?_
          refine RW_y rfl rfl rfl (Yl.h (Yl_extract (v := .slice (some ⟨go, 0, none⟩) 2 cap) rfl rfl)) ?_
          refine RW_y rfl rfl rfl (Yl.h (Yl_extract (v := nv 0) rfl rfl)) ?_
          refine RW_y rfl rfl rfl (Yl.h (Yl_assign rfl)) ?_
          refine RW_y rfl rfl rfl (Yl.h (Yl_assign rfl)) ?_
          refine (RW_nil (QW_then (CW_live (ks := [7, 10, 12, 13]) (.cons rfl (.cons rfl (.cons rfl (.cons rfl .nil)))) ?_)))
          refine CW_seq ?_
          refine CW_region ?_
          refine RW_y rfl rfl rfl (Yl.h (Yl_move rfl)) ?_
          refine RW_y rfl rfl rfl (Yl.h (Yl_eql rfl rfl)) ?_
          refine RW_y rfl rfl rfl (Yl.h (Yl_move rfl)) ?_
          refine RW_bool 61 rfl (fun hg5 => ?_) (fun hg5 => ?_)
          · replace hg5 := of_decide_eq_true hg5
            refine RW_gy rfl rfl rfl (Yl.h (Yl_move rfl)) ?_
            refine RW_gy rfl rfl rfl (Yl.h (Yl_len rfl sl_33)) ?_
            refine RW_gy rfl rfl rfl (Yl.h (Yl_eql rfl rfl)) ?_
            refine RW_y rfl rfl rfl (Yl.h (Yl_pick_t rfl rfl)) ?_
            refine RW_y rfl rfl rfl (Yl.h (Yl_move rfl)) ?_
            refine RW_bool 66 rfl (fun hg6 => ?_) (fun hg6 => ?_)
            · replace hg6 := of_decide_eq_true hg6
              refine RW_gy rfl rfl rfl (Yl.h (Yl_move rfl)) ?_
              refine RW_gy rfl rfl rfl (Yl.h (Yl_indexN (b := go) (off := 0) (i := 1) (o' := 27) rfl rfl sl_33 (by omega) (by omega))) ?_
              refine RW_gy rfl rfl rfl (Yl.h (Yl_field rfl fo_41_0)) ?_
              refine RW_gy rfl rfl rfl (Yh_load (v := .string (bar (txt nm))) rfl sc_9 (by repeat (first | exact List.Mem.head _ | apply List.Mem.tail)) hl27) ?_
              refine RW_gy rfl rfl rfl (Yl.h (Yl_move rfl)) ?_
              refine RW_gy rfl rfl rfl (Yl.h (Yl_strEq (s := bar (txt nm)) (r := bar (txt nm)) rfl rfl)) ?_
              refine RW_y rfl rfl rfl (Yl.h (Yl_pick_t rfl rfl)) ?_
              refine RW_y rfl rfl rfl (Yl.h (Yl_move rfl)) ?_
              refine RW_bool 74 rfl (fun hg7 => ?_) (fun hg7 => ?_)
              · skip
                refine RW_gy rfl rfl rfl (Yl.h (Yl_move rfl)) ?_
                refine RW_gy rfl rfl rfl (Yl.h (Yl_indexN (b := go) (off := 0) (i := 1) (o' := 27) rfl rfl sl_33 (by omega) (by omega))) ?_
                refine RW_gy rfl rfl rfl (Yl.h (Yl_field rfl fo_41_4)) ?_
                refine RW_gy rfl rfl rfl (Yh_load (v := .int .i64 (fst : Int)) rfl sc_3 (by repeat (first | exact List.Mem.head _ | apply List.Mem.tail)) hl31) ?_
                refine RW_gy rfl rfl rfl (Yl.h (Yl_move rfl)) ?_
                refine RW_gy rfl rfl rfl (Yl.h (Yl_conv (c := (fst : Int)) rfl in_5 in_3 (wi64 (by omega) (by omega)))) ?_
                refine RW_gy rfl rfl rfl (Yl.h (Yl_eql rfl rfl)) ?_
                refine RW_y rfl rfl rfl (Yl.h (Yl_pick_t rfl rfl)) ?_
                refine RW_y rfl rfl rfl (Yl.h (Yl_move rfl)) ?_
                refine RW_bool 83 rfl (fun hg8 => ?_) (fun hg8 => ?_)
                · replace hg8 := of_decide_eq_true hg8
                  refine RW_gy rfl rfl rfl (Yl.h (Yl_move rfl)) ?_
                  refine RW_gy rfl rfl rfl (Yl.h (Yl_indexN (b := go) (off := 0) (i := 1) (o' := 27) rfl rfl sl_33 (by omega) (by omega))) ?_
                  refine RW_gy rfl rfl rfl (Yl.h (Yl_field rfl fo_41_3)) ?_
                  refine RW_gy rfl rfl rfl (Yh_load (v := .int .i64 3) rfl sc_2 (by repeat (first | exact List.Mem.head _ | apply List.Mem.tail)) hl30) ?_
                  refine RW_gy rfl rfl rfl (Yl.h (Yl_eql rfl rfl)) ?_
                  refine RW_y rfl rfl rfl (Yl.h (Yl_pick_t rfl rfl)) ?_
                  refine RW_y rfl rfl rfl (Yl.h (Yl_assign rfl)) ?_
                  refine (RW_nil (QW_then (CW_live (ks := [6]) (.cons rfl .nil) ?_)))
                  refine CW_ret ?_
                  refine QW_dropB (e := (go, _)) (by repeat (first | exact Rem.here _ _ | apply Rem.there)) ?_
                  refine QW_dropB (e := (g1, _)) (by repeat (first | exact Rem.here _ _ | apply Rem.there)) ?_
                  refine QW_dropB (e := (g, _)) (by repeat (first | exact Rem.here _ _ | apply Rem.there)) ?_
                  refine QW_dropB (e := (b48, _)) (by repeat (first | exact Rem.here _ _ | apply Rem.there)) ?_
                  exact QW_ret1 rfl rfl (_ :: D) ⟨rfl, rfl⟩ (by repeat (first | exact Prm.nil _ | exact Rem.here _ _ | apply Rem.there | apply Prm.cons))
                · replace hg8 := of_decide_eq_false hg8
                  exact absurd rfl hg8
              · skip
                simp at hg7
            · replace hg6 := of_decide_eq_false hg6
              exact absurd rfl hg6
          · replace hg5 := of_decide_eq_false hg5
            exact absurd rfl hg5
end Go.Proofs.YtgoddcicbpjknaaDoor

/-! FnInitial, as its card states it: whatever the sign, the bytes and the choice, the call returns true and leaves all that was there as it was. -/
set_option maxRecDepth 100000
namespace Go.Proofs.YtgoddcicbpjknaaDoor.fnInitial
open Go
open Cfb
open Go.ChangeShapes Go.WideShapes Go.ChangeAt Go.RowKit
theorem contract (H : Type) (enc : TypeId × Value → H) (W : World) (base : Nat) (args : Array Value) (ds gs : List (DataW H)) (before : List MemPlace)
    (hval : ∀ (j : Nat) t v, Tryd.f4.params[j]? = some t → args[j]? = some v → Value.okWide Tryd.prog W .any base t v)
    (hW : DataW.Whole enc Tryd.prog Tryd.f4.params.toList Rows.fnInitialSpec.vars false W args.toList ds gs before) (hL : laidMetH Tryd.prog Rows.fnInitialRow.laid W) (hS : W.ShapedOpen Tryd.prog) :
    Calls Tryd.prog 4 args W fun e W' => ∃ v, e = .returned v ∧ Rows.fnInitialSpec.post enc Tryd.prog Tryd.f4 false true false false W args v W' := by
  have hW' := hW
  obtain ⟨p, q, hA0, hV, rfl, hfz, hnd⟩ := hW
  have hA : DataW.TrodAll enc Tryd.prog W 0 (fun _ => true) true Tryd.f4.params.toList args.toList ds p := hA0
  have hlt : ∀ x ∈ p, x.block < W.heap.size := fun x hx => by simpa using hW'.lt x (List.mem_append_left _ hx)
  have again := fun W' hb => trodAll_again (W' := W') hb _ _ _ _ hA (by rw [Tryd.params4]; kernel_rfl) hlt
  rw [Tryd.params4] at hA hval
  obtain ⟨v0, vs0, d0, ds0, p0, q0, hargs, rfl, rfl, h0, r0⟩ := trodAll_cons hA
  obtain ⟨v1, vs1, d1, ds1, p1, q1, rfl, rfl, rfl, h1, r1⟩ := trodAll_cons r0
  obtain ⟨v2, vs2, d2, ds2, p2, q2, rfl, rfl, rfl, h2, r2⟩ := trodAll_cons r1
  obtain ⟨rfl, rfl, rfl⟩ := trodAll_nil r2
  obtain rfl : args = #[v0, v1, v2] := by cases args; simp_all
  obtain ⟨rfl, rfl⟩ := trodVars_none hV
  obtain ⟨a0, rfl, rfl, rfl, w0⟩ := open_int Tryd.underlying5 (hval 0 5 v0 rfl rfl) h0
  obtain ⟨a2, rfl, rfl, rfl⟩ := open_bool Tryd.underlying4 (hval 2 4 v2 rfl rfl) h2
  obtain ⟨T, hT⟩ := tab_block (props_tab hL) hS
  obtain ⟨n0, rfl, b0⟩ := u8_nat w0
  obtain ⟨sp, n, c, rfl, hnc, hsl⟩ := open_bytes (hval 1 23 v1 rfl rfl) h1
  have fin : Calls Tryd.prog 4 #[.int .u8 (n0 : Int), .slice sp n c, .bool a2] W fun e w' => e = .returned (.bool true) ∧ Grown W w' ∧ Below W.heap.size W w' := by
    by_cases hn : n = 0 ∨ 10 < n
    · exact (FnInitial_early n0 n c sp a2 hn).rowB (W := W) (by intro p hp; cases hp) (by simp)
    · rcases hsl with h | ⟨b, off, l, T1, fz, bs, rfl, hb, hbl, hbs⟩
      · exact absurd (.inl h) hn
      · obtain ⟨l⟩ := l
        have main := fun D hmem => FnInitial_main n0 n c b off bs l T1 fz a2 b0 (by omega) hbl.symm (fun i hi => by simpa using hbs i hi) propsV T propsV_ok D hmem
        by_cases e2 : b = 2
        · have e3 : (b, Obj.cells l.toArray T1 fz) = (2, blk propsV T) := by
            subst e2
            rw [hT] at hb
            rw [Option.some.inj hb]
          exact (main [] (by rw [e3]; exact List.Mem.head _)).rowB (W := W) (by intro p hp; rw [List.mem_singleton.1 hp]; exact hT) (by simp)
        · exact (main [(b, Obj.cells l.toArray T1 fz)] (List.Mem.tail _ (List.Mem.head _))).rowB (W := W)
            (by intro p hp; simp only [List.mem_cons, List.not_mem_nil, or_false] at hp; rcases hp with rfl | rfl; exact hT; exact hb) (by simp; exact fun e => e2 e.symm)
  refine fin.mono fun e W' ⟨he, hg, hb⟩ => ?_
  subst he
  exact ⟨_, rfl, ⟨_, _, _, [], _, [], hW', trodAll_cons_mk (shut_bool Tryd.underlying4 _) trodAll_mk0, again W' hb, rfl, hg.frame _, fun h => by cases h⟩⟩
/-- A world for the witness. -/
noncomputable def laidWorld (os : Os) : World := World.laidAll Tryd.prog os Rows.fnInitialRow.laid
theorem laid_met (os : Os) : laidMet Tryd.prog Rows.fnInitialRow.laid ((laidWorld os).forCall (fun _ _ => 0) ⟨#[], #[.int .u8 0, .slice none 0 0, .bool false], []⟩).memory := laidMet_laidAll _ (by kernel_rfl) (by kernel_rfl)
theorem reads (os : Os) {H : Type} (enc : TypeId × Value → H) : ∃ places, DataW.whole enc Tryd.prog ((laidWorld os).forCall (fun _ _ => 0) ⟨#[], #[.int .u8 0, .slice none 0 0, .bool false], []⟩).memory Tryd.f4.params.toList Rows.fnInitialSpec.vars false #[Value.int .u8 0, .slice none 0 0, .bool false].toList 8 = some ([.lit (.int .u8 0), .nil, .lit (.bool false)], [], places) :=
  ⟨[], by kernel_rfl⟩
theorem lifted (os : Os) (started : os.Started) (H : Type) (enc : TypeId × Value → H) (F : Stop.Interp) :
    ReturnsInHanded {} Tryd.checked os 4 .any ((OpenSpec.ofChange Rows.fnInitialSpec).preRow enc Tryd.prog Tryd.f4 Rows.fnInitialRow.domain false Rows.fnInitialRow.laid) (((OpenSpec.ofChange Rows.fnInitialSpec).at F).post enc Tryd.prog Tryd.f4 false true false false) := by
  obtain ⟨places, hx⟩ := reads os enc
  refine returnsInHanded_of_row (C := Tryd.checked) (s := OpenSpec.ofChange Rows.fnInitialSpec) own started (by kernel_rfl) Tryd.func4
    (witness_row_at (enc := enc) (C := Tryd.checked) false (laidWorld os) #[.int .u8 0, .slice none 0 0, .bool false] (World.laidAll_os _ _ _) (by kernel_rfl) (by kernel_rfl) (by kernel_rfl)
      (OpenSpec.preRow_of_cond 8 hx (by kernel_rfl) (fun k hk => by cases hk) (by kernel_rfl) (laid_met os))) ?_
  intro W base args ds gs before hval hW _ _ _ hL hS _
  exact contract H enc W base args ds gs before hval hW hL hS
theorem said : Rows.FnInitialSaid :=
  OpenClaim.holds_of_cond 4 Tryd.f4 rfl rfl rfl rfl rfl rfl rfl ⟨rfl, rfl, rfl, rfl, rfl⟩ rfl rfl rfl rfl rfl (by kernel_rfl) Tryd.func4 (by kernel_rfl)
    (of_decide_eq_true (by kernel_rfl)) (by unfold Func.isWrapper; first | (rw [if_pos (by decide +kernel)]; kernel_rfl) | (rw [if_neg (by decide +kernel)]; exact ⟨rfl, rfl⟩))
    (fun os started H enc _ F => by rw [OpenClaim.pre_eq_preRow]; exact lifted os started H enc F)
theorem plain (f : FuncId) (fn : Func) (hf : Tryd.pinned.checked.prog.funcNamed "loop.example/pub-g03453/laws.FnInitial" = some f) (hfn : Tryd.pinned.checked.prog.funcs[f]? = some fn) :
    true = Tryd.pinned.checked.prog.looks [] ∧ ∀ (j : Nat) t, fn.params[j]? = some t → Tryd.pinned.checked.prog.wantsStandIn t = false := by
  obtain rfl : f = 4 := Option.some.inj ((show Tryd.prog.funcNamed "loop.example/pub-g03453/laws.FnInitial" = some 4 by kernel_rfl).symm.trans hf) |>.symm
  obtain rfl : fn = Tryd.f4 := (Option.some.inj (Tryd.func4.symm.trans hfn)).symm
  refine ⟨by kernel_rfl, fun j t ht => ?_⟩
  rw [Tryd.params4] at ht
  have hm : t ∈ [5, 23, 4] := by simpa using Array.mem_of_getElem? ht
  have hall : ([5, 23, 4].all fun u => !Tryd.prog.wantsStandIn u) = true := by kernel_rfl
  exact (show Tryd.prog.wantsStandIn t = false by simpa using List.all_eq_true.1 hall t hm)
theorem card : Rows.FnInitialCardSaid :=
  Claim7.holds_tied_plain_at .later [] _ _ _ _ said (fun _ h => by cases h) (by kernel_rfl) (fun _ h => by cases h) fnInitial_row_tie rfl ⟨rfl, rfl⟩ (by kernel_rfl) rfl plain (by kernel_rfl)
#print axioms card
end Go.Proofs.YtgoddcicbpjknaaDoor.fnInitial
