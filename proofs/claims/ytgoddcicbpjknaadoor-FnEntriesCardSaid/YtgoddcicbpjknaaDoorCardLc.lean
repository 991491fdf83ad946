/- FnEntries, as its card states it: whatever the numbers, the bytes, the choice and the step, the call returns true and leaves all that was there as it was. -/
import Derived.Test.YtgoddcicbpjknaaDoorPartD
import Derived.Clock
import Derived.Lay
set_option maxRecDepth 20000
set_option maxHeartbeats 4000000

namespace Go.Proofs.YtgoddcicbpjknaaDoor
open Go
open Cfb

theorem FnEntries_ct (nN cN nD cD st : Nat) (pN pD : Option Addr) (four : Bool) (hst : st ≤ 255) (ps : List Value) (T : TypeId) (hp : PsOk ps) (D : Heap) (hN : NumOk ((2, blk ps T) :: D) pN nN) (hD : BytOk ((2, blk ps T) :: D) pD nD) (hcN : nN ≤ cN) :
  Ct Tryd.prog 3 [.slice pN nN cN, .slice pD nD cD, .bool four, .int .u8 (st : Int)] ((2, blk ps T) :: D) (fun v q => v = .bool true ∧ q = (2, blk ps T) :: D) := by
 refine Ct_of Tryd.func3 rfl Tryd.ntmps3 rfl ?_
 intro E F
 simp only [numL, List.nil_append, List.cons_append]
 refine CW_sr ?_
 refine RW_a ?_
 refine RW_lv [0,1,2,3] ?_
 refine CW_seq ?_
 refine CW_sr ?_
 refine RW_m ?_
 refine RW_l (Yl_len rfl sl_22) ?_
 refine RW_l (Yl_gtr rfl rfl) ?_
 refine RW_m ?_
 refine RW_bool 23 rfl (fun hg1 => ?_) (fun hg1 => ?_)
 ·replace hg1 := of_decide_eq_true hg1
  refine RW_skip rfl rfl rfl ?_
  refine RW_skip rfl rfl rfl ?_
  refine RW_skip rfl rfl rfl ?_
  refine RW_l (Yl_pick_t rfl rfl) ?_
  refine RW_lv [0,1,2,3,27] ?_
  refine CW_true rfl ?_
  refine CW_sr ?_
  refine RW_a ?_
  refine RW_lv [8] ?_
  refine CW_ret ?_
  refine QW_ret_then ?_
  first
   | exact QW_ret1 rfl rfl ((2, blk ps T) :: D) ⟨rfl, rfl⟩ (Prm.nil _)
   | (refine QW_sub (H' := (2, blk ps T) :: (D ++ F)) (.cons_cons _ (.cons _ (.cons _ (List.sublist_append_right _ _)))) ?_; exact QW_ret1 rfl rfl ((2, blk ps T) :: D) ⟨rfl, rfl⟩ (Prm.nil _))
   | (refine QW_sub (H' := (2, blk ps T) :: (D ++ F)) (.cons _ (.cons _ (.cons _ (.cons _ (.cons_cons _ (.cons _ (List.Sublist.trans (List.sublist_append_right _ _) (List.Sublist.trans (List.sublist_append_right _ _) (List.sublist_append_right _ _))))))))) ?_; exact QW_ret1 rfl rfl ((2, blk ps T) :: D) ⟨rfl, rfl⟩ (Prm.nil _))
 replace hg1 := of_decide_eq_false hg1
 refine RW_gy rfl rfl rfl (Yl.h (Yl_move rfl)) ?_
 refine RW_gy rfl rfl rfl (Yl.h (Yl_len rfl sl_23)) ?_
 refine RW_gy rfl rfl rfl (Yl.h (Yl_gtr rfl rfl)) ?_
 refine RW_l (Yl_pick_f rfl rfl) ?_
 refine RW_lv [0,1,2,3,27] ?_
 refine CW_cd rfl (fun hc2 => ?_) (fun hc2 => ?_)
 ·refine CW_sr ?_
  refine RW_a ?_
  refine RW_lv [8] ?_
  refine CW_ret ?_
  refine QW_ret_then ?_
  first
   | exact QW_ret1 rfl rfl ((2, blk ps T) :: D) ⟨rfl, rfl⟩ (Prm.nil _)
   | (refine QW_sub (H' := (2, blk ps T) :: (D ++ F)) (.cons_cons _ (.cons _ (.cons _ (List.sublist_append_right _ _)))) ?_; exact QW_ret1 rfl rfl ((2, blk ps T) :: D) ⟨rfl, rfl⟩ (Prm.nil _))
   | (refine QW_sub (H' := (2, blk ps T) :: (D ++ F)) (.cons _ (.cons _ (.cons _ (.cons _ (.cons_cons _ (.cons _ (List.Sublist.trans (List.sublist_append_right _ _) (List.Sublist.trans (List.sublist_append_right _ _) (List.sublist_append_right _ _))))))))) ?_; exact QW_ret1 rfl rfl ((2, blk ps T) :: D) ⟨rfl, rfl⟩ (Prm.nil _))
 refine (CW_skip (QW_lv [0,1,2,3] ?_))
 refine CW_seq ?_
 refine CW_sr ?_
 refine RW_m ?_
 refine RW_m ?_
 refine RW_fx rfl rfl rfl (Fx_callQ ok_13 (vs := [.slice pN nN cN, .slice pD nD cD]) (R := fun v => v = .bool (decide (nN ≤ 100 ∧ nD ≤ 1000))) rfl (Pick.nil _) (few_ct pN pD nN cN nD cD)) ?_
 rintro _ _ ⟨rfl, rfl⟩
 refine RW_l (Yl_not rfl) ?_
 refine RW_lv [0,1,2,3,31] ?_
 refine CW_cond rfl (fun hc3 => ?_) (fun hc3 => ?_)
 ·skip
  refine CW_sr ?_
  refine RW_a ?_
  refine RW_lv [8] ?_
  refine CW_ret ?_
  refine QW_ret_then ?_
  first
   | exact QW_ret1 rfl rfl ((2, blk ps T) :: D) ⟨rfl, rfl⟩ (Prm.nil _)
   | (refine QW_sub (H' := (2, blk ps T) :: (D ++ F)) (.cons_cons _ (.cons _ (.cons _ (List.sublist_append_right _ _)))) ?_; exact QW_ret1 rfl rfl ((2, blk ps T) :: D) ⟨rfl, rfl⟩ (Prm.nil _))
   | (refine QW_sub (H' := (2, blk ps T) :: (D ++ F)) (.cons _ (.cons _ (.cons _ (.cons _ (.cons_cons _ (.cons _ (List.Sublist.trans (List.sublist_append_right _ _) (List.Sublist.trans (List.sublist_append_right _ _) (List.sublist_append_right _ _))))))))) ?_; exact QW_ret1 rfl rfl ((2, blk ps T) :: D) ⟨rfl, rfl⟩ (Prm.nil _))
 skip
 have hfew : nN ≤ 100 ∧ nD ≤ 1000 := by simpa using hc3
 refine (CW_skip (QW_lv [0,1,2,3] ?_))
 refine CW_seq ?_
 have hnodes := nodesOf_ct nN cN nD cD pN pD ((2, blk ps T) :: D) hN hD om_ hcN om_
 refine CW_region ?_
 refine RW_m ?_
 refine RW_m ?_
 refine RW_fx rfl rfl rfl (Fx_call ok_14 (vs := [.slice pN nN cN, .slice pD nD cD]) rfl (Pick.cons rem_ (pick_app D F)) hnodes) ?_
 rintro _ _ ⟨_, ⟨ns, g, cap, rn, rfl, hno, hfit, rfl⟩, rfl⟩
 simp only [List.cons_append, List.append_assoc]
 refine RW_a ?_
 refine RW_lv [2,3,9] ?_
 refine CW_seq ?_
 have hxs := hno.xs
 have hw := write_ct g cap (verF four) st ns rn _ rfl hxs hno.ok (by rcases verF_or four with e | e <;> omega) om_
 refine CW_region ?_
 refine RW_m ?_
 refine RW_m ?_
 refine RW_fx rfl rfl rfl (Fx_callQ ok_16 (vs := [.bool four]) (R := fun v => v = nv (verF four)) rfl (Pick.nil _) (versionOf_ct four)) ?_
 rintro _ _ ⟨rfl, rfl⟩
 refine RW_m ?_
 refine RW_l (Yl_conv (c := (st : Int)) rfl in_5 in_3 (wi64 om_ om_)) ?_
 refine RW_fx rfl rfl rfl (Fx_call ok_15 (vs := [.slice (some ⟨g, 0, none⟩) ns.length cap, nv (verF four), nv st]) rfl (Pick.cons rem_ (pick_app (nmsH ns) _)) hw) ?_
 rintro _ _ ⟨_, ⟨gI, rfl, rfl⟩, rfl⟩
 simp only [List.cons_append]
 refine RW_a ?_
 refine RW_lv [9,10] ?_
 refine CW_seq ?_
 refine CW_seq ?_
 refine CW_heap (List.perm_middle (l₁ := (gI, blk (bys (writeF (verF four) st (ns.map Nm.nd))) 5) :: (g, blk (nms ns ++ rn) 43) :: nmsH ns)) ?_
 simp only [List.cons_append]
 refine CW_region ?_
 refine RW_m ?_
 refine RW_l (Yl_len rfl sl_23) ?_
 refine RW_l (Yl_gtr rfl rfl) ?_
 refine RW_lv [9,10,43] ?_
 refine CW_cd rfl (fun hc4 => ?_) (fun hc4 => ?_)
 ·refine CW_sr ?_
  refine RW_a ?_
  refine RW_lv [8] ?_
  refine CW_ret ?_
  refine QW_ret_then ?_
  first
   | exact QW_ret1 rfl rfl ((2, blk ps T) :: D) ⟨rfl, rfl⟩ (Prm.nil _)
   | (refine QW_sub (H' := (2, blk ps T) :: (D ++ F)) (.cons_cons _ (.cons _ (.cons _ (List.sublist_append_right _ _)))) ?_; exact QW_ret1 rfl rfl ((2, blk ps T) :: D) ⟨rfl, rfl⟩ (Prm.nil _))
   | (refine QW_sub (H' := (2, blk ps T) :: (D ++ F)) (.cons _ (.cons _ (.cons _ (.cons _ (.cons_cons _ (.cons _ (List.Sublist.trans (List.sublist_append_right _ _) (List.Sublist.trans (List.sublist_append_right _ _) (List.sublist_append_right _ _))))))))) ?_; exact QW_ret1 rfl rfl ((2, blk ps T) :: D) ⟨rfl, rfl⟩ (Prm.nil _))
 refine (CW_skip (QW_lv [9,10] ?_))
 refine CW_seq ?_
 obtain ⟨o, ho, hok, hond, hol, hbad, hout, hpth⟩ := hno.travs (verF four)
 have hnl := hno.len
 have hord := Order_ct ns g cap rn o om_ om_ ho (fun k hk => (hok k).1 hk)
 refine CW_region ?_
 refine RW_m ?_
 refine RW_fx rfl rfl rfl (Fx_call ok_17 (vs := [.slice (some ⟨g, 0, none⟩) ns.length cap]) rfl (Pick.cons rem_ (Pick.nil _)) hord) ?_
 rintro _ _ ⟨_, ⟨vs, oO, co, ro, oP, cp, rp, ppO, rfl, hvs, hro, hrp, rfl⟩, rfl⟩
 simp only [List.cons_append]
 refine RW_m ?_
 refine RW_l (Yl_extract (v := .slice (some ⟨oO, 0, none⟩) o.length co) rfl rfl) ?_
 refine RW_l (Yl_extract (v := .slice (some ⟨oP, 0, none⟩) o.length cp) rfl rfl) ?_
 refine RW_a ?_
 refine RW_a ?_
 refine RW_lv [9,10,11,12] ?_
 refine CW_seq ?_
 refine CW_heap (perm_front ((g, blk (nms ns ++ rn) 43) :: (oO, blk (nats (o.map Prod.fst) ++ ro) 3) :: (oP, blk (vs ++ rp) 36) :: ppO) [(2, blk ps T), (gI, blk (bys (writeF (verF four) st (ns.map Nm.nd))) 5)] (nmsH ns ++ (D ++ F))) ?_
 simp only [List.cons_append, List.nil_append]
 have hent := fun gI => Entries_nodes (T := T) (four := four) (st := st) hp hno hok hbad hout hpth om_ gI
 replace hent := hent gI
 refine CW_region ?_
 refine RW_m ?_
 refine RW_fx rfl rfl rfl (Fx_call ok_18 (vs := [.slice (some ⟨gI, 0, none⟩) (NF (verF four) (ns.map Nm.nd)) (NF (verF four) (ns.map Nm.nd))]) rfl (Pick.cons rem_ (Pick.cons rem_ (Pick.nil _))) hent) ?_
 rintro _ _ ⟨_, ⟨gR, cR, rr, rows, ppR, rfl, hrl, hr27, hrows, rfl⟩, rfl⟩
 simp only [List.cons_append]
 refine RW_m ?_
 refine RW_l (Yl_extract (v := .slice (some ⟨gR, 0, none⟩) o.length cR) rfl rfl) ?_
 refine RW_l (Yl_extract (v := nv 0) rfl rfl) ?_
 refine RW_a ?_
 refine RW_a ?_
 refine RW_lv [9,11,12,13,14] ?_
 refine CW_seq ?_
 refine CW_sr ?_
 refine RW_m ?_
 refine RW_l (Yl_neqF rfl rfl rfl) ?_
 refine RW_m ?_
 refine RW_gy rfl rfl rfl (Yl.h (Yl_move rfl)) ?_
 refine RW_gy rfl rfl rfl (Yl.h (Yl_len rfl sl_33)) ?_
 refine RW_gy rfl rfl rfl (Yl.h (Yl_move rfl)) ?_
 refine RW_gy rfl rfl rfl (Yl.h (Yl_len rfl sl_29)) ?_
 refine RW_gy rfl rfl rfl (Yl.h (Yl_neqF rfl rfl rfl)) ?_
 refine RW_l (Yl_pick_f rfl rfl) ?_
 refine RW_lv [9,11,12,13,62] ?_
 refine CW_false rfl ?_
 refine (CW_skip (QW_lv [9,11,12,13] ?_))
 refine CW_seq ?_
 refine CW_seq ?_
 have hvl : vs.length = o.length := by have := hvs.len; simpa using this
 refine CW_heap (perm_front ((gI, blk (bys (writeF (verF four) st (ns.map Nm.nd))) 5) :: (2, blk ps T) :: (gR, blk (rows.flatten ++ rr) 41) :: ppR) [(g, blk (nms ns ++ rn) 43), (oO, blk (nats (o.map Prod.fst) ++ ro) 3), (oP, blk (vs ++ rp) 36)] (ppO ++ (nmsH ns ++ (D ++ F)))) ?_
 simp only [List.cons_append, List.nil_append]
 refine CW_region ?_
 refine RW_m ?_
 refine RW_l (Yl_len rfl sl_33) ?_
 refine RW_m ?_
 refine RW_lv [9,11,12,63,64,65] ?_
 refine CW_block ?_
 refine CW_lp (σ := Nat) (fun i => [(9, .slice (some ⟨g, 0, none⟩) ns.length cap), (11, .slice (some ⟨oO, 0, none⟩) o.length co), (12, .slice (some ⟨oP, 0, none⟩) o.length cp), (63, .slice (some ⟨gR, 0, none⟩) o.length cR), (64, nv o.length), (65, nv i)]) (fun _ => (g, blk (nms ns ++ rn) 43) :: (oO, blk (nats (o.map Prod.fst) ++ ro) 3) :: (oP, blk (vs ++ rp) 36) :: (gI, blk (bys (writeF (verF four) st (ns.map Nm.nd))) 5) :: (2, blk ps T) :: (gR, blk (rows.flatten ++ rr) 41) :: (ppR ++ (ppO ++ (nmsH ns ++ (D ++ F))))) (fun i => i ≤ o.length) (fun i => o.length - i) 0 (Nat.zero_le _) ?_
 rintro i hi
 refine CW_sr ?_
 refine RW_l (Yl_lss rfl rfl) ?_
 refine RW_lv [9,11,12,63,64,65,66] ?_
 refine CW_seq ?_
 refine CW_cd rfl (fun hc5 => ?_) (fun hc5 => ?_)
 ·refine (CW_skip (QW_lv [9,11,12,63,64,65] ?_))
  refine CW_seq ?_
  refine CW_block ?_
  refine CW_seq ?_
  obtain ⟨pvv, hpv, hrow⟩ := hrows i om_
  obtain ⟨k, hk⟩ : ∃ k, (o.getD i default).1 = k := ⟨_, rfl⟩
  obtain ⟨p, hpp⟩ : ∃ p, (o.getD i default).2 = p := ⟨_, rfl⟩
  rw [hk] at hrow
  rw [hpp] at hpv
  have hoi : o.getD i default ∈ o := by rw [List.getD_eq_getElem?_getD, List.getElem?_eq_getElem om_]; exact List.getElem_mem _
  have hkn : k < ns.length := (hok k).1 (List.mem_map.2 ⟨_, hoi, hk⟩)
  obtain ⟨x, hx⟩ : ∃ x, ns.getD k default = x := ⟨_, rfl⟩
  have hsz : k ≠ 0 → szN ns k = x.nd.data.length := fun h => by rw [← hx]; exact hno.size hkn h
  rw [hx] at hrow
  have hnpos : 0 < x.nd.name.length := by have := (hno.name hkn).1; unfold nmOf at this; rw [hx] at this; omega
  have hfb := (x.nd.name.getD 0 0).toNat_lt
  have hkle := kd_le ns k
  have hvi := hvs.get i (by simpa using (show i < o.length by omega))
  rw [snd_at om_, hpp] at hvi
  have hplen : p.length ≤ 1000000 := by
   rw [← hpp, ← hpth _ hoi]
   exact pth_small _ (by rw [tns_len]; have := (cnt_le (v := verF four) hno.xs).2; omega) _
  obtain ⟨q0, c0, hpe⟩ := hpv.slice
  obtain ⟨q1, c1, hve⟩ := hvi.slice
  have hrone : ∀ v ∈ (rowF x.nd (kdN ns k) (szN ns k : Int) pvv), v.oneCell' = true := by
   intro v hv
   simp only [rowF, List.mem_cons, List.mem_append, List.mem_map, List.not_mem_nil, or_false] at hv
   rcases hv with rfl | rfl | rfl | rfl | rfl | ⟨y, _, rfl⟩ | ⟨y, _, rfl⟩ | rfl | rfl
   all_goals first | rfl | exact hpv.one.1
  refine CW_region ?_
  refine RW_m ?_
  refine RW_l (Yl_indexN (b := gR) (off := 0) (i := i) (o' := i * 27) rfl rfl sl_33 om_ om_) ?_
  refine RW_h (Yh_loadE (cs := (rowF x.nd (kdN ns k) (szN ns k : Int) pvv)) rfl ag_41 mem_ (by rw [List.length_append, rows_len _ hr27]; omega) (by rw [rows_at _ _ _ hr27 om_]; exact hrow)) ?_
  refine RW_fx rfl rfl rfl (Fx_alloc (zs := zs_41) ze_41 rfl) ?_
  rintro _ _ ⟨b16, rfl, rfl⟩
  refine RW_a ?_
  refine RW_fx0 rfl rfl (Fx_storeA (b := b16) (off := 0) (l := zs_41) (T := 41) (cs := (rowF x.nd (kdN ns k) (szN ns k : Int) pvv)) rfl rfl (by rw [length_rowF]; exact sz_41) hrone rep_ (by rw [length_rowF]; exact Nat.le_refl 27)) ?_
  rintro _ _ rfl
  refine RW_lv [9,11,12,15,16,63,64,65] ?_
  refine CW_seq ?_
  rw [spl_full _ _ (by rw [length_rowF]; rfl)]
  refine CW_region ?_
  refine RW_m ?_
  refine RW_m ?_
  refine RW_m ?_
  refine RW_l (Yl_indexN (b := oO) (off := 0) (i := i) (o' := i) rfl rfl sl_29 om_ om_) ?_
  refine RW_h (Yh_load (v := nv k) rfl sc_3 mem_ (fst_at om_ hk)) ?_
  refine RW_l (Yl_indexN (b := g) (off := 0) (i := k) (o' := k * 28) rfl rfl sl_25 hkn om_) ?_
  refine RW_h (Yh_loadE (cs := x.cells) rfl ag_43 mem_ (by rw [List.length_append, length_nms]; omega) (by rw [nms_at _ _ _ hkn, hx])) ?_
  refine RW_fx rfl rfl rfl (Fx_alloc (zs := zs_43) ze_43 rfl) ?_
  rintro _ _ ⟨b17, rfl, rfl⟩
  refine RW_fx0 rfl rfl (Fx_storeA (b := b17) (off := 0) (l := zs_43) (T := 43) (cs := x.cells) rfl rfl (by rw [Nm.length_cells]; exact sz_43) (Nm.one_cells _) rep_ (by rw [Nm.length_cells]; exact Nat.le_refl 28)) ?_
  rintro _ _ rfl
  refine RW_lv [9,11,12,15,16,17,63,64,65] ?_
  refine CW_seq ?_
  rw [spl_full _ _ (by rw [Nm.length_cells]; rfl)]
  refine CW_region ?_
  refine RW_a ?_
  refine RW_lv [9,11,12,15,16,17,18,63,64,65] ?_
  refine CW_cut (σ := Unit) (fun _ => [(9, .slice (some ⟨g, 0, none⟩) ns.length cap), (11, .slice (some ⟨oO, 0, none⟩) o.length co), (12, .slice (some ⟨oP, 0, none⟩) o.length cp), (15, nv i), (16, pv b16), (17, pv b17), (18, nv (kdN ns k)), (63, .slice (some ⟨gR, 0, none⟩) o.length cR), (64, nv o.length), (65, nv i)]) (fun _ => (b17, blk x.cells 43) :: (b16, blk (rowF x.nd (kdN ns k) (szN ns k : Int) pvv) 41) :: (g, blk (nms ns ++ rn) 43) :: (oO, blk (nats (o.map Prod.fst) ++ ro) 3) :: (oP, blk (vs ++ rp) 36) :: (gI, blk (bys (writeF (verF four) st (ns.map Nm.nd))) 5) :: (2, blk ps T) :: (gR, blk (rows.flatten ++ rr) 41) :: (ppR ++ (ppO ++ (nmsH ns ++ (D ++ F))))) (fun _ => True) ?_ ?_
  ·skip
   refine CW_block ?_
   refine CW_sr ?_
   refine RW_m ?_
   refine RW_m ?_
   refine RW_l (Yl_indexN (b := oO) (off := 0) (i := i) (o' := i) rfl rfl sl_29 om_ om_) ?_
   refine RW_h (Yh_load (v := nv k) rfl sc_3 mem_ (fst_at om_ hk)) ?_
   refine RW_l (Yl_eql rfl rfl) ?_
   refine RW_a ?_
   refine RW_lv [9,11,12,15,16,17,18,63,64,65,77] ?_
   refine CW_cd rfl (fun hc6 => ?_) (fun hc6 => ?_)
   ·have hk0 : k = 0 := by omega
    refine CW_region ?_
    refine RW_a ?_
    refine RW_nil ?_
    refine QW_normal_block ?_
    first
     | (rw [kd_root ns hk0]; exact QW_cut () trivial (by repeat (first | exact Prm.nil _ | exact Rem.here _ _ | apply Rem.there | apply Prm.cons)) (.cons rfl (.cons rfl (.cons rfl (.cons rfl (.cons rfl (.cons rfl (.cons rfl (.cons rfl (.cons rfl (.cons rfl .nil)))))))))))
     | (rw [kd_str hk0 (by rw [hx]; exact hs0)]; exact QW_cut () trivial (by repeat (first | exact Prm.nil _ | exact Rem.here _ _ | apply Rem.there | apply Prm.cons)) (.cons rfl (.cons rfl (.cons rfl (.cons rfl (.cons rfl (.cons rfl (.cons rfl (.cons rfl (.cons rfl (.cons rfl .nil)))))))))))
     | (rw [kd_sto hk0 (by rw [hx]; exact hs0)]; exact QW_cut () trivial (by repeat (first | exact Prm.nil _ | exact Rem.here _ _ | apply Rem.there | apply Prm.cons)) (.cons rfl (.cons rfl (.cons rfl (.cons rfl (.cons rfl (.cons rfl (.cons rfl (.cons rfl (.cons rfl (.cons rfl .nil)))))))))))
   have hk0 : k ≠ 0 := by omega
   refine CW_sr ?_
   refine RW_f fo_43_1 ?_
   refine RW_h (Yh_ld (v := .bool x.nd.stream) sc_4) ?_
   refine RW_a ?_
   refine RW_lv [9,11,12,15,16,17,18,63,64,65,83] ?_
   refine CW_cond rfl (fun hc7 => ?_) (fun hc7 => ?_)
   ·skip
    have hs0 : x.nd.stream = true := hc7
    refine CW_region ?_
    refine RW_a ?_
    refine RW_nil ?_
    refine QW_normal_block ?_
    first
     | (rw [kd_root ns hk0]; exact QW_cut () trivial (by repeat (first | exact Prm.nil _ | exact Rem.here _ _ | apply Rem.there | apply Prm.cons)) (.cons rfl (.cons rfl (.cons rfl (.cons rfl (.cons rfl (.cons rfl (.cons rfl (.cons rfl (.cons rfl (.cons rfl .nil)))))))))))
     | (rw [kd_str hk0 (by rw [hx]; exact hs0)]; exact QW_cut () trivial (by repeat (first | exact Prm.nil _ | exact Rem.here _ _ | apply Rem.there | apply Prm.cons)) (.cons rfl (.cons rfl (.cons rfl (.cons rfl (.cons rfl (.cons rfl (.cons rfl (.cons rfl (.cons rfl (.cons rfl .nil)))))))))))
     | (rw [kd_sto hk0 (by rw [hx]; exact hs0)]; exact QW_cut () trivial (by repeat (first | exact Prm.nil _ | exact Rem.here _ _ | apply Rem.there | apply Prm.cons)) (.cons rfl (.cons rfl (.cons rfl (.cons rfl (.cons rfl (.cons rfl (.cons rfl (.cons rfl (.cons rfl (.cons rfl .nil)))))))))))
   skip
   have hs0 : x.nd.stream = false := hc7
   refine CW_skip ?_
   refine QW_normal_block ?_
   first
    | (rw [kd_root ns hk0]; exact QW_cut () trivial (by repeat (first | exact Prm.nil _ | exact Rem.here _ _ | apply Rem.there | apply Prm.cons)) (.cons rfl (.cons rfl (.cons rfl (.cons rfl (.cons rfl (.cons rfl (.cons rfl (.cons rfl (.cons rfl (.cons rfl .nil)))))))))))
    | (rw [kd_str hk0 (by rw [hx]; exact hs0)]; exact QW_cut () trivial (by repeat (first | exact Prm.nil _ | exact Rem.here _ _ | apply Rem.there | apply Prm.cons)) (.cons rfl (.cons rfl (.cons rfl (.cons rfl (.cons rfl (.cons rfl (.cons rfl (.cons rfl (.cons rfl (.cons rfl .nil)))))))))))
    | (rw [kd_sto hk0 (by rw [hx]; exact hs0)]; exact QW_cut () trivial (by repeat (first | exact Prm.nil _ | exact Rem.here _ _ | apply Rem.there | apply Prm.cons)) (.cons rfl (.cons rfl (.cons rfl (.cons rfl (.cons rfl (.cons rfl (.cons rfl (.cons rfl (.cons rfl (.cons rfl .nil)))))))))))
  rintro ⟨⟩ -
  refine CW_seq ?_
  refine CW_seq ?_
  refine CW_draw [] _ mixed (Sub.refl _) ?_
  refine RD_f 0 fo_41_0 ?_
  refine RD_f 2 fo_43_0 ?_
  refine RD_h (i := 1) #[true, false, true, true, false, false, false, false, false, false, false, false, false, false, false, false, false, false, false, false, false, false, false, false, false, false, false, false, false, false, false, false, false, false, false, false, false, false, false, false, false, false, false, false, false, false, false, false, false, false, false, false, false, false, false, false, false, false, false, false, false, false, false, false, false, false, false, false, false, false, false] rfl rfl rfl rfl kr_ (fun _ _ _ h => h) (Yh_ld (v := .string (bar x.nd.name)) sc_9) ?_
  refine RD_h (i := 3) #[true, true, true, false, false, false, false, false, false, false, false, false, false, false, false, false, false, false, false, false, false, false, false, false, false, false, false, false, false, false, false, false, false, false, false, false, false, false, false, false, false, false, false, false, false, false, false, false, false, false, false, false, false, false, false, false, false, false, false, false, false, false, false, false, false, false, false, false, false, false, false] rfl rfl rfl rfl kr_ (fun _ _ _ h => h) (Yh_ld (v := .string (bar x.nd.name)) sc_9) ?_
  refine RD_l 4 rfl (Yl_strNeF rfl rfl) ?_
  refine RD_m 5 ?_
  refine RD_f 6 fo_41_2 ?_
  refine RD_m 8 ?_
  refine RD_h (i := 7) #[true, true, true, true, true, true, true, false, true, false, false, false, false, false, false, false, false, false, false, false, false, false, false, false, false, false, false, false, false, false, false, false, false, false, false, false, false, false, false, false, false, false, false, false, false, false, false, false, false, false, false, false, false, false, false, false, false, false, false, false, false, false, false, false, false, false, false, false, false, false, false] rfl rfl rfl rfl kr_ (fun _ _ _ h => h) (Yh_ld (v := nv (kdN ns k)) sc_3) ?_
  refine RD_l 9 rfl (Yl_neqF rfl rfl rfl) ?_
  refine RD_l 10 rfl (Yl_pick_f rfl rfl) ?_
  refine RD_m 11 ?_
  refine RD_m 12 ?_
  refine RD_l 13 rfl (Yl_neq rfl rfl) ?_
  refine RD_m 14 ?_
  refine RD_bool 100 rfl (fun hg8 => ?_) (fun hg8 => ?_)
  ·replace hg8 := of_decide_eq_true hg8
   refine RD_f 15 fo_41_3 ?_
   refine RD_f 17 fo_43_2 ?_
   refine RD_h (i := 16) #[true, true, true, true, true, true, true, true, true, true, true, true, true, true, true, true, false, true, true, true, false, false, false, false, false, false, false, false, false, false, false, false, false, false, false, false, false, false, false, false, false, false, false, false, false, false, false, false, false, false, false, false, false, false, false, false, false, false, false, false, false, false, false, false, false, false, false, false, false, false, false] rfl rfl rfl rfl kr_ (fun _ _ _ h => h) (Yh_ld (v := .int .i64 (szN ns k : Int)) sc_2) ?_
   refine RD_h (i := 18) #[true, true, true, true, true, true, true, true, true, true, true, true, true, true, true, true, true, true, false, false, false, false, false, false, false, false, false, false, false, false, false, false, false, false, false, false, false, false, false, false, false, false, false, false, false, false, false, false, false, false, false, false, false, false, false, false, false, false, false, false, false, false, false, false, false, false, false, false, false, false, false] rfl rfl rfl rfl kr_ (fun _ _ _ h => h) (Yh_ld (v := x.slice) sc_23) ?_
   refine RD_l 19 rfl (Yl_len rfl sl_23) ?_
   refine RD_l 20 rfl (Yl_neqF rfl rfl (by rw [hsz (kd_five (ns := ns) (k := k) om_)])) ?_
   refine RD_l 21 rfl (Yl_pick_t rfl rfl) ?_
   refine RD_l 22 rfl (Yl_pick_f rfl rfl) ?_
   refine RD_m 23 ?_
   refine RD_f 24 fo_41_4 ?_
   refine RD_f 26 fo_43_0 ?_
   refine RD_h (i := 25) #[true, true, true, true, true, true, true, true, true, true, true, true, true, true, true, true, true, true, true, true, true, true, true, true, true, false, true, true, true, true, false, false, false, false, false, false, false, false, false, false, false, false, false, false, false, false, false, false, false, false, false, false, false, false, false, false, false, false, false, false, false, false, false, false, false, false, false, false, false, false, false] rfl rfl rfl rfl kr_ (fun _ _ _ h => h) (Yh_ld (v := .int .i64 ((x.nd.name.getD 0 0).toNat : Int)) sc_3) ?_
   refine RD_h (i := 27) #[true, true, true, true, true, true, true, true, true, true, true, true, true, true, true, true, true, true, true, true, true, true, true, true, true, true, true, false, false, false, false, false, false, false, false, false, false, false, false, false, false, false, false, false, false, false, false, false, false, false, false, false, false, false, false, false, false, false, false, false, false, false, false, false, false, false, false, false, false, false, false] rfl rfl rfl rfl kr_ (fun _ _ _ h => h) (Yh_ld (v := .string (bar x.nd.name)) sc_9) ?_
   refine RD_l 28 rfl (Yl_first rfl rfl st_9 hnpos) ?_
   refine RD_l 29 rfl (Yl_conv (c := ((x.nd.name.getD 0 0).toNat : Int)) rfl in_5 in_3 (wi64 om_ om_)) ?_
   refine RD_l 30 rfl (Yl_neqF rfl rfl rfl) ?_
   refine RD_l 31 rfl (Yl_pick_f rfl rfl) ?_
   refine RD_m 32 ?_
   refine RD_f 33 fo_41_5 ?_
   refine RD_f 35 fo_43_6 ?_
   refine RD_h (i := 34) #[true, true, true, true, true, true, true, true, true, true, true, true, true, true, true, true, true, true, true, true, true, true, true, true, true, true, true, true, true, true, true, true, true, true, false, true, true, false, false, false, false, false, false, false, false, false, false, false, false, false, false, false, false, false, false, false, false, false, false, false, false, false, false, false, false, false, false, false, false, false, false] rfl rfl rfl rfl kr_ (fun _ _ _ h => h) (Yh_loadE (cs := bys x.nd.cls) rfl ag_37 mem_ (by rw [length_rowF]; omega) (row_cls _ _ _ _)) ?_
   refine RD_h (i := 36) #[true, true, true, true, true, true, true, true, true, true, true, true, true, true, true, true, true, true, true, true, true, true, true, true, true, true, true, true, true, true, true, true, true, true, true, true, false, false, false, false, false, false, false, false, false, false, false, false, false, false, false, false, false, false, false, false, false, false, false, false, false, false, false, false, false, false, false, false, false, false, false] rfl rfl rfl rfl kr_ (fun _ _ _ h => h) (Yh_loadE (cs := bys x.nd.cls) rfl ag_37 mem_ (by rw [Nm.length_cells]; omega) (Nm.cls x)) ?_
   refine RD_l 37 rfl (Yl_arrNe rfl rfl un_37 eg_37 x.nd.h16) ?_
   refine RD_l 38 rfl (Yl_pick_f rfl rfl) ?_
   refine RD_m 39 ?_
   refine RD_f 40 fo_41_6 ?_
   refine RD_f 42 fo_43_7 ?_
   refine RD_h (i := 41) #[true, true, true, true, true, true, true, true, true, true, true, true, true, true, true, true, true, true, true, true, true, true, true, true, true, true, true, true, true, true, true, true, true, true, true, true, true, true, true, true, true, false, true, true, false, false, false, false, false, false, false, false, false, false, false, false, false, false, false, false, false, false, false, false, false, false, false, false, false, false, false] rfl rfl rfl rfl kr_ (fun _ _ _ h => h) (Yh_loadE (cs := bys x.nd.state) rfl ag_38 mem_ (by rw [length_rowF]; omega) (row_state _ _ _ _)) ?_
   refine RD_h (i := 43) #[true, true, true, true, true, true, true, true, true, true, true, true, true, true, true, true, true, true, true, true, true, true, true, true, true, true, true, true, true, true, true, true, true, true, true, true, true, true, true, true, true, true, true, false, false, false, false, false, false, false, false, false, false, false, false, false, false, false, false, false, false, false, false, false, false, false, false, false, false, false, false] rfl rfl rfl rfl kr_ (fun _ _ _ h => h) (Yh_loadE (cs := bys x.nd.state) rfl ag_38 mem_ (by rw [Nm.length_cells]; omega) (Nm.state x)) ?_
   refine RD_l 44 rfl (Yl_arrNe rfl rfl un_38 eg_38 x.nd.h4) ?_
   refine RD_l 45 rfl (Yl_pick_f rfl rfl) ?_
   refine RD_m 46 ?_
   refine RD_f 47 fo_41_7 ?_
   refine RD_f 49 fo_43_8 ?_
   refine RD_h (i := 48) #[true, true, true, true, true, true, true, true, true, true, true, true, true, true, true, true, true, true, true, true, true, true, true, true, true, true, true, true, true, true, true, true, true, true, true, true, true, true, true, true, true, true, true, true, true, true, true, true, false, true, true, false, false, false, false, false, false, false, false, false, false, false, false, false, false, false, false, false, false, false, false] rfl rfl rfl rfl kr_ (fun _ _ _ h => h) (Yh_lh (v := .int .u64 (x.nd.created : Int)) sc_39 (row_cr _ _ _ _)) ?_
   refine RD_h (i := 50) #[true, true, true, true, true, true, true, true, true, true, true, true, true, true, true, true, true, true, true, true, true, true, true, true, true, true, true, true, true, true, true, true, true, true, true, true, true, true, true, true, true, true, true, true, true, true, true, true, true, true, false, false, false, false, false, false, false, false, false, false, false, false, false, false, false, false, false, false, false, false, false] rfl rfl rfl rfl kr_ (fun _ _ _ h => h) (Yh_lh (v := .int .u64 (x.nd.created : Int)) sc_39 (Nm.at26 x)) ?_
   refine RD_l 51 rfl (Yl_neqF rfl rfl rfl) ?_
   refine RD_l 52 rfl (Yl_pick_f rfl rfl) ?_
   refine RD_m 53 ?_
   refine RD_f 54 fo_41_8 ?_
   refine RD_f 56 fo_43_9 ?_
   refine RD_h (i := 55) #[true, true, true, true, true, true, true, true, true, true, true, true, true, true, true, true, true, true, true, true, true, true, true, true, true, true, true, true, true, true, true, true, true, true, true, true, true, true, true, true, true, true, true, true, true, true, true, true, true, true, true, true, true, true, true, false, true, true, false, false, false, false, false, false, false, false, false, false, false, false, false] rfl rfl rfl rfl kr_ (fun _ _ _ h => h) (Yh_lh (v := .int .u64 (x.nd.modified : Int)) sc_39 (row_mo _ _ _ _)) ?_
   refine RD_h (i := 57) #[true, true, true, true, true, true, true, true, true, true, true, true, true, true, true, true, true, true, true, true, true, true, true, true, true, true, true, true, true, true, true, true, true, true, true, true, true, true, true, true, true, true, true, true, true, true, true, true, true, true, true, true, true, true, true, true, true, false, false, false, false, false, false, false, false, false, false, false, false, false, false] rfl rfl rfl rfl kr_ (fun _ _ _ h => h) (Yh_lh (v := .int .u64 (x.nd.modified : Int)) sc_39 (Nm.at27 x)) ?_
   refine RD_l 58 rfl (Yl_neqF rfl rfl rfl) ?_
   refine RD_l 59 rfl (Yl_pick_f rfl rfl) ?_
   refine RD_m 60 ?_
   refine RD_f 61 fo_41_1 ?_
   refine RD_m 64 ?_
   refine RD_m 65 ?_
   refine RD_l 66 rfl (Yl_indexN (b := oP) (off := 0) (i := i) (o' := i) rfl rfl sl_30 om_ om_) ?_
   refine RD_h (i := 62) #[true, true, true, true, true, true, true, true, true, true, true, true, true, true, true, true, true, true, true, true, true, true, true, true, true, true, true, true, true, true, true, true, true, true, true, true, true, true, true, true, true, true, true, true, true, true, true, true, true, true, true, true, true, true, true, true, true, true, true, true, true, true, false, false, true, true, true, true, true, false, false] rfl rfl rfl rfl kr_ (fun _ _ _ h => h) (Yh_load (v := .slice q0 p.length c0) rfl sc_36 mem_ (by rw [← hpe]; rfl)) ?_
   refine RD_l 63 rfl (Yl_len rfl sl_36) ?_
   refine RD_h (i := 67) #[true, true, true, true, true, true, true, true, true, true, true, true, true, true, true, true, true, true, true, true, true, true, true, true, true, true, true, true, true, true, true, true, true, true, true, true, true, true, true, true, true, true, true, true, true, true, true, true, true, true, true, true, true, true, true, true, true, true, true, true, true, true, true, true, true, true, true, false, false, false, false] rfl rfl rfl rfl kr_ (fun _ _ _ h => h) (Yh_load (v := .slice q1 p.length c1) rfl sc_36 mem_ (at_vals om_ hve)) ?_
   refine RD_l 68 rfl (Yl_len rfl sl_36) ?_
   refine RD_l 69 rfl (Yl_neqF rfl rfl rfl) ?_
   refine RD_l 70 rfl (Yl_pick_f rfl rfl) ?_
   refine (RD_done kr_ (QW_lv [9,11,12,15,16,63,64,65,156] ?_))
   refine CW_false rfl ?_
   refine (CW_skip (QW_lv [9,11,12,15,16,63,64,65] ?_))
   refine CW_sr ?_
   refine RW_f fo_41_1 ?_
   refine RW_h (Yh_load (v := .slice q0 p.length c0) rfl sc_36 mem_ (by rw [← hpe]; rfl)) ?_
   refine RW_l (Yl_len rfl sl_36) ?_
   refine RW_m ?_
   refine RW_lv [9,11,12,15,16,63,64,65,159,160] ?_
   refine CW_block ?_
   refine CW_lp (σ := Nat) (fun j => [(9, .slice (some ⟨g, 0, none⟩) ns.length cap), (11, .slice (some ⟨oO, 0, none⟩) o.length co), (12, .slice (some ⟨oP, 0, none⟩) o.length cp), (15, nv i), (16, pv b16), (63, .slice (some ⟨gR, 0, none⟩) o.length cR), (64, nv o.length), (65, nv i), (159, nv p.length), (160, nv j)]) (fun _ => (b17, blk x.cells 43) :: (b16, blk (rowF x.nd (kdN ns k) (szN ns k : Int) pvv) 41) :: (g, blk (nms ns ++ rn) 43) :: (oO, blk (nats (o.map Prod.fst) ++ ro) 3) :: (oP, blk (vs ++ rp) 36) :: (gI, blk (bys (writeF (verF four) st (ns.map Nm.nd))) 5) :: (2, blk ps T) :: (gR, blk (rows.flatten ++ rr) 41) :: (ppR ++ (ppO ++ (nmsH ns ++ (D ++ F))))) (fun j => j ≤ p.length) (fun j => p.length - j) 0 (Nat.zero_le _) ?_
   rintro j hj
   refine CW_sr ?_
   refine RW_l (Yl_lss rfl rfl) ?_
   refine RW_lv [9,11,12,15,16,63,64,65,159,160,161] ?_
   refine CW_seq ?_
   refine CW_cd rfl (fun hc9 => ?_) (fun hc9 => ?_)
   ·refine (CW_skip (QW_lv [9,11,12,15,16,63,64,65,159,160] ?_))
    refine CW_seq ?_
    refine CW_block ?_
    refine CW_seq ?_
    obtain ⟨bq, cq, rq, hqe, hmq⟩ := hpv.some om_
    obtain ⟨bz, cz, rz, hze, hmz⟩ := hvi.some om_
    refine CW_region ?_
    refine RW_m ?_
    refine RW_a ?_
    refine RW_lv [9,11,12,15,16,19,63,64,65,159,160] ?_
    refine CW_seq ?_
    refine CW_draw [] _ mixed (Sub.refl _) ?_
    refine RD_f 0 fo_41_1 ?_
    refine RD_m 2 ?_
    refine RD_m 5 ?_
    refine RD_m 6 ?_
    refine RD_l 7 rfl (Yl_indexN (b := oP) (off := 0) (i := i) (o' := i) rfl rfl sl_30 om_ om_) ?_
    refine RD_m 9 ?_
    refine RD_h (i := 1) #[true, false, true, false, false, true, true, true, true, true, true, true, false] rfl rfl rfl rfl kr_ (fun _ _ _ h => h) (Yh_load (v := .slice (some ⟨bq, 0, none⟩) p.length cq) rfl sc_36 mem_ (by rw [← hqe]; rfl)) ?_
    refine RD_l 3 rfl (Yl_indexN (b := bq) (off := 0) (i := j) (o' := j) rfl rfl sl_36 om_ om_) ?_
    refine RD_h (i := 4) #[true, true, true, true, false, true, true, true, true, true, true, true, false] rfl rfl rfl rfl kr_ (fun _ _ _ h => h) (Yh_load (v := .string (bar (p.getD j []))) rfl sc_9 (by repeat (first | exact List.mem_append_left _ hmq | apply List.Mem.tail)) (at_strs om_)) ?_
    refine RD_h (i := 8) #[true, true, true, true, true, true, true, true, false, true, false, false, false] rfl rfl rfl rfl kr_ (fun _ _ _ h => h) (Yh_load (v := .slice (some ⟨bz, 0, none⟩) p.length cz) rfl sc_36 mem_ (at_vals om_ hze)) ?_
    refine RD_l 10 rfl (Yl_indexN (b := bz) (off := 0) (i := j) (o' := j) rfl rfl sl_36 om_ om_) ?_
    refine RD_h (i := 11) #[true, true, true, true, true, true, true, true, true, true, true, false, false] rfl rfl rfl rfl kr_ (fun _ _ _ h => h) (Yh_load (v := .string (bar (p.getD j []))) rfl sc_9 (by repeat (first | exact List.mem_append_right _ (List.mem_append_left _ hmz) | apply List.Mem.tail)) (at_strs om_)) ?_
    refine RD_l 12 rfl (Yl_strNeF rfl rfl) ?_
    refine (RD_done kr_ (QW_lv [9,11,12,15,16,63,64,65,159,160,175] ?_))
    refine CW_false rfl ?_
    refine CW_skip ?_
    refine QW_normal_block ?_
    refine (QW_lv [9,11,12,15,16,63,64,65,159,160] ?_)
    refine CW_region ?_
    refine RW_l (Yl_add (c := ((j + 1 : Nat) : Int)) rfl rfl (wi64 om_ om_)) ?_
    refine RW_m ?_
    refine RW_nil ?_
    exact QW_rn (j + 1) om_ om_
   refine CW_exit ?_
   refine QW_exit_then ?_
   refine QW_exit_then ?_
   refine QW_exit_block ?_
   refine QW_normal_block ?_
   refine (QW_lv [9,11,12,63,64,65] ?_)
   refine CW_region ?_
   refine RW_l (Yl_add (c := ((i + 1 : Nat) : Int)) rfl rfl (wi64 om_ om_)) ?_
   refine RW_m ?_
   refine RW_nil ?_
   refine QW_dropB (e := (b17, _)) rem_ ?_
   refine QW_dropB (e := (b16, _)) rem_ ?_
   exact QW_rn (i + 1) om_ om_
  replace hg8 := of_decide_eq_false hg8
  refine RD_skip (i := 15) rfl rfl rfl rfl kr_ (fun _ _ _ h => h) ?_
  refine RD_skip (i := 16) rfl rfl rfl rfl kr_ (fun _ _ _ h => h) ?_
  refine RD_skip (i := 17) rfl rfl rfl rfl kr_ (fun _ _ _ h => h) ?_
  refine RD_skip (i := 18) rfl rfl rfl rfl kr_ (fun _ _ _ h => h) ?_
  refine RD_skip (i := 19) rfl rfl rfl rfl kr_ (fun _ _ _ h => h) ?_
  refine RD_skip (i := 20) rfl rfl rfl rfl kr_ (fun _ _ _ h => h) ?_
  refine RD_l 21 rfl (Yl_pick_f rfl rfl) ?_
  refine RD_l 22 rfl (Yl_pick_f rfl rfl) ?_
  refine RD_m 23 ?_
  refine RD_f 24 fo_41_4 ?_
  refine RD_f 26 fo_43_0 ?_
  refine RD_h (i := 25) #[true, true, true, true, true, true, true, true, true, true, true, true, true, true, true, true, true, true, true, true, true, true, true, true, true, false, true, true, true, true, false, false, false, false, false, false, false, false, false, false, false, false, false, false, false, false, false, false, false, false, false, false, false, false, false, false, false, false, false, false, false, false, false, false, false, false, false, false, false, false, false] rfl rfl rfl rfl kr_ (fun _ _ _ h => h) (Yh_ld (v := .int .i64 ((x.nd.name.getD 0 0).toNat : Int)) sc_3) ?_
  refine RD_h (i := 27) #[true, true, true, true, true, true, true, true, true, true, true, true, true, true, true, true, true, true, true, true, true, true, true, true, true, true, true, false, false, false, false, false, false, false, false, false, false, false, false, false, false, false, false, false, false, false, false, false, false, false, false, false, false, false, false, false, false, false, false, false, false, false, false, false, false, false, false, false, false, false, false] rfl rfl rfl rfl kr_ (fun _ _ _ h => h) (Yh_ld (v := .string (bar x.nd.name)) sc_9) ?_
  refine RD_l 28 rfl (Yl_first rfl rfl st_9 hnpos) ?_
  refine RD_l 29 rfl (Yl_conv (c := ((x.nd.name.getD 0 0).toNat : Int)) rfl in_5 in_3 (wi64 om_ om_)) ?_
  refine RD_l 30 rfl (Yl_neqF rfl rfl rfl) ?_
  refine RD_l 31 rfl (Yl_pick_f rfl rfl) ?_
  refine RD_m 32 ?_
  refine RD_f 33 fo_41_5 ?_
  refine RD_f 35 fo_43_6 ?_
  refine RD_h (i := 34) #[true, true, true, true, true, true, true, true, true, true, true, true, true, true, true, true, true, true, true, true, true, true, true, true, true, true, true, true, true, true, true, true, true, true, false, true, true, false, false, false, false, false, false, false, false, false, false, false, false, false, false, false, false, false, false, false, false, false, false, false, false, false, false, false, false, false, false, false, false, false, false] rfl rfl rfl rfl kr_ (fun _ _ _ h => h) (Yh_loadE (cs := bys x.nd.cls) rfl ag_37 mem_ (by rw [length_rowF]; omega) (row_cls _ _ _ _)) ?_
  refine RD_h (i := 36) #[true, true, true, true, true, true, true, true, true, true, true, true, true, true, true, true, true, true, true, true, true, true, true, true, true, true, true, true, true, true, true, true, true, true, true, true, false, false, false, false, false, false, false, false, false, false, false, false, false, false, false, false, false, false, false, false, false, false, false, false, false, false, false, false, false, false, false, false, false, false, false] rfl rfl rfl rfl kr_ (fun _ _ _ h => h) (Yh_loadE (cs := bys x.nd.cls) rfl ag_37 mem_ (by rw [Nm.length_cells]; omega) (Nm.cls x)) ?_
  refine RD_l 37 rfl (Yl_arrNe rfl rfl un_37 eg_37 x.nd.h16) ?_
  refine RD_l 38 rfl (Yl_pick_f rfl rfl) ?_
  refine RD_m 39 ?_
  refine RD_f 40 fo_41_6 ?_
  refine RD_f 42 fo_43_7 ?_
  refine RD_h (i := 41) #[true, true, true, true, true, true, true, true, true, true, true, true, true, true, true, true, true, true, true, true, true, true, true, true, true, true, true, true, true, true, true, true, true, true, true, true, true, true, true, true, true, false, true, true, false, false, false, false, false, false, false, false, false, false, false, false, false, false, false, false, false, false, false, false, false, false, false, false, false, false, false] rfl rfl rfl rfl kr_ (fun _ _ _ h => h) (Yh_loadE (cs := bys x.nd.state) rfl ag_38 mem_ (by rw [length_rowF]; omega) (row_state _ _ _ _)) ?_
  refine RD_h (i := 43) #[true, true, true, true, true, true, true, true, true, true, true, true, true, true, true, true, true, true, true, true, true, true, true, true, true, true, true, true, true, true, true, true, true, true, true, true, true, true, true, true, true, true, true, false, false, false, false, false, false, false, false, false, false, false, false, false, false, false, false, false, false, false, false, false, false, false, false, false, false, false, false] rfl rfl rfl rfl kr_ (fun _ _ _ h => h) (Yh_loadE (cs := bys x.nd.state) rfl ag_38 mem_ (by rw [Nm.length_cells]; omega) (Nm.state x)) ?_
  refine RD_l 44 rfl (Yl_arrNe rfl rfl un_38 eg_38 x.nd.h4) ?_
  refine RD_l 45 rfl (Yl_pick_f rfl rfl) ?_
  refine RD_m 46 ?_
  refine RD_f 47 fo_41_7 ?_
  refine RD_f 49 fo_43_8 ?_
  refine RD_h (i := 48) #[true, true, true, true, true, true, true, true, true, true, true, true, true, true, true, true, true, true, true, true, true, true, true, true, true, true, true, true, true, true, true, true, true, true, true, true, true, true, true, true, true, true, true, true, true, true, true, true, false, true, true, false, false, false, false, false, false, false, false, false, false, false, false, false, false, false, false, false, false, false, false] rfl rfl rfl rfl kr_ (fun _ _ _ h => h) (Yh_lh (v := .int .u64 (x.nd.created : Int)) sc_39 (row_cr _ _ _ _)) ?_
  refine RD_h (i := 50) #[true, true, true, true, true, true, true, true, true, true, true, true, true, true, true, true, true, true, true, true, true, true, true, true, true, true, true, true, true, true, true, true, true, true, true, true, true, true, true, true, true, true, true, true, true, true, true, true, true, true, false, false, false, false, false, false, false, false, false, false, false, false, false, false, false, false, false, false, false, false, false] rfl rfl rfl rfl kr_ (fun _ _ _ h => h) (Yh_lh (v := .int .u64 (x.nd.created : Int)) sc_39 (Nm.at26 x)) ?_
  refine RD_l 51 rfl (Yl_neqF rfl rfl rfl) ?_
  refine RD_l 52 rfl (Yl_pick_f rfl rfl) ?_
  refine RD_m 53 ?_
  refine RD_f 54 fo_41_8 ?_
  refine RD_f 56 fo_43_9 ?_
  refine RD_h (i := 55) #[true, true, true, true, true, true, true, true, true, true, true, true, true, true, true, true, true, true, true, true, true, true, true, true, true, true, true, true, true, true, true, true, true, true, true, true, true, true, true, true, true, true, true, true, true, true, true, true, true, true, true, true, true, true, true, false, true, true, false, false, false, false, false, false, false, false, false, false, false, false, false] rfl rfl rfl rfl kr_ (fun _ _ _ h => h) (Yh_lh (v := .int .u64 (x.nd.modified : Int)) sc_39 (row_mo _ _ _ _)) ?_
  refine RD_h (i := 57) #[true, true, true, true, true, true, true, true, true, true, true, true, true, true, true, true, true, true, true, true, true, true, true, true, true, true, true, true, true, true, true, true, true, true, true, true, true, true, true, true, true, true, true, true, true, true, true, true, true, true, true, true, true, true, true, true, true, false, false, false, false, false, false, false, false, false, false, false, false, false, false] rfl rfl rfl rfl kr_ (fun _ _ _ h => h) (Yh_lh (v := .int .u64 (x.nd.modified : Int)) sc_39 (Nm.at27 x)) ?_
  refine RD_l 58 rfl (Yl_neqF rfl rfl rfl) ?_
  refine RD_l 59 rfl (Yl_pick_f rfl rfl) ?_
  refine RD_m 60 ?_
  refine RD_f 61 fo_41_1 ?_
  refine RD_m 64 ?_
  refine RD_m 65 ?_
  refine RD_l 66 rfl (Yl_indexN (b := oP) (off := 0) (i := i) (o' := i) rfl rfl sl_30 om_ om_) ?_
  refine RD_h (i := 62) #[true, true, true, true, true, true, true, true, true, true, true, true, true, true, true, true, true, true, true, true, true, true, true, true, true, true, true, true, true, true, true, true, true, true, true, true, true, true, true, true, true, true, true, true, true, true, true, true, true, true, true, true, true, true, true, true, true, true, true, true, true, true, false, false, true, true, true, true, true, false, false] rfl rfl rfl rfl kr_ (fun _ _ _ h => h) (Yh_load (v := .slice q0 p.length c0) rfl sc_36 mem_ (by rw [← hpe]; rfl)) ?_
  refine RD_l 63 rfl (Yl_len rfl sl_36) ?_
  refine RD_h (i := 67) #[true, true, true, true, true, true, true, true, true, true, true, true, true, true, true, true, true, true, true, true, true, true, true, true, true, true, true, true, true, true, true, true, true, true, true, true, true, true, true, true, true, true, true, true, true, true, true, true, true, true, true, true, true, true, true, true, true, true, true, true, true, true, true, true, true, true, true, false, false, false, false] rfl rfl rfl rfl kr_ (fun _ _ _ h => h) (Yh_load (v := .slice q1 p.length c1) rfl sc_36 mem_ (at_vals om_ hve)) ?_
  refine RD_l 68 rfl (Yl_len rfl sl_36) ?_
  refine RD_l 69 rfl (Yl_neqF rfl rfl rfl) ?_
  refine RD_l 70 rfl (Yl_pick_f rfl rfl) ?_
  refine (RD_done kr_ (QW_lv [9,11,12,15,16,63,64,65,156] ?_))
  refine CW_false rfl ?_
  refine (CW_skip (QW_lv [9,11,12,15,16,63,64,65] ?_))
  refine CW_sr ?_
  refine RW_f fo_41_1 ?_
  refine RW_h (Yh_load (v := .slice q0 p.length c0) rfl sc_36 mem_ (by rw [← hpe]; rfl)) ?_
  refine RW_l (Yl_len rfl sl_36) ?_
  refine RW_m ?_
  refine RW_lv [9,11,12,15,16,63,64,65,159,160] ?_
  refine CW_block ?_
  refine CW_lp (σ := Nat) (fun j => [(9, .slice (some ⟨g, 0, none⟩) ns.length cap), (11, .slice (some ⟨oO, 0, none⟩) o.length co), (12, .slice (some ⟨oP, 0, none⟩) o.length cp), (15, nv i), (16, pv b16), (63, .slice (some ⟨gR, 0, none⟩) o.length cR), (64, nv o.length), (65, nv i), (159, nv p.length), (160, nv j)]) (fun _ => (b17, blk x.cells 43) :: (b16, blk (rowF x.nd (kdN ns k) (szN ns k : Int) pvv) 41) :: (g, blk (nms ns ++ rn) 43) :: (oO, blk (nats (o.map Prod.fst) ++ ro) 3) :: (oP, blk (vs ++ rp) 36) :: (gI, blk (bys (writeF (verF four) st (ns.map Nm.nd))) 5) :: (2, blk ps T) :: (gR, blk (rows.flatten ++ rr) 41) :: (ppR ++ (ppO ++ (nmsH ns ++ (D ++ F))))) (fun j => j ≤ p.length) (fun j => p.length - j) 0 (Nat.zero_le _) ?_
  rintro j hj
  refine CW_sr ?_
  refine RW_l (Yl_lss rfl rfl) ?_
  refine RW_lv [9,11,12,15,16,63,64,65,159,160,161] ?_
  refine CW_seq ?_
  refine CW_cd rfl (fun hc10 => ?_) (fun hc10 => ?_)
  ·refine (CW_skip (QW_lv [9,11,12,15,16,63,64,65,159,160] ?_))
   refine CW_seq ?_
   refine CW_block ?_
   refine CW_seq ?_
   obtain ⟨bq, cq, rq, hqe, hmq⟩ := hpv.some om_
   obtain ⟨bz, cz, rz, hze, hmz⟩ := hvi.some om_
   refine CW_region ?_
   refine RW_m ?_
   refine RW_a ?_
   refine RW_lv [9,11,12,15,16,19,63,64,65,159,160] ?_
   refine CW_seq ?_
   refine CW_draw [] _ mixed (Sub.refl _) ?_
   refine RD_f 0 fo_41_1 ?_
   refine RD_m 2 ?_
   refine RD_m 5 ?_
   refine RD_m 6 ?_
   refine RD_l 7 rfl (Yl_indexN (b := oP) (off := 0) (i := i) (o' := i) rfl rfl sl_30 om_ om_) ?_
   refine RD_m 9 ?_
   refine RD_h (i := 1) #[true, false, true, false, false, true, true, true, true, true, true, true, false] rfl rfl rfl rfl kr_ (fun _ _ _ h => h) (Yh_load (v := .slice (some ⟨bq, 0, none⟩) p.length cq) rfl sc_36 mem_ (by rw [← hqe]; rfl)) ?_
   refine RD_l 3 rfl (Yl_indexN (b := bq) (off := 0) (i := j) (o' := j) rfl rfl sl_36 om_ om_) ?_
   refine RD_h (i := 4) #[true, true, true, true, false, true, true, true, true, true, true, true, false] rfl rfl rfl rfl kr_ (fun _ _ _ h => h) (Yh_load (v := .string (bar (p.getD j []))) rfl sc_9 (by repeat (first | exact List.mem_append_left _ hmq | apply List.Mem.tail)) (at_strs om_)) ?_
   refine RD_h (i := 8) #[true, true, true, true, true, true, true, true, false, true, false, false, false] rfl rfl rfl rfl kr_ (fun _ _ _ h => h) (Yh_load (v := .slice (some ⟨bz, 0, none⟩) p.length cz) rfl sc_36 mem_ (at_vals om_ hze)) ?_
   refine RD_l 10 rfl (Yl_indexN (b := bz) (off := 0) (i := j) (o' := j) rfl rfl sl_36 om_ om_) ?_
   refine RD_h (i := 11) #[true, true, true, true, true, true, true, true, true, true, true, false, false] rfl rfl rfl rfl kr_ (fun _ _ _ h => h) (Yh_load (v := .string (bar (p.getD j []))) rfl sc_9 (by repeat (first | exact List.mem_append_right _ (List.mem_append_left _ hmz) | apply List.Mem.tail)) (at_strs om_)) ?_
   refine RD_l 12 rfl (Yl_strNeF rfl rfl) ?_
   refine (RD_done kr_ (QW_lv [9,11,12,15,16,63,64,65,159,160,175] ?_))
   refine CW_false rfl ?_
   refine CW_skip ?_
   refine QW_normal_block ?_
   refine (QW_lv [9,11,12,15,16,63,64,65,159,160] ?_)
   refine CW_region ?_
   refine RW_l (Yl_add (c := ((j + 1 : Nat) : Int)) rfl rfl (wi64 om_ om_)) ?_
   refine RW_m ?_
   refine RW_nil ?_
   exact QW_rn (j + 1) om_ om_
  refine CW_exit ?_
  refine QW_exit_then ?_
  refine QW_exit_then ?_
  refine QW_exit_block ?_
  refine QW_normal_block ?_
  refine (QW_lv [9,11,12,63,64,65] ?_)
  refine CW_region ?_
  refine RW_l (Yl_add (c := ((i + 1 : Nat) : Int)) rfl rfl (wi64 om_ om_)) ?_
  refine RW_m ?_
  refine RW_nil ?_
  refine QW_dropB (e := (b17, _)) rem_ ?_
  refine QW_dropB (e := (b16, _)) rem_ ?_
  exact QW_rn (i + 1) om_ om_
 refine CW_exit ?_
 refine QW_exit_then ?_
 refine QW_exit_then ?_
 refine QW_exit_block ?_
 refine (QW_lv [] ?_)
 refine CW_sr ?_
 refine RW_a ?_
 refine RW_lv [8] ?_
 refine CW_ret ?_
 first
  | exact QW_ret1 rfl rfl ((2, blk ps T) :: D) ⟨rfl, rfl⟩ (Prm.nil _)
  | (refine QW_sub (H' := (2, blk ps T) :: (D ++ F)) (.cons_cons _ (.cons _ (.cons _ (List.sublist_append_right _ _)))) ?_; exact QW_ret1 rfl rfl ((2, blk ps T) :: D) ⟨rfl, rfl⟩ (Prm.nil _))
  | (refine QW_sub (H' := (2, blk ps T) :: (D ++ F)) (.cons _ (.cons _ (.cons _ (.cons _ (.cons_cons _ (.cons _ (List.Sublist.trans (List.sublist_append_right _ _) (List.Sublist.trans (List.sublist_append_right _ _) (List.sublist_append_right _ _))))))))) ?_; exact QW_ret1 rfl rfl ((2, blk ps T) :: D) ⟨rfl, rfl⟩ (Prm.nil _))

end Go.Proofs.YtgoddcicbpjknaaDoor

set_option maxRecDepth 100000
namespace Go.Proofs.YtgoddcicbpjknaaDoor.fnEntries
open Go
open Cfb
open Go.ChangeShapes Go.WideShapes Go.ChangeAt Go.RowKit Go.Clock
theorem contract (H : Type) (enc : TypeId × Value → H) (W : World) (base : Nat) (args : Array Value) (ds gs : List (DataW H)) (before : List MemPlace)
    (hval : ∀ (j : Nat) t v, Tryd.f3.params[j]? = some t → args[j]? = some v → Value.okWide Tryd.prog W .any base t v)
    (hW : DataW.Whole enc Tryd.prog Tryd.f3.params.toList Rows.fnEntriesSpec.vars false W args.toList ds gs before) (hL : laidMetH Tryd.prog Rows.fnEntriesRow.laid W) (hS : W.ShapedOpen Tryd.prog) :
    Calls Tryd.prog 3 args W fun e W' => ∃ v, e = .returned v ∧ W'.os = W.os ∧ Rows.fnEntriesSpec.post enc Tryd.prog Tryd.f3 false true false false W args v W' := by
  have hW' := hW
  obtain ⟨p, q, hA0, hV, rfl, hfz, hnd⟩ := hW
  have hA : DataW.TrodAll enc Tryd.prog W 0 (fun _ => true) true Tryd.f3.params.toList args.toList ds p := hA0
  have hlt : ∀ x ∈ p, x.block < W.heap.size := fun x hx => by simpa using hW'.lt x (List.mem_append_left _ hx)
  have again := fun W' hb => trodAll_again (W' := W') hb _ _ _ _ hA (by rw [Tryd.params3]; kernel_rfl) hlt
  rw [Tryd.params3] at hA hval
  obtain ⟨v0, vs0, d0, ds0, p0, q0, hargs, rfl, rfl, h0, r0⟩ := trodAll_cons hA
  obtain ⟨v1, vs1, d1, ds1, p1, q1, rfl, rfl, rfl, h1, r1⟩ := trodAll_cons r0
  obtain ⟨v2, vs2, d2, ds2, p2, q2, rfl, rfl, rfl, h2, r2⟩ := trodAll_cons r1
  obtain ⟨v3, vs3, d3, ds3, p3, q3, rfl, rfl, rfl, h3, r3⟩ := trodAll_cons r2
  obtain ⟨rfl, rfl, rfl⟩ := trodAll_nil r3
  obtain rfl : args = #[v0, v1, v2, v3] := by cases args; simp_all
  obtain ⟨rfl, rfl⟩ := trodVars_none hV
  obtain ⟨a2, rfl, rfl, rfl⟩ := open_bool Tryd.underlying4 (hval 2 4 v2 rfl rfl) h2
  obtain ⟨a3, rfl, rfl, rfl, w3⟩ := open_int Tryd.underlying5 (hval 3 5 v3 rfl rfl) h3
  obtain ⟨T, hT⟩ := tab_block (props_tab hL) hS
  obtain ⟨s0, n0, c0, rfl, hc0, hs0⟩ := open_nums un_22 un_67 cells67 (hval 0 22 v0 rfl rfl) h0
  obtain ⟨s1, n1, c1, rfl, hc1, hs1⟩ := open_bytes (hval 1 23 v1 rfl rfl) h1
  obtain ⟨x3, rfl, b3⟩ := u8_nat w3
  have fin : Calls Tryd.prog 3 #[.slice s0 n0 c0, .slice s1 n1 c1, .bool a2, .int .u8 (x3 : Int)] W fun e w' => e = .returned (.bool true) ∧ Grown W w' ∧ Below W.heap.size W w' := by
    obtain ⟨D1, m1, y1, k1, -⟩ := nums_in (W := W) (e := (2, blk propsV T)) (D := []) (by intro p hp; rw [List.mem_singleton.1 hp]; exact hT) (by simp) hs0
    obtain ⟨D2, m2, y2, k2, t2⟩ := bytes_in m1 y1 hs1
    exact (FnEntries_ct n0 c0 n1 c1 x3 s0 s1 a2 b3 propsV T propsV_ok D2 (k1.mono t2) k2 hc0).rowB m2 y2
  refine fin.mono fun e W' ⟨he, hg, hb⟩ => ?_
  subst he
  exact ⟨_, rfl, hg.1.1, ⟨_, _, _, [], _, [], hW', trodAll_cons_mk (shut_bool Tryd.underlying4 _) trodAll_mk0, again W' hb, rfl, hg.frame _, fun h => by cases h⟩⟩
/-- A world for the witness. -/
noncomputable def laidWorld (os : Os) : World := World.laidAll Tryd.prog os Rows.fnEntriesRow.laid
theorem laid_met (os : Os) : laidMet Tryd.prog Rows.fnEntriesRow.laid ((laidWorld os).forCall (fun _ _ => 0) ⟨#[], #[.slice none 0 0, .slice none 0 0, .bool false, .int .u8 0], []⟩).memory := laidMet_laidAll _ kr_ kr_
theorem reads (os : Os) {H : Type} (enc : TypeId × Value → H) : ∃ places, DataW.whole enc Tryd.prog ((laidWorld os).forCall (fun _ _ => 0) ⟨#[], #[.slice none 0 0, .slice none 0 0, .bool false, .int .u8 0], []⟩).memory Tryd.f3.params.toList Rows.fnEntriesSpec.vars false (#[.slice none 0 0, .slice none 0 0, .bool false, .int .u8 0] : Array Value).toList 8 = some ([.nil, .nil, .lit (.bool false), .lit (.int .u8 0)], [], places) :=
  ⟨[], by kernel_rfl⟩
theorem lifted (os : Os) (started : os.Started) (H : Type) (enc : TypeId × Value → H) (F : Stop.Interp) :
    ReturnsInHanded {} Tryd.checked os 3 .any ((OpenSpec.ofChange Rows.fnEntriesSpec).preRow enc Tryd.prog Tryd.f3 Rows.fnEntriesRow.domain false Rows.fnEntriesRow.laid) (((OpenSpec.ofChange Rows.fnEntriesSpec).at F).post enc Tryd.prog Tryd.f3 false true false false) := by
  obtain ⟨places, hx⟩ := reads os enc
  refine returnsInHanded_of_row (C := Tryd.checked) (s := OpenSpec.ofChange Rows.fnEntriesSpec) own started kr_ Tryd.func3
    (witness_row_at (enc := enc) (C := Tryd.checked) false (laidWorld os) #[.slice none 0 0, .slice none 0 0, .bool false, .int .u8 0] (World.laidAll_os _ _ _) (by kernel_rfl) (by kernel_rfl) (by kernel_rfl)
      (OpenSpec.preRow_of_cond 8 hx kr_ (fun k hk => by cases hk) kr_ (laid_met os))) ?_
  intro W base args ds gs before hval hW _ _ _ hL hS _
  exact (contract H enc W base args ds gs before hval hW hL hS).mono fun _ _ ⟨v, he, _, hp⟩ => ⟨v, he, hp⟩
/-- The same, where the row lets time pass. -/
theorem liftedT (os : Os) (started : os.Started) (H : Type) (enc : TypeId × Value → H) (F : Stop.Interp) :
    ReturnsInHanded { calm := true } Tryd.checked os 3 .any (fun w args => (Rows.fnEntriesSpec.pre enc Tryd.prog Tryd.f3 [] false w args ∧ laidMetH Tryd.prog Rows.fnEntriesRow.laid w) ∧ sizedMet enc Tryd.prog Tryd.f3 (OpenSpec.ofChange Rows.fnEntriesSpec) false w args)
      ((OpenSpec.ofChange Rows.fnEntriesSpec).postWith enc Tryd.prog Tryd.f3 F (outsideKept [.timePasses]) false true false) := by
  refine returns_of_change (C := Tryd.checked) (X := fun w _ => laidMetH Tryd.prog Rows.fnEntriesRow.laid w) (fun _ _ _ hh h => h.of_heap hh) own started kr_ Tryd.func3
    (witness_at (enc := enc) (C := Tryd.checked) (X := fun w _ => laidMetH Tryd.prog Rows.fnEntriesRow.laid w) (World.laidAll Tryd.prog os Rows.fnEntriesRow.laid) #[.slice none 0 0, .slice none 0 0, .bool false, .int .u8 0] 8 (World.laidAll_os _ _ _) (World.shaped_of_ZipB (by kernel_rfl) (by kernel_rfl)) (by kernel_rfl) (by kernel_rfl) (by kernel_rfl)
      (by rw [MakeChecks.laidMetH_plain _ _ _ kr_]; exact laidMet_laidAll _ kr_ kr_)) ?_
  intro W base args ds gs before hval hW _ _ hL hS
  refine (contract H enc W base args ds gs before hval hW hL hS).mono ?_
  rintro e W' ⟨v, he, ho, hp⟩
  have hos : { W' with os := W.os } = W' := by rw [← ho]
  refine ⟨v, he, by rw [hos]; exact hp, by rw [ho]; exact Later.refl _⟩
theorem said : Rows.FnEntriesSaid := by
  first
    | exact OpenClaim.holds_of_cond 3 Tryd.f3 rfl rfl rfl rfl rfl rfl rfl ⟨rfl, rfl, rfl, rfl, rfl⟩ rfl rfl rfl rfl rfl (by kernel_rfl) Tryd.func3 (by kernel_rfl)
        (of_decide_eq_true kr_) (by unfold Func.isWrapper; first | (rw [if_pos (by decide +kernel)]; kernel_rfl) | (rw [if_neg (by decide +kernel)]; exact ⟨rfl, rfl⟩))
        (fun os started H enc _ F => by rw [OpenClaim.pre_eq_preRow]; exact lifted os started H enc F)
    | exact holds_of_wide_time 3 Tryd.f3 rfl rfl rfl rfl rfl rfl rfl ⟨rfl, rfl, rfl, rfl, rfl⟩ rfl rfl rfl rfl rfl (by kernel_rfl) Tryd.func3 (by kernel_rfl)
        (of_decide_eq_true kr_) (by unfold Func.isWrapper; first | (rw [if_pos (by decide +kernel)]; kernel_rfl) | (rw [if_neg (by decide +kernel)]; exact ⟨rfl, rfl⟩))
        (fun os started H enc _ F => liftedT os started H enc F)
theorem plain (f : FuncId) (fn : Func) (hf : Tryd.pinned.checked.prog.funcNamed "loop.example/pub-g03453/laws.FnEntries" = some f) (hfn : Tryd.pinned.checked.prog.funcs[f]? = some fn) :
    true = Tryd.pinned.checked.prog.looks [] ∧ ∀ (j : Nat) t, fn.params[j]? = some t → Tryd.pinned.checked.prog.wantsStandIn t = false := by
  obtain rfl : f = 3 := Option.some.inj ((show Tryd.prog.funcNamed "loop.example/pub-g03453/laws.FnEntries" = some 3 by kernel_rfl).symm.trans hf) |>.symm
  obtain rfl : fn = Tryd.f3 := (Option.some.inj (Tryd.func3.symm.trans hfn)).symm
  refine ⟨by kernel_rfl, fun j t ht => ?_⟩
  rw [Tryd.params3] at ht
  have hm : t ∈ [22, 23, 4, 5] := by simpa using Array.mem_of_getElem? ht
  have hall : ([22, 23, 4, 5].all fun u => !Tryd.prog.wantsStandIn u) = true := by kernel_rfl
  exact (show Tryd.prog.wantsStandIn t = false by simpa using List.all_eq_true.1 hall t hm)
theorem card : Rows.FnEntriesCardSaid :=
  Claim7.holds_tied_plain_at .later [] _ _ _ _ said (fun _ h => by cases h) kr_ (fun _ h => by cases h) fnEntries_row_tie rfl ⟨rfl, rfl⟩ kr_ rfl plain kr_
#print axioms card
end Go.Proofs.YtgoddcicbpjknaaDoor.fnEntries
