/- FnRead, as its card states it: whatever the numbers, the bytes, the choice, the step, the turn and the size, the call returns true and leaves all that was there as it was. Behind it: Walks: FnRead. -/
import Derived.Test.YtgoddcicbpjknaaDoorPartE
import Derived.Clock
import Derived.Lay
set_option maxRecDepth 20000
set_option maxHeartbeats 4000000

namespace Go.Proofs.YtgoddcicbpjknaaDoor
open Go
open Cfb

/-! Walks: FnRead. -/
theorem FnRead_ct (nN cN nD cD st tn : Nat) (pN pD : Option Addr) (four : Bool) (hst : st ≤ 255) (htn : tn ≤ 255) (x : Nat) (hx16 : x ≤ 65535) (ps : List Value) (T : TypeId) (hp : PsOk ps) (U : TypeId) (u : Value) (hU : Nat.beq U 123 = false) (T0 : TypeId) (fz0 : Nat × Nat) (D : Heap) (hN : NumOk ((2, blk ps T) :: (0, Obj.cells [Value.iface U u].toArray T0 fz0) :: D) pN nN) (hD : BytOk ((2, blk ps T) :: (0, Obj.cells [Value.iface U u].toArray T0 fz0) :: D) pD nD) (hcN : nN ≤ cN) :
  Ct Tryd.prog 7 [.slice pN nN cN, .slice pD nD cD, .bool four, .int .u8 (st : Int), .int .u8 (tn : Int), .int .u16 (x : Int)] ((2, blk ps T) :: (0, Obj.cells [Value.iface U u].toArray T0 fz0) :: D) (fun v q => v = .bool true ∧ q = (2, blk ps T) :: (0, Obj.cells [Value.iface U u].toArray T0 fz0) :: D) := by
 refine Ct_of Tryd.func7 rfl Tryd.ntmps7 rfl ?_
 intro E F
 simp only [numL, List.nil_append, List.cons_append]
 refine CW_sr ?_
 refine RW_a ?_
 refine RW_lv (ks := [0, 1, 2, 3, 4, 5]) ?_
 refine CW_seq ?_
 refine CW_sr ?_
 refine RW_m ?_
 refine RW_l (Yl_len rfl sl_22) ?_
 refine RW_l (Yl_gtr rfl rfl) ?_
 refine RW_m ?_
 refine RW_bool 31 rfl (fun hg1 => ?_) (fun hg1 => ?_)
 ·replace hg1 := of_decide_eq_true hg1
  refine RW_skip rfl rfl rfl ?_
  refine RW_skip rfl rfl rfl ?_
  refine RW_skip rfl rfl rfl ?_
  refine RW_l (Yl_pick_t rfl rfl) ?_
  refine RW_lv (ks := [0, 1, 2, 3, 4, 5, 35]) ?_
  refine CW_true rfl ?_
  refine CW_sr ?_
  refine RW_a ?_
  refine RW_lv (ks := [12]) ?_
  refine CW_ret ?_
  refine QW_ret_then ?_
  first
   | exact QW_ret1 rfl rfl ((2, blk ps T) :: (0, Obj.cells [Value.iface U u].toArray T0 fz0) :: D) ⟨rfl, rfl⟩ (Prm.nil _)
   | (refine QW_sub (H' := (2, blk ps T) :: (0, Obj.cells [Value.iface U u].toArray T0 fz0) :: (D ++ F)) (.cons _ (.cons_cons _ (.cons_cons _ (.cons _ (List.sublist_append_right _ _))))) ?_; exact QW_ret1 rfl rfl ((2, blk ps T) :: (0, Obj.cells [Value.iface U u].toArray T0 fz0) :: D) ⟨rfl, rfl⟩ (Prm.nil _))
   | (refine QW_sub (H' := (2, blk ps T) :: (0, Obj.cells [Value.iface U u].toArray T0 fz0) :: (D ++ F)) (.cons _ (.cons_cons _ (.cons_cons _ (.cons _ (.cons _ (.cons _ (List.Sublist.trans (.cons _ (List.sublist_append_right _ _)) (List.sublist_append_right _ _)))))))) ?_; exact QW_ret1 rfl rfl ((2, blk ps T) :: (0, Obj.cells [Value.iface U u].toArray T0 fz0) :: D) ⟨rfl, rfl⟩ (Prm.nil _))
 ·replace hg1 := of_decide_eq_false hg1
  refine RW_gy rfl rfl rfl (Yl.h (Yl_move rfl)) ?_
  refine RW_gy rfl rfl rfl (Yl.h (Yl_len rfl sl_23)) ?_
  refine RW_gy rfl rfl rfl (Yl.h (Yl_gtr rfl rfl)) ?_
  refine RW_l (Yl_pick_f rfl rfl) ?_
  refine RW_lv (ks := [0, 1, 2, 3, 4, 5, 35]) ?_
  refine CW_cond rfl (fun hc2 => ?_) (fun hc2 => ?_)
  ·replace hc2 := of_decide_eq_true hc2
   refine CW_sr ?_
   refine RW_a ?_
   refine RW_lv (ks := [12]) ?_
   refine CW_ret ?_
   refine QW_ret_then ?_
   first
    | exact QW_ret1 rfl rfl ((2, blk ps T) :: (0, Obj.cells [Value.iface U u].toArray T0 fz0) :: D) ⟨rfl, rfl⟩ (Prm.nil _)
    | (refine QW_sub (H' := (2, blk ps T) :: (0, Obj.cells [Value.iface U u].toArray T0 fz0) :: (D ++ F)) (.cons _ (.cons_cons _ (.cons_cons _ (.cons _ (List.sublist_append_right _ _))))) ?_; exact QW_ret1 rfl rfl ((2, blk ps T) :: (0, Obj.cells [Value.iface U u].toArray T0 fz0) :: D) ⟨rfl, rfl⟩ (Prm.nil _))
    | (refine QW_sub (H' := (2, blk ps T) :: (0, Obj.cells [Value.iface U u].toArray T0 fz0) :: (D ++ F)) (.cons _ (.cons_cons _ (.cons_cons _ (.cons _ (.cons _ (.cons _ (List.Sublist.trans (.cons _ (List.sublist_append_right _ _)) (List.sublist_append_right _ _)))))))) ?_; exact QW_ret1 rfl rfl ((2, blk ps T) :: (0, Obj.cells [Value.iface U u].toArray T0 fz0) :: D) ⟨rfl, rfl⟩ (Prm.nil _))
  ·replace hc2 := of_decide_eq_false hc2
   refine (CW_skip (QW_lv (ks := [0, 1, 2, 3, 4, 5]) ?_))
   refine CW_seq ?_
   refine CW_sr ?_
   refine RW_m ?_
   refine RW_m ?_
   refine RW_fx rfl rfl rfl (Fx_callQ ok_13 (vs := [.slice pN nN cN, .slice pD nD cD]) (R := fun v => v = .bool (decide (nN ≤ 100 ∧ nD ≤ 1000))) rfl (Pick.nil _) (few_ct pN pD nN cN nD cD)) ?_
   rintro _ _ ⟨rfl, rfl⟩
   refine RW_l (Yl_not rfl) ?_
   refine RW_lv (ks := [0, 1, 2, 3, 4, 5, 39]) ?_
   refine CW_cond rfl (fun hc3 => ?_) (fun hc3 => ?_)
   ·skip
    refine CW_sr ?_
    refine RW_a ?_
    refine RW_lv (ks := [12]) ?_
    refine CW_ret ?_
    refine QW_ret_then ?_
    first
     | exact QW_ret1 rfl rfl ((2, blk ps T) :: (0, Obj.cells [Value.iface U u].toArray T0 fz0) :: D) ⟨rfl, rfl⟩ (Prm.nil _)
     | (refine QW_sub (H' := (2, blk ps T) :: (0, Obj.cells [Value.iface U u].toArray T0 fz0) :: (D ++ F)) (.cons _ (.cons_cons _ (.cons_cons _ (.cons _ (List.sublist_append_right _ _))))) ?_; exact QW_ret1 rfl rfl ((2, blk ps T) :: (0, Obj.cells [Value.iface U u].toArray T0 fz0) :: D) ⟨rfl, rfl⟩ (Prm.nil _))
     | (refine QW_sub (H' := (2, blk ps T) :: (0, Obj.cells [Value.iface U u].toArray T0 fz0) :: (D ++ F)) (.cons _ (.cons_cons _ (.cons_cons _ (.cons _ (.cons _ (.cons _ (List.Sublist.trans (.cons _ (List.sublist_append_right _ _)) (List.sublist_append_right _ _)))))))) ?_; exact QW_ret1 rfl rfl ((2, blk ps T) :: (0, Obj.cells [Value.iface U u].toArray T0 fz0) :: D) ⟨rfl, rfl⟩ (Prm.nil _))
   ·skip
    have hfew : nN ≤ 100 ∧ nD ≤ 1000 := by simpa using hc3
    refine (CW_skip (QW_lv (ks := [0, 1, 2, 3, 4, 5]) ?_))
    refine CW_seq ?_
    have hnodes := nodesOf_ct nN cN nD cD pN pD ((2, blk ps T) :: (0, Obj.cells [Value.iface U u].toArray T0 fz0) :: D) hN hD (by omega) hcN (by omega)
    refine CW_region ?_
    refine RW_m ?_
    refine RW_m ?_
    refine RW_fx rfl rfl rfl (Fx_call ok_14 (vs := [.slice pN nN cN, .slice pD nD cD]) rfl (Pick.cons (by repeat (first | exact Rem.here _ _ | apply Rem.there)) (Pick.cons (by repeat (first | exact Rem.here _ _ | apply Rem.there)) (pick_app D F))) hnodes) ?_
    rintro _ _ ⟨_, ⟨ns, g, cap, rn, rfl, hno, hfit, rfl⟩, rfl⟩
    simp only [List.cons_append, List.append_assoc]
    refine RW_a ?_
    refine RW_lv (ks := [2, 3, 4, 5, 13]) ?_
    refine CW_seq ?_
    have hxs := hno.xs
    have hw := write_ct g cap (verF four) st ns rn _ rfl hxs hno.ok (by rcases verF_or four with e | e <;> omega) (by omega)
    refine CW_region ?_
    refine RW_m ?_
    refine RW_m ?_
    refine RW_fx rfl rfl rfl (Fx_callQ ok_16 (vs := [.bool four]) (R := fun v => v = nv (verF four)) rfl (Pick.nil _) (versionOf_ct four)) ?_
    rintro _ _ ⟨rfl, rfl⟩
    refine RW_m ?_
    refine RW_l (Yl_conv (c := (st : Int)) rfl in_5 in_3 (wi64 (by omega) (by omega))) ?_
    refine RW_fx rfl rfl rfl (Fx_call ok_15 (vs := [.slice (some ⟨g, 0, none⟩) ns.length cap, nv (verF four), nv st]) rfl (Pick.cons (by repeat (first | exact Rem.here _ _ | apply Rem.there)) (pick_app (nmsH ns) _)) hw) ?_
    rintro _ _ ⟨_, ⟨gI, rfl, rfl⟩, rfl⟩
    simp only [List.cons_append]
    refine RW_a ?_
    refine RW_lv (ks := [4, 5, 13, 14]) ?_
    refine CW_seq ?_
    refine CW_heap (perm_front ((gI, blk (bys (writeF (verF four) st (ns.map Nm.nd))) 5) :: (g, blk (nms ns ++ rn) 43) :: nmsH ns) [(2, blk ps T), (0, Obj.cells [Value.iface U u].toArray T0 fz0)] (D ++ F)) ?_
    simp only [List.cons_append, List.nil_append]
    obtain ⟨o, ho, hok, hond, hol, hbad, hout, hpth⟩ := hno.travs (verF four)
    have hnl := hno.len
    have hsto := streamOf_ct ns g cap tn rn o htn (by omega) (by omega) ho (fun k hk => (hok k).1 hk)
    refine CW_region ?_
    refine RW_m ?_
    refine RW_m ?_
    refine RW_fx rfl rfl rfl (Fx_call ok_19 (vs := [.slice (some ⟨g, 0, none⟩) ns.length cap, .int .u8 (tn : Int)]) rfl (Pick.cons (by repeat (first | exact Rem.here _ _ | apply Rem.there)) (Pick.nil _)) hsto) ?_
    rintro _ _ ⟨_, ⟨en, kk, bs, rfl, hfound, rfl⟩, rfl⟩
    simp only [List.cons_append, List.nil_append]
    refine RW_m ?_
    refine RW_l (Yl_extract (v := nv en) rfl rfl) ?_
    refine RW_l (Yl_extract (v := nv kk) rfl rfl) ?_
    refine RW_l (Yl_extract (v := .bool bs) rfl rfl) ?_
    refine RW_a ?_
    refine RW_a ?_
    refine RW_a ?_
    refine RW_lv (ks := [5, 13, 14, 15, 16, 17]) ?_
    refine CW_seq ?_
    refine CW_sr ?_
    refine RW_m ?_
    refine RW_l (Yl_not rfl) ?_
    refine RW_m ?_
    refine RW_bool 58 rfl (fun hg4 => ?_) (fun hg4 => ?_)
    ·skip
     refine RW_skip rfl rfl rfl ?_
     refine RW_skip rfl rfl rfl ?_
     refine RW_skip rfl rfl rfl ?_
     refine RW_l (Yl_pick_t rfl rfl) ?_
     refine RW_lv (ks := [5, 13, 14, 15, 16, 62]) ?_
     refine CW_true rfl ?_
     refine CW_sr ?_
     refine RW_a ?_
     refine RW_lv (ks := [12]) ?_
     refine CW_ret ?_
     refine QW_ret_then ?_
     first
      | exact QW_ret1 rfl rfl ((2, blk ps T) :: (0, Obj.cells [Value.iface U u].toArray T0 fz0) :: D) ⟨rfl, rfl⟩ (Prm.nil _)
      | (refine QW_sub (H' := (2, blk ps T) :: (0, Obj.cells [Value.iface U u].toArray T0 fz0) :: (D ++ F)) (.cons _ (.cons_cons _ (.cons_cons _ (.cons _ (List.sublist_append_right _ _))))) ?_; exact QW_ret1 rfl rfl ((2, blk ps T) :: (0, Obj.cells [Value.iface U u].toArray T0 fz0) :: D) ⟨rfl, rfl⟩ (Prm.nil _))
      | (refine QW_sub (H' := (2, blk ps T) :: (0, Obj.cells [Value.iface U u].toArray T0 fz0) :: (D ++ F)) (.cons _ (.cons_cons _ (.cons_cons _ (.cons _ (.cons _ (.cons _ (List.Sublist.trans (.cons _ (List.sublist_append_right _ _)) (List.sublist_append_right _ _)))))))) ?_; exact QW_ret1 rfl rfl ((2, blk ps T) :: (0, Obj.cells [Value.iface U u].toArray T0 fz0) :: D) ⟨rfl, rfl⟩ (Prm.nil _))
    ·skip
     have hb1 : bs = true := by simpa using hg4
     refine RW_gy rfl rfl rfl (Yl.h (Yl_move rfl)) ?_
     refine RW_gy rfl rfl rfl (Yl.h (Yl_len rfl sl_23)) ?_
     refine RW_gy rfl rfl rfl (Yl.h (Yl_gtr rfl rfl)) ?_
     refine RW_l (Yl_pick_f rfl rfl) ?_
     refine RW_lv (ks := [5, 13, 14, 15, 16, 62]) ?_
     refine CW_cond rfl (fun hc5 => ?_) (fun hc5 => ?_)
     ·replace hc5 := of_decide_eq_true hc5
      refine CW_sr ?_
      refine RW_a ?_
      refine RW_lv (ks := [12]) ?_
      refine CW_ret ?_
      refine QW_ret_then ?_
      first
       | exact QW_ret1 rfl rfl ((2, blk ps T) :: (0, Obj.cells [Value.iface U u].toArray T0 fz0) :: D) ⟨rfl, rfl⟩ (Prm.nil _)
       | (refine QW_sub (H' := (2, blk ps T) :: (0, Obj.cells [Value.iface U u].toArray T0 fz0) :: (D ++ F)) (.cons _ (.cons_cons _ (.cons_cons _ (.cons _ (List.sublist_append_right _ _))))) ?_; exact QW_ret1 rfl rfl ((2, blk ps T) :: (0, Obj.cells [Value.iface U u].toArray T0 fz0) :: D) ⟨rfl, rfl⟩ (Prm.nil _))
       | (refine QW_sub (H' := (2, blk ps T) :: (0, Obj.cells [Value.iface U u].toArray T0 fz0) :: (D ++ F)) (.cons _ (.cons_cons _ (.cons_cons _ (.cons _ (.cons _ (.cons _ (List.Sublist.trans (.cons _ (List.sublist_append_right _ _)) (List.sublist_append_right _ _)))))))) ?_; exact QW_ret1 rfl rfl ((2, blk ps T) :: (0, Obj.cells [Value.iface U u].toArray T0 fz0) :: D) ⟨rfl, rfl⟩ (Prm.nil _))
     ·replace hc5 := of_decide_eq_false hc5
      refine (CW_skip (QW_lv (ks := [5, 13, 14, 15, 16]) ?_))
      refine CW_seq ?_
      obtain ⟨he1, he2, he3⟩ := hfound hb1
      have hkk0 := hno.notroot he3
      have hkn : kk < ns.length := by
       have hoi : o.getD en default ∈ o := by rw [List.getD_eq_getElem?_getD, List.getElem?_eq_getElem he1]; exact List.getElem_mem _
       rw [← he2]; exact (hok _).1 (List.mem_map.2 ⟨_, hoi, rfl⟩)
      obtain ⟨x1, hx⟩ : ∃ x, ns.getD kk default = x := ⟨_, rfl⟩
      have hx1 : x1.ok := by rw [← hx]; exact hno.ok_at hkn
      have hxm := nmsH_mem hkn
      rw [hx] at hxm
      have hx9 := hx1.small
      have hxf := hx1.fit
      have hN1 : (nmF4 four ns) ≤ 131072 := by show NF (verF four) (ns.map Nm.nd) ≤ 131072; omega
      refine CW_region ?_
      refine RW_m ?_
      refine RW_m ?_
      refine RW_l (Yl_indexN (b := g) (off := 0) (i := kk) (o' := kk * 28) rfl rfl sl_25 (by omega) (by omega)) ?_
      refine RW_l (Yl_field rfl fo_43_2) ?_
      refine RW_h (Yh_load (v := x1.slice) rfl sc_23 (by repeat (first | exact List.Mem.head _ | apply List.Mem.tail)) (by rw [nms_cell _ _ _ 2 hkn (by omega), hx]; rfl)) ?_
      refine RW_a ?_
      refine RW_lv (ks := [5, 14, 15, 18]) ?_
      refine CW_seq ?_
      obtain ⟨m, hm⟩ : ∃ m, m = 1 + x % 3000 := ⟨_, rfl⟩
      have hdv0 : (0 : Int) ≤ ((x1.nd.data.length / m : Nat) : Int) := Int.natCast_nonneg _
      have hdv1 := Nat.div_le_self x1.nd.data.length m
      refine CW_region ?_
      refine RW_m ?_
      refine RW_l (Yl_conv (c := (x : Int)) rfl in_47 in_3 (wi64 (by omega) (by omega))) ?_
      refine RW_l (Yl_rem (c := ((x % 3000 : Nat) : Int)) rfl rfl (by omega) (remN x 3000)) ?_
      refine RW_l (Yl_add (c := (m : Int)) rfl rfl (by rw [hm]; exact wi64 (by omega) (by omega))) ?_
      refine RW_a ?_
      refine RW_lv (ks := [14, 15, 18, 19]) ?_
      refine CW_sr ?_
      refine RW_fx rfl rfl rfl (Fx_buildSlice0 sl_51) ?_
      rintro _ _ ⟨gs0, rfl, rfl⟩
      refine RW_a ?_
      refine RW_lv (ks := [14, 15, 18, 19, 20]) ?_
      refine CW_seq ?_
      refine CW_sr ?_
      refine RW_m ?_
      refine RW_l (Yl_len rfl sl_23) ?_
      refine RW_m ?_
      refine RW_l (Yl_quo (c := ((x1.nd.data.length / m : Nat) : Int)) rfl rfl (by omega) (quoN (b := m) (by omega))) ?_
      refine RW_l (Yl_add (c := ((x1.nd.data.length / m + 2 : Nat) : Int)) rfl rfl (wi64 (by omega) (by omega))) ?_
      refine RW_l (Yl_minN (m := 200) (n := x1.nd.data.length / m + 2) rfl rfl) ?_
      refine RW_m ?_
      refine RW_lv (ks := [14, 15, 18, 19, 20, 78, 79]) ?_
      refine CW_block ?_
      refine CW_lp (σ := Nat × Nat × Nat × List Value) (fun q => [(14, .slice (some ⟨gI, 0, none⟩) (nmF4 four ns) (nmF4 four ns)), (15, nv en), (18, x1.slice), (19, (.int .i64 (m : Int))), (20, .slice (some ⟨q.2.1, 0, none⟩) q.1 q.2.2.1), (78, nv (min 200 (x1.nd.data.length / m + 2))), (79, nv q.1)]) (fun q => (q.2.1, blk ((List.replicate q.1 (stpR m)).flatten ++ q.2.2.2) 53) :: (g, blk (nms ns ++ rn) 43) :: (2, blk ps T) :: (0, Obj.cells [Value.iface U u].toArray T0 fz0) :: (gI, blk (bys (wrF4 four st ns)) 5) :: (nmsH ns ++ (D ++ F))) (fun q => q.1 ≤ min 200 (x1.nd.data.length / m + 2) ∧ ((List.replicate q.1 (stpR m)).flatten ++ q.2.2.2).length = q.2.2.1 * 5) (fun q => min 200 (x1.nd.data.length / m + 2) - q.1) (0, gs0, 0, []) ⟨Nat.zero_le _, rfl⟩ ?_
      rintro ⟨j, gs, cs, rs0⟩ ⟨hj, hlen⟩
      simp only at hj hlen ⊢
      obtain ⟨q, hq⟩ : ∃ q, q = min 200 (x1.nd.data.length / m + 2) := ⟨_, rfl⟩
      rw [← hq] at hj ⊢
      refine CW_sr ?_
      refine RW_l (Yl_lss rfl rfl) ?_
      refine RW_lv (ks := [14, 15, 18, 19, 20, 78, 79, 80]) ?_
      refine CW_seq ?_
      refine CW_cond rfl (fun hc6 => ?_) (fun hc6 => ?_)
      ·replace hc6 := of_decide_eq_true hc6
       refine (CW_skip (QW_lv (ks := [14, 15, 18, 19, 20, 78, 79]) ?_))
       refine CW_seq ?_
       refine CW_block ?_
       refine CW_region ?_
       refine RW_m ?_
       refine RW_m ?_
       refine RW_l (Yl_build (cs := stpR m) pl_53 ze_53 rfl rfl) ?_
       refine RW_fx rfl rfl rfl (Fx_lit (vs := [.agg (stpR m).toArray]) (css := [stpR m]) (cs := stpR m) sl_51 ze_53 rfl rfl rfl rfl rfl (by intro c hc; rw [List.mem_singleton.1 hc]; rfl) (by simp)) ?_
       rintro _ _ ⟨b84, rfl, rfl⟩
       refine RW_fx rfl rfl rfl (Fx_appTG (xs := (List.replicate j (stpR m)).flatten) (r := rs0) (news := stpR m) (T := 53) (n := j) (cap := cs) (m := 1) (c := 1) rfl rfl sl_51 by_53 ze_53 rfl (.here _ _) (.here _ _) hlen (len_rep j _ rfl) rfl (by intro u hu; exact List.all_eq_true.1 (show (stpR m).all Value.oneCell' = true from rfl) u hu) (by omega) (by omega) (by omega)) ?_
       rintro _ _ ⟨gs', cs', rs', rfl, hlen', rfl⟩
       refine RW_a ?_
       refine RW_nil ?_
       refine QW_normal_block ?_
       refine (QW_lv (ks := [14, 15, 18, 19, 20, 78, 79]) ?_)
       refine CW_region ?_
       refine RW_l (Yl_add (c := ((j + 1 : Nat) : Int)) rfl rfl (wi64 (by omega) (by omega))) ?_
       refine RW_m ?_
       refine RW_nil ?_
       rw [flat_rep]
       rw [flat_rep] at hlen'
       rw [hq] at hj ⊢
       exact QW_rn (j + 1, gs', cs', rs') ⟨by simp only; omega, hlen'⟩ (by simp only; omega)
      ·replace hc6 := of_decide_eq_false hc6
       refine CW_exit ?_
       refine QW_exit_then ?_
       refine QW_exit_then ?_
       refine QW_exit_block ?_
       refine (QW_lv (ks := [14, 15, 18, 19, 20]) ?_)
       refine CW_seq ?_
       have hjq : j = q := by omega
       subst hjq
       have hst20 := Steps_rd (T := T) (four := four) (st := st) hp hno hok hbad hout (by omega) hN1 gI gs j cs en kk he1 (List.replicate j (stpR m)) rs0 (by simp) (by omega) (by intro x hx; rw [(List.mem_replicate.1 hx).2]; rfl) (by intro x hx y hy; rw [(List.mem_replicate.1 hx).2] at hy; exact List.all_eq_true.1 (show (stpR m).all Value.oneCell' = true from rfl) y hy) he2 hkk0 he3 (0, Obj.cells [Value.iface U u].toArray T0 fz0) (fun j => min (j * m) x1.nd.data.length) (fun i => ((x1.nd.data.drop (min (i * m) x1.nd.data.length)).take m)) (fun i => (min m (x1.nd.data.length - (min (i * m) x1.nd.data.length)))) (fun i => (if m ≤ x1.nd.data.length - (min (i * m) x1.nd.data.length) then 0 else 6)) (by simp) (fun S hS i hi => by rw [hx] at hS; exact read_all hS (by omega) (by omega) hU j i hi)
       refine CW_region ?_
       refine RW_m ?_
       refine RW_m ?_
       refine RW_m ?_
       refine RW_fx rfl rfl rfl (Fx_call ok_20 (vs := [.slice (some ⟨gI, 0, none⟩) (nmF4 four ns) (nmF4 four ns), nv en, .slice (some ⟨gs, 0, none⟩) j cs]) rfl (Pick.cons (by repeat (first | exact Rem.here _ _ | apply Rem.there)) (Pick.cons (by repeat (first | exact Rem.here _ _ | apply Rem.there)) (Pick.cons (by repeat (first | exact Rem.here _ _ | apply Rem.there)) (Pick.cons (by repeat (first | exact Rem.here _ _ | apply Rem.there)) (Pick.nil _))))) hst20) ?_
       rintro _ _ ⟨_, ⟨gR, cR, rR, rs, b2, cap2, r2, RB, rfl, hrsl, hoR, hall, rfl⟩, rfl⟩
       rcases gR with _ | gR
       ·exact absurd hoR.1 (by omega)
       simp only [List.cons_append, List.append_assoc, List.nil_append]
       refine RW_m ?_
       refine RW_l (Yl_extract (v := .slice (some ⟨gR, 0, none⟩) j cR) rfl rfl) ?_
       refine RW_l (Yl_extract (v := .slice (some ⟨b2, 0, none⟩) (nmF4 four ns) cap2) rfl rfl) ?_
       refine RW_l (Yl_extract (v := .bool true) rfl rfl) ?_
       refine RW_a ?_
       refine RW_a ?_
       refine RW_a ?_
       refine RW_lv (ks := [18, 19, 20, 21, 23]) ?_
       refine CW_seq ?_
       refine CW_sr ?_
       refine RW_m ?_
       refine RW_l (Yl_not rfl) ?_
       refine RW_m ?_
       refine RW_gy rfl rfl rfl (Yl.h (Yl_move rfl)) ?_
       refine RW_gy rfl rfl rfl (Yl.h (Yl_len rfl sl_54)) ?_
       refine RW_gy rfl rfl rfl (Yl.h (Yl_move rfl)) ?_
       refine RW_gy rfl rfl rfl (Yl.h (Yl_len rfl sl_51)) ?_
       refine RW_gy rfl rfl rfl (Yl.h (Yl_neqB false rfl rfl (decide_eq_false (fun h => h rfl)))) ?_
       refine RW_l (Yl_pick_f rfl rfl) ?_
       refine RW_lv (ks := [18, 19, 21, 103]) ?_
       refine CW_false rfl ?_
       refine (CW_skip (QW_lv (ks := [18, 19, 21]) ?_))
       refine CW_seq ?_
       refine CW_seq ?_
       have hrs3 : ∀ y ∈ rs, y.length = 3 := by
        intro y hy
        obtain ⟨a, ha, rfl⟩ := List.mem_iff_getElem.1 hy
        obtain ⟨dv, h1, -⟩ := hall a (by omega)
        rw [List.getD_eq_getElem?_getD, List.getElem?_eq_getElem ha] at h1
        rw [show rs[a] = _ from h1]; rfl
       refine CW_region ?_
       refine RW_m ?_
       refine RW_l (Yl_len rfl sl_54) ?_
       refine RW_m ?_
       refine RW_lv (ks := [18, 19, 104, 105, 106]) ?_
       refine CW_block ?_
       refine CW_lp (σ := Nat) (fun i => [(18, x1.slice), (19, (.int .i64 (m : Int))), (104, .slice (some ⟨gR, 0, none⟩) j cR), (105, nv j), (106, nv i)]) (fun _ => (b2, blk (bys (wrF4 four st ns) ++ r2) 5) :: (2, blk ps T) :: (0, Obj.cells [Value.iface U u].toArray T0 fz0) :: (gI, blk (bys (wrF4 four st ns)) 5) :: (gs, blk ((List.replicate j (stpR m)).flatten ++ rs0) 53) :: (gR, blk (rs.flatten ++ rR) 58) :: (RB ++ ((g, blk (nms ns ++ rn) 43) :: (nmsH ns ++ (D ++ F))))) (fun i => i ≤ j) (fun i => j - i) 0 (Nat.zero_le _) ?_
       rintro i hi
       refine CW_sr ?_
       refine RW_l (Yl_lss rfl rfl) ?_
       refine RW_lv (ks := [18, 19, 104, 105, 106, 107]) ?_
       refine CW_seq ?_
       refine CW_cond rfl (fun hc7 => ?_) (fun hc7 => ?_)
       ·replace hc7 := of_decide_eq_true hc7
        refine (CW_skip (QW_lv (ks := [18, 19, 104, 105, 106]) ?_))
        refine CW_seq ?_
        refine CW_block ?_
        refine CW_seq ?_
        obtain ⟨dv, hdv, hsl⟩ := hall i (by omega)
        have hdo : dv.oneCell' = true := hsl.one
        have hcut : ((x1.nd.data.drop (min (i * m) x1.nd.data.length)).take m) = (x1.nd.data.drop (min (i * m) x1.nd.data.length)).take ((min x1.nd.data.length ((min (i * m) x1.nd.data.length) + m)) - (min (i * m) x1.nd.data.length)) := by rw [show (min x1.nd.data.length ((min (i * m) x1.nd.data.length) + m)) - (min (i * m) x1.nd.data.length) = min m (x1.nd.data.length - (min (i * m) x1.nd.data.length)) by omega]; exact take_min.symm
        refine CW_region ?_
        refine RW_m ?_
        refine RW_l (Yl_indexN (b := gR) (off := 0) (i := i) (o' := i * 3) rfl rfl sl_54 (by omega) (by omega)) ?_
        refine RW_h (Yh_loadE (cs := [dv, nv (min m (x1.nd.data.length - (min (i * m) x1.nd.data.length))), nv (if m ≤ x1.nd.data.length - (min (i * m) x1.nd.data.length) then 0 else 6)]) rfl ag_58 (by repeat (first | exact List.Mem.head _ | apply List.Mem.tail)) (by rw [List.length_append, hoR.2]; omega) (by rw [chunk_at 3 _ _ _ hrs3 (by omega)]; exact hdv)) ?_
        refine RW_fx rfl rfl rfl (Fx_alloc (zs := zs_58) ze_58 rfl) ?_
        rintro _ _ ⟨b25, rfl, rfl⟩
        refine RW_a ?_
        refine RW_fx0 rfl rfl (Fx_storeA (b := b25) (off := 0) (l := zs_58) (T := 58) (cs := [dv, nv (min m (x1.nd.data.length - (min (i * m) x1.nd.data.length))), nv (if m ≤ x1.nd.data.length - (min (i * m) x1.nd.data.length) then 0 else 6)]) rfl rfl sz_58 (by intro u hu; simp only [List.mem_cons, List.not_mem_nil, or_false] at hu; rcases hu with hu | hu | hu <;> rw [hu]; exact hdo; rfl; rfl) (by repeat (first | exact Rep.here _ _ _ | apply Rep.there)) (Nat.le_refl 3)) ?_
        rintro _ _ rfl
        rw [spl_full _ _ (by rfl)]
        refine RW_lv (ks := [18, 19, 24, 25, 104, 105, 106]) ?_
        refine CW_sr ?_
        refine RW_m ?_
        refine RW_m ?_
        refine RW_l (Yl_mul (c := ((i * m : Nat) : Int)) rfl rfl (mulN (a := i) (b := m) (by have := Nat.mul_le_mul (show i ≤ 200 by omega) (show m ≤ 3000 by omega); omega))) ?_
        refine RW_m ?_
        refine RW_l (Yl_len rfl sl_23) ?_
        refine RW_l (Yl_minN (m := i * m) (n := x1.nd.data.length) rfl rfl) ?_
        refine RW_a ?_
        refine RW_lv (ks := [18, 19, 25, 26, 104, 105, 106]) ?_
        refine CW_sr ?_
        refine RW_m ?_
        refine RW_m ?_
        refine RW_m ?_
        refine RW_l (Yl_len rfl sl_23) ?_
        refine RW_m ?_
        refine RW_m ?_
        refine RW_l (Yl_add (c := (((min (i * m) x1.nd.data.length) + m : Nat) : Int)) rfl rfl (wi64 (by omega) (by omega))) ?_
        refine RW_l (Yl_minN (m := x1.nd.data.length) (n := (min (i * m) x1.nd.data.length) + m) rfl rfl) ?_
        refine RW_l (Yl_cutN (l := (min (i * m) x1.nd.data.length)) (h := (min x1.nd.data.length ((min (i * m) x1.nd.data.length) + m))) rfl rfl rfl sl_23 (by omega) (by omega)) ?_
        refine RW_a ?_
        refine RW_lv (ks := [18, 19, 25, 27, 104, 105, 106]) ?_
        refine CW_sr ?_
        refine RW_l (Yl_field rfl fo_58_0) ?_
        refine RW_h (Yh_ld (v := dv) sc_23) ?_
        refine RW_m ?_
        refine RW_fx rfl rfl rfl (Fx_callQ ok_21 (vs := [dv, x1.cut (min (i * m) x1.nd.data.length) (min x1.nd.data.length ((min (i * m) x1.nd.data.length) + m))]) (R := fun v => v = .bool true) rfl (pick_all _) (same_by _ dv (x1.cut (min (i * m) x1.nd.data.length) (min x1.nd.data.length ((min (i * m) x1.nd.data.length) + m))) ((x1.nd.data.drop (min (i * m) x1.nd.data.length)).take m) (hsl.by.more fun e he => (by repeat (first | exact List.mem_append_left _ he | apply List.mem_cons_of_mem))) (by rw [hcut]; exact (Nm.cut_by hx1 hxm (by omega) (by omega)).more fun e he => (by repeat (first | exact List.mem_append_right _ (List.mem_cons_of_mem _ (List.mem_append_left _ he)) | apply List.mem_cons_of_mem))))) ?_
        rintro _ _ ⟨rfl, rfl⟩
        refine RW_l (Yl_not rfl) ?_
        refine RW_m ?_
        refine RW_gy rfl rfl rfl (Yl.h (Yl_field rfl fo_58_1)) ?_
        refine RW_gy rfl rfl rfl (Yh_ld (v := nv (min m (x1.nd.data.length - (min (i * m) x1.nd.data.length)))) sc_2) ?_
        refine RW_gy rfl rfl rfl (Yl.h (Yl_move rfl)) ?_
        refine RW_gy rfl rfl rfl (Yl.h (Yl_len rfl sl_23)) ?_
        refine RW_gy rfl rfl rfl (Yl.h (Yl_neqB false rfl rfl (decide_eq_false (fun h => h (by omega))))) ?_
        refine RW_l (Yl_pick_f rfl rfl) ?_
        refine RW_m ?_
        refine RW_gy rfl rfl rfl (Yl.h (Yl_move rfl)) ?_
        refine RW_gy rfl rfl rfl (Yl.h (Yl_len rfl sl_23)) ?_
        refine RW_gy rfl rfl rfl (Yl.h (Yl_move rfl)) ?_
        refine RW_gy rfl rfl rfl (Yl.h (Yl_eql rfl rfl)) ?_
        refine RW_gy rfl rfl rfl (Yl.h (Yl_move rfl)) ?_
        refine RW_bool 143 rfl (fun hg8 => ?_) (fun hg8 => ?_)
        ·replace hg8 := of_decide_eq_true hg8
         refine RW_gy rfl rfl rfl (Yl.h (Yl_field rfl fo_58_2)) ?_
         refine RW_gy rfl rfl rfl (Yh_ld (v := nv (if m ≤ x1.nd.data.length - (min (i * m) x1.nd.data.length) then 0 else 6)) sc_3) ?_
         refine RW_gy rfl rfl rfl (Yl.h (Yl_neqB false rfl rfl (decide_eq_false (fun h => h (by rw [if_pos (by omega)]; rfl))))) ?_
         refine RW_gy rfl rfl rfl (Yl.h (Yl_pick_t rfl rfl)) ?_
         refine RW_l (Yl_pick_f rfl rfl) ?_
         refine RW_lv (ks := [18, 19, 104, 105, 106, 148]) ?_
         refine CW_false rfl ?_
         refine CW_skip ?_
         refine QW_normal_block ?_
         refine (QW_lv (ks := [18, 19, 104, 105, 106]) ?_)
         refine CW_region ?_
         refine RW_l (Yl_add (c := ((i + 1 : Nat) : Int)) rfl rfl (wi64 (by omega) (by omega))) ?_
         refine RW_m ?_
         refine RW_nil ?_
         refine QW_dropB (e := (b25, _)) (by repeat (first | exact Rem.here _ _ | apply Rem.there)) ?_
         exact QW_rn (i + 1) (by omega) (by omega)
        ·replace hg8 := of_decide_eq_false hg8
         refine RW_skip rfl rfl rfl ?_
         refine RW_skip rfl rfl rfl ?_
         refine RW_skip rfl rfl rfl ?_
         refine RW_gy rfl rfl rfl (Yl.h (Yl_pick_f rfl rfl)) ?_
         refine RW_l (Yl_pick_f rfl rfl) ?_
         refine RW_lv (ks := [18, 19, 104, 105, 106, 148]) ?_
         refine CW_false rfl ?_
         refine CW_skip ?_
         refine QW_normal_block ?_
         refine (QW_lv (ks := [18, 19, 104, 105, 106]) ?_)
         refine CW_region ?_
         refine RW_l (Yl_add (c := ((i + 1 : Nat) : Int)) rfl rfl (wi64 (by omega) (by omega))) ?_
         refine RW_m ?_
         refine RW_nil ?_
         refine QW_dropB (e := (b25, _)) (by repeat (first | exact Rem.here _ _ | apply Rem.there)) ?_
         exact QW_rn (i + 1) (by omega) (by omega)
       ·replace hc7 := of_decide_eq_false hc7
        refine CW_exit ?_
        refine QW_exit_then ?_
        refine QW_exit_then ?_
        refine QW_exit_block ?_
        refine (QW_lv (ks := []) ?_)
        refine CW_sr ?_
        refine RW_a ?_
        refine RW_lv (ks := [12]) ?_
        refine CW_ret ?_
        first
         | exact QW_ret1 rfl rfl ((2, blk ps T) :: (0, Obj.cells [Value.iface U u].toArray T0 fz0) :: D) ⟨rfl, rfl⟩ (Prm.nil _)
         | (refine QW_sub (H' := (2, blk ps T) :: (0, Obj.cells [Value.iface U u].toArray T0 fz0) :: (D ++ F)) (.cons _ (.cons_cons _ (.cons_cons _ (.cons _ (List.sublist_append_right _ _))))) ?_; exact QW_ret1 rfl rfl ((2, blk ps T) :: (0, Obj.cells [Value.iface U u].toArray T0 fz0) :: D) ⟨rfl, rfl⟩ (Prm.nil _))
         | (refine QW_sub (H' := (2, blk ps T) :: (0, Obj.cells [Value.iface U u].toArray T0 fz0) :: (D ++ F)) (.cons _ (.cons_cons _ (.cons_cons _ (.cons _ (.cons _ (.cons _ (List.Sublist.trans (.cons _ (List.sublist_append_right _ _)) (List.sublist_append_right _ _)))))))) ?_; exact QW_ret1 rfl rfl ((2, blk ps T) :: (0, Obj.cells [Value.iface U u].toArray T0 fz0) :: D) ⟨rfl, rfl⟩ (Prm.nil _))

end Go.Proofs.YtgoddcicbpjknaaDoor

/-! FnRead, as its card states it: whatever the numbers, the bytes, the choice, the step, the turn and the size, the call returns true and leaves all that was there as it was. -/
set_option maxRecDepth 100000
namespace Go.Proofs.YtgoddcicbpjknaaDoor.fnRead
open Go
open Cfb
open Go.ChangeShapes Go.WideShapes Go.ChangeAt Go.RowKit Go.Clock
theorem contract (H : Type) (enc : TypeId × Value → H) (W : World) (base : Nat) (args : Array Value) (ds gs : List (DataW H)) (before : List MemPlace)
    (hval : ∀ (j : Nat) t v, Tryd.f7.params[j]? = some t → args[j]? = some v → Value.okWide Tryd.prog W .any base t v)
    (hW : DataW.Whole enc Tryd.prog Tryd.f7.params.toList Rows.fnReadSpec.vars false W args.toList ds gs before) (hL : laidMetH Tryd.prog Rows.fnReadRow.laid W) (hS : W.ShapedOpen Tryd.prog) :
    Calls Tryd.prog 7 args W fun e W' => ∃ v, e = .returned v ∧ W'.os = W.os ∧ Rows.fnReadSpec.post enc Tryd.prog Tryd.f7 false true false false W args v W' := by
  have hW' := hW
  obtain ⟨p, q, hA0, hV, rfl, hfz, hnd⟩ := hW
  have hA : DataW.TrodAll enc Tryd.prog W 0 (fun _ => true) true Tryd.f7.params.toList args.toList ds p := hA0
  have hlt : ∀ x ∈ p, x.block < W.heap.size := fun x hx => by simpa using hW'.lt x (List.mem_append_left _ hx)
  have again := fun W' hb => trodAll_again (W' := W') hb _ _ _ _ hA (by rw [Tryd.params7]; kernel_rfl) hlt
  rw [Tryd.params7] at hA hval
  obtain ⟨v0, vs0, d0, ds0, p0, q0, hargs, rfl, rfl, h0, r0⟩ := trodAll_cons hA
  obtain ⟨v1, vs1, d1, ds1, p1, q1, rfl, rfl, rfl, h1, r1⟩ := trodAll_cons r0
  obtain ⟨v2, vs2, d2, ds2, p2, q2, rfl, rfl, rfl, h2, r2⟩ := trodAll_cons r1
  obtain ⟨v3, vs3, d3, ds3, p3, q3, rfl, rfl, rfl, h3, r3⟩ := trodAll_cons r2
  obtain ⟨v4, vs4, d4, ds4, p4, q4, rfl, rfl, rfl, h4, r4⟩ := trodAll_cons r3
  obtain ⟨v5, vs5, d5, ds5, p5, q5, rfl, rfl, rfl, h5, r5⟩ := trodAll_cons r4
  obtain ⟨rfl, rfl, rfl⟩ := trodAll_nil r5
  obtain rfl : args = #[v0, v1, v2, v3, v4, v5] := by cases args; simp_all
  obtain ⟨rfl, rfl⟩ := trodVars_none hV
  obtain ⟨a2, rfl, rfl, rfl⟩ := open_bool Tryd.underlying4 (hval 2 4 v2 rfl rfl) h2
  obtain ⟨a3, rfl, rfl, rfl, w3⟩ := open_int Tryd.underlying5 (hval 3 5 v3 rfl rfl) h3
  obtain ⟨a4, rfl, rfl, rfl, w4⟩ := open_int Tryd.underlying5 (hval 4 5 v4 rfl rfl) h4
  obtain ⟨a5, rfl, rfl, rfl, w5⟩ := open_int Tryd.underlying47 (hval 5 47 v5 rfl rfl) h5
  obtain ⟨T, hT⟩ := tab_block (props_tab2 hL) hS
  obtain ⟨U, u, T0, hU, hE⟩ := eof_block hL hS
  obtain ⟨s0, n0, c0, rfl, hc0, hs0⟩ := open_nums un_22 un_67 cells67 (hval 0 22 v0 rfl rfl) h0
  obtain ⟨s1, n1, c1, rfl, hc1, hs1⟩ := open_bytes (hval 1 23 v1 rfl rfl) h1
  obtain ⟨x3, rfl, b3⟩ := u8_nat w3
  obtain ⟨x4, rfl, b4⟩ := u8_nat w4
  obtain ⟨x5, rfl, b5⟩ := u16_nat w5
  have fin : Calls Tryd.prog 7 #[.slice s0 n0 c0, .slice s1 n1 c1, .bool a2, .int .u8 (x3 : Int), .int .u8 (x4 : Int), .int .u16 (x5 : Int)] W fun e w' => e = .returned (.bool true) ∧ Grown W w' ∧ Below W.heap.size W w' := by
    obtain ⟨N1, y1, z1, k1⟩ := nums_end (W := W) (L := [(2, blk propsV T), (0, blk [.iface U u] T0)]) (by intro p hp; simp only [List.mem_cons, List.not_mem_nil, or_false] at hp; rcases hp with rfl | rfl; exact hT; exact hE) (by simp) hs0
    obtain ⟨N2, y2, z2, k2⟩ := bytes_end y1 z1 hs1
    have e0 : ([(2, blk propsV T), (0, blk [.iface U u] T0)] ++ N1) ++ N2 = (2, blk propsV T) :: (0, Obj.cells [Value.iface U u].toArray T0 (0, 0)) :: (N1 ++ N2) := by simp
    have k1' := k1.mono (List.sublist_append_left _ N2)
    rw [e0] at y2 z2 k2 k1'
    exact (FnRead_ct n0 c0 n1 c1 x3 x4 s0 s1 a2 b3 b4 x5 b5 propsV T propsV_ok U u hU T0 (0, 0) (N1 ++ N2) k1' k2 hc0).rowB y2 z2
  refine fin.mono fun e W' ⟨he, hg, hb⟩ => ?_
  subst he
  exact ⟨_, rfl, hg.1.1, ⟨_, _, _, [], _, [], hW', trodAll_cons_mk (shut_bool Tryd.underlying4 _) trodAll_mk0, again W' hb, rfl, hg.frame _, fun h => by cases h⟩⟩
/-- A world for the witness. -/
noncomputable def laidWorld (os : Os) : World := World.laidAll Tryd.prog os Rows.fnReadRow.laid
theorem laid_met (os : Os) : laidMet Tryd.prog Rows.fnReadRow.laid ((laidWorld os).forCall (fun _ _ => 0) ⟨#[], #[.slice none 0 0, .slice none 0 0, .bool false, .int .u8 0, .int .u8 0, .int .u16 0], []⟩).memory := laidMet_laidAll _ (by kernel_rfl) (by kernel_rfl)
theorem reads (os : Os) {H : Type} (enc : TypeId × Value → H) : ∃ places, DataW.whole enc Tryd.prog ((laidWorld os).forCall (fun _ _ => 0) ⟨#[], #[.slice none 0 0, .slice none 0 0, .bool false, .int .u8 0, .int .u8 0, .int .u16 0], []⟩).memory Tryd.f7.params.toList Rows.fnReadSpec.vars false (#[.slice none 0 0, .slice none 0 0, .bool false, .int .u8 0, .int .u8 0, .int .u16 0] : Array Value).toList 8 = some ([.nil, .nil, .lit (.bool false), .lit (.int .u8 0), .lit (.int .u8 0), .lit (.int .u16 0)], [], places) :=
  ⟨[], by kernel_rfl⟩
theorem lifted (os : Os) (started : os.Started) (H : Type) (enc : TypeId × Value → H) (F : Stop.Interp) :
    ReturnsInHanded {} Tryd.checked os 7 .any ((OpenSpec.ofChange Rows.fnReadSpec).preRow enc Tryd.prog Tryd.f7 Rows.fnReadRow.domain false Rows.fnReadRow.laid) (((OpenSpec.ofChange Rows.fnReadSpec).at F).post enc Tryd.prog Tryd.f7 false true false false) := by
  obtain ⟨places, hx⟩ := reads os enc
  refine returnsInHanded_of_row (C := Tryd.checked) (s := OpenSpec.ofChange Rows.fnReadSpec) own started (by kernel_rfl) Tryd.func7
    (witness_row_at (enc := enc) (C := Tryd.checked) false (laidWorld os) #[.slice none 0 0, .slice none 0 0, .bool false, .int .u8 0, .int .u8 0, .int .u16 0] (World.laidAll_os _ _ _) (by kernel_rfl) (by kernel_rfl) (by kernel_rfl)
      (OpenSpec.preRow_of_cond 8 hx (by kernel_rfl) (fun k hk => by cases hk) (by kernel_rfl) (laid_met os))) ?_
  intro W base args ds gs before hval hW _ _ _ hL hS _
  exact (contract H enc W base args ds gs before hval hW hL hS).mono fun _ _ ⟨v, he, _, hp⟩ => ⟨v, he, hp⟩
/-- The same, where the row lets time pass. -/
theorem liftedT (os : Os) (started : os.Started) (H : Type) (enc : TypeId × Value → H) (F : Stop.Interp) :
    ReturnsInHanded { calm := true } Tryd.checked os 7 .any (fun w args => (Rows.fnReadSpec.pre enc Tryd.prog Tryd.f7 [] false w args ∧ laidMetH Tryd.prog Rows.fnReadRow.laid w) ∧ sizedMet enc Tryd.prog Tryd.f7 (OpenSpec.ofChange Rows.fnReadSpec) false w args)
      ((OpenSpec.ofChange Rows.fnReadSpec).postWith enc Tryd.prog Tryd.f7 F (outsideKept [.timePasses]) false true false) := by
  refine returns_of_change (C := Tryd.checked) (X := fun w _ => laidMetH Tryd.prog Rows.fnReadRow.laid w) (fun _ _ _ hh h => h.of_heap hh) own started (by kernel_rfl) Tryd.func7
    (witness_at (enc := enc) (C := Tryd.checked) (X := fun w _ => laidMetH Tryd.prog Rows.fnReadRow.laid w) (World.laidAll Tryd.prog os Rows.fnReadRow.laid) #[.slice none 0 0, .slice none 0 0, .bool false, .int .u8 0, .int .u8 0, .int .u16 0] 8 (World.laidAll_os _ _ _) (World.shaped_of_ZipB (by kernel_rfl) (by kernel_rfl)) (by kernel_rfl) (by kernel_rfl) (by kernel_rfl)
      (by rw [MakeChecks.laidMetH_plain _ _ _ (by kernel_rfl)]; exact laidMet_laidAll _ (by kernel_rfl) (by kernel_rfl))) ?_
  intro W base args ds gs before hval hW _ _ hL hS
  refine (contract H enc W base args ds gs before hval hW hL hS).mono ?_
  rintro e W' ⟨v, he, ho, hp⟩
  have hos : { W' with os := W.os } = W' := by rw [← ho]
  refine ⟨v, he, by rw [hos]; exact hp, by rw [ho]; exact Later.refl _⟩
theorem said : Rows.FnReadSaid := by
  first
    | exact OpenClaim.holds_of_cond 7 Tryd.f7 rfl rfl rfl rfl rfl rfl rfl ⟨rfl, rfl, rfl, rfl, rfl⟩ rfl rfl rfl rfl rfl (by kernel_rfl) Tryd.func7 (by kernel_rfl)
        (of_decide_eq_true (by kernel_rfl)) (by unfold Func.isWrapper; first | (rw [if_pos (by decide +kernel)]; kernel_rfl) | (rw [if_neg (by decide +kernel)]; exact ⟨rfl, rfl⟩))
        (fun os started H enc _ F => by rw [OpenClaim.pre_eq_preRow]; exact lifted os started H enc F)
    | exact holds_of_wide_time 7 Tryd.f7 rfl rfl rfl rfl rfl rfl rfl ⟨rfl, rfl, rfl, rfl, rfl⟩ rfl rfl rfl rfl rfl (by kernel_rfl) Tryd.func7 (by kernel_rfl)
        (of_decide_eq_true (by kernel_rfl)) (by unfold Func.isWrapper; first | (rw [if_pos (by decide +kernel)]; kernel_rfl) | (rw [if_neg (by decide +kernel)]; exact ⟨rfl, rfl⟩))
        (fun os started H enc _ F => liftedT os started H enc F)
theorem plain (f : FuncId) (fn : Func) (hf : Tryd.pinned.checked.prog.funcNamed "loop.example/pub-g03453/laws.FnRead" = some f) (hfn : Tryd.pinned.checked.prog.funcs[f]? = some fn) :
    true = Tryd.pinned.checked.prog.looks [] ∧ ∀ (j : Nat) t, fn.params[j]? = some t → Tryd.pinned.checked.prog.wantsStandIn t = false := by
  obtain rfl : f = 7 := Option.some.inj ((show Tryd.prog.funcNamed "loop.example/pub-g03453/laws.FnRead" = some 7 by kernel_rfl).symm.trans hf) |>.symm
  obtain rfl : fn = Tryd.f7 := (Option.some.inj (Tryd.func7.symm.trans hfn)).symm
  refine ⟨by kernel_rfl, fun j t ht => ?_⟩
  rw [Tryd.params7] at ht
  have hm : t ∈ [22, 23, 4, 5, 5, 47] := by simpa using Array.mem_of_getElem? ht
  have hall : ([22, 23, 4, 5, 5, 47].all fun u => !Tryd.prog.wantsStandIn u) = true := by kernel_rfl
  exact (show Tryd.prog.wantsStandIn t = false by simpa using List.all_eq_true.1 hall t hm)
theorem card : Rows.FnReadCardSaid :=
  Claim7.holds_tied_plain_at .later [] _ _ _ _ said (fun _ h => by cases h) (by kernel_rfl) (fun _ h => by cases h) fnRead_row_tie rfl ⟨rfl, rfl⟩ (by kernel_rfl) rfl plain (by kernel_rfl)
#print axioms card
end Go.Proofs.YtgoddcicbpjknaaDoor.fnRead
