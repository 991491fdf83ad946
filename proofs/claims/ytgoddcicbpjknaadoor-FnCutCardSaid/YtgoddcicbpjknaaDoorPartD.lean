/- What FnCut's card leans on: walks of the program's functions, and plain facts on files (part 4). -/
import Derived.Test.YtgoddcicbpjknaaDoorPartC
import Derived.Lib.LaidU8
import Derived.ChangeKeysEq
import Derived.Laws.BytesString
set_option maxRecDepth 20000
set_option maxHeartbeats 4000000

namespace Go.Proofs.YtgoddcicbpjknaaDoor
open Go
open Cfb

theorem few_ct (p q : Option Addr) (n c m d : Nat) : Ct Tryd.prog 13 [.slice p n c, .slice q m d] [] (fun v h => v = .bool (decide (n ≤ 100 ∧ m ≤ 1000)) ∧ h = []) := by
 refine Ct_of Tryd.func13 rfl Tryd.ntmps13 rfl ?_
 intro E F
 simp only [numL, List.nil_append, List.cons_append]
 refine CW_sr ?_
 refine RW_a ?_
 refine RW_lv [0,1] ?_
 refine CW_sr ?_
 refine RW_m ?_
 refine RW_l (Yl_len rfl sl_22) ?_
 refine RW_l (Yl_leq rfl rfl) ?_
 refine RW_m ?_
 refine RW_bool 8 rfl (fun hg1 => ?_) (fun hg1 => ?_)
 ·replace hg1 := of_decide_eq_true hg1
  refine RW_gy rfl rfl rfl (Yl.h (Yl_move rfl)) ?_
  refine RW_gy rfl rfl rfl (Yl.h (Yl_len rfl sl_23)) ?_
  refine RW_gy rfl rfl rfl (Yl.h (Yl_leq rfl rfl)) ?_
  refine RW_l (Yl_pick_t rfl rfl) ?_
  refine RW_a ?_
  refine RW_lv [4] ?_
  refine CW_ret ?_
  exact QW_ret1 rfl rfl [] ⟨by congr 1; apply Bool.eq_iff_iff.2; simp only [decide_eq_true_eq]; first | (constructor <;> intro h <;> omega) | (simp; omega), rfl⟩ (Prm.nil _)
 replace hg1 := of_decide_eq_false hg1
 refine RW_skip rfl rfl rfl ?_
 refine RW_skip rfl rfl rfl ?_
 refine RW_skip rfl rfl rfl ?_
 refine RW_l (Yl_pick_f rfl rfl) ?_
 refine RW_a ?_
 refine RW_lv [4] ?_
 refine CW_ret ?_
 exact QW_ret1 rfl rfl [] ⟨by congr 1; apply Bool.eq_iff_iff.2; simp only [decide_eq_true_eq]; first | (constructor <;> intro h <;> omega) | (simp; omega), rfl⟩ (Prm.nil _)
theorem less_ct (s r : ByteArray) : Ct Tryd.prog 22 [.string s, .string r] [] (fun v h => (∃ b, v = .bool b) ∧ h = []) := by
 refine Ct_of Tryd.func22 rfl Tryd.ntmps22 rfl ?_
 intro E F
 simp only [numL, List.nil_append, List.cons_append]
 refine CW_sr ?_
 refine RW_a ?_
 refine RW_lv [0,1] ?_
 refine CW_seq ?_
 refine CW_sr ?_
 refine RW_m ?_
 refine RW_l (Yl_lenS rfl st_9) ?_
 refine RW_m ?_
 refine RW_l (Yl_lenS rfl st_9) ?_
 refine RW_l (Yl_neq rfl rfl) ?_
 refine RW_lv [0,1,9] ?_
 refine CW_cd rfl (fun hc1 => ?_) (fun hc1 => ?_)
 ·refine CW_sr ?_
  refine RW_m ?_
  refine RW_l (Yl_lenS rfl st_9) ?_
  refine RW_m ?_
  refine RW_l (Yl_lenS rfl st_9) ?_
  refine RW_l (Yl_lss rfl rfl) ?_
  refine RW_a ?_
  refine RW_lv [4] ?_
  refine CW_ret ?_
  refine QW_ret_then ?_
  exact QW_ret1 rfl rfl [] ⟨⟨_, rfl⟩, rfl⟩ (Prm.nil _)
 refine (CW_skip (QW_lv [0,1] ?_))
 refine CW_sr ?_
 refine RW_m ?_
 refine RW_m ?_
 refine RW_l (Yl_strLess rfl rfl) ?_
 refine RW_a ?_
 refine RW_lv [4] ?_
 refine CW_ret ?_
 exact QW_ret1 rfl rfl [] ⟨⟨_, rfl⟩, rfl⟩ (Prm.nil _)
theorem shaped0_ct (v0 : Value) (p : Option Addr) (c : Nat) (at_ : Int) (nu : Value) : Ct Tryd.prog 23 [v0, .slice p 0 c, nu, .int .i64 at_] [] (fun v h => v = iv (-1) ∧ h = []) := by
 refine Ct_of Tryd.func23 rfl Tryd.ntmps23 rfl ?_
 intro E F
 simp only [numL, List.nil_append, List.cons_append]
 refine CW_sr ?_
 refine RW_a ?_
 refine RW_lv [0,1,2,3] ?_
 refine CW_seq ?_
 refine CW_sr ?_
 refine RW_m ?_
 refine RW_l (Yl_len rfl sl_29) ?_
 refine RW_l (Yl_eql rfl rfl) ?_
 refine RW_lv [0,1,2,3,13] ?_
 refine CW_cd rfl (fun hc1 => ?_) (fun hc1 => ?_)
 ·refine CW_sr ?_
  refine RW_a ?_
  refine RW_lv [8] ?_
  refine CW_ret ?_
  refine QW_ret_then ?_
  exact QW_ret1 rfl rfl [] ⟨rfl, rfl⟩ (Prm.nil _)
 exact absurd rfl hc1
def SCt (g cl bp nN cN : Nat) (pN : Option Addr) (r lp : List Value) (D : Heap) (n : Nat) : Prop :=
 ∀ (ns : List Nm) (pl : List Nat) (p : Option Addr) (m c : Nat) (at_ : Nat), pl.length = m → m ≤ n → m ≤ c → pl.Nodup → (∀ k ∈ pl, k < ns.length) → ns.length ≤ 100 → (at_ + 2) * 2 ^ n ≤ 1000000000000 → (m = 0 ∨ ∃ o, p = some ⟨bp, o, none⟩ ∧ ∀ i, i < m → lp[o + i]? = some (nv (pl.getD i 0))) →
  Ct Tryd.prog 23 [.slice (some ⟨g, 0, none⟩) ns.length cl, .slice p m c, .slice pN nN cN, nv at_] ((g, blk (nms ns ++ r) 43) :: (bp, blk lp 3) :: D) (fun v q => ∃ ns' top, v = iv top ∧ Shp ns ns' pl top ∧ q = (g, blk (nms ns' ++ r) 43) :: (bp, blk lp 3) :: D)
theorem shaped_step (g cl bp nN cN : Nat) (pN : Option Addr) (r lp : List Value) (D : Heap) (hnum : NumOk D pN nN) (hnN : nN ≤ 1000000000) (n : Nat) (ih : SCt g cl bp nN cN pN r lp D n)
  (ns : List Nm) (pl : List Nat) (o m c : Nat) (at_ : Nat) (hlm : pl.length = m) (hmn : m ≤ n + 1) (hmc : m ≤ c) (hnd : pl.Nodup) (hpl : ∀ k ∈ pl, k < ns.length) (hns : ns.length ≤ 100) (hat : (at_ + 2) * 2 ^ (n + 1) ≤ 1000000000000) (hm0 : 1 ≤ m) (hmb : m ≤ 100) (hatb : at_ ≤ 1000000000000) (hlp : ∀ i, i < m → lp[o + i]? = some (nv (pl.getD i 0))) :
  Ct Tryd.prog 23 [.slice (some ⟨g, 0, none⟩) ns.length cl, .slice (some ⟨bp, o, none⟩) m c, .slice pN nN cN, nv at_] ((g, blk (nms ns ++ r) 43) :: (bp, blk lp 3) :: D) (fun v q => ∃ ns' top, v = iv top ∧ Shp ns ns' pl top ∧ q = (g, blk (nms ns' ++ r) 43) :: (bp, blk lp 3) :: D) := by
 refine Ct_of Tryd.func23 rfl Tryd.ntmps23 rfl ?_
 intro E F
 simp only [numL, List.nil_append, List.cons_append]
 refine CW_sr ?_
 refine RW_a ?_
 refine RW_lv [0,1,2,3] ?_
 refine CW_seq ?_
 refine CW_sr ?_
 refine RW_m ?_
 refine RW_l (Yl_len rfl sl_29) ?_
 refine RW_l (Yl_eql rfl rfl) ?_
 refine RW_lv [0,1,2,3,13] ?_
 refine CW_cd rfl (fun hc1 => ?_) (fun hc1 => ?_)
 ·exfalso
  omega
 refine (CW_skip (QW_lv [0,1,2,3] ?_))
 refine CW_seq ?_
 obtain ⟨y0, hy0, hy0b⟩ := wrap_nat (IntKind.u32.wrap (at_ : Int) * 2654435761)
 refine CW_region ?_
 refine RW_m ?_
 refine RW_l (Yl_conv (c := IntKind.u32.wrap (at_ : Int)) rfl in_3 in_67 rfl) ?_
 refine RW_l (Yl_mul (c := (y0 : Int)) rfl rfl hy0) ?_
 refine RW_l (Yl_shr (c := ((y0 / 128 : Nat) : Int)) rfl rfl om_ (by show (y0 : Int).fdiv 128 = _; rw [Int.fdiv_eq_ediv_of_nonneg _ om_]; omega)) ?_
 refine RW_a ?_
 refine RW_lv [0,1,2,3,9] ?_
 refine CW_cut (σ := Nat) (fun q => [(0, .slice (some ⟨g, 0, none⟩) ns.length cl), (1, .slice (some ⟨bp, o, none⟩) m c), (2, .slice pN nN cN), (3, nv at_), (9, uv q)]) (fun _ => (g, blk (nms ns ++ r) 43) :: (bp, blk lp 3) :: (D ++ F)) (fun q => q ≤ 4294967295) ?_ ?_
 ·skip
  refine CW_seq ?_
  obtain ⟨z0, hz0⟩ : ∃ z0, z0 = y0 / 128 := ⟨_, rfl⟩
  rw [← hz0]
  have hz0b : z0 ≤ 4294967295 := by omega
  refine CW_region ?_
  refine RW_m ?_
  refine RW_l (Yl_len rfl sl_22) ?_
  refine RW_l (Yl_gtr rfl rfl) ?_
  refine RW_lv [0,1,2,3,9,20] ?_
  refine CW_cd rfl (fun hc2 => ?_) (fun hc2 => ?_)
  ·rcases hnum with h0 | ⟨bn, on, lN, Tn, fzn, rfl, hmN, hxN⟩
   ·exfalso; omega
   have hatn : at_ % nN < nN := Nat.mod_lt _ om_
   obtain ⟨xq, hxq1, hxq⟩ := hxN (at_ % nN) hatn
   obtain ⟨z2, hz2, hz2b⟩ := wrap_nat ((z0 : Int) + (xq : Int))
   refine CW_region ?_
   refine RW_m ?_
   refine RW_m ?_
   refine RW_m ?_
   refine RW_m ?_
   refine RW_l (Yl_len rfl sl_22) ?_
   refine RW_l (Yl_rem (c := ((at_ % nN : Nat) : Int)) rfl rfl om_ (remN at_ nN)) ?_
   refine RW_l (Yl_indexN (b := bn) (off := on) (i := at_ % nN) (o' := on + at_ % nN) rfl rfl sl_22 hatn om_) ?_
   refine RW_h (Yh_load (v := uv xq) rfl sc_67 ((show List.Sublist D _ by repeat (first | exact List.sublist_append_left _ _ | apply List.Sublist.cons)).subset hmN) hxq) ?_
   refine RW_l (Yl_add (c := (z2 : Int)) rfl rfl hz2) ?_
   refine RW_a ?_
   refine RW_nil ?_
   first
    | exact QW_cut z2 hz2b (by repeat (first | exact Prm.nil _ | exact Rem.here _ _ | apply Rem.there | apply Prm.cons)) (.cons rfl (.cons rfl (.cons rfl (.cons rfl (.cons rfl .nil)))))
    | exact QW_cut z0 hz0b (by repeat (first | exact Prm.nil _ | exact Rem.here _ _ | apply Rem.there | apply Prm.cons)) (.cons rfl (.cons rfl (.cons rfl (.cons rfl (.cons rfl .nil)))))
  refine CW_skip ?_
  first
   | exact QW_cut z2 hz2b (by repeat (first | exact Prm.nil _ | exact Rem.here _ _ | apply Rem.there | apply Prm.cons)) (.cons rfl (.cons rfl (.cons rfl (.cons rfl (.cons rfl .nil)))))
   | exact QW_cut z0 hz0b (by repeat (first | exact Prm.nil _ | exact Rem.here _ _ | apply Rem.there | apply Prm.cons)) (.cons rfl (.cons rfl (.cons rfl (.cons rfl (.cons rfl .nil)))))
 rintro z hz
 refine CW_seq ?_
 obtain ⟨k, hk⟩ : ∃ k, k = z % m := ⟨_, rfl⟩
 have hkm : k < m := by rw [hk]; exact Nat.mod_lt _ om_
 have hB2 : (2 * at_ + 2 + 2) * 2 ^ n ≤ 1000000000000 := by
  rw [show 2 * at_ + 2 + 2 = (at_ + 2) * 2 by omega, Nat.mul_assoc, Nat.mul_comm 2, ← Nat.pow_succ]; exact hat
 have hA2 : (2 * at_ + 1 + 2) * 2 ^ n ≤ 1000000000000 := Nat.le_trans (Nat.mul_le_mul_right _ om_) hB2
 refine CW_region ?_
 refine RW_m ?_
 refine RW_m ?_
 refine RW_l (Yl_len rfl sl_29) ?_
 refine RW_l (Yl_conv (c := (m : Int)) rfl in_3 in_67 (wu32 om_ om_)) ?_
 refine RW_l (Yl_rem (c := (k : Int)) rfl rfl om_ (by rw [hk]; exact remN z m)) ?_
 refine RW_l (Yl_conv (c := (k : Int)) rfl in_67 in_3 (wi64 om_ om_)) ?_
 refine RW_a ?_
 refine RW_lv [0,1,2,3,10] ?_
 refine CW_seq ?_
 obtain ⟨j, hjj⟩ : ∃ j, j = pl.getD k 0 := ⟨_, rfl⟩
 have hj : lp[o + k]? = some (nv j) := by rw [hjj]; exact hlp k hkm
 have hsp : pl = pl.take k ++ j :: pl.drop (k + 1) := by
  have e := List.take_append_drop k pl
  rw [List.drop_eq_getElem_cons om_] at e
  rw [hjj, List.getD_eq_getElem?_getD, List.getElem?_eq_getElem om_]; exact e.symm
 have hjm : j ∈ pl := by rw [hsp]; simp
 have hjn := hpl j hjm
 rw [hsp] at hnd
 have hnd2 := List.nodup_append.1 hnd
 have hnd3 := List.nodup_cons.1 hnd2.2.1
 have hja : j ∉ pl.take k := fun hx => hnd2.2.2 j hx j (by simp) rfl
 have hjb : j ∉ pl.drop (k + 1) := hnd3.1
 have hab : ∀ x ∈ pl.take k, x ∉ pl.drop (k + 1) := fun x hx hy => hnd2.2.2 x hx x (by simp [hy]) rfl
 have hA := ih ns (pl.take k) (some ⟨bp, o, none⟩) k c (2 * at_ + 1) (by simp; omega) om_ om_ hnd2.1 (fun x hx => hpl x (List.mem_of_mem_take hx)) hns hA2 (.inr ⟨o, rfl, fun i hi => by rw [hlp i om_]; simp [List.getD_eq_getElem?_getD, List.getElem?_take, hi]⟩)
 refine CW_draw [16] [(bp, blk lp 3)] mixed sub_ ?_
 refine RD_m 0 ?_
 refine RD_m 1 ?_
 refine RD_m 2 ?_
 refine RD_l 3 rfl (Yl_indexN (b := bp) (off := o) (i := k) (o' := o + k) rfl rfl sl_29 om_ om_) ?_
 refine RD_m 5 ?_
 refine RD_m 6 ?_
 refine RD_m 7 ?_
 refine RD_l 8 rfl (Yl_cutHN (h := k) rfl rfl sl_29 om_) ?_
 refine RD_m 9 ?_
 refine RD_m 10 ?_
 refine RD_l 11 rfl (Yl_mul (c := ((2 * at_ : Nat) : Int)) rfl rfl (mulN (a := 2) (b := at_) om_)) ?_
 refine RD_l 12 rfl (Yl_add (c := ((2 * at_ + 1 : Nat) : Int)) rfl rfl (wi64 om_ om_)) ?_
 refine RD_h (i := 4) #[true, true, true, true, false, true, true, true, true, true, true, true, true, true, false, false, false] rfl rfl rfl rfl kr_ (fun _ _ _ h => h) (Yh_lh (v := nv j) sc_3 hj) ?_
 refine RD_o 13 ?_
 refine RO_fx rfl rfl rfl rfl (Fx_call ok_23 (vs := [.slice (some ⟨g, 0, none⟩) ns.length cl, .slice (some ⟨bp, o, none⟩) k c, .slice pN nN cN, nv (2 * at_ + 1)]) rfl (Pick.cons rem_ (Pick.cons rem_ (pick_app D F))) hA) ?_
 rintro _ _ ⟨_, ⟨n1, ta, rfl, hSa, rfl⟩, rfl⟩
 simp only [List.cons_append]
 have hla := hSa.len
 refine ⟨Or.inr sub_, ?_⟩
 refine RD_l 14 rfl (Yl_indexN (b := g) (off := 0) (i := j) (o' := j * 28) rfl rfl sl_25 om_ om_) ?_
 refine RD_f 15 fo_43_3 ?_
 refine RD_o 16 ?_
 refine RO_fx0 rfl rfl rfl (Fx_store (v := iv ta) (b := g) (off := j * 28 + 3) rfl rfl sz_3 rfl rep_ (by rw [List.length_append, length_nms]; omega)) ?_
 rintro _ _ rfl
 refine ⟨Or.inl kr_, ?_⟩
 refine (RD_done kr_ (QW_lv [0,1,2,3,10] ?_))
 refine CW_seq ?_
 have hset1 := nms_set n1 j 3 (iv ta) ((n1.getD j default).turn ta (rtF n1 j) (chdF n1 j)) r (by rw [hSa.len]; exact hjn) om_ rfl
 rw [hset1]
 have hl1 : ns.length = (n1.set j ((n1.getD j default).turn ta (rtF n1 j) (chdF n1 j))).length := by rw [List.length_set]; exact hSa.len.symm
 have hBc := ih (n1.set j ((n1.getD j default).turn ta (rtF n1 j) (chdF n1 j))) (pl.drop (k + 1)) (some ⟨bp, if c = k + 1 then o else o + (k + 1) * 1, none⟩) (m - (k + 1)) (c - (k + 1)) (2 * at_ + 2) (by simp; omega) om_ om_ hnd3.2 (fun x hx => by rw [← hl1]; exact hpl x (List.mem_of_mem_drop hx)) om_ hB2 (by rcases Nat.eq_zero_or_pos (m - (k + 1)) with h0 | h0; exact .inl h0; exact .inr ⟨o + (k + 1), by rw [if_neg om_, Nat.mul_one], fun i hi => by rw [show o + (k + 1) + i = o + (k + 1 + i) by omega, hlp (k + 1 + i) om_]; simp [List.getD_eq_getElem?_getD, List.getElem?_drop]⟩)
 rw [← hl1] at hBc
 refine CW_draw [17] [(bp, blk lp 3)] mixed sub_ ?_
 refine RD_m 0 ?_
 refine RD_m 1 ?_
 refine RD_m 2 ?_
 refine RD_l 3 rfl (Yl_indexN (b := bp) (off := o) (i := k) (o' := o + k) rfl rfl sl_29 om_ om_) ?_
 refine RD_m 5 ?_
 refine RD_m 6 ?_
 refine RD_m 7 ?_
 refine RD_l 8 rfl (Yl_add (c := ((k + 1 : Nat) : Int)) rfl rfl (wi64 om_ om_)) ?_
 refine RD_l 9 rfl (Yl_cutLN (l := k + 1) rfl rfl sl_29 om_) ?_
 refine RD_m 10 ?_
 refine RD_m 11 ?_
 refine RD_l 12 rfl (Yl_mul (c := ((2 * at_ : Nat) : Int)) rfl rfl (mulN (a := 2) (b := at_) om_)) ?_
 refine RD_l 13 rfl (Yl_add (c := ((2 * at_ + 2 : Nat) : Int)) rfl rfl (wi64 om_ om_)) ?_
 refine RD_h (i := 4) #[true, true, true, true, false, true, true, true, true, true, true, true, true, true, true, false, false, false] rfl rfl rfl rfl kr_ (fun _ _ _ h => h) (Yh_lh (v := nv j) sc_3 hj) ?_
 refine RD_o 14 ?_
 refine RO_fx rfl rfl rfl rfl (Fx_call ok_23 (vs := [.slice (some ⟨g, 0, none⟩) ns.length cl, .slice (some ⟨bp, if c = k + 1 then o else o + (k + 1) * 1, none⟩) (m - (k + 1)) (c - (k + 1)), .slice pN nN cN, nv (2 * at_ + 2)]) rfl (Pick.cons rem_ (Pick.cons rem_ (pick_app D F))) hBc) ?_
 rintro _ _ ⟨_, ⟨n2, tb, rfl, hSb, rfl⟩, rfl⟩
 simp only [List.cons_append]
 have hlb := hSb.len
 rw [List.length_set] at hlb
 refine ⟨Or.inr sub_, ?_⟩
 refine RD_l 15 rfl (Yl_indexN (b := g) (off := 0) (i := j) (o' := j * 28) rfl rfl sl_25 om_ om_) ?_
 refine RD_f 16 fo_43_4 ?_
 refine RD_o 17 ?_
 refine RO_fx0 rfl rfl rfl (Fx_store (v := iv tb) (b := g) (off := j * 28 + 4) rfl rfl sz_3 rfl rep_ (by rw [List.length_append, length_nms]; omega)) ?_
 rintro _ _ rfl
 refine ⟨Or.inl kr_, ?_⟩
 refine (RD_done kr_ (QW_lv [1,10] ?_))
 refine CW_seq ?_
 have hset2 := nms_set n2 j 4 (iv tb) ((n2.getD j default).turn (lfF n2 j) tb (chdF n2 j)) r (by rw [hSb.len, ← hl1]; exact hjn) om_ rfl
 rw [hset2]
 have hfin := Shp.join hjn hSa hSb hja hjb hab
 rw [← hsp] at hfin
 refine CW_region ?_
 refine RW_m ?_
 refine RW_m ?_
 refine RW_l (Yl_indexN (b := bp) (off := o) (i := k) (o' := o + k) rfl rfl sl_29 om_ om_) ?_
 refine RW_h (Yh_lh (v := nv j) sc_3 hj) ?_
 refine RW_a ?_
 refine RW_lv [8] ?_
 refine CW_ret ?_
 exact QW_ret1 rfl rfl (_ :: _ :: D) ⟨_, _, rfl, hfin, rfl⟩ (Prm.nil _)
theorem shaped_ct (g cl bp nN cN : Nat) (pN : Option Addr) (r lp : List Value) (D : Heap) (hnum : NumOk D pN nN) (hnN : nN ≤ 1000000000) : ∀ n, SCt g cl bp nN cN pN r lp D n := by
 have z : ∀ (ns : List Nm) (pl : List Nat) (p : Option Addr) (c at_ : Nat), pl.length = 0 → Ct Tryd.prog 23 [.slice (some ⟨g, 0, none⟩) ns.length cl, .slice p 0 c, .slice pN nN cN, nv at_] ((g, blk (nms ns ++ r) 43) :: (bp, blk lp 3) :: D) (fun v q => ∃ ns' top, v = iv top ∧ Shp ns ns' pl top ∧ q = (g, blk (nms ns' ++ r) 43) :: (bp, blk lp 3) :: D) := by
  intro ns pl p c at_ h
  obtain rfl := List.eq_nil_of_length_eq_zero h
  refine ((shaped0_ct (.slice (some ⟨g, 0, none⟩) ns.length cl) p c at_ (.slice pN nN cN)).frame (G := (g, blk (nms ns ++ r) 43) :: (bp, blk lp 3) :: D)).mono ?_
  rintro v q ⟨post, ⟨rfl, rfl⟩, rfl⟩
  exact ⟨ns, -1, rfl, Shp.nil ns, rfl⟩
 intro n
 induction n with
 | zero =>
  intro ns pl p m c at_ h1 h2 _ _ _ _ _ _
  obtain rfl : m = 0 := by omega
  exact z ns pl p c at_ h1
 | succ n ih =>
  intro ns pl p m c at_ h1 h2 h3 h4 h5 h6 h7 h8
  rcases h8 with rfl | ⟨o, rfl, h8⟩
  ·exact z ns pl p c at_ h1
  rcases Nat.eq_zero_or_pos m with rfl | hm
  ·exact z ns pl _ c at_ h1
  have hmb : pl.length ≤ 100 := by
   have := List.Nodup.length_le_of_subset h4 (l₂ := List.range ns.length) (fun x hx => List.mem_range.2 (h5 x hx))
   simp at this; omega
  refine shaped_step g cl bp nN cN pN r lp D hnum hnN n ih ns pl o m c at_ h1 h2 h3 h4 h5 h6 h7 hm om_ ?_ h8
  have h9 : 1 ≤ 2 ^ (n + 1) := Nat.one_le_two_pow
  have := Nat.mul_le_mul_left (at_ + 2) h9
  omega

def Nm.setCls (x : Nm) (j : Nat) (y : UInt8) : Nm := { x with nd := { x.nd with cls := x.nd.cls.set j y, h16 := by simp [x.nd.h16] } }
def Nm.setSt (x : Nm) (j : Nat) (y : UInt8) : Nm := { x with nd := { x.nd with state := x.nd.state.set j y, h4 := by simp [x.nd.h4] } }
def Nm.setData (x : Nm) (d : List UInt8) (o : Option Nat) (cap : Nat) (r : List Value) : Nm := { nd := { x.nd with data := d }, b := o, cap := cap, rest := r }
theorem cells_setCls (x : Nm) {j : Nat} (hj : j < 16) (y : UInt8) : x.cells.set (6 + j) (bv y) = (x.setCls j y).cells := by
  unfold Nm.cells
  rw [show 6 + j = j + 1 + 1 + 1 + 1 + 1 + 1 by omega]
  simp only [List.set_cons_succ]
  rw [List.set_append_left _ _ (by simp [x.nd.h16]; exact hj), bys_set]
  rfl
theorem cells_setSt (x : Nm) {j : Nat} (hj : j < 4) (y : UInt8) : x.cells.set (22 + j) (bv y) = (x.setSt j y).cells := by
  unfold Nm.cells
  rw [show 22 + j = (16 + j) + 1 + 1 + 1 + 1 + 1 + 1 by omega]
  simp only [List.set_cons_succ]
  rw [List.set_append_right _ _ (by simp [x.nd.h16]), show 16 + j - (bys x.nd.cls).length = j by simp [x.nd.h16], List.set_append_left _ _ (by simp [x.nd.h4]; exact hj), bys_set]
  rfl
theorem xor_u8 (a b : UInt8) : ∃ y : UInt8, ∀ w, (Op.intBits .xor .u8 (a.toNat : Int) (b.toNat : Int)).run Tryd.prog w = .ok (bv y) w := by
  refine ⟨UInt8.ofNat (IntKind.u8.wrap (((BitVec.ofInt IntKind.u8.bits (a.toNat : Int)) ^^^ (BitVec.ofInt IntKind.u8.bits (b.toNat : Int))).toNat : Int)).toNat, fun w => ?_⟩
  have h : ∀ z : Int, IntKind.u8.wrap z = z % 256 := fun z => by simp [IntKind.wrap, IntKind.signed, IntKind.bits]
  simp only [Op.intBits]
  simp only [bv, UInt8.toNat_ofNat']
  generalize ((BitVec.ofInt IntKind.u8.bits (a.toNat : Int)) ^^^ (BitVec.ofInt IntKind.u8.bits (b.toNat : Int))).toNat = z
  have e : ((IntKind.u8.wrap (z : Int)).toNat % 2 ^ 8 : Nat) = (IntKind.u8.wrap (z : Int)).toNat := by rw [h]; omega
  rw [e]
  have e2 : ((IntKind.u8.wrap (z : Int)).toNat : Int) = IntKind.u8.wrap (z : Int) := by rw [h]; omega
  rw [e2]
  rfl
theorem wrap_byte (z : Int) : ∃ y : UInt8, IntKind.u8.wrap z = (y.toNat : Int) := by
  have h : IntKind.u8.wrap z = z % 256 := by simp [IntKind.wrap, IntKind.signed, IntKind.bits]
  refine ⟨UInt8.ofNat (z % 256).toNat, ?_⟩
  rw [h, UInt8.toNat_ofNat']
  omega
def BytOk (D : Heap) (p : Option Addr) (n : Nat) : Prop := n = 0 ∨ ∃ (b o : Nat) (l : List Value) (T : TypeId) (fz : Nat × Nat), p = some ⟨b, o, none⟩ ∧ (b, Obj.cells l.toArray T fz) ∈ D ∧ ∀ i, i < n → ∃ x : UInt8, l[o + i]? = some (bv x)
structure Bl where
  l : List Nat
  o : Option Nat
  cap : Nat
  rest : List Value
instance : Inhabited Bl := ⟨⟨[], none, 0, []⟩⟩
def Bl.val (b : Bl) : Value := osl b.o b.l.length b.cap
def Bl.heap (b : Bl) : Heap := oH b.o (nats b.l ++ b.rest) 3
def Bl.ok (b : Bl) : Prop := oOk b.o (nats b.l) b.rest b.l.length b.cap 1
abbrev blsH (bs : List Bl) : Heap := bs.flatMap Bl.heap
theorem blsH_perm : ∀ (bs : List Bl) (k : Nat), k < bs.length → (blsH bs).Perm ((bs.getD k default).heap ++ blsH (bs.eraseIdx k)) := by
  intro bs
  induction bs with
  | nil => intro k h; simp at h
  | cons b r ih =>
    intro k h
    cases k with
    | zero => exact .refl _
    | succ k =>
      have e : (List.getD (b :: r) (k + 1) default) = r.getD k default := by simp [List.getD_eq_getElem?_getD]
      rw [e]
      simp only [List.flatMap_cons, List.eraseIdx_cons_succ]
      refine ((ih k (by simpa using h)).append_left _).trans ?_
      exact perm_front _ _ _
theorem blsH_set (bs : List Bl) (k : Nat) (b : Bl) (h : k < bs.length) : (b.heap ++ blsH (bs.eraseIdx k)).Perm (blsH (bs.set k b)) := by
  have h1 := blsH_perm (bs.set k b) k (by simpa using h)
  have e1 : (bs.set k b).getD k default = b := by simp [List.getD_eq_getElem?_getD, h]
  have e2 : (bs.set k b).eraseIdx k = bs.eraseIdx k := by
    rw [List.eraseIdx_set_eq]
  rw [e1, e2] at h1
  exact h1.symm
structure NdOk (x : Nm) : Prop where
  ok : x.ok
  nm : 2 ≤ x.nd.name.length ∧ x.nd.name.length ≤ 20
  cap : ∀ c ∈ x.nd.name, 65 ≤ c.toNat ∧ c.toNat ≤ 90
theorem NdOk.setCls {x : Nm} (h : NdOk x) (j : Nat) (y : UInt8) : NdOk (x.setCls j y) := ⟨⟨h.ok.none, h.ok.fit, h.ok.small, h.ok.name, h.ok.left, h.ok.right, h.ok.child, h.ok.created, h.ok.modified⟩, h.nm, h.cap⟩
theorem NdOk.setSt {x : Nm} (h : NdOk x) (j : Nat) (y : UInt8) : NdOk (x.setSt j y) := ⟨⟨h.ok.none, h.ok.fit, h.ok.small, h.ok.name, h.ok.left, h.ok.right, h.ok.child, h.ok.created, h.ok.modified⟩, h.nm, h.cap⟩
theorem NdOk.turn {x : Nm} (h : NdOk x) {l r c : Int} (hl : -1 ≤ l ∧ l ≤ 100000) (hr : -1 ≤ r ∧ r ≤ 100000) (hc : -1 ≤ c ∧ c ≤ 100000) : NdOk (x.turn l r c) := ⟨⟨h.ok.none, h.ok.fit, h.ok.small, h.ok.name, hl, hr, hc, h.ok.created, h.ok.modified⟩, h.nm, h.cap⟩

structure Mk (x : Nm) (sb : Bool) : Prop where
  nd : NdOk x
  data : x.nd.data = []
  b : x.b = none
  cap : x.cap = 0
  left : x.nd.left = -1
  right : x.nd.right = -1
  child : x.nd.child = -1
  stream : x.nd.stream = sb
theorem Mk.setCls {x : Nm} {sb : Bool} (h : Mk x sb) (j : Nat) (y : UInt8) : Mk (x.setCls j y) sb := ⟨h.nd.setCls j y, h.data, h.b, h.cap, h.left, h.right, h.child, h.stream⟩
theorem Mk.setSt {x : Nm} {sb : Bool} (h : Mk x sb) (j : Nat) (y : UInt8) : Mk (x.setSt j y) sb := ⟨h.nd.setSt j y, h.data, h.b, h.cap, h.left, h.right, h.child, h.stream⟩
theorem Mk.same {x : Nm} {sb : Bool} (h : Mk x sb) : x.setData [] none 0 x.rest = x := by
  cases x with
  | mk nd b cap rest =>
    have h1 := h.data
    have h2 := h.b
    have h3 := h.cap
    simp only at h1 h2 h3
    subst h2; subst h3
    cases nd
    simp only at h1
    subst h1
    rfl
structure Made (x : Nm) : Prop where
  nd : NdOk x
  left : x.nd.left = -1
  right : x.nd.right = -1
  child : x.nd.child = -1
  data : x.nd.stream = false → x.nd.data = []
theorem Mk.made {x : Nm} {sb : Bool} (h : Mk x sb) : Made x := ⟨h.nd, h.left, h.right, h.child, fun _ => h.data⟩
def dOk (o : Option Nat) (d : List UInt8) (cap : Nat) (r : List Value) : Prop := oOk o (bys d) r d.length cap 1 ∧ (o = none → cap = 0)
theorem dOk.val {o : Option Nat} {d : List UInt8} {cap : Nat} {r : List Value} (h : dOk o d cap r) (x : Nm) : (x.setData d o cap r).cells[2]? = some (osl o d.length cap) := by
  cases o with
  | some g => rfl
  | none =>
    have h1 := h.1.1
    have h2 := h.2 rfl
    show some (Nm.slice _) = _
    simp only [Nm.slice, Nm.setData, Option.map_none, h1, h2]
theorem dOk.made {o : Option Nat} {d : List UInt8} {cap : Nat} {r : List Value} (h : dOk o d cap r) {x : Nm} (hx : Mk x true) (hd : d.length ≤ 9000) : Made (x.setData d o cap r) := by
  have hf : d.length ≤ cap := by
    cases o with
    | some g => have := h.1.1; rw [List.length_append] at this; simp at this; omega
    | none => have := h.1.1; omega
  have hn : o = none → d = [] := fun e => by subst e; have := h.1.1; exact List.eq_nil_of_length_eq_zero this
  exact ⟨⟨⟨hn, hf, hd, hx.nd.ok.name, hx.nd.ok.left, hx.nd.ok.right, hx.nd.ok.child, hx.nd.ok.created, hx.nd.ok.modified⟩, hx.nd.nm, hx.nd.cap⟩, hx.left, hx.right, hx.child, fun e => by have h1 : x.nd.stream = false := e; rw [hx.stream] at h1; cases h1⟩
theorem dOk.heap {o : Option Nat} {d : List UInt8} {cap : Nat} {r : List Value} (x : Nm) : (x.setData d o cap r).heap = oH o (bys d ++ r) 5 := by
  cases o <;> rfl
theorem BytOk.mono {D D' : Heap} {p : Option Addr} {n : Nat} (h : BytOk D p n) (hs : D.Sublist D') : BytOk D' p n := by
  rcases h with h | ⟨b, o, l, T, fz, h1, h2, h3⟩
  · exact .inl h
  exact .inr ⟨b, o, l, T, fz, h1, hs.subset h2, h3⟩
theorem NumOk.mono {D D' : Heap} {p : Option Addr} {n : Nat} (h : NumOk D p n) (hs : D.Sublist D') : NumOk D' p n := by
  rcases h with h | ⟨b, o, l, T, fz, h1, h2, h3⟩
  · exact .inl h
  exact .inr ⟨b, o, l, T, fz, h1, hs.subset h2, h3⟩
theorem letters {m : Nat} (hm : m ≤ 10) : ((⟨#[65, 66, 67, 68, 69, 70, 71, 72, 73, 74]⟩ : ByteArray).extract 0 m) = bar (([65, 66, 67, 68, 69, 70, 71, 72, 73, 74] : List UInt8).take m) := by
  have : m = 0 ∨ m = 1 ∨ m = 2 ∨ m = 3 ∨ m = 4 ∨ m = 5 ∨ m = 6 ∨ m = 7 ∨ m = 8 ∨ m = 9 ∨ m = 10 := by omega
  rcases this with rfl | rfl | rfl | rfl | rfl | rfl | rfl | rfl | rfl | rfl | rfl <;> rfl
def mkNm (name : List UInt8) (sb : Bool) (cr mo : Nat) : Nm := ⟨⟨name, sb, [], -1, -1, -1, List.replicate 16 0, List.replicate 4 0, cr, mo, by simp, by simp⟩, none, 0, []⟩
theorem mkNm_mk {m k cr mo : Nat} {sb : Bool} (hm : 1 ≤ m ∧ m ≤ 7) (hk : k ≤ 25) (hcr : cr < 18446744073709551616) (hmo : mo < 18446744073709551616) : Mk (mkNm (([65, 66, 67, 68, 69, 70, 71, 72, 73, 74] : List UInt8).take m ++ [UInt8.ofNat (65 + k)]) sb cr mo) sb := by
  refine ⟨⟨⟨fun _ => rfl, by simp [mkNm], by simp [mkNm], by simp [mkNm]; omega, by simp [mkNm], by simp [mkNm], by simp [mkNm], hcr, hmo⟩, by simp [mkNm]; omega, ?_⟩, rfl, rfl, rfl, rfl, rfl, rfl, rfl⟩
  intro c hc
  simp only [mkNm, List.mem_append, List.mem_singleton] at hc
  rcases hc with hc | rfl
  · have h1 := List.mem_of_mem_take hc
    have : (([65, 66, 67, 68, 69, 70, 71, 72, 73, 74] : List UInt8).all fun c => decide (65 ≤ c.toNat ∧ c.toNat ≤ 90)) = true := by decide
    simpa using List.all_eq_true.1 this c h1
  rw [UInt8.toNat_ofNat']; omega

end Go.Proofs.YtgoddcicbpjknaaDoor

set_option maxRecDepth 100000
namespace Go.Proofs.YtgoddcicbpjknaaDoor
open Go
open Cfb
open Go.ChangeShapes Go.WideShapes Go.ChangeAt Go.RowKit
theorem open_nums {H : Type} {enc : TypeId × Value → H} {W : World} {base : Nat} {v : Value} {d : DataW H} {ps : List MemPlace} {t e : TypeId} {k : IntKind} (hu : Tryd.prog.underlying t = some (.slice e)) (he : Tryd.prog.underlying e = some (.int k)) (hce : Tryd.prog.cellsOf e = 1)
    (hval : Value.okWide Tryd.prog W .any base t v) (h : DataW.Trod enc Tryd.prog W 0 (fun _ => true) true t v d ps) :
    ∃ p n c, v = .slice p n c ∧ n ≤ c ∧ (n = 0 ∨ ∃ b off l T fz, ∃ zs : Nat → Int, p = some ⟨b, off, none⟩ ∧ W.heap[b]? = some (Obj.cells l T fz) ∧ ∀ i, i < n → l[off + i]? = some (.int k (zs i)) ∧ (Lit.int k (zs i)).wf = true) := by
  obtain ⟨fuel, hf⟩ := h
  obtain ⟨a0, n, c, rfl⟩ := okWide_slice (e := e) hu hval
  rcases open_ints hu he hce hf with ⟨hcs, hx⟩ | ⟨a, len', cap', zs, hcs, _, hl, hm, hz, hx, hcell, hwz⟩
  · simp [Value.cells] at hcs
    obtain ⟨rfl, rfl, rfl⟩ := hcs
    exact ⟨_, _, _, rfl, Nat.le_refl _, .inl rfl⟩
  simp [Value.cells] at hcs
  obtain ⟨rfl, rfl, rfl⟩ := hcs
  refine ⟨_, _, _, rfl, hl, ?_⟩
  simp only [if_true] at hz
  rcases Nat.eq_zero_or_pos n with h0 | h0
  · exact .inl h0
  right
  have hzn : n ≤ zs.length := by omega
  have h1 := hcell 0 om_
  obtain ⟨b, off, x⟩ := a
  cases x with
  | some y =>
    exfalso
    simp [World.cell?, Addr.add] at h1
    split at h1 <;> cases h1
  | none =>
    have key : ∀ i, i < zs.length → W.cell? ⟨b, off + i, none⟩ = some (.int k (zs.getD i 0)) := fun i hi => by have := hcell i hi; rw [Addr_add] at this; exact this
    have k0 := key 0 om_
    cases hq : W.heap[b]? with
    | none => simp [World.cell?, hq] at k0
    | some o =>
      cases o with
      | cells l T fz =>
        refine ⟨b, off, l, T, fz, fun i => zs.getD i 0, rfl, hq, ?_⟩
        intro i hi
        have h2 := key i om_
        refine ⟨by simpa [World.cell?, hq] using h2, ?_⟩
        have hz1 : zs.getD i 0 ∈ zs := by rw [List.getD_eq_getElem?_getD, List.getElem?_eq_getElem om_]; exact List.getElem_mem _
        exact hwz _ hz1
      | _ => simp [World.cell?, hq] at k0
theorem un_22 : Tryd.prog.underlying 22 = some (.slice 67) := by kernel_rfl
theorem un_67 : Tryd.prog.underlying 67 = some (.int .u32) := by kernel_rfl
theorem cells67 : Tryd.prog.cellsOf 67 = 1 := by kernel_rfl
end Go.Proofs.YtgoddcicbpjknaaDoor

set_option maxRecDepth 100000
namespace Go.Proofs.YtgoddcicbpjknaaDoor
open Go
open Cfb
open Go.ChangeShapes Go.WideShapes Go.ChangeAt Go.RowKit
theorem gEof : Tryd.prog.globalNamed "io.EOF" = some 0 := by kernel_rfl
theorem gEofT : (Tryd.prog.globals[0]?).map (·.type) = some 105 := by kernel_rfl
theorem row0 : (((begin Tryd.prog (fun _ _ => 0) default).world.heap[0]?).bind Obj.row?).isSome = true := by kernel_rfl
theorem zero_lt : 0 < Tryd.prog.globals.size := by
  have : Nat.blt 0 Tryd.prog.globals.size = true := by kernel_rfl
  exact Nat.le_of_ble_eq_true this
theorem un_105 : ∃ ms, Tryd.prog.underlying 105 = some (.interface ms) := by
  have h := if_105
  unfold isIf at h
  split at h
  · rename_i ms hu; exact ⟨ms, hu⟩
  cases h
abbrev laid2 : List (String × DataW Unit) := [("io.EOF", Rows.laid_io_EOF), ("unicode.properties", Rows.laid_unicode_properties)]
theorem laid2_plain {W : World} (h : laidMetH Tryd.prog laid2 W) : laidMet Tryd.prog laid2 W := by
  rw [MakeChecks.laidMetH_plain _ _ _ kr_] at h
  exact h
theorem props_tab2 {W : World} (h : laidMetH Tryd.prog laid2 W) : Lib.TabIs Tryd.prog W "unicode.properties" .u8 props := by
  obtain ⟨g, t, cs, fuel, p, hg, ht, hv, hd⟩ := Lib.laidMet.reads (laid2_plain h) (List.mem_cons_of_mem _ (List.mem_cons_self ..))
  obtain rfl := Option.some.inj (gProps.symm.trans hg)
  obtain rfl := Option.some.inj (gPropsT.symm.trans ht)
  have hu : Tryd.prog.underlying 162 = some (.array 256 5) := by kernel_rfl
  unfold Lib.TabIs
  rw [props_eq] at hd
  rw [hv, ← Lib.cells_of_tab hu (inOf_u in_5) cells5 cells162 hd]
theorem add_end {W : World} {L : Heap} (hm : ∀ p ∈ L, W.heap[p.1]? = some p.2) (hn : (L.map Prod.fst).Nodup) {b : Nat} {o : Obj} (hb : W.heap[b]? = some o) :
    ∃ N, (∀ p ∈ L ++ N, W.heap[p.1]? = some p.2) ∧ ((L ++ N).map Prod.fst).Nodup ∧ (b, o) ∈ L ++ N := by
  by_cases h : b ∈ L.map Prod.fst
  · obtain ⟨x, hx, rfl⟩ := List.mem_map.1 h
    have := hm x hx
    rw [hb] at this
    have e1 : x.2 = o := (Option.some.inj this).symm
    exact ⟨[], by simpa using hm, by simpa using hn, by rw [List.append_nil, ← e1]; exact hx⟩
  refine ⟨[(b, o)], ?_, ?_, List.mem_append_right _ (List.mem_cons_self ..)⟩
  · intro p hp
    rcases List.mem_append.1 hp with hp | hp
    · exact hm _ hp
    rw [List.mem_singleton.1 hp]; exact hb
  rw [List.map_append]
  exact List.nodup_append.2 ⟨hn, by simp, fun x hx y hy e => h (by rw [← (show y = b by simpa using hy), ← e]; exact hx)⟩
theorem nums_end {W : World} {L : Heap} {p : Option Addr} {n : Nat} (hm : ∀ p ∈ L, W.heap[p.1]? = some p.2) (hn : (L.map Prod.fst).Nodup)
    (h : n = 0 ∨ ∃ b off l T fz, ∃ zs : Nat → Int, p = some ⟨b, off, none⟩ ∧ W.heap[b]? = some (Obj.cells l T fz) ∧ ∀ i, i < n → l[off + i]? = some (.int .u32 (zs i)) ∧ (Lit.int .u32 (zs i)).wf = true) :
    ∃ N, (∀ p ∈ L ++ N, W.heap[p.1]? = some p.2) ∧ ((L ++ N).map Prod.fst).Nodup ∧ NumOk (L ++ N) p n := by
  rcases h with h | ⟨b, off, l, T, fz, zs, rfl, hb, hz⟩
  · exact ⟨[], by simpa using hm, by simpa using hn, .inl h⟩
  obtain ⟨N, h1, h2, h3⟩ := add_end hm hn hb
  obtain ⟨l⟩ := l
  refine ⟨N, h1, h2, .inr ⟨b, off, l, T, fz, rfl, h3, fun i hi => ?_⟩⟩
  obtain ⟨h5, h6⟩ := hz i hi
  have h7 : 0 ≤ zs i ∧ zs i ≤ 4294967295 := by simpa [Lit.wf, IntKind.min, IntKind.max, IntKind.signed, IntKind.bits] using h6
  refine ⟨(zs i).toNat, by omega, ?_⟩
  have h8 : l[off + i]? = some (.int .u32 (zs i)) := by simpa using h5
  rw [h8]
  unfold uv
  congr 2
  omega
theorem bytes_end {W : World} {L : Heap} {p : Option Addr} {n : Nat} (hm : ∀ p ∈ L, W.heap[p.1]? = some p.2) (hn : (L.map Prod.fst).Nodup)
    (h : n = 0 ∨ ∃ b off l T fz, ∃ bs : List UInt8, p = some ⟨b, off, none⟩ ∧ W.heap[b]? = some (Obj.cells l T fz) ∧ bs.length = n ∧ ∀ i, i < n → l[off + i]? = some (bv (bs.getD i 0))) :
    ∃ N, (∀ p ∈ L ++ N, W.heap[p.1]? = some p.2) ∧ ((L ++ N).map Prod.fst).Nodup ∧ BytOk (L ++ N) p n := by
  rcases h with h | ⟨b, off, l, T, fz, bs, rfl, hb, hbl, hz⟩
  · exact ⟨[], by simpa using hm, by simpa using hn, .inl h⟩
  obtain ⟨N, h1, h2, h3⟩ := add_end hm hn hb
  obtain ⟨l⟩ := l
  exact ⟨N, h1, h2, .inr ⟨b, off, l, T, fz, rfl, h3, fun i hi => ⟨_, by simpa using hz i hi⟩⟩⟩
theorem u16_nat {a : Int} (w : (Lit.int .u16 a).wf = true) : ∃ n : Nat, a = (n : Int) ∧ n ≤ 65535 := by
  have h : 0 ≤ a ∧ a ≤ 65535 := by simpa [Lit.wf, IntKind.min, IntKind.max, IntKind.signed, IntKind.bits] using w
  exact ⟨a.toNat, by omega, by omega⟩
end Go.Proofs.YtgoddcicbpjknaaDoor

namespace Cfb

inductive Run (ad : Nat → Nat) : Nat → List (Nat × Nat) → Nat → Prop
  | nil (q : Nat) : Run ad q [] q
  | cons {q o l e : Nat} {r : List (Nat × Nat)} (h0 : 0 < l) (h : ∀ j, j < l → ad (q + j) = o + j) (k : Run ad (q + l) r e) : Run ad q ((o, l) :: r) e
section
variable {ad : Nat → Nat}
theorem Run.snoc {q e o l : Nat} {L : List (Nat × Nat)} (h : Run ad q L e) (h0 : 0 < l) (h1 : ∀ j, j < l → ad (e + j) = o + j) : Run ad q (L ++ [(o, l)]) (e + l) := by
  induction h with
  | nil q => exact .cons h0 h1 (.nil _)
  | cons g0 g k ih => exact .cons g0 g (ih h1)
theorem Run.join {e o l l2 o2 : Nat} {A B : List (Nat × Nat)} (ho : o + l = o2) : ∀ {q : Nat}, Run ad q (A ++ (o, l) :: (o2, l2) :: B) e → Run ad q (A ++ (o, l + l2) :: B) e := by
  induction A with
  | nil =>
    intro q h
    cases h with
    | cons h0 h1 k =>
      cases k with
      | cons g0 g1 k =>
        refine .cons om_ (fun j hj => ?_) (by rw [← Nat.add_assoc]; exact k)
        by_cases hl : j < l
        · exact h1 j hl
        have := g1 (j - l) om_
        rw [show q + j = q + l + (j - l) by omega, this]; omega
  | cons a A ih =>
    intro q h
    cases h with
    | cons h0 h1 k => exact .cons h0 h1 (ih k)
def tot (L : List (Nat × Nat)) (k : Nat) : Nat := ((L.take k).map Prod.snd).sum
theorem tot_succ (L : List (Nat × Nat)) (k : Nat) (h : k < L.length) : tot L (k + 1) = tot L k + (L.getD k default).2 := by
  unfold tot
  rw [List.take_succ_eq_append_getElem h, List.map_append, List.sum_append]
  simp [List.getD_eq_getElem?_getD, h]
theorem tot_cons (x : Nat × Nat) (L : List (Nat × Nat)) (k : Nat) : tot (x :: L) (k + 1) = x.2 + tot L k := by simp [tot]
theorem Run.all {q e : Nat} {L : List (Nat × Nat)} (h : Run ad q L e) : q + tot L L.length = e := by
  induction h with
  | nil q => simp [tot]
  | cons h0 h1 k ih => rw [List.length_cons, tot_cons]; omega
theorem Run.get {q e : Nat} {L : List (Nat × Nat)} (h : Run ad q L e) : ∀ k, k < L.length → 0 < (L.getD k default).2 ∧ ∀ j, j < (L.getD k default).2 → ad (q + tot L k + j) = (L.getD k default).1 + j := by
  induction h with
  | nil q => intro k hk; simp at hk
  | cons h0 h1 k ih =>
    rename_i q o l e r
    intro i hi
    cases i with
    | zero => exact ⟨h0, fun j hj => by have := h1 j hj; simpa [tot] using this⟩
    | succ i =>
      obtain ⟨i1, i2⟩ := ih i (by simpa using hi)
      refine ⟨i1, fun j hj => ?_⟩
      have := i2 j hj
      rw [tot_cons]
      show ad (q + (l + tot r i) + j) = _
      rw [show q + (l + tot r i) + j = q + l + tot r i + j by omega, this]; rfl
theorem tot_le (L : List (Nat × Nat)) : ∀ d k, k + d ≤ L.length → tot L k ≤ tot L (k + d) := by
  intro d
  induction d with
  | zero => intro k _; exact Nat.le_refl _
  | succ d ih =>
    intro k h
    have h1 := ih k om_
    have h2 := tot_succ L (k + d) om_
    rw [← Nat.add_assoc]; omega
theorem Run.fits {q e : Nat} {L : List (Nat × Nat)} (h : Run ad q L e) {k : Nat} (hk : k ≤ L.length) : q + tot L k ≤ e := by
  have h1 := tot_le L (L.length - k) k om_
  have h2 := h.all
  rw [show k + (L.length - k) = L.length by omega] at h1
  omega
def Dat (ad : Nat → Nat) (B D : List UInt8) : Prop := ∀ i, i < D.length → B[ad i]? = D[i]?
end
section
variable {S : Nat → Prop}
theorem chunk_at' (data : List UInt8) (a n i : Nat) (hi : i < n) : ((data.drop a).take n)[i]? = data[a + i]? := by rw [List.getElem?_take_of_lt hi, List.getElem?_drop]
end

end Cfb

namespace Go.Proofs.YtgoddcicbpjknaaDoor
open Go
open Cfb

theorem un_128 : Tryd.prog.underlying 128 = some (.array 2 2) := by kernel_rfl
section
variable {P : Program} {E : World} {L : Fra} {H : Heap} {dst : Option Tmp} {ty : TypeId} {pos : String} {aft : Array Edge} {gd : Option (Nat × Bool)}
theorem Yl_buildA {t e : TypeId} {n sz : Nat} {ps : List (Nat × Operand)} {vs : List (Nat × Value)} {z : Value} {cs : List Value} (ht : P.underlying t = some (.array n e)) (hs : szOf P e = some sz) (hz : zeOf P t = some z) (hp : evp L ps = some vs)
    (hfill : Instr.fill (fun i => some (i * sz, sz)) z.cells vs = some cs.toArray) : Yl P L ⟨dst, .build t ps.toArray, ty, pos, aft, gd⟩ (.agg cs.toArray) := by
  intro _ a w hf
  unfold zeOf at hz
  simp only [Option.bind_eq_some_iff] at hz
  obtain ⟨i, hi, hz'⟩ := hz
  have hs' := szOf_run hs w
  have he := evp_map hf ps vs hp
  simp [execOp, Instr.build, zeroValue, typeInfo, hi, hz', underlying, ht, hs', he, hfill]
theorem Fx_appR {x y : Operand} {t e : TypeId} {sz g n cap bx m c : Nat} {xs r news : List Value} {T : TypeId} {H1 R : Heap} (hx : ev L x = some (.slice (some ⟨g, 0, none⟩) n cap)) (hy : ev L y = some (.slice (some ⟨bx, 0, none⟩) m c))
    (ht : slOf P t = some (e, sz)) (hm : Rem H (bx, blk news T) H1) (hg : Rem H1 (g, blk (xs ++ r) e) R) (hl : (xs ++ r).length = cap * sz) (hxs : xs.length = n * sz)
    (hnews : news.length = m * sz) (h1 : ∀ u ∈ news, u.oneCell' = true) (hroom : n + m ≤ cap) :
    Fx P E L H ⟨dst, .call ⟨.builtin .append, #[x, y], #[t, t]⟩, ty, pos, aft, gd⟩
      (fun v H'' => ∃ r', v = .slice (some ⟨g, 0, none⟩) (n + m) cap ∧ ((xs ++ news) ++ r').length = cap * sz ∧ H'' = (g, blk ((xs ++ news) ++ r') e) :: R) := by
  refine Fx.less hm ?_
  intro _ a w next Q hf hh k
  obtain ⟨inf, hu, hi, rfl⟩ := slOf_u ht
  have hR := hh.perm (Rem.perm (.there _ hg))
  have hheap := hR.mem _ (List.mem_cons_self ..)
  have hcx := hh.cellsAt (List.mem_cons_self ..) (offx := 0) (k := m * inf.size)
  rw [List.drop_zero, ← hnews, List.take_length] at hcx
  have e0 := Nat.mul_le_mul_right inf.size hroom
  rw [Nat.add_mul] at e0
  have hfit2 : n * inf.size + news.length ≤ (xs ++ r).toArray.size := by simp only [List.size_toArray]; omega
  have hr := run_append_room (P := P) w t ty e inf hu hi g n cap (xs ++ r).toArray hheap ⟨bx, 0, none⟩ m c news hnews hcx h1 hroom hfit2
  have e1 : (xs ++ r).take (n * inf.size) = xs := by rw [← hxs]; exact List.take_left
  have e2 : (xs ++ r).take (n * inf.size) ++ news ++ (xs ++ r).drop (n * inf.size + news.length) = (xs ++ news) ++ r.drop news.length := by
    rw [e1, ← hxs, List.drop_append]
    simp
  have hrun : (execOp a.eval ⟨dst, .call ⟨.builtin .append, #[x, y], #[t, t]⟩, ty, pos, aft, gd⟩).run P w = .ok (.value (.slice (some ⟨g, 0, none⟩) (n + m) cap))
      (w.setRow g ((xs ++ news) ++ r.drop news.length).toArray) := by
    rw [← e2]
    simp only [execOp, resolve, invoke, builtin, hf.eval hx, hf.eval hy, List.map_toArray, List.map_cons, List.map_nil]
    simp [hr]
  simp only [Oper.wp, hrun, Oper.upon]
  refine k _ _ _ ⟨r.drop news.length, rfl, ?_, rfl⟩ ?_
  · simp only [List.length_append, List.length_drop] at hl hfit2 ⊢
    simp only [List.size_toArray, List.length_append] at hfit2
    omega
  have hR2 := hR.sub (H' := (g, blk (xs ++ r) e) :: R) (.cons_cons _ (List.sublist_cons_self _ _))
  refine ⟨hR2.os, hR2.tape, hR2.output, hR2.nodup, ?_, by have := hR2.size; simpa [World.setRow] using this, ?_⟩
  rotate_left
  · intro b' o' hb' ho'
    by_cases e3 : b' = g
    · subst e3
      rw [setRow_heap w b' (xs ++ r).toArray _ e _ hheap] at ho'
      cases ho'; rfl
    rw [setRow_other w g b' _ e3] at ho'
    exact hR2.fresh b' o' hb' ho'
  intro p hp
  rcases List.mem_cons.1 hp with rfl | hp
  · exact setRow_heap w g (xs ++ r).toArray _ e _ hheap
  have hne : p.1 ≠ g := by
    have := hR2.nodup
    simp only [List.map_cons, List.nodup_cons] at this
    intro e
    exact this.1 (e ▸ List.mem_map_of_mem hp)
  rw [setRow_other w g p.1 _ hne]
  exact hR2.mem p (List.mem_cons_of_mem _ hp)
end
/-! ### pairs -/
abbrev prs (L : List (Nat × Nat)) : List Value := L.flatMap fun p => [nv p.1, nv p.2]
theorem length_prs (L : List (Nat × Nat)) : (prs L).length = L.length * 2 := by
  induction L with
  | nil => rfl
  | cons a l ih => simp only [prs, List.flatMap_cons, List.length_append, List.length_cons, List.length_nil] at ih ⊢; rw [ih]; omega
theorem prs_snoc (L : List (Nat × Nat)) (a b : Nat) : prs L ++ [nv a, nv b] = prs (L ++ [(a, b)]) := by simp [prs]
theorem prs_at1 : ∀ (L : List (Nat × Nat)) (r : List Value) (k : Nat), k < L.length → (prs L ++ r)[k * 2]? = some (nv (L.getD k default).1) := by
  intro L
  induction L with
  | nil => intro r k h; simp at h
  | cons a l ih =>
    intro r k h
    cases k with
    | zero => rfl
    | succ k => rw [show (k + 1) * 2 = k * 2 + 1 + 1 by omega]; exact ih r k (by simpa using h)
theorem prs_at2 : ∀ (L : List (Nat × Nat)) (r : List Value) (k : Nat), k < L.length → (prs L ++ r)[k * 2 + 1]? = some (nv (L.getD k default).2) := by
  intro L
  induction L with
  | nil => intro r k h; simp at h
  | cons a l ih =>
    intro r k h
    cases k with
    | zero => rfl
    | succ k => rw [show (k + 1) * 2 + 1 = (k * 2 + 1) + 1 + 1 by omega]; exact ih r k (by simpa using h)
theorem prs_cut {L : List (Nat × Nat)} {r : List Value} {k : Nat} (h : k < L.length) : ((prs L ++ r).drop (k * 2)).take 2 = [nv (L.getD k default).1, nv (L.getD k default).2] := by
  apply List.ext_getElem?
  intro i
  rw [List.getElem?_take]
  match i with
  | 0 => rw [if_pos (by omega), List.getElem?_drop]; exact prs_at1 L r k h
  | 1 => rw [if_pos (by omega), List.getElem?_drop]; exact prs_at2 L r k h
  | i + 2 => rw [if_neg (by omega)]; rfl
theorem prs_spl : ∀ (L : List (Nat × Nat)) (r : List Value) (k a b : Nat), k < L.length → spl (k * 2) [nv a, nv b] (prs L ++ r) = prs (L.set k (a, b)) ++ r := by
  intro L
  induction L with
  | nil => intro r k a b h; simp at h
  | cons x l ih =>
    intro r k a b h
    cases k with
    | zero => rfl
    | succ k =>
      have h1 := ih r k a b (by simpa using h)
      unfold spl at h1 ⊢
      simp only [List.length_cons, List.length_nil] at h1 ⊢
      rw [show (k + 1) * 2 = k * 2 + 1 + 1 by omega]
      show nv x.1 :: nv x.2 :: (List.take (k * 2) (prs l ++ r) ++ [nv a, nv b] ++ List.drop (k * 2 + (0 + 1 + 1)) (prs l ++ r)) = nv x.1 :: nv x.2 :: (prs (l.set k (a, b)) ++ r)
      rw [h1]
theorem prs_set2 {L : List (Nat × Nat)} {r : List Value} {k o b : Nat} (h : k < L.length) (ho : o = k * 2 + 1) : (prs L ++ r).set o (nv b) = prs (L.set k ((L.getD k default).1, b)) ++ r := by
  subst ho
  rw [← prs_spl L r k (L.getD k default).1 b h]
  apply List.ext_getElem?
  intro i
  have hl := length_prs L
  rw [List.getElem?_set, getElem?_spl (by simp only [List.length_append, List.length_cons, List.length_nil, hl]; omega)]
  simp only [List.length_cons, List.length_nil]
  by_cases h1 : k * 2 + 1 = i
  · subst h1
    rw [if_pos rfl, if_pos (by simp only [List.length_append, hl]; omega), if_neg om_, if_pos om_, show k * 2 + 1 - k * 2 = 1 by omega]; rfl
  rw [if_neg h1]
  by_cases h2 : i < k * 2
  · rw [if_pos h2]
  rw [if_neg h2]
  by_cases h3 : i < k * 2 + (0 + 1 + 1)
  · have : i = k * 2 := by omega
    subst this
    rw [if_pos h3, prs_at1 L r k h]; simp
  rw [if_neg h3]
theorem Run.joinAt {ad : Nat → Nat} {q e x : Nat} {L : List (Nat × Nat)} (h : Run ad q L e) (hx : x + 1 < L.length) (ho : (L.getD x default).1 + (L.getD x default).2 = (L.getD (x + 1) default).1) :
    Run ad q ((L.set x ((L.getD x default).1, (L.getD x default).2 + (L.getD (x + 1) default).2)).eraseIdx (x + 1)) e := by
  have e1 : L.getD x default = L[x] := by simp [List.getD_eq_getElem?_getD, show x < L.length by omega]
  have e2 : L.getD (x + 1) default = L[x + 1] := by simp [List.getD_eq_getElem?_getD, hx]
  have hd : L = L.take x ++ (L.getD x default) :: (L.getD (x + 1) default) :: L.drop (x + 2) := by
    conv => lhs; rw [← List.take_append_drop x L, List.drop_eq_getElem_cons (show x < L.length by omega), List.drop_eq_getElem_cons hx]
    rw [e1, e2]
  have hr : (L.set x ((L.getD x default).1, (L.getD x default).2 + (L.getD (x + 1) default).2)).eraseIdx (x + 1) = L.take x ++ ((L.getD x default).1, (L.getD x default).2 + (L.getD (x + 1) default).2) :: L.drop (x + 2) := by
    rw [List.eraseIdx_eq_take_drop_succ, List.take_set, List.drop_set_of_lt om_]
    rw [List.take_succ_eq_append_getElem (show x < L.length by omega), List.set_append_right _ _ (by simp; omega)]
    simp [show min x L.length = x by omega]
  rw [hr]
  rw [hd] at h
  exact Run.join ho h
structure Sh (L M : List (Nat × Nat)) (x j : Nat) : Prop where
  len : M.length = L.length
  at_ : ∀ i, i < L.length → M.getD i default = if x + 1 ≤ i ∧ i < x + 1 + j then L.getD (i + 1) default else L.getD i default
theorem Sh.zero (L : List (Nat × Nat)) (x : Nat) : Sh L L x 0 := ⟨rfl, fun i _ => by rw [if_neg om_]⟩
theorem Sh.next {L M : List (Nat × Nat)} {x j : Nat} (h : Sh L M x j) (hj : x + 2 + j < L.length) : Sh L (M.set (x + 1 + j) (M.getD (x + 2 + j) default)) x (j + 1) := by
  refine ⟨by rw [List.length_set]; exact h.len, fun i hi => ?_⟩
  have hl := h.len
  have e2 : M.getD (x + 2 + j) default = L.getD (x + 2 + j) default := by rw [h.at_ _ hj, if_neg om_]
  rw [e2]
  by_cases e : i = x + 1 + j
  · subst e
    rw [if_pos om_, List.getD_eq_getElem?_getD, List.getElem?_set_self om_, show x + 1 + j + 1 = x + 2 + j by omega]; rfl
  rw [List.getD_eq_getElem?_getD, List.getElem?_set_ne om_, ← List.getD_eq_getElem?_getD, h.at_ i hi]
  by_cases h1 : x + 1 ≤ i ∧ i < x + 1 + j
  · rw [if_pos h1, if_pos om_]
  rw [if_neg h1, if_neg om_]
theorem Sh.done {L M : List (Nat × Nat)} {x j : Nat} (h : Sh L M x j) (hx : x + 1 < L.length) (hj : x + 2 + j = L.length) : ∃ z, M = L.eraseIdx (x + 1) ++ [z] := by
  have hl := h.len
  refine ⟨M.getD (L.length - 1) default, ?_⟩
  have he : (L.eraseIdx (x + 1)).length = L.length - 1 := by rw [List.length_eraseIdx_of_lt hx]
  apply List.ext_getElem?
  intro i
  by_cases h1 : i < L.length - 1
  · rw [List.getElem?_append_left om_]
    have h2 := h.at_ i om_
    rw [List.getD_eq_getElem?_getD, List.getElem?_eq_getElem om_] at h2
    have h3 : M[i]? = some (M[i]'om_) := List.getElem?_eq_getElem om_
    rw [h3, List.getElem?_eraseIdx]
    have h2' : M[i]'om_ = _ := h2
    rw [h2']
    by_cases h4 : i < x + 1
    · rw [if_neg om_, if_pos h4, List.getD_eq_getElem?_getD, List.getElem?_eq_getElem om_]; rfl
    rw [if_pos om_, if_neg h4, List.getD_eq_getElem?_getD, List.getElem?_eq_getElem (show i + 1 < L.length by omega)]; rfl
  by_cases h5 : i = L.length - 1
  · subst h5
    rw [List.getElem?_append_right om_, he, Nat.sub_self, List.getD_eq_getElem?_getD, List.getElem?_eq_getElem om_]; rfl
  rw [List.getElem?_eq_none om_, List.getElem?_eq_none (by rw [List.length_append, he, List.length_singleton]; omega)]
def Small (L : List (Nat × Nat)) : Prop := ∀ k, k < L.length → (L.getD k default).1 ≤ 1000000000 ∧ (L.getD k default).2 ≤ 1000000000
theorem Small.snoc {L : List (Nat × Nat)} {a b : Nat} (h : Small L) (ha : a ≤ 1000000000) (hb : b ≤ 1000000000) : Small (L ++ [(a, b)]) := by
  intro k hk
  rw [List.length_append, List.length_singleton] at hk
  by_cases e : k < L.length
  · rw [List.getD_eq_getElem?_getD, List.getElem?_append_left e, ← List.getD_eq_getElem?_getD]; exact h k e
  rw [List.getD_eq_getElem?_getD, List.getElem?_append_right om_, show k - L.length = 0 by omega]; exact ⟨ha, hb⟩
theorem Small.join {L : List (Nat × Nat)} {x s : Nat} (h : Small L) (hx : x + 1 < L.length) (hs : s ≤ 1000000000) : Small ((L.set x ((L.getD x default).1, s)).eraseIdx (x + 1)) := by
  intro k hk
  have hx' := h x om_
  rw [List.length_eraseIdx_of_lt (by rw [List.length_set]; exact hx), List.length_set] at hk
  rw [List.getD_eq_getElem?_getD, List.getElem?_eraseIdx]
  split
  · by_cases e : k = x
    · subst e
      rw [List.getElem?_set_self om_]; exact ⟨hx'.1, hs⟩
    rw [List.getElem?_set_ne om_, ← List.getD_eq_getElem?_getD]; exact h k om_
  rw [List.getElem?_set_ne om_, ← List.getD_eq_getElem?_getD]; exact h (k + 1) om_
theorem Run.part {ad : Nat → Nat} {q e : Nat} {L : List (Nat × Nat)} (h : Run ad q L e) {k : Nat} (hk : k < L.length) : q + tot L k + (L.getD k default).2 ≤ e := by
  have h1 := tot_succ L k hk
  have h2 := h.fits (k := k + 1) om_
  omega
theorem Run.two {ad : Nat → Nat} {q e : Nat} {L : List (Nat × Nat)} (h : Run ad q L e) {k : Nat} (hk : k + 1 < L.length) : q + ((L.getD k default).2 + (L.getD (k + 1) default).2) ≤ e := by
  have h1 := tot_succ L k om_
  have h2 := Run.part h hk
  omega

section
variable {P : Program} {E : World} {L : Fra} {dst : Option Tmp} {ty : TypeId} {pos : String} {aft : Array Edge} {gd : Option (Nat × Bool)}
theorem Yl_letters {x z : Operand} {t : TypeId} {j : IntKind} {m : Nat} (hx : ev L x = some (.string ⟨#[65, 66, 67, 68, 69, 70, 71, 72, 73, 74]⟩)) (hz : ev L z = some (.int j (m : Int)))
    (ht : isStr P t = true) (h : m ≤ 10) : Yl P L ⟨dst, .slice t x none (some z) none, ty, pos, aft, gd⟩ (.string (bar (([65, 66, 67, 68, 69, 70, 71, 72, 73, 74] : List UInt8).take m))) := by
  have := Yl_cutS (P := P) (dst := dst) (ty := ty) (pos := pos) (aft := aft) (gd := gd) hx hz ht om_ (by show (m : Int) ≤ ((10 : Nat) : Int); omega)
  rw [Int.toNat_natCast, letters h] at this
  exact this
theorem Yl_shrN {x y : Operand} {k j : IntKind} {m s c : Nat} {t u : TypeId} (hx : ev L x = some (.int k (m : Int))) (hy : ev L y = some (.int j (s : Int))) (hs : s ≤ k.bits) (hc : m / 2 ^ s = c) :
    Yl P L ⟨dst, .binOp .shr t x y u, ty, pos, aft, gd⟩ (.int k (c : Int)) := by
  refine Yl_shr hx hy om_ ?_
  have h1 : min ((s : Int)).toNat k.bits = s := by simp; omega
  rw [h1, ← hc, Int.fdiv_eq_ediv_of_nonneg _ (by exact_mod_cast Nat.zero_le _)]
  push_cast
  rfl
theorem Yl_shrB {x y : Operand} {j : IntKind} {m s : Nat} {t u : TypeId} (hx : ev L x = some (.int .u32 (m : Int))) (hy : ev L y = some (.int j (s : Int))) (hs : s ≤ 32) :
    Yl P L ⟨dst, .binOp .shr t x y u, ty, pos, aft, gd⟩ (.int .u32 ((m / 2 ^ s : Nat) : Int)) := Yl_shrN hx hy hs rfl
end
theorem Mk.heap {x : Nm} {sb : Bool} (h : Mk x sb) : x.heap = [] := by unfold Nm.heap; rw [h.b]
theorem nms_cell : ∀ (l : List Nm) (r : List Value) (k j : Nat), k < l.length → j < 28 → (nms l ++ r)[k * 28 + j]? = (l.getD k default).cells[j]? := by
  intro l r k j hk hj
  have h1 := nms_at l r k hk
  rw [← h1, List.getElem?_take_of_lt hj, List.getElem?_drop]
theorem at_stream {l : List Nm} {r : List Value} {k o : Nat} (hk : k < l.length) (ho : o = k * 28 + 1) : (nms l ++ r)[o]? = some (.bool (l.getD k default).nd.stream) := by
  rw [ho, nms_cell l r k 1 hk om_]; rfl
theorem at_name {l : List Nm} {r : List Value} {k o : Nat} (hk : k < l.length) (ho : o = k * 28) : (nms l ++ r)[o]? = some (.string (bar (l.getD k default).nd.name)) := by
  rw [ho, ← Nat.add_zero (k * 28), nms_cell l r k 0 hk om_]; rfl
theorem cells_dataG (x : Nm) (d : List UInt8) (o : Option Nat) (cap : Nat) (r : List Value) (y : UInt8) (g cap' : Nat) (r' : List Value) :
    (x.setData d o cap r).cells.set 2 (osl (some g) (d.length + 1) cap') = (x.setData (d ++ [y]) (some g) cap' r').cells := by
  simp [Nm.cells, Nm.slice, Nm.setData, osl]

theorem nodes_A {E : World} {Q : Exit → Act → World → Prop} {F : Heap} (hQ : QP Q) (at_ k n nD cD : Nat) (pD : Option Addr) {v0 v5 v6 v31 v32 v33 : Value} (hD : BytOk F pD nD) (hk25 : k ≤ 25) (hn : n ≤ 4294967295) (hat : at_ ≤ 1000000000) (hnD : nD ≤ 1000000000)
  (hk : ∀ x h b11 at2, (Made x) → (h ≤ 4294967295) → (at_ ≤ at2) → (at2 ≤ at_ + 9000) → CW Tryd.prog E 246 [(0, v0), (1, .slice pD nD cD), (5, v5), (6, v6), (7, nv at2), (10, uv h), (11, pv b11), (31, v31), (32, v32), (33, v33)] ((b11, blk x.cells 43) :: (x.heap ++ F)) (dig [1, 1, 1, 1, 0, 1, 2, 2, 1, 1, 0, 2, 1, 1, 1, 1, 1, 1] (bodyOf Tryd.f14)) Q) :
  CW Tryd.prog E 246 [(0, v0), (1, .slice pD nD cD), (5, v5), (6, v6), (7, nv at_), (8, nv k), (9, uv n), (31, v31), (32, v32), (33, v33)] (F) (dig [1, 1, 1, 1, 0, 1, 2, 2, 1, 1, 0, 2, 1] (bodyOf Tryd.f14)) Q := by
 refine CW_seq ?_
 obtain ⟨h, hh, hhb⟩ := wrap_nat ((n : Int) * 2654435761)
 obtain ⟨x0, hx0⟩ : ∃ x0, x0 = mkNm (([65, 66, 67, 68, 69, 70, 71, 72, 73, 74] : List UInt8).take (1 + n % 7) ++ [UInt8.ofNat (65 + k)]) (decide (((n / 2 ^ 3 % 3 : Nat) : Int) > 0)) (h * 77) (n * 2 ^ 20) := ⟨_, rfl⟩
 obtain ⟨sb, hsb⟩ : ∃ sb, sb = (decide (((n / 2 ^ 3 % 3 : Nat) : Int) > 0)) := ⟨_, rfl⟩
 have hm0 : Mk x0 sb := by rw [hx0, hsb]; exact mkNm_mk om_ hk25 om_ om_
 refine CW_region ?_
 refine RW_m ?_
 refine RW_l (Yl_mul (c := (h : Int)) rfl rfl hh) ?_
 refine RW_a ?_
 refine RW_lv [0,1,5,6,7,8,9,10,31,32,33] ?_
 refine CW_sr ?_
 refine RW_m ?_
 refine RW_l (Yl_rem (c := ((n % 7 : Nat) : Int)) rfl rfl om_ (remN n 7)) ?_
 refine RW_l (Yl_add (c := ((1 + n % 7 : Nat) : Int)) rfl rfl (wu32 om_ om_)) ?_
 refine RW_l (Yl_letters (m := 1 + n % 7) rfl rfl st_9 om_) ?_
 refine RW_m ?_
 refine RW_l (Yl_add (c := ((65 + k : Nat) : Int)) rfl rfl (wi64 om_ om_)) ?_
 refine RW_l (Yl_conv (c := ((65 + k : Nat) : Int)) rfl in_3 in_21 (wi32 om_ om_)) ?_
 refine RW_l (Yl_rune (n := 65 + k) rfl in_21 st_9 om_) ?_
 refine RW_l (Yl_concatB (a := ([65, 66, 67, 68, 69, 70, 71, 72, 73, 74] : List UInt8).take (1 + n % 7)) (b := [UInt8.ofNat (65 + k)]) rfl rfl (by simp; omega)) ?_
 refine RW_m ?_
 refine RW_l (Yl_shrN (m := n) (s := 3) (c := n / 2 ^ 3) rfl rfl (by decide) rfl) ?_
 refine RW_l (Yl_rem (c := ((n / 2 ^ 3 % 3 : Nat) : Int)) rfl rfl om_ (remN (n / 2 ^ 3) 3)) ?_
 refine RW_l (Yl_gtr rfl rfl) ?_
 refine RW_m ?_
 refine RW_l (Yl_conv (c := (h : Int)) rfl in_67 in_39 (wu64 om_ om_)) ?_
 refine RW_l (Yl_mul (c := ((h * 77 : Nat) : Int)) rfl rfl (by rw [wu64 om_ om_]; omega)) ?_
 refine RW_m ?_
 refine RW_l (Yl_conv (c := (n : Int)) rfl in_67 in_39 (wu64 om_ om_)) ?_
 refine RW_l (Yl_shl (c := ((n * 2 ^ 20 : Nat) : Int)) rfl rfl om_ (shl_val (k := .u64) (x := n) (s := 20) (Or.inr (Or.inr rfl)) (by decide) (show n * 2 ^ 20 < 2 ^ 64 by omega))) ?_
 refine RW_l (Yl_build (cs := x0.cells) pl_43 ze_43 rfl (by rw [hx0]; rfl)) ?_
 refine RW_fx rfl rfl rfl (Fx_alloc (zs := zs_43) ze_43 rfl) ?_
 rintro _ _ ⟨b11, rfl, rfl⟩
 refine RW_fx0 rfl rfl (Fx_storeA (b := b11) (off := 0) (l := zs_43) (T := 43) (cs := x0.cells) rfl rfl (by rw [Nm.length_cells]; exact sz_43) (Nm.one_cells _) rep_ (by rw [Nm.length_cells]; exact Nat.le_refl 28)) ?_
 rintro _ _ rfl
 refine RW_lv [0,1,5,6,7,9,10,11,31,32,33] ?_
 refine CW_seq ?_
 refine CW_seq ?_
 rw [spl_full _ _ (by rw [Nm.length_cells]; rfl)]
 refine CW_region ?_
 refine RW_m ?_
 refine RW_lv [0,1,5,6,7,9,10,11,31,32,33,60] ?_
 refine CW_block ?_
 refine CW_lp (σ := Nat × Nm) (fun q => [(0, v0), (1, .slice pD nD cD), (5, v5), (6, v6), (7, nv at_), (9, uv n), (10, uv h), (11, pv b11), (31, v31), (32, v32), (33, v33), (60, nv q.1)]) (fun q => (b11, blk q.2.cells 43) :: F) (fun q => q.1 ≤ 16 ∧ Mk q.2 sb) (fun q => 16 - q.1) (0, x0) ⟨by simp, hm0⟩ ?_
 rintro ⟨j, x⟩ ⟨hj, hx⟩
 simp only at hj hx ⊢
 refine CW_sr ?_
 refine RW_l (Yl_lss rfl rfl) ?_
 refine RW_lv [0,1,5,6,7,9,10,11,31,32,33,60,61] ?_
 refine CW_seq ?_
 refine CW_cd rfl (fun hc1 => ?_) (fun hc1 => ?_)
 ·refine (CW_skip (QW_lv [0,1,5,6,7,9,10,11,31,32,33,60] ?_))
  refine CW_seq ?_
  refine CW_block ?_
  refine CW_sr ?_
  refine RW_m ?_
  refine RW_a ?_
  refine RW_lv [0,1,5,6,7,9,10,11,12,31,32,33,60] ?_
  obtain ⟨yb, hyb⟩ := wrap_byte ((h / 2 ^ (j % 24) : Nat) : Int)
  refine CW_region ?_
  refine RW_m ?_
  refine RW_m ?_
  refine RW_m ?_
  refine RW_l (Yl_rem (c := ((j % 24 : Nat) : Int)) rfl rfl om_ (remN j 24)) ?_
  refine RW_l (Yl_shrB (m := h) (s := j % 24) rfl rfl om_) ?_
  refine RW_l (Yl_conv (c := (yb.toNat : Int)) rfl in_67 in_5 hyb) ?_
  refine RW_f fo_43_6 ?_
  refine RW_l (Yl_indexAN (b := b11) (off := 6) (i := j) (o' := 6 + j) rfl rfl ar_37 om_ om_) ?_
  refine RW_fx0 rfl rfl (Fx_store (v := bv yb) (b := b11) (off := 6 + j) rfl rfl sz_5 rfl rep_ (by rw [Nm.length_cells]; omega)) ?_
  rintro _ _ rfl
  refine RW_nil ?_
  refine QW_normal_block ?_
  refine (QW_lv [0,1,5,6,7,9,10,11,31,32,33,60] ?_)
  refine CW_region ?_
  refine RW_l (Yl_add (c := ((j + 1 : Nat) : Int)) rfl rfl (wi64 om_ om_)) ?_
  refine RW_m ?_
  refine RW_nil ?_
  rw [cells_setCls x om_ yb]
  exact QW_rn (j + 1, x.setCls j yb) ⟨by simp only; omega, hx.setCls j yb⟩ (by simp only; omega)
 refine CW_exit ?_
 refine QW_exit_then ?_
 refine QW_exit_then ?_
 refine QW_exit_block ?_
 refine (QW_lv [0,1,5,6,7,9,10,11,31,32,33] ?_)
 refine CW_seq ?_
 refine CW_sr ?_
 refine RW_m ?_
 refine RW_lv [0,1,5,6,7,9,10,11,31,32,33,72] ?_
 refine CW_block ?_
 refine CW_lp (σ := Nat × Nm) (fun q => [(0, v0), (1, .slice pD nD cD), (5, v5), (6, v6), (7, nv at_), (9, uv n), (10, uv h), (11, pv b11), (31, v31), (32, v32), (33, v33), (72, nv q.1)]) (fun q => (b11, blk q.2.cells 43) :: F) (fun q => q.1 ≤ 4 ∧ Mk q.2 sb) (fun q => 4 - q.1) (0, x) ⟨by simp, hx⟩ ?_
 rintro ⟨j, x⟩ ⟨hj, hx⟩
 simp only at hj hx ⊢
 refine CW_sr ?_
 refine RW_l (Yl_lss rfl rfl) ?_
 refine RW_lv [0,1,5,6,7,9,10,11,31,32,33,72,73] ?_
 refine CW_seq ?_
 refine CW_cd rfl (fun hc2 => ?_) (fun hc2 => ?_)
 ·refine (CW_skip (QW_lv [0,1,5,6,7,9,10,11,31,32,33,72] ?_))
  refine CW_seq ?_
  refine CW_block ?_
  refine CW_sr ?_
  refine RW_m ?_
  refine RW_a ?_
  refine RW_lv [0,1,5,6,7,9,10,11,13,31,32,33,72] ?_
  obtain ⟨yb, hyb⟩ := wrap_byte ((n / 2 ^ (6 * j) : Nat) : Int)
  refine CW_region ?_
  refine RW_m ?_
  refine RW_m ?_
  refine RW_m ?_
  refine RW_l (Yl_mul (c := ((6 * j : Nat) : Int)) rfl rfl (by rw [wi64 om_ om_]; omega)) ?_
  refine RW_l (Yl_shrB (m := n) (s := 6 * j) rfl rfl om_) ?_
  refine RW_l (Yl_conv (c := (yb.toNat : Int)) rfl in_67 in_5 hyb) ?_
  refine RW_f fo_43_7 ?_
  refine RW_l (Yl_indexAN (b := b11) (off := 22) (i := j) (o' := 22 + j) rfl rfl ar_38 om_ om_) ?_
  refine RW_fx0 rfl rfl (Fx_store (v := bv yb) (b := b11) (off := 22 + j) rfl rfl sz_5 rfl rep_ (by rw [Nm.length_cells]; omega)) ?_
  rintro _ _ rfl
  refine RW_nil ?_
  refine QW_normal_block ?_
  refine (QW_lv [0,1,5,6,7,9,10,11,31,32,33,72] ?_)
  refine CW_region ?_
  refine RW_l (Yl_add (c := ((j + 1 : Nat) : Int)) rfl rfl (wi64 om_ om_)) ?_
  refine RW_m ?_
  refine RW_nil ?_
  rw [cells_setSt x om_ yb]
  exact QW_rn (j + 1, x.setSt j yb) ⟨by simp only; omega, hx.setSt j yb⟩ (by simp only; omega)
 refine CW_exit ?_
 refine QW_exit_then ?_
 refine QW_exit_then ?_
 refine QW_exit_block ?_
 refine (QW_lv [0,1,5,6,7,9,10,11,31,32,33] ?_)
 refine CW_seq ?_
 refine CW_sr ?_
 refine RW_f fo_43_1 ?_
 refine RW_h (Yh_load (v := .bool sb) rfl sc_4 mem_ (by rw [← hx.stream]; rfl)) ?_
 refine RW_lv [0,1,5,6,7,9,10,11,31,32,33,85] ?_
 refine CW_cond rfl (fun hc3 => ?_) (fun hc3 => ?_)
 ·skip
  rw [show sb = true from hc3] at hx
  try clear hsb
  refine CW_sr ?_
  refine RW_m ?_
  refine RW_l (Yl_shrN (m := n) (s := 5) (c := n / 2 ^ 5) rfl rfl (by decide) rfl) ?_
  refine RW_l (Yl_rem (c := ((n / 2 ^ 5 % 300 : Nat) : Int)) rfl rfl om_ (remN (n / 2 ^ 5) 300)) ?_
  refine RW_l (Yl_conv (c := ((n / 2 ^ 5 % 300 : Nat) : Int)) rfl in_67 in_3 (wi64 om_ om_)) ?_
  refine RW_a ?_
  refine RW_lv [0,1,5,6,7,9,10,11,14,31,32,33] ?_
  refine CW_cut (σ := Nat) (fun q => [(0, v0), (1, .slice pD nD cD), (5, v5), (6, v6), (7, nv at_), (10, uv h), (11, pv b11), (14, nv q), (31, v31), (32, v32), (33, v33)]) (fun _ => (b11, blk x.cells 43) :: F) (fun q => q ≤ 9000) ?_ ?_
  ·skip
   refine CW_sr ?_
   refine RW_m ?_
   refine RW_l (Yl_shrN (m := n) (s := 14) (c := n / 2 ^ 14) rfl rfl (by decide) rfl) ?_
   refine RW_l (Yl_rem (c := ((n / 2 ^ 14 % 8 : Nat) : Int)) rfl rfl om_ (remN (n / 2 ^ 14) 8)) ?_
   refine RW_l (Yl_eql rfl rfl) ?_
   refine RW_lv [0,1,5,6,7,9,10,11,14,31,32,33,93] ?_
   refine CW_cd rfl (fun hc4 => ?_) (fun hc4 => ?_)
   ·refine CW_region ?_
    refine RW_m ?_
    refine RW_l (Yl_shrN (m := n) (s := 5) (c := n / 2 ^ 5) rfl rfl (by decide) rfl) ?_
    refine RW_l (Yl_rem (c := ((n / 2 ^ 5 % 9000 : Nat) : Int)) rfl rfl om_ (remN (n / 2 ^ 5) 9000)) ?_
    refine RW_l (Yl_conv (c := ((n / 2 ^ 5 % 9000 : Nat) : Int)) rfl in_67 in_3 (wi64 om_ om_)) ?_
    refine RW_a ?_
    refine RW_nil ?_
    first
     | exact QW_cut (n / 2 ^ 5 % 9000) (by omega) (by repeat (first | exact Prm.nil _ | exact Rem.here _ _ | apply Rem.there | apply Prm.cons)) (.cons rfl (.cons rfl (.cons rfl (.cons rfl (.cons rfl (.cons rfl (.cons rfl (.cons rfl (.cons rfl (.cons rfl (.cons rfl .nil)))))))))))
     | exact QW_cut (n / 2 ^ 5 % 300) (by omega) (by repeat (first | exact Prm.nil _ | exact Rem.here _ _ | apply Rem.there | apply Prm.cons)) (.cons rfl (.cons rfl (.cons rfl (.cons rfl (.cons rfl (.cons rfl (.cons rfl (.cons rfl (.cons rfl (.cons rfl (.cons rfl .nil)))))))))))
   refine CW_skip ?_
   first
    | exact QW_cut (n / 2 ^ 5 % 9000) (by omega) (by repeat (first | exact Prm.nil _ | exact Rem.here _ _ | apply Rem.there | apply Prm.cons)) (.cons rfl (.cons rfl (.cons rfl (.cons rfl (.cons rfl (.cons rfl (.cons rfl (.cons rfl (.cons rfl (.cons rfl (.cons rfl .nil)))))))))))
    | exact QW_cut (n / 2 ^ 5 % 300) (by omega) (by repeat (first | exact Prm.nil _ | exact Rem.here _ _ | apply Rem.there | apply Prm.cons)) (.cons rfl (.cons rfl (.cons rfl (.cons rfl (.cons rfl (.cons rfl (.cons rfl (.cons rfl (.cons rfl (.cons rfl (.cons rfl .nil)))))))))))
  rintro sz hsz
  refine CW_seq ?_
  refine CW_sr ?_
  refine RW_m ?_
  refine RW_m ?_
  refine RW_lv [0,1,5,6,7,10,11,14,31,32,33,98,99] ?_
  refine CW_block ?_
  refine CW_loop (σ := Nat × List UInt8 × Option Nat × Nat × List Value) (fun q => [(0, v0), (1, .slice pD nD cD), (5, v5), (6, v6), (7, nv at_), (10, uv h), (11, pv b11), (14, nv sz), (31, v31), (32, v32), (33, v33), (98, nv sz), (99, nv q.1)]) (fun q => (b11, blk (x.setData q.2.1 q.2.2.1 q.2.2.2.1 q.2.2.2.2).cells 43) :: (oH q.2.2.1 (bys q.2.1 ++ q.2.2.2.2) 5 ++ F)) (fun q => q.1 ≤ sz ∧ q.2.1.length = q.1 ∧ dOk q.2.2.1 q.2.1 q.2.2.2.1 q.2.2.2.2) (fun q => sz - q.1) (0, [], none, 0, x.rest) ⟨by simp, rfl, ⟨⟨rfl, rfl⟩, fun _ => rfl⟩⟩ (by rw [hx.same]; exact prm_) kp_ ?_
  rintro ⟨i, d, o, cap, r⟩ ⟨hi, hdl, hdo⟩
  simp only at hi hdl hdo ⊢
  refine CW_sr ?_
  refine RW_l (Yl_lss rfl rfl) ?_
  refine RW_lv [0,1,5,6,7,10,11,14,31,32,33,98,99,100] ?_
  refine CW_seq ?_
  refine CW_cd rfl (fun hc5 => ?_) (fun hc5 => ?_)
  ·refine (CW_skip (QW_lv [0,1,5,6,7,10,11,14,31,32,33,98,99] ?_))
   refine CW_seq ?_
   refine CW_block ?_
   refine CW_sr ?_
   refine RW_m ?_
   refine RW_a ?_
   refine RW_lv [0,1,5,6,7,10,11,14,15,31,32,33,98,99] ?_
   refine CW_seq ?_
   obtain ⟨y0, hy0⟩ := wrap_byte ((i * 7 + i / 2 ^ 8 + h / 2 ^ 9 : Nat) : Int)
   refine CW_region ?_
   refine RW_m ?_
   refine RW_l (Yl_mul (c := ((i * 7 : Nat) : Int)) rfl rfl (by rw [wi64 om_ om_]; omega)) ?_
   refine RW_m ?_
   refine RW_l (Yl_shrN (m := i) (s := 8) (c := i / 2 ^ 8) rfl rfl (by decide) rfl) ?_
   refine RW_l (Yl_add (c := ((i * 7 + i / 2 ^ 8 : Nat) : Int)) rfl rfl (wi64 om_ om_)) ?_
   refine RW_m ?_
   refine RW_l (Yl_shrN (m := h) (s := 9) (c := h / 2 ^ 9) rfl rfl (by decide) rfl) ?_
   refine RW_l (Yl_conv (c := ((h / 2 ^ 9 : Nat) : Int)) rfl in_67 in_3 (wi64 om_ om_)) ?_
   refine RW_l (Yl_add (c := ((i * 7 + i / 2 ^ 8 + h / 2 ^ 9 : Nat) : Int)) rfl rfl (wi64 om_ om_)) ?_
   refine RW_l (Yl_conv (c := (y0.toNat : Int)) rfl in_3 in_5 hy0) ?_
   refine RW_a ?_
   refine RW_lv [0,1,5,6,7,10,11,14,15,16,31,32,33,98,99] ?_
   refine CW_cut (σ := UInt8) (fun q => [(0, v0), (1, .slice pD nD cD), (5, v5), (6, v6), (7, nv at_), (10, uv h), (11, pv b11), (14, nv sz), (16, bv q), (31, v31), (32, v32), (33, v33), (98, nv sz), (99, nv i)]) (fun _ => (b11, blk (x.setData d o cap r).cells 43) :: (oH o (bys d ++ r) 5 ++ F)) (fun _ => True) ?_ ?_
   ·skip
    refine CW_sr ?_
    refine RW_m ?_
    refine RW_l (Yl_len rfl sl_23) ?_
    refine RW_l (Yl_gtr rfl rfl) ?_
    refine RW_lv [0,1,5,6,7,10,11,14,15,16,31,32,33,98,99,114] ?_
    refine CW_cd rfl (fun hc6 => ?_) (fun hc6 => ?_)
    ·rcases hD with h0 | ⟨bD, oD, lD, TD, fzD, rfl, hmD, hxD0⟩
     ·exfalso; omega
     have hatn : (at_ + i) % nD < nD := Nat.mod_lt _ om_
     obtain ⟨xD, hxD⟩ := hxD0 _ hatn
     obtain ⟨yx, hyx⟩ := xor_u8 y0 xD
     refine CW_region ?_
     refine RW_m ?_
     refine RW_m ?_
     refine RW_m ?_
     refine RW_m ?_
     refine RW_l (Yl_add (c := ((at_ + i : Nat) : Int)) rfl rfl (by rw [wi64 om_ om_]; omega)) ?_
     refine RW_m ?_
     refine RW_l (Yl_len rfl sl_23) ?_
     refine RW_l (Yl_rem (c := (((at_ + i) % nD : Nat) : Int)) rfl rfl om_ (remN (at_ + i) nD)) ?_
     refine RW_l (Yl_indexN (b := bD) (off := oD) (i := (at_ + i) % nD) (o' := oD + (at_ + i) % nD) rfl rfl sl_23 hatn om_) ?_
     refine RW_h (Yh_load (v := bv xD) rfl sc_5 ((show List.Sublist F _ by repeat (first | exact List.sublist_append_right _ _ | apply List.Sublist.cons | (refine List.Sublist.trans ?_ (List.sublist_append_right _ _)))).subset hmD) hxD) ?_
     refine RW_l (Yl_bits (c := (yx.toNat : Int)) rfl rfl (Or.inr (Or.inr rfl)) hyx) ?_
     refine RW_a ?_
     refine RW_nil ?_
     first
      | exact QW_cut yx trivial (by repeat (first | exact Prm.nil _ | exact Rem.here _ _ | apply Rem.there | apply Prm.cons)) (.cons rfl (.cons rfl (.cons rfl (.cons rfl (.cons rfl (.cons rfl (.cons rfl (.cons rfl (.cons rfl (.cons rfl (.cons rfl (.cons rfl (.cons rfl (.cons rfl .nil))))))))))))))
      | exact QW_cut y0 trivial (by repeat (first | exact Prm.nil _ | exact Rem.here _ _ | apply Rem.there | apply Prm.cons)) (.cons rfl (.cons rfl (.cons rfl (.cons rfl (.cons rfl (.cons rfl (.cons rfl (.cons rfl (.cons rfl (.cons rfl (.cons rfl (.cons rfl (.cons rfl (.cons rfl .nil))))))))))))))
    refine CW_skip ?_
    first
     | exact QW_cut yx trivial (by repeat (first | exact Prm.nil _ | exact Rem.here _ _ | apply Rem.there | apply Prm.cons)) (.cons rfl (.cons rfl (.cons rfl (.cons rfl (.cons rfl (.cons rfl (.cons rfl (.cons rfl (.cons rfl (.cons rfl (.cons rfl (.cons rfl (.cons rfl (.cons rfl .nil))))))))))))))
     | exact QW_cut y0 trivial (by repeat (first | exact Prm.nil _ | exact Rem.here _ _ | apply Rem.there | apply Prm.cons)) (.cons rfl (.cons rfl (.cons rfl (.cons rfl (.cons rfl (.cons rfl (.cons rfl (.cons rfl (.cons rfl (.cons rfl (.cons rfl (.cons rfl (.cons rfl (.cons rfl .nil))))))))))))))
   rintro y -
   refine CW_region ?_
   refine RW_f fo_43_2 ?_
   refine RW_h (Yh_lh (v := osl o d.length cap) sc_23 (hdo.val x)) ?_
   refine RW_m ?_
   refine RW_fx rfl rfl rfl (Fx_litS sl_23 ze_5 rfl rfl rfl rfl rfl) ?_
   rintro _ _ ⟨b129, rfl, rfl⟩
   refine RW_fx rfl rfl rfl (Fx_appO (xs := bys d) (r := r) (news := [bv y]) (o := o) (n := d.length) (cap := cap) (m := 1) (z0 := .int .u8 0) (q := 1) rfl rfl sl_23 by_5 ze_5 rfl rfl rem_ List.perm_middle.symm hdo.1 rfl (one_map one_bv [y]) om_ om_ om_ om_) ?_
   rintro _ _ ⟨g', cap', r', rfl, hdo', rfl⟩
   refine RW_f fo_43_2 ?_
   refine RW_fx0 rfl rfl (Fx_store (v := osl (some g') (d.length + 1) cap') (b := b11) (off := 2) rfl rfl sz_23 rfl rep_ (by rw [Nm.length_cells]; omega)) ?_
   rintro _ _ rfl
   refine RW_nil ?_
   refine QW_normal_block ?_
   refine (QW_lv [0,1,5,6,7,10,11,14,31,32,33,98,99] ?_)
   refine CW_region ?_
   refine RW_l (Yl_add (c := ((i + 1 : Nat) : Int)) rfl rfl (wi64 om_ om_)) ?_
   refine RW_m ?_
   refine RW_nil ?_
   rw [cells_dataG]
   refine QW_round (i + 1, d ++ [y], some g', cap', r') ⟨by simp only; omega, by simp [hdl], ⟨?_, fun e => nomatch e⟩⟩ (by simp only; omega) ?_ kp_
   ·simpa using hdo'
   simp only [List.map_append, List.map_cons, List.map_nil, List.cons_append, List.nil_append]; exact prm_
  refine CW_exit ?_
  refine QW_exit_then ?_
  refine QW_exit_then ?_
  refine QW_exit_block ?_
  refine (QW_lv [0,1,5,6,7,10,11,14,31,32,33] ?_)
  refine CW_region ?_
  refine RW_m ?_
  refine RW_m ?_
  refine RW_l (Yl_add (c := ((at_ + sz : Nat) : Int)) rfl rfl (wi64 om_ om_)) ?_
  refine RW_a ?_
  refine RW_lv [0,1,5,6,7,10,11,31,32,33] ?_
  first
   | (have hd2 : d.length ≤ 9000 := (by omega); have hz := hk (x.setData d o cap r) h b11 (at_ + sz) (hdo.made hx hd2) (by omega) (by omega) (by omega); rw [dOk.heap] at hz; exact hz)
   | (have hz := hk x h b11 at_ hx.made (by omega) (by omega) (by omega); rw [hx.heap] at hz; exact hz)
 skip
 refine (CW_skip (QW_lv [0,1,5,6,7,10,11,31,32,33] ?_))
 first
  | (have hd2 : d.length ≤ 9000 := (by omega); have hz := hk (x.setData d o cap r) h b11 (at_ + sz) (hdo.made hx hd2) (by omega) (by omega) (by omega); rw [dOk.heap] at hz; exact hz)
  | (have hz := hk x h b11 at_ hx.made (by omega) (by omega) (by omega); rw [hx.heap] at hz; exact hz)
theorem nodes_W {E : World} {Q : Exit → Act → World → Prop} {F : Heap} (hQ : QP Q) (g cap h : Nat) (ns : List Nm) (r : List Value) {v0 v1 v6 v7 v11 v31 v32 v33 : Value} (hg : (g, blk (nms ns ++ r) 43) ∈ F) (hn : 1 ≤ ns.length ∧ ns.length ≤ 100) (hh : h ≤ 4294967295)
  (hk : ∀ w, (w < ns.length) → CW Tryd.prog E 246 [(0, v0), (1, v1), (5, .slice (some ⟨g, 0, none⟩) ns.length cap), (6, v6), (7, v7), (11, v11), (17, nv w), (31, v31), (32, v32), (33, v33)] (F) (dig [1, 1, 1, 1, 0, 1, 2, 2, 1, 1, 0, 2, 1, 1, 1, 1, 1, 1, 1, 1] (bodyOf Tryd.f14)) Q) :
  CW Tryd.prog E 246 [(0, v0), (1, v1), (5, .slice (some ⟨g, 0, none⟩) ns.length cap), (6, v6), (7, v7), (10, uv h), (11, v11), (31, v31), (32, v32), (33, v33)] (F) (dig [1, 1, 1, 1, 0, 1, 2, 2, 1, 1, 0, 2, 1, 1, 1, 1, 1, 1] (bodyOf Tryd.f14)) Q := by
 refine CW_sr ?_
 refine RW_a ?_
 refine RW_lv [0,1,5,6,7,10,11,17,31,32,33] ?_
 refine CW_seq ?_
 refine CW_sr ?_
 refine RW_m ?_
 refine RW_l (Yl_len rfl sl_25) ?_
 refine RW_m ?_
 refine RW_lv [0,1,5,6,7,10,11,17,31,32,33,137,138] ?_
 refine CW_block ?_
 refine CW_lp (σ := Nat) (fun q => [(0, v0), (1, v1), (5, .slice (some ⟨g, 0, none⟩) ns.length cap), (6, v6), (7, v7), (10, uv h), (11, v11), (17, nv 0), (31, v31), (32, v32), (33, v33), (137, nv ns.length), (138, nv q)]) (fun _ => F) (fun q => q ≤ ns.length) (fun q => ns.length - q) 0 om_ ?_
 rintro j hj
 refine CW_sr ?_
 refine RW_l (Yl_lss rfl rfl) ?_
 refine RW_lv [0,1,5,6,7,10,11,17,31,32,33,137,138,139] ?_
 refine CW_seq ?_
 refine CW_cd rfl (fun hc1 => ?_) (fun hc1 => ?_)
 ·refine (CW_skip (QW_lv [0,1,5,6,7,10,11,17,31,32,33,137,138] ?_))
  refine CW_seq ?_
  refine CW_block ?_
  refine CW_sr ?_
  refine RW_m ?_
  refine RW_a ?_
  refine RW_lv [0,1,5,6,7,10,11,17,18,31,32,33,137,138] ?_
  refine CW_seq ?_
  have hq : (h / 2 ^ 20 + j) % ns.length < ns.length := Nat.mod_lt _ om_
  refine CW_region ?_
  refine RW_m ?_
  refine RW_l (Yl_shrN (m := h) (s := 20) (c := h / 2 ^ 20) rfl rfl (by decide) rfl) ?_
  refine RW_l (Yl_conv (c := ((h / 2 ^ 20 : Nat) : Int)) rfl in_67 in_3 (wi64 om_ om_)) ?_
  refine RW_m ?_
  refine RW_l (Yl_add (c := ((h / 2 ^ 20 + j : Nat) : Int)) rfl rfl (wi64 om_ om_)) ?_
  refine RW_m ?_
  refine RW_l (Yl_len rfl sl_25) ?_
  refine RW_l (Yl_rem (c := (((h / 2 ^ 20 + j) % ns.length : Nat) : Int)) rfl rfl om_ (remN (h / 2 ^ 20 + j) ns.length)) ?_
  refine RW_a ?_
  refine RW_lv [0,1,5,6,7,10,11,17,19,31,32,33,137,138] ?_
  refine CW_sr ?_
  refine RW_m ?_
  refine RW_l (Yl_eql rfl rfl) ?_
  refine RW_m ?_
  refine RW_bool 151 rfl (fun hg2 => ?_) (fun hg2 => ?_)
  ·replace hg2 := of_decide_eq_true hg2
   refine RW_skip rfl rfl rfl ?_
   refine RW_skip rfl rfl rfl ?_
   refine RW_skip rfl rfl rfl ?_
   refine RW_skip rfl rfl rfl ?_
   refine RW_skip rfl rfl rfl ?_
   refine RW_skip rfl rfl rfl ?_
   refine RW_l (Yl_pick_t rfl rfl) ?_
   refine RW_lv [0,1,5,6,7,10,11,17,19,31,32,33,137,138,158] ?_
   refine CW_true rfl ?_
   refine CW_sr ?_
   refine RW_m ?_
   refine RW_a ?_
   refine RW_lv [0,1,5,6,7,11,17,31,32,33] ?_
   refine CW_exit ?_
   refine QW_exit_past rfl ?_
   refine QW_exit_then ?_
   refine QW_exit_then ?_
   refine QW_exit_block ?_
   refine (QW_lv [0,1,5,6,7,11,17,31,32,33] ?_)
   first
    | exact hk ((h / 2 ^ 20 + j) % ns.length) hq
    | exact hk 0 (by omega)
  replace hg2 := of_decide_eq_false hg2
  refine RW_gy rfl rfl rfl (Yl.h (Yl_move rfl)) ?_
  refine RW_gy rfl rfl rfl (Yl.h (Yl_move rfl)) ?_
  refine RW_gy rfl rfl rfl (Yl.h (Yl_indexN (b := g) (off := 0) (i := (h / 2 ^ 20 + j) % ns.length) (o' := (h / 2 ^ 20 + j) % ns.length * 28) rfl rfl sl_25 hq om_)) ?_
  refine RW_gy rfl rfl rfl (Yl.h (Yl_field rfl fo_43_1)) ?_
  refine RW_gy rfl rfl rfl (Yh_load (v := .bool (ns.getD ((h / 2 ^ 20 + j) % ns.length) default).nd.stream) rfl sc_4 hg (at_stream hq rfl)) ?_
  refine RW_gy rfl rfl rfl (Yl.h (Yl_not rfl)) ?_
  refine RW_l (Yl_pick_f rfl rfl) ?_
  refine RW_lv [0,1,5,6,7,10,11,17,19,31,32,33,137,138,158] ?_
  refine CW_cond rfl (fun hc3 => ?_) (fun hc3 => ?_)
  ·skip
   refine CW_sr ?_
   refine RW_m ?_
   refine RW_a ?_
   refine RW_lv [0,1,5,6,7,11,17,31,32,33] ?_
   refine CW_exit ?_
   refine QW_exit_past rfl ?_
   refine QW_exit_then ?_
   refine QW_exit_then ?_
   refine QW_exit_block ?_
   refine (QW_lv [0,1,5,6,7,11,17,31,32,33] ?_)
   first
    | exact hk ((h / 2 ^ 20 + j) % ns.length) hq
    | exact hk 0 (by omega)
  skip
  refine CW_skip ?_
  refine QW_normal_block ?_
  refine (QW_lv [0,1,5,6,7,10,11,17,31,32,33,137,138] ?_)
  refine CW_region ?_
  refine RW_l (Yl_add (c := ((j + 1 : Nat) : Int)) rfl rfl (wi64 om_ om_)) ?_
  refine RW_m ?_
  refine RW_nil ?_
  exact QW_rn (j + 1) om_ om_
 refine CW_exit ?_
 refine QW_exit_then ?_
 refine QW_exit_then ?_
 refine QW_exit_block ?_
 refine (QW_lv [0,1,5,6,7,11,17,31,32,33] ?_)
 first
  | exact hk ((h / 2 ^ 20 + j) % ns.length) hq
  | exact hk 0 (by omega)

theorem nodup_len : ∀ (n : Nat) (l : List Nat), l.Nodup → (∀ x ∈ l, x < n) → l.length ≤ n := by
  intro n
  induction n with
  | zero =>
    intro l _ h
    cases l with
    | nil => exact Nat.le_refl 0
    | cons a r => exact absurd (h a (by simp)) (by omega)
  | succ n ih =>
    intro l hd h
    by_cases hm : n ∈ l
    · have h1 := ih (l.erase n) (hd.erase n) (fun x hx => by
        have h2 := (List.Nodup.mem_erase_iff hd).1 hx
        have := h x h2.2; omega)
      rw [List.length_erase_of_mem hm] at h1
      omega
    have := ih l hd (fun x hx => by
      have h2 := h x hx
      have h3 : x ≠ n := fun e => hm (e ▸ hx)
      omega)
    omega
structure PL (n : Nat) (ls : Nat → List Nat) (par : Nat → Nat) : Prop where
  mem : ∀ p j, j ∈ ls p ↔ 1 ≤ j ∧ j < n ∧ par j = p
  lt : ∀ j, 1 ≤ j → j < n → par j < j
  nd : ∀ p, (ls p).Nodup
theorem PL.add {n w : Nat} {ls ls' : Nat → List Nat} {par : Nat → Nat} (h : PL n ls par) (hn : 1 ≤ n) (hw : w < n) (hls : ∀ p, ls' p = if p = w then ls p ++ [n] else ls p) : PL (n + 1) ls' (fun j => if j = n then w else par j) := by
  refine ⟨?_, ?_, ?_⟩
  · intro p j
    rw [hls]
    by_cases hp : p = w
    · rw [if_pos hp, List.mem_append, h.mem, List.mem_singleton]
      by_cases hj : j = n
      · rw [if_pos hj]; omega
      rw [if_neg hj]; omega
    rw [if_neg hp, h.mem]
    by_cases hj : j = n
    · rw [if_pos hj]; omega
    rw [if_neg hj]; omega
  · intro j h1 h2
    by_cases hj : j = n
    · simp only [if_pos hj]; omega
    simp only [if_neg hj]; exact h.lt j h1 om_
  intro p
  rw [hls]
  by_cases hp : p = w
  · rw [if_pos hp]
    refine List.nodup_append.2 ⟨h.nd p, by simp, ?_⟩
    intro a ha b hb
    have h1 := (h.mem p a).1 ha
    rw [List.mem_singleton.1 hb]; omega
  rw [if_neg hp]; exact h.nd p
theorem PL.perm {n : Nat} {ls ls' : Nat → List Nat} {par : Nat → Nat} (h : PL n ls par) (hp : ∀ p, (ls' p).Perm (ls p)) : PL n ls' par :=
  ⟨fun p j => by rw [(hp p).mem_iff]; exact h.mem p j, h.lt, fun p => (hp p).nodup_iff.2 (h.nd p)⟩
theorem PL.len {n : Nat} {ls : Nat → List Nat} {par : Nat → Nat} (h : PL n ls par) (p : Nat) : (ls p).length ≤ n :=
  nodup_len n _ (h.nd p) (fun x hx => ((h.mem p x).1 hx).2.1)
theorem PL.one {ls : Nat → List Nat} (h : ∀ p, ls p = []) : PL 1 ls (fun _ => 0) :=
  ⟨fun p j => by rw [h]; simp; omega, fun j h1 h2 => by omega, fun p => by rw [h]; simp⟩
theorem bl_perm (A F : Heap) (bs : List Bl) (k : Nat) (h : k < bs.length) : (A ++ (blsH bs ++ F)).Perm ((bs.getD k default).heap ++ (A ++ (blsH (bs.eraseIdx k) ++ F))) := by
  refine (((blsH_perm bs k h).append_right F).append_left A).trans ?_
  rw [List.append_assoc]
  exact perm_front _ _ _
theorem bl_set (A F : Heap) (bs : List Bl) (k : Nat) (b : Bl) (h : k < bs.length) : (b.heap ++ (A ++ (blsH (bs.eraseIdx k) ++ F))).Perm (A ++ (blsH (bs.set k b) ++ F)) := by
  refine (perm_front _ _ _).trans ?_
  rw [← List.append_assoc b.heap]
  exact ((blsH_set bs k b h).append_right F).append_left A
theorem bls_val (bs : List Bl) (r : List Value) (k : Nat) (h : k < bs.length) : (bs.map Bl.val ++ r)[k]? = some (bs.getD k default).val := by
  rw [List.getElem?_append_left (by simpa using h)]
  simp [List.getD_eq_getElem?_getD, h]
theorem bls_set (bs : List Bl) (r : List Value) (k : Nat) (b : Bl) (h : k < bs.length) : (bs.map Bl.val ++ r).set k b.val = (bs.set k b).map Bl.val ++ r := by
  rw [List.set_append_left _ _ (by simpa using h), List.map_set]
theorem bl_getD_set (bs : List Bl) (k j : Nat) (b : Bl) (hk : k < bs.length) : (bs.set k b).getD j default = if k = j then b else bs.getD j default := by
  simp only [List.getD_eq_getElem?_getD, List.getElem?_set]
  split
  · simp [hk]
  rfl
theorem swap_perm (l : List Nat) {i j : Nat} (hi : i < l.length) (hj : j < l.length) : ((l.set i (l.getD j 0)).set j (l.getD i 0)).Perm l := by
  have h := List.set_set_perm hi hj
  simp only [List.getD_eq_getElem?_getD, List.getElem?_eq_getElem hi, List.getElem?_eq_getElem hj, Option.getD_some]
  exact h
theorem nats_set (l : List Nat) (r : List Value) (k x : Nat) (h : k < l.length) : (nats l ++ r).set k (nv x) = nats (l.set k x) ++ r := by
  rw [List.set_append_left _ _ (by simpa using h)]
  simp [nats, List.map_set]
theorem getD_mem {l : List Nat} {k : Nat} (h : k < l.length) : l.getD k 0 ∈ l := by
  rw [List.getD_eq_getElem?_getD, List.getElem?_eq_getElem h]; exact List.getElem_mem h

theorem nodes_P {E : World} {Q : Exit → Act → World → Prop} {F : Heap} (hQ : QP Q) (x : Nm) (b11 g cap gb capb w : Nat) (ns : List Nm) (bls : List Bl) (r rb : List Value) {v0 v1 v7 v31 v32 v33 : Value} (hl : (nms ns ++ r).length = cap * 28) (hlb : (bls.map Bl.val ++ rb).length = capb) (hw : w < bls.length) (hok : (bls.getD w default).ok) (hn : ns.length ≤ 100) (hbn : bls.length ≤ 100) (hbl : (bls.getD w default).l.length ≤ 100)
  (hk : ∀ g' cap' gb' capb' r' rb' nb, ((nms (ns ++ [x]) ++ r').length = cap' * 28) → ((((bls ++ [default]).set w nb).map Bl.val ++ rb').length = capb') → (nb.ok) → (nb.l = (bls.getD w default).l ++ [ns.length]) → QW E 246 [(0, v0), (1, v1), (5, .slice (some ⟨g', 0, none⟩) (ns.length + 1) cap'), (6, .slice (some ⟨gb', 0, none⟩) (bls.length + 1) capb'), (7, v7), (31, v31), (32, v32), (33, v33)] ((gb', blk (((bls ++ [default]).set w nb).map Bl.val ++ rb') 29) :: (g', blk (nms (ns ++ [x]) ++ r') 43) :: (blsH ((bls ++ [default]).set w nb) ++ F)) .normal Q) :
  CW Tryd.prog E 246 [(0, v0), (1, v1), (5, .slice (some ⟨g, 0, none⟩) ns.length cap), (6, .slice (some ⟨gb, 0, none⟩) bls.length capb), (7, v7), (11, pv b11), (17, nv w), (31, v31), (32, v32), (33, v33)] ((b11, blk x.cells 43) :: (g, blk (nms ns ++ r) 43) :: (gb, blk (bls.map Bl.val ++ rb) 29) :: (blsH bls ++ F)) (dig [1, 1, 1, 1, 0, 1, 2, 2, 1, 1, 0, 2, 1, 1, 1, 1, 1, 1, 1, 1] (bodyOf Tryd.f14)) Q := by
 refine CW_sr ?_
 refine RW_m ?_
 refine RW_h (Yh_loadAll (b := b11) (k := 28) (T := 43) (fz := (0, 0)) (l := x.cells) rfl ag_43 mem_ (Nm.length_cells _)) ?_
 refine RW_fx rfl rfl rfl (Fx_lit (vs := [.agg x.cells.toArray]) (css := [x.cells]) (cs := x.cells) sl_25 ze_43 rfl rfl rfl rfl rfl (by intro c hc; rw [List.mem_singleton.1 hc]; exact Nm.length_cells _) (by simp)) ?_
 rintro _ _ ⟨b45, rfl, rfl⟩
 refine RW_fx rfl rfl rfl (Fx_appTG (xs := nms ns) (r := r) (news := x.cells) (n := ns.length) (cap := cap) (m := 1) (c := 1) rfl rfl sl_25 by_43 ze_43 rfl rem_ rem_ hl (length_nms ns) (by rw [Nm.length_cells]) (Nm.one_cells _) om_ om_ om_) ?_
 rintro _ _ ⟨g', cap', r', rfl, hl', rfl⟩
 refine RW_a ?_
 refine RW_lv [0,1,5,6,7,17,31,32,33] ?_
 refine CW_sr ?_
 refine RW_m ?_
 refine RW_fx rfl rfl rfl (Fx_litS (vs := [.slice none 0 0]) sl_66 ze_29 rfl rfl rfl rfl rfl) ?_
 rintro _ _ ⟨b66, rfl, rfl⟩
 refine RW_fx rfl rfl rfl (Fx_appTG (xs := bls.map Bl.val) (r := rb) (news := [.slice none 0 0]) (n := bls.length) (cap := capb) (m := 1) (c := 1) rfl rfl sl_66 by_29 ze_29 rfl rem_ rem_ (by rw [hlb, Nat.mul_one]) (by simp) rfl (by intro u hu; rw [List.mem_singleton.1 hu]; rfl) om_ om_ om_) ?_
 rintro _ _ ⟨gb', capb', rb', rfl, hlb', rfl⟩
 refine RW_a ?_
 refine RW_lv [0,1,5,6,7,17,31,32,33] ?_
 obtain ⟨bls1, hb1⟩ : ∃ y, y = bls ++ [default] := ⟨_, rfl⟩
 have hb2 : bls.map Bl.val ++ [Value.slice none 0 0] = bls1.map Bl.val := by rw [hb1, List.map_append]; rfl
 have hb3 : blsH bls = blsH bls1 := by rw [hb1]; simp [blsH, List.flatMap_append, Bl.heap, default, instInhabitedBl]
 rw [hb2, hb3]
 rw [hb2] at hlb'
 have hlen1 : bls1.length = bls.length + 1 := by rw [hb1]; simp
 have hw1 : w < bls1.length := by omega
 have hg1 : bls1.getD w default = bls.getD w default := by rw [hb1]; simp [List.getD_eq_getElem?_getD, List.getElem?_append_left hw]
 have hok1 : (bls1.getD w default).ok := by rw [hg1]; exact hok
 have hbl1 : (bls1.getD w default).l.length ≤ 100 := by rw [hg1]; exact hbl
 have hns : nms ns ++ x.cells = nms (ns ++ [x]) := by simp [nms]
 rw [hns]
 rw [hns] at hl'
 refine CW_region ?_
 refine RW_m ?_
 refine RW_m ?_
 refine RW_m ?_
 refine RW_m ?_
 refine RW_l (Yl_indexN (b := gb') (off := 0) (i := w) (o' := w) rfl rfl sl_66 om_ om_) ?_
 refine RW_h (Yh_lh (v := (bls1.getD w default).val) sc_29 (bls_val bls1 _ w hw1)) ?_
 refine RW_m ?_
 refine RW_l (Yl_len rfl sl_25) ?_
 refine RW_l (Yl_sub (c := (ns.length : Int)) rfl rfl (by rw [wi64 om_ om_]; omega)) ?_
 refine RW_fx rfl rfl rfl (Fx_litS (vs := [nv ns.length]) sl_29 ze_3 rfl rfl rfl rfl rfl) ?_
 rintro _ _ ⟨b77, rfl, rfl⟩
 refine RW_heap ((bl_perm [(gb', blk (bls1.map Bl.val ++ rb') 29), (g', blk (nms (ns ++ [x]) ++ r') 43), (b11, blk x.cells 43)] F bls1 w hw1).cons _) ?_
 refine RW_fx (d := 178) rfl rfl rfl (Fx_appO (xs := nats (bls1.getD w default).l) (r := (bls1.getD w default).rest) (news := [nv ns.length]) (o := (bls1.getD w default).o) (n := (bls1.getD w default).l.length) (cap := (bls1.getD w default).cap) (m := 1) (c := 1) (z0 := .int .i64 0) (q := 1) rfl rfl sl_29 by_3 ze_3 rfl rfl (.here _ _) (.refl _) hok1 rfl (by intro u hu; rw [List.mem_singleton.1 hu]; rfl) om_ om_ om_ om_) ?_
 rintro _ _ ⟨g2, cap2, r2, rfl, ho2, rfl⟩
 simp only [List.cons_append, List.nil_append]
 refine RW_l (Yl_indexN (b := gb') (off := 0) (i := w) (o' := w) rfl rfl sl_66 om_ om_) ?_
 refine RW_fx0 rfl rfl (Fx_store (v := osl (some g2) ((bls1.getD w default).l.length + 1) cap2) (b := gb') (off := w) rfl rfl sz_29 rfl rep_ (by rw [List.length_append, List.length_map]; omega)) ?_
 rintro _ _ rfl
 refine RW_nil ?_
 obtain ⟨nb, hnb⟩ : ∃ y : Bl, y = ⟨(bls1.getD w default).l ++ [ns.length], some g2, cap2, r2⟩ := ⟨_, rfl⟩
 have hv : osl (some g2) ((bls1.getD w default).l.length + 1) cap2 = nb.val := by rw [hnb]; simp [Bl.val]
 rw [hv, bls_set bls1 _ w nb hw1]
 refine QW_dropB (e := (b11, _)) rem_ ?_
 have hh2 : [(g2, blk ((nats (bls1.getD w default).l ++ [nv ns.length]) ++ r2) 3)] = nb.heap := by rw [hnb]; simp [Bl.heap]
 refine QW_heap (H' := (gb', blk ((bls1.set w nb).map Bl.val ++ rb') 29) :: (g', blk (nms (ns ++ [x]) ++ r') 43) :: (blsH (bls1.set w nb) ++ F)) ?_ ?_
 ·have hp := bl_set [(gb', blk ((bls1.set w nb).map Bl.val ++ rb') 29), (g', blk (nms (ns ++ [x]) ++ r') 43)] F bls1 w nb hw1
  rw [← hh2] at hp
  exact hp
 have hz := hk g' cap' gb' capb' r' rb' nb hl'
 rw [← hb1] at hz
 refine QW_live (ks := [0, 1, 5, 6, 7, 31, 32, 33]) kp_ ?_
 exact hz (by rw [List.length_append, List.length_map, List.length_set]; rw [List.length_append, List.length_map, Nat.mul_one] at hlb'; exact hlb') (by rw [hnb]; exact ⟨by simpa using ho2.1, by simp⟩) (by rw [hnb, ← hg1])
theorem nodes_S {E : World} {Q : Exit → Act → World → Prop} {F : Heap} (hQ : QP Q) (o : Option Nat) (g cap m c N : Nat) (ns : List Nm) (r rest : List Value) (l : List Nat) {v0 v20 v181 v182 v183 : Value} (hN : ns.length = N) (hm : l.length = m) (hm1 : m ≤ 100) (ho : oOk o (nats l) rest m c 1) (hl : ∀ k ∈ l, k < N) (hns : N ≤ 100)
  (hk : ∀ l', (l'.Perm l) → CW Tryd.prog E 246 [(0, v0), (5, .slice (some ⟨g, 0, none⟩) N cap), (20, v20), (21, osl o m c), (181, v181), (182, v182), (183, v183)] (oH o (nats l' ++ rest) 3 ++ ((g, blk (nms ns ++ r) 43) :: F)) (dig [1, 1, 1, 1, 1, 0, 1, 2, 2, 1, 1, 0, 2, 1, 1] (bodyOf Tryd.f14)) Q) :
  CW Tryd.prog E 246 [(0, v0), (5, .slice (some ⟨g, 0, none⟩) N cap), (20, v20), (21, osl o m c), (181, v181), (182, v182), (183, v183)] (oH o (nats l ++ rest) 3 ++ ((g, blk (nms ns ++ r) 43) :: F)) (dig [1, 1, 1, 1, 1, 0, 1, 2, 2, 1, 1, 0, 2, 1] (bodyOf Tryd.f14)) Q := by
 refine CW_seq ?_
 refine CW_seq ?_
 obtain ⟨po, co, hpo⟩ : ∃ po co, osl o m c = .slice po m co := by
  cases o with
  | none => have h0 := ho.1; subst h0; exact ⟨none, 0, rfl⟩
  | some g => exact ⟨_, _, rfl⟩
 refine CW_region ?_
 refine RW_m ?_
 refine RW_l (Yl_len (congrArg some hpo) sl_29) ?_
 refine RW_m ?_
 refine RW_lv [0,5,20,21,181,182,183,189,190] ?_
 refine CW_block ?_
 refine CW_loop (σ := Nat × List Nat) (fun q => [(0, v0), (5, .slice (some ⟨g, 0, none⟩) N cap), (20, v20), (21, osl o m c), (181, v181), (182, v182), (183, v183), (189, nv m), (190, nv q.1)]) (fun q => oH o (nats q.2 ++ rest) 3 ++ ((g, blk (nms ns ++ r) 43) :: F)) (fun q => q.1 ≤ m ∧ q.2.Perm l) (fun q => m - q.1) (0, l) ⟨by simp, .refl _⟩ (Prm.nil _) kp_ ?_
 rintro ⟨j, l1⟩ ⟨hj, hp1⟩
 simp only at hj hp1 ⊢
 refine CW_sr ?_
 refine RW_l (Yl_lss rfl rfl) ?_
 refine RW_lv [0,5,20,21,181,182,183,189,190,191] ?_
 refine CW_seq ?_
 refine CW_cd rfl (fun hc1 => ?_) (fun hc1 => ?_)
 ·refine (CW_skip (QW_lv [0,5,20,21,181,182,183,189,190] ?_))
  refine CW_seq ?_
  refine CW_block ?_
  refine CW_sr ?_
  refine RW_m ?_
  refine RW_a ?_
  refine RW_lv [0,5,20,21,22,181,182,183,189,190] ?_
  refine CW_sr ?_
  refine RW_m ?_
  refine RW_a ?_
  refine RW_lv [0,5,20,21,23,181,182,183,189,190] ?_
  refine CW_block ?_
  obtain ⟨bo, rfl⟩ : ∃ bo, o = some bo := by
   cases o with
   | none => exact absurd ho.1 (by omega)
   | some bo => exact ⟨bo, rfl⟩
  refine CW_loop (σ := Nat × List Nat) (fun q => [(0, v0), (5, .slice (some ⟨g, 0, none⟩) N cap), (20, v20), (21, .slice (some ⟨bo, 0, none⟩) m c), (23, nv q.1), (181, v181), (182, v182), (183, v183), (189, nv m), (190, nv j)]) (fun q => (bo, blk (nats q.2 ++ rest) 3) :: (g, blk (nms ns ++ r) 43) :: F) (fun q => q.1 ≤ j ∧ q.2.Perm l) (fun q => q.1) (j, l1) ⟨Nat.le_refl _, hp1⟩ (Prm.nil _) kp_ ?_
  rintro ⟨q, l2⟩ ⟨hq, hp2⟩
  simp only at hq hp2 ⊢
  have hlen2 : l2.length = m := by rw [hp2.length_eq, hm]
  refine CW_seq ?_
  refine CW_seq ?_
  have hx1 : (l2.getD q 0) < N := hl _ (hp2.mem_iff.1 (getD_mem om_))
  have hy1 : (l2.getD q 0) < ns.length := by omega
  have hy2 : (l2.getD (q - 1) 0) < ns.length := by rw [hN]; exact hl _ (hp2.mem_iff.1 (getD_mem om_))
  have hx2 : (l2.getD (q - 1) 0) < N := hl _ (hp2.mem_iff.1 (getD_mem om_))
  refine CW_draw [] _ mixed (Sub.refl _) ?_
  refine RD_y (i := 0) rfl rfl rfl rfl kr_ (fun _ _ _ h => hQ _ _ _ _ _ h) (Yl_move rfl) ?_
  refine RD_y (i := 1) rfl rfl rfl rfl kr_ (fun _ _ _ h => hQ _ _ _ _ _ h) (Yl_gtr rfl rfl) ?_
  refine RD_y (i := 2) rfl rfl rfl rfl kr_ (fun _ _ _ h => hQ _ _ _ _ _ h) (Yl_move rfl) ?_
  refine RD_bool 196 rfl (fun hg2 => ?_) (fun hg2 => ?_)
  ·replace hg2 := of_decide_eq_true hg2
   refine RD_y (i := 3) rfl rfl rfl rfl kr_ (fun _ _ _ h => hQ _ _ _ _ _ h) (Yl_move rfl) ?_
   refine RD_y (i := 4) rfl rfl rfl rfl kr_ (fun _ _ _ h => hQ _ _ _ _ _ h) (Yl_move rfl) ?_
   refine RD_y (i := 5) rfl rfl rfl rfl kr_ (fun _ _ _ h => hQ _ _ _ _ _ h) (Yl_move rfl) ?_
   refine RD_y (i := 6) rfl rfl rfl rfl kr_ (fun _ _ _ h => hQ _ _ _ _ _ h) (Yl_indexN (b := bo) (off := 0) (i := q) (o' := q) rfl rfl sl_29 om_ om_) ?_
   refine RD_y (i := 11) rfl rfl rfl rfl kr_ (fun _ _ _ h => hQ _ _ _ _ _ h) (Yl_move rfl) ?_
   refine RD_y (i := 12) rfl rfl rfl rfl kr_ (fun _ _ _ h => hQ _ _ _ _ _ h) (Yl_move rfl) ?_
   refine RD_y (i := 13) rfl rfl rfl rfl kr_ (fun _ _ _ h => hQ _ _ _ _ _ h) (Yl_move rfl) ?_
   refine RD_y (i := 14) rfl rfl rfl rfl kr_ (fun _ _ _ h => hQ _ _ _ _ _ h) (Yl_sub (c := ((q - 1 : Nat) : Int)) rfl rfl (by rw [wi64 om_ om_]; omega)) ?_
   refine RD_y (i := 15) rfl rfl rfl rfl kr_ (fun _ _ _ h => hQ _ _ _ _ _ h) (Yl_indexN (b := bo) (off := 0) (i := (q - 1)) (o' := (q - 1)) rfl rfl sl_29 om_ om_) ?_
   refine RD_h (i := 7) #[true, true, true, true, true, true, true, false, false, false, false, true, true, true, true, true, true, true, true, true, false, false] rfl rfl rfl rfl kr_ (fun _ _ _ h => hQ _ _ _ _ _ h) (Yh_load (v := nv (l2.getD q 0)) rfl sc_3 mem_ (at_nats om_ rfl)) ?_
   refine RD_y (i := 8) rfl rfl rfl rfl kr_ (fun _ _ _ h => hQ _ _ _ _ _ h) (Yl_indexN (b := g) (off := 0) (i := (l2.getD q 0)) (o' := (l2.getD q 0) * 28) rfl rfl sl_25 hx1 om_) ?_
   refine RD_y (i := 9) rfl rfl rfl rfl kr_ (fun _ _ _ h => hQ _ _ _ _ _ h) (Yl_field rfl fo_43_0) ?_
   refine RD_h (i := 10) #[true, true, true, true, true, true, true, true, true, true, false, true, true, true, true, true, true, true, true, true, false, false] rfl rfl rfl rfl kr_ (fun _ _ _ h => hQ _ _ _ _ _ h) (Yh_lh (v := .string (bar (ns.getD (l2.getD q 0) default).nd.name)) sc_9 (at_name hy1 rfl)) ?_
   refine RD_h (i := 16) #[true, true, true, true, true, true, true, true, true, true, true, true, true, true, true, true, false, false, false, false, false, false] rfl rfl rfl rfl kr_ (fun _ _ _ h => hQ _ _ _ _ _ h) (Yh_load (v := nv (l2.getD (q - 1) 0)) rfl sc_3 mem_ (at_nats om_ rfl)) ?_
   refine RD_y (i := 17) rfl rfl rfl rfl kr_ (fun _ _ _ h => hQ _ _ _ _ _ h) (Yl_indexN (b := g) (off := 0) (i := (l2.getD (q - 1) 0)) (o' := (l2.getD (q - 1) 0) * 28) rfl rfl sl_25 hx2 om_) ?_
   refine RD_y (i := 18) rfl rfl rfl rfl kr_ (fun _ _ _ h => hQ _ _ _ _ _ h) (Yl_field rfl fo_43_0) ?_
   refine RD_h (i := 19) #[true, true, true, true, true, true, true, true, true, true, true, true, true, true, true, true, true, true, true, false, false, false] rfl rfl rfl rfl kr_ (fun _ _ _ h => hQ _ _ _ _ _ h) (Yh_lh (v := .string (bar (ns.getD (l2.getD (q - 1) 0) default).nd.name)) sc_9 (at_name hy2 rfl)) ?_
   refine RD_o 20 ?_
   refine RO_fx rfl rfl rfl rfl (Fx_callQ ok_22 (vs := [.string (bar (ns.getD (l2.getD q 0) default).nd.name), .string (bar (ns.getD (l2.getD (q - 1) 0) default).nd.name)]) (R := fun v => ∃ b, v = .bool b) rfl (Pick.nil _) (less_ct _ _)) ?_
   rintro _ _ ⟨⟨bb, rfl⟩, rfl⟩
   refine ⟨Or.inr (Sub.refl _), ?_⟩
   refine RD_y (i := 21) rfl rfl rfl rfl kr_ (fun _ _ _ h => hQ _ _ _ _ _ h) (Yl_pick_t rfl rfl) ?_
   refine (RD_done kr_ (QW_lv [0,5,20,21,23,181,182,183,189,190,215] ?_))
   refine CW_cond rfl (fun hc3 => ?_) (fun hc3 => ?_)
   ·skip
    refine (CW_skip (QW_lv [0,5,20,21,23,181,182,183,189,190] ?_))
    refine CW_seq ?_
    refine CW_block ?_
    have hpz := (swap_perm l2 (i := q) (j := q - 1) om_ om_).trans hp2
    refine CW_draw [15, 17] _ mixed (Sub.refl _) ?_
    refine RD_y (i := 0) rfl rfl rfl rfl kr_ (fun _ _ _ h => hQ _ _ _ _ _ h) (Yl_move rfl) ?_
    refine RD_y (i := 1) rfl rfl rfl rfl kr_ (fun _ _ _ h => hQ _ _ _ _ _ h) (Yl_move rfl) ?_
    refine RD_y (i := 2) rfl rfl rfl rfl kr_ (fun _ _ _ h => hQ _ _ _ _ _ h) (Yl_move rfl) ?_
    refine RD_y (i := 3) rfl rfl rfl rfl kr_ (fun _ _ _ h => hQ _ _ _ _ _ h) (Yl_move rfl) ?_
    refine RD_y (i := 4) rfl rfl rfl rfl kr_ (fun _ _ _ h => hQ _ _ _ _ _ h) (Yl_sub (c := ((q - 1 : Nat) : Int)) rfl rfl (by rw [wi64 om_ om_]; omega)) ?_
    refine RD_y (i := 5) rfl rfl rfl rfl kr_ (fun _ _ _ h => hQ _ _ _ _ _ h) (Yl_move rfl) ?_
    refine RD_y (i := 6) rfl rfl rfl rfl kr_ (fun _ _ _ h => hQ _ _ _ _ _ h) (Yl_move rfl) ?_
    refine RD_y (i := 7) rfl rfl rfl rfl kr_ (fun _ _ _ h => hQ _ _ _ _ _ h) (Yl_sub (c := ((q - 1 : Nat) : Int)) rfl rfl (by rw [wi64 om_ om_]; omega)) ?_
    refine RD_y (i := 8) rfl rfl rfl rfl kr_ (fun _ _ _ h => hQ _ _ _ _ _ h) (Yl_indexN (b := bo) (off := 0) (i := (q - 1)) (o' := (q - 1)) rfl rfl sl_29 om_ om_) ?_
    refine RD_y (i := 10) rfl rfl rfl rfl kr_ (fun _ _ _ h => hQ _ _ _ _ _ h) (Yl_move rfl) ?_
    refine RD_y (i := 11) rfl rfl rfl rfl kr_ (fun _ _ _ h => hQ _ _ _ _ _ h) (Yl_move rfl) ?_
    refine RD_y (i := 12) rfl rfl rfl rfl kr_ (fun _ _ _ h => hQ _ _ _ _ _ h) (Yl_indexN (b := bo) (off := 0) (i := q) (o' := q) rfl rfl sl_29 om_ om_) ?_
    refine RD_h (i := 9) #[true, true, true, true, true, true, true, true, true, false, true, true, true, true, false, false, false, false] rfl rfl rfl rfl kr_ (fun _ _ _ h => hQ _ _ _ _ _ h) (Yh_load (v := nv (l2.getD (q - 1) 0)) rfl sc_3 mem_ (at_nats om_ rfl)) ?_
    refine RD_h (i := 13) #[true, true, true, true, true, true, true, true, true, true, true, true, true, false, false, false, false, false] rfl rfl rfl rfl kr_ (fun _ _ _ h => hQ _ _ _ _ _ h) (Yh_load (v := nv (l2.getD q 0)) rfl sc_3 mem_ (at_nats om_ rfl)) ?_
    refine RD_y (i := 14) rfl rfl rfl rfl kr_ (fun _ _ _ h => hQ _ _ _ _ _ h) (Yl_indexN (b := bo) (off := 0) (i := q) (o' := q) rfl rfl sl_29 om_ om_) ?_
    refine RD_o 15 ?_
    refine RO_fx0 rfl rfl rfl (Fx_store (v := nv (l2.getD (q - 1) 0)) (b := bo) (off := q) rfl rfl sz_3 rfl rep_ (by simp; omega)) ?_
    rintro _ _ rfl
    refine ⟨Or.inl kr_, ?_⟩
    refine RD_y (i := 16) rfl rfl rfl rfl kr_ (fun _ _ _ h => hQ _ _ _ _ _ h) (Yl_indexN (b := bo) (off := 0) (i := (q - 1)) (o' := (q - 1)) rfl rfl sl_29 om_ om_) ?_
    refine RD_o 17 ?_
    refine RO_fx0 rfl rfl rfl (Fx_store (v := nv (l2.getD q 0)) (b := bo) (off := q - 1) rfl rfl sz_3 rfl rep_ (by simp; omega)) ?_
    rintro _ _ rfl
    refine ⟨Or.inl kr_, ?_⟩
    refine RD_done kr_ ?_
    refine QW_normal_block ?_
    refine (QW_lv [0,5,20,21,23,181,182,183,189,190] ?_)
    first
     | rw [nats_set l2 rest q (l2.getD (q - 1) 0) (by omega), nats_set (l2.set q (l2.getD (q - 1) 0)) rest (q - 1) (l2.getD q 0) (by rw [List.length_set]; omega)]
     | rw [nats_set l2 rest (q - 1) (l2.getD q 0) (by omega), nats_set (l2.set (q - 1) (l2.getD q 0)) rest q (l2.getD (q - 1) 0) (by rw [List.length_set]; omega), List.set_comm (l2.getD q 0) (l2.getD (q - 1) 0) (show q - 1 ≠ q by omega)]
    refine CW_region ?_
    refine RW_m ?_
    refine RW_l (Yl_sub (c := ((q - 1 : Nat) : Int)) rfl rfl (by rw [wi64 om_ om_]; omega)) ?_
    refine RW_a ?_
    refine RW_nil ?_
    first
     | exact QW_round (q - 1, (l2.set q (l2.getD (q - 1) 0)).set (q - 1) (l2.getD q 0)) ⟨by simp only; omega, hpz⟩ (by simp only; omega) (Prm.nil _) (.cons rfl (.cons rfl (.cons rfl (.cons rfl (.cons rfl (.cons rfl (.cons rfl (.cons rfl (.cons rfl (.cons rfl .nil))))))))))
     | (rw [List.set_comm (l2.getD q 0) (l2.getD (q - 1) 0) (show q - 1 ≠ q by omega)]; exact QW_round (q - 1, (l2.set q (l2.getD (q - 1) 0)).set (q - 1) (l2.getD q 0)) ⟨by simp only; omega, hpz⟩ (by simp only; omega) (Prm.nil _) (.cons rfl (.cons rfl (.cons rfl (.cons rfl (.cons rfl (.cons rfl (.cons rfl (.cons rfl (.cons rfl (.cons rfl .nil)))))))))))
   skip
   refine CW_exit ?_
   refine QW_exit_then ?_
   refine QW_exit_then ?_
   refine QW_exit_block ?_
   refine QW_normal_block ?_
   refine (QW_lv [0,5,20,21,181,182,183,189,190] ?_)
   refine CW_region ?_
   refine RW_l (Yl_add (c := ((j + 1 : Nat) : Int)) rfl rfl (wi64 om_ om_)) ?_
   refine RW_m ?_
   refine RW_nil ?_
   exact QW_round (j + 1, l2) ⟨by simp only; omega, hp2⟩ (by simp only; omega) (Prm.nil _) kp_
  replace hg2 := of_decide_eq_false hg2
  refine RD_skip (i := 3) rfl rfl rfl rfl kr_ (fun _ _ _ h => hQ _ _ _ _ _ h) ?_
  refine RD_skip (i := 4) rfl rfl rfl rfl kr_ (fun _ _ _ h => hQ _ _ _ _ _ h) ?_
  refine RD_skip (i := 5) rfl rfl rfl rfl kr_ (fun _ _ _ h => hQ _ _ _ _ _ h) ?_
  refine RD_skip (i := 6) rfl rfl rfl rfl kr_ (fun _ _ _ h => hQ _ _ _ _ _ h) ?_
  refine RD_skip (i := 7) rfl rfl rfl rfl kr_ (fun _ _ _ h => hQ _ _ _ _ _ h) ?_
  refine RD_skip (i := 8) rfl rfl rfl rfl kr_ (fun _ _ _ h => hQ _ _ _ _ _ h) ?_
  refine RD_skip (i := 9) rfl rfl rfl rfl kr_ (fun _ _ _ h => hQ _ _ _ _ _ h) ?_
  refine RD_skip (i := 10) rfl rfl rfl rfl kr_ (fun _ _ _ h => hQ _ _ _ _ _ h) ?_
  refine RD_skip (i := 11) rfl rfl rfl rfl kr_ (fun _ _ _ h => hQ _ _ _ _ _ h) ?_
  refine RD_skip (i := 12) rfl rfl rfl rfl kr_ (fun _ _ _ h => hQ _ _ _ _ _ h) ?_
  refine RD_skip (i := 13) rfl rfl rfl rfl kr_ (fun _ _ _ h => hQ _ _ _ _ _ h) ?_
  refine RD_skip (i := 14) rfl rfl rfl rfl kr_ (fun _ _ _ h => hQ _ _ _ _ _ h) ?_
  refine RD_skip (i := 15) rfl rfl rfl rfl kr_ (fun _ _ _ h => hQ _ _ _ _ _ h) ?_
  refine RD_skip (i := 16) rfl rfl rfl rfl kr_ (fun _ _ _ h => hQ _ _ _ _ _ h) ?_
  refine RD_skip (i := 17) rfl rfl rfl rfl kr_ (fun _ _ _ h => hQ _ _ _ _ _ h) ?_
  refine RD_skip (i := 18) rfl rfl rfl rfl kr_ (fun _ _ _ h => hQ _ _ _ _ _ h) ?_
  refine RD_skip (i := 19) rfl rfl rfl rfl kr_ (fun _ _ _ h => hQ _ _ _ _ _ h) ?_
  refine RD_skip (i := 20) rfl rfl rfl rfl kr_ (fun _ _ _ h => hQ _ _ _ _ _ h) ?_
  refine RD_y (i := 21) rfl rfl rfl rfl kr_ (fun _ _ _ h => hQ _ _ _ _ _ h) (Yl_pick_f rfl rfl) ?_
  refine (RD_done kr_ (QW_lv [0,5,20,21,23,181,182,183,189,190,215] ?_))
  refine CW_false rfl ?_
  refine CW_exit ?_
  refine QW_exit_then ?_
  refine QW_exit_then ?_
  refine QW_exit_block ?_
  refine QW_normal_block ?_
  refine (QW_lv [0,5,20,21,181,182,183,189,190] ?_)
  refine CW_region ?_
  refine RW_l (Yl_add (c := ((j + 1 : Nat) : Int)) rfl rfl (wi64 om_ om_)) ?_
  refine RW_m ?_
  refine RW_nil ?_
  exact QW_round (j + 1, l2) ⟨by simp only; omega, hp2⟩ (by simp only; omega) (Prm.nil _) kp_
 refine CW_exit ?_
 refine QW_exit_then ?_
 refine QW_exit_then ?_
 refine QW_exit_block ?_
 refine (QW_lv [0,5,20,21,181,182,183] ?_)
 exact hk l1 hp1

theorem list_set_self {α : Type} : ∀ (l : List α) (k : Nat) (x : α), l[k]? = some x → l.set k x = l := by
  intro l k x h
  apply List.ext_getElem?
  intro j
  rw [List.getElem?_set]
  split
  · rename_i e; subst e
    split
    · exact h.symm
    rename_i hz; rw [List.getElem?_eq_none om_] at h; cases h
  rfl
theorem Nm.turn_self (x : Nm) : x.turn x.nd.left x.nd.right x.nd.child = x := by cases x; rfl
theorem shape_any (g cl nN cN : Nat) (pN : Option Addr) (r rest : List Value) (D : Heap) (hnum : NumOk D pN nN) (hnN : nN ≤ 1000000000) (ns : List Nm) (l : List Nat) (o : Option Nat) (m c : Nat) (at_ : Nat)
    (hlm : l.length = m) (hm : m ≤ 20) (ho : oOk o (nats l) rest m c 1) (hnd : l.Nodup) (hl : ∀ k ∈ l, k < ns.length) (hns : ns.length ≤ 100) (hat : at_ ≤ 100) :
    Ct Tryd.prog 23 [.slice (some ⟨g, 0, none⟩) ns.length cl, osl o m c, .slice pN nN cN, nv at_] ((g, blk (nms ns ++ r) 43) :: (oH o (nats l ++ rest) 3 ++ D))
      (fun v q => ∃ ns' top, v = iv top ∧ Shp ns ns' l top ∧ q = (g, blk (nms ns' ++ r) 43) :: (oH o (nats l ++ rest) 3 ++ D)) := by
  cases o with
  | none =>
    have h0 := ho.1
    subst h0
    obtain rfl := List.eq_nil_of_length_eq_zero hlm
    refine ((shaped0_ct _ _ _ _ _).frame (G := (g, blk (nms ns ++ r) 43) :: D)).mono ?_
    rintro v q ⟨post, ⟨rfl, rfl⟩, rfl⟩
    exact ⟨ns, -1, rfl, Shp.nil ns, rfl⟩
  | some bp =>
    have h1 := ho.1
    rw [List.length_append, List.length_map, hlm, Nat.mul_one] at h1
    have hB : (at_ + 2) * 2 ^ m ≤ 1000000000000 := by
      have : 2 ^ m ≤ 2 ^ 20 := Nat.pow_le_pow_right om_ hm
      calc (at_ + 2) * 2 ^ m ≤ 102 * 2 ^ 20 := Nat.mul_le_mul om_ this
        _ ≤ 1000000000000 := by decide
    refine (shaped_ct g cl bp nN cN pN r (nats l ++ rest) D hnum hnN m ns l (some ⟨bp, 0, none⟩) m c at_ hlm (Nat.le_refl _) om_ hnd hl hns hB (.inr ⟨0, rfl, fun i hi => ?_⟩)).mono ?_
    · exact at_nats om_ om_
    rintro v q ⟨ns', top, rfl, hs, rfl⟩
    exact ⟨ns', top, rfl, hs, rfl⟩
structure LI (n : Nat) (ns : List Nm) (bls : List Bl) (par : Nat → Nat) (i : Nat) (ms : List Nm) (cs : List Bl) : Prop where
  ile : i ≤ n
  len : ms.length = n
  blen : cs.length = n
  ok : ∀ b ∈ cs, b.ok
  val : cs.map Bl.val = bls.map Bl.val
  pl : PL n (fun p => (cs.getD p default).l) par
  turned : ∀ k, ∃ l r c, ms.getD k default = (ns.getD k default).turn l r c
  tree : ∀ p, p < i → STree (lfF ms) (rtF ms) (cs.getD p default).l (chdF ms p)
  root : lfF ms 0 = -1 ∧ rtF ms 0 = -1
theorem LI.first {n : Nat} {ns : List Nm} {bls : List Bl} {par : Nat → Nat} (h1 : ns.length = n) (h2 : bls.length = n) (hok : ∀ b ∈ bls, b.ok) (hpl : PL n (fun p => (bls.getD p default).l) par) (hr : lfF ns 0 = -1 ∧ rtF ns 0 = -1) : LI n ns bls par 0 ns bls :=
  ⟨by omega, h1, h2, hok, rfl, hpl, fun k => ⟨_, _, _, (Nm.turn_self _).symm⟩, fun p hp => by omega, hr⟩
theorem LI.step {n i : Nat} {ns ms m2 : List Nm} {bls cs : List Bl} {par : Nat → Nat} {b : Bl} {l1 : List Nat} {top : Int} (h : LI n ns bls par i ms cs) (hi : i < n) (hb : cs.getD i default = b) (hp : l1.Perm b.l) (hs : Shp ms m2 l1 top) :
    LI n ns bls par (i + 1) (m2.set i ((m2.getD i default).turn (lfF m2 i) (rtF m2 i) top)) (cs.set i { b with l := l1 }) := by
  have hl2 : m2.length = n := by rw [hs.len, h.len]
  have hlen1 : l1.length = b.l.length := hp.length_eq
  have hbm : b ∈ cs := by
    rw [← hb, List.getD_eq_getElem?_getD, List.getElem?_eq_getElem (by rw [h.blen]; exact hi)]; exact List.getElem_mem _
  have hbok := h.ok b hbm
  obtain ⟨m3, e3⟩ : ∃ x, x = m2.set i ((m2.getD i default).turn (lfF m2 i) (rtF m2 i) top) := ⟨_, rfl⟩
  have g3 : ∀ k, m3.getD k default = if i = k then (m2.getD i default).turn (lfF m2 i) (rtF m2 i) top else m2.getD k default := fun k => by rw [e3]; exact getD_setN _ _ _ _ om_
  have gc : ∀ p, (cs.set i { b with l := l1 }).getD p default = if i = p then { b with l := l1 } else cs.getD p default := fun p => bl_getD_set _ _ _ _ (by rw [h.blen]; exact hi)
  have eL : ∀ k, lfF m3 k = lfF m2 k := by
    intro k; unfold lfF; rw [g3]; split
    · rename_i e; subst e; rfl
    rfl
  have eR : ∀ k, rtF m3 k = rtF m2 k := by
    intro k; unfold rtF; rw [g3]; split
    · rename_i e; subst e; rfl
    rfl
  have eC : ∀ k, i ≠ k → chdF m3 k = chdF m2 k := by
    intro k hk; unfold chdF; rw [g3, if_neg hk]
  have c2 : ∀ k, chdF m2 k = chdF ms k := by
    intro k
    by_cases hk : k ∈ l1
    · obtain ⟨l, r, e⟩ := hs.on k hk
      unfold chdF; rw [e]; rfl
    unfold chdF; rw [hs.off k hk]
  have hin : ∀ k, k ∈ l1 ↔ 1 ≤ k ∧ k < n ∧ par k = i := by
    intro k
    rw [hp.mem_iff, ← hb]; exact h.pl.mem i k
  have hval : Bl.val { b with l := l1 } = b.val := by
    unfold Bl.val; rw [hlen1]
  rw [← e3]
  refine ⟨by omega, by rw [e3, List.length_set]; exact hl2, by rw [List.length_set]; exact h.blen, ?_, ?_, ?_, ?_, ?_, ?_⟩
  · intro x hx
    rcases List.mem_or_eq_of_mem_set hx with hx | rfl
    · exact h.ok x hx
    unfold Bl.ok oOk at hbok ⊢
    simp only at hbok ⊢
    cases hbo : b.o with
    | none =>
      rw [hbo] at hbok
      simp only at hbok ⊢
      have h0 := hbok.1
      have : l1 = [] := List.eq_nil_of_length_eq_zero om_
      rw [this]; exact ⟨rfl, rfl⟩
    | some g =>
      rw [hbo] at hbok
      simp only [List.length_append, List.length_map] at hbok ⊢
      omega
  · rw [List.map_set, hval, ← h.val]
    have h1 : (cs.map Bl.val)[i]? = some b.val := by
      rw [List.getElem?_map, List.getElem?_eq_getElem (by rw [h.blen]; exact hi)]
      rw [← hb, List.getD_eq_getElem?_getD, List.getElem?_eq_getElem (by rw [h.blen]; exact hi)]; rfl
    exact list_set_self _ _ _ h1
  · refine h.pl.perm (fun p => ?_)
    show ((cs.set i { b with l := l1 }).getD p default).l.Perm _
    rw [gc]
    split
    · rename_i e; subst e; rw [hb]; exact hp
    exact .refl _
  · intro k
    obtain ⟨l, r, c, e⟩ := h.turned k
    have h2 : ∃ l r c, m2.getD k default = (ns.getD k default).turn l r c := by
      by_cases hk : k ∈ l1
      · obtain ⟨l2, r2, e2⟩ := hs.on k hk
        exact ⟨l2, r2, chdF ms k, by rw [e2, e]; rfl⟩
      exact ⟨l, r, c, by rw [hs.off k hk, e]⟩
    obtain ⟨l2, r2, c3, e2⟩ := h2
    by_cases hk : i = k
    · subst hk
      exact ⟨_, _, _, by rw [g3, if_pos rfl, e2]; rfl⟩
    exact ⟨l2, r2, c3, by rw [g3, if_neg hk, e2]⟩
  · intro p hpi
    show STree _ _ ((cs.set i { b with l := l1 }).getD p default).l _
    rw [gc]
    by_cases hpe : i = p
    · subst hpe
      rw [if_pos rfl]
      have e : chdF m3 i = top := by unfold chdF; rw [g3, if_pos rfl]; rfl
      rw [e]
      exact hs.tree.congr (fun k _ => eL k) (fun k _ => eR k)
    rw [if_neg hpe, eC p hpe, c2]
    refine (h.tree p om_).congr (fun k hk => ?_) (fun k hk => ?_)
    · have h1 := (h.pl.mem p k).1 hk
      have h2 : k ∉ l1 := fun hx => hpe (by have := (hin k).1 hx; omega)
      rw [eL]; unfold lfF; rw [hs.off k h2]
    have h1 := (h.pl.mem p k).1 hk
    have h2 : k ∉ l1 := fun hx => hpe (by have := (hin k).1 hx; omega)
    rw [eR]; unfold rtF; rw [hs.off k h2]
  have h0 : 0 ∉ l1 := fun hx => by have := (hin 0).1 hx; omega
  rw [eL, eR]
  unfold lfF rtF
  rw [hs.off 0 h0]
  exact h.root
structure Lnk (ns : List Nm) (ls : Nat → List Nat) (par : Nat → Nat) : Prop where
  pl : PL ns.length ls par
  tree : ∀ p, p < ns.length → STree (lfF ns) (rtF ns) (ls p) (chdF ns p)
  root : lfF ns 0 = -1 ∧ rtF ns 0 = -1
theorem LI.last {n : Nat} {ns ms : List Nm} {bls cs : List Bl} {par : Nat → Nat} (h : LI n ns bls par n ms cs) : Lnk ms (fun p => (cs.getD p default).l) par :=
  ⟨by rw [h.len]; exact h.pl, fun p hp => h.tree p (by rw [← h.len]; exact hp), h.root⟩
theorem oOk_same {o : Option Nat} {l l1 : List Nat} {r : List Value} {n c : Nat} (h : oOk o (nats l) r n c 1) (e : l1.length = l.length) : oOk o (nats l1) r n c 1 := by
  cases o with
  | none =>
    have h0 := h.1
    have h1 : l = [] := by have := h.2; cases l with
      | nil => rfl
      | cons a r => cases this
    subst h1
    have : l1 = [] := List.eq_nil_of_length_eq_zero e
    subst this
    exact h
  | some g =>
    have h1 := h.1
    have h2 := h.2
    refine ⟨?_, ?_⟩
    · simp only [List.length_append, List.length_map] at h1 ⊢; omega
    simp only [List.length_map] at h2 ⊢; omega
theorem Yl_minC {P : Program} {L : Fra} {dst : Option Tmp} {ty : TypeId} {pos : String} {aft : Array Edge} {gd : Option (Nat × Bool)} {x y : Operand} {k : IntKind} {m n c : Int} {ts : Array TypeId} (hx : ev L x = some (.int k m)) (hy : ev L y = some (.int k n)) (hc : (if n < m then n else m) = c) :
    Yl P L ⟨dst, .call ⟨.builtin .min, #[x, y], ts⟩, ty, pos, aft, gd⟩ (.int k c) := by rw [← hc]; exact Yl_min hx hy
theorem Yl_cutHP {P : Program} {L : Fra} {dst : Option Tmp} {ty : TypeId} {pos : String} {aft : Array Edge} {gd : Option (Nat × Bool)} {x z : Operand} {t e : TypeId} {sz m c h : Nat} {p : Option Addr} {j : IntKind} (hx : ev L x = some (.slice p m c)) (hz : ev L z = some (.int j (h : Int)))
    (ht : slOf P t = some (e, sz)) (h2 : h ≤ c) : Yl P L ⟨dst, .slice t x none (some z) none, ty, pos, aft, gd⟩ (.slice (cutAt p c 0 sz) h c) := by
  have := Yl_cutH (P := P) (dst := dst) (ty := ty) (pos := pos) (aft := aft) (gd := gd) hx hz ht om_ om_
  simp only [Int.toNat_natCast] at this
  exact this
def rootNm : Nm := mkNm [82, 111, 111, 116, 32, 69, 110, 116, 114, 121] false 0 0
structure NI (N k : Nat) (ns : List Nm) (cap : Nat) (r : List Value) (bls : List Bl) (capb : Nat) (rb : List Value) (at_ : Nat) : Prop where
  kle : k ≤ N
  len : ns.length = k + 1
  blen : bls.length = k + 1
  fit : (nms ns ++ r).length = cap * 28
  bfit : (bls.map Bl.val ++ rb).length = capb
  ok : ∀ b ∈ bls, b.ok
  pl : ∃ par, PL (k + 1) (fun p => (bls.getD p default).l) par
  root : ns.getD 0 default = rootNm
  made : ∀ j, 1 ≤ j → j < k + 1 → Made (ns.getD j default)
  at_ : at_ ≤ 9000 * k
theorem NI.first (N : Nat) : NI N 0 [rootNm] 1 [] [default] 1 [] 0 :=
  ⟨by omega, rfl, rfl, by rw [List.append_nil, length_nms]; rfl, rfl, by intro b hb; rw [List.mem_singleton.1 hb]; exact ⟨rfl, rfl⟩, ⟨_, PL.one (fun p => by cases p <;> rfl)⟩, rfl, fun j h1 h2 => by omega, by omega⟩
theorem NI.bl {N k : Nat} {ns : List Nm} {cap : Nat} {r : List Value} {bls : List Bl} {capb : Nat} {rb : List Value} {at_ : Nat} (h : NI N k ns cap r bls capb rb at_) (w : Nat) : (bls.getD w default).l.length ≤ k + 1 ∧ (w < bls.length → (bls.getD w default).ok) := by
  obtain ⟨par, hp⟩ := h.pl
  refine ⟨hp.len w, fun hw => h.ok _ ?_⟩
  rw [List.getD_eq_getElem?_getD, List.getElem?_eq_getElem hw]; exact List.getElem_mem _
theorem NI.add {N k : Nat} {ns : List Nm} {cap : Nat} {r : List Value} {bls : List Bl} {capb : Nat} {rb : List Value} {at_ cap' capb' at2 w : Nat} {r' rb' : List Value} {y : Nm} {nb : Bl} (h : NI N k ns cap r bls capb rb at_) (hk : k < N) (hw : w < ns.length) (hy : Made y)
    (hl : (nms (ns ++ [y]) ++ r').length = cap' * 28) (hb : (((bls ++ [default]).set w nb).map Bl.val ++ rb').length = capb') (hnb : nb.ok) (hnl : nb.l = (bls.getD w default).l ++ [ns.length]) (hat : at2 ≤ at_ + 9000) :
    NI N (k + 1) (ns ++ [y]) cap' r' ((bls ++ [default]).set w nb) capb' rb' at2 := by
  have hlen := h.len
  have hblen := h.blen
  have hg : ∀ p, (bls ++ [default]).getD p default = bls.getD p default := by
    intro p
    simp only [List.getD_eq_getElem?_getD, List.getElem?_append]
    split
    · rfl
    rename_i hp
    rw [List.getElem?_eq_none (show bls.length ≤ p by omega)]
    cases hpe : p - bls.length with
    | zero => rfl
    | succ n => rfl
  have hw2 : w < (bls ++ [default]).length := by simp; omega
  refine ⟨by omega, by simp [hlen], by simp [hblen], hl, hb, ?_, ?_, ?_, ?_, by have := h.at_; omega⟩
  · intro b hb
    rcases List.mem_or_eq_of_mem_set hb with hb | rfl
    · rcases List.mem_append.1 hb with hb | hb
      · exact h.ok b hb
      rw [List.mem_singleton.1 hb]; exact ⟨rfl, rfl⟩
    exact hnb
  · obtain ⟨par, hp⟩ := h.pl
    refine ⟨_, hp.add om_ (w := w) om_ (fun p => ?_)⟩
    rw [bl_getD_set _ _ _ _ hw2]
    by_cases e : p = w
    · subst e
      rw [if_pos rfl, if_pos rfl, hnl, hlen]
    rw [if_neg (fun x => e x.symm), if_neg e, hg]
  · rw [List.getD_eq_getElem?_getD, List.getElem?_append_left om_, ← List.getD_eq_getElem?_getD]; exact h.root
  intro j h1 h2
  by_cases hj : j = ns.length
  · subst hj
    simpa [List.getD_eq_getElem?_getD] using hy
  rw [List.getD_eq_getElem?_getD, List.getElem?_append_left om_, ← List.getD_eq_getElem?_getD]
  exact h.made j h1 om_
structure NodesOk (ns : List Nm) : Prop where
  len : 1 ≤ ns.length ∧ ns.length ≤ 20
  root : ∃ c, ns.getD 0 default = rootNm.turn (-1) (-1) c
  made : ∀ k, 1 ≤ k → k < ns.length → ∃ y l r c, Made y ∧ ns.getD k default = y.turn l r c
  lnk : ∃ ls par, Lnk ns ls par
theorem NI.first_link {N k : Nat} {ns : List Nm} {cap : Nat} {r : List Value} {bls : List Bl} {capb : Nat} {rb : List Value} {at_ : Nat} (h : NI N k ns cap r bls capb rb at_) : ∃ par, LI (k + 1) ns bls par 0 ns bls := by
  obtain ⟨par, hp⟩ := h.pl
  refine ⟨par, LI.first h.len h.blen h.ok hp ?_⟩
  unfold lfF rtF
  rw [h.root]
  exact ⟨rfl, rfl⟩
theorem NI.nodes {N k : Nat} {ns ms : List Nm} {cap : Nat} {r : List Value} {bls cs : List Bl} {capb : Nat} {rb : List Value} {at_ : Nat} {par : Nat → Nat} (h : NI N k ns cap r bls capb rb at_) (hN : N ≤ 19) (hL : LI (k + 1) ns bls par (k + 1) ms cs) : NodesOk ms := by
  have hlk := hL.last
  have hk := h.kle
  refine ⟨by rw [hL.len]; omega, ?_, ?_, _, _, hlk⟩
  · obtain ⟨l, r, c, e⟩ := hL.turned 0
    have h1 := hL.root
    unfold lfF rtF at h1
    rw [e] at h1
    rw [h.root] at e
    have h2 : l = -1 := h1.1
    have h3 : r = -1 := h1.2
    subst h2; subst h3
    exact ⟨c, e⟩
  intro j h1 h2
  obtain ⟨l, r, c, e⟩ := hL.turned j
  exact ⟨_, l, r, c, h.made j h1 (by rw [← hL.len]; exact h2), e⟩
theorem nmsH_congr : ∀ (a b : List Nm), a.length = b.length → (∀ k, (a.getD k default).heap = (b.getD k default).heap) → nmsH a = nmsH b := by
  intro a
  induction a with
  | nil =>
    intro b h _
    cases b with
    | nil => rfl
    | cons x r => simp at h
  | cons x r ih =>
    intro b h hk
    cases b with
    | nil => simp at h
    | cons y s =>
      have h0 := hk 0
      simp only [List.getD_cons_zero] at h0
      simp only [nmsH, List.flatMap_cons]
      rw [h0]
      congr 1
      exact ih s (by simpa using h) (fun k => by have := hk (k + 1); simpa using this)
theorem LI.heap {n i : Nat} {ns ms : List Nm} {bls cs : List Bl} {par : Nat → Nat} (h : LI n ns bls par i ms cs) (hn : ns.length = n) : nmsH ms = nmsH ns := by
  refine nmsH_congr _ _ (by rw [h.len, hn]) (fun k => ?_)
  obtain ⟨l, r, c, e⟩ := h.turned k
  rw [e]; rfl

theorem nodes_T {E : World} {Q : Exit → Act → World → Prop} {F : Heap} (hQ : QP Q) (g cap gb capb n nN cN : Nat) (pN : Option Addr) (ns : List Nm) (bls : List Bl) (r rb : List Value) (par : Nat → Nat)  (hN : NumOk F pN nN) (hnN : nN ≤ 1000000000) (hn : 1 ≤ n ∧ n ≤ 20) (h0 : LI n ns bls par 0 ns bls)
  (hk : ∀ ms cs, (LI n ns bls par n ms cs) → CW Tryd.prog E 246 [(5, .slice (some ⟨g, 0, none⟩) n cap)] ((g, blk (nms ms ++ r) 43) :: F) (dig [1, 1, 1, 1, 1, 1] (bodyOf Tryd.f14)) Q) :
  CW Tryd.prog E 246 [(0, .slice pN nN cN), (5, .slice (some ⟨g, 0, none⟩) n cap), (6, .slice (some ⟨gb, 0, none⟩) n capb)] ((g, blk (nms ns ++ r) 43) :: (gb, blk (bls.map Bl.val ++ rb) 29) :: (blsH bls ++ F)) (dig [1, 1, 1, 1, 1] (bodyOf Tryd.f14)) Q := by
 refine CW_seq ?_
 refine CW_sr ?_
 refine RW_m ?_
 refine RW_l (Yl_len rfl sl_66) ?_
 refine RW_m ?_
 refine RW_lv [0,5,181,182,183] ?_
 refine CW_block ?_
 refine CW_loop (σ := Nat × List Nm × List Bl) (fun q => [(0, .slice pN nN cN), (5, .slice (some ⟨g, 0, none⟩) n cap), (181, .slice (some ⟨gb, 0, none⟩) n capb), (182, nv n), (183, nv q.1)]) (fun q => (g, blk (nms q.2.1 ++ r) 43) :: (gb, blk (bls.map Bl.val ++ rb) 29) :: (blsH q.2.2 ++ F)) (fun q => LI n ns bls par q.1 q.2.1 q.2.2) (fun q => n - q.1) (0, ns, bls) h0 (Prm.nil _) kp_ ?_
 rintro ⟨i, ms, cs⟩ hI
 simp only at hI ⊢
 have hile := hI.ile
 have hmlen := hI.len
 have hclen := hI.blen
 refine CW_sr ?_
 refine RW_l (Yl_lss rfl rfl) ?_
 refine RW_lv [0,5,181,182,183,184] ?_
 refine CW_seq ?_
 refine CW_cd rfl (fun hc1 => ?_) (fun hc1 => ?_)
 ·refine (CW_skip (QW_lv [0,5,181,182,183] ?_))
  refine CW_seq ?_
  refine CW_block ?_
  refine CW_sr ?_
  refine RW_m ?_
  refine RW_l (Yl_indexN (b := gb) (off := 0) (i := i) (o' := i) rfl rfl sl_66 om_ om_) ?_
  refine RW_h (Yh_load (v := (cs.getD i default).val) rfl sc_29 mem_ (by rw [← hI.val]; exact bls_val cs rb i om_)) ?_
  refine RW_a ?_
  refine RW_a ?_
  refine RW_lv [0,5,20,21,181,182,183] ?_
  obtain ⟨b, hb⟩ : ∃ b, cs.getD i default = b := ⟨_, rfl⟩
  have hbm : b ∈ cs := by rw [← hb, List.getD_eq_getElem?_getD, List.getElem?_eq_getElem om_]; exact List.getElem_mem _
  have hbok : b.ok := hI.ok b hbm
  have hin : ∀ k, k ∈ b.l ↔ 1 ≤ k ∧ k < n ∧ par k = i := by intro k; rw [← hb]; exact hI.pl.mem i k
  have hnd : b.l.Nodup := by rw [← hb]; exact hI.pl.nd i
  have hblen : b.l.length ≤ n := by rw [← hb]; exact hI.pl.len i
  refine CW_heap (bl_perm [(g, blk (nms ms ++ r) 43), (gb, blk (bls.map Bl.val ++ rb) 29)] F cs i om_) ?_
  rw [hb]
  refine nodes_S (F := ((gb, blk (bls.map Bl.val ++ rb) 29) :: (blsH (cs.eraseIdx i) ++ F))) (by intro c a d v w h; exact hQ c a d v w h) b.o g cap b.l.length b.cap n ms r b.rest b.l hmlen rfl om_ hbok (fun k hk => ((hin k).1 hk).2.1) om_ ?_
  intro l1 hp1
  refine CW_heap List.perm_middle ?_
  have hct := shape_any g cap nN cN pN r b.rest ((gb, blk (bls.map Bl.val ++ rb) 29) :: (blsH (cs.eraseIdx i) ++ F)) (hN.mono (.cons _ (List.sublist_append_right _ _))) hnN ms l1 b.o b.l.length b.cap i hp1.length_eq om_ (oOk_same hbok hp1.length_eq) (hp1.nodup_iff.2 hnd) (fun k hk => by have := (hin k).1 (hp1.mem_iff.1 hk); omega) om_ om_
  rw [hmlen] at hct
  have hpk : Pick ((g, blk (nms ms ++ r) 43) :: (oH b.o (nats l1 ++ b.rest) 3 ++ ((gb, blk (bls.map Bl.val ++ rb) 29) :: (blsH (cs.eraseIdx i) ++ F)))) ((g, blk (nms ms ++ r) 43) :: (oH b.o (nats l1 ++ b.rest) 3 ++ ((gb, blk (bls.map Bl.val ++ rb) 29) :: (blsH (cs.eraseIdx i) ++ F)))) [] := by
   have hz := pick_app ((g, blk (nms ms ++ r) 43) :: (oH b.o (nats l1 ++ b.rest) 3 ++ ((gb, blk (bls.map Bl.val ++ rb) 29) :: (blsH (cs.eraseIdx i) ++ F)))) []
   rwa [List.append_nil] at hz
  refine CW_region ?_
  refine RW_m ?_
  refine RW_m ?_
  refine RW_m ?_
  refine RW_m ?_
  refine RW_m ?_
  refine RW_m ?_
  refine RW_fx rfl rfl rfl (Fx_call ok_23 (vs := [.slice (some ⟨g, 0, none⟩) n cap, osl b.o b.l.length b.cap, .slice pN nN cN, nv i]) rfl hpk hct) ?_
  rintro _ _ ⟨_, ⟨m2, top, rfl, hs, rfl⟩, rfl⟩
  simp only [List.append_nil]
  have hl2 : m2.length = n := by rw [hs.len, hmlen]
  refine RW_l (Yl_indexN (b := g) (off := 0) (i := i) (o' := i * 28) rfl rfl sl_25 om_ om_) ?_
  refine RW_f fo_43_5 ?_
  refine RW_fx0 rfl rfl (Fx_store (v := iv top) (b := g) (off := i * 28 + 5) rfl rfl sz_3 rfl (.here _ _ _) (by rw [List.length_append, length_nms]; omega)) ?_
  rintro _ _ rfl
  refine RW_nil ?_
  refine QW_normal_block ?_
  refine (QW_lv [0,5,181,182,183] ?_)
  refine CW_region ?_
  refine RW_l (Yl_add (c := ((i + 1 : Nat) : Int)) rfl rfl (wi64 om_ om_)) ?_
  refine RW_m ?_
  refine RW_nil ?_
  rw [nms_set m2 i 5 (iv top) ((m2.getD i default).turn (lfF m2 i) (rtF m2 i) top) r om_ om_ rfl]
  have hI2 := hI.step om_ hb hp1 hs
  refine QW_heap (H' := (g, blk (nms (m2.set i ((m2.getD i default).turn (lfF m2 i) (rtF m2 i) top)) ++ r) 43) :: (gb, blk (bls.map Bl.val ++ rb) 29) :: (blsH (cs.set i { b with l := l1 }) ++ F)) ?_ ?_
  ·exact (bl_set [(gb, blk (bls.map Bl.val ++ rb) 29)] F cs i { b with l := l1 } om_).cons _
  exact QW_round (i + 1, (m2.set i ((m2.getD i default).turn (lfF m2 i) (rtF m2 i) top)), cs.set i { b with l := l1 }) hI2 (by simp only; omega) (Prm.nil _) kp_
 refine CW_exit ?_
 refine QW_exit_then ?_
 refine QW_exit_then ?_
 refine QW_exit_block ?_
 refine (QW_lv [5] ?_)
 have hie : i = n := by omega
 rw [hie] at hI
 refine CW_drop (H' := (g, blk (nms ms ++ r) 43) :: F) (.cons_cons _ (.cons _ (List.sublist_append_right _ _))) ?_
 exact hk ms cs hI
structure NSt where
 k : Nat
 ns : List Nm
 g : Nat
 cap : Nat
 r : List Value
 bls : List Bl
 gb : Nat
 capb : Nat
 rb : List Value
 at_ : Nat
theorem nodesOf_ct (nN cN nD cD : Nat) (pN pD : Option Addr) (D : Heap) (hN : NumOk D pN nN) (hD : BytOk D pD nD) (hnN : nN ≤ 1000) (hcN : nN ≤ cN) (hnD : nD ≤ 10000) :
  Ct Tryd.prog 14 [.slice pN nN cN, .slice pD nD cD] D (fun v q => ∃ ns g cap r, v = .slice (some ⟨g, 0, none⟩) ns.length cap ∧ NodesOk ns ∧ (nms ns ++ r).length = cap * 28 ∧ q = (g, blk (nms ns ++ r) 43) :: (nmsH ns ++ D)) := by
 refine Ct_of Tryd.func14 rfl Tryd.ntmps14 rfl ?_
 intro E F
 simp only [numL, List.nil_append, List.cons_append]
 refine CW_sr ?_
 refine RW_a ?_
 refine RW_lv [0,1] ?_
 refine CW_sr ?_
 refine RW_l (Yl_build (cs := rootNm.cells) pl_43 ze_43 rfl rfl) ?_
 refine RW_fx rfl rfl rfl (Fx_lit (vs := [.agg rootNm.cells.toArray]) (css := [rootNm.cells]) (cs := rootNm.cells) sl_25 ze_43 rfl rfl rfl rfl rfl (by intro c hc; rw [List.mem_singleton.1 hc]; exact Nm.length_cells _) (by simp)) ?_
 rintro _ _ ⟨b25, rfl, rfl⟩
 refine RW_a ?_
 refine RW_lv [0,1,5] ?_
 refine CW_sr ?_
 refine RW_fx rfl rfl rfl (Fx_litS (vs := [.slice none 0 0]) sl_66 ze_29 rfl rfl rfl rfl rfl) ?_
 rintro _ _ ⟨b26, rfl, rfl⟩
 refine RW_a ?_
 refine RW_lv [0,1,5,6] ?_
 refine CW_sr ?_
 refine RW_a ?_
 refine RW_lv [0,1,5,6,7] ?_
 refine CW_seq ?_
 refine CW_seq ?_
 obtain ⟨N, hN1, hNn, hN19⟩ : ∃ N : Nat, (if (19 : Int) < (nN : Int) then (19 : Int) else (nN : Int)) = (N : Int) ∧ N ≤ nN ∧ N ≤ 19 := by
  by_cases h : (19 : Int) < (nN : Int)
  ·exact ⟨19, by rw [if_pos h]; rfl, by omega, by omega⟩
  exact ⟨nN, by rw [if_neg h], by omega, by omega⟩
 refine CW_region ?_
 refine RW_m ?_
 refine RW_m ?_
 refine RW_l (Yl_len rfl sl_22) ?_
 refine RW_l (Yl_minC (c := (N : Int)) rfl rfl hN1) ?_
 refine RW_l (Yl_cutHP (h := N) rfl rfl sl_22 om_) ?_
 refine RW_l (Yl_len rfl sl_22) ?_
 refine RW_m ?_
 refine RW_lv [0,1,5,6,7,31,32,33] ?_
 refine CW_block ?_
 refine CW_loop (σ := NSt) (fun s => [(0, .slice pN nN cN), (1, .slice pD nD cD), (5, .slice (some ⟨s.g, 0, none⟩) s.ns.length s.cap), (6, .slice (some ⟨s.gb, 0, none⟩) s.bls.length s.capb), (7, nv s.at_), (31, .slice (cutAt pN cN 0 1) N cN), (32, nv N), (33, nv s.k)]) (fun s => (s.g, blk (nms s.ns ++ s.r) 43) :: (s.gb, blk (s.bls.map Bl.val ++ s.rb) 29) :: (blsH s.bls ++ (nmsH s.ns ++ (D ++ F)))) (fun s => NI N s.k s.ns s.cap s.r s.bls s.capb s.rb s.at_) (fun s => N - s.k) ⟨0, [rootNm], b25, 1, [], [default], b26, 1, [], 0⟩ (NI.first N) (by rw [show nms [rootNm] ++ [] = rootNm.cells by simp [nms]]; exact prm_) kp_ ?_
 rintro ⟨k, ns, g, cap, r, bls, gb, capb, rb, at_⟩ hI
 simp only at hI ⊢
 have hkle := hI.kle
 have hlen := hI.len
 have hblen := hI.blen
 have hat := hI.at_
 refine CW_sr ?_
 refine RW_l (Yl_lss rfl rfl) ?_
 refine RW_lv [0,1,5,6,7,31,32,33,34] ?_
 refine CW_seq ?_
 refine CW_cd rfl (fun hc1 => ?_) (fun hc1 => ?_)
 ·refine (CW_skip (QW_lv [0,1,5,6,7,31,32,33] ?_))
  refine CW_seq ?_
  refine CW_block ?_
  refine CW_seq ?_
  rcases hN with h0 | ⟨bN, oN, lN, TN, fzN, rfl, hmN, hxN⟩
  ·exfalso; omega
  obtain ⟨x, hxb, hx⟩ := hxN k om_
  rw [cutAt_zero]
  refine CW_region ?_
  refine RW_m ?_
  refine RW_l (Yl_indexN (b := bN) (off := oN) (i := k) (o' := oN + k) rfl rfl sl_22 om_ om_) ?_
  refine RW_h (Yh_load (v := uv x) rfl sc_67 ((show List.Sublist D _ by repeat (first | exact List.sublist_append_left _ _ | apply List.Sublist.cons | refine List.Sublist.trans ?_ (List.sublist_append_right _ _))).subset hmN) hx) ?_
  refine RW_a ?_
  refine RW_a ?_
  refine RW_lv [0,1,5,6,7,8,9,31,32,33] ?_
  refine nodes_A (F := (g, blk (nms ns ++ r) 43) :: (gb, blk (bls.map Bl.val ++ rb) 29) :: (blsH bls ++ (nmsH ns ++ (D ++ F)))) (by intro c a d v w h; exact h) at_ k x nD cD pD (hD.mono (by repeat (first | exact List.sublist_append_left _ _ | apply List.Sublist.cons | refine List.Sublist.trans ?_ (List.sublist_append_right _ _)))) om_ hxb om_ om_ ?_
  intro y h b11 at2 hy hh hat1 hat2
  refine nodes_W (F := (b11, blk y.cells 43) :: (y.heap ++ ((g, blk (nms ns ++ r) 43) :: (gb, blk (bls.map Bl.val ++ rb) 29) :: (blsH bls ++ (nmsH ns ++ (D ++ F)))))) (by intro c a d v w h; exact h) g cap h ns r (List.Mem.tail _ (List.mem_append_right _ (List.Mem.head _))) ⟨by omega, by omega⟩ hh ?_
  intro w hw
  refine CW_heap ((perm_front y.heap ((g, blk (nms ns ++ r) 43) :: (gb, blk (bls.map Bl.val ++ rb) 29) :: blsH bls) (nmsH ns ++ (D ++ F))).cons _) ?_
  simp only [List.cons_append]
  refine nodes_P (F := y.heap ++ (nmsH ns ++ (D ++ F))) (by intro c a d v w h; exact h) y b11 g cap gb capb w ns bls r rb hI.fit hI.bfit om_ ((hI.bl w).2 om_) om_ om_ (by have := (hI.bl w).1; omega) ?_
  intro g2 cap2 gb2 capb2 r2 rb2 nb hl2 hlb2 hnb hnl
  refine QW_normal_block ?_
  refine (QW_lv [0,1,5,6,7,31,32,33] ?_)
  refine CW_region ?_
  refine RW_l (Yl_add (c := ((k + 1 : Nat) : Int)) rfl rfl (wi64 om_ om_)) ?_
  refine RW_m ?_
  refine RW_nil ?_
  have hI2 := hI.add om_ hw hy hl2 hlb2 hnb hnl om_
  rw [show ns.length + 1 = (ns ++ [y]).length by simp, show bls.length + 1 = ((bls ++ [default]).set w nb).length by simp]
  refine QW_heap (H' := (g2, blk (nms (ns ++ [y]) ++ r2) 43) :: (gb2, blk (((bls ++ [default]).set w nb).map Bl.val ++ rb2) 29) :: (blsH ((bls ++ [default]).set w nb) ++ (nmsH (ns ++ [y]) ++ (D ++ F)))) ?_ ?_
  ·refine (List.Perm.swap _ _ _).trans (((List.Perm.append_left _ ?_).cons _).cons _)
   rw [show nmsH (ns ++ [y]) = nmsH ns ++ y.heap by simp [nmsH], List.append_assoc]
   exact perm_front _ _ _
  exact QW_round ⟨k + 1, ns ++ [y], g2, cap2, r2, (bls ++ [default]).set w nb, gb2, capb2, rb2, at2⟩ hI2 (by simp only; omega) (Prm.nil _) kp_
 refine CW_exit ?_
 refine QW_exit_then ?_
 refine QW_exit_then ?_
 refine QW_exit_block ?_
 refine (QW_lv [0,5,6] ?_)
 obtain ⟨par, hL0⟩ := hI.first_link
 rw [hblen, hlen]
 refine nodes_T (F := (nmsH ns ++ (D ++ F))) (by intro c a d v w h; exact h) g cap gb capb (k + 1) nN cN pN ns bls r rb par (hN.mono (List.Sublist.trans (List.sublist_append_left _ _) (List.sublist_append_right _ _))) om_ ⟨by omega, by omega⟩ hL0 ?_
 intro ms cs hL
 refine CW_sr ?_
 refine RW_m ?_
 refine RW_a ?_
 refine RW_lv [4] ?_
 refine CW_ret ?_
 refine QW_ret1 rfl rfl ((g, blk (nms ms ++ r) 43) :: (nmsH ms ++ D)) ⟨ms, g, cap, r, by rw [hL.len], hI.nodes om_ hL, by rw [List.length_append, length_nms, hL.len, ← hI.fit, List.length_append, length_nms, hlen], rfl⟩ ?_
 rw [hL.heap hlen]
 simp only [List.cons_append, List.append_assoc]
 exact Prm.nil _

inductive FT (lf rt ch : Nat → Int) : Int → List Nat → Prop
  | nil : FT lf rt ch (-1) []
  | node {k : Nat} {a c b : List Nat} (ha : FT lf rt ch (lf k) a) (hc : FT lf rt ch (ch k) c) (hb : FT lf rt ch (rt k) b) : FT lf rt ch (k : Int) (a ++ k :: (c ++ b))
inductive OT (lf rt ch : Nat → Int) (nm : Nat → List UInt8) : Int → List (List UInt8) → List (Nat × List (List UInt8)) → Prop
  | nil {p : List (List UInt8)} : OT lf rt ch nm (-1) p []
  | node {k : Nat} {p : List (List UInt8)} {a c b : List (Nat × List (List UInt8))} (ha : OT lf rt ch nm (lf k) p a) (hc : OT lf rt ch nm (ch k) (if k = 0 then p else p ++ [nm k]) c) (hb : OT lf rt ch nm (rt k) p b) :
      OT lf rt ch nm (k : Int) p (a ++ (k, p) :: (c ++ b))
theorem FT.ot {lf rt ch : Nat → Int} {nm : Nat → List UInt8} {t : Int} {L : List Nat} (h : FT lf rt ch t L) : ∀ p, ∃ o, OT lf rt ch nm t p o ∧ o.map Prod.fst = L := by
  induction h with
  | nil => intro p; exact ⟨[], .nil, rfl⟩
  | node ha hc hb iha ihc ihb =>
    rename_i k a c b
    intro p
    obtain ⟨oa, h1, e1⟩ := iha p
    obtain ⟨oc, h2, e2⟩ := ihc (if k = 0 then p else p ++ [nm k])
    obtain ⟨ob, h3, e3⟩ := ihb p
    exact ⟨_, .node h1 h2 h3, by simp [e1, e2, e3]⟩
def below (ls : Nat → List Nat) : Nat → Nat → List Nat
  | 0, _ => []
  | f + 1, p => (ls p).flatMap fun j => j :: below ls f j
theorem FT.of_st {lf rt ch : Nat → Int} {D : Nat → List Nat} {pl : List Nat} {t : Int} (h : STree lf rt pl t) (hd : ∀ j ∈ pl, FT lf rt ch (ch j) (D j)) : FT lf rt ch t (pl.flatMap fun j => j :: D j) := by
  induction h with
  | nil => exact .nil
  | node ha hb iha ihb =>
    rename_i a b m
    have h1 := iha (fun j hj => hd j (by simp [hj]))
    have h2 := ihb (fun j hj => hd j (by simp [hj]))
    have h3 := hd m (by simp)
    have := FT.node h1 h3 h2
    simpa using this
section
variable {n : Nat} {ls : Nat → List Nat} {par : Nat → Nat} {lf rt ch : Nat → Int}
theorem below_ft (h : PL n ls par) (ht : ∀ p, p < n → STree lf rt (ls p) (ch p)) : ∀ f p, p < n → n ≤ p + f → FT lf rt ch (ch p) (below ls f p) := by
  intro f
  induction f with
  | zero => intro p h1 h2; omega
  | succ f ih =>
    intro p h1 h2
    refine FT.of_st (ht p h1) (fun j hj => ?_)
    have h3 := (h.mem p j).1 hj
    have h4 := h.lt j h3.1 h3.2.1
    exact ih j h3.2.1 om_
theorem below_mem (h : PL n ls par) : ∀ f p, p < n → ∀ x ∈ below ls f p, p < x ∧ x < n ∧ (par x = p ∨ par x ∈ below ls f p) := by
  intro f
  induction f with
  | zero => intro p _ x hx; cases hx
  | succ f ih =>
    intro p hp x hx
    obtain ⟨j, hj, hx⟩ := List.mem_flatMap.1 hx
    have h3 := (h.mem p j).1 hj
    have h4 := h.lt j h3.1 h3.2.1
    rcases List.mem_cons.1 hx with rfl | hx
    · exact ⟨by omega, h3.2.1, .inl h3.2.2⟩
    obtain ⟨h5, h6, h7⟩ := ih j h3.2.1 x hx
    refine ⟨by omega, h6, .inr (List.mem_flatMap.2 ⟨j, hj, ?_⟩)⟩
    rcases h7 with h7 | h7
    · rw [h7]; exact List.mem_cons_self ..
    exact List.mem_cons_of_mem _ h7
theorem below_nodup (h : PL n ls par) : ∀ f p, p < n → (below ls f p).Nodup := by
  intro f
  induction f with
  | zero => intro p _; exact List.nodup_nil
  | succ f ih =>
    intro p hp
    have key : ∀ x j i, j ∈ ls p → i ∈ ls p → x ∈ j :: below ls f j → x ∈ i :: below ls f i → j = i := by
      intro x
      induction x using Nat.strongRecOn with
      | _ x ihx =>
        intro j i hj hi hxj hxi
        have a1 := (h.mem p j).1 hj
        have b1 := (h.mem p i).1 hi
        have a2 := h.lt j a1.1 a1.2.1
        have b2 := h.lt i b1.1 b1.2.1
        rcases List.mem_cons.1 hxj with e1 | hxj
        · rcases List.mem_cons.1 hxi with e2 | hxi
          · omega
          have h5 := below_mem h f i b1.2.1 x hxi
          rcases h5.2.2 with h6 | h6
          · subst e1; omega
          have h7 := below_mem h f i b1.2.1 _ h6
          subst e1; omega
        rcases List.mem_cons.1 hxi with e2 | hxi
        · have h5 := below_mem h f j a1.2.1 x hxj
          rcases h5.2.2 with h6 | h6
          · subst e2; omega
          have h7 := below_mem h f j a1.2.1 _ h6
          subst e2; omega
        have h5 := below_mem h f j a1.2.1 x hxj
        have h6 := below_mem h f i b1.2.1 x hxi
        have h7 := h.lt x om_ h5.2.1
        refine ihx (par x) h7 j i hj hi ?_ ?_
        · rcases h5.2.2 with h8 | h8
          · rw [h8]; exact List.mem_cons_self ..
          exact List.mem_cons_of_mem _ h8
        rcases h6.2.2 with h8 | h8
        · rw [h8]; exact List.mem_cons_self ..
        exact List.mem_cons_of_mem _ h8
    refine List.pairwise_flatMap.2 ⟨fun j hj => ?_, ?_⟩
    · have a1 := (h.mem p j).1 hj
      refine List.nodup_cons.2 ⟨fun hx => ?_, ih j a1.2.1⟩
      have := below_mem h f j a1.2.1 j hx
      omega
    refine (h.nd p).imp_of_mem ?_
    intro j i hj hi hne x hx y hy e
    subst e
    exact hne (key x j i hj hi hx hy)
theorem below_all (h : PL n ls par) : ∀ f p q x, p < n → n ≤ p + f → q ∈ below ls f p → x ∈ ls q → x ∈ below ls f p := by
  intro f
  induction f with
  | zero => intro p q x h1 h2; omega
  | succ f ih =>
    intro p q x h1 h2 hq hx
    obtain ⟨j, hj, hq⟩ := List.mem_flatMap.1 hq
    have a1 := (h.mem p j).1 hj
    have a2 := h.lt j a1.1 a1.2.1
    refine List.mem_flatMap.2 ⟨j, hj, List.mem_cons_of_mem _ ?_⟩
    rcases List.mem_cons.1 hq with rfl | hq
    · cases f with
      | zero => omega
      | succ f => exact List.mem_flatMap.2 ⟨x, hx, List.mem_cons_self ..⟩
    exact ih j q x a1.2.1 om_ hq hx
theorem below_root (h : PL n ls par) (hn : 1 ≤ n) : ∀ x, 1 ≤ x → x < n → x ∈ below ls n 0 := by
  intro x
  induction x using Nat.strongRecOn with
  | _ x ih =>
    intro h1 h2
    have h3 := h.lt x h1 h2
    have hx : x ∈ ls (par x) := (h.mem _ x).2 ⟨h1, h2, rfl⟩
    rcases Nat.eq_zero_or_pos (par x) with h0 | h0
    · rw [h0] at hx
      cases n with
      | zero => omega
      | succ f => exact List.mem_flatMap.2 ⟨x, hx, List.mem_cons_self ..⟩
    exact below_all h n 0 (par x) x om_ om_ (ih _ h3 h0 om_) hx
end
theorem Lnk.order {ns : List Nm} {ls : Nat → List Nat} {par : Nat → Nat} (h : Lnk ns ls par) (hn : 1 ≤ ns.length) (nm : Nat → List UInt8) :
    ∃ o, OT (lfF ns) (rtF ns) (chdF ns) nm 0 [] o ∧ (o.map Prod.fst).Nodup ∧ (∀ k, k ∈ o.map Prod.fst ↔ k < ns.length) ∧ o.length ≤ ns.length := by
  have h1 := below_ft h.pl h.tree ns.length 0 om_ om_
  have h2 : FT (lfF ns) (rtF ns) (chdF ns) ((0 : Nat) : Int) ([] ++ 0 :: (below ls ns.length 0 ++ [])) := .node (by rw [h.root.1]; exact .nil) h1 (by rw [h.root.2]; exact .nil)
  obtain ⟨o, h3, h4⟩ := h2.ot (nm := nm) []
  simp only [List.nil_append, List.append_nil] at h4
  have h5 := below_mem h.pl ns.length 0 om_
  have h6 : (o.map Prod.fst).Nodup := by
    rw [h4]
    exact List.nodup_cons.2 ⟨fun hx => by have := h5 0 hx; omega, below_nodup h.pl ns.length 0 om_⟩
  have h7 : ∀ k, k ∈ o.map Prod.fst ↔ k < ns.length := by
    intro k
    rw [h4, List.mem_cons]
    constructor
    · rintro (rfl | hk)
      · omega
      exact (h5 k hk).2.1
    intro hk
    rcases Nat.eq_zero_or_pos k with h0 | h0
    · exact .inl h0
    exact .inr (below_root h.pl hn k h0 hk)
  refine ⟨o, h3, h6, h7, ?_⟩
  have := nodup_len ns.length _ h6 (fun x hx => (h7 x).1 hx)
  simpa using this
theorem trav_ot {es : List Tn} {lf rt ch : Nat → Int} {nm : Nat → List UInt8} (hN : es.length ≤ 100000) {t : Int} {p : List (List UInt8)} {o : List (Nat × List (List UInt8))} (h : OT lf rt ch nm t p o) :
    ∀ (f : Nat) (s : TS), s.bad = false → s.cnt + o.length ≤ es.length → o.length ≤ f → (∀ k ∈ o.map Prod.fst, k < es.length ∧ es.getD k default = ⟨nm k, lnkF (lf k), lnkF (ch k), lnkF (rt k)⟩) → (o.map Prod.fst).Nodup →
      ∃ s', s' = (if lnkF t = FREE then s else trav es f (lnkF t) p s) ∧ s'.bad = false ∧ s'.cnt = s.cnt + o.length ∧ s'.out = s.out ++ o.map Prod.fst ∧ (∀ k, k ∉ o.map Prod.fst → s'.pth k = s.pth k) ∧ ∀ x ∈ o, s'.pth x.1 = x.2 := by
  induction h with
  | nil =>
    intro f s hb _ _ _ _
    exact ⟨s, by rw [if_pos lnkF_none], hb, rfl, by simp, fun k _ => rfl, fun x hx => by cases hx⟩
  | node ha hc hb iha ihc ihb =>
    rename_i k p a c b
    intro f s hbad hcnt hf hk hnd
    have hlen : (a ++ (k, p) :: (c ++ b)).length = a.length + 1 + (c.length + b.length) := by simp; omega
    rw [hlen] at hcnt hf
    obtain ⟨hk1, hk2⟩ := hk k (by simp)
    have hnk : lnkF (k : Int) = k := lnkF_nat k
    cases f with
    | zero => omega
    | succ f =>
      have hmap : (a ++ (k, p) :: (c ++ b)).map Prod.fst = a.map Prod.fst ++ k :: (c.map Prod.fst ++ b.map Prod.fst) := by simp
      rw [hmap] at hnd hk
      have n1 := List.nodup_append.1 hnd
      have n2 := List.nodup_cons.1 n1.2.1
      have n3 := List.nodup_append.1 n2.2
      obtain ⟨s1, e1, b1, c1, o1, p1, q1⟩ := iha f s.call hbad (by show s.cnt + 1 + _ ≤ _; omega) om_ (fun x hx => hk x (List.mem_append_left _ hx)) n1.1
      obtain ⟨s3, e3, b3, c3, o3, p3, q3⟩ := ihc f (s1.visit k p) b1 (by show s1.cnt + _ ≤ _; rw [c1]; show s.cnt + 1 + _ + _ ≤ _; omega) om_ (fun x hx => hk x (List.mem_append_right _ (List.mem_cons_of_mem _ (List.mem_append_left _ hx)))) n3.1
      have cc3 : s3.cnt = s.cnt + 1 + a.length + c.length := by rw [c3]; show s1.cnt + _ = _; rw [c1]; rfl
      obtain ⟨s4, e4, b4, c4, o4, p4, q4⟩ := ihb f s3 b3 (by rw [cc3]; omega) om_ (fun x hx => hk x (List.mem_append_right _ (List.mem_cons_of_mem _ (List.mem_append_right _ hx)))) n3.2.1
      refine ⟨s4, ?_, b4, by rw [c4, cc3, hlen]; omega, ?_, ?_, ?_⟩
      · rw [hnk, if_neg (show ¬ k = 4294967295 by omega), trav, if_neg om_, if_neg om_]
        unfold travS
        simp only [hk2]
        rw [e4, e3, e1]
      · rw [o4, o3]
        show (s1.out ++ [k]) ++ _ ++ _ = _
        rw [o1, hmap]
        show (s.out ++ _ ++ [k]) ++ _ ++ _ = _
        simp
      · intro x hx
        rw [hmap] at hx
        simp only [List.mem_append, List.mem_cons, not_or] at hx
        rw [p4 x hx.2.2.2, p3 x hx.2.2.1]
        show (if x = k then p else s1.pth x) = _
        rw [if_neg hx.2.1, p1 x hx.1]
        rfl
      intro x hx
      simp only [List.mem_append, List.mem_cons] at hx
      have mem1 : ∀ {l : List (Nat × List (List UInt8))}, x ∈ l → x.1 ∈ l.map Prod.fst := fun h => List.mem_map.2 ⟨x, h, rfl⟩
      rcases hx with hx | hx | hx | hx
      · have m1 := mem1 hx
        have d1 : x.1 ∉ b.map Prod.fst := fun e => n1.2.2 _ m1 _ (List.mem_cons_of_mem _ (List.mem_append_right _ e)) rfl
        have d2 : x.1 ∉ c.map Prod.fst := fun e => n1.2.2 _ m1 _ (List.mem_cons_of_mem _ (List.mem_append_left _ e)) rfl
        have d3 : x.1 ≠ k := fun e => n1.2.2 _ m1 _ (List.mem_cons_self ..) e
        rw [p4 _ d1, p3 _ d2]
        show (if x.1 = k then p else s1.pth x.1) = _
        rw [if_neg d3]; exact q1 x hx
      · subst hx
        have d1 : k ∉ b.map Prod.fst := fun e => n2.1 (List.mem_append_right _ e)
        have d2 : k ∉ c.map Prod.fst := fun e => n2.1 (List.mem_append_left _ e)
        rw [p4 _ d1, p3 _ d2]
        show (if k = k then p else s1.pth k) = _
        rw [if_pos rfl]
      · have m1 := mem1 hx
        have d1 : x.1 ∉ b.map Prod.fst := fun e => n3.2.2 _ m1 _ e rfl
        rw [p4 _ d1]; exact q3 x hx
      exact q4 x hx

structure VsOk (pp : Heap) (vs : List Value) (ps : List (List (List UInt8))) : Prop where
  len : vs.length = ps.length
  get : ∀ i, i < ps.length → PathC pp (vs.getD i undef) (ps.getD i [])
theorem VsOk.nil (pp : Heap) : VsOk pp [] [] := ⟨rfl, fun i h => by simp at h⟩
theorem VsOk.more {pp qq : Heap} {vs : List Value} {ps : List (List (List UInt8))} (h : VsOk pp vs ps) (hs : ∀ x ∈ pp, x ∈ qq) : VsOk qq vs ps := ⟨h.len, fun i hi => (h.get i hi).more hs⟩
theorem VsOk.snoc {pp : Heap} {vs : List Value} {ps : List (List (List UInt8))} {v : Value} {p : List (List UInt8)} (h : VsOk pp vs ps) (hv : PathC pp v p) : VsOk pp (vs ++ [v]) (ps ++ [p]) := by
  have hl := h.len
  refine ⟨by simp [hl], fun i hi => ?_⟩
  simp only [List.getD_eq_getElem?_getD]
  rw [List.length_append, List.length_singleton] at hi
  by_cases e : i = ps.length
  · subst e
    rw [List.getElem?_append_right (Nat.le_refl _), List.getElem?_append_right om_, hl]
    simpa using hv
  have hi' : i < ps.length := by omega
  rw [List.getElem?_append_left hi', List.getElem?_append_left om_]
  have := h.get i hi'
  simpa only [List.getD_eq_getElem?_getD] using this
theorem take_strs (p : List (List UInt8)) (r : List Value) : (strs p ++ r).take p.length = strs p := by
  have h : p.length = (strs p).length := by simp
  rw [h, List.take_left]
theorem Fx_patha {E : World} {L : Fra} {H R : Heap} {dst : Option Tmp} {ty : TypeId} {pos : String} {aft : Array Edge} {gd : Option (Nat × Bool)} {x y : Operand} {g : Nat} {v : Value} {p : List (List UInt8)} {pp : Heap} (hx : ev L x = some (.slice (some ⟨g, 0, none⟩) 0 0)) (hy : ev L y = some v) (hg : Rem H (g, blk [] 9) R) (hp : PathC pp v p) (hs : ∀ x ∈ pp, x ∈ H) (hp1 : p.length ≤ 1000000) :
    Fx Tryd.prog E L H ⟨dst, .call ⟨.builtin .append, #[x, y], #[36, 36]⟩, ty, pos, aft, gd⟩ (fun u H'' => ∃ g' cap' r', u = .slice (some ⟨g', 0, none⟩) p.length cap' ∧ (strs p ++ r').length = cap' * 1 ∧ H'' = (g', blk (strs p ++ r') 9) :: R) := by
  intro n a w next Q hf hh k
  rcases hp with ⟨rfl, rfl⟩ | ⟨b, cap, r, hne, rfl, hm⟩
  · refine (Yl.h (Yl_append0 (P := Tryd.prog) hx hy sl_36 (Nat.le_refl _))).fx n a w next Q hf hh ?_
    rintro v w' H' ⟨rfl, rfl⟩ hh'
    exact k _ w' _ ⟨g, 0, [], rfl, rfl, rfl⟩ (hh'.perm hg.perm)
  refine Fx_appG (P := Tryd.prog) (xs := []) (r := []) (news := strs p) (cap := 0) hx hy sl_36 by_9 ze_9 rfl (hs _ hm) hg rfl rfl (by rw [List.drop_zero, Nat.mul_one]; exact take_strs p r) (by simp) (one_map (fun _ => rfl) p) om_ om_ om_ n a w next Q hf hh ?_
  rintro v w' H' ⟨g', cap', r', rfl, h1, rfl⟩ hh'
  rw [Nat.zero_add, List.nil_append] at *
  exact k _ w' _ ⟨g', cap', r', rfl, h1, rfl⟩ hh'
theorem strs_snoc (p : List (List UInt8)) (s : List UInt8) : strs p ++ [.string (bar s)] = strs (p ++ [s]) := by simp [strs]
theorem at_link {l : List Nm} {r : List Value} {k o : Nat} (hk : k < l.length) (ho : o = k * 28 + 3) : (nms l ++ r)[o]? = some (iv (lfF l k)) := by
  rw [ho, nms_cell l r k 3 hk om_]; rfl
theorem at_right {l : List Nm} {r : List Value} {k o : Nat} (hk : k < l.length) (ho : o = k * 28 + 4) : (nms l ++ r)[o]? = some (iv (rtF l k)) := by
  rw [ho, nms_cell l r k 4 hk om_]; rfl
theorem at_child {l : List Nm} {r : List Value} {k o : Nat} (hk : k < l.length) (ho : o = k * 28 + 5) : (nms l ++ r)[o]? = some (iv (chdF l k)) := by
  rw [ho, nms_cell l r k 5 hk om_]; rfl
def nmOf (l : List Nm) (k : Nat) : List UInt8 := (l.getD k default).nd.name
theorem at_nm {l : List Nm} {r : List Value} {k o : Nat} (hk : k < l.length) (ho : o = k * 28) : (nms l ++ r)[o]? = some (.string (bar (nmOf l k))) := at_name hk ho

def OCt (ns : List Nm) (g cap bF bn bo bp : Nat) (rn : List Value) (t : Int) (p : List (List UInt8)) (o : List (Nat × List (List UInt8))) : Prop :=
 ∀ (done : List (Nat × List (List UInt8))) (vs : List Value) (go co gp cp : Nat) (ro rp : List Value) (pp : Heap) (v : Value), PathC pp v p → VsOk pp vs (done.map Prod.snd) → (nats (done.map Prod.fst) ++ ro).length = co → (vs ++ rp).length = cp → done.length + o.length ≤ 1000 → p.length + o.length ≤ 1000 →
  Ct Tryd.prog 30 [iv t, v, pv bF, pv bn, pv bo, pv bp] ((bF, blk [.func (.func 30) #[] #[pv bF, pv bn, pv bo, pv bp]] 77) :: (bn, blk [.slice (some ⟨g, 0, none⟩) ns.length cap] 25) :: (g, blk (nms ns ++ rn) 43) :: (bo, blk [.slice (some ⟨go, 0, none⟩) done.length co] 29) :: (go, blk (nats (done.map Prod.fst) ++ ro) 3) :: (bp, blk [.slice (some ⟨gp, 0, none⟩) done.length cp] 30) :: (gp, blk (vs ++ rp) 36) :: pp)
   (fun u q => u = .tuple #[] ∧ ∃ vs' go' co' gp' cp' ro' rp' pp', VsOk pp' vs' ((done ++ o).map Prod.snd) ∧ (nats ((done ++ o).map Prod.fst) ++ ro').length = co' ∧ (vs' ++ rp').length = cp' ∧ (∀ x ∈ pp, x ∈ pp') ∧ q = (bF, blk [.func (.func 30) #[] #[pv bF, pv bn, pv bo, pv bp]] 77) :: (bn, blk [.slice (some ⟨g, 0, none⟩) ns.length cap] 25) :: (g, blk (nms ns ++ rn) 43) :: (bo, blk [.slice (some ⟨go', 0, none⟩) (done ++ o).length co'] 29) :: (go', blk (nats ((done ++ o).map Prod.fst) ++ ro') 3) :: (bp, blk [.slice (some ⟨gp', 0, none⟩) (done ++ o).length cp'] 30) :: (gp', blk (vs' ++ rp') 36) :: pp')
theorem order_nil (ns : List Nm) (g cap bF bn bo bp : Nat) (rn : List Value) (p : List (List UInt8)) : OCt ns g cap bF bn bo bp rn (-1) p [] := by
 unfold OCt
 intro done vs go co gp cp ro rp pp v hv hvs hro hrp hl hpl
 refine Ct_of Tryd.func30 rfl Tryd.ntmps30 rfl ?_
 intro E F
 simp only [numL, List.nil_append, List.cons_append]
 refine CW_seq ?_
 refine CW_sr ?_
 refine RW_m ?_
 refine RW_l (Yl_lss rfl rfl) ?_
 refine RW_lv [0,1,2,3,4,5,10] ?_
 refine CW_cd rfl (fun hc1 => ?_) (fun hc1 => ?_)
 ·refine CW_ret ?_
  refine QW_ret_then ?_
  refine QW_ret0 rfl ((bF, blk [.func (.func 30) #[] #[pv bF, pv bn, pv bo, pv bp]] 77) :: (bn, blk [.slice (some ⟨g, 0, none⟩) ns.length cap] 25) :: (g, blk (nms ns ++ rn) 43) :: (bo, blk [.slice (some ⟨go, 0, none⟩) done.length co] 29) :: (go, blk (nats (done.map Prod.fst) ++ ro) 3) :: (bp, blk [.slice (some ⟨gp, 0, none⟩) done.length cp] 30) :: (gp, blk (vs ++ rp) 36) :: pp) ⟨rfl, vs, go, co, gp, cp, ro, rp, pp, by simpa using hvs, by simpa using hro, hrp, fun _ h => h, by rw [List.append_nil]⟩ (Prm.nil _)
 exfalso; omega
theorem order_step (ns : List Nm) (g cap bF bn bo bp : Nat) (rn : List Value) (k : Nat) (hk : k < ns.length) (hk2 : ns.length ≤ 1000) (p : List (List UInt8)) (a c b : List (Nat × List (List UInt8))) (iha : OCt ns g cap bF bn bo bp rn (lfF ns k) p a) (ihc : OCt ns g cap bF bn bo bp rn (chdF ns k) (if k = 0 then p else p ++ [nmOf ns k]) c) (ihb : OCt ns g cap bF bn bo bp rn (rtF ns k) p b) : OCt ns g cap bF bn bo bp rn (k : Int) p (a ++ (k, p) :: (c ++ b)) := by
 unfold OCt at *
 intro done vs go co gp cp ro rp pp v hv hvs hro hrp hl hpl
 have hlen : (a ++ (k, p) :: (c ++ b)).length = a.length + 1 + (c.length + b.length) := by simp; omega
 rw [hlen] at hl hpl
 refine Ct_of Tryd.func30 rfl Tryd.ntmps30 rfl ?_
 intro E F
 simp only [numL, List.nil_append, List.cons_append]
 refine CW_seq ?_
 refine CW_sr ?_
 refine RW_m ?_
 refine RW_l (Yl_lss rfl rfl) ?_
 refine RW_lv [0,1,2,3,4,5,10] ?_
 refine CW_cd rfl (fun hc1 => ?_) (fun hc1 => ?_)
 ·exfalso; omega
 refine (CW_skip (QW_lv [0,1,2,3,4,5] ?_))
 refine CW_seq ?_
 have hih := iha done vs go co gp cp ro rp pp v hv hvs hro hrp om_ om_
 refine CW_draw [7] _ mixed (Sub.refl _) ?_
 refine RD_m 2 ?_
 refine RD_m 6 ?_
 refine RD_h (i := 0) #[false, true, true, true, true, true, true, false] rfl rfl rfl rfl kr_ (fun _ _ _ h => h) (Yh_ld (v := .func (.func 30) #[] #[pv bF, pv bn, pv bo, pv bp]) sc_77) ?_
 refine RD_h (i := 1) #[true, false, true, false, false, false, true, false] rfl rfl rfl rfl kr_ (fun _ _ _ h => h) (Yh_ld (v := .slice (some ⟨g, 0, none⟩) ns.length cap) sc_25) ?_
 refine RD_l 3 rfl (Yl_indexN (b := g) (off := 0) (i := k) (o' := k * 28) rfl rfl sl_25 hk om_) ?_
 refine RD_f 4 fo_43_3 ?_
 refine RD_h (i := 5) #[true, true, true, true, true, false, true, false] rfl rfl rfl rfl kr_ (fun _ _ _ h => h) (Yh_lh (v := iv (lfF ns k)) sc_3 (at_link hk rfl)) ?_
 refine RD_o 7 ?_
 refine RO_fx rfl rfl rfl rfl (Fx_callV ok_30 (fs := []) (cs := [pv bF, pv bn, pv bo, pv bp]) (vs := [iv (lfF ns k), v]) rfl rfl (by exact (Pick.cons rem_ (Pick.cons rem_ (Pick.cons rem_ (Pick.cons rem_ (Pick.cons rem_ (Pick.cons rem_ (Pick.cons rem_ (pick_app _ F))))))))) hih) ?_
 rintro _ _ ⟨_, ⟨rfl, vs1, go1, co1, gp1, cp1, ro1, rp1, pp1, hvs1, hro1, hrp1, hsub1, rfl⟩, rfl⟩
 simp only [List.cons_append]
 refine ⟨Or.inl kr_, ?_⟩
 refine (RD_done kr_ (QW_lv [0,1,2,3,4,5] ?_))
 obtain ⟨d1, hd1⟩ : ∃ d1, d1 = done ++ a := ⟨_, rfl⟩
 rw [← hd1] at hvs1 hro1
 rw [← hd1]
 replace hv := hv.more hsub1
 clear hih hvs
 have hdl : d1.length = done.length + a.length := by rw [hd1]; simp
 have hv1 := hv.one.1
 obtain ⟨d2, hd2⟩ : ∃ d2, d2 = d1 ++ [(k, p)] := ⟨_, rfl⟩
 have e1 : nats (d1.map Prod.fst) ++ [nv k] = nats (d2.map Prod.fst) := by rw [hd2]; simp
 have e2 : d1.length + 1 = d2.length := by rw [hd2]; simp
 have hvs2 := hvs1.snoc hv
 have e3 : d1.map Prod.snd ++ [p] = d2.map Prod.snd := by rw [hd2]; simp
 rw [e3] at hvs2
 obtain ⟨vs2, hvs2e⟩ : ∃ z, z = vs1 ++ [v] := ⟨_, rfl⟩
 rw [← hvs2e] at hvs2
 refine CW_cut (σ := Nat × Nat × Nat × Nat × List Value × List Value) (fun _ => [(0, nv k), (1, v), (2, pv bF), (3, pv bn)]) (fun q => (bF, blk [.func (.func 30) #[] #[pv bF, pv bn, pv bo, pv bp]] 77) :: (bn, blk [.slice (some ⟨g, 0, none⟩) ns.length cap] 25) :: (g, blk (nms ns ++ rn) 43) :: (bo, blk [.slice (some ⟨q.1, 0, none⟩) d2.length q.2.1] 29) :: (q.1, blk (nats (d2.map Prod.fst) ++ q.2.2.2.2.1) 3) :: (bp, blk [.slice (some ⟨q.2.2.1, 0, none⟩) d2.length q.2.2.2.1] 30) :: (q.2.2.1, blk (vs2 ++ q.2.2.2.2.2) 36) :: (pp1 ++ F)) (fun q => (nats (d2.map Prod.fst) ++ q.2.2.2.2.1).length = q.2.1 ∧ (vs2 ++ q.2.2.2.2.2).length = q.2.2.2.1) ?_ ?_
 ·skip
  refine CW_draw [8, 9] [(bo, blk [.slice (some ⟨go1, 0, none⟩) d1.length co1] 29), (bp, blk [.slice (some ⟨gp1, 0, none⟩) d1.length cp1] 30)] mixed sub_ ?_
  refine RD_m 1 ?_
  refine RD_m 5 ?_
  refine RD_h (i := 0) #[false, true, true, false, true, true, true, false, false, false] rfl rfl rfl rfl kr_ (fun _ _ _ h => h) (Yh_ld (v := .slice (some ⟨go1, 0, none⟩) d1.length co1) sc_29) ?_
  refine RD_h (i := 4) #[true, true, true, true, false, true, true, false, false, false] rfl rfl rfl rfl kr_ (fun _ _ _ h => h) (Yh_ld (v := .slice (some ⟨gp1, 0, none⟩) d1.length cp1) sc_30) ?_
  refine RD_two (i := 2) (j := 6) kr_ ?_ ?_
  ·skip
   refine RO_fx rfl rfl rfl rfl (Fx_litS (vs := [nv k]) sl_29 ze_3 rfl rfl rfl rfl rfl) ?_
   rintro _ _ ⟨b21, rfl, rfl⟩
   refine ⟨Or.inr sub_, ?_⟩
   refine RD_two (i := 3) (j := 6) kr_ ?_ ?_
   ·skip
    refine RO_fx rfl rfl rfl rfl (Fx_appTG (xs := nats (d1.map Prod.fst)) (r := ro1) (news := [nv k]) (n := d1.length) (cap := co1) (m := 1) (c := 1) rfl rfl sl_29 by_3 ze_3 rfl rem_ rem_ (by rw [hro1, Nat.mul_one]) (by simp) rfl (by intro u hu; rw [List.mem_singleton.1 hu]; rfl) om_ om_ om_) ?_
    rintro _ _ ⟨go2, co2, ro2, rfl, hro2, rfl⟩
    refine ⟨Or.inr sub_, ?_⟩
    refine RD_o 6 ?_
    refine RO_fx rfl rfl rfl rfl (Fx_litS (vs := [v]) sl_30 ze_36 rfl rfl rfl rfl (by simp [hv1])) ?_
    rintro _ _ ⟨b25, rfl, rfl⟩
    refine ⟨Or.inr sub_, ?_⟩
    refine RD_o 7 ?_
    refine RO_fx rfl rfl rfl rfl (Fx_appTG (xs := vs1) (r := rp1) (news := [v]) (n := d1.length) (cap := cp1) (m := 1) (c := 1) rfl rfl sl_30 by_36 ze_36 rfl rem_ rem_ (by rw [hrp1, Nat.mul_one]) (by rw [hvs1.len, List.length_map, Nat.mul_one]) rfl (by intro u hu; rw [List.mem_singleton.1 hu]; exact hv1) om_ om_ om_) ?_
    rintro _ _ ⟨gp2, cp2, rp2, rfl, hrp2, rfl⟩
    refine ⟨Or.inr sub_, ?_⟩
    refine RD_o 8 ?_
    refine RO_fx0 rfl rfl rfl (Fx_store (v := .slice (some ⟨go2, 0, none⟩) (d1.length + 1) co2) (b := bo) (off := 0) rfl rfl sz_29 rfl rep_ (by simp)) ?_
    rintro _ _ rfl
    refine ⟨Or.inl kr_, ?_⟩
    refine RD_o 9 ?_
    refine RO_fx0 rfl rfl rfl (Fx_store (v := .slice (some ⟨gp2, 0, none⟩) (d1.length + 1) cp2) (b := bp) (off := 0) rfl rfl sz_30 rfl rep_ (by simp)) ?_
    rintro _ _ rfl
    refine ⟨Or.inl kr_, ?_⟩
    refine RD_done kr_ ?_
    rw [e1] at hro2
    rw [← hvs2e] at hrp2
    rw [e1, e2, ← hvs2e]
    rw [Nat.mul_one] at hro2 hrp2
    exact QW_cu (go2, co2, gp2, cp2, ro2, rp2) ⟨hro2, hrp2⟩
   skip
   refine RO_fx rfl rfl rfl rfl (Fx_litS (vs := [v]) sl_30 ze_36 rfl rfl rfl rfl (by simp [hv1])) ?_
   rintro _ _ ⟨b25, rfl, rfl⟩
   refine ⟨Or.inr sub_, ?_⟩
   refine RD_o 3 ?_
   refine RO_fx rfl rfl rfl rfl (Fx_appTG (xs := nats (d1.map Prod.fst)) (r := ro1) (news := [nv k]) (n := d1.length) (cap := co1) (m := 1) (c := 1) rfl rfl sl_29 by_3 ze_3 rfl rem_ rem_ (by rw [hro1, Nat.mul_one]) (by simp) rfl (by intro u hu; rw [List.mem_singleton.1 hu]; rfl) om_ om_ om_) ?_
   rintro _ _ ⟨go2, co2, ro2, rfl, hro2, rfl⟩
   refine ⟨Or.inr sub_, ?_⟩
   refine RD_o 7 ?_
   refine RO_fx rfl rfl rfl rfl (Fx_appTG (xs := vs1) (r := rp1) (news := [v]) (n := d1.length) (cap := cp1) (m := 1) (c := 1) rfl rfl sl_30 by_36 ze_36 rfl rem_ rem_ (by rw [hrp1, Nat.mul_one]) (by rw [hvs1.len, List.length_map, Nat.mul_one]) rfl (by intro u hu; rw [List.mem_singleton.1 hu]; exact hv1) om_ om_ om_) ?_
   rintro _ _ ⟨gp2, cp2, rp2, rfl, hrp2, rfl⟩
   refine ⟨Or.inr sub_, ?_⟩
   refine RD_o 8 ?_
   refine RO_fx0 rfl rfl rfl (Fx_store (v := .slice (some ⟨go2, 0, none⟩) (d1.length + 1) co2) (b := bo) (off := 0) rfl rfl sz_29 rfl rep_ (by simp)) ?_
   rintro _ _ rfl
   refine ⟨Or.inl kr_, ?_⟩
   refine RD_o 9 ?_
   refine RO_fx0 rfl rfl rfl (Fx_store (v := .slice (some ⟨gp2, 0, none⟩) (d1.length + 1) cp2) (b := bp) (off := 0) rfl rfl sz_30 rfl rep_ (by simp)) ?_
   rintro _ _ rfl
   refine ⟨Or.inl kr_, ?_⟩
   refine RD_done kr_ ?_
   rw [e1] at hro2
   rw [← hvs2e] at hrp2
   rw [e1, e2, ← hvs2e]
   rw [Nat.mul_one] at hro2 hrp2
   exact QW_cu (go2, co2, gp2, cp2, ro2, rp2) ⟨hro2, hrp2⟩
  skip
  refine RO_fx rfl rfl rfl rfl (Fx_litS (vs := [v]) sl_30 ze_36 rfl rfl rfl rfl (by simp [hv1])) ?_
  rintro _ _ ⟨b25, rfl, rfl⟩
  refine ⟨Or.inr sub_, ?_⟩
  refine RD_o 2 ?_
  refine RO_fx rfl rfl rfl rfl (Fx_litS (vs := [nv k]) sl_29 ze_3 rfl rfl rfl rfl rfl) ?_
  rintro _ _ ⟨b21, rfl, rfl⟩
  refine ⟨Or.inr sub_, ?_⟩
  refine RD_o 3 ?_
  refine RO_fx rfl rfl rfl rfl (Fx_appTG (xs := nats (d1.map Prod.fst)) (r := ro1) (news := [nv k]) (n := d1.length) (cap := co1) (m := 1) (c := 1) rfl rfl sl_29 by_3 ze_3 rfl rem_ rem_ (by rw [hro1, Nat.mul_one]) (by simp) rfl (by intro u hu; rw [List.mem_singleton.1 hu]; rfl) om_ om_ om_) ?_
  rintro _ _ ⟨go2, co2, ro2, rfl, hro2, rfl⟩
  refine ⟨Or.inr sub_, ?_⟩
  refine RD_o 7 ?_
  refine RO_fx rfl rfl rfl rfl (Fx_appTG (xs := vs1) (r := rp1) (news := [v]) (n := d1.length) (cap := cp1) (m := 1) (c := 1) rfl rfl sl_30 by_36 ze_36 rfl rem_ rem_ (by rw [hrp1, Nat.mul_one]) (by rw [hvs1.len, List.length_map, Nat.mul_one]) rfl (by intro u hu; rw [List.mem_singleton.1 hu]; exact hv1) om_ om_ om_) ?_
  rintro _ _ ⟨gp2, cp2, rp2, rfl, hrp2, rfl⟩
  refine ⟨Or.inr sub_, ?_⟩
  refine RD_o 8 ?_
  refine RO_fx0 rfl rfl rfl (Fx_store (v := .slice (some ⟨go2, 0, none⟩) (d1.length + 1) co2) (b := bo) (off := 0) rfl rfl sz_29 rfl rep_ (by simp)) ?_
  rintro _ _ rfl
  refine ⟨Or.inl kr_, ?_⟩
  refine RD_o 9 ?_
  refine RO_fx0 rfl rfl rfl (Fx_store (v := .slice (some ⟨gp2, 0, none⟩) (d1.length + 1) cp2) (b := bp) (off := 0) rfl rfl sz_30 rfl rep_ (by simp)) ?_
  rintro _ _ rfl
  refine ⟨Or.inl kr_, ?_⟩
  refine RD_done kr_ ?_
  rw [e1] at hro2
  rw [← hvs2e] at hrp2
  rw [e1, e2, ← hvs2e]
  rw [Nat.mul_one] at hro2 hrp2
  exact QW_cu (go2, co2, gp2, cp2, ro2, rp2) ⟨hro2, hrp2⟩
 rintro ⟨go2, co2, gp2, cp2, ro2, rp2⟩ ⟨hro2, hrp2⟩
 simp only at hro2 hrp2 ⊢
 refine CW_sr ?_
 refine RW_m ?_
 refine RW_a ?_
 refine RW_lv [0,1,2,3,8] ?_
 refine CW_cut (σ := Heap × Value) (fun q => [(0, nv k), (1, v), (2, pv bF), (3, pv bn), (8, q.2)]) (fun q => (bF, blk [.func (.func 30) #[] #[pv bF, pv bn, pv bo, pv bp]] 77) :: (bn, blk [.slice (some ⟨g, 0, none⟩) ns.length cap] 25) :: (g, blk (nms ns ++ rn) 43) :: (bo, blk [.slice (some ⟨go2, 0, none⟩) d2.length co2] 29) :: (go2, blk (nats (d2.map Prod.fst) ++ ro2) 3) :: (bp, blk [.slice (some ⟨gp2, 0, none⟩) d2.length cp2] 30) :: (gp2, blk (vs2 ++ rp2) 36) :: (q.1 ++ F)) (fun q => (∀ x ∈ pp1, x ∈ q.1) ∧ PathC q.1 q.2 (if k = 0 then p else p ++ [nmOf ns k])) ?_ ?_
 ·skip
  refine CW_sr ?_
  refine RW_m ?_
  refine RW_l (Yl_gtr rfl rfl) ?_
  refine RW_lv [0,1,2,3,8,29] ?_
  refine CW_cd rfl (fun hc2 => ?_) (fun hc2 => ?_)
  ·refine CW_draw [] [(bn, blk [.slice (some ⟨g, 0, none⟩) ns.length cap] 25), (g, blk (nms ns ++ rn) 43)] mixed sub_ ?_
   refine RD_m 1 ?_
   refine RD_m 4 ?_
   refine RD_h (i := 3) #[true, true, true, false, true, false, false, false, false, false, false] rfl rfl rfl rfl kr_ (fun _ _ _ h => h) (Yh_ld (v := .slice (some ⟨g, 0, none⟩) ns.length cap) sc_25) ?_
   refine RD_l 5 rfl (Yl_indexN (b := g) (off := 0) (i := k) (o' := k * 28) rfl rfl sl_25 hk om_) ?_
   refine RD_f 6 fo_43_0 ?_
   refine RD_h (i := 7) #[true, true, true, true, true, true, true, false, false, false, false] rfl rfl rfl rfl kr_ (fun _ _ _ h => h) (Yh_lh (v := .string (bar (nmOf ns k))) sc_9 (at_nm hk rfl)) ?_
   refine RD_two (i := 0) (j := 8) kr_ ?_ ?_
   ·skip
    refine RO_fx rfl rfl rfl rfl (Fx_buildSlice0 sl_36) ?_
    rintro _ _ ⟨b30, rfl, rfl⟩
    refine ⟨Or.inr sub_, ?_⟩
    refine RD_two (i := 2) (j := 8) kr_ ?_ ?_
    ·skip
     refine RO_fx rfl rfl rfl rfl (Fx_patha (g := b30) (v := v) (p := p) (pp := pp1) rfl rfl rem_ hv (fun x hx => (by repeat (first | exact List.mem_append_left _ hx | apply List.Mem.tail))) om_) ?_
     rintro _ _ ⟨g32, c32, r32, rfl, hr32, rfl⟩
     refine ⟨Or.inr sub_, ?_⟩
     refine RD_o 8 ?_
     refine RO_fx rfl rfl rfl rfl (Fx_litS (vs := [.string (bar (nmOf ns k))]) sl_36 ze_9 rfl rfl rfl rfl rfl) ?_
     rintro _ _ ⟨b38, rfl, rfl⟩
     refine ⟨Or.inr sub_, ?_⟩
     refine RD_o 9 ?_
     refine RO_fx rfl rfl rfl rfl (Fx_appTG (xs := strs p) (r := r32) (news := [.string (bar (nmOf ns k))]) (n := p.length) (cap := c32) (m := 1) (c := 1) rfl rfl sl_36 by_9 ze_9 rfl rem_ rem_ hr32 (by simp) rfl (by intro u hu; rw [List.mem_singleton.1 hu]; rfl) om_ om_ om_) ?_
     rintro _ _ ⟨g39, c39, r39, rfl, hr39, rfl⟩
     refine ⟨Or.inr sub_, ?_⟩
     refine RD_a 10 ?_
     refine RD_done kr_ ?_
     first
      | (have hk0 : k = 0 := (by omega); rw [if_pos hk0]; exact QW_cut (pp1, v) ⟨fun _ h => h, hv⟩ (by repeat (first | exact Prm.nil _ | exact Rem.here _ _ | apply Rem.there | apply Prm.cons)) (.cons rfl (.cons rfl (.cons rfl (.cons rfl (.cons rfl .nil))))))
      | (have hk0 : ¬ k = 0 := (by omega); rw [if_neg hk0, strs_snoc] at *; exact QW_cut ((g39, blk (strs (p ++ [nmOf ns k]) ++ r39) 9) :: pp1, .slice (some ⟨g39, 0, none⟩) (p ++ [nmOf ns k]).length c39) ⟨fun x hx => List.Mem.tail _ hx, .inr ⟨g39, c39, r39, by simp, rfl, List.Mem.head _⟩⟩ (by simp only [List.cons_append]; repeat (first | exact Prm.nil _ | exact Rem.here _ _ | apply Rem.there | apply Prm.cons)) (.cons rfl (.cons rfl (.cons rfl (.cons rfl (.cons (by rw [List.length_append]; rfl) .nil))))))
    skip
    refine RO_fx rfl rfl rfl rfl (Fx_litS (vs := [.string (bar (nmOf ns k))]) sl_36 ze_9 rfl rfl rfl rfl rfl) ?_
    rintro _ _ ⟨b38, rfl, rfl⟩
    refine ⟨Or.inr sub_, ?_⟩
    refine RD_o 2 ?_
    refine RO_fx rfl rfl rfl rfl (Fx_patha (g := b30) (v := v) (p := p) (pp := pp1) rfl rfl rem_ hv (fun x hx => (by repeat (first | exact List.mem_append_left _ hx | apply List.Mem.tail))) om_) ?_
    rintro _ _ ⟨g32, c32, r32, rfl, hr32, rfl⟩
    refine ⟨Or.inr sub_, ?_⟩
    refine RD_o 9 ?_
    refine RO_fx rfl rfl rfl rfl (Fx_appTG (xs := strs p) (r := r32) (news := [.string (bar (nmOf ns k))]) (n := p.length) (cap := c32) (m := 1) (c := 1) rfl rfl sl_36 by_9 ze_9 rfl rem_ rem_ hr32 (by simp) rfl (by intro u hu; rw [List.mem_singleton.1 hu]; rfl) om_ om_ om_) ?_
    rintro _ _ ⟨g39, c39, r39, rfl, hr39, rfl⟩
    refine ⟨Or.inr sub_, ?_⟩
    refine RD_a 10 ?_
    refine RD_done kr_ ?_
    first
     | (have hk0 : k = 0 := (by omega); rw [if_pos hk0]; exact QW_cut (pp1, v) ⟨fun _ h => h, hv⟩ (by repeat (first | exact Prm.nil _ | exact Rem.here _ _ | apply Rem.there | apply Prm.cons)) (.cons rfl (.cons rfl (.cons rfl (.cons rfl (.cons rfl .nil))))))
     | (have hk0 : ¬ k = 0 := (by omega); rw [if_neg hk0, strs_snoc] at *; exact QW_cut ((g39, blk (strs (p ++ [nmOf ns k]) ++ r39) 9) :: pp1, .slice (some ⟨g39, 0, none⟩) (p ++ [nmOf ns k]).length c39) ⟨fun x hx => List.Mem.tail _ hx, .inr ⟨g39, c39, r39, by simp, rfl, List.Mem.head _⟩⟩ (by simp only [List.cons_append]; repeat (first | exact Prm.nil _ | exact Rem.here _ _ | apply Rem.there | apply Prm.cons)) (.cons rfl (.cons rfl (.cons rfl (.cons rfl (.cons (by rw [List.length_append]; rfl) .nil))))))
   skip
   refine RO_fx rfl rfl rfl rfl (Fx_litS (vs := [.string (bar (nmOf ns k))]) sl_36 ze_9 rfl rfl rfl rfl rfl) ?_
   rintro _ _ ⟨b38, rfl, rfl⟩
   refine ⟨Or.inr sub_, ?_⟩
   refine RD_o 0 ?_
   refine RO_fx rfl rfl rfl rfl (Fx_buildSlice0 sl_36) ?_
   rintro _ _ ⟨b30, rfl, rfl⟩
   refine ⟨Or.inr sub_, ?_⟩
   refine RD_o 2 ?_
   refine RO_fx rfl rfl rfl rfl (Fx_patha (g := b30) (v := v) (p := p) (pp := pp1) rfl rfl rem_ hv (fun x hx => (by repeat (first | exact List.mem_append_left _ hx | apply List.Mem.tail))) om_) ?_
   rintro _ _ ⟨g32, c32, r32, rfl, hr32, rfl⟩
   refine ⟨Or.inr sub_, ?_⟩
   refine RD_o 9 ?_
   refine RO_fx rfl rfl rfl rfl (Fx_appTG (xs := strs p) (r := r32) (news := [.string (bar (nmOf ns k))]) (n := p.length) (cap := c32) (m := 1) (c := 1) rfl rfl sl_36 by_9 ze_9 rfl rem_ rem_ hr32 (by simp) rfl (by intro u hu; rw [List.mem_singleton.1 hu]; rfl) om_ om_ om_) ?_
   rintro _ _ ⟨g39, c39, r39, rfl, hr39, rfl⟩
   refine ⟨Or.inr sub_, ?_⟩
   refine RD_a 10 ?_
   refine RD_done kr_ ?_
   first
    | (have hk0 : k = 0 := (by omega); rw [if_pos hk0]; exact QW_cut (pp1, v) ⟨fun _ h => h, hv⟩ (by repeat (first | exact Prm.nil _ | exact Rem.here _ _ | apply Rem.there | apply Prm.cons)) (.cons rfl (.cons rfl (.cons rfl (.cons rfl (.cons rfl .nil))))))
    | (have hk0 : ¬ k = 0 := (by omega); rw [if_neg hk0, strs_snoc] at *; exact QW_cut ((g39, blk (strs (p ++ [nmOf ns k]) ++ r39) 9) :: pp1, .slice (some ⟨g39, 0, none⟩) (p ++ [nmOf ns k]).length c39) ⟨fun x hx => List.Mem.tail _ hx, .inr ⟨g39, c39, r39, by simp, rfl, List.Mem.head _⟩⟩ (by simp only [List.cons_append]; repeat (first | exact Prm.nil _ | exact Rem.here _ _ | apply Rem.there | apply Prm.cons)) (.cons rfl (.cons rfl (.cons rfl (.cons rfl (.cons (by rw [List.length_append]; rfl) .nil))))))
  refine CW_skip ?_
  first
   | (have hk0 : k = 0 := (by omega); rw [if_pos hk0]; exact QW_cut (pp1, v) ⟨fun _ h => h, hv⟩ (by repeat (first | exact Prm.nil _ | exact Rem.here _ _ | apply Rem.there | apply Prm.cons)) (.cons rfl (.cons rfl (.cons rfl (.cons rfl (.cons rfl .nil))))))
   | (have hk0 : ¬ k = 0 := (by omega); rw [if_neg hk0, strs_snoc] at *; exact QW_cut ((g39, blk (strs (p ++ [nmOf ns k]) ++ r39) 9) :: pp1, .slice (some ⟨g39, 0, none⟩) (p ++ [nmOf ns k]).length c39) ⟨fun x hx => List.Mem.tail _ hx, .inr ⟨g39, c39, r39, by simp, rfl, List.Mem.head _⟩⟩ (by simp only [List.cons_append]; repeat (first | exact Prm.nil _ | exact Rem.here _ _ | apply Rem.there | apply Prm.cons)) (.cons rfl (.cons rfl (.cons rfl (.cons rfl (.cons (by rw [List.length_append]; rfl) .nil))))))
 rintro ⟨pp2, v2⟩ ⟨hs2, hv2⟩
 simp only at hs2 hv2 ⊢
 refine CW_seq ?_
 have hdl2 : d2.length = done.length + a.length + 1 := by rw [← e2, hdl]
 have hih := ihc d2 vs2 go2 co2 gp2 cp2 ro2 rp2 pp2 v2 hv2 (hvs2.more hs2) hro2 hrp2 om_ (by split <;> (try simp only [List.length_append, List.length_singleton]) <;> omega)
 refine CW_draw [7] _ mixed (Sub.refl _) ?_
 refine RD_m 2 ?_
 refine RD_m 6 ?_
 refine RD_h (i := 0) #[false, true, true, true, true, true, true, false] rfl rfl rfl rfl kr_ (fun _ _ _ h => h) (Yh_ld (v := .func (.func 30) #[] #[pv bF, pv bn, pv bo, pv bp]) sc_77) ?_
 refine RD_h (i := 1) #[true, false, true, false, false, false, true, false] rfl rfl rfl rfl kr_ (fun _ _ _ h => h) (Yh_ld (v := .slice (some ⟨g, 0, none⟩) ns.length cap) sc_25) ?_
 refine RD_l 3 rfl (Yl_indexN (b := g) (off := 0) (i := k) (o' := k * 28) rfl rfl sl_25 hk om_) ?_
 refine RD_f 4 fo_43_5 ?_
 refine RD_h (i := 5) #[true, true, true, true, true, false, true, false] rfl rfl rfl rfl kr_ (fun _ _ _ h => h) (Yh_lh (v := iv (chdF ns k)) sc_3 (at_child hk rfl)) ?_
 refine RD_o 7 ?_
 refine RO_fx rfl rfl rfl rfl (Fx_callV ok_30 (fs := []) (cs := [pv bF, pv bn, pv bo, pv bp]) (vs := [iv (chdF ns k), v2]) rfl rfl (by exact (Pick.cons rem_ (Pick.cons rem_ (Pick.cons rem_ (Pick.cons rem_ (Pick.cons rem_ (Pick.cons rem_ (Pick.cons rem_ (pick_app _ F))))))))) hih) ?_
 rintro _ _ ⟨_, ⟨rfl, vs4, go4, co4, gp4, cp4, ro4, rp4, pp4, hvs4, hro4, hrp4, hsub4, rfl⟩, rfl⟩
 simp only [List.cons_append]
 refine ⟨Or.inl kr_, ?_⟩
 refine (RD_done kr_ (QW_lv [0,1,2,3] ?_))
 obtain ⟨d3, hd3⟩ : ∃ d3, d3 = d2 ++ c := ⟨_, rfl⟩
 rw [← hd3] at hvs4 hro4
 rw [← hd3]
 clear hih
 have hdl3 : d3.length = d2.length + c.length := by rw [hd3]; simp
 have hih := ihb d3 vs4 go4 co4 gp4 cp4 ro4 rp4 pp4 v (hv.more fun x hx => hsub4 x (hs2 x hx)) hvs4 hro4 hrp4 om_ om_
 have hfin : done ++ (a ++ (k, p) :: (c ++ b)) = d3 ++ b := by rw [hd3, hd2, hd1]; simp
 refine CW_draw [7] _ mixed (Sub.refl _) ?_
 refine RD_m 2 ?_
 refine RD_m 6 ?_
 refine RD_h (i := 0) #[false, true, true, true, true, true, true, false] rfl rfl rfl rfl kr_ (fun _ _ _ h => h) (Yh_ld (v := .func (.func 30) #[] #[pv bF, pv bn, pv bo, pv bp]) sc_77) ?_
 refine RD_h (i := 1) #[true, false, true, false, false, false, true, false] rfl rfl rfl rfl kr_ (fun _ _ _ h => h) (Yh_ld (v := .slice (some ⟨g, 0, none⟩) ns.length cap) sc_25) ?_
 refine RD_l 3 rfl (Yl_indexN (b := g) (off := 0) (i := k) (o' := k * 28) rfl rfl sl_25 hk om_) ?_
 refine RD_f 4 fo_43_4 ?_
 refine RD_h (i := 5) #[true, true, true, true, true, false, true, false] rfl rfl rfl rfl kr_ (fun _ _ _ h => h) (Yh_lh (v := iv (rtF ns k)) sc_3 (at_right hk rfl)) ?_
 refine RD_o 7 ?_
 refine RO_fx rfl rfl rfl rfl (Fx_callV ok_30 (fs := []) (cs := [pv bF, pv bn, pv bo, pv bp]) (vs := [iv (rtF ns k), v]) rfl rfl (by exact (Pick.cons rem_ (Pick.cons rem_ (Pick.cons rem_ (Pick.cons rem_ (Pick.cons rem_ (Pick.cons rem_ (Pick.cons rem_ (pick_app _ F))))))))) hih) ?_
 rintro _ _ ⟨_, ⟨rfl, vs5, go5, co5, gp5, cp5, ro5, rp5, pp5, hvs5, hro5, hrp5, hsub5, rfl⟩, rfl⟩
 simp only [List.cons_append]
 refine ⟨Or.inl kr_, ?_⟩
 refine RD_done kr_ ?_
 refine QW_end0 rfl ((bF, blk [.func (.func 30) #[] #[pv bF, pv bn, pv bo, pv bp]] 77) :: (bn, blk [.slice (some ⟨g, 0, none⟩) ns.length cap] 25) :: (g, blk (nms ns ++ rn) 43) :: (bo, blk [.slice (some ⟨go5, 0, none⟩) (d3 ++ b).length co5] 29) :: (go5, blk (nats ((d3 ++ b).map Prod.fst) ++ ro5) 3) :: (bp, blk [.slice (some ⟨gp5, 0, none⟩) (d3 ++ b).length cp5] 30) :: (gp5, blk (vs5 ++ rp5) 36) :: pp5) ⟨rfl, vs5, go5, co5, gp5, cp5, ro5, rp5, pp5, ?_, ?_, hrp5, fun x hx => hsub5 x (hsub4 x (hs2 x (hsub1 x hx))), ?_⟩ (Prm.nil _)
 ·rw [hfin]; exact hvs5
 ·rw [hfin]; exact hro5
 rw [hfin]
theorem order_any (ns : List Nm) (g cap bF bn bo bp : Nat) (rn : List Value) (hk2 : ns.length ≤ 1000) {t : Int} {p : List (List UInt8)} {o : List (Nat × List (List UInt8))} (h : OT (lfF ns) (rtF ns) (chdF ns) (nmOf ns) t p o) : (∀ k ∈ o.map Prod.fst, k < ns.length) → OCt ns g cap bF bn bo bp rn t p o := by
 induction h with
 | nil => intro _; exact order_nil ns g cap bF bn bo bp rn _
 | node ha hc hb iha ihc ihb =>
  intro hk
  simp only [List.map_append, List.map_cons, List.mem_append, List.mem_cons] at hk
  exact order_step ns g cap bF bn bo bp rn _ (hk _ (.inr (.inl rfl))) hk2 _ _ _ _ (iha fun x hx => hk x (.inl hx)) (ihc fun x hx => hk x (.inr (.inr (.inl hx)))) (ihb fun x hx => hk x (.inr (.inr (.inr hx))))

theorem Order_ct (ns : List Nm) (g cap : Nat) (rn : List Value) (o : List (Nat × List (List UInt8))) (hk2 : ns.length ≤ 1000) (hol : o.length ≤ 1000) (ho : OT (lfF ns) (rtF ns) (chdF ns) (nmOf ns) ((0 : Nat) : Int) [] o) (hk : ∀ k ∈ o.map Prod.fst, k < ns.length) :
  Ct Tryd.prog 17 [.slice (some ⟨g, 0, none⟩) ns.length cap] [(g, blk (nms ns ++ rn) 43)] (fun v q => ∃ vs go co ro gp cp rp pp, v = .tuple #[.slice (some ⟨go, 0, none⟩) o.length co, .slice (some ⟨gp, 0, none⟩) o.length cp] ∧ VsOk pp vs (o.map Prod.snd) ∧ (nats (o.map Prod.fst) ++ ro).length = co ∧ (vs ++ rp).length = cp ∧ q = (g, blk (nms ns ++ rn) 43) :: (go, blk (nats (o.map Prod.fst) ++ ro) 3) :: (gp, blk (vs ++ rp) 36) :: pp) := by
 refine Ct_of Tryd.func17 rfl Tryd.ntmps17 rfl ?_
 intro E F
 simp only [numL, List.nil_append, List.cons_append]
 refine CW_sr ?_
 refine RW_fx rfl rfl rfl (Fx_box (zs := [.slice (some ⟨g, 0, none⟩) ns.length cap]) rfl rfl) ?_
 rintro _ _ ⟨bn, rfl, rfl⟩
 refine RW_a ?_
 refine RW_a ?_
 refine RW_lv [1] ?_
 refine CW_sr ?_
 refine RW_fx rfl rfl rfl (Fx_buildSlice0 sl_29) ?_
 rintro _ _ ⟨go, rfl, rfl⟩
 refine RW_fx rfl rfl rfl (Fx_buildSlice0 sl_30) ?_
 rintro _ _ ⟨gp, rfl, rfl⟩
 refine RW_fx rfl rfl rfl (Fx_alloc (zs := [.slice none 0 0]) ze_29 rfl) ?_
 rintro _ _ ⟨bo, rfl, rfl⟩
 refine RW_fx rfl rfl rfl (Fx_alloc (zs := [.slice none 0 0]) ze_30 rfl) ?_
 rintro _ _ ⟨bp, rfl, rfl⟩
 refine RW_fx0 rfl rfl (Fx_store (v := .slice (some ⟨go, 0, none⟩) 0 0) (b := bo) (off := 0) rfl rfl sz_29 rfl rep_ (by simp)) ?_
 rintro _ _ rfl
 refine RW_fx0 rfl rfl (Fx_store (v := .slice (some ⟨gp, 0, none⟩) 0 0) (b := bp) (off := 0) rfl rfl sz_30 rfl rep_ (by simp)) ?_
 rintro _ _ rfl
 refine RW_lv [1,4,5] ?_
 refine CW_sr ?_
 refine RW_fx rfl rfl rfl (Fx_alloc (zs := [.nilFunc]) ze_77 rfl) ?_
 rintro _ _ ⟨bF, rfl, rfl⟩
 refine RW_lv [1,4,5,6] ?_
 refine CW_sr ?_
 refine RW_l (Yl_makeFunc (us := []) (vs := [pv bF, pv bn, pv bo, pv bp]) rfl rfl) ?_
 refine RW_fx0 rfl rfl (Fx_store (v := .func (.func 30) #[] #[pv bF, pv bn, pv bo, pv bp]) (b := bF) (off := 0) rfl rfl sz_77 rfl rep_ (by simp)) ?_
 rintro _ _ rfl
 refine RW_lv [4,5,6] ?_
 refine CW_seq ?_
 have hih := order_any ns g cap bF bn bo bp rn hk2 ho hk [] [] go 0 gp 0 [] [] [] (.slice none 0 0) (.inl ⟨rfl, rfl⟩) (VsOk.nil _) rfl rfl (by simp; omega) (by simp; omega)
 refine CW_region ?_
 refine RW_h (Yh_ld (v := .func (.func 30) #[] #[pv bF, pv bn, pv bo, pv bp]) sc_77) ?_
 refine RW_fx rfl rfl rfl (Fx_callV ok_30 (fs := []) (cs := [pv bF, pv bn, pv bo, pv bp]) (vs := [iv ((0 : Nat) : Int), .slice none 0 0]) rfl rfl (by exact (Pick.cons rem_ (Pick.cons rem_ (Pick.cons rem_ (Pick.cons rem_ (Pick.cons rem_ (Pick.cons rem_ (Pick.cons rem_ (pick_app [] F))))))))) hih) ?_
 rintro _ _ ⟨_, ⟨rfl, vs1, go1, co1, gp1, cp1, ro1, rp1, pp1, hvs1, hro1, hrp1, hsub1, rfl⟩, rfl⟩
 simp only [List.cons_append, List.nil_append]
 rw [List.nil_append] at hvs1 hro1
 refine RW_lv [4,5] ?_
 refine CW_seq ?_
 refine CW_draw [] _ mixed (Sub.refl _) ?_
 refine RD_h (i := 0) #[false, true, false, false] rfl rfl rfl rfl kr_ (fun _ _ _ h => h) (Yh_ld (v := .slice (some ⟨go1, 0, none⟩) o.length co1) sc_29) ?_
 refine RD_a 2 ?_
 refine RD_h (i := 1) #[true, false, true, false] rfl rfl rfl rfl kr_ (fun _ _ _ h => h) (Yh_ld (v := .slice (some ⟨gp1, 0, none⟩) o.length cp1) sc_30) ?_
 refine RD_a 3 ?_
 refine (RD_done kr_ (QW_lv [2,3] ?_))
 refine CW_ret ?_
 refine QW_sub (H' := (g, blk (nms ns ++ rn) 43) :: (go1, blk (nats (o.map Prod.fst) ++ ro1) 3) :: (gp1, blk (vs1 ++ rp1) 36) :: (pp1 ++ F)) ?_ ?_
 ·exact .cons _ (.cons _ (.cons_cons _ (.cons _ (.cons_cons _ (.cons _ (.cons_cons _ (.refl _)))))))
 exact QW_ret2 rfl rfl rfl ((g, blk (nms ns ++ rn) 43) :: (go1, blk (nats (o.map Prod.fst) ++ ro1) 3) :: (gp1, blk (vs1 ++ rp1) 36) :: pp1) ⟨vs1, go1, co1, ro1, gp1, cp1, rp1, pp1, rfl, hvs1, hro1, hrp1, rfl⟩ (Prm.nil _)

theorem STree.links {L R : Nat → Int} {pl : List Nat} {t : Int} (h : STree L R pl t) : ∀ k ∈ pl, (L k = -1 ∨ ∃ j ∈ pl, L k = (j : Int)) ∧ (R k = -1 ∨ ∃ j ∈ pl, R k = (j : Int)) := by
  induction h with
  | nil => intro k hk; cases hk
  | node ha hb iha ihb =>
    rename_i a b m
    intro k hk
    have up : ∀ {q : List Nat} {z : Int}, (∀ x ∈ q, x ∈ a ++ m :: b) → (z = -1 ∨ ∃ j ∈ q, z = (j : Int)) → (z = -1 ∨ ∃ j ∈ a ++ m :: b, z = (j : Int)) := fun hs h => h.imp id fun ⟨j, h1, h2⟩ => ⟨j, hs j h1, h2⟩
    have sa : ∀ x ∈ a, x ∈ a ++ m :: b := fun x hx => List.mem_append_left _ hx
    have sb : ∀ x ∈ b, x ∈ a ++ m :: b := fun x hx => List.mem_append_right _ (List.mem_cons_of_mem _ hx)
    have top : ∀ {q : List Nat} {z : Int}, STree L R q z → (z = -1 ∨ ∃ j ∈ q, z = (j : Int)) := fun h => h.top.imp (fun h => h.2) id
    rcases List.mem_append.1 hk with hk | hk
    · exact ⟨up sa (iha k hk).1, up sa (iha k hk).2⟩
    rcases List.mem_cons.1 hk with rfl | hk
    · exact ⟨up sa (top ha), up sb (top hb)⟩
    exact ⟨up sb (ihb k hk).1, up sb (ihb k hk).2⟩
section
variable {ns : List Nm}
theorem Lnk.bound {ls : Nat → List Nat} {par : Nat → Nat} (h : Lnk ns ls par) {k : Nat} (hk : k < ns.length) (hn : ns.length ≤ 100000) : (-1 ≤ lfF ns k ∧ lfF ns k ≤ 100000) ∧ (-1 ≤ rtF ns k ∧ rtF ns k ≤ 100000) ∧ (-1 ≤ chdF ns k ∧ chdF ns k ≤ 100000) := by
  have b : ∀ {q : Nat} {z : Int}, (z = -1 ∨ ∃ j ∈ ls q, z = (j : Int)) → -1 ≤ z ∧ z ≤ 100000 := by
    intro q z hz
    rcases hz with hz | ⟨j, hj, hz⟩
    · omega
    have := (h.pl.mem q j).1 hj; omega
  have hc : chdF ns k = -1 ∨ ∃ j ∈ ls k, chdF ns k = (j : Int) := (h.tree k hk).top.imp (fun h => h.2) id
  rcases Nat.eq_zero_or_pos k with h0 | h0
  · subst h0
    have := h.root
    exact ⟨by omega, by omega, b hc⟩
  have hl := h.pl.lt k h0 hk
  have hm : k ∈ ls (par k) := (h.pl.mem _ k).2 ⟨h0, hk, rfl⟩
  have h1 := STree.links (h.tree (par k) om_) k hm
  exact ⟨b h1.1, b h1.2, b hc⟩
theorem root_ok {l r c : Int} (hl : -1 ≤ l ∧ l ≤ 100000) (hr : -1 ≤ r ∧ r ≤ 100000) (hc : -1 ≤ c ∧ c ≤ 100000) : (rootNm.turn l r c).ok :=
  ⟨fun _ => rfl, by simp [rootNm, mkNm, Nm.turn], by simp [rootNm, mkNm, Nm.turn], by simp [rootNm, mkNm, Nm.turn], hl, hr, hc, by simp [rootNm, mkNm, Nm.turn], by simp [rootNm, mkNm, Nm.turn]⟩
theorem NodesOk.ok_at (h : NodesOk ns) {k : Nat} (hk : k < ns.length) : (ns.getD k default).ok := by
  obtain ⟨ls, par, hL⟩ := h.lnk
  have hn := h.len
  have hb := hL.bound hk om_
  unfold lfF rtF chdF at hb
  rcases Nat.eq_zero_or_pos k with h0 | h0
  · subst h0
    obtain ⟨c, e⟩ := h.root
    rw [e] at hb ⊢
    exact root_ok om_ om_ hb.2.2
  obtain ⟨y, l, r, c, hy, e⟩ := h.made k h0 hk
  rw [e] at hb ⊢
  exact (hy.nd.turn hb.1 hb.2.1 hb.2.2).ok
theorem NodesOk.ok (h : NodesOk ns) : ∀ x ∈ ns, x.ok := by
  intro x hx
  obtain ⟨k, hk, rfl⟩ := List.mem_iff_getElem.1 hx
  have := h.ok_at hk
  rwa [List.getD_eq_getElem?_getD, List.getElem?_eq_getElem hk] at this
theorem NodesOk.xs (h : NodesOk ns) : Ok (ns.map Nm.nd) := by
  refine ⟨by simp; exact h.len, ?_⟩
  intro x hx
  obtain ⟨y, hy, rfl⟩ := List.mem_map.1 hx
  exact (h.ok y hy).small
theorem NodesOk.lnks (h : NodesOk ns) : ∀ x ∈ ns.map Nm.nd, x.left ≤ 4294967295 ∧ x.right ≤ 4294967295 ∧ x.child ≤ 4294967295 := by
  intro x hx
  obtain ⟨y, hy, rfl⟩ := List.mem_map.1 hx
  have := h.ok y hy
  have h1 := this.left
  have h2 := this.right
  have h3 := this.child
  omega
theorem NodesOk.name (h : NodesOk ns) {k : Nat} (hk : k < ns.length) : 1 ≤ (nmOf ns k).length ∧ (nmOf ns k).length ≤ 31 ∧ (∀ c ∈ nmOf ns k, c.toNat < 128) ∧ (65 ≤ ((nmOf ns k).getD 0 0).toNat ∧ ((nmOf ns k).getD 0 0).toNat ≤ 90) := by
  unfold nmOf
  rcases Nat.eq_zero_or_pos k with h0 | h0
  · subst h0
    obtain ⟨c, e⟩ := h.root
    rw [e]
    show 1 ≤ ([82, 111, 111, 116, 32, 69, 110, 116, 114, 121] : List UInt8).length ∧ ([82, 111, 111, 116, 32, 69, 110, 116, 114, 121] : List UInt8).length ≤ 31 ∧ (∀ c ∈ ([82, 111, 111, 116, 32, 69, 110, 116, 114, 121] : List UInt8), c.toNat < 128) ∧ (65 ≤ (([82, 111, 111, 116, 32, 69, 110, 116, 114, 121] : List UInt8).getD 0 0).toNat ∧ (([82, 111, 111, 116, 32, 69, 110, 116, 114, 121] : List UInt8).getD 0 0).toNat ≤ 90)
    exact ⟨by decide, by decide, by decide, by decide, by decide⟩
  obtain ⟨y, l, r, c, hy, e⟩ := h.made k h0 hk
  rw [e]
  show 1 ≤ y.nd.name.length ∧ _ ∧ (∀ c ∈ y.nd.name, _) ∧ (65 ≤ (y.nd.name.getD 0 0).toNat ∧ (y.nd.name.getD 0 0).toNat ≤ 90)
  have h1 := hy.nd.nm
  have h2 := hy.nd.cap
  refine ⟨by omega, by show y.nd.name.length ≤ 31; omega, fun c hc => by have := h2 c hc; omega, ?_⟩
  refine h2 _ ?_
  rw [List.getD_eq_getElem?_getD, List.getElem?_eq_getElem om_]
  exact List.getElem_mem _
theorem NodesOk.names {ps : List Value} (hp : PsOk ps) (h : NodesOk ns) : ∀ k, k < (ns.map Nm.nd).length → NmOk ps ((ns.map Nm.nd).getD k default) (nmOf ns k) := by
  intro k hk
  have hk' : k < ns.length := by simpa using hk
  obtain ⟨h1, h2, h3, h4⟩ := h.name hk'
  have e : (ns.map Nm.nd).getD k default = (ns.getD k default).nd := nd_at ns k hk'
  rw [e]
  exact nmOk_cap (x := (ns.getD k default).nd) hp h1 h2 h3 h4
theorem NodesOk.tn (h : NodesOk ns) (v : Nat) {k : Nat} (hk : k < ns.length) : k < (tnsF v (ns.map Nm.nd) (nmOf ns)).length ∧ (tnsF v (ns.map Nm.nd) (nmOf ns)).getD k default = ⟨nmOf ns k, lnkF (lfF ns k), lnkF (chdF ns k), lnkF (rtF ns k)⟩ := by
  have hc := cnt_le (v := v) h.xs
  have hl : (ns.map Nm.nd).length = ns.length := by simp
  refine ⟨by rw [tns_len]; omega, ?_⟩
  rw [show (tnsF v (ns.map Nm.nd) (nmOf ns)).getD k default = tnF (ns.map Nm.nd) (nmOf ns) k from range_getD _ om_]
  unfold tnF
  rw [if_pos om_, nd_at ns k hk]
  rfl
theorem NodesOk.travs (h : NodesOk ns) (v : Nat) : ∃ o, OT (lfF ns) (rtF ns) (chdF ns) (nmOf ns) ((0 : Nat) : Int) [] o ∧ (∀ k, k ∈ o.map Prod.fst ↔ k < ns.length) ∧ (o.map Prod.fst).Nodup ∧ o.length ≤ ns.length ∧
    (STv (tnsF v (ns.map Nm.nd) (nmOf ns))).bad = false ∧ (STv (tnsF v (ns.map Nm.nd) (nmOf ns))).out = o.map Prod.fst ∧ ∀ x ∈ o, (STv (tnsF v (ns.map Nm.nd) (nmOf ns))).pth x.1 = x.2 := by
  obtain ⟨ls, par, hL⟩ := h.lnk
  obtain ⟨o, h1, h2, h3, h4⟩ := hL.order h.len.1 (nmOf ns)
  have hc := cnt_le (v := v) h.xs
  have hl : (ns.map Nm.nd).length = ns.length := by simp
  have ht := tns_len v (ns.map Nm.nd) (nmOf ns)
  obtain ⟨s', e, b, _, ou, _, pt⟩ := trav_ot (es := tnsF v (ns.map Nm.nd) (nmOf ns)) (by rw [ht]; omega) h1 ((tnsF v (ns.map Nm.nd) (nmOf ns)).length + 1) S0 rfl (by rw [ht]; show 0 + _ ≤ _; omega) (by rw [ht]; omega) (fun k hk => h.tn v ((h3 k).1 hk)) h2
  have e0 : s' = STv (tnsF v (ns.map Nm.nd) (nmOf ns)) := by
    rw [e]
    show (if lnkF ((0 : Nat) : Int) = 4294967295 then _ else Cfb.trav _ _ (lnkF ((0 : Nat) : Int)) _ _) = _
    rw [lnkF_nat, if_neg om_]
  rw [e0] at b ou pt
  exact ⟨o, h1, h3, h2, h4, b, by rw [ou]; rfl, pt⟩
end

section
variable {E : World} {L : Fra} {H : Heap} {dst : Option Tmp} {ty : TypeId} {pos : String} {aft : Array Edge} {gd : Option (Nat × Bool)}
theorem Yh_loadE {P : Program} {x : Operand} {t T : TypeId} {b off k : Nat} {l cs : List Value} {fz : Nat × Nat} (hx : ev L x = some (.pointer (some ⟨b, off, none⟩))) (ht : agOf P t = some k)
    (hm : (b, Obj.cells l.toArray T fz) ∈ H) (hv : off + k ≤ l.length) (hc : (l.drop off).take k = cs) : Yh P E L H ⟨dst, .load t x, ty, pos, aft, gd⟩ (.agg cs.toArray) := by
  subst hc
  exact Yh_loadA hx ht hm hv
end

theorem fst_at {o : List (Nat × List (List UInt8))} {r : List Value} {i k : Nat} (h : i < o.length) (hk : (o.getD i default).1 = k) : (nats (o.map Prod.fst) ++ r)[i]? = some (nv k) := by
  rw [List.getElem?_append_left (by simpa using h), ← hk]; simp [List.getD_eq_getElem?_getD, h]

section
variable {P : Program} {L : Fra} {dst : Option Tmp} {ty : TypeId} {pos : String} {aft : Array Edge} {gd : Option (Nat × Bool)} {x y : Operand} {k : IntKind} {m n : Int} {t u : TypeId}
theorem Yl_lssB (b : Bool) (hx : ev L x = some (.int k m)) (hy : ev L y = some (.int k n)) (h : decide (m < n) = b) : Yl P L ⟨dst, .binOp .lss t x y u, ty, pos, aft, gd⟩ (.bool b) := by
  rw [← h]; exact Yl_lss hx hy
theorem Yl_gtrB (b : Bool) (hx : ev L x = some (.int k m)) (hy : ev L y = some (.int k n)) (h : decide (m > n) = b) : Yl P L ⟨dst, .binOp .gtr t x y u, ty, pos, aft, gd⟩ (.bool b) := by
  rw [← h]; exact Yl_gtr hx hy
theorem Yl_geqB (b : Bool) (hx : ev L x = some (.int k m)) (hy : ev L y = some (.int k n)) (h : decide (m ≥ n) = b) : Yl P L ⟨dst, .binOp .geq t x y u, ty, pos, aft, gd⟩ (.bool b) := by
  rw [← h]; exact Yl_geq hx hy
theorem Yl_leqB (b : Bool) (hx : ev L x = some (.int k m)) (hy : ev L y = some (.int k n)) (h : decide (m ≤ n) = b) : Yl P L ⟨dst, .binOp .leq t x y u, ty, pos, aft, gd⟩ (.bool b) := by
  rw [← h]; exact Yl_leq hx hy
theorem Yl_eqlB (b : Bool) (hx : ev L x = some (.int k m)) (hy : ev L y = some (.int k n)) (h : decide (m = n) = b) : Yl P L ⟨dst, .binOp .eql t x y u, ty, pos, aft, gd⟩ (.bool b) := by
  rw [← h]; exact Yl_eql hx hy
theorem Yl_neqB (b : Bool) (hx : ev L x = some (.int k m)) (hy : ev L y = some (.int k n)) (h : decide (m ≠ n) = b) : Yl P L ⟨dst, .binOp .neq t x y u, ty, pos, aft, gd⟩ (.bool b) := by
  rw [← h]; exact Yl_neq hx hy
end

theorem code_other (U : TypeId) (u : Value) (hU : Nat.beq U 123 = false) : Ct Tryd.prog 40 [.iface U u] [] (fun v q => v = nv 6 ∧ q = []) := by
 refine Ct_of Tryd.func40 rfl Tryd.ntmps40 rfl ?_
 intro E F
 simp only [numL, List.nil_append, List.cons_append]
 refine CW_sr ?_
 refine RW_a ?_
 refine RW_lv [0] ?_
 refine CW_seq ?_
 refine CW_sr ?_
 refine RW_m ?_
 refine RW_l (Yl_ifEq rfl if_105) ?_
 refine RW_lv [0,6] ?_
 refine CW_cond rfl (fun hc1 => ?_) (fun hc1 => ?_)
 ·skip
  exact Bool.noConfusion hc1
 skip
 refine (CW_skip (QW_lv [0] ?_))
 refine CW_seq ?_
 refine CW_sr ?_
 refine RW_m ?_
 refine RW_l (Yl_assertNot rfl co_123 hU ze_123) ?_
 refine RW_m ?_
 refine RW_l (Yl_extract (v := .agg zs_123.toArray) rfl rfl) ?_
 refine RW_l (Yl_extract (v := .bool false) rfl rfl) ?_
 refine RW_fx rfl rfl rfl (Fx_alloc (zs := zs_123) ze_123 rfl) ?_
 rintro _ _ ⟨b3, rfl, rfl⟩
 refine RW_fx0 rfl rfl (Fx_storeA (b := b3) (off := 0) (l := zs_123) (T := 123) (cs := zs_123) rfl rfl sz_123 (by intro u hu; exact List.all_eq_true.1 (show (zs_123.all Value.oneCell') = true from rfl) u hu) rep_ (Nat.le_refl 3)) ?_
 rintro _ _ rfl
 refine RW_a ?_
 refine RW_lv [3,4] ?_
 refine CW_sr ?_
 refine RW_m ?_
 refine RW_lv [3,12] ?_
 refine CW_false rfl ?_
 refine (CW_skip (QW_lv [] ?_))
 refine CW_sr ?_
 refine RW_a ?_
 refine RW_lv [2] ?_
 refine CW_ret ?_
 first
  | (refine QW_dropB (e := (b3, _)) (by repeat (first | exact Rem.here _ _ | apply Rem.there)) ?_; exact QW_ret1 rfl rfl [] ⟨rfl, rfl⟩ (Prm.nil _))

theorem chunk_at (s : Nat) : ∀ (rows : List (List Value)) (r : List Value) (k : Nat), (∀ x ∈ rows, x.length = s) → k < rows.length → ((rows.flatten ++ r).drop (k * s)).take s = rows.getD k [] := by
  intro rows
  induction rows with
  | nil => intro r k _ h; simp at h
  | cons x l ih =>
    intro r k hl h
    have hx := hl x (by simp)
    cases k with
    | zero =>
      simp only [List.flatten_cons, Nat.zero_mul, List.drop_zero, List.append_assoc, List.getD_cons_zero]
      rw [List.take_append_of_le_length om_, List.take_of_length_le om_]
    | succ k =>
      have h1 := ih r k (fun y hy => hl y (by simp [hy])) (by simpa using h)
      simp only [List.flatten_cons, List.append_assoc, List.getD_cons_succ]
      rw [show (k + 1) * s = x.length + k * s by rw [hx, Nat.add_mul]; omega, List.drop_append]
      simp only [Nat.add_sub_cancel_left]
      rw [List.drop_of_length_le om_, List.nil_append]
      exact h1
theorem chunk_len (s : Nat) : ∀ (rows : List (List Value)), (∀ x ∈ rows, x.length = s) → rows.flatten.length = rows.length * s := by
  intro rows
  induction rows with
  | nil => intro _; simp
  | cons x l ih =>
    intro h
    rw [List.flatten_cons, List.length_append, h x (by simp), ih (fun y hy => h y (by simp [hy])), List.length_cons, Nat.add_mul]; omega
theorem rep_r {H H' : Heap} {x y : Nat × Obj} (G : Heap) (h : Rep H x y H') : Rep (G ++ H) x y (G ++ H') := by
  induction G with
  | nil => exact h
  | cons a G ih => exact .there a ih
theorem p_open (a b : Nat × Obj) (R E F : Heap) : (a :: (R ++ (b :: (E ++ F)))).Perm ((R ++ E) ++ (a :: b :: F)) := by
  have h1 : (b :: (E ++ F)).Perm (E ++ (b :: F)) := List.perm_middle.symm
  have h2 : (a :: (R ++ (b :: (E ++ F)))).Perm (a :: (R ++ (E ++ (b :: F)))) := (h1.append_left R).cons a
  refine h2.trans ?_
  rw [← List.append_assoc]
  exact List.perm_middle.symm
theorem p_app (x a b : Nat × Obj) (q O F : Heap) : (x :: (q ++ (a :: b :: (O ++ F)))).Perm (O ++ (x :: (q ++ (a :: b :: F)))) := by
  have h := perm_front (x :: (q ++ [a, b])) O F
  simpa only [List.cons_append, List.append_assoc, List.nil_append] using h
theorem p_back (g a b : Nat × Obj) (q F : Heap) : (g :: (q ++ (a :: b :: F))).Perm (q ++ (a :: b :: (g :: F))) := by
  have h := perm_front (q ++ [a, b]) [g] F
  have h2 := h.symm
  simpa only [List.cons_append, List.append_assoc, List.nil_append] using h2
structure ROk (R : Rdr) (ps : List Value) (T : TypeId) (B : List UInt8) (N ss : Nat) (es : List En) (tn : List Tn) (mi : Option (List Nat × List Nat)) : Prop where
  ok : ∃ er, R.Ok es (STv tn) mi er
  hB : R.B = B
  hN : R.N = N
  hss : R.ss = ss
  hps : R.ps = ps
  hT : R.T = T
  hcN : N ≤ R.cN
  hlen : (bys R.B ++ R.rB).length = R.cN
structure Stp (R : Rdr) (i n : Nat) (sts : List (List Value)) (Inv : Nat → List (List Value) → List UInt8 → Heap → Prop) : Prop where
  mem : ∀ j rs B H, Inv j rs B H → (∃ wa, (R.br, blk (Rdr.cells { R with wa := wa }) 89) ∈ H) ∧ (R.bo, blk (outs R.bfs R.out ++ R.ro) 90) ∈ H ∧ (R.bs, blk [.slice (some ⟨R.bB, 0, none⟩) R.N R.cN] 103) ∈ H ∧ B.length = R.N ∧ (R.bB, blk (bys B ++ R.rB) 5) ∈ H
  step : ∀ j rs B H, Inv j rs B H → j < n → Ct Tryd.prog 37 [pv (R.bfs.getD (R.out.getD i 0) 0), .agg (sts.getD j []).toArray] H (fun v q => ∃ (r : List Value) (B2 : List UInt8), v = .tuple #[.agg r.toArray, .bool true] ∧ r.length = 3 ∧ (∀ u ∈ r, u.oneCell' = true) ∧ Inv (j + 1) (rs ++ [r]) B2 q)
structure SSt where
  j : Nat
  H : Heap
  B : List UInt8
  rs : List (List Value)
  g : Option Nat
  cap : Nat
  r : List Value

theorem outs_at (bfs : List Nat) (o : List Nat) (r : List Value) {i : Nat} (h : i < o.length) : (outs bfs o ++ r)[i]? = some (pv (bfs.getD (o.getD i 0) 0)) := by
 rw [List.getElem?_append_left (by simpa using h)]; simp [List.getD_eq_getElem?_getD, h]

theorem fold_push : ∀ (d : List UInt8) (s : ByteArray), (d.map fun y => (y.toNat : Int)).foldl (fun r n => r.push (UInt8.ofNat n.toNat)) s = ⟨s.data ++ d.toArray⟩ := by
  intro d
  induction d with
  | nil => intro s; simp
  | cons y r ih =>
    intro s
    simp only [List.map_cons, List.foldl_cons]
    rw [ih]
    have : UInt8.ofNat ((y.toNat : Int)).toNat = y := by simp
    rw [this]
    simp [ByteArray.push]
section
variable {P : Program} {E : World} {L : Fra} {H : Heap} {dst : Option Tmp} {ty : TypeId} {pos : String} {aft : Array Edge} {gd : Option (Nat × Bool)}
theorem Yh_bytesStr {x : Operand} {t u e : TypeId} {sz b off m c : Nat} {l : List Value} {T : TypeId} {fz : Nat × Nat} {d : List UInt8} (hx : ev L x = some (.slice (some ⟨b, off, none⟩) m c)) (ht : slOf P t = some (e, sz)) (he : inOf P e = some .u8) (hu : isStr P u = true)
    (hm : (b, Obj.cells l.toArray T fz) ∈ H) (hd : (l.drop off).take m = bys d) (hl : d.length = m) : Yh P E L H ⟨dst, .convert t u x, ty, pos, aft, gd⟩ (.string (bar d)) := by
  intro _ a w hf hh
  obtain ⟨inf, h1, _, _⟩ := slOf_u ht
  have h2 := inOf_u he
  have h3 := isStr_u hu
  have hload := run_loadCells_list (P := P) w ⟨b, off, none⟩ _ (hh.cellsAt hm (offx := off) (k := m))
  rw [hd] at hload
  have hlen : (bys d).length = m := by simp [hl]
  rw [hlen] at hload
  have hc : (bys d) = (d.map fun y => (y.toNat : Int)).map (Value.int .u8) := by simp [bys, bv, Function.comp_def]
  rw [hc] at hload
  have hr := run_convert_bytes_string (P := P) w t u e (some ⟨b, off, none⟩) m c h1 h2 h3
  rw [run_bytesToString w _ m c _ hload, fold_push] at hr
  have hb : (⟨ByteArray.empty.data ++ d.toArray⟩ : ByteArray) = bar d := by
    simp [bar, ByteArray.empty, ByteArray.emptyWithCapacity]
    rfl
  rw [hb] at hr
  simp only [execOp, hf.eval hx, Sem.run_bind, hr, Result.andThen_ok]
  rfl
theorem Yl_strEqT {x y : Operand} {s : ByteArray} {t u : TypeId} (hx : ev L x = some (.string s)) (hy : ev L y = some (.string s)) :
    Yl P L ⟨dst, .binOp .eql t x y u, ty, pos, aft, gd⟩ (.bool true) := by
  have := Yl_strEq (P := P) (dst := dst) (ty := ty) (pos := pos) (aft := aft) (gd := gd) (t := t) (u := u) hx hy
  simpa using this
end

section
variable {ps : List Value} {T : TypeId} {four : Bool} {st : Nat} {ns : List Nm} {o : List (Nat × List (List UInt8))}
theorem ROk.file (h : NodesOk ns) (hk : ∀ k, k ∈ o.map Prod.fst ↔ k < ns.length) (ho : (STv (tnsF (verF four) (ns.map Nm.nd) (nmOf ns))).out = o.map Prod.fst) {R : Rdr} {B : List UInt8} {N ss : Nat} {mi : Option (List Nat × List Nat)}
    (hr : ROk R ps T B N ss (esF (verF four) st (ns.map Nm.nd) (nmOf ns)) (tnsF (verF four) (ns.map Nm.nd) (nmOf ns)) mi) {i : Nat} (hi : i < o.length) :
    ∃ f, R.fs[(o.getD i default).1]? = some f ∧ R.bfs.getD (R.out.getD i 0) 0 = f.bf ∧ (o.getD i default).1 < ns.length ∧ f.en.noPath = (enF (verF four) st (ns.map Nm.nd) (nmOf ns) (o.getD i default).1).noPath := by
  obtain ⟨er, hok⟩ := hr.ok
  have hoi : o.getD i default ∈ o := by rw [List.getD_eq_getElem?_getD, List.getElem?_eq_getElem hi]; exact List.getElem_mem _
  have hkk : (o.getD i default).1 < ns.length := (hk _).1 (List.mem_map.2 ⟨_, hoi, rfl⟩)
  have hcn := cnt_le (v := verF four) h.xs
  have hxl : (ns.map Nm.nd).length = ns.length := by simp
  have hes : (esF (verF four) st (ns.map Nm.nd) (nmOf ns)).length = cntF (verF four) (ns.map Nm.nd) := by simp [esF]
  have hlen : R.fs.length = (esF (verF four) st (ns.map Nm.nd) (nmOf ns)).length := by have := congrArg List.length hok.tok.rest; simpa using this
  have e1 : R.out.getD i 0 = (o.getD i default).1 := by
    rw [hok.out, ho]; simp [List.getD_eq_getElem?_getD, hi]
  have hkf : (o.getD i default).1 < R.fs.length := by omega
  obtain ⟨f, hf⟩ : ∃ f, R.fs[(o.getD i default).1]? = some f := ⟨_, List.getElem?_eq_getElem hkf⟩
  refine ⟨f, hf, ?_, hkk, ?_⟩
  · rw [e1, ← hok.tok.bf, List.getD_eq_getElem?_getD, List.getElem?_map, hf]; rfl
  have := congrArg (fun l => l[(o.getD i default).1]?) hok.tok.rest
  simp only [List.getElem?_map, hf, Option.map_some] at this
  unfold esF at this
  rw [List.getElem?_map, List.getElem?_range om_] at this
  exact Option.some.inj this
def stpR (n : Nat) : List Value := [nv 0, nv n, nv 0, nv 0, .slice none 0 0]
end

theorem prs_last (l : List (Nat × Nat)) (z : Nat × Nat) (r : List Value) : prs (l ++ [z]) ++ r = prs l ++ (prs [z] ++ r) := by simp [prs]
theorem compress_ct {ad : Nat → Nat} (q0 e g m cap : Nat) (l0 : List (Nat × Nat)) (r0 : List Value) (hm : m = l0.length) (hrun : Run ad q0 l0 e) (hsm : Small l0) (hlen : (prs l0 ++ r0).length = cap * 2) (he : e ≤ 1000000) (hcap : cap ≤ 1000000) :
  Ct Tryd.prog 63 [.slice (some ⟨g, 0, none⟩) m cap] [(g, blk (prs l0 ++ r0) 128)] (fun v q => ∃ l r, Run ad q0 l e ∧ Small l ∧ (prs l ++ r).length = cap * 2 ∧ v = .slice (some ⟨g, 0, none⟩) l.length cap ∧ q = [(g, blk (prs l ++ r) 128)]) := by
 have hm0 : l0.length ≤ cap := by rw [List.length_append, length_prs] at hlen; omega
 refine Ct_of Tryd.func63 rfl Tryd.ntmps63 rfl ?_
 intro E F
 simp only [numL, List.nil_append, List.cons_append]
 refine CW_sr ?_
 refine RW_a ?_
 refine RW_lv [0] ?_
 refine CW_sr ?_
 refine RW_m ?_
 refine RW_l (Yl_len rfl sl_125) ?_
 refine RW_a ?_
 refine RW_lv [0,3] ?_
 refine CW_seq ?_
 refine CW_sr ?_
 refine RW_a ?_
 refine RW_a ?_
 refine RW_lv [0,3,4,5] ?_
 refine CW_block ?_
 refine CW_loop (σ := Nat × Nat × List (Nat × Nat) × List Value) (fun q => [(0, .slice (some ⟨g, 0, none⟩) q.2.2.1.length cap), (3, nv m), (4, nv q.1), (5, nv q.2.1)]) (fun q => (g, blk (prs q.2.2.1 ++ q.2.2.2) 128) :: F) (fun q => q.1 ≤ m ∧ q.2.1 ≤ q.2.2.1.length ∧ Run ad q0 q.2.2.1 e ∧ Small q.2.2.1 ∧ (prs q.2.2.1 ++ q.2.2.2).length = cap * 2) (fun q => m - q.1) (0, 0, l0, r0) ⟨Nat.zero_le _, Nat.zero_le _, hrun, hsm, hlen⟩ prm_ (.cons (by rw [hm]; rfl) kp_) ?_
 rintro ⟨i, x, l, r⟩ ⟨hi, hx, hrun, hsm, hlen⟩
 simp only at hi hx hrun hsm hlen ⊢
 have hcl : l.length ≤ cap := by rw [List.length_append, length_prs] at hlen; omega
 refine CW_seq ?_
 refine CW_sr ?_
 refine RW_m ?_
 refine RW_m ?_
 refine RW_l (Yl_lss rfl rfl) ?_
 refine RW_m ?_
 refine RW_bool 12 rfl (fun hg1 => ?_) (fun hg1 => ?_)
 ·replace hg1 := of_decide_eq_true hg1
  refine RW_gy rfl rfl rfl (Yl.h (Yl_move rfl)) ?_
  refine RW_gy rfl rfl rfl (Yl.h (Yl_add (c := ((x + 1 : Nat) : Int)) rfl rfl (wi64 om_ om_))) ?_
  refine RW_gy rfl rfl rfl (Yl.h (Yl_move rfl)) ?_
  refine RW_gy rfl rfl rfl (Yl.h (Yl_len rfl sl_125)) ?_
  refine RW_gy rfl rfl rfl (Yl.h (Yl_lss rfl rfl)) ?_
  refine RW_l (Yl_pick_t rfl rfl) ?_
  refine RW_lv [0,3,4,5,18] ?_
  refine CW_cd rfl (fun hc2 => ?_) (fun hc2 => ?_)
  ·refine (CW_skip (QW_lv [0,3,4,5] ?_))
   refine CW_seq ?_
   refine CW_block ?_
   refine CW_seq ?_
   have h1 := hsm x om_
   have h2 := hsm (x + 1) om_
   have h3 := Run.two hrun (k := x) om_
   refine CW_draw [] _ mixed (Sub.refl _) ?_
   refine RD_m 0 ?_
   refine RD_m 1 ?_
   refine RD_l 2 rfl (Yl_indexN (b := g) (off := 0) (i := x) (o' := x * 2) rfl rfl sl_125 om_ om_) ?_
   refine RD_l 3 rfl (Yl_indexAN (b := g) (off := x * 2) (i := 0) (o' := x * 2) rfl rfl ar_128 om_ om_) ?_
   refine RD_m 5 ?_
   refine RD_m 6 ?_
   refine RD_l 7 rfl (Yl_indexN (b := g) (off := 0) (i := x) (o' := x * 2) rfl rfl sl_125 om_ om_) ?_
   refine RD_l 8 rfl (Yl_indexAN (b := g) (off := x * 2) (i := 1) (o' := x * 2 + 1) rfl rfl ar_128 om_ om_) ?_
   refine RD_m 11 ?_
   refine RD_m 12 ?_
   refine RD_l 13 rfl (Yl_add (c := ((x + 1 : Nat) : Int)) rfl rfl (wi64 om_ om_)) ?_
   refine RD_l 14 rfl (Yl_indexN (b := g) (off := 0) (i := x + 1) (o' := (x + 1) * 2) rfl rfl sl_125 om_ om_) ?_
   refine RD_l 15 rfl (Yl_indexAN (b := g) (off := (x + 1) * 2) (i := 0) (o' := (x + 1) * 2) rfl rfl ar_128 om_ om_) ?_
   refine RD_h (i := 4) #[true, true, true, true, false, true, true, true, true, true, false, true, true, true, true, true, true, false] rfl rfl rfl rfl kr_ (fun _ _ _ h => h) (Yh_load (v := nv (l.getD x default).1) rfl sc_2 mem_ (prs_at1 l r x om_)) ?_
   refine RD_h (i := 9) #[true, true, true, true, true, true, true, true, true, false, false, true, true, true, true, true, true, false] rfl rfl rfl rfl kr_ (fun _ _ _ h => h) (Yh_load (v := nv (l.getD x default).2) rfl sc_2 mem_ (prs_at2 l r x om_)) ?_
   refine RD_l 10 rfl (Yl_add (c := (((l.getD x default).1 + (l.getD x default).2 : Nat) : Int)) rfl rfl (wi64 om_ om_)) ?_
   refine RD_h (i := 16) #[true, true, true, true, true, true, true, true, true, true, true, true, true, true, true, true, false, false] rfl rfl rfl rfl kr_ (fun _ _ _ h => h) (Yh_load (v := nv (l.getD (x + 1) default).1) rfl sc_2 mem_ (prs_at1 l r (x + 1) om_)) ?_
   refine RD_l 17 rfl (Yl_eql rfl rfl) ?_
   refine (RD_done kr_ (QW_lv [0,3,4,5,38] ?_))
   refine CW_cd rfl (fun hc3 => ?_) (fun hc3 => ?_)
   ·refine CW_seq ?_
    refine CW_draw [16] _ mixed (Sub.refl _) ?_
    refine RD_m 0 ?_
    refine RD_m 1 ?_
    refine RD_m 2 ?_
    refine RD_m 3 ?_
    refine RD_l 4 rfl (Yl_indexN (b := g) (off := 0) (i := x) (o' := x * 2) rfl rfl sl_125 om_ om_) ?_
    refine RD_l 5 rfl (Yl_indexAN (b := g) (off := x * 2) (i := 1) (o' := x * 2 + 1) rfl rfl ar_128 om_ om_) ?_
    refine RD_m 7 ?_
    refine RD_m 8 ?_
    refine RD_l 9 rfl (Yl_add (c := ((x + 1 : Nat) : Int)) rfl rfl (wi64 om_ om_)) ?_
    refine RD_l 10 rfl (Yl_indexN (b := g) (off := 0) (i := x + 1) (o' := (x + 1) * 2) rfl rfl sl_125 om_ om_) ?_
    refine RD_l 11 rfl (Yl_indexAN (b := g) (off := (x + 1) * 2) (i := 1) (o' := (x + 1) * 2 + 1) rfl rfl ar_128 om_ om_) ?_
    refine RD_l 14 rfl (Yl_indexN (b := g) (off := 0) (i := x) (o' := x * 2) rfl rfl sl_125 om_ om_) ?_
    refine RD_h (i := 6) #[true, true, true, true, true, true, false, true, true, true, true, true, true, false, true, false, false] rfl rfl rfl rfl kr_ (fun _ _ _ h => h) (Yh_load (v := nv (l.getD x default).2) rfl sc_2 mem_ (prs_at2 l r x om_)) ?_
    refine RD_h (i := 12) #[true, true, true, true, true, true, true, true, true, true, true, true, false, false, true, false, false] rfl rfl rfl rfl kr_ (fun _ _ _ h => h) (Yh_load (v := nv (l.getD (x + 1) default).2) rfl sc_2 mem_ (prs_at2 l r (x + 1) om_)) ?_
    refine RD_l 13 rfl (Yl_add (c := (((l.getD x default).2 + (l.getD (x + 1) default).2 : Nat) : Int)) rfl rfl (wi64 om_ om_)) ?_
    refine RD_l 15 rfl (Yl_indexAN (b := g) (off := x * 2) (i := 1) (o' := x * 2 + 1) rfl rfl ar_128 om_ om_) ?_
    refine RD_o 16 ?_
    refine RO_fx0 rfl rfl rfl (Fx_store (v := nv ((l.getD x default).2 + (l.getD (x + 1) default).2)) rfl rfl sz_2 rfl rep_ (by rw [List.length_append, length_prs]; omega)) ?_
    rintro _ _ rfl
    rw [prs_set2 (k := x) om_ rfl]
    refine ⟨Or.inl kr_, ?_⟩
    refine (RD_done kr_ (QW_lv [0,3,4,5] ?_))
    refine CW_seq ?_
    refine CW_sr ?_
    refine RW_m ?_
    refine RW_m ?_
    refine RW_l (Yl_add (c := ((x + 1 : Nat) : Int)) rfl rfl (wi64 om_ om_)) ?_
    refine RW_m ?_
    refine RW_l (Yl_len rfl sl_125) ?_
    refine RW_l (Yl_sub (c := ((l.length - 1 : Nat) : Int)) rfl rfl (by rw [wi64 om_ om_]; omega)) ?_
    refine RW_l (Yl_cutLHN (l := x + 1) (h := l.length - 1) (o' := (x + 1) * 2) (m' := l.length - 1 - (x + 1)) rfl rfl rfl sl_125 om_ om_ om_ om_ rfl) ?_
    refine RW_l (Yl_len rfl sl_125) ?_
    refine RW_m ?_
    refine RW_lv [0,3,4,5,62,63] ?_
    refine CW_block ?_
    refine CW_lp (σ := Nat × List (Nat × Nat)) (fun q => [(0, .slice (some ⟨g, 0, none⟩) l.length cap), (3, nv m), (4, nv i), (5, nv x), (62, nv (l.length - 1 - (x + 1))), (63, nv q.1)]) (fun q => (g, blk (prs q.2 ++ r) 128) :: F) (fun q => x + 2 + q.1 ≤ l.length ∧ Sh (l.set x ((l.getD x default).1, (l.getD x default).2 + (l.getD (x + 1) default).2)) q.2 x q.1) (fun q => l.length - q.1) (0, (l.set x ((l.getD x default).1, (l.getD x default).2 + (l.getD (x + 1) default).2))) ⟨by simp only; omega, Sh.zero _ _⟩ ?_
    rintro ⟨j, M⟩ ⟨hj, hM⟩
    simp only at hj hM ⊢
    have hMl : M.length = l.length := by rw [hM.len, List.length_set]
    refine CW_sr ?_
    refine RW_l (Yl_lss rfl rfl) ?_
    refine RW_lv [0,3,4,5,62,63,64] ?_
    refine CW_seq ?_
    refine CW_cd rfl (fun hc4 => ?_) (fun hc4 => ?_)
    ·refine (CW_skip (QW_lv [0,3,4,5,62,63] ?_))
     refine CW_seq ?_
     refine CW_block ?_
     refine CW_sr ?_
     refine RW_m ?_
     refine RW_a ?_
     refine RW_lv [0,3,4,5,6,62,63] ?_
     refine CW_region ?_
     refine RW_m ?_
     refine RW_m ?_
     refine RW_l (Yl_add (c := ((x + 1 : Nat) : Int)) rfl rfl (wi64 om_ om_)) ?_
     refine RW_m ?_
     refine RW_l (Yl_add (c := ((x + 1 + j : Nat) : Int)) rfl rfl (wi64 om_ om_)) ?_
     refine RW_m ?_
     refine RW_m ?_
     refine RW_m ?_
     refine RW_l (Yl_add (c := ((j + x : Nat) : Int)) rfl rfl (wi64 om_ om_)) ?_
     refine RW_l (Yl_add (c := ((j + x + 2 : Nat) : Int)) rfl rfl (wi64 om_ om_)) ?_
     refine RW_l (Yl_indexN (b := g) (off := 0) (i := j + x + 2) (o' := (x + 2 + j) * 2) rfl rfl sl_125 om_ om_) ?_
     refine RW_h (Yh_loadE (cs := [nv (M.getD (x + 2 + j) default).1, nv (M.getD (x + 2 + j) default).2]) rfl ag_128 mem_ (by rw [List.length_append, length_prs]; omega) (prs_cut om_)) ?_
     refine RW_l (Yl_indexN (b := g) (off := 0) (i := x + 1 + j) (o' := (x + 1 + j) * 2) rfl rfl sl_125 om_ om_) ?_
     refine RW_fx0 rfl rfl (Fx_storeA (cs := [nv (M.getD (x + 2 + j) default).1, nv (M.getD (x + 2 + j) default).2]) rfl rfl sz_128 (by intro u hu; simp only [List.mem_cons, List.not_mem_nil, or_false] at hu; rcases hu with rfl | rfl <;> rfl) rep_ (by rw [List.length_append, length_prs]; simp only [List.length_cons, List.length_nil]; omega)) ?_
     rintro _ _ rfl
     rw [prs_spl _ _ _ _ _ om_]
     refine RW_nil ?_
     refine QW_normal_block ?_
     refine (QW_lv [0,3,4,5,62,63] ?_)
     refine CW_region ?_
     refine RW_l (Yl_add (c := ((j + 1 : Nat) : Int)) rfl rfl (wi64 om_ om_)) ?_
     refine RW_m ?_
     refine RW_nil ?_
     exact QW_rn (j + 1, M.set (x + 1 + j) (M.getD (x + 2 + j) default)) ⟨by simp only; omega, Sh.next hM (by rw [List.length_set]; omega)⟩ (by simp only; omega)
    refine CW_exit ?_
    refine QW_exit_then ?_
    refine QW_exit_then ?_
    refine QW_exit_block ?_
    refine (QW_lv [0,3,4,5] ?_)
    have hj2 : x + 2 + j = l.length := by omega
    obtain ⟨z, hz⟩ := Sh.done hM (by rw [List.length_set]; omega) (by rw [List.length_set]; exact hj2)
    subst hz
    have hE : (((l.set x ((l.getD x default).1, (l.getD x default).2 + (l.getD (x + 1) default).2))).eraseIdx (x + 1)).length = l.length - 1 := by rw [List.length_eraseIdx_of_lt (by rw [List.length_set]; omega), List.length_set]
    have hrun2 : Run ad q0 (((l.set x ((l.getD x default).1, (l.getD x default).2 + (l.getD (x + 1) default).2))).eraseIdx (x + 1)) e := Run.joinAt hrun om_ om_
    have hsm2 : Small (((l.set x ((l.getD x default).1, (l.getD x default).2 + (l.getD (x + 1) default).2))).eraseIdx (x + 1)) := Small.join hsm om_ om_
    have hlen2 : (prs (((l.set x ((l.getD x default).1, (l.getD x default).2 + (l.getD (x + 1) default).2))).eraseIdx (x + 1)) ++ (prs [z] ++ r)).length = cap * 2 := by
     simp only [List.length_append, length_prs, hE, List.length_singleton] at hlen ⊢
     omega
    rw [prs_last]
    refine CW_region ?_
    refine RW_m ?_
    refine RW_m ?_
    refine RW_l (Yl_len rfl sl_125) ?_
    refine RW_l (Yl_sub (c := ((l.length - 1 : Nat) : Int)) rfl rfl (by rw [wi64 om_ om_]; omega)) ?_
    refine RW_l (Yl_cutHN (h := l.length - 1) rfl rfl sl_125 om_) ?_
    refine RW_a ?_
    refine RW_nil ?_
    refine QW_normal_block ?_
    refine (QW_lv [0,3,4,5] ?_)
    refine CW_region ?_
    refine RW_m ?_
    refine RW_l (Yl_add (c := ((i + 1 : Nat) : Int)) rfl rfl (wi64 om_ om_)) ?_
    refine RW_a ?_
    refine RW_nil ?_
    first
     | exact QW_round (i + 1, x, ((l.set x ((l.getD x default).1, (l.getD x default).2 + (l.getD (x + 1) default).2))).eraseIdx (x + 1), prs [z] ++ r) ⟨by simp only; omega, by simp only; rw [hE]; omega, hrun2, hsm2, hlen2⟩ (by simp only; omega) (by repeat (first | exact Prm.nil _ | exact Rem.here _ _ | apply Rem.there | apply Prm.cons)) (.cons (by rw [hE]; rfl) (.cons rfl (.cons rfl (.cons rfl .nil))))
     | exact QW_round (i + 1, x + 1, l, r) ⟨by simp only; omega, by simp only; omega, hrun, hsm, hlen⟩ (by simp only; omega) (by repeat (first | exact Prm.nil _ | exact Rem.here _ _ | apply Rem.there | apply Prm.cons)) (.cons rfl (.cons rfl (.cons rfl (.cons rfl .nil))))
   refine CW_region ?_
   refine RW_m ?_
   refine RW_l (Yl_add (c := ((x + 1 : Nat) : Int)) rfl rfl (wi64 om_ om_)) ?_
   refine RW_a ?_
   refine RW_nil ?_
   refine QW_normal_block ?_
   refine (QW_lv [0,3,4,5] ?_)
   refine CW_region ?_
   refine RW_m ?_
   refine RW_l (Yl_add (c := ((i + 1 : Nat) : Int)) rfl rfl (wi64 om_ om_)) ?_
   refine RW_a ?_
   refine RW_nil ?_
   first
    | exact QW_round (i + 1, x, ((l.set x ((l.getD x default).1, (l.getD x default).2 + (l.getD (x + 1) default).2))).eraseIdx (x + 1), prs [z] ++ r) ⟨by simp only; omega, by simp only; rw [hE]; omega, hrun2, hsm2, hlen2⟩ (by simp only; omega) (by repeat (first | exact Prm.nil _ | exact Rem.here _ _ | apply Rem.there | apply Prm.cons)) (.cons (by rw [hE]; rfl) (.cons rfl (.cons rfl (.cons rfl .nil))))
    | exact QW_round (i + 1, x + 1, l, r) ⟨by simp only; omega, by simp only; omega, hrun, hsm, hlen⟩ (by simp only; omega) (by repeat (first | exact Prm.nil _ | exact Rem.here _ _ | apply Rem.there | apply Prm.cons)) (.cons rfl (.cons rfl (.cons rfl (.cons rfl .nil))))
  refine CW_exit ?_
  refine QW_exit_then ?_
  refine QW_exit_then ?_
  refine QW_exit_block ?_
  refine (QW_lv [0] ?_)
  refine CW_sr ?_
  refine RW_m ?_
  refine RW_a ?_
  refine RW_lv [2] ?_
  refine CW_ret ?_
  exact QW_ret1 rfl rfl [_] ⟨l, r, hrun, hsm, hlen, rfl, rfl⟩ (Prm.nil _)
 replace hg1 := of_decide_eq_false hg1
 refine RW_skip rfl rfl rfl ?_
 refine RW_skip rfl rfl rfl ?_
 refine RW_skip rfl rfl rfl ?_
 refine RW_skip rfl rfl rfl ?_
 refine RW_skip rfl rfl rfl ?_
 refine RW_l (Yl_pick_f rfl rfl) ?_
 refine RW_lv [0,3,4,5,18] ?_
 refine CW_false rfl ?_
 refine CW_exit ?_
 refine QW_exit_then ?_
 refine QW_exit_then ?_
 refine QW_exit_block ?_
 refine (QW_lv [0] ?_)
 refine CW_sr ?_
 refine RW_m ?_
 refine RW_a ?_
 refine RW_lv [2] ?_
 refine CW_ret ?_
 exact QW_ret1 rfl rfl [_] ⟨l, r, hrun, hsm, hlen, rfl, rfl⟩ (Prm.nil _)

structure Src where
  bf : Nat
  bd : Nat
  br : Nat
  ini : Nat
  ss : Nat
  u : Nat
  size : Nat
  nm : List UInt8
  path : Value
  rd : List Value
  G : Heap
  cs : List Nat
  of_ : Nat → Nat
  mini : Bool
@[reducible] def Src.fb (S : Src) (pos k r : Nat) : Nat × Obj := (S.bf, blk (fiF S.nm S.ini S.path ((S.size : Nat) : Int) ((pos : Nat) : Int) (snx S.cs k) ((r : Nat) : Int) S.bd S.br) 93)
@[reducible] def Src.rb (S : Src) : Nat × Obj := (S.br, blk S.rd 89)
def Src.ad (S : Src) (i : Nat) : Nat := S.of_ (i / S.u) + i % S.u
structure Src.Ok (S : Src) : Prop where
  sel : (S.mini = true ∧ S.size < 4096 ∧ S.u = 64) ∨ (S.mini = false ∧ 4096 ≤ S.size ∧ S.u = S.ss)
  rd1 : S.rd[1]? = some (uv S.ss)
  ss2 : 512 ≤ S.ss ∧ S.ss ≤ 4096
  sz : S.size ≤ 1000000
  cs1 : ∀ j, j * S.u < S.size → snx S.cs j ≤ 1000000
  of1 : ∀ j, j * S.u < S.size → S.of_ j ≤ 100000000
  nx : ∀ j, j * S.u < S.size → Ct Tryd.prog 60 [pv S.br, uv (snx S.cs j), .bool S.mini] (S.rb :: S.G) (fun v q => v = .tuple #[uv (snx S.cs (j + 1)), .nilIface] ∧ q = S.rb :: S.G)
  off : ∀ j, j * S.u < S.size → Ct Tryd.prog 62 [pv S.br, uv (snx S.cs j), .bool S.mini] (S.rb :: S.G) (fun v q => v = .tuple #[nv (S.of_ j), .nilIface] ∧ q = S.rb :: S.G)
theorem Src.ad_part {S : Src} {k r j : Nat} (h : r + j < S.u) : S.ad (k * S.u + r + j) = S.of_ k + r + j := by
  unfold Src.ad
  rw [Nat.add_assoc (k * S.u), Nat.mul_comm k, Nat.mul_add_div om_, Nat.div_eq_of_lt h, Nat.mul_add_mod, Nat.mod_eq_of_lt h, Nat.add_zero]
  omega
theorem few_parts {u sz j i : Nat} (hu : 0 < u) (h : i * u ≤ j + u) (hj : j < sz) : i + 1 ≤ sz / u + 2 := by
  rcases Nat.lt_or_ge i (sz / u + 2) with h1 | h1
  · omega
  exfalso
  have h2 := Nat.mul_le_mul_right u h1
  have h3 := Nat.lt_div_mul_add (a := sz) hu
  rw [Nat.add_mul] at h2
  omega

theorem getOffsetM_ct (br bh bm ss sn loc n c : Nat) (rd hd lm : List Value) (T : TypeId) (h1 : rd[1]? = some (uv ss)) (h3 : rd[3]? = some (.pointer (some ⟨bh, 0, none⟩))) (hm : hd[3]? = some (.slice (some ⟨bm, 0, none⟩) n c)) (hlm : lm[sn / (ss / 64)]? = some (uv loc)) (hsn : sn / (ss / 64) < n) (hn : n ≤ 100000000) (hss : 512 ≤ ss ∧ ss ≤ 4096) (hsnb : sn ≤ 4294967295) (hloc : loc ≤ 1000000) :
  Ct Tryd.prog 62 [pv br, uv sn, .bool true] [(br, blk rd 89), (bh, blk hd 137), (bm, blk lm T)] (fun v q => v = .tuple #[nv ((loc + 1) * ss + sn % (ss / 64) * 64), .nilIface] ∧ q = [(br, blk rd 89), (bh, blk hd 137), (bm, blk lm T)]) := by
 obtain ⟨e, he⟩ : ∃ e, e = ss / 64 := ⟨_, rfl⟩
 have hq4 : 8 ≤ e ∧ e ≤ 64 := by omega
 rw [← he] at hlm hsn
 obtain ⟨q, hq⟩ : ∃ q, q = sn / e := ⟨_, rfl⟩
 obtain ⟨r, hr⟩ : ∃ r, r = sn % e := ⟨_, rfl⟩
 rw [← hq] at hlm hsn
 have hdl : q ≤ sn := by rw [hq]; exact Nat.div_le_self sn e
 have hml : r < e := by rw [hr]; exact Nat.mod_lt sn om_
 have hprod : (loc + 1) * ss ≤ 1000001 * 4096 := Nat.mul_le_mul om_ om_
 refine Ct_of Tryd.func62 rfl Tryd.ntmps62 rfl ?_
 intro E F
 simp only [numL, List.nil_append, List.cons_append]
 refine CW_sr ?_
 refine RW_a ?_
 refine RW_a ?_
 refine RW_lv [0,1,2] ?_
 refine CW_seq ?_
 refine CW_sr ?_
 refine RW_m ?_
 refine RW_lv [0,1,11] ?_
 refine CW_cond rfl (fun hc1 => ?_) (fun hc1 => ?_)
 ·skip
  refine CW_sr ?_
  refine RW_m ?_
  refine RW_n ?_
  refine RW_f fo_89_1 ?_
  refine RW_h (Yh_lh (v := uv ss) sc_67 h1) ?_
  refine RW_l (Yl_quo (c := (e : Int)) rfl rfl om_ (by rw [he]; exact quo32 (b := 64) om_)) ?_
  refine RW_a ?_
  refine RW_lv [0,1,8] ?_
  refine CW_sr ?_
  refine RW_m ?_
  refine RW_m ?_
  refine RW_l (Yl_quo (c := (q : Int)) rfl rfl om_ (by rw [hq]; exact quo32 (a := sn) (b := e) om_)) ?_
  refine RW_l (Yl_conv (c := ((q : Nat) : Int)) rfl in_67 in_3 (wi64 om_ om_)) ?_
  refine RW_a ?_
  refine RW_lv [0,1,8,9] ?_
  refine CW_seq ?_
  refine CW_sr ?_
  refine RW_m ?_
  refine RW_m ?_
  refine RW_n ?_
  refine RW_f fo_89_3 ?_
  refine RW_h (Yh_lh (v := .pointer (some ⟨bh, 0, none⟩)) sc_82 h3) ?_
  refine RW_n ?_
  refine RW_f fo_137_3 ?_
  refine RW_h (Yh_lh (v := .slice (some ⟨bm, 0, none⟩) n c) sc_22 hm) ?_
  refine RW_l (Yl_len rfl sl_22) ?_
  refine RW_l (Yl_geq rfl rfl) ?_
  refine RW_lv [0,1,8,9,30] ?_
  refine CW_cd rfl (fun hc2 => ?_) (fun hc2 => ?_)
  ·exfalso; omega
  refine (CW_skip (QW_lv [0,1,8,9] ?_))
  refine CW_sr ?_
  refine RW_m ?_
  refine RW_m ?_
  refine RW_l (Yl_rem (c := (r : Int)) rfl rfl om_ (by rw [hr]; exact remN sn e)) ?_
  refine RW_a ?_
  refine RW_lv [0,9,10] ?_
  refine CW_seq ?_
  refine CW_draw [] _ mixed (Sub.refl _) ?_
  refine RD_m 0 ?_
  refine RD_n 1 ?_
  refine RD_f 2 fo_89_3 ?_
  refine RD_m 7 ?_
  refine RD_m 12 ?_
  refine RD_n 13 ?_
  refine RD_f 14 fo_89_1 ?_
  refine RD_m 18 ?_
  refine RD_l 19 rfl (Yl_conv (c := ((r : Nat) : Int)) rfl in_67 in_2 (wi64 om_ om_)) ?_
  refine RD_l 20 rfl (Yl_mul (c := ((r * 64 : Nat) : Int)) rfl rfl (mulN (a := r) (b := 64) om_)) ?_
  refine RD_h (i := 3) #[true, true, true, false, false, false, false, true, false, false, false, false, true, true, true, true, true, false, true, true, true, false, false, false] rfl rfl rfl rfl kr_ (fun _ _ _ h => h) (Yh_lh (v := .pointer (some ⟨bh, 0, none⟩)) sc_82 h3) ?_
  refine RD_n 4 ?_
  refine RD_f 5 fo_137_3 ?_
  refine RD_h (i := 6) #[true, true, true, true, true, true, false, true, false, false, false, false, true, true, true, true, true, false, true, true, true, false, false, false] rfl rfl rfl rfl kr_ (fun _ _ _ h => h) (Yh_lh (v := .slice (some ⟨bm, 0, none⟩) n c) sc_22 hm) ?_
  refine RD_l 8 rfl (Yl_indexN (b := bm) (off := 0) (i := q) (o' := q) rfl rfl sl_22 om_ om_) ?_
  refine RD_h (i := 9) #[true, true, true, true, true, true, true, true, true, false, false, false, true, true, true, true, true, false, true, true, true, false, false, false] rfl rfl rfl rfl kr_ (fun _ _ _ h => h) (Yh_lh (v := uv loc) sc_67 hlm) ?_
  refine RD_l 10 rfl (Yl_add (c := ((loc + 1 : Nat) : Int)) rfl rfl (wu32 om_ om_)) ?_
  refine RD_l 11 rfl (Yl_conv (c := ((loc + 1 : Nat) : Int)) rfl in_67 in_2 (wi64 om_ om_)) ?_
  refine RD_h (i := 15) #[true, true, true, true, true, true, true, true, true, true, true, true, true, true, true, false, false, false, true, true, true, false, false, false] rfl rfl rfl rfl kr_ (fun _ _ _ h => h) (Yh_lh (v := uv ss) sc_67 h1) ?_
  refine RD_l 16 rfl (Yl_conv (c := ((ss : Nat) : Int)) rfl in_67 in_2 (wi64 om_ om_)) ?_
  refine RD_l 17 rfl (Yl_mul (c := (((loc + 1) * ss : Nat) : Int)) rfl rfl (mulN (a := loc + 1) (b := ss) om_)) ?_
  refine RD_l 21 rfl (Yl_add (c := (((loc + 1) * ss + r * 64 : Nat) : Int)) rfl rfl (wi64 om_ om_)) ?_
  refine RD_a 22 ?_
  refine RD_a 23 ?_
  refine (RD_done kr_ (QW_lv [6,7] ?_))
  refine CW_ret ?_
  refine QW_ret_then ?_
  exact QW_ret2 rfl rfl rfl [_, _, _] ⟨by rw [hr, he]; rfl, rfl⟩ (Prm.nil _)
 skip
 exact absurd hc1 (by decide)
theorem getOffsetL_ct (br ss sn : Nat) (rd : List Value) (h1 : rd[1]? = some (uv ss)) (hss : 512 ≤ ss ∧ ss ≤ 4096) (hsnb : sn ≤ 1000000) :
  Ct Tryd.prog 62 [pv br, uv sn, .bool false] [(br, blk rd 89)] (fun v q => v = .tuple #[nv ((sn + 1) * ss), .nilIface] ∧ q = [(br, blk rd 89)]) := by
 have hprod : (sn + 1) * ss ≤ 1000001 * 4096 := Nat.mul_le_mul om_ om_
 refine Ct_of Tryd.func62 rfl Tryd.ntmps62 rfl ?_
 intro E F
 simp only [numL, List.nil_append, List.cons_append]
 refine CW_sr ?_
 refine RW_a ?_
 refine RW_a ?_
 refine RW_lv [0,1,2] ?_
 refine CW_seq ?_
 refine CW_sr ?_
 refine RW_m ?_
 refine RW_lv [0,1,11] ?_
 refine CW_cond rfl (fun hc1 => ?_) (fun hc1 => ?_)
 ·skip
  exact absurd hc1 (by decide)
 skip
 refine (CW_skip (QW_lv [0,1] ?_))
 refine CW_sr ?_
 refine RW_m ?_
 refine RW_n ?_
 refine RW_f fo_89_1 ?_
 refine RW_h (Yh_lh (v := uv ss) sc_67 h1) ?_
 refine RW_m ?_
 refine RW_fx rfl rfl rfl (Fx_callQ ok_56 (vs := [uv ss, uv sn]) rfl pk_ (fileOffset_ct ss sn om_ om_ om_)) ?_
 rintro _ _ ⟨rfl, rfl⟩
 refine RW_a ?_
 refine RW_a ?_
 refine RW_lv [6,7] ?_
 refine CW_ret ?_
 exact QW_ret2 rfl rfl rfl [_] ⟨rfl, rfl⟩ (Prm.nil _)

theorem spl_app {α : Type} {o : Nat} {a b l : List α} (h : o + a.length + b.length ≤ l.length) : spl (o + a.length) b (spl o a l) = spl o (a ++ b) l := by
  apply List.ext_getElem?
  intro i
  rw [getElem?_spl (by rw [length_spl om_]; exact h), getElem?_spl om_, getElem?_spl (by rw [List.length_append]; omega), List.length_append]
  by_cases h1 : i < o
  · rw [if_pos om_, if_pos h1, if_pos h1]
  rw [if_neg h1, if_neg h1]
  by_cases h2 : i < o + a.length
  · rw [if_pos h2, if_pos h2, if_pos om_, List.getElem?_append_left om_]
  rw [if_neg h2]
  by_cases h3 : i < o + a.length + b.length
  · rw [if_pos h3, if_pos om_, List.getElem?_append_right om_]
    congr 1; omega
  rw [if_neg h3, if_neg h2, if_neg om_]
theorem spl_piece {o t l p : Nat} {D : List UInt8} {lb : List Value} (h1 : p + t + l ≤ D.length) (h2 : o + t + l ≤ lb.length) :
    spl (o + t) (bys ((D.drop (p + t)).take l)) (spl o (bys ((D.drop p).take t)) lb) = spl o (bys ((D.drop p).take (t + l))) lb := by
  have e1 : (bys ((D.drop p).take t)).length = t := by simp; omega
  have e2 : (bys ((D.drop (p + t)).take l)).length = l := by simp; omega
  have := spl_app (o := o) (a := bys ((D.drop p).take t)) (b := bys ((D.drop (p + t)).take l)) (l := lb) om_
  rw [e1] at this
  rw [this, List.take_add, List.drop_drop]
  simp [bys]
theorem spl_none {o p : Nat} {D : List UInt8} {lb : List Value} : spl o (bys ((D.drop p).take 0)) lb = lb := by simp [spl]

theorem Read_end (S : Src) (p k r : Nat) (hp : S.size ≤ p) (U : TypeId) (u : Value) (T0 : TypeId) (fz0 : Nat × Nat) (pa : Option Addr) (m c : Nat) :
  Ct Tryd.prog 41 [pv S.bf, .slice pa m c] [S.fb (p) (k) (r), (0, Obj.cells [.iface U u].toArray T0 fz0)] (fun v q => v = .tuple #[nv 0, .iface U u] ∧ q = [S.fb (p) (k) (r), (0, Obj.cells [.iface U u].toArray T0 fz0)]) := by
 refine Ct_of Tryd.func41 rfl Tryd.ntmps41 rfl ?_
 intro E F
 simp only [numL, List.nil_append, List.cons_append]
 refine CW_sr ?_
 refine RW_a ?_
 refine RW_a ?_
 refine RW_lv [0,1] ?_
 refine CW_seq ?_
 refine CW_seq ?_
 refine CW_draw [] _ mixed (Sub.refl _) ?_
 refine RD_m 0 ?_
 refine RD_n 1 ?_
 refine RD_f 2 fo_93_3 ?_
 refine RD_h (i := 3) #[true, true, true, false, false, false, false, false, false, false, false, false, false, false, false, false] rfl rfl rfl rfl kr_ (fun _ _ _ h => h) (Yh_ld (v := nv S.size) sc_2) ?_
 refine RD_l 4 rfl (Yl_lss rfl rfl) ?_
 refine RD_m 5 ?_
 refine RD_bool 21 rfl (fun hg1 => ?_) (fun hg1 => ?_)
 ·replace hg1 := of_decide_eq_true hg1
  refine RD_skip (i := 6) rfl rfl rfl rfl kr_ (fun _ _ _ h => h) ?_
  refine RD_skip (i := 7) rfl rfl rfl rfl kr_ (fun _ _ _ h => h) ?_
  refine RD_skip (i := 8) rfl rfl rfl rfl kr_ (fun _ _ _ h => h) ?_
  refine RD_skip (i := 9) rfl rfl rfl rfl kr_ (fun _ _ _ h => h) ?_
  refine RD_skip (i := 10) rfl rfl rfl rfl kr_ (fun _ _ _ h => h) ?_
  refine RD_skip (i := 11) rfl rfl rfl rfl kr_ (fun _ _ _ h => h) ?_
  refine RD_skip (i := 12) rfl rfl rfl rfl kr_ (fun _ _ _ h => h) ?_
  refine RD_skip (i := 13) rfl rfl rfl rfl kr_ (fun _ _ _ h => h) ?_
  refine RD_skip (i := 14) rfl rfl rfl rfl kr_ (fun _ _ _ h => h) ?_
  refine RD_l 15 rfl (Yl_pick_t rfl rfl) ?_
  refine (RD_done kr_ (QW_lv [0,1,31] ?_))
  refine CW_true rfl ?_
  refine CW_seq ?_
  refine CW_draw [] _ mixed (Sub.refl _) ?_
  refine RD_a 1 ?_
  refine RD_h (i := 0) #[false, true, false] rfl rfl rfl rfl kr_ (fun _ _ _ h => h) (Yh_ld (v := .iface U u) sc_105) ?_
  refine RD_a 2 ?_
  refine (RD_done kr_ (QW_lv [4,5] ?_))
  refine CW_ret ?_
  refine QW_ret_then ?_
  exact QW_ret2 rfl rfl rfl [_, _] ⟨rfl, rfl⟩ (Prm.nil _)
 replace hg1 := of_decide_eq_false hg1
 refine RD_m 6 ?_
 refine RD_n 7 ?_
 refine RD_f 8 fo_93_4 ?_
 refine RD_m 10 ?_
 refine RD_n 11 ?_
 refine RD_f 12 fo_93_3 ?_
 refine RD_h (i := 9) #[true, true, true, true, true, true, true, true, true, false, true, true, true, true, false, false] rfl rfl rfl rfl kr_ (fun _ _ _ h => h) (Yh_ld (v := nv (p)) sc_2) ?_
 refine RD_h (i := 13) #[true, true, true, true, true, true, true, true, true, true, true, true, true, false, false, false] rfl rfl rfl rfl kr_ (fun _ _ _ h => h) (Yh_ld (v := nv S.size) sc_2) ?_
 refine RD_l 14 rfl (Yl_geq rfl rfl) ?_
 refine RD_l 15 rfl (Yl_pick_f rfl rfl) ?_
 refine (RD_done kr_ (QW_lv [0,1,31] ?_))
 refine CW_cd rfl (fun hc2 => ?_) (fun hc2 => ?_)
 ·refine CW_seq ?_
  refine CW_draw [] _ mixed (Sub.refl _) ?_
  refine RD_a 1 ?_
  refine RD_h (i := 0) #[false, true, false] rfl rfl rfl rfl kr_ (fun _ _ _ h => h) (Yh_ld (v := .iface U u) sc_105) ?_
  refine RD_a 2 ?_
  refine (RD_done kr_ (QW_lv [4,5] ?_))
  refine CW_ret ?_
  refine QW_ret_then ?_
  exact QW_ret2 rfl rfl rfl [_, _] ⟨rfl, rfl⟩ (Prm.nil _)
 exfalso; omega

theorem code_eof (b : Prop) [Decidable b] (U : TypeId) (u : Value) (hU : Nat.beq U 123 = false) : Ct Tryd.prog 40 [if b then .nilIface else .iface U u] [] (fun v q => v = nv (if b then 0 else 6) ∧ q = []) := by
 by_cases h : b
 ·rw [if_pos h, if_pos h]; exact code_nil
 rw [if_neg h, if_neg h]; exact code_other U u hU
theorem app_eq {l2 rz : List Value} {c : List UInt8} {m : Nat} (hl : c.length = m) (h : l2.take (m * 1) = ((bys c ++ rz).drop 0).take (m * 1)) : l2 = bys c ++ l2.drop m := by
 subst hl
 rw [Nat.mul_one, List.drop_zero] at h
 have e : (bys c ++ rz).take c.length = bys c := by rw [List.take_append_of_le_length (by simp), List.take_of_length_le (by simp)]
 rw [e] at h
 conv => lhs; rw [← List.take_append_drop c.length l2, h]
theorem spl_front {c l : List Value} (h : c.length ≤ l.length) : spl 0 c l = c ++ l.drop c.length := by simp [spl]
theorem one_end (S : Src) (p k r n : Nat) (hpe : S.size ≤ p) (hn2 : n ≤ 65536) (U : TypeId) (u : Value) (T0 : TypeId) (fz0 : Nat × Nat) (hU : Nat.beq U 123 = false) :
  Ct Tryd.prog 37 [pv S.bf, .agg [nv 0, nv n, .int .i64 0, nv 0, .slice none 0 0].toArray] [S.fb (p) (k) (r), (0, Obj.cells [.iface U u].toArray T0 fz0)] (fun v q => v = .tuple #[.agg [.slice none 0 0, nv 0, nv 6].toArray, .bool true] ∧ q = [S.fb (p) (k) (r), (0, Obj.cells [.iface U u].toArray T0 fz0)]) := by
 refine Ct_of Tryd.func37 rfl Tryd.ntmps37 rfl ?_
 intro E F
 simp only [numL, List.nil_append, List.cons_append]
 refine CW_sr ?_
 refine RW_fx rfl rfl rfl (Fx_box (zs := [nv 0, nv n, .int .i64 0, nv 0, .slice none 0 0]) rfl rfl) ?_
 rintro _ _ ⟨b3, rfl, rfl⟩
 refine RW_fx rfl rfl rfl (Fx_alloc (zs := zs_58) ze_58 rfl) ?_
 rintro _ _ ⟨b4, rfl, rfl⟩
 refine RW_a ?_
 refine RW_lv [0,3,4] ?_
 refine CW_seq ?_
 refine CW_sr ?_
 refine RW_f fo_53_1 ?_
 refine RW_h (Yh_ld (v := nv n) sc_3) ?_
 refine RW_l (Yl_lssB false rfl rfl (decide_eq_false om_)) ?_
 refine RW_m ?_
 refine RW_gy rfl rfl rfl (Yl.h (Yl_field rfl fo_53_1)) ?_
 refine RW_gy rfl rfl rfl (Yh_ld (v := nv n) sc_3) ?_
 refine RW_gy rfl rfl rfl (Yl.h (Yl_gtrB false rfl rfl (decide_eq_false om_))) ?_
 refine RW_l (Yl_pick_f rfl rfl) ?_
 refine RW_m ?_
 refine RW_gy rfl rfl rfl (Yl.h (Yl_field rfl fo_53_4)) ?_
 refine RW_gy rfl rfl rfl (Yh_ld (v := .slice none 0 0) sc_23) ?_
 refine RW_gy rfl rfl rfl (Yl.h (Yl_len rfl sl_23)) ?_
 refine RW_gy rfl rfl rfl (Yl.h (Yl_gtrB false rfl rfl (decide_eq_false om_))) ?_
 refine RW_l (Yl_pick_f rfl rfl) ?_
 refine RW_lv [0,3,4,24] ?_
 refine CW_false rfl ?_
 refine (CW_skip (QW_lv [0,3,4] ?_))
 refine CW_sr ?_
 refine RW_f fo_53_1 ?_
 refine RW_h (Yh_ld (v := nv n) sc_3) ?_
 refine RW_fx rfl rfl rfl (Fx_makeU8 n rfl rfl om_) ?_
 rintro _ _ ⟨b28, rfl, rfl⟩
 refine RW_a ?_
 refine RW_lv [0,3,4,6] ?_
 refine CW_sr ?_
 refine RW_a ?_
 refine RW_lv [0,3,4,6] ?_
 refine CW_sr ?_
 refine RW_a ?_
 refine RW_lv [0,3,4,6] ?_
 refine CW_seq ?_
 refine CW_sr ?_
 refine RW_f fo_53_0 ?_
 refine RW_h (Yh_ld (v := nv 0) sc_3) ?_
 refine RW_lv [0,3,4,6,30] ?_
 refine CW_block ?_
 refine CW_sr ?_
 refine RW_l (Yl_eqlB true rfl rfl (decide_eq_true om_)) ?_
 refine RW_a ?_
 refine RW_lv [0,3,4,6,30,32] ?_
 refine CW_true rfl ?_
 refine CW_region ?_
 refine RW_m ?_
 refine RW_m ?_
 refine RW_fx rfl rfl rfl (Fx_callQ ok_41 (vs := [pv S.bf, .slice (some ⟨b28, 0, none⟩) n n]) (R := fun v => v = .tuple #[nv 0, .iface U u]) rfl (Pick.cons rem_ (Pick.cons rem_ (Pick.nil _))) (Read_end S p k r hpe U u T0 fz0 _ n n)) ?_
 rintro _ _ ⟨rfl, rfl⟩
 refine RW_m ?_
 refine RW_l (Yl_extract (v := nv 0) rfl rfl) ?_
 refine RW_l (Yl_extract (v := .iface U u) rfl rfl) ?_
 refine RW_a ?_
 refine RW_a ?_
 refine RW_nil ?_
 refine QW_normal_block ?_
 refine (QW_lv [4,6,7,8] ?_)
 refine CW_sr ?_
 refine RW_m ?_
 refine RW_m ?_
 refine RW_l (Yl_cutHN (h := 0) rfl rfl sl_23 (Nat.zero_le _)) ?_
 refine RW_l (Yl_append0 rfl rfl sl_23 (Nat.le_refl _)) ?_
 refine RW_m ?_
 refine RW_m ?_
 refine RW_fx rfl rfl rfl (Fx_callQ ok_40 (vs := [.iface U u]) (R := fun v => v = nv 6) rfl (Pick.nil _) (code_other U u hU)) ?_
 rintro _ _ ⟨rfl, rfl⟩
 refine RW_l (Yl_build (cs := [.slice none 0 0, nv 0, nv 6]) pl_58 ze_58 rfl rfl) ?_
 refine RW_fx0 rfl rfl (Fx_storeA (b := b4) (off := 0) (l := zs_58) (T := 58) (cs := [.slice none 0 0, nv 0, nv 6]) rfl rfl sz_58 (by intro u hu; simp only [List.mem_cons, List.not_mem_nil, or_false] at hu; rcases hu with hu | hu | hu <;> rw [hu] <;> rfl) rep_ (Nat.le_refl 3)) ?_
 rintro _ _ rfl
 refine RW_a ?_
 refine RW_lv [4,5] ?_
 refine CW_ret ?_
 refine QW_retCt rfl rfl rfl (b := b4) (T := 58) (cs := [.slice none 0 0, nv 0, nv 6]) mem_ ag_58 [S.fb (p) (k) (r), (0, Obj.cells [.iface U u].toArray T0 fz0)] ⟨rfl, rfl⟩ (fun w h => ?_)
 refine HA.sub h ?_
 exact .cons _ (.cons _ (.cons _ (.refl _)))

section
variable (v st : Nat) (xs : List Nd) (k : Nat)
def mnF : List Nat := (List.range ((smF xs).getD k 0)).map fun j => (mplF st xs).getD (((smF xs).take k).sum + j) 0
abbrev dtF : List UInt8 := (xs.getD k default).data
def uF : Nat := if (dtF xs k).length < 4096 then 64 else sizeF v
def cnF : List Nat := if (dtF xs k).length < 4096 then mnF st xs k else snF v st xs (3 + k)
def ofF (j : Nat) : Nat := if (dtF xs k).length < 4096 then (snx (snF v st xs 2) (snx (mnF st xs k) j / (sizeF v / 64)) + 1) * sizeF v + snx (mnF st xs k) j % (sizeF v / 64) * 64 else (snx (snF v st xs (3 + k)) j + 1) * sizeF v
def adF (i : Nat) : Nat := ofF v st xs k (i / uF v xs k) + i % uF v xs k
end
section
variable {v st : Nat} {xs : List Nd} {k : Nat}
theorem length_mnF : (mnF st xs k).length = (smF xs).getD k 0 := by simp [mnF]
theorem mnF_at {j : Nat} (hj : j < (smF xs).getD k 0) : (mnF st xs k).getD j 0 = (mplF st xs).getD (((smF xs).take k).sum + j) 0 := by
  unfold mnF
  rw [List.getD_eq_getElem?_getD, List.getElem?_map, List.getElem?_range hj]; rfl
theorem uF_or : uF v xs k = 64 ∨ uF v xs k = 512 ∨ uF v xs k = 4096 := by
  unfold uF
  split
  · exact .inl rfl
  exact .inr (sizeF_or v)
theorem sm_count (hk : k < xs.length) (hs : (xs.getD k default).stream = true) (hl : (dtF xs k).length < 4096) : (smF xs).getD k 0 = partsF (dtF xs k).length 64 := by
  rw [sm_at xs hk]; unfold smallF; rw [if_pos ⟨hs, hl⟩]
theorem length_cnF (hk : k < xs.length) (hs : (xs.getD k default).stream = true) : (cnF v st xs k).length = partsF (dtF xs k).length (uF v xs k) := by
  unfold cnF uF
  split
  · rename_i hl; rw [length_mnF, sm_count hk hs hl]
  rename_i hl; rw [length_snF, ← parts_large hk hs hl]
theorem in_cnF (hk : k < xs.length) (hs : (xs.getD k default).stream = true) {i : Nat} (hi : i < (dtF xs k).length) : i / uF v xs k < (cnF v st xs k).length := by
  have hu := uF_or (v := v) (xs := xs) (k := k)
  rw [length_cnF hk hs, lt_partsF om_]
  have := Nat.div_mul_le_self i (uF v xs k)
  omega
theorem mch_at (h : Ok xs) (hk : k < xs.length) {j : Nat} (hj : j < (smF xs).getD k 0) : walkP (mchF v st xs).table ((mchF v st xs).outs.getD k 0) j = snx (mnF st xs k) j := by
  rw [mch_walk h hk hj, snx_in _ (by rw [length_mnF]; exact hj), mnF_at hj]
theorem mch_end (h : Ok xs) (hk : k < xs.length) : walkP (mchF v st xs).table ((mchF v st xs).outs.getD k 0) ((smF xs).getD k 0) = CE := by
  have h1 := mfF_le (v := v) h
  refine chain_end (pl := mplF st xs) (mixedF_nodup _ _) (t := mtbF v xs) (from_ := 0) (cs := smF xs) ?_ ?_ (by simpa [smF] using hk)
  · intro x hx; have := mixedF_lt _ _ x hx; simp [mtbF]; omega
  simp [mplF, miF]
theorem mn_next (h : Ok xs) (hk : k < xs.length) {j : Nat} (hj : j < (smF xs).getD k 0) : (mchF v st xs).table.getD (snx (mnF st xs k) j) 0 = snx (mnF st xs k) (j + 1) := by
  rw [← mch_at (v := v) h hk hj]
  show walkP (mchF v st xs).table ((mchF v st xs).outs.getD k 0) (j + 1) = _
  by_cases e : j + 1 < (smF xs).getD k 0
  · exact mch_at h hk e
  have e2 : j + 1 = (smF xs).getD k 0 := by omega
  rw [e2, mch_end h hk, snx_end _ (by rw [length_mnF])]
theorem mn_lt (h : Ok xs) (hk : k < xs.length) {j : Nat} (hj : j < (smF xs).getD k 0) : snx (mnF st xs k) j < miF xs := by
  rw [snx_in _ (by rw [length_mnF]; exact hj), mnF_at hj]
  refine getD_lt (mixedF_lt _ _) ?_
  have h2 := sum_take_succ (smF xs) k (by simpa [smF] using hk)
  simp [mplF, miF]; omega
theorem tabF_at {t : List Nat} {i : Nat} (hi : i < t.length) : Holds (4 * t.length) (4 * i) (le (t.getD i 0) 4) (tabF t) := by
  unfold tabF tabTo
  have := iter_make (P := fun l => Holds (4 * t.length) (0 + 4 * i) (le (t.getD i 0) 4) l) (I := fun l => l.length = 4 * t.length) (fun j l => putF (0 + 4 * j) (t.getD j 0) 4 l) i t.length (List.replicate (4 * t.length) 0) hi (by simp)
    (fun q l' hq h' => by rw [length_putF om_]; exact h') (fun l' h' => put_self h' om_) (fun q l' h1 h2 h' => put_other h' (.inl (by rw [length_le]; omega)) om_)
  rw [Nat.zero_add] at this
  exact this
theorem mini_next (h : Ok xs) (hn : ∀ x ∈ xs, x.name.length ≤ 31) (hk : k < xs.length) {j o : Nat} (hj : j < (smF xs).getD k 0) (ho : o = (snx (snF v st xs 1) (snx (mnF st xs k) j / (sizeF v / 4)) + 1) * sizeF v + snx (mnF st xs k) j % (sizeF v / 4) * 4) :
    snx (mnF st xs k) j / (sizeF v / 4) < (snF v st xs 1).length ∧ o + 4 ≤ NF v xs ∧ num (((writeF v st xs).drop o).take 4) = snx (mnF st xs k) (j + 1) := by
  have hz := size_ge v
  have hp4 := per4 v
  have hp : sizeF v / 4 = perF v := rfl
  have hm := mfF_le (v := v) h
  have hml := mn_lt (st := st) h hk hj
  have hlm := length_mch (v := v) (st := st) h
  rw [hp] at ho ⊢
  obtain ⟨mp, hmp⟩ : ∃ mp, mp = snx (mnF st xs k) j := ⟨_, rfl⟩
  have hnx := mn_next (v := v) (st := st) h hk hj
  rw [← hmp] at ho hml hnx ⊢
  obtain ⟨q, hq⟩ : ∃ q, q = mp / perF v := ⟨_, rfl⟩
  obtain ⟨r, hr⟩ : ∃ r, r = mp % perF v := ⟨_, rfl⟩
  have hqr : q * perF v + r = mp := by rw [hq, hr, Nat.mul_comm]; exact Nat.div_add_mod _ _
  have hrl : r < perF v := by rw [hr]; exact Nat.mod_lt _ om_
  rw [← hq, ← hr] at ho
  have hq1 : q < mfF v xs := by rw [hq]; exact (Nat.div_lt_iff_lt_mul om_).2 om_
  have hq2 : q < (csF v xs).getD 1 0 := hq1
  have hqs : q < (snF v st xs 1).length := by rw [length_snF]; exact hq2
  have h1 := write_mtab (v := v) (st := st) h hn hq1
  have h2 := tabF_at (t := (mchF v st xs).table) (i := mp) (by rw [hlm.1]; omega)
  have h3 : Holds (sizeF v) (r * 4) (le ((mchF v st xs).table.getD mp 0) 4) (((tabF (mchF v st xs).table).drop (q * sizeF v)).take (sizeF v)) := by
    refine h2.window' (a := q * sizeF v) ?_ (by rw [length_le]; omega) ?_
    · rw [← hp4, ← hqr]; rw [Nat.mul_add, Nat.mul_left_comm, Nat.mul_comm r]
    rw [hlm.1, ← hp4, ← Nat.mul_left_comm]
    have := Nat.mul_le_mul_right (perF v) (show q + 1 ≤ mfF v xs by omega)
    rw [Nat.succ_mul] at this
    omega
  have h4 := h1.sub (a := r * 4) (b := 4) (by rw [h3.len]; omega)
  rw [h3.cut' (n := 4) (length_le _ _), hnx] at h4
  have e1 : seF v st xs (ixF v xs 1 q) = (snx (snF v st xs 1) q + 1) * sizeF v := by
    rw [snx_in _ hqs, snF_at hq2]; unfold seF; rw [Nat.mul_comm, Nat.add_comm 1]
  rw [e1, ← ho] at h4
  refine ⟨by rw [← hq]; exact hqs, by have := h4.fit; rw [length_le] at this; exact this, h4.num ?_⟩
  have e4 : (256 : Nat) ^ 4 = 4294967296 := rfl
  by_cases e : j + 1 < (smF xs).getD k 0
  · have := mn_lt (st := st) h hk e
    have := miF_le h
    omega
  rw [snx_end _ (by rw [length_mnF]; omega)]; decide
theorem mini_sec (h : Ok xs) (hk : k < xs.length) {j : Nat} (hj : j < (smF xs).getD k 0) : snx (mnF st xs k) j / (sizeF v / 64) < (csF v xs).getD 2 0 := by
  have hz := size_ge v
  have hml := mn_lt (st := st) h hk hj
  rw [cs_2, lt_partsF om_]
  have h1 := Nat.div_mul_le_self (snx (mnF st xs k) j) (sizeF v / 64)
  have h2 : sizeF v / 64 * 64 = sizeF v := by rcases sizeF_or v with e | e <;> rw [e]
  have h3 : snx (mnF st xs k) j / (sizeF v / 64) * sizeF v = snx (mnF st xs k) j / (sizeF v / 64) * (sizeF v / 64) * 64 := by rw [Nat.mul_assoc, h2]
  rw [h3]
  omega
theorem of_mini (h : Ok xs) (hk : k < xs.length) (hl : (dtF xs k).length < 4096) {j : Nat} (hj : j < (smF xs).getD k 0) : ofF v st xs k j = seF v st xs (ixF v xs 2 (snx (mnF st xs k) j / (sizeF v / 64))) + snx (mnF st xs k) j % (sizeF v / 64) * 64 := by
  have h1 := mini_sec (v := v) (st := st) h hk hj
  unfold ofF
  rw [if_pos hl, snx_in (snF v st xs 2) (by rw [length_snF]; exact h1), snF_at h1]
  unfold seF; rw [Nat.mul_comm (sizeF v), Nat.add_comm 1]
theorem of_large (hl : ¬ (dtF xs k).length < 4096) {j : Nat} (hj : j < (csF v xs).getD (3 + k) 0) : ofF v st xs k j = seF v st xs (ixF v xs (3 + k) j) := by
  unfold ofF
  rw [if_neg hl, snx_in _ (by rw [length_snF]; exact hj), snF_at hj]
  unfold seF; rw [Nat.mul_comm (sizeF v), Nat.add_comm 1]
theorem mpl_ne {k' j j' : Nat} (hk : k < xs.length) (hk' : k' < xs.length) (hj : j < (smF xs).getD k 0) (hj' : j' < (smF xs).getD k' 0) (e : snx (mnF st xs k) j = snx (mnF st xs k') j') : k = k' ∧ j = j' := by
  rw [snx_in _ (by rw [length_mnF]; exact hj), mnF_at hj, snx_in _ (by rw [length_mnF]; exact hj'), mnF_at hj'] at e
  have hl : (smF xs).length = xs.length := by simp [smF]
  have h1 := sum_take_succ (smF xs) k om_
  have h2 := sum_take_succ (smF xs) k' om_
  have h3 : (mplF st xs).length = (smF xs).sum := by simp [mplF, miF]
  have e2 := nodup_getD (pl := mplF st xs) (mixedF_nodup _ _) (by rw [h3]; omega) (by rw [h3]; omega) e
  rcases Nat.lt_trichotomy k k' with h | h | h
  · have := take_mono (smF xs) h om_; omega
  · subst h; exact ⟨rfl, by omega⟩
  have := take_mono (smF xs) h om_; omega
theorem nTo_mini (h : Ok xs) (hn : ∀ x ∈ xs, x.name.length ≤ 31) (hk : k < xs.length) (hk0 : k ≠ 0) (hs : (xs.getD k default).stream = true) (hl : (dtF xs k).length < 4096) {j : Nat} (hj : j < (smF xs).getD k 0) : ∀ m, k < m → m ≤ xs.length →
    Holds (64 * miF xs) (64 * snx (mnF st xs k) j) (((dtF xs k).drop (j * 64)).take 64) (nTo v st xs m).2.1 := by
  intro m
  have fits : ∀ k' j', k' < xs.length → j' < (smF xs).getD k' 0 → 64 * walkP (mchF v st xs).table ((mchF v st xs).outs.getD k' 0) j' + 64 ≤ 64 * miF xs := fun k' j' h1 h2 => by
    rw [mch_at h h1 h2]; have := mn_lt (st := st) h h1 h2; omega
  induction m with
  | zero => intro h; omega
  | succ m ih =>
    intro h1 h2
    have hlen := (nTo_len (v := v) (st := st) h hn (show m ≤ xs.length by omega)).2.1
    rw [nTo_small]
    by_cases e : m = k
    · subst e
      rw [if_pos ⟨hk0, hs, hl⟩]
      have hc := sm_count hk hs hl
      have := fill0To_self (mt := (mchF v st xs).table) (start := (mchF v st xs).outs.getD m 0) (data := dtF xs m) hlen (j := j) ((smF xs).getD m 0) hj (fun a b ha hb e => by
        rw [mch_at h hk ha, mch_at h hk hb] at e
        exact (mpl_ne hk hk ha hb e).2) (fun a ha => fits m a hk ha)
      rw [mch_at h hk hj] at this
      unfold fill0F
      rw [← hc]; exact this
    split
    · rename_i hc
      have hc2 := sm_count (show m < xs.length by omega) hc.2.1 hc.2.2
      refine fill0To_other (ih om_ om_) _ (fun a ha => ?_) (fun a ha => fits m a om_ (by rw [hc2]; exact ha))
      have ha' : a < (smF xs).getD m 0 := by rw [hc2]; exact ha
      rw [mch_at h om_ ha']
      have hne : snx (mnF st xs k) j ≠ snx (mnF st xs m) a := fun e2 => e (mpl_ne hk om_ hj ha' e2).1.symm
      have hcl := chunk_le (dtF xs k) (j * 64) 64
      omega
    exact ih om_ om_
theorem write_mini (h : Ok xs) (hn : ∀ x ∈ xs, x.name.length ≤ 31) (hk : k < xs.length) (hk0 : k ≠ 0) (hs : (xs.getD k default).stream = true) (hl : (dtF xs k).length < 4096) {j : Nat} (hj : j < (smF xs).getD k 0) :
    Holds (NF v xs) (ofF v st xs k j) (((dtF xs k).drop (j * 64)).take 64) (writeF v st xs) := by
  have hz := size_ge v
  have hml := mn_lt (st := st) h hk hj
  have h1 := nTo_mini (v := v) (st := st) h hn hk hk0 hs hl hj xs.length hk (Nat.le_refl _)
  rw [nTo_all] at h1
  obtain ⟨mp, hmp⟩ : ∃ mp, mp = snx (mnF st xs k) j := ⟨_, rfl⟩
  have hsec := mini_sec (v := v) (st := st) h hk hj
  rw [of_mini h hk hl hj]
  rw [← hmp] at h1 hml hsec ⊢
  obtain ⟨p, hp⟩ : ∃ p, p = sizeF v / 64 := ⟨_, rfl⟩
  have hp64 : p * 64 = sizeF v := by rw [hp]; rcases sizeF_or v with e | e <;> rw [e]
  rw [← hp] at hsec ⊢
  obtain ⟨q, hq⟩ : ∃ q, q = mp / p := ⟨_, rfl⟩
  obtain ⟨r, hr⟩ : ∃ r, r = mp % p := ⟨_, rfl⟩
  have hqr : q * p + r = mp := by rw [hq, hr, Nat.mul_comm]; exact Nat.div_add_mod _ _
  have hrl : r < p := by rw [hr]; exact Nat.mod_lt _ om_
  rw [← hq] at hsec ⊢
  rw [← hr]
  have hcl := chunk_le (dtF xs k) (j * 64) 64
  have eq1 : q * sizeF v = q * p * 64 := by rw [← hp64, Nat.mul_assoc]
  have h2 := write_small (v := v) (st := st) h hn (j := q) (by rw [eq1]; omega)
  have hlen := (nTo_len (v := v) (st := st) h hn (Nat.le_refl _)).2.1
  rw [nTo_all] at hlen
  have hcut : ((((ndsF v st xs).2.1.drop (q * sizeF v)).take (sizeF v)).drop (r * 64)).take ((((dtF xs k).drop (j * 64)).take 64).length) = ((dtF xs k).drop (j * 64)).take 64 := by
    rw [List.drop_take, List.drop_drop, List.take_take, Nat.min_eq_left om_]
    have := h1.cut
    rw [← this]
    congr 2
    rw [eq1]; omega
  have h3 := h2.sub (a := r * 64) (b := (((dtF xs k).drop (j * 64)).take 64).length) (by
    have h5 := h1.fit
    rw [List.length_take (l := List.drop (q * sizeF v) _), List.length_drop (l := (ndsF v st xs).2.1), hlen, eq1]
    omega)
  rw [hcut] at h3
  exact h3
theorem dat (h : Ok xs) (hn : ∀ x ∈ xs, x.name.length ≤ 31) (hk : k < xs.length) (hk0 : k ≠ 0) (hs : (xs.getD k default).stream = true) : Dat (adF v st xs k) (writeF v st xs) (dtF xs k) := by
  intro i hi
  have hu := uF_or (v := v) (xs := xs) (k := k)
  have hup : 0 < uF v xs k := by omega
  have hin := in_cnF (v := v) (st := st) hk hs hi
  have hm := Nat.mod_lt i hup
  have hdm : i / uF v xs k * uF v xs k + i % uF v xs k = i := by rw [Nat.mul_comm]; exact Nat.div_add_mod _ _
  have key : Holds (NF v xs) (ofF v st xs k (i / uF v xs k)) (((dtF xs k).drop (i / uF v xs k * uF v xs k)).take (uF v xs k)) (writeF v st xs) := by
    by_cases hl : (dtF xs k).length < 4096
    · have eu : uF v xs k = 64 := by unfold uF; rw [if_pos hl]
      unfold cnF at hin
      rw [if_pos hl, length_mnF] at hin
      rw [eu] at hin ⊢
      exact write_mini h hn hk hk0 hs hl hin
    have eu : uF v xs k = sizeF v := by unfold uF; rw [if_neg hl]
    unfold cnF at hin
    rw [if_neg hl, length_snF] at hin
    rw [eu] at hin hdm hm ⊢
    rw [of_large hl hin]
    exact write_large h hn hk hk0 hs hl (show i / sizeF v * sizeF v < (dtF xs k).length by omega)
  have hlen : i % uF v xs k < (((dtF xs k).drop (i / uF v xs k * uF v xs k)).take (uF v xs k)).length := by
    rw [List.length_take, List.length_drop]; omega
  have h1 := key.at_ (i % uF v xs k) hlen
  rw [chunk_at' _ _ _ _ hm, hdm] at h1
  exact h1
end

theorem Ct.inside {P : Program} {f : FuncId} {args : List Value} {pre H : Heap} {R : Value → Prop} (h : Ct P f args pre (fun v q => R v ∧ q = pre)) (hp : ∃ G, Pick H pre G) : Ct P f args H (fun v q => R v ∧ q = H) := by
  obtain ⟨G, hp⟩ := hp
  exact h.conseq hp.perm (by rintro v post ⟨hR, rfl⟩; exact ⟨H, ⟨hR, rfl⟩, hp.perm.symm⟩)
def Rdr.src (R : Rdr) (f : Fil) (Z : Heap) (v st : Nat) (xs : List Nd) (k : Nat) : Src :=
  { bf := f.bf, bd := f.bd, br := R.br, ini := f.en.ini, ss := sizeF v, u := uF v xs k, size := (dtF xs k).length, nm := f.en.nm, path := f.en.path, rd := R.cells,
    G := (R.bh, blk R.hcells 137) :: (R.bhf, blk R.hc 142) :: (R.bs, blk [.slice (some ⟨R.bB, 0, none⟩) R.N R.cN] 103) :: (R.bB, blk (bys R.B ++ R.rB) 5) :: (f.bd, blk f.en.dc 112) :: (R.X ++ Z),
    cs := cnF v st xs k, of_ := ofF v st xs k, mini := decide ((dtF xs k).length < 4096) }
section
variable {R : Rdr} {f : Fil} {Z : Heap} {v st : Nat} {xs : List Nd} {k : Nat}
theorem in_part {i u len : Nat} (hu : 0 < u) (h : i * u < len) : i < partsF len u := (lt_partsF hu).2 h
theorem src_split (hf : R.fs[k]? = some f) : ∃ Z, (2, blk R.ps R.T) ∈ Z ∧ (R.bo, blk (outs R.bfs R.out ++ R.ro) 90) ∈ Z ∧ ∀ v st xs i, R.H.Perm (enB R.br f.bf f.bd f.en :: (R.src f Z v st xs i).rb :: (R.src f Z v st xs i).G) := by
  obtain ⟨G1, hG⟩ := filsH_split (br := R.br) hf
  refine ⟨(R.bb, blk R.lb 5) :: (2, blk R.ps R.T) :: (R.g, blk (R.bfs.map pv ++ R.rn) 90) :: (R.bo, blk (outs R.bfs R.out ++ R.ro) 90) :: (G1 ++ psH R.pth), List.mem_cons_of_mem _ (List.mem_cons_self ..), List.mem_cons_of_mem _ (List.mem_cons_of_mem _ (List.mem_cons_of_mem _ (List.mem_cons_self ..))), fun v st xs i => ?_⟩
  unfold Rdr.H Rdr.src Src.rb
  generalize (R.br, blk R.cells 89) = a1
  generalize (R.bh, blk R.hcells 137) = a2
  generalize (R.bhf, blk R.hc 142) = a3
  generalize (R.bb, blk R.lb 5) = a4
  generalize (R.bs, blk [Value.slice (some ⟨R.bB, 0, none⟩) R.N R.cN] 103) = a5
  generalize (R.bB, blk (bys R.B ++ R.rB) 5) = a6
  generalize (2, blk R.ps R.T) = a7
  generalize (R.g, blk (R.bfs.map pv ++ R.rn) 90) = a8
  generalize (R.bo, blk (outs R.bfs R.out ++ R.ro) 90) = a9
  generalize (f.bd, blk f.en.dc 112) = b1 at hG
  generalize enB R.br f.bf f.bd f.en = b2 at hG
  have h1 : (filsH R.br R.fs ++ (psH R.pth ++ R.X)).Perm (b2 :: b1 :: (G1 ++ (psH R.pth ++ R.X))) := hG.append_right _
  have h2 : (G1 ++ (psH R.pth ++ R.X)).Perm (R.X ++ (G1 ++ psH R.pth)) := by rw [← List.append_assoc]; exact List.perm_append_comm
  have h3 : ([a1, a2, a3, a4, a5, a6, a7, a8, a9] ++ (filsH R.br R.fs ++ (psH R.pth ++ R.X))).Perm ([a1, a2, a3, a4, a5, a6, a7, a8, a9] ++ (b2 :: b1 :: (R.X ++ (G1 ++ psH R.pth)))) := (h1.trans ((h2.cons _).cons _)).append_left _
  refine h3.trans ?_
  have h4 : (R.X ++ (a4 :: a7 :: a8 :: a9 :: (G1 ++ psH R.pth))).Perm (a4 :: a7 :: a8 :: a9 :: (R.X ++ (G1 ++ psH R.pth))) := perm_front R.X [a4, a7, a8, a9] (G1 ++ psH R.pth)
  refine List.Perm.trans ?_ ((((((((h4.symm).cons b1).cons a6).cons a5).cons a3).cons a2).cons a1).cons b2)
  refine Prm.perm ?_
  show Prm (a1 :: a2 :: a3 :: a4 :: a5 :: a6 :: a7 :: a8 :: a9 :: b2 :: b1 :: (R.X ++ (G1 ++ psH R.pth))) _
  repeat (first | exact Prm.nil _ | exact Rem.here _ _ | apply Rem.there | apply Prm.cons)
end

def Sl (H : Heap) (v : Value) (d : List UInt8) : Prop := (d = [] ∧ v = .slice none 0 0) ∨ ∃ b cap rx, v = .slice (some ⟨b, 0, none⟩) d.length cap ∧ (b, blk (bys d ++ rx) 5) ∈ H
theorem Sl.one {H : Heap} {v : Value} {d : List UInt8} (h : Sl H v d) : v.oneCell' = true := by
  rcases h with ⟨_, rfl⟩ | ⟨_, _, _, rfl, _⟩ <;> rfl
/-! ### the reader's stream -/
section
variable {ps : List Value} {T : TypeId} {four : Bool} {st : Nat} {ns : List Nm} {o : List (Nat × List (List UInt8))}
theorem st_start {v : Nat} {xs : List Nd} (hx : Ok xs) {k : Nat} (hk : k < xs.length) (hk0 : k ≠ 0) (hs : (xs.getD k default).stream = true) : stF v st xs k = snx (cnF v st xs k) 0 := by
  unfold stF cnF
  rw [if_neg hk0, if_pos hs]
  by_cases hl : (dtF xs k).length < 4096
  · rw [if_pos hl, if_pos hl]
    by_cases h0 : 0 < (smF xs).getD k 0
    · exact mch_at hx hk h0
    have e0 : (smF xs).getD k 0 = 0 := by omega
    have := mch_end (v := v) (st := st) hx hk
    rw [e0] at this
    rw [snx_end _ (by rw [length_mnF]; omega)]
    exact this
  rw [if_neg hl, if_neg hl, out_start hx om_]
  have hz := size_ge v
  have hc : 0 < (csF v xs).getD (3 + k) 0 := by
    rw [← parts_large hk hs hl]
    exact in_part om_ (show 0 * sizeF v < (dtF xs k).length by omega)
  rw [if_neg om_, snx_in _ (by rw [length_snF]; exact hc), snF_at hc]
theorem src_file {R : Rdr} {f : Fil} {Z : Heap} {v : Nat} {xs : List Nd} {nm : Nat → List UInt8} (hx : Ok xs) {k : Nat} (hk : k < xs.length) (hk0 : k ≠ 0) (hs : (xs.getD k default).stream = true) (he : f.en.noPath = (enF v st xs nm k).noPath) (hn : ∀ x ∈ xs, x.name.length ≤ 31) :
    enB R.br f.bf f.bd f.en = (R.src f Z v st xs k).fb 0 0 0 ∧ f.en.dc[60]? = some (uv (snx (cnF v st xs k) 0)) := by
  have e1 : (enF v st xs nm k).noPath = ⟨nm k, ((xs.getD k default).name.getD 0 0).toNat, .nilIface, (szOfN xs k : Int), 0, stF v st xs k, 0, de12F (dsecF v st xs (k / (sizeF v / 128))) (k % (sizeF v / 128) * 128)⟩ := by
    unfold enF En.noPath
    rw [if_pos hk]
  rw [e1] at he
  have n3 : f.en.size = (szOfN xs k : Int) := by have := congrArg En.size he; exact this
  have n4 : f.en.pos = 0 := by have := congrArg En.pos he; exact this
  have n5 : f.en.cur = stF v st xs k := by have := congrArg En.cur he; exact this
  have n6 : f.en.rem = 0 := by have := congrArg En.rem he; exact this
  have n7 : f.en.dc = de12F (dsecF v st xs (k / (sizeF v / 128))) (k % (sizeF v / 128) * 128) := by have := congrArg En.dc he; exact this
  have hsz : szOfN xs k = (dtF xs k).length := by
    unfold szOfN kdF lnF
    rw [if_neg hk0, if_neg hk0, if_pos hs, if_pos (show UInt8.toNat 2 = 2 from rfl), if_pos hs]
  have hst := st_start (v := v) (st := st) hx hk hk0 hs
  refine ⟨?_, ?_⟩
  · unfold enB
    rw [n3, n4, n5, n6, hsz, hst]
    rfl
  have hz : sizeF v / 128 * 128 = sizeF v := by rcases sizeF_or v with e | e <;> rw [e]
  have hpos : 0 < sizeF v / 128 := by rcases sizeF_or v with e | e <;> rw [e] <;> omega
  have hkc : k < cntF v xs := by have := cnt_le (v := v) hx; omega
  have hj : k / (sizeF v / 128) < dsF v xs := (Nat.div_lt_iff_lt_mul hpos).2 hkc
  have hi : k % (sizeF v / 128) < sizeF v / 128 := Nat.mod_lt _ hpos
  have hkk : k = k / (sizeF v / 128) * (sizeF v / 128) + k % (sizeF v / 128) := by rw [Nat.mul_comm]; exact (Nat.div_add_mod _ _).symm
  have ha := ent_X (st := st) hx hn hj hi hkk hk
  have hX : k % (sizeF v / 128) * 128 + 128 ≤ (dsecF v st xs (k / (sizeF v / 128))).length := by unfold dsecF; rw [ha.st.len]; omega
  have p4 : (256 : Nat) ^ 4 = 4294967296 := rfl
  rw [n7, de_st _ _ hX]
  have hl := stF_lt (v := v) (st := st) hx hk
  have := ha.st.num om_
  unfold dsecF
  rw [this, hst]
end

theorem Ct.cutP {P : Program} {f : FuncId} {args : List Value} {pre : Heap} {R R' : Value → Heap → Prop} (h : Ct P f args pre R) (hr : ∀ v post, R v post → ∃ post' Z, R' v post' ∧ post.Perm (post' ++ Z)) : Ct P f args pre R' := by
  intro E F w hh
  refine (h E F w hh).mono ?_
  rintro e w' ⟨v, post, he, hR, ha⟩
  obtain ⟨post', Z, h1, h2⟩ := hr v post hR
  refine ⟨v, post', he, h1, ?_⟩
  have h3 := ha.perm (List.Perm.append_right F h2)
  rw [List.append_assoc] at h3
  exact h3.sub (List.Sublist.append_left (List.sublist_append_right Z F) _)
section
variable {ps : List Value} {T : TypeId} {four : Bool} {st : Nat} {ns : List Nm} {o : List (Nat × List (List UInt8))}
abbrev nmF4 (four : Bool) (ns : List Nm) : Nat := NF (verF four) (ns.map Nm.nd)
abbrev wrF4 (four : Bool) (st : Nat) (ns : List Nm) : List UInt8 := writeF (verF four) st (ns.map Nm.nd)
end

def By (H : Heap) (v : Value) (d : List UInt8) : Prop := ∃ p n c, v = .slice p n c ∧ d.length = n ∧ (n = 0 ∨ ∃ b off l T fz, p = some ⟨b, off, none⟩ ∧ (b, Obj.cells (List.toArray l) T fz) ∈ H ∧ (l.drop off).take n = bys d)
theorem By.more {H H' : Heap} {v : Value} {d : List UInt8} (h : By H v d) (hs : ∀ x ∈ H, x ∈ H') : By H' v d := by
  obtain ⟨p, n, c, h1, h2, h3⟩ := h
  exact ⟨p, n, c, h1, h2, h3.imp id fun ⟨b, off, l, T, fz, g1, g2, g3⟩ => ⟨b, off, l, T, fz, g1, hs _ g2, g3⟩⟩
theorem Sl.by {H : Heap} {v : Value} {d : List UInt8} (h : Sl H v d) : By H v d := by
  rcases h with ⟨rfl, rfl⟩ | ⟨b, cap, rx, rfl, h2⟩
  · exact ⟨_, _, _, rfl, rfl, .inl rfl⟩
  refine ⟨_, _, _, rfl, rfl, .inr ⟨b, 0, _, _, _, rfl, h2, ?_⟩⟩
  rw [List.drop_zero, List.take_append_of_le_length (by simp), List.take_of_length_le (by simp)]
theorem By.part {H : Heap} {b off n : Nat} {l : List Value} {T : TypeId} {fz : Nat × Nat} {d : List UInt8} (hm : (b, Obj.cells l.toArray T fz) ∈ H) (hd : (l.drop off).take d.length = bys d) {a z c' : Nat} (ha : a ≤ z) (hz : z ≤ d.length) (hn : n = z - a) {o' : Nat} (ho : o' = off + a) :
    By H (.slice (some ⟨b, o', none⟩) n c') ((d.drop a).take (z - a)) := by
  subst hn ho
  refine ⟨_, _, _, rfl, by simp; omega, .inr ⟨b, off + a, l, T, fz, rfl, hm, ?_⟩⟩
  have : bys ((d.drop a).take (z - a)) = ((bys d).drop a).take (z - a) := by simp [bys, List.map_take, List.map_drop]
  rw [this, ← hd, List.drop_take, List.take_take, List.drop_drop, Nat.min_eq_left om_]
theorem pick_all : ∀ (H : Heap), Pick H H []
  | [] => .nil _
  | a :: H => .cons (.here _ _) (pick_all H)
section
variable {E : World} {L : Fra} {H : Heap} {dst : Option Tmp} {ty : TypeId} {pos : String} {aft : Array Edge} {gd : Option (Nat × Bool)}
theorem Yh_by {x : Operand} {v : Value} {d : List UInt8} (hx : ev L x = some v) (h : By H v d) : Yh Tryd.prog E L H ⟨dst, .convert 23 9 x, ty, pos, aft, gd⟩ (.string (bar d)) := by
  obtain ⟨p, n, c, rfl, h2, h3⟩ := h
  rcases h3 with rfl | ⟨b, off, l, T, fz, rfl, hm, h4⟩
  · intro _ a w hf hh
    obtain ⟨inf, h1, _, _⟩ := slOf_u sl_23
    have h2' := inOf_u in_5
    have h3 := isStr_u st_9
    have hr := run_convert_bytes_string (P := Tryd.prog) w 23 9 5 p 0 c h1 h2' h3
    have hd : d = [] := List.length_eq_zero_iff.1 h2
    subst hd
    have hb : (Conv.bytesToString (.slice p 0 c)).run Tryd.prog w = .ok (.string (bar [])) w := by
      cases p with
      | none => rfl
      | some a => exact run_bytesToString (P := Tryd.prog) w a 0 c [] (by simp [loadCells, loadCellsFrom])
    simp only [execOp, hf.eval hx, Sem.run_bind, hr, hb, Result.andThen_ok]
    rfl
  exact Yh_bytesStr hx sl_23 in_5 st_9 hm h4 h2
end

def smL : List UInt8 := (List.range 100).flatMap fun i => [UInt8.ofNat (48 + i / 10), UInt8.ofNat (48 + i % 10)]
def l8L : List UInt8 := (List.range 256).map fun i => UInt8.ofNat (if i = 0 then 0 else Nat.log2 i + 1)
theorem smL_len : smL.length = 200 := by kernel_rfl
theorem l8L_len : l8L.length = 256 := by kernel_rfl
theorem l8L_all : (List.range 256).all (fun i => Nat.ble (l8L.getD i 0).toNat 8 && (Nat.blt 3 i || Nat.ble (l8L.getD i 0).toNat 2)) = true := by kernel_rfl
theorem l8L_le {i : Nat} (h : i < 256) : (l8L.getD i 0).toNat ≤ 8 ∧ (i ≤ 3 → (l8L.getD i 0).toNat ≤ 2) := by
  have := List.all_eq_true.1 l8L_all i (List.mem_range.2 h)
  simp only [Bool.and_eq_true, Bool.or_eq_true, Nat.ble_eq, Nat.blt_eq] at this
  exact ⟨this.1, fun h3 => by rcases this.2 with h4 | h4; omega; exact h4⟩
section
variable {P : Program} {L : Fra} {dst : Option Tmp} {ty : TypeId} {pos : String} {aft : Array Edge} {gd : Option (Nat × Bool)}
theorem Yl_lit {x y : Operand} {t : TypeId} {lit : ByteArray} {l : List UInt8} {k : IntKind} {i : Nat} (hx : ev L x = some (.string lit)) (hy : ev L y = some (.int k (i : Int))) (he : lit = bar l) (ht : isStr P t = true) (h1 : i < l.length) :
    Yl P L ⟨dst, .index t x y, ty, pos, aft, gd⟩ (bv (l.getD i 0)) := by
  subst he
  have := Yl_indexS (P := P) (dst := dst) (ty := ty) (pos := pos) (aft := aft) (gd := gd) hx hy ht om_ (by rw [size_bar]; simpa using h1)
  rw [get_bar] at this
  exact this
end
theorem fdivN (a s : Nat) (k : IntKind) (n : Int) (hn : min n.toNat k.bits = s) : ((a : Int)).fdiv (2 ^ (min n.toNat k.bits)) = ((a / 2 ^ s : Nat) : Int) := by
  rw [hn, Int.fdiv_eq_ediv_of_nonneg _ (by exact_mod_cast Nat.zero_le _)]
  norm_cast
theorem wrap32 (z : Int) : ∃ n : Nat, n < 4294967296 ∧ IntKind.u32.wrap z = (n : Int) := by
  have h : IntKind.u32.wrap z = z % 4294967296 := by simp [IntKind.wrap, IntKind.signed, IntKind.bits]
  exact ⟨(z % 4294967296).toNat, by omega, by rw [h]; omega⟩
theorem by_mid {H : Heap} {b o n c : Nat} {l : List UInt8} {T : TypeId} {fz : Nat × Nat} (hm : (b, Obj.cells (bys l).toArray T fz) ∈ H) (hl : o + n ≤ l.length) : By H (.slice (some ⟨b, o, none⟩) n c) ((l.drop o).take n) := by
  refine ⟨_, _, _, rfl, by simp; omega, .inr ⟨b, o, bys l, T, fz, rfl, hm, by simp [bys]⟩⟩
theorem mt_123 : mtOf Tryd.prog 123 "Error" = some (98, false) := by kernel_rfl
theorem pt_123 : (false == isPtr Tryd.prog 123 && (Tryd.prog.underlying 123).isSome) = true := by kernel_rfl
theorem mt_181 : mtOf Tryd.prog 181 "Error" = some (114, true) := by kernel_rfl
theorem pt_181 : (true == isPtr Tryd.prog 181 && (Tryd.prog.underlying 181).isSome) = true := by kernel_rfl
structure EofB where
  b : Nat
  o : Nat
  l : List Value
  h : l[o]? = some (.string (bar [69, 79, 70]))

end Go.Proofs.YtgoddcicbpjknaaDoor
