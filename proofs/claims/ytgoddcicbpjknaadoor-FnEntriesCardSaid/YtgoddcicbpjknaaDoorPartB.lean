/- What the card leans on: walks of the program's functions, and plain facts on files (part 2). -/
import Derived.Test.YtgoddcicbpjknaaDoorPartA
import Derived.Laws.ResultCell
import Derived.Laws.Cover4
set_option maxRecDepth 20000
set_option maxHeartbeats 4000000

namespace Go.Proofs.YtgoddcicbpjknaaDoor
open Go
open Cfb

def rdF (bs ss : Nat) (buf hdr file de wa : Value) : List Value := [.bool false, uv ss, buf, hdr, file, de, .int .i64 0, .iface 79 (.pointer (some ⟨bs, 0, none⟩)), wa]
abbrev pv (b : Nat) : Value := .pointer (some ⟨b, 0, none⟩)
theorem hc_lo (X : List UInt8) (i : Nat) (h : i < 45) : ∀ k, (hcF X k)[i]? = (hc0F X)[i]? := by
  intro k
  induction k with
  | zero => rfl
  | succ k ih =>
    show ((hcF X k).set (45 + k) _)[i]? = _
    rw [List.getElem?_set_ne om_, ih]
theorem hc_hi (X : List UInt8) (j : Nat) : ∀ k, j < k → k ≤ 109 → (hcF X k)[45 + j]? = some (.int .u32 ((num ((X.drop (76 + 4 * j)).take 4) : Nat) : Int)) := by
  intro k
  induction k with
  | zero => intro h; omega
  | succ k ih =>
    intro h hk
    show ((hcF X k).set (45 + k) _)[45 + j]? = _
    by_cases e : j = k
    · subst e
      rw [List.getElem?_set_self (by rw [length_hcF]; omega)]
    rw [List.getElem?_set_ne om_]
    exact ih om_ om_
structure HdOk (X : List UInt8) (ver sh nd nf dl ml nm : Nat) : Prop where
  sig : (hcF X 109)[0]? = some (.int .u64 16220472316735377360)
  ver : (hcF X 109)[18]? = some (.int .u16 (ver : Int))
  sh : (hcF X 109)[21]? = some (.int .u16 (sh : Int))
  nd : (hcF X 109)[30]? = some (uv nd)
  nf : (hcF X 109)[31]? = some (uv nf)
  dl : (hcF X 109)[32]? = some (uv dl)
  ml : (hcF X 109)[41]? = some (uv ml)
  nm : (hcF X 109)[42]? = some (uv nm)
  ndif : (hcF X 109)[44]? = some (uv 0)

theorem setHeader_ct (br bb bs bB N cN ver sh nd nf dl ml nm ss : Nat) (B : List UInt8) (rB lb : List Value) (file de wa : Value) (hd : HdOk ((B.drop 0).take 512) ver sh nd nf dl ml nm) (hsh : sh = 9 ∨ sh = 12) (hss : ss = 2 ^ sh) (hss2 : 512 ≤ ss ∧ ss ≤ 4096) (hm1 : ss / 4 * nm ≤ 1000000) (hm2 : nm ≤ nf * (ss / 64)) (hm3 : nf * (ss / 64) ≤ 1000000) (hB : B.length = N) (hcN : N ≤ cN) (hN : N ≤ 1000000000) (hN5 : 512 ≤ N) (hlb : lb.length = 512) :
  Ct Tryd.prog 46 [pv br] [(br, blk (rdF bs 0 (.slice (some ⟨bb, 0, none⟩) 512 512) (.pointer none) file de wa) 89), (bb, blk lb 5), (bs, blk [.slice (some ⟨bB, 0, none⟩) N cN] 103), (bB, blk (bys B ++ rB) 5)] (fun v q => v = .nilIface ∧ ∃ bh bhf, q = [(br, blk (rdF bs ss (.slice (some ⟨bb, 0, none⟩) 512 512) (pv bh) file de wa) 89), (bh, blk [pv bhf, .slice none 0 0, .slice none 0 0, .slice none 0 0] 137), (bhf, blk (hcF ((B.drop 0).take 512) 109) 142), (bb, blk (bys ((B.drop 0).take 512)) 5), (bs, blk [.slice (some ⟨bB, 0, none⟩) N cN] 103), (bB, blk (bys B ++ rB) 5)]) := by
 have hXl : ((B.drop 0).take 512).length = 512 := len_drop_take B 0 512 om_
 refine Ct_of Tryd.func46 rfl Tryd.ntmps46 rfl ?_
 intro E F
 simp only [numL, List.nil_append, List.cons_append]
 refine CW_sr ?_
 refine RW_a ?_
 refine RW_lv [0] ?_
 refine CW_sr ?_
 refine RW_m ?_
 refine RW_fx rfl rfl rfl (Fx_call ok_54 (vs := [pv br, nv 0, nv 512]) rfl pk_ (readAt_ct br bb bs bB 512 512 512 N cN 0 B rB lb (rdF bs 0 (.slice (some ⟨bb, 0, none⟩) 512 512) (.pointer none) file de wa) 5 rfl rfl rfl hB hcN hN om_ om_ om_ om_ om_)) ?_
 rintro _ _ ⟨_, ⟨rfl, rfl⟩, rfl⟩
 rw [spl_full _ _ (by rw [List.length_map, hXl, hlb])]
 refine RW_m ?_
 refine RW_l (Yl_extract rfl rfl) ?_
 refine RW_l (Yl_extract rfl rfl) ?_
 refine RW_a ?_
 refine RW_a ?_
 refine RW_lv [0,3,4] ?_
 refine CW_seq ?_
 refine CW_sr ?_
 refine RW_m ?_
 refine RW_l (Yl_ifNeNil rfl if_105) ?_
 refine RW_lv [0,3,4,12] ?_
 refine CW_cond rfl (fun hc1 => ?_) (fun hc1 => ?_)
 ·skip
  exact absurd hc1 (by decide)
 skip
 refine (CW_skip (QW_lv [0,3] ?_))
 refine CW_sr ?_
 refine RW_m ?_
 refine RW_m ?_
 refine RW_fx rfl rfl rfl (Fx_call ok_55 (vs := [.slice (some ⟨bb, 0, none⟩) 512 512]) rfl pk_ (makeHeader_ct bb 512 512 ((B.drop 0).take 512) hXl rfl om_)) ?_
 rintro _ _ ⟨_, ⟨bhf, rfl, rfl⟩, rfl⟩
 refine RW_l (Yl_build (cs := [pv bhf, .slice none 0 0, .slice none 0 0, .slice none 0 0]) pl_137 ze_137 rfl rfl) ?_
 refine RW_fx rfl rfl rfl (Fx_box (zs := [pv bhf, .slice none 0 0, .slice none 0 0, .slice none 0 0]) rfl rfl) ?_
 rintro _ _ ⟨bh, rfl, rfl⟩
 refine RW_n ?_
 refine RW_f fo_89_3 ?_
 refine RW_fx0 rfl rfl (Fx_store (v := pv bh) rfl rfl sz_82 rfl rep_ (by simp [rdF])) ?_
 rintro _ _ rfl
 refine RW_lv [0] ?_
 refine CW_seq ?_
 refine CW_sr ?_
 refine RW_m ?_
 refine RW_n ?_
 refine RW_f fo_89_3 ?_
 refine RW_h (Yh_ld (v := pv bh) sc_82) ?_
 refine RW_n ?_
 refine RW_f fo_137_0 ?_
 refine RW_h (Yh_ld (v := pv bhf) sc_134) ?_
 refine RW_n ?_
 refine RW_f fo_142_0 ?_
 refine RW_h (Yh_lh (v := .int .u64 16220472316735377360) sc_39 hd.sig) ?_
 refine RW_l (Yl_neq rfl rfl) ?_
 refine RW_lv [0,31] ?_
 refine CW_cd rfl (fun hc2 => ?_) (fun hc2 => ?_)
 ·exact absurd rfl hc2
 refine (CW_skip (QW_lv [0] ?_))
 refine CW_cut (σ := Unit) (fun _ => [(0, pv br)]) (fun _ => (br, blk (rdF bs ss (.slice (some ⟨bb, 0, none⟩) 512 512) (pv bh) file de wa) 89) :: (bh, blk [pv bhf, .slice none 0 0, .slice none 0 0, .slice none 0 0] 137) :: (bhf, blk (hcF ((B.drop 0).take 512) 109) 142) :: (bb, blk (bys ((B.drop 0).take 512)) 5) :: (bs, blk [.slice (some ⟨bB, 0, none⟩) N cN] 103):: (bB, blk (bys B ++ rB) 5) :: F) (fun _ => True) ?_ ?_
 ·skip
  refine CW_sr ?_
  refine RW_m ?_
  refine RW_n ?_
  refine RW_f fo_89_3 ?_
  refine RW_h (Yh_ld (v := pv bh) sc_82) ?_
  refine RW_n ?_
  refine RW_f fo_137_0 ?_
  refine RW_h (Yh_ld (v := pv bhf) sc_134) ?_
  refine RW_n ?_
  refine RW_f fo_142_5 ?_
  refine RW_h (Yh_lh (v := .int .u16 (sh : Int)) sc_47 hd.sh) ?_
  refine RW_l (Yl_eql rfl rfl) ?_
  refine RW_m ?_
  refine RW_bool 56 rfl (fun hg3 => ?_) (fun hg3 => ?_)
  ·replace hg3 := of_decide_eq_true hg3
   refine RW_skip rfl rfl rfl ?_
   refine RW_skip rfl rfl rfl ?_
   refine RW_skip rfl rfl rfl ?_
   refine RW_skip rfl rfl rfl ?_
   refine RW_skip rfl rfl rfl ?_
   refine RW_skip rfl rfl rfl ?_
   refine RW_skip rfl rfl rfl ?_
   refine RW_skip rfl rfl rfl ?_
   refine RW_skip rfl rfl rfl ?_
   refine RW_skip rfl rfl rfl ?_
   refine RW_skip rfl rfl rfl ?_
   refine RW_l (Yl_pick_t rfl rfl) ?_
   refine RW_lv [0,68] ?_
   refine CW_true rfl ?_
   refine CW_region ?_
   refine RW_m ?_
   refine RW_m ?_
   refine RW_n ?_
   refine RW_f fo_89_3 ?_
   refine RW_h (Yh_ld (v := pv bh) sc_82) ?_
   refine RW_n ?_
   refine RW_f fo_137_0 ?_
   refine RW_h (Yh_ld (v := pv bhf) sc_134) ?_
   refine RW_n ?_
   refine RW_f fo_142_5 ?_
   refine RW_h (Yh_lh (v := .int .u16 (sh : Int)) sc_47 hd.sh) ?_
   refine RW_l (Yl_shl (c := (ss : Int)) rfl rfl om_ (by rw [hss, ← Nat.one_mul (2 ^ sh)]; exact shl_val (k := .u32) (x := 1) (s := sh) (Or.inr (Or.inl rfl)) (show sh ≤ 32 by omega) (by rw [Nat.one_mul]; show 2 ^ sh < 2 ^ 32; exact Nat.pow_lt_pow_right om_ om_))) ?_
   refine RW_n ?_
   refine RW_f fo_89_1 ?_
   refine RW_fx0 rfl rfl (Fx_store (v := uv ss) rfl rfl sz_67 rfl rep_ (by simp [rdF])) ?_
   rintro _ _ rfl
   refine RW_nil ?_
   exact QW_cu () trivial
  replace hg3 := of_decide_eq_false hg3
  refine RW_gy rfl rfl rfl (Yl.h (Yl_move rfl)) ?_
  refine RW_gy rfl rfl rfl (Yl.h (Yl_nilCheck rfl)) ?_
  refine RW_gy rfl rfl rfl (Yl.h (Yl_field rfl fo_89_3)) ?_
  refine RW_gy rfl rfl rfl (Yh_ld (v := pv bh) sc_82) ?_
  refine RW_gy rfl rfl rfl (Yl.h (Yl_nilCheck rfl)) ?_
  refine RW_gy rfl rfl rfl (Yl.h (Yl_field rfl fo_137_0)) ?_
  refine RW_gy rfl rfl rfl (Yh_ld (v := pv bhf) sc_134) ?_
  refine RW_gy rfl rfl rfl (Yl.h (Yl_nilCheck rfl)) ?_
  refine RW_gy rfl rfl rfl (Yl.h (Yl_field rfl fo_142_5)) ?_
  refine RW_gy rfl rfl rfl (Yh_lh (v := .int .u16 (sh : Int)) sc_47 hd.sh) ?_
  refine RW_gy rfl rfl rfl (Yl.h (Yl_eql rfl rfl)) ?_
  refine RW_l (Yl_pick_f rfl rfl) ?_
  refine RW_lv [0,68] ?_
  refine CW_cd rfl (fun hc4 => ?_) (fun hc4 => ?_)
  ·refine CW_region ?_
   refine RW_m ?_
   refine RW_m ?_
   refine RW_n ?_
   refine RW_f fo_89_3 ?_
   refine RW_h (Yh_ld (v := pv bh) sc_82) ?_
   refine RW_n ?_
   refine RW_f fo_137_0 ?_
   refine RW_h (Yh_ld (v := pv bhf) sc_134) ?_
   refine RW_n ?_
   refine RW_f fo_142_5 ?_
   refine RW_h (Yh_lh (v := .int .u16 (sh : Int)) sc_47 hd.sh) ?_
   refine RW_l (Yl_shl (c := (ss : Int)) rfl rfl om_ (by rw [hss, ← Nat.one_mul (2 ^ sh)]; exact shl_val (k := .u32) (x := 1) (s := sh) (Or.inr (Or.inl rfl)) (show sh ≤ 32 by omega) (by rw [Nat.one_mul]; show 2 ^ sh < 2 ^ 32; exact Nat.pow_lt_pow_right om_ om_))) ?_
   refine RW_n ?_
   refine RW_f fo_89_1 ?_
   refine RW_fx0 rfl rfl (Fx_store (v := uv ss) rfl rfl sz_67 rfl rep_ (by simp [rdF])) ?_
   rintro _ _ rfl
   refine RW_nil ?_
   exact QW_cu () trivial
  exfalso; omega
 rintro ⟨⟩ -
 refine CW_seq ?_
 refine CW_sr ?_
 refine RW_m ?_
 refine RW_n ?_
 refine RW_f fo_89_3 ?_
 refine RW_h (Yh_ld (v := pv bh) sc_82) ?_
 refine RW_n ?_
 refine RW_f fo_137_0 ?_
 refine RW_h (Yh_ld (v := pv bhf) sc_134) ?_
 refine RW_n ?_
 refine RW_f fo_142_16 ?_
 refine RW_h (Yh_lh (v := uv 0) sc_67 hd.ndif) ?_
 refine RW_l (Yl_gtr rfl rfl) ?_
 refine RW_lv [0,106] ?_
 refine CW_cd rfl (fun hc5 => ?_) (fun hc5 => ?_)
 ·exfalso; omega
 refine (CW_skip (QW_lv [0] ?_))
 refine CW_seq ?_
 refine CW_sr ?_
 refine RW_m ?_
 refine RW_n ?_
 refine RW_f fo_89_3 ?_
 refine RW_h (Yh_ld (v := pv bh) sc_82) ?_
 refine RW_n ?_
 refine RW_f fo_137_0 ?_
 refine RW_h (Yh_ld (v := pv bhf) sc_134) ?_
 refine RW_n ?_
 refine RW_f fo_142_14 ?_
 refine RW_h (Yh_lh (v := uv nm) sc_67 hd.nm) ?_
 refine RW_l (Yl_gtr rfl rfl) ?_
 refine RW_lv [0,190] ?_
 refine CW_cd rfl (fun hc6 => ?_) (fun hc6 => ?_)
 ·refine CW_seq ?_
  refine CW_seq ?_
  refine CW_draw [] _ mixed (Sub.refl _) ?_
  refine RD_m 0 ?_
  refine RD_n 1 ?_
  refine RD_f 2 fo_89_1 ?_
  refine RD_m 5 ?_
  refine RD_n 6 ?_
  refine RD_f 7 fo_89_3 ?_
  refine RD_h (i := 3) #[true, true, true, false, false, true, true, true, true, true, true, true, true, true, true, false, false, false] rfl rfl rfl rfl kr_ (fun _ _ _ h => h) (Yh_ld (v := uv ss) sc_67) ?_
  refine RD_l 4 rfl (Yl_quo (c := ((ss / 4 : Nat) : Int)) rfl rfl om_ (quo32 (b := 4) om_)) ?_
  refine RD_h (i := 8) #[true, true, true, true, true, true, true, true, false, false, false, false, false, false, false, false, false, false] rfl rfl rfl rfl kr_ (fun _ _ _ h => h) (Yh_ld (v := pv bh) sc_82) ?_
  refine RD_n 9 ?_
  refine RD_f 10 fo_137_0 ?_
  refine RD_h (i := 11) #[true, true, true, true, true, true, true, true, true, true, true, false, false, false, false, false, false, false] rfl rfl rfl rfl kr_ (fun _ _ _ h => h) (Yh_ld (v := pv bhf) sc_134) ?_
  refine RD_n 12 ?_
  refine RD_f 13 fo_142_14 ?_
  refine RD_h (i := 14) #[true, true, true, true, true, true, true, true, true, true, true, true, true, true, false, false, false, false] rfl rfl rfl rfl kr_ (fun _ _ _ h => h) (Yh_lh (v := uv nm) sc_67 hd.nm) ?_
  refine RD_l 15 rfl (Yl_mul (c := ((ss / 4 * nm : Nat) : Int)) rfl rfl (mul32 (a := ss / 4) (b := nm) om_)) ?_
  refine RD_l 16 rfl (Yl_conv (c := ((ss / 4 * nm : Nat) : Int)) rfl in_67 in_3 (wi64 om_ om_)) ?_
  refine RD_l 17 rfl (Yl_lss rfl rfl) ?_
  refine (RD_done kr_ (QW_lv [0,208] ?_))
  refine CW_cd rfl (fun hc7 => ?_) (fun hc7 => ?_)
  ·exfalso; omega
  refine (CW_skip (QW_lv [0] ?_))
  refine CW_seq ?_
  refine CW_draw [] _ mixed (Sub.refl _) ?_
  refine RD_m 0 ?_
  refine RD_n 1 ?_
  refine RD_f 2 fo_89_3 ?_
  refine RD_m 10 ?_
  refine RD_n 11 ?_
  refine RD_f 12 fo_89_3 ?_
  refine RD_m 20 ?_
  refine RD_n 21 ?_
  refine RD_f 22 fo_89_1 ?_
  refine RD_h (i := 3) #[true, true, true, false, false, false, false, false, false, false, true, true, true, true, true, true, true, true, true, true, true, true, true, true, true, true, false] rfl rfl rfl rfl kr_ (fun _ _ _ h => h) (Yh_ld (v := pv bh) sc_82) ?_
  refine RD_n 4 ?_
  refine RD_f 5 fo_137_0 ?_
  refine RD_h (i := 6) #[true, true, true, true, true, true, false, false, false, false, true, true, true, true, true, true, true, true, true, true, true, true, true, true, true, true, false] rfl rfl rfl rfl kr_ (fun _ _ _ h => h) (Yh_ld (v := pv bhf) sc_134) ?_
  refine RD_n 7 ?_
  refine RD_f 8 fo_142_14 ?_
  refine RD_h (i := 9) #[true, true, true, true, true, true, true, true, true, false, true, true, true, true, true, true, true, true, true, true, true, true, true, true, true, true, false] rfl rfl rfl rfl kr_ (fun _ _ _ h => h) (Yh_lh (v := uv nm) sc_67 hd.nm) ?_
  refine RD_h (i := 13) #[true, true, true, true, true, true, true, true, true, true, true, true, true, false, false, false, false, false, false, false, true, true, true, true, true, false, false] rfl rfl rfl rfl kr_ (fun _ _ _ h => h) (Yh_ld (v := pv bh) sc_82) ?_
  refine RD_n 14 ?_
  refine RD_f 15 fo_137_0 ?_
  refine RD_h (i := 16) #[true, true, true, true, true, true, true, true, true, true, true, true, true, true, true, true, false, false, false, false, true, true, true, true, true, false, false] rfl rfl rfl rfl kr_ (fun _ _ _ h => h) (Yh_ld (v := pv bhf) sc_134) ?_
  refine RD_n 17 ?_
  refine RD_f 18 fo_142_9 ?_
  refine RD_h (i := 19) #[true, true, true, true, true, true, true, true, true, true, true, true, true, true, true, true, true, true, true, false, true, true, true, true, true, false, false] rfl rfl rfl rfl kr_ (fun _ _ _ h => h) (Yh_lh (v := uv nf) sc_67 hd.nf) ?_
  refine RD_h (i := 23) #[true, true, true, true, true, true, true, true, true, true, true, true, true, true, true, true, true, true, true, true, true, true, true, false, false, false, false] rfl rfl rfl rfl kr_ (fun _ _ _ h => h) (Yh_ld (v := uv ss) sc_67) ?_
  refine RD_l 24 rfl (Yl_quo (c := ((ss / 64 : Nat) : Int)) rfl rfl om_ (quo32 (b := 64) om_)) ?_
  refine RD_l 25 rfl (Yl_mul (c := ((nf * (ss / 64) : Nat) : Int)) rfl rfl (mul32 (a := nf) (b := ss / 64) om_)) ?_
  refine RD_l 26 rfl (Yl_gtr rfl rfl) ?_
  refine (RD_done kr_ (QW_lv [0,248] ?_))
  refine CW_cd rfl (fun hc8 => ?_) (fun hc8 => ?_)
  ·exfalso; omega
  refine (CW_skip (QW_lv [] ?_))
  refine CW_sr ?_
  refine RW_a ?_
  refine RW_lv [2] ?_
  refine CW_ret ?_
  exact QW_ret1 rfl rfl [_, _, _, _, _, _] ⟨rfl, bh, bhf, rfl⟩ prm_
 refine (CW_skip (QW_lv [] ?_))
 refine CW_sr ?_
 refine RW_a ?_
 refine RW_lv [2] ?_
 refine CW_ret ?_
 exact QW_ret1 rfl rfl [_, _, _, _, _, _] ⟨rfl, bh, bhf, rfl⟩ prm_

theorem setDifats_ct (br bh bhf : Nat) (rd hc : List Value) (d m1 m2 : Value) (h3 : rd[3]? = some (pv bh)) (h44 : hc[44]? = some (uv 0)) :
  Ct Tryd.prog 47 [pv br] [(br, blk rd 89), (bh, blk [pv bhf, d, m1, m2] 137), (bhf, blk hc 142)] (fun v q => v = .nilIface ∧ q = [(br, blk rd 89), (bh, blk [pv bhf, .slice (some ⟨bhf, 45, none⟩) 109 109, m1, m2] 137), (bhf, blk hc 142)]) := by
 refine Ct_of Tryd.func47 rfl Tryd.ntmps47 rfl ?_
 intro E F
 simp only [numL, List.nil_append, List.cons_append]
 refine CW_sr ?_
 refine RW_a ?_
 refine RW_lv [0] ?_
 refine CW_seq ?_
 refine CW_draw [16] _ mixed (Sub.refl _) ?_
 refine RD_m 0 ?_
 refine RD_n 1 ?_
 refine RD_f 2 fo_89_3 ?_
 refine RD_m 4 ?_
 refine RD_n 5 ?_
 refine RD_f 6 fo_89_3 ?_
 refine RD_h (i := 3) #[true, true, true, false, true, true, true, true, true, true, true, true, true, true, false, false, false] rfl rfl rfl rfl kr_ (fun _ _ _ h => h) (Yh_lh (v := pv bh) sc_82 h3) ?_
 refine RD_h (i := 7) #[true, true, true, true, true, true, true, false, false, false, false, false, false, false, false, false, false] rfl rfl rfl rfl kr_ (fun _ _ _ h => h) (Yh_lh (v := pv bh) sc_82 h3) ?_
 refine RD_n 8 ?_
 refine RD_f 9 fo_137_0 ?_
 refine RD_h (i := 10) #[true, true, true, true, true, true, true, true, true, true, false, false, false, false, false, false, false] rfl rfl rfl rfl kr_ (fun _ _ _ h => h) (Yh_ld (v := pv bhf) sc_134) ?_
 refine RD_n 11 ?_
 refine RD_f 12 fo_142_17 ?_
 refine RD_l 13 rfl (Yl_cutA rfl ar_140) ?_
 refine RD_n 14 ?_
 refine RD_f 15 fo_137_1 ?_
 refine RD_o 16 ?_
 refine RO_fx0 rfl rfl rfl (Fx_store (v := .slice (some ⟨bhf, 45, none⟩) 109 109) rfl rfl sz_22 rfl rep_ (by simp)) ?_
 rintro _ _ rfl
 refine ⟨Or.inl kr_, ?_⟩
 refine (RD_done kr_ (QW_lv [0] ?_))
 refine CW_seq ?_
 refine CW_sr ?_
 refine RW_m ?_
 refine RW_n ?_
 refine RW_f fo_89_3 ?_
 refine RW_h (Yh_lh (v := pv bh) sc_82 h3) ?_
 refine RW_n ?_
 refine RW_f fo_137_0 ?_
 refine RW_h (Yh_ld (v := pv bhf) sc_134) ?_
 refine RW_n ?_
 refine RW_f fo_142_16 ?_
 refine RW_h (Yh_lh (v := uv 0) sc_67 h44) ?_
 refine RW_l (Yl_eql rfl rfl) ?_
 refine RW_lv [0,39] ?_
 refine CW_cd rfl (fun hc1 => ?_) (fun hc1 => ?_)
 ·refine CW_sr ?_
  refine RW_a ?_
  refine RW_lv [2] ?_
  refine CW_ret ?_
  refine QW_ret_then ?_
  exact QW_ret1 rfl rfl [_, _, _] ⟨rfl, rfl⟩ prm_
 exfalso; omega

theorem loadVar_agg {P : Program} {E w : World} {H : Heap} (hh : HA E w H) {t T : TypeId} {b : Nat} {l : List Value} {fz : Nat × Nat} (ht : agOf P t = some l.length) (hm : (b, Obj.cells l.toArray T fz) ∈ H) :
    (loadVar t ⟨b, 0, none⟩).run P w = .ok (.agg l.toArray) w := by
  have hr := run_loadCells_list (P := P) w ⟨b, 0, none⟩ l (fun j v hj => by
    rw [Addr_add, hh.cell hm]
    simp only [List.getElem?_toArray, Nat.zero_add]
    exact hj)
  obtain ⟨h1, h2⟩ := agOf_agg ht w
  simp [loadVar, h1, h2, hr]
theorem QW_retC {P : Program} {E : World} {n : Nat} {L : Fra} {H : Heap} {fn : Func} {t : Tmp} {ty T : TypeId} {b : Nat} {cs : List Value} {F : Heap} {R : Value → Heap → Prop} (hr : fn.results = #[.cell t ty]) (hv : look t L = some (.pointer (some ⟨b, 0, none⟩))) (hm : (b, blk cs T) ∈ H) (ha : agOf P ty = some cs.length)
    (post : Heap) (hR : R (.agg cs.toArray) post) (hp : ∀ w, HA E w H → HA E w (post ++ F)) : QW E n L H .ret (bodyPost P fn (Done E F R)) := by
  intro a w hf hh
  refine ⟨hf.defers, .agg cs.toArray, ?_, _, post, rfl, hR, hp w hh⟩
  have h1 := hf.mem t _ hv
  have h2 := loadVar_agg (P := P) hh ha hm
  have hp' : a.tmps[t]?.getD undef = .pointer (some ⟨b, 0, none⟩) := by rw [h1]; rfl
  simp [results, hr, hp', asAddr, h2]
theorem HA_dropB {E w : World} {H H' : Heap} {e : Nat × Obj} (hr : Rem H e H') (h : HA E w H) : HA E w H' := (h.perm hr.perm).sub (List.sublist_cons_self _ _)

theorem zzGuid_ct (bb off m c : Nat) (X : List UInt8) (hm : m = 16) (h : off + 16 ≤ X.length) :
  Ct Tryd.prog 66 [.slice (some ⟨bb, off, none⟩) m c] [(bb, blk (bys X) 5)] (fun v q => v = .agg (bys ((X.drop off).take 16)).toArray ∧ q = [(bb, blk (bys X) 5)]) := by
 have hYl : (bys ((X.drop off).take 16)).length = 16 := by rw [List.length_map]; exact len_drop_take X off 16 h
 have hcp : ((bys X).drop off).take (min m 16 * 1) = (bys ((X.drop off).take 16)) := by rw [hm, Nat.min_self, Nat.mul_one]; simp [bys, List.map_take, List.map_drop]
 refine Ct_of Tryd.func66 rfl Tryd.ntmps66 rfl ?_
 intro E F
 simp only [numL, List.nil_append, List.cons_append]
 refine CW_sr ?_
 refine RW_fx rfl rfl rfl (Fx_alloc (zs := zs_95) ze_95 rfl) ?_
 rintro _ _ ⟨b2, rfl, rfl⟩
 refine RW_lv [0,2] ?_
 refine CW_sr ?_
 refine RW_fx rfl rfl rfl (Fx_alloc (zs := zs_95) ze_95 rfl) ?_
 rintro _ _ ⟨b3, rfl, rfl⟩
 refine RW_lv [0,2,3] ?_
 refine CW_sr ?_
 refine RW_l (Yl_cutA rfl ar_95) ?_
 refine RW_m ?_
 refine RW_fx rfl rfl rfl (Fx_copy (m := 16) (ms := m) (offs := off) (off := 0) (ls := bys X) rfl rfl sl_23 mem_ (by simp; omega) rep_ (by show 0 + min m 16 * 1 ≤ 16; omega) (by rw [hcp]; exact one_map one_bv _)) ?_
 rintro _ _ ⟨rfl, rfl⟩
 rw [hcp, spl_full _ _ (by rw [hYl]; rfl)]
 refine RW_lv [2,3] ?_
 refine CW_sr ?_
 refine RW_h (Yh_loadA rfl ag_95 mem_ (by rw [hYl]; exact Nat.le_refl _)) ?_
 refine RW_fx0 rfl rfl (Fx_storeA (cs := (bys ((X.drop off).take 16))) rfl (by rw [List.drop_zero, List.take_of_length_le (by rw [hYl]; exact Nat.le_refl _)]; rfl) (by rw [hYl]; exact sz_95) (one_map one_bv _) rep_ (by rw [hYl]; exact Nat.le_refl 16)) ?_
 rintro _ _ rfl
 refine RW_lv [2] ?_
 refine CW_ret ?_
 rw [spl_full (bys ((X.drop off).take 16)) zs_95 (by rw [hYl]; rfl)]
 refine QW_retC (b := b2) (cs := (bys ((X.drop off).take 16))) (T := 95) rfl rfl mem_ (by rw [hYl]; exact ag_95) [_] ⟨rfl, rfl⟩ ?_
 intro w hw
 exact HA_dropB (e := (b2, _)) rem_ (HA_dropB (e := (b3, _)) rem_ hw)
theorem zzTime_ct (bb off m c : Nat) (X : List UInt8) (hm : 8 ≤ m) (h : off + 8 ≤ X.length) :
  Ct Tryd.prog 67 [.slice (some ⟨bb, off, none⟩) m c] [(bb, blk (bys X) 5)] (fun v q => v = .int .u64 ((num ((X.drop off).take 8) : Nat) : Int) ∧ q = [(bb, blk (bys X) 5)]) := by
 refine Ct_of Tryd.func67 rfl Tryd.ntmps67 rfl ?_
 intro E F
 simp only [numL, List.nil_append, List.cons_append]
 refine CW_sr ?_
 refine RW_a ?_
 refine RW_lv [0] ?_
 refine CW_sr ?_
 refine RW_l (Yl_load0 rfl ag_146) ?_
 refine RW_m ?_
 refine RW_fx rfl rfl rfl (Fx_callQ ok_64 (vs := [.agg #[], .slice (some ⟨bb, off, none⟩) m c]) rfl pk_ (le64_sl (.agg #[]) ⟨[], rfl⟩ bb off m c X hm h)) ?_
 rintro _ _ ⟨rfl, rfl⟩
 refine RW_a ?_
 refine RW_lv [2] ?_
 refine CW_ret ?_
 exact QW_ret1 rfl rfl [_] ⟨rfl, rfl⟩ prm_

def rawF (X : List UInt8) (off k : Nat) : List Value := iter (fun k l => l.set k (.int .u16 ((num ((X.drop (off + 2 * k)).take 2) : Nat) : Int))) k zs_112
def de1F (X : List UInt8) (off : Nat) : List Value := (rawF X off 32).set 32 (.int .u16 ((num ((X.drop (off + 64)).take 2) : Nat) : Int))
def de2F (X : List UInt8) (off : Nat) : List Value := (de1F X off).set 33 (bv (X.getD (off + 66) 0))
def de3F (X : List UInt8) (off : Nat) : List Value := (de2F X off).set 34 (bv (X.getD (off + 67) 0))
def de4F (X : List UInt8) (off : Nat) : List Value := (de3F X off).set 35 (.int .u32 ((num ((X.drop (off + 68)).take 4) : Nat) : Int))
def de5F (X : List UInt8) (off : Nat) : List Value := (de4F X off).set 36 (.int .u32 ((num ((X.drop (off + 72)).take 4) : Nat) : Int))
def de6F (X : List UInt8) (off : Nat) : List Value := (de5F X off).set 37 (.int .u32 ((num ((X.drop (off + 76)).take 4) : Nat) : Int))
def de7F (X : List UInt8) (off : Nat) : List Value := spl 38 (bys ((X.drop (off + 80)).take 16)) (de6F X off)
def de8F (X : List UInt8) (off : Nat) : List Value := spl 54 (bys ((X.drop (off + 96)).take 4)) (de7F X off)
def de9F (X : List UInt8) (off : Nat) : List Value := (de8F X off).set 58 (.int .u64 ((num ((X.drop (off + 100)).take 8) : Nat) : Int))
def de10F (X : List UInt8) (off : Nat) : List Value := (de9F X off).set 59 (.int .u64 ((num ((X.drop (off + 108)).take 8) : Nat) : Int))
def de11F (X : List UInt8) (off : Nat) : List Value := (de10F X off).set 60 (.int .u32 ((num ((X.drop (off + 116)).take 4) : Nat) : Int))
def de12F (X : List UInt8) (off : Nat) : List Value := spl 61 (bys ((X.drop (off + 120)).take 8)) (de11F X off)
theorem length_rawF (X : List UInt8) (off k : Nat) : (rawF X off k).length = 69 := by
 unfold rawF
 rw [length_iter _ _ _ (fun j l' _ h => by simp [h])]
 rfl
theorem length_de1F (X : List UInt8) (off : Nat) : (de1F X off).length = 69 := by
 unfold de1F; rw [List.length_set]; exact length_rawF X off 32
theorem length_de2F (X : List UInt8) (off : Nat) : (de2F X off).length = 69 := by
 unfold de2F; rw [List.length_set]; exact length_de1F X off
theorem length_de3F (X : List UInt8) (off : Nat) : (de3F X off).length = 69 := by
 unfold de3F; rw [List.length_set]; exact length_de2F X off
theorem length_de4F (X : List UInt8) (off : Nat) : (de4F X off).length = 69 := by
 unfold de4F; rw [List.length_set]; exact length_de3F X off
theorem length_de5F (X : List UInt8) (off : Nat) : (de5F X off).length = 69 := by
 unfold de5F; rw [List.length_set]; exact length_de4F X off
theorem length_de6F (X : List UInt8) (off : Nat) : (de6F X off).length = 69 := by
 unfold de6F; rw [List.length_set]; exact length_de5F X off
theorem length_de7F (X : List UInt8) (off : Nat) : (de7F X off).length = 69 := by
 have h0 := length_de6F X off
 unfold de7F; rw [length_spl (by rw [h0, List.length_map]; simp; omega)]; exact h0
theorem length_de8F (X : List UInt8) (off : Nat) : (de8F X off).length = 69 := by
 have h0 := length_de7F X off
 unfold de8F; rw [length_spl (by rw [h0, List.length_map]; simp; omega)]; exact h0
theorem length_de9F (X : List UInt8) (off : Nat) : (de9F X off).length = 69 := by
 unfold de9F; rw [List.length_set]; exact length_de8F X off
theorem length_de10F (X : List UInt8) (off : Nat) : (de10F X off).length = 69 := by
 unfold de10F; rw [List.length_set]; exact length_de9F X off
theorem length_de11F (X : List UInt8) (off : Nat) : (de11F X off).length = 69 := by
 unfold de11F; rw [List.length_set]; exact length_de10F X off
theorem length_de12F (X : List UInt8) (off : Nat) : (de12F X off).length = 69 := by
 have h0 := length_de11F X off
 unfold de12F; rw [length_spl (by rw [h0, List.length_map]; simp; omega)]; exact h0
theorem makeDirEntry_ct (bb off m c : Nat) (X : List UInt8) (hm : 128 ≤ m) (hmc : m ≤ c) (h : off + 128 ≤ X.length) :
  Ct Tryd.prog 58 [.slice (some ⟨bb, off, none⟩) m c] [(bb, blk (bys X) 5)] (fun v q => ∃ g, v = .pointer (some ⟨g, 0, none⟩) ∧ q = [(g, blk (de12F X off) 112), (bb, blk (bys X) 5)]) := by
 have hy16 : (bys ((X.drop (off + 80)).take 16)).length = 16 := by rw [List.length_map]; exact len_drop_take X (off + 80) 16 om_
 refine Ct_of Tryd.func58 rfl Tryd.ntmps58 rfl ?_
 intro E F
 simp only [numL, List.nil_append, List.cons_append]
 refine CW_sr ?_
 refine RW_a ?_
 refine RW_lv [0] ?_
 refine CW_sr ?_
 refine RW_l (Yl_build (cs := zs_112) pl_112 ze_112 rfl rfl) ?_
 refine RW_fx rfl rfl rfl (Fx_box (zs := zs_112) rfl rfl) ?_
 rintro _ _ ⟨b6, rfl, rfl⟩
 refine RW_a ?_
 refine RW_lv [0,3] ?_
 refine CW_seq ?_
 refine CW_sr ?_
 refine RW_m ?_
 refine RW_lv [0,3,7] ?_
 refine CW_block ?_
 refine CW_loop (σ := Nat) (fun k => [(0, .slice (some ⟨bb, off, none⟩) m c), (3, .pointer (some ⟨b6, 0, none⟩)), (7, nv k)]) (fun k => (b6, blk (rawF X off k) 112) :: (bb, blk (bys X) 5) :: F) (fun k => k ≤ 32) (fun k => 32 - k) 0 om_ (Prm.nil _) kp_ ?_
 intro k hkm
 refine CW_sr ?_
 refine RW_l (Yl_lss rfl rfl) ?_
 refine RW_lv [0,3,7,8] ?_
 refine CW_seq ?_
 refine CW_cd rfl (fun hc1 => ?_) (fun hc1 => ?_)
 ·refine (CW_skip (QW_lv [0,3,7] ?_))
  refine CW_seq ?_
  refine CW_block ?_
  refine CW_sr ?_
  refine RW_m ?_
  refine RW_a ?_
  refine RW_lv [0,3,4,7] ?_
  refine CW_draw [14] _ mixed (Sub.refl _) ?_
  refine RD_m 0 ?_
  refine RD_m 1 ?_
  refine RD_l 2 rfl (Yl_load0 rfl ag_146) ?_
  refine RD_m 3 ?_
  refine RD_m 4 ?_
  refine RD_l 5 rfl (Yl_mul (c := ((2 * k : Nat) : Int)) rfl rfl (by rw [Nat.mul_comm]; exact mulN (a := k) (b := 2) om_)) ?_
  refine RD_m 6 ?_
  refine RD_l 7 rfl (Yl_mul (c := ((2 * k : Nat) : Int)) rfl rfl (by rw [Nat.mul_comm]; exact mulN (a := k) (b := 2) om_)) ?_
  refine RD_l 8 rfl (Yl_add (c := ((2 * k + 2 : Nat) : Int)) rfl rfl (wi64 om_ om_)) ?_
  refine RD_l 9 rfl (Yl_cutLHN (l := 2 * k) (h := 2 * k + 2) (o' := off + 2 * k) (m' := 2) rfl rfl rfl sl_23 om_ om_ om_ om_ om_) ?_
  refine RD_n 11 ?_
  refine RD_f 12 fo_112_0 ?_
  refine RD_o 10 ?_
  refine RO_fx rfl rfl rfl rfl (Fx_callQ ok_65 (vs := [.agg #[], .slice (some ⟨bb, off + 2 * k, none⟩) 2 (c - 2 * k)]) rfl pk_ (le16_sl (.agg #[]) ⟨[], rfl⟩ bb (off + 2 * k) 2 (c - 2 * k) X om_ om_)) ?_
  rintro _ _ ⟨rfl, rfl⟩
  refine ⟨Or.inr (Sub.refl _), ?_⟩
  refine RD_l 13 rfl (Yl_indexAN (b := b6) (off := 0) (i := k) (o' := k) rfl rfl ar_109 om_ om_) ?_
  refine RD_o 14 ?_
  refine RO_fx0 rfl rfl rfl (Fx_store (v := .int .u16 ((num ((X.drop (off + 2 * k)).take 2) : Nat) : Int)) (off := k) rfl rfl sz_47 rfl rep_ (by rw [length_rawF]; omega)) ?_
  rintro _ _ rfl
  refine ⟨Or.inl kr_, ?_⟩
  refine RD_done kr_ ?_
  refine QW_normal_block ?_
  refine (QW_lv [0,3,7] ?_)
  refine CW_region ?_
  refine RW_l (Yl_add rfl rfl (wi64 om_ om_)) ?_
  refine RW_m ?_
  refine RW_nil ?_
  exact QW_round (k + 1) om_ om_ (Prm.nil _) kp_
 refine CW_exit ?_
 refine QW_exit_then ?_
 refine QW_exit_then ?_
 refine QW_exit_block ?_
 refine (QW_lv [0,3] ?_)
 refine CW_seq ?_
 obtain rfl : k = 32 := by omega
 refine CW_draw [7] _ mixed (Sub.refl _) ?_
 refine RD_m 0 ?_
 refine RD_l 1 rfl (Yl_load0 rfl ag_146) ?_
 refine RD_m 2 ?_
 refine RD_l 3 rfl (Yl_cutLHN (l := 64) (h := 66) (o' := off + 64) (m' := 2) rfl rfl rfl sl_23 om_ om_ om_ om_ om_) ?_
 refine RD_o 4 ?_
 refine RO_fx rfl rfl rfl rfl (Fx_callQ ok_65 (vs := [.agg #[], .slice (some ⟨bb, off + 64, none⟩) 2 (c - 64)]) rfl pk_ (le16_sl (.agg #[]) ⟨[], rfl⟩ bb (off + 64) 2 (c - 64) X om_ om_)) ?_
 rintro _ _ ⟨rfl, rfl⟩
 refine ⟨Or.inr (Sub.refl _), ?_⟩
 refine RD_n 5 ?_
 refine RD_f 6 fo_112_1 ?_
 refine RD_o 7 ?_
 refine RO_fx0 rfl rfl rfl (Fx_store (v := .int .u16 ((num ((X.drop (off + 64)).take 2) : Nat) : Int)) rfl rfl sz_47 rfl rep_ (by rw [length_rawF]; omega)) ?_
 rintro _ _ rfl
 refine ⟨Or.inl kr_, ?_⟩
 refine (RD_done kr_ (QW_lv [0,3] ?_))
 refine CW_seq ?_
 rw [show (rawF X off 32).set 32 (.int .u16 ((num ((X.drop (off + 64)).take 2) : Nat) : Int)) = de1F X off from rfl]
 refine CW_region ?_
 refine RW_m ?_
 refine RW_m ?_
 refine RW_l (Yl_indexN (b := bb) (off := off) (i := 66) (o' := off + 66) rfl rfl sl_23 om_ om_) ?_
 refine RW_h (Yh_load (v := bv (X.getD (off + 66) 0)) rfl sc_5 mem_ (ats X om_)) ?_
 refine RW_n ?_
 refine RW_f fo_112_2 ?_
 refine RW_fx0 rfl rfl (Fx_store (v := bv (X.getD (off + 66) 0)) rfl rfl sz_5 rfl rep_ (by rw [length_de1F]; omega)) ?_
 rintro _ _ rfl
 refine RW_lv [0,3] ?_
 refine CW_seq ?_
 rw [show (de1F X off).set 33 (bv (X.getD (off + 66) 0)) = de2F X off from rfl]
 refine CW_region ?_
 refine RW_m ?_
 refine RW_m ?_
 refine RW_l (Yl_indexN (b := bb) (off := off) (i := 67) (o' := off + 67) rfl rfl sl_23 om_ om_) ?_
 refine RW_h (Yh_load (v := bv (X.getD (off + 67) 0)) rfl sc_5 mem_ (ats X om_)) ?_
 refine RW_n ?_
 refine RW_f fo_112_3 ?_
 refine RW_fx0 rfl rfl (Fx_store (v := bv (X.getD (off + 67) 0)) rfl rfl sz_5 rfl rep_ (by rw [length_de2F]; omega)) ?_
 rintro _ _ rfl
 refine RW_lv [0,3] ?_
 refine CW_seq ?_
 rw [show (de2F X off).set 34 (bv (X.getD (off + 67) 0)) = de3F X off from rfl]
 refine CW_draw [7] _ mixed (Sub.refl _) ?_
 refine RD_m 0 ?_
 refine RD_l 1 rfl (Yl_load0 rfl ag_146) ?_
 refine RD_m 2 ?_
 refine RD_l 3 rfl (Yl_cutLHN (l := 68) (h := 72) (o' := off + 68) (m' := 4) rfl rfl rfl sl_23 om_ om_ om_ om_ om_) ?_
 refine RD_o 4 ?_
 refine RO_fx rfl rfl rfl rfl (Fx_callQ ok_57 (vs := [.agg #[], .slice (some ⟨bb, off + 68, none⟩) 4 (c - 68)]) rfl pk_ (le32_sl (.agg #[]) ⟨[], rfl⟩ bb (off + 68) 4 (c - 68) X om_ om_)) ?_
 rintro _ _ ⟨rfl, rfl⟩
 refine ⟨Or.inr (Sub.refl _), ?_⟩
 refine RD_n 5 ?_
 refine RD_f 6 fo_112_4 ?_
 refine RD_o 7 ?_
 refine RO_fx0 rfl rfl rfl (Fx_store (v := .int .u32 ((num ((X.drop (off + 68)).take 4) : Nat) : Int)) rfl rfl sz_67 rfl rep_ (by rw [length_de3F]; omega)) ?_
 rintro _ _ rfl
 refine ⟨Or.inl kr_, ?_⟩
 refine (RD_done kr_ (QW_lv [0,3] ?_))
 refine CW_seq ?_
 rw [show (de3F X off).set 35 (.int .u32 ((num ((X.drop (off + 68)).take 4) : Nat) : Int)) = de4F X off from rfl]
 refine CW_draw [7] _ mixed (Sub.refl _) ?_
 refine RD_m 0 ?_
 refine RD_l 1 rfl (Yl_load0 rfl ag_146) ?_
 refine RD_m 2 ?_
 refine RD_l 3 rfl (Yl_cutLHN (l := 72) (h := 76) (o' := off + 72) (m' := 4) rfl rfl rfl sl_23 om_ om_ om_ om_ om_) ?_
 refine RD_o 4 ?_
 refine RO_fx rfl rfl rfl rfl (Fx_callQ ok_57 (vs := [.agg #[], .slice (some ⟨bb, off + 72, none⟩) 4 (c - 72)]) rfl pk_ (le32_sl (.agg #[]) ⟨[], rfl⟩ bb (off + 72) 4 (c - 72) X om_ om_)) ?_
 rintro _ _ ⟨rfl, rfl⟩
 refine ⟨Or.inr (Sub.refl _), ?_⟩
 refine RD_n 5 ?_
 refine RD_f 6 fo_112_5 ?_
 refine RD_o 7 ?_
 refine RO_fx0 rfl rfl rfl (Fx_store (v := .int .u32 ((num ((X.drop (off + 72)).take 4) : Nat) : Int)) rfl rfl sz_67 rfl rep_ (by rw [length_de4F]; omega)) ?_
 rintro _ _ rfl
 refine ⟨Or.inl kr_, ?_⟩
 refine (RD_done kr_ (QW_lv [0,3] ?_))
 refine CW_seq ?_
 rw [show (de4F X off).set 36 (.int .u32 ((num ((X.drop (off + 72)).take 4) : Nat) : Int)) = de5F X off from rfl]
 refine CW_draw [7] _ mixed (Sub.refl _) ?_
 refine RD_m 0 ?_
 refine RD_l 1 rfl (Yl_load0 rfl ag_146) ?_
 refine RD_m 2 ?_
 refine RD_l 3 rfl (Yl_cutLHN (l := 76) (h := 80) (o' := off + 76) (m' := 4) rfl rfl rfl sl_23 om_ om_ om_ om_ om_) ?_
 refine RD_o 4 ?_
 refine RO_fx rfl rfl rfl rfl (Fx_callQ ok_57 (vs := [.agg #[], .slice (some ⟨bb, off + 76, none⟩) 4 (c - 76)]) rfl pk_ (le32_sl (.agg #[]) ⟨[], rfl⟩ bb (off + 76) 4 (c - 76) X om_ om_)) ?_
 rintro _ _ ⟨rfl, rfl⟩
 refine ⟨Or.inr (Sub.refl _), ?_⟩
 refine RD_n 5 ?_
 refine RD_f 6 fo_112_6 ?_
 refine RD_o 7 ?_
 refine RO_fx0 rfl rfl rfl (Fx_store (v := .int .u32 ((num ((X.drop (off + 76)).take 4) : Nat) : Int)) rfl rfl sz_67 rfl rep_ (by rw [length_de5F]; omega)) ?_
 rintro _ _ rfl
 refine ⟨Or.inl kr_, ?_⟩
 refine (RD_done kr_ (QW_lv [0,3] ?_))
 refine CW_seq ?_
 rw [show (de5F X off).set 37 (.int .u32 ((num ((X.drop (off + 76)).take 4) : Nat) : Int)) = de6F X off from rfl]
 refine CW_region ?_
 refine RW_m ?_
 refine RW_m ?_
 refine RW_l (Yl_cutLHN (l := 80) (h := 96) (o' := off + 80) (m' := 16) rfl rfl rfl sl_23 om_ om_ om_ om_ om_) ?_
 refine RW_fx rfl rfl rfl (Fx_callQ ok_66 (vs := [.slice (some ⟨bb, off + 80, none⟩) 16 (c - 80)]) rfl pk_ (zzGuid_ct bb (off + 80) 16 (c - 80) X rfl om_)) ?_
 rintro _ _ ⟨rfl, rfl⟩
 refine RW_n ?_
 refine RW_f fo_112_7 ?_
 refine RW_fx0 rfl rfl (Fx_storeA (cs := (bys ((X.drop (off + 80)).take 16))) rfl rfl (by rw [hy16]; exact sz_95) (one_map one_bv _) rep_ (by rw [length_de6F, hy16]; omega)) ?_
 rintro _ _ rfl
 refine RW_lv [0,3] ?_
 refine CW_seq ?_
 rw [show spl 38 (bys ((X.drop (off + 80)).take 16)) (de6F X off) = de7F X off from rfl]
 refine CW_draw [6] _ mixed (Sub.refl _) ?_
 refine RD_m 0 ?_
 refine RD_n 1 ?_
 refine RD_f 2 fo_112_8 ?_
 refine RD_l 3 rfl (Yl_cutA rfl ar_38) ?_
 refine RD_m 4 ?_
 refine RD_l 5 rfl (Yl_cutLHN (l := 96) (h := 100) (o' := off + 96) (m' := 4) rfl rfl rfl sl_23 om_ om_ om_ om_ om_) ?_
 refine RD_o 6 ?_
 refine RO_fx rfl rfl rfl rfl (Fx_copy (m := 4) (ms := 4) (offs := off + 96) (off := 54) (ls := bys X) rfl rfl sl_23 mem_ (by simp; omega) rep_ (by rw [length_de7F]; omega) (one_take (one_map one_bv X) _ _)) ?_
 rintro _ _ ⟨rfl, rfl⟩
 rw [show ((bys X).drop (off + 96)).take (min 4 4 * 1) = (bys ((X.drop (off + 96)).take 4)) by simp [bys, List.map_take, List.map_drop]]
 rw [show spl 54 (bys ((X.drop (off + 96)).take 4)) (de7F X off) = de8F X off from rfl]
 refine ⟨Or.inl kr_, ?_⟩
 refine (RD_done kr_ (QW_lv [0,3] ?_))
 refine CW_sr ?_
 refine RW_m ?_
 refine RW_m ?_
 refine RW_l (Yl_cutLHN (l := 100) (h := 108) (o' := off + 100) (m' := 8) rfl rfl rfl sl_23 om_ om_ om_ om_ om_) ?_
 refine RW_fx rfl rfl rfl (Fx_callQ ok_67 (vs := [.slice (some ⟨bb, off + 100, none⟩) 8 (c - 100)]) rfl pk_ (zzTime_ct bb (off + 100) 8 (c - 100) X om_ om_)) ?_
 rintro _ _ ⟨rfl, rfl⟩
 refine RW_n ?_
 refine RW_f fo_112_9 ?_
 refine RW_fx0 rfl rfl (Fx_store (v := .int .u64 ((num ((X.drop (off + 100)).take 8) : Nat) : Int)) rfl rfl sz_98 rfl rep_ (by rw [length_de8F]; omega)) ?_
 rintro _ _ rfl
 refine RW_lv [0,3] ?_
 refine CW_seq ?_
 rw [show (de8F X off).set 58 (.int .u64 ((num ((X.drop (off + 100)).take 8) : Nat) : Int)) = de9F X off from rfl]
 refine CW_region ?_
 refine RW_m ?_
 refine RW_m ?_
 refine RW_l (Yl_cutLHN (l := 108) (h := 116) (o' := off + 108) (m' := 8) rfl rfl rfl sl_23 om_ om_ om_ om_ om_) ?_
 refine RW_fx rfl rfl rfl (Fx_callQ ok_67 (vs := [.slice (some ⟨bb, off + 108, none⟩) 8 (c - 108)]) rfl pk_ (zzTime_ct bb (off + 108) 8 (c - 108) X om_ om_)) ?_
 rintro _ _ ⟨rfl, rfl⟩
 refine RW_n ?_
 refine RW_f fo_112_10 ?_
 refine RW_fx0 rfl rfl (Fx_store (v := .int .u64 ((num ((X.drop (off + 108)).take 8) : Nat) : Int)) rfl rfl sz_98 rfl rep_ (by rw [length_de9F]; omega)) ?_
 rintro _ _ rfl
 refine RW_lv [0,3] ?_
 refine CW_seq ?_
 rw [show (de9F X off).set 59 (.int .u64 ((num ((X.drop (off + 108)).take 8) : Nat) : Int)) = de10F X off from rfl]
 refine CW_draw [7] _ mixed (Sub.refl _) ?_
 refine RD_m 0 ?_
 refine RD_l 1 rfl (Yl_load0 rfl ag_146) ?_
 refine RD_m 2 ?_
 refine RD_l 3 rfl (Yl_cutLHN (l := 116) (h := 120) (o' := off + 116) (m' := 4) rfl rfl rfl sl_23 om_ om_ om_ om_ om_) ?_
 refine RD_o 4 ?_
 refine RO_fx rfl rfl rfl rfl (Fx_callQ ok_57 (vs := [.agg #[], .slice (some ⟨bb, off + 116, none⟩) 4 (c - 116)]) rfl pk_ (le32_sl (.agg #[]) ⟨[], rfl⟩ bb (off + 116) 4 (c - 116) X om_ om_)) ?_
 rintro _ _ ⟨rfl, rfl⟩
 refine ⟨Or.inr (Sub.refl _), ?_⟩
 refine RD_n 5 ?_
 refine RD_f 6 fo_112_11 ?_
 refine RD_o 7 ?_
 refine RO_fx0 rfl rfl rfl (Fx_store (v := .int .u32 ((num ((X.drop (off + 116)).take 4) : Nat) : Int)) rfl rfl sz_67 rfl rep_ (by rw [length_de10F]; omega)) ?_
 rintro _ _ rfl
 refine ⟨Or.inl kr_, ?_⟩
 refine (RD_done kr_ (QW_lv [0,3] ?_))
 refine CW_seq ?_
 rw [show (de10F X off).set 60 (.int .u32 ((num ((X.drop (off + 116)).take 4) : Nat) : Int)) = de11F X off from rfl]
 refine CW_draw [6] _ mixed (Sub.refl _) ?_
 refine RD_m 0 ?_
 refine RD_n 1 ?_
 refine RD_f 2 fo_112_12 ?_
 refine RD_l 3 rfl (Yl_cutA rfl ar_110) ?_
 refine RD_m 4 ?_
 refine RD_l 5 rfl (Yl_cutLHN (l := 120) (h := 128) (o' := off + 120) (m' := 8) rfl rfl rfl sl_23 om_ om_ om_ om_ om_) ?_
 refine RD_o 6 ?_
 refine RO_fx rfl rfl rfl rfl (Fx_copy (m := 8) (ms := 8) (offs := off + 120) (off := 61) (ls := bys X) rfl rfl sl_23 mem_ (by simp; omega) rep_ (by rw [length_de11F]; omega) (one_take (one_map one_bv X) _ _)) ?_
 rintro _ _ ⟨rfl, rfl⟩
 rw [show ((bys X).drop (off + 120)).take (min 8 8 * 1) = (bys ((X.drop (off + 120)).take 8)) by simp [bys, List.map_take, List.map_drop]]
 rw [show spl 61 (bys ((X.drop (off + 120)).take 8)) (de11F X off) = de12F X off from rfl]
 refine ⟨Or.inl kr_, ?_⟩
 refine (RD_done kr_ (QW_lv [3] ?_))
 refine CW_sr ?_
 refine RW_m ?_
 refine RW_a ?_
 refine RW_lv [2] ?_
 refine CW_ret ?_
 exact QW_ret1 rfl rfl [(b6, _), _] ⟨b6, rfl, rfl⟩ prm_

def iv32 (x : Nat) : Value := .int .i32 (x : Int)
abbrev i32s (l : List Nat) : List Value := l.map iv32
theorem decode_ct (bn on n cn g0 cap0 : Nat) (ln r0 : List Value) (T : TypeId) (cs : List Nat) (hn : n = cs.length) (hn2 : n ≤ 1000) (hcs : ∀ x ∈ cs, x < 55296) (hln : ∀ i, i < n → ln[on + i]? = some (.int .u16 ((cs.getD i 0 : Nat) : Int))) (hr0 : r0.length = cap0) :
  Ct Tryd.prog 72 [.slice (some ⟨bn, on, none⟩) n cn, .slice (some ⟨g0, 0, none⟩) 0 cap0] [(bn, blk ln T), (g0, blk r0 21)]
   (fun v q => ∃ g cap r, v = .slice (some ⟨g, 0, none⟩) n cap ∧ (i32s cs ++ r).length = cap ∧ q = [(g, blk (i32s cs ++ r) 21), (bn, blk ln T)]) := by
 refine Ct_of Tryd.func72 rfl Tryd.ntmps72 rfl ?_
 intro E F
 simp only [numL, List.nil_append, List.cons_append]
 refine CW_sr ?_
 refine RW_a ?_
 refine RW_lv [0,1] ?_
 refine CW_seq ?_
 refine CW_sr ?_
 refine RW_a ?_
 refine RW_lv [0,1,5] ?_
 refine CW_block ?_
 refine CW_lp (σ := Nat × Nat × Nat × List Value) (fun q => [(0, .slice (some ⟨bn, on, none⟩) n cn), (1, .slice (some ⟨q.2.1, 0, none⟩) q.1 q.2.2.1), (5, nv q.1)]) (fun q => (q.2.1, blk (i32s (cs.take q.1) ++ q.2.2.2) 21) :: (bn, blk ln T) :: F) (fun q => q.1 ≤ n ∧ (i32s (cs.take q.1) ++ q.2.2.2).length = q.2.2.1) (fun q => n - q.1) (0, g0, cap0, r0) ⟨by simp, by simpa using hr0⟩ ?_
 rintro ⟨k, g, cap, r⟩ ⟨hk, hl⟩
 simp only at hk hl ⊢
 refine CW_seq ?_
 refine CW_sr ?_
 refine RW_m ?_
 refine RW_m ?_
 refine RW_l (Yl_len rfl sl_61) ?_
 refine RW_l (Yl_lss rfl rfl) ?_
 refine RW_lv [0,1,5,11] ?_
 refine CW_cd rfl (fun hc1 => ?_) (fun hc1 => ?_)
 ·refine (CW_skip (QW_lv [0,1,5] ?_))
  refine CW_seq ?_
  refine CW_block ?_
  refine CW_seq ?_
  have hck : cs.getD k 0 < 55296 := getD_lt hcs om_
  refine CW_region ?_
  refine RW_a ?_
  refine RW_lv [0,1,5] ?_
  refine CW_seq ?_
  refine CW_sr ?_
  refine RW_m ?_
  refine RW_m ?_
  refine RW_l (Yl_indexN (b := bn) (off := on) (i := k) (o' := on + k) rfl rfl sl_61 om_ om_) ?_
  refine RW_h (Yh_load (v := .int .u16 ((cs.getD k 0 : Nat) : Int)) rfl sc_47 mem_ (hln k om_)) ?_
  refine RW_a ?_
  refine RW_lv [0,1,5,7] ?_
  refine CW_block ?_
  refine CW_seq ?_
  refine CW_sr ?_
  refine RW_m ?_
  refine RW_l (Yl_lss rfl rfl) ?_
  refine RW_a ?_
  refine RW_lv [0,1,5,7,18] ?_
  refine CW_cd rfl (fun hc2 => ?_) (fun hc2 => ?_)
  ·refine (CW_skip (QW_lv [0,1,5,7,18] ?_))
   refine CW_cd rfl (fun hc3 => ?_) (fun hc3 => ?_)
   ·refine CW_region ?_
    refine RW_m ?_
    refine RW_l (Yl_conv (c := ((cs.getD k 0 : Nat) : Int)) rfl in_47 in_21 (wi32 om_ om_)) ?_
    refine RW_a ?_
    refine RW_nil ?_
    refine QW_normal_block ?_
    refine (QW_lv [0,1,5,6] ?_)
    refine CW_region ?_
    refine RW_m ?_
    refine RW_m ?_
    refine RW_fx rfl rfl rfl (Fx_litS (vs := [.int .i32 ((cs.getD k 0 : Nat) : Int)]) sl_160 ze_21 rfl rfl rfl rfl rfl) ?_
    rintro _ _ ⟨b68, rfl, rfl⟩
    refine RW_fx rfl rfl rfl (Fx_appT (news := [.int .i32 ((cs.getD k 0 : Nat) : Int)]) (z0 := .int .i32 0) (q := 1) rfl rfl sl_160 by_21 ze_21 rfl rfl rem_ rem_ (by simpa using hl) (by simp; omega) rfl (by simp [Value.oneCell']) om_ om_ om_) ?_
    rintro _ _ ⟨g', cap', r', rfl, hl', rfl⟩
    refine RW_a ?_
    refine RW_nil ?_
    refine QW_normal_block ?_
    refine (QW_lv [0,1,5] ?_)
    refine CW_region ?_
    refine RW_m ?_
    refine RW_l (Yl_add (c := ((k + 1 : Nat) : Int)) rfl rfl (wi64 om_ om_)) ?_
    refine RW_a ?_
    refine RW_nil ?_
    have htk : i32s (cs.take (k + 1)) = i32s (cs.take k) ++ [.int .i32 ((cs.getD k 0 : Nat) : Int)] := by
     rw [List.take_succ_eq_append_getElem (show k < cs.length by omega)]; simp only [i32s, List.map_append, List.map_cons, List.map_nil, iv32]; congr 2; simp [List.getD_eq_getElem?_getD, show k < cs.length by omega]
    refine QW_round (k + 1, g', cap', r') ⟨by simp only; omega, ?_⟩ (by simp only; omega) ?_ kp_
    ·simp only [htk]; simpa using hl'
    simp only [htk]; exact prm_
   exfalso; omega
  exfalso; omega
 refine CW_exit ?_
 refine QW_exit_then ?_
 refine QW_exit_then ?_
 refine QW_exit_block ?_
 refine (QW_lv [1] ?_)
 refine CW_sr ?_
 refine RW_m ?_
 refine RW_a ?_
 refine RW_lv [4] ?_
 refine CW_ret ?_
 obtain rfl : k = cs.length := by omega
 rw [List.take_length] at *
 exact QW_ret1 rfl rfl [(g, _), _] ⟨g, cap, r, by rw [hn], hl, rfl⟩ prm_
theorem Decode_ct (bn on n cn : Nat) (ln : List Value) (T : TypeId) (cs : List Nat) (hn : n = cs.length) (hn2 : n ≤ 1000) (hcs : ∀ x ∈ cs, x < 55296) (hln : ∀ i, i < n → ln[on + i]? = some (.int .u16 ((cs.getD i 0 : Nat) : Int))) :
  Ct Tryd.prog 70 [.slice (some ⟨bn, on, none⟩) n cn] [(bn, blk ln T)]
   (fun v q => ∃ g cap r, v = .slice (some ⟨g, 0, none⟩) n cap ∧ (i32s cs ++ r).length = cap ∧ q = [(g, blk (i32s cs ++ r) 21), (bn, blk ln T)]) := by
 refine Ct_of Tryd.func70 rfl Tryd.ntmps70 rfl ?_
 intro E F
 simp only [numL, List.nil_append, List.cons_append]
 refine CW_sr ?_
 refine RW_a ?_
 refine RW_lv [0] ?_
 refine CW_sr ?_
 refine RW_fx rfl rfl rfl (Fx_makeSlice (z0 := .int .i32 0) (m := 1) rfl rfl sl_160 by_21 ze_21 rfl rfl om_ om_ om_ om_) ?_
 rintro _ _ ⟨b4, rfl, rfl⟩
 refine RW_a ?_
 refine RW_lv [0,3] ?_
 refine CW_sr ?_
 refine RW_m ?_
 refine RW_m ?_
 refine RW_fx rfl rfl rfl (Fx_call ok_72 (vs := [.slice (some ⟨bn, on, none⟩) n cn, .slice (some ⟨b4, 0, none⟩) 0 64]) rfl pk_ (decode_ct bn on n cn b4 64 ln (List.replicate 64 (.int .i32 0)) T cs hn hn2 hcs hln (by simp))) ?_
 rintro _ _ ⟨_, ⟨g, cap, r, rfl, hl, rfl⟩, rfl⟩
 refine RW_a ?_
 refine RW_lv [2] ?_
 refine CW_ret ?_
 exact QW_ret1 rfl rfl [(g, _), _] ⟨g, cap, r, by rw [hn], hl, rfl⟩ prm_
theorem IsPrint_ct (x : Nat) (p c : Int) (ps : List Value) (T : TypeId) (hx : x ≤ 255) (hp : ps[x]? = some (.int .u8 p)) (hand : ∀ w, (Op.intBits .and .u8 p 128).run Tryd.prog w = .ok (.int .u8 c) w) :
  Ct Tryd.prog 69 [.int .i32 (x : Int)] [(2, blk ps T)] (fun v q => v = .bool (decide (c ≠ 0)) ∧ q = [(2, blk ps T)]) := by
 refine Ct_of Tryd.func69 rfl Tryd.ntmps69 rfl ?_
 intro E F
 simp only [numL, List.nil_append, List.cons_append]
 refine CW_sr ?_
 refine RW_a ?_
 refine RW_lv [0] ?_
 refine CW_seq ?_
 refine CW_sr ?_
 refine RW_m ?_
 refine RW_l (Yl_conv (c := (x : Int)) rfl in_21 in_67 (wu32 om_ om_)) ?_
 refine RW_l (Yl_leq rfl rfl) ?_
 refine RW_lv [0,5] ?_
 refine CW_cd rfl (fun hc1 => ?_) (fun hc1 => ?_)
 ·refine CW_sr ?_
  refine RW_m ?_
  refine RW_l (Yl_conv (c := (x : Int)) rfl in_21 in_5 (wu8 om_ om_)) ?_
  refine RW_l (Yl_indexAN (b := 2) (off := 0) (i := x) (o' := x) rfl rfl ar_162 om_ om_) ?_
  refine RW_h (Yh_lh (v := .int .u8 p) sc_5 hp) ?_
  refine RW_l (Yl_bits (c := c) rfl rfl (Or.inl rfl) hand) ?_
  refine RW_l (Yl_neq rfl rfl) ?_
  refine RW_a ?_
  refine RW_lv [2] ?_
  refine CW_ret ?_
  refine QW_ret_then ?_
  exact QW_ret1 rfl rfl [_] ⟨rfl, rfl⟩ prm_
 exfalso; omega

theorem encode_small (n : Nat) (h : n < 128) : Utf8.encode (Int.ofNat n) = ⟨#[UInt8.ofNat n]⟩ := by
  have hv : Utf8.valid (n : Int) = true := by simp [Utf8.valid]; omega
  unfold Utf8.encode
  simp only [Int.ofNat_eq_natCast, hv, if_true, Int.toNat_natCast]
  rw [if_pos h]
theorem runesBytes_small : ∀ (cs : List Nat), (∀ x ∈ cs, x < 128) → runesBytes (cs.map Int.ofNat) = bar (cs.map UInt8.ofNat) := by
  have key : ∀ (cs : List Nat) (s : List UInt8), (∀ x ∈ cs, x < 128) → (cs.map Int.ofNat).foldl (fun r n => r ++ Utf8.encode n) (bar s) = bar (s ++ cs.map UInt8.ofNat) := by
    intro cs
    induction cs with
    | nil => intro s _; simp
    | cons x r ih =>
      intro s h
      simp only [List.map_cons, List.foldl_cons]
      rw [encode_small x (h x (by simp))]
      have e : bar s ++ (⟨#[UInt8.ofNat x]⟩ : ByteArray) = bar (s ++ [UInt8.ofNat x]) := by
        apply ByteArray.ext
        simp [bar]
      rw [e, ih _ (fun y hy => h y (by simp [hy]))]
      simp
  intro cs h
  have := key cs [] h
  have e : bar [] = ByteArray.empty := rfl
  rw [e] at this
  simpa [runesBytes] using this
section
variable {E : World} {L : Fra} {H : Heap} {dst : Option Tmp} {ty : TypeId} {pos : String} {aft : Array Edge} {gd : Option (Nat × Bool)}
theorem Yh_convRunes {x : Operand} {b n c : Nat} {cs : List Nat} {r : List Value} (hx : ev L x = some (.slice (some ⟨b, 0, none⟩) n c)) (hm : (b, blk (i32s cs ++ r) 21) ∈ H) (hn : n = cs.length) (ha : ∀ x ∈ cs, x < 128) :
    Yh Tryd.prog E L H ⟨dst, .convert 160 9 x, ty, pos, aft, gd⟩ (.string (bar (cs.map UInt8.ofNat))) := by
  intro _ a w hf hh
  obtain ⟨inf, hu, _, _⟩ := slOf_u sl_160
  have hc : ∀ j, j < (cs.map Int.ofNat).length → w.cell? ((⟨b, 0, none⟩ : Addr).add j) = some (.int .i32 ((cs.map Int.ofNat).getD j 0)) := by
    intro j hj
    have hj' : j < cs.length := by simpa using hj
    rw [Addr_add, hh.cell hm]
    simp [hj', List.getElem?_append_left, iv32, List.getD_eq_getElem?_getD]
  have hr := run_convert_runes (P := Tryd.prog) w 160 9 21 ⟨b, 0, none⟩ n c (cs.map Int.ofNat) (by simp [hn]) hu (inOf_u in_21) (isStr_u st_9) hc
  rw [hn, List.take_of_length_le (by simp), runesBytes_small cs ha] at hr
  subst hn
  simp only [execOp, hf.eval hx]
  simp [hr]
end

def fiF (nm : List UInt8) (ini : Nat) (path : Value) (size i : Int) (cur : Nat) (rem : Int) (bd br : Nat) : List Value := [.string (bar nm), .int .u16 (ini : Int), path, .int .i64 size, .int .i64 i, uv cur, .int .i64 rem, pv bd, pv br]
section
variable {P : Program} {L : Fra} {dst : Option Tmp} {ty : TypeId} {pos : String} {aft : Array Edge} {gd : Option (Nat × Bool)}
theorem Yl_cutALH {x y z : Operand} {t : TypeId} {sz m b off l h o' m' : Nat} (hx : ev L x = some (.pointer (some ⟨b, off, none⟩))) (hy : ev L y = some (.int .i64 (l : Int))) (hz : ev L z = some (.int .i64 (h : Int))) (ht : arOf P t = some (m, sz))
    (h1 : l ≤ h) (h2 : h ≤ m) (h3 : l < m) (e1 : off + l * sz = o') (e2 : h - l = m') :
    Yl P L ⟨dst, .slice t x (some y) (some z) none, ty, pos, aft, gd⟩ (.slice (some ⟨b, o', none⟩) m' (m - l)) := by
  intro _ a w hf
  unfold arOf at ht
  split at ht
  · rename_i mm e' hu
    simp only [Option.map_eq_some_iff, Prod.mk.injEq] at ht
    obtain ⟨inf, hi, rfl, rfl⟩ := ht
    subst e1 e2
    have q1 : ¬ (mm = l) := by omega
    simp [execOp, Instr.sliceAt, Instr.slice, Instr.sliceBounds, Instr.sliceBound, asIntOf, underlying, hu, hf.eval hx, hf.eval hy, hf.eval hz, Instr.sureAddr, sizeOf, typeInfo, hi, Addr_add, h1, h2]
    intro e; omega
  cases ht
theorem Yl_cutAH {x z : Operand} {t : TypeId} {sz m b off h : Nat} (hx : ev L x = some (.pointer (some ⟨b, off, none⟩))) (hz : ev L z = some (.int .i64 (h : Int))) (ht : arOf P t = some (m, sz))
    (h2 : h ≤ m) : Yl P L ⟨dst, .slice t x none (some z) none, ty, pos, aft, gd⟩ (.slice (some ⟨b, off, none⟩) h m) := by
  intro _ a w hf
  unfold arOf at ht
  split at ht
  · rename_i mm e' hu
    simp only [Option.map_eq_some_iff, Prod.mk.injEq] at ht
    obtain ⟨inf, hi, rfl, rfl⟩ := ht
    simp [execOp, Instr.sliceAt, Instr.slice, Instr.sliceBounds, Instr.sliceBound, asIntOf, underlying, hu, hf.eval hx, hf.eval hz, Instr.sureAddr, sizeOf, typeInfo, hi, Addr_add, h2]
  cases ht
end
theorem pick_app : ∀ (X F : Heap), Pick (X ++ F) X F
  | [], F => .nil F
  | _ :: X, F => .cons (.here _ _) (pick_app X F)
theorem quo16 {a b : Nat} (h : a ≤ 65535) : IntKind.u16.wrap ((a : Int).tdiv (b : Int)) = ((a / b : Nat) : Int) := by
  show IntKind.u16.wrap ((a / b : Nat) : Int) = _
  have := Nat.div_le_self a b
  generalize a / b = q at *
  exact wu16 om_ om_

theorem fixName_ct (bf bd br cur nl : Nat) (cs : List Nat) (path : Value) (size i rem p c : Int) (dc ps : List Value) (T : TypeId) (hnl : dc[32]? = some (.int .u16 (nl : Int))) (hn1 : 4 ≤ nl ∧ nl ≤ 64) (hcl : cs.length = nl / 2 - 1) (hcd : ∀ j, j < nl / 2 - 1 → dc[j]? = some (.int .u16 ((cs.getD j 0 : Nat) : Int))) (hca : ∀ x ∈ cs, x < 128)
  (hp : ps[cs.getD 0 0]? = some (.int .u8 p)) (hand : ∀ w, (Op.intBits .and .u8 p 128).run Tryd.prog w = .ok (.int .u8 c) w) :
  Ct Tryd.prog 68 [pv bf] [(bf, blk (fiF [] 0 path size i cur rem bd br) 93), (bd, blk dc 112), (2, blk ps T)] (fun v q => v = .tuple #[] ∧ q = [(bf, blk (fiF ((cs.drop (if c = 0 then 1 else 0)).map UInt8.ofNat) (cs.getD 0 0) path size i cur rem bd br) 93), (bd, blk dc 112), (2, blk ps T)]) := by
 have h0a : cs.getD 0 0 < 128 := getD_lt hca om_
 refine Ct_of Tryd.func68 rfl Tryd.ntmps68 rfl ?_
 intro E F
 simp only [numL, List.nil_append, List.cons_append]
 refine CW_seq ?_
 refine CW_sr ?_
 refine RW_m ?_
 refine RW_n ?_
 refine RW_f fo_93_7 ?_
 refine RW_h (Yh_ld (v := pv bd) sc_91) ?_
 refine RW_n ?_
 refine RW_f fo_112_1 ?_
 refine RW_h (Yh_lh (v := .int .u16 (nl : Int)) sc_47 hnl) ?_
 refine RW_l (Yl_lss rfl rfl) ?_
 refine RW_m ?_
 refine RW_bool 12 rfl (fun hg1 => ?_) (fun hg1 => ?_)
 ·replace hg1 := of_decide_eq_true hg1
  exfalso; omega
 replace hg1 := of_decide_eq_false hg1
 refine RW_gy rfl rfl rfl (Yl.h (Yl_move rfl)) ?_
 refine RW_gy rfl rfl rfl (Yl.h (Yl_nilCheck rfl)) ?_
 refine RW_gy rfl rfl rfl (Yl.h (Yl_field rfl fo_93_7)) ?_
 refine RW_gy rfl rfl rfl (Yh_ld (v := pv bd) sc_91) ?_
 refine RW_gy rfl rfl rfl (Yl.h (Yl_nilCheck rfl)) ?_
 refine RW_gy rfl rfl rfl (Yl.h (Yl_field rfl fo_112_1)) ?_
 refine RW_gy rfl rfl rfl (Yh_lh (v := .int .u16 (nl : Int)) sc_47 hnl) ?_
 refine RW_gy rfl rfl rfl (Yl.h (Yl_gtr rfl rfl)) ?_
 refine RW_l (Yl_pick_f rfl rfl) ?_
 refine RW_lv [0,21] ?_
 refine CW_cd rfl (fun hc2 => ?_) (fun hc2 => ?_)
 ·exfalso; omega
 refine (CW_skip (QW_lv [0] ?_))
 refine CW_sr ?_
 refine RW_m ?_
 refine RW_n ?_
 refine RW_f fo_93_7 ?_
 refine RW_h (Yh_ld (v := pv bd) sc_91) ?_
 refine RW_n ?_
 refine RW_f fo_112_1 ?_
 refine RW_h (Yh_lh (v := .int .u16 (nl : Int)) sc_47 hnl) ?_
 refine RW_l (Yl_quo (c := ((nl / 2 : Nat) : Int)) rfl rfl om_ (quo16 (b := 2) om_)) ?_
 refine RW_l (Yl_sub (c := ((nl / 2 - 1 : Nat) : Int)) rfl rfl (by rw [show ((nl / 2 : Nat) : Int) - 1 = ((nl / 2 - 1 : Nat) : Int) by omega]; exact wu16 om_ om_)) ?_
 refine RW_l (Yl_conv (c := ((nl / 2 - 1 : Nat) : Int)) rfl in_47 in_3 (wi64 om_ om_)) ?_
 refine RW_a ?_
 refine RW_lv [0,2] ?_
 refine CW_sr ?_
 refine RW_m ?_
 refine RW_m ?_
 refine RW_n ?_
 refine RW_f fo_93_7 ?_
 refine RW_h (Yh_ld (v := pv bd) sc_91) ?_
 refine RW_n ?_
 refine RW_f fo_112_0 ?_
 refine RW_l (Yl_indexA rfl rfl ar_109 om_ om_) ?_
 refine RW_h (Yh_load (v := .int .u16 ((cs.getD 0 0 : Nat) : Int)) rfl sc_47 mem_ (hcd 0 om_)) ?_
 refine RW_n ?_
 refine RW_f fo_93_1 ?_
 refine RW_fx0 rfl rfl (Fx_store (v := .int .u16 ((cs.getD 0 0 : Nat) : Int)) rfl rfl sz_47 rfl rep_ (by simp [fiF])) ?_
 rintro _ _ rfl
 refine RW_lv [0,2] ?_
 refine CW_sr ?_
 refine RW_a ?_
 refine RW_lv [0,2,3] ?_
 refine CW_cut (σ := Unit) (fun _ => [(0, pv bf), (2, nv (nl / 2 - 1)), (3, nv (if c = 0 then 1 else 0))]) (fun _ => (bf, blk (fiF [] (cs.getD 0 0) path size i cur rem bd br) 93) :: (bd, blk dc 112) :: (2, blk ps T) :: F) (fun _ => True) ?_ ?_
 ·skip
  refine CW_sr ?_
  refine RW_m ?_
  refine RW_n ?_
  refine RW_f fo_93_1 ?_
  refine RW_h (Yh_ld (v := .int .u16 ((cs.getD 0 0 : Nat) : Int)) sc_47) ?_
  refine RW_l (Yl_conv (c := ((cs.getD 0 0 : Nat) : Int)) rfl in_47 in_21 (wi32 om_ om_)) ?_
  refine RW_fx rfl rfl rfl (Fx_callQ ok_69 (vs := [.int .i32 ((cs.getD 0 0 : Nat) : Int)]) rfl pk_ (IsPrint_ct (cs.getD 0 0) p c ps T om_ hp hand)) ?_
  rintro _ _ ⟨rfl, rfl⟩
  refine RW_l (Yl_not rfl) ?_
  refine RW_lv [0,2,3,49] ?_
  refine CW_cond rfl (fun hc3 => ?_) (fun hc3 => ?_)
  ·skip
   have hcx : c = 0 := by simpa using hc3
   refine CW_region ?_
   refine RW_a ?_
   refine RW_nil ?_
   first
    | exact QW_cut () trivial (by repeat (first | exact Prm.nil _ | exact Rem.here _ _ | apply Rem.there | apply Prm.cons)) (.cons rfl (.cons rfl (.cons (congrArg (fun n => some (nv n)) (show 1 = (if c = 0 then 1 else 0) by rw [if_pos hcx])) .nil)))
    | exact QW_cut () trivial (by repeat (first | exact Prm.nil _ | exact Rem.here _ _ | apply Rem.there | apply Prm.cons)) (.cons rfl (.cons rfl (.cons (congrArg (fun n => some (nv n)) (show 0 = (if c = 0 then 1 else 0) by rw [if_neg hcx])) .nil)))
  skip
  have hcx : ¬ c = 0 := by simpa using hc3
  refine CW_skip ?_
  first
   | exact QW_cut () trivial (by repeat (first | exact Prm.nil _ | exact Rem.here _ _ | apply Rem.there | apply Prm.cons)) (.cons rfl (.cons rfl (.cons (congrArg (fun n => some (nv n)) (show 1 = (if c = 0 then 1 else 0) by rw [if_pos hcx])) .nil)))
   | exact QW_cut () trivial (by repeat (first | exact Prm.nil _ | exact Rem.here _ _ | apply Rem.there | apply Prm.cons)) (.cons rfl (.cons rfl (.cons (congrArg (fun n => some (nv n)) (show 0 = (if c = 0 then 1 else 0) by rw [if_neg hcx])) .nil)))
 rintro ⟨⟩ -
 obtain ⟨sl, hsl⟩ : ∃ sl, sl = (if c = 0 then 1 else 0) := ⟨_, rfl⟩
 rw [← hsl]
 have hsl1 : sl ≤ 1 := by rw [hsl]; split <;> omega
 refine CW_region ?_
 refine RW_m ?_
 refine RW_m ?_
 refine RW_n ?_
 refine RW_f fo_93_7 ?_
 refine RW_h (Yh_ld (v := pv bd) sc_91) ?_
 refine RW_n ?_
 refine RW_f fo_112_0 ?_
 refine RW_m ?_
 refine RW_m ?_
 refine RW_l (Yl_cutALH (l := sl) (h := nl / 2 - 1) (o' := sl) (m' := nl / 2 - 1 - sl) rfl rfl rfl ar_109 om_ om_ om_ om_ rfl) ?_
 refine RW_fx rfl rfl rfl (Fx_call ok_70 (vs := [.slice (some ⟨bd, sl, none⟩) (nl / 2 - 1 - sl) (32 - sl)]) rfl pk_ (Decode_ct bd sl (nl / 2 - 1 - sl) (32 - sl) dc 112 (cs.drop sl) (by rw [List.length_drop]; omega) om_ (fun x hx => by have := hca x (List.mem_of_mem_drop hx); omega) (fun j hj => by rw [hcd (sl + j) om_]; congr 3; simp [List.getD_eq_getElem?_getD, List.getElem?_drop]))) ?_
 rintro _ _ ⟨_, ⟨g, cap, r, rfl, hlr, rfl⟩, rfl⟩
 refine RW_h (Yh_convRunes (cs := cs.drop sl) (r := r) rfl mem_ (by rw [List.length_drop]; omega) (fun x hx => hca x (List.mem_of_mem_drop hx))) ?_
 refine RW_n ?_
 refine RW_f fo_93_0 ?_
 refine RW_fx0 rfl rfl (Fx_store (v := .string (bar ((cs.drop sl).map UInt8.ofNat))) rfl rfl sz_9 rfl rep_ (by simp [fiF])) ?_
 rintro _ _ rfl
 refine RW_nil ?_
 refine QW_dropB (e := (g, _)) rem_ ?_
 subst hsl
 exact QW_end0 rfl [_, _, _] ⟨rfl, rfl⟩ prm_

theorem fixName0_ct (bf bd br cur nl ini : Nat) (nm : List UInt8) (path : Value) (size i rem : Int) (dc : List Value) (hnl : dc[32]? = some (.int .u16 (nl : Int))) (hn1 : nl < 4) :
  Ct Tryd.prog 68 [pv bf] [(bf, blk (fiF nm ini path size i cur rem bd br) 93), (bd, blk dc 112)] (fun v q => v = .tuple #[] ∧ q = [(bf, blk (fiF nm ini path size i cur rem bd br) 93), (bd, blk dc 112)]) := by
 refine Ct_of Tryd.func68 rfl Tryd.ntmps68 rfl ?_
 intro E F
 simp only [numL, List.nil_append, List.cons_append]
 refine CW_seq ?_
 refine CW_sr ?_
 refine RW_m ?_
 refine RW_n ?_
 refine RW_f fo_93_7 ?_
 refine RW_h (Yh_ld (v := pv bd) sc_91) ?_
 refine RW_n ?_
 refine RW_f fo_112_1 ?_
 refine RW_h (Yh_lh (v := .int .u16 (nl : Int)) sc_47 hnl) ?_
 refine RW_l (Yl_lss rfl rfl) ?_
 refine RW_m ?_
 refine RW_bool 12 rfl (fun hg1 => ?_) (fun hg1 => ?_)
 ·replace hg1 := of_decide_eq_true hg1
  refine RW_skip rfl rfl rfl ?_
  refine RW_skip rfl rfl rfl ?_
  refine RW_skip rfl rfl rfl ?_
  refine RW_skip rfl rfl rfl ?_
  refine RW_skip rfl rfl rfl ?_
  refine RW_skip rfl rfl rfl ?_
  refine RW_skip rfl rfl rfl ?_
  refine RW_skip rfl rfl rfl ?_
  refine RW_l (Yl_pick_t rfl rfl) ?_
  refine RW_lv [0,21] ?_
  refine CW_true rfl ?_
  refine CW_ret ?_
  refine QW_ret_then ?_
  exact QW_ret0 rfl [_, _] ⟨rfl, rfl⟩ prm_
 replace hg1 := of_decide_eq_false hg1
 exfalso; omega

theorem fixFile_ct (bf bd br cur ver SZ ini0 ini1 : Nat) (nm0 nm1 S : List UInt8) (ot : UInt8) (path : Value) (i rem : Int) (dc : List Value) (X : Heap) (hot : dc[33]? = some (bv ot)) (hSl : S.length = 8) (hS : ∀ j, j < 8 → dc[61 + j]? = some (bv (S.getD j 0))) (hver : ver ≤ 4) (hnS : num S < 9223372036854775808)
  (hSZ : SZ = if ot.toNat = 2 then (if 3 < ver then num S else num (S.take 4)) else 0)
  (h68 : Ct Tryd.prog 68 [pv bf] ((bf, blk (fiF nm0 ini0 path 0 i cur rem bd br) 93) :: (bd, blk dc 112) :: X) (fun v q => v = .tuple #[] ∧ q = (bf, blk (fiF nm1 ini1 path 0 i cur rem bd br) 93) :: (bd, blk dc 112) :: X)) :
  Ct Tryd.prog 59 [.int .u16 (ver : Int), pv bf] ((bf, blk (fiF nm0 ini0 path 0 i cur rem bd br) 93) :: (bd, blk dc 112) :: X) (fun v q => v = .tuple #[] ∧ q = (bf, blk (fiF nm1 ini1 path (SZ : Nat) i cur rem bd br) 93) :: (bd, blk dc 112) :: X) := by
 have hS8 : num S = num [(S.getD 0 0), (S.getD 1 0), (S.getD 2 0), (S.getD 3 0), (S.getD 4 0), (S.getD 5 0), (S.getD 6 0), (S.getD 7 0)] := congrArg num (list8 _ hSl)
 have hS4l : (S.take 4).length = 4 := by simp; omega
 have hS4 : num (S.take 4) = num [(S.getD 0 0), (S.getD 1 0), (S.getD 2 0), (S.getD 3 0)] := by
  have h := congrArg num (list4 _ hS4l)
  rw [h]
  congr 1
  simp [List.getD_eq_getElem?_getD, List.getElem?_take]
 have hS4b : num (S.take 4) < 256 ^ 4 := by have := num_lt (S.take 4); rw [hS4l] at this; exact this
 refine Ct_of Tryd.func59 rfl Tryd.ntmps59 rfl ?_
 intro E F
 simp only [numL, List.nil_append, List.cons_append]
 refine CW_sr ?_
 refine RW_m ?_
 refine RW_fx rfl rfl rfl (Fx_call ok_68 (vs := [pv bf]) rfl (Pick.cons (.here _ _) (Pick.cons (.here _ _) (pick_app X F))) h68) ?_
 rintro _ _ ⟨_, ⟨rfl, rfl⟩, rfl⟩
 simp only [List.cons_append]
 refine RW_lv [0,1] ?_
 refine CW_seq ?_
 refine CW_sr ?_
 refine RW_m ?_
 refine RW_n ?_
 refine RW_f fo_93_7 ?_
 refine RW_h (Yh_ld (v := pv bd) sc_91) ?_
 refine RW_n ?_
 refine RW_f fo_112_2 ?_
 refine RW_h (Yh_lh (v := bv ot) sc_5 hot) ?_
 refine RW_l (Yl_neq rfl rfl) ?_
 refine RW_lv [0,1,13] ?_
 refine CW_cd rfl (fun hc1 => ?_) (fun hc1 => ?_)
 ·refine CW_ret ?_
  refine QW_ret_then ?_
  first
   | exact QW_end0 rfl ((bf, blk (fiF nm1 ini1 path (SZ : Nat) i cur rem bd br) 93) :: (bd, blk dc 112) :: X) ⟨rfl, rfl⟩ (Prm.nil _)
   | (have e0 : SZ = 0 := (by rw [hSZ, if_neg (by omega)]); subst e0; exact QW_ret0 rfl ((bf, blk (fiF nm1 ini1 path ((0 : Nat) : Int) i cur rem bd br) 93) :: (bd, blk dc 112) :: X) ⟨rfl, rfl⟩ (Prm.nil _))
 refine (CW_skip (QW_lv [0,1] ?_))
 refine CW_cut (σ := Unit) (fun _ => [(1, pv bf)]) (fun _ => (bf, blk (fiF nm1 ini1 path (SZ : Nat) i cur rem bd br) 93) :: (bd, blk dc 112) :: (X ++ F)) (fun _ => True) ?_ ?_
 ·skip
  refine CW_sr ?_
  refine RW_m ?_
  refine RW_l (Yl_gtr rfl rfl) ?_
  refine RW_lv [1,15] ?_
  refine CW_cd rfl (fun hc2 => ?_) (fun hc2 => ?_)
  ·refine CW_draw [13] _ mixed (Sub.refl _) ?_
   refine RD_m 0 ?_
   refine RD_l 1 rfl (Yl_load0 rfl ag_146) ?_
   refine RD_m 2 ?_
   refine RD_n 3 ?_
   refine RD_f 4 fo_93_7 ?_
   refine RD_h (i := 5) #[true, true, true, true, true, false, false, false, false, false, false, false, false, false] rfl rfl rfl rfl kr_ (fun _ _ _ h => h) (Yh_ld (v := pv bd) sc_91) ?_
   refine RD_n 6 ?_
   refine RD_f 7 fo_112_12 ?_
   refine RD_l 8 rfl (Yl_cutA rfl ar_110) ?_
   refine RD_o 9 ?_
   refine RO_fx rfl rfl rfl rfl (Fx_callQ ok_64 (vs := [.agg #[], .slice (some ⟨bd, 61, none⟩) 8 8]) rfl pk_ (le64_ct (.agg #[]) ⟨[], rfl⟩ bd 61 8 8 dc 112 (S.getD 0 0) (S.getD 1 0) (S.getD 2 0) (S.getD 3 0) (S.getD 4 0) (S.getD 5 0) (S.getD 6 0) (S.getD 7 0) om_ (hS 0 om_) (hS 1 om_) (hS 2 om_) (hS 3 om_) (hS 4 om_) (hS 5 om_) (hS 6 om_) (hS 7 om_))) ?_
   rintro _ _ ⟨rfl, rfl⟩
   refine ⟨Or.inr (Sub.refl _), ?_⟩
   refine RD_l 10 rfl (Yl_conv (c := ((num S : Nat) : Int)) rfl in_39 in_2 (by rw [← hS8]; exact wi64 om_ om_)) ?_
   refine RD_n 11 ?_
   refine RD_f 12 fo_93_3 ?_
   refine RD_o 13 ?_
   refine RO_fx0 rfl rfl rfl (Fx_store (v := .int .i64 ((num S : Nat) : Int)) rfl rfl sz_2 rfl rep_ (by simp [fiF])) ?_
   rintro _ _ rfl
   refine ⟨Or.inl kr_, ?_⟩
   refine RD_done kr_ ?_
   first
    | (have e1 : SZ = num S := (by rw [hSZ, if_pos (by omega), if_pos (by omega)]); subst e1; exact QW_cut () trivial (Prm.nil _) (.cons rfl .nil))
    | (have e1 : SZ = num (S.take 4) := (by rw [hSZ, if_pos (by omega), if_neg (by omega)]); subst e1; exact QW_cut () trivial (Prm.nil _) (.cons rfl .nil))
  refine CW_draw [13] _ mixed (Sub.refl _) ?_
  refine RD_m 0 ?_
  refine RD_l 1 rfl (Yl_load0 rfl ag_146) ?_
  refine RD_m 2 ?_
  refine RD_n 3 ?_
  refine RD_f 4 fo_93_7 ?_
  refine RD_h (i := 5) #[true, true, true, true, true, false, false, false, false, false, false, false, false, false] rfl rfl rfl rfl kr_ (fun _ _ _ h => h) (Yh_ld (v := pv bd) sc_91) ?_
  refine RD_n 6 ?_
  refine RD_f 7 fo_112_12 ?_
  refine RD_l 8 rfl (Yl_cutAH (h := 4) rfl rfl ar_110 om_) ?_
  refine RD_o 9 ?_
  refine RO_fx rfl rfl rfl rfl (Fx_callQ ok_57 (vs := [.agg #[], .slice (some ⟨bd, 61, none⟩) 4 8]) rfl pk_ (le32_ct (.agg #[]) ⟨[], rfl⟩ bd 61 4 8 dc 112 (S.getD 0 0) (S.getD 1 0) (S.getD 2 0) (S.getD 3 0) om_ (hS 0 om_) (hS 1 om_) (hS 2 om_) (hS 3 om_))) ?_
  rintro _ _ ⟨rfl, rfl⟩
  refine ⟨Or.inr (Sub.refl _), ?_⟩
  refine RD_l 10 rfl (Yl_conv (c := ((num (S.take 4) : Nat) : Int)) rfl in_67 in_2 (by rw [← hS4]; exact wi64 om_ om_)) ?_
  refine RD_n 11 ?_
  refine RD_f 12 fo_93_3 ?_
  refine RD_o 13 ?_
  refine RO_fx0 rfl rfl rfl (Fx_store (v := .int .i64 ((num (S.take 4) : Nat) : Int)) rfl rfl sz_2 rfl rep_ (by simp [fiF])) ?_
  rintro _ _ rfl
  refine ⟨Or.inl kr_, ?_⟩
  refine RD_done kr_ ?_
  first
   | (have e1 : SZ = num S := (by rw [hSZ, if_pos (by omega), if_pos (by omega)]); subst e1; exact QW_cut () trivial (Prm.nil _) (.cons rfl .nil))
   | (have e1 : SZ = num (S.take 4) := (by rw [hSZ, if_pos (by omega), if_neg (by omega)]); subst e1; exact QW_cut () trivial (Prm.nil _) (.cons rfl .nil))
 rintro ⟨⟩ -
 refine CW_sr ?_
 refine RW_m ?_
 refine RW_n ?_
 refine RW_f fo_93_3 ?_
 refine RW_h (Yh_ld (v := .int .i64 ((SZ : Nat) : Int)) sc_2) ?_
 refine RW_l (Yl_lss rfl rfl) ?_
 refine RW_lv [1,46] ?_
 refine CW_cd rfl (fun hc3 => ?_) (fun hc3 => ?_)
 ·exfalso; omega
 refine CW_skip ?_
 first
  | exact QW_end0 rfl ((bf, blk (fiF nm1 ini1 path (SZ : Nat) i cur rem bd br) 93) :: (bd, blk dc 112) :: X) ⟨rfl, rfl⟩ (Prm.nil _)
  | (have e0 : SZ = 0 := (by rw [hSZ, if_neg (by omega)]); subst e0; exact QW_ret0 rfl ((bf, blk (fiF nm1 ini1 path ((0 : Nat) : Int) i cur rem bd br) 93) :: (bd, blk dc 112) :: X) ⟨rfl, rfl⟩ (Prm.nil _))

end Go.Proofs.YtgoddcicbpjknaaDoor

namespace Cfb

def smF (xs : List Nd) : List Nat := xs.map smallF
def lgF (v : Nat) (xs : List Nd) : List Nat := xs.map (largeF (sizeF v))
def miF (xs : List Nd) : Nat := (smF xs).sum
def csF (v : Nat) (xs : List Nd) : List Nat := countsF xs.length (miF xs) (sizeF v) (lgF v xs)
def perF (v : Nat) : Nat := sizeF v / 4
def ftF (v : Nat) (xs : List Nd) : Nat := fatsF (csF v xs).sum (perF v)
def TF (v : Nat) (xs : List Nd) : Nat := (csF v xs).sum + ftF v xs
def plF (v st : Nat) (xs : List Nd) : List Nat := mixedF (TF v xs) st
def tbF (v st : Nat) (xs : List Nd) : List Nat := markTo (plF v st xs) FS (ftF v xs) (List.replicate (ftF v xs * perF v) FREE)
def chF (v st : Nat) (xs : List Nd) : ChS := chainedF (plF v st xs) (tbF v st xs) (ftF v xs) (csF v xs)
def mfF (v : Nat) (xs : List Nd) : Nat := partsF (miF xs) (perF v)
def mplF (st : Nat) (xs : List Nd) : List Nat := mixedF (miF xs) (st + 3)
def mtbF (v : Nat) (xs : List Nd) : List Nat := List.replicate (mfF v xs * perF v) FREE
def mchF (v st : Nat) (xs : List Nd) : ChS := chainedF (mplF st xs) (mtbF v xs) 0 (smF xs)
def NF (v : Nat) (xs : List Nd) : Nat := sizeF v * (1 + TF v xs)
def dsF (v : Nat) (xs : List Nd) : Nat := partsF xs.length (sizeF v / 128)
def out0F (v st : Nat) (xs : List Nd) : List UInt8 := freeTo 109 (headF (sizeF v) v (dsF v xs) (ftF v xs) ((chF v st xs).outs.getD 0 0) ((chF v st xs).outs.getD 1 0) (mfF v xs) (List.replicate (NF v xs) 0))
def out1F (v st : Nat) (xs : List Nd) : List UInt8 := fatTo (plF v st xs) (chF v st xs).table (sizeF v) (perF v) (ftF v xs) (out0F v st xs)
def out2F (v st : Nat) (xs : List Nd) : List UInt8 := fillF (chF v st xs).table (sizeF v) (tabF (mchF v st xs).table) ((chF v st xs).outs.getD 1 0) (out1F v st xs)
def ndsF (v st : Nat) (xs : List Nd) : List UInt8 × List UInt8 × List UInt8 :=
  nodesTo (miF xs) (sizeF v) (chF v st xs).outs (mchF v st xs).outs (chF v st xs).table (mchF v st xs).table xs xs.length (dirTo (dsF v xs * sizeF v / 128) (List.replicate (dsF v xs * sizeF v) 0), List.replicate (64 * miF xs) 0, out2F v st xs)
def writeF (v st : Nat) (xs : List Nd) : List UInt8 :=
  fillF (chF v st xs).table (sizeF v) (ndsF v st xs).1 ((chF v st xs).outs.getD 0 0) (fillF (chF v st xs).table (sizeF v) (ndsF v st xs).2.1 ((chF v st xs).outs.getD 2 0) (ndsF v st xs).2.2)

/-! ### numbers -/
theorem sizeF_or (v : Nat) : sizeF v = 512 ∨ sizeF v = 4096 := by unfold sizeF; split <;> simp
theorem le_partsF_mul {n p : Nat} (h : 0 < p) : n ≤ partsF n p * p := by
  unfold partsF
  have h1 := Nat.div_add_mod (n + p - 1) p
  have h2 := Nat.mod_lt (n + p - 1) h
  rw [Nat.mul_comm] at h1
  omega
theorem partsF_mul_lt {n p : Nat} (h : 0 < p) : partsF n p * p < n + p := by
  unfold partsF
  have h1 := Nat.div_mul_le_self (n + p - 1) p
  omega
theorem sum_le {l : List Nat} {B : Nat} (h : ∀ x ∈ l, x ≤ B) : l.sum ≤ l.length * B := by
  induction l with
  | nil => simp
  | cons x r ih =>
    have h1 := ih (fun y hy => h y (by simp [hy]))
    have h2 := h x (by simp)
    simp only [List.sum_cons, List.length_cons, Nat.succ_mul]
    omega
theorem smallF_le (n : Nd) : smallF n ≤ 64 := by
  unfold smallF; split
  · rename_i h; unfold partsF; omega
  simp
theorem largeF_le {n : Nd} {size : Nat} (hs : size = 512 ∨ size = 4096) (h : n.data.length ≤ 9000) : largeF size n ≤ 18 := by
  unfold largeF; split
  · unfold partsF; rcases hs with rfl | rfl <;> omega
  simp
structure Ok (xs : List Nd) : Prop where
  len : 1 ≤ xs.length ∧ xs.length ≤ 20
  small : ∀ x ∈ xs, x.data.length ≤ 9000
theorem miF_le {xs : List Nd} (h : Ok xs) : miF xs ≤ 1280 := by
  have h1 := sum_le (l := smF xs) (B := 64) (by intro x hx; obtain ⟨n, _, rfl⟩ := List.mem_map.1 hx; exact smallF_le n)
  have h2 : (smF xs).length = xs.length := by simp [smF]
  have h3 := h.len.2
  unfold miF
  omega
theorem lg_sum_le {v : Nat} {xs : List Nd} (h : Ok xs) : (lgF v xs).sum ≤ 360 := by
  have h1 := sum_le (l := lgF v xs) (B := 18) (by intro x hx; obtain ⟨n, hn, rfl⟩ := List.mem_map.1 hx; exact largeF_le (sizeF_or v) (h.small n hn))
  have h2 : (lgF v xs).length = xs.length := by simp [lgF]
  have h3 := h.len.2
  omega
theorem dsF_le {v : Nat} {xs : List Nd} (h : Ok xs) : 1 ≤ dsF v xs ∧ dsF v xs ≤ 5 ∧ 128 * xs.length ≤ dsF v xs * sizeF v ∧ dsF v xs * sizeF v ≤ 10000 := by
  have h3 := h.len
  unfold dsF partsF
  rcases sizeF_or v with e | e <;> rw [e] <;> omega
theorem mfF_le {v : Nat} {xs : List Nd} (h : Ok xs) : mfF v xs ≤ 10 ∧ miF xs ≤ mfF v xs * perF v ∧ mfF v xs * perF v ≤ 100000 := by
  have h1 := miF_le h
  unfold mfF perF partsF
  rcases sizeF_or v with e | e <;> rw [e] <;> omega
theorem cs2_le {v : Nat} {xs : List Nd} (h : Ok xs) : partsF (miF xs * 64) (sizeF v) ≤ 160 := by
  have h1 := miF_le h
  unfold partsF
  rcases sizeF_or v with e | e <;> rw [e] <;> omega
theorem cs_sum {v : Nat} {xs : List Nd} (h : Ok xs) : (csF v xs).sum = dsF v xs + (mfF v xs + (partsF (miF xs * 64) (sizeF v) + (lgF v xs).sum)) := by
  simp [csF, countsF, dsF, mfF, perF]
theorem cs_sum_le {v : Nat} {xs : List Nd} (h : Ok xs) : 1 ≤ (csF v xs).sum ∧ (csF v xs).sum ≤ 600 := by
  rw [cs_sum h]
  have h1 := dsF_le (v := v) h
  have h2 := mfF_le (v := v) h
  have h3 := cs2_le (v := v) h
  have h4 := lg_sum_le (v := v) h
  omega
theorem ftF_ok {v : Nat} {xs : List Nd} (h : Ok xs) : 1 ≤ ftF v xs ∧ ftF v xs ≤ 10 ∧ TF v xs ≤ ftF v xs * perF v ∧ ftF v xs * perF v ≤ 20000 := by
  have hp : 128 ≤ perF v ∧ perF v ≤ 1024 := by unfold perF; rcases sizeF_or v with e | e <;> rw [e] <;> omega
  have h1 := fatsF_ok (sum := (csF v xs).sum) (per := perF v) om_
  have h2 := cs_sum_le (v := v) h
  have h3 : ftF v xs ≤ 10 := by
    have key : ∀ k f, k + f = (csF v xs).sum + 1 → f ≤ 10 → fgo (csF v xs).sum (perF v) k f ≤ 10 := by
      intro k
      induction k with
      | zero => intro f _ hf; exact hf
      | succ k ih =>
        intro f hk hf
        simp only [fgo]
        split
        · rename_i hlt
          refine ih (f + 1) om_ ?_
          by_cases h10 : f = 10
          · exfalso
            subst h10
            have h5 := partsF_mul_lt (n := (csF v xs).sum + 10) (p := perF v) om_
            have h6 : 11 * 128 ≤ partsF ((csF v xs).sum + 10) (perF v) * perF v := Nat.mul_le_mul om_ hp.1
            have h7 : 11 * perF v ≤ partsF ((csF v xs).sum + 10) (perF v) * perF v := Nat.mul_le_mul_right _ om_
            omega
          omega
        exact hf
    exact key _ 1 om_ om_
  refine ⟨h1.2.1, h3, ?_, ?_⟩
  · have h4 := le_partsF_mul (n := (csF v xs).sum + fatsF (csF v xs).sum (perF v)) (p := perF v) om_
    exact Nat.le_trans h4 (Nat.mul_le_mul_right _ h1.1)
  have := Nat.mul_le_mul h3 hp.2
  omega
theorem length_csF (v : Nat) (xs : List Nd) : (csF v xs).length = xs.length + 3 := by simp [csF, countsF, lgF]
theorem cs_0 (v : Nat) (xs : List Nd) : (csF v xs).getD 0 0 = dsF v xs := rfl
theorem cs_1 (v : Nat) (xs : List Nd) : (csF v xs).getD 1 0 = mfF v xs := rfl
theorem cs_2 (v : Nat) (xs : List Nd) : (csF v xs).getD 2 0 = partsF (miF xs * 64) (sizeF v) := rfl
theorem cs_3 (v : Nat) (xs : List Nd) {k : Nat} (hk : k < xs.length) : (csF v xs).getD (3 + k) 0 = largeF (sizeF v) (xs.getD k default) := by
  rw [show 3 + k = k + 3 by omega]
  simp [csF, countsF, lgF, List.getD_eq_getElem?_getD, hk]
theorem sm_at (xs : List Nd) {k : Nat} (hk : k < xs.length) : (smF xs).getD k 0 = smallF (xs.getD k default) := by
  simp [smF, List.getD_eq_getElem?_getD, hk]

/-! ### what stands in the tables -/
theorem linkTo_mem {pl : List Nat} {from_ n B : Nat} (hpl : ∀ x ∈ pl, x < B) (hB : CE < B) (h0 : from_ + n ≤ pl.length) : ∀ k, k ≤ n → ∀ t, (∀ x ∈ t, x < B) → ∀ x ∈ linkTo pl from_ n t k, x < B := by
  intro k
  induction k with
  | zero => intro _ t ht x hx; exact ht x hx
  | succ k ih =>
    intro hk t ht x hx
    rw [linkTo_succ, linkAt] at hx
    rcases List.mem_or_eq_of_mem_set hx with h | h
    · exact ih om_ t ht x h
    subst h
    split
    · exact hB
    exact getD_lt hpl om_
theorem chTo_mem {pl : List Nat} {from_ B : Nat} {cs t : List Nat} (hpl : ∀ x ∈ pl, x < B) (hB : CE < B) (hf : from_ + cs.sum ≤ pl.length) (ht : ∀ x ∈ t, x < B) : ∀ i, i ≤ cs.length →
    (∀ x ∈ (chTo pl t from_ cs i).table, x < B) ∧ (∀ x ∈ (chTo pl t from_ cs i).outs, x < B) := by
  intro i
  induction i with
  | zero => intro _; rw [chTo_zero]; exact ⟨ht, by simp⟩
  | succ i ih =>
    intro hi
    obtain ⟨h1, h2⟩ := ih om_
    obtain ⟨f1, f2, f3⟩ := chTo_facts pl t from_ cs i om_
    have hs := sum_take_succ cs i om_
    rw [chTo_succ _ _ _ _ _ om_]
    unfold chStep
    split
    · refine ⟨h1, ?_⟩
      intro x hx
      simp only [List.mem_append, List.mem_singleton] at hx
      rcases hx with hx | rfl
      · exact h2 x hx
      exact hB
    refine ⟨linkTo_mem hpl hB om_ _ (Nat.le_refl _) _ h1, ?_⟩
    intro x hx
    simp only [List.mem_append, List.mem_singleton] at hx
    rcases hx with hx | rfl
    · exact h2 x hx
    exact getD_lt hpl om_
theorem chained_mem {pl : List Nat} {from_ B : Nat} {cs t : List Nat} (hpl : ∀ x ∈ pl, x < B) (hB : CE < B) (hf : from_ + cs.sum ≤ pl.length) (ht : ∀ x ∈ t, x < B) :
    (∀ x ∈ (chainedF pl t from_ cs).table, x < B) ∧ (∀ x ∈ (chainedF pl t from_ cs).outs, x < B) := by
  rw [← chTo_all]; exact chTo_mem hpl hB hf ht _ (Nat.le_refl _)
theorem chained_len {pl : List Nat} {from_ : Nat} {cs t : List Nat} : (chainedF pl t from_ cs).table.length = t.length ∧ (chainedF pl t from_ cs).outs.length = cs.length := by
  rw [← chTo_all]; have := chTo_facts pl t from_ cs _ (Nat.le_refl _); exact ⟨this.1, this.2.2⟩
theorem markTo_mem {pl t : List Nat} {v B : Nat} (hv : v < B) (ht : ∀ x ∈ t, x < B) : ∀ k, ∀ x ∈ markTo pl v k t, x < B := by
  intro k
  induction k with
  | zero => exact ht
  | succ k ih =>
    intro x hx
    rw [markTo_succ] at hx
    rcases List.mem_or_eq_of_mem_set hx with h | h
    · exact ih x h
    rw [h]; exact hv
theorem length_plF {v st : Nat} {xs : List Nd} (h : Ok xs) : (plF v st xs).length = TF v xs := by simp [plF]
theorem pl_lt {v st : Nat} {xs : List Nd} (h : Ok xs) : ∀ x ∈ plF v st xs, x < TF v xs := mixedF_lt _ _
theorem length_ch {v st : Nat} {xs : List Nd} (h : Ok xs) : (chF v st xs).table.length = ftF v xs * perF v ∧ (chF v st xs).outs.length = xs.length + 3 := by
  have := chained_len (pl := plF v st xs) (from_ := ftF v xs) (cs := csF v xs) (t := tbF v st xs)
  refine ⟨this.1.trans ?_, this.2.trans (length_csF v xs)⟩
  simp [tbF]
theorem length_mch {v st : Nat} {xs : List Nd} (h : Ok xs) : (mchF v st xs).table.length = mfF v xs * perF v ∧ (mchF v st xs).outs.length = xs.length := by
  have := chained_len (pl := mplF st xs) (from_ := 0) (cs := smF xs) (t := mtbF v xs)
  refine ⟨this.1.trans ?_, this.2.trans ?_⟩
  · simp [mtbF]
  simp [smF]
theorem ch_mem {v st : Nat} {xs : List Nd} (h : Ok xs) : (∀ x ∈ (chF v st xs).table, x < 4294967296) ∧ (∀ x ∈ (chF v st xs).outs, x < 4294967296) := by
  have h1 := ftF_ok (v := v) h
  refine chained_mem (fun x hx => ?_) (by decide) ?_ (markTo_mem (by decide) ?_ _)
  · have := mixedF_lt _ _ x hx; omega
  · rw [length_plF h]; unfold TF; omega
  intro x hx; have := (List.mem_replicate.1 hx).2; rw [this]; decide
theorem mch_mem {v st : Nat} {xs : List Nd} (h : Ok xs) : (∀ x ∈ (mchF v st xs).table, x < 4294967296) ∧ (∀ x ∈ (mchF v st xs).outs, x < 4294967296) := by
  have h1 := miF_le h
  refine chained_mem (fun x hx => ?_) (by decide) ?_ ?_
  · have := mixedF_lt _ _ x hx; omega
  · simp [mplF, miF]
  intro x hx; have := (List.mem_replicate.1 hx).2; rw [this]; decide
theorem ch_walk {v st : Nat} {xs : List Nd} (h : Ok xs) {i : Nat} (hi : i < xs.length + 3) {k : Nat} (hk : k < (csF v xs).getD i 0) :
    walkP (chF v st xs).table ((chF v st xs).outs.getD i 0) k = (plF v st xs).getD (ftF v xs + ((csF v xs).take i).sum + k) 0 := by
  have h1 := ftF_ok (v := v) h
  refine chain_walk (mixedF_nodup _ _) ?_ ?_ (by rw [length_csF]; exact hi) k hk
  · intro x hx; have := pl_lt h x hx; simp [tbF]; omega
  show _ ≤ (plF v st xs).length; rw [length_plF h]; unfold TF; omega
theorem ch_walk_lt {v st : Nat} {xs : List Nd} (h : Ok xs) {i : Nat} (hi : i < xs.length + 3) {k : Nat} (hk : k < (csF v xs).getD i 0) : walkP (chF v st xs).table ((chF v st xs).outs.getD i 0) k < TF v xs := by
  rw [ch_walk h hi hk]
  refine getD_lt (pl_lt h) ?_
  have h2 := sum_take_succ (csF v xs) i (by rw [length_csF]; exact hi)
  rw [length_plF h]; unfold TF; omega
theorem mch_walk {v st : Nat} {xs : List Nd} (h : Ok xs) {i : Nat} (hi : i < xs.length) {k : Nat} (hk : k < (smF xs).getD i 0) :
    walkP (mchF v st xs).table ((mchF v st xs).outs.getD i 0) k = (mplF st xs).getD (((smF xs).take i).sum + k) 0 := by
  have h1 := mfF_le (v := v) h
  have := chain_walk (pl := mplF st xs) (mixedF_nodup _ _) (t := mtbF v xs) (from_ := 0) (cs := smF xs) ?_ ?_ (i := i) (by simpa [smF] using hi) k hk
  · rw [Nat.zero_add] at this; exact this
  · intro x hx; have := mixedF_lt _ _ x hx; simp [mtbF]; omega
  simp [mplF, miF]
theorem mch_walk_lt {v st : Nat} {xs : List Nd} (h : Ok xs) {i : Nat} (hi : i < xs.length) {k : Nat} (hk : k < (smF xs).getD i 0) : walkP (mchF v st xs).table ((mchF v st xs).outs.getD i 0) k < miF xs := by
  rw [mch_walk h hi hk]
  refine getD_lt (mixedF_lt _ _) ?_
  have h2 := sum_take_succ (smF xs) i (by simpa [smF] using hi)
  simp [mplF, miF]; omega
theorem length_headF (size v dirs fats s0 s1 nm : Nat) (l : List UInt8) (h : 512 ≤ l.length) : (headF size v dirs fats s0 s1 nm l).length = l.length := by
  have h0 : (spl 0 magic l).length = l.length := length_spl (by simp [magic]; omega)
  unfold headF
  have key : ∀ (a n k : Nat) (z : List UInt8), a + k ≤ 512 → z.length = l.length → (putF a n k z).length = l.length := fun a n k z ha hz => by rw [length_putF om_]; exact hz
  refine key _ _ _ _ om_ (key _ _ _ _ om_ (key _ _ _ _ om_ (key _ _ _ _ om_ (key _ _ _ _ om_ (key _ _ _ _ om_ ?_)))))
  have h5 : (putF 32 6 2 (putF 30 (shiftF size) 2 (putF 28 65534 2 (putF 26 v 2 (putF 24 62 2 (spl 0 magic l)))))).length = l.length :=
    key _ _ _ _ om_ (key _ _ _ _ om_ (key _ _ _ _ om_ (key _ _ _ _ om_ (key _ _ _ _ om_ h0))))
  split
  · exact key _ _ _ _ om_ h5
  exact h5
theorem NF_le {v : Nat} {xs : List Nd} (h : Ok xs) : 512 ≤ NF v xs ∧ NF v xs ≤ 4096 * 700 ∧ TF v xs ≤ 650 := by
  have h1 := cs_sum_le (v := v) h
  have h2 := ftF_ok (v := v) h
  have h3 : TF v xs ≤ 650 := by unfold TF; omega
  have h4 : 512 ≤ sizeF v ∧ sizeF v ≤ 4096 := by rcases sizeF_or v with e | e <;> omega
  refine ⟨?_, ?_, h3⟩
  · have := Nat.mul_le_mul h4.1 (show 1 ≤ 1 + TF v xs by omega); unfold NF; omega
  exact Nat.mul_le_mul h4.2 om_
theorem length_out0F {v st : Nat} {xs : List Nd} (h : Ok xs) : (out0F v st xs).length = NF v xs := by
  have h1 := NF_le (v := v) h
  unfold out0F
  have h2 : (headF (sizeF v) v (dsF v xs) (ftF v xs) ((chF v st xs).outs.getD 0 0) ((chF v st xs).outs.getD 1 0) (mfF v xs) (List.replicate (NF v xs) 0)).length = NF v xs := by
    rw [length_headF _ _ _ _ _ _ _ _ (by simp; omega)]; simp
  rw [length_freeTo _ _ om_, h2]
theorem length_out1F {v st : Nat} {xs : List Nd} (h : Ok xs) : (out1F v st xs).length = NF v xs := by
  have h1 := NF_le (v := v) h
  have h2 := length_out0F (v := v) (st := st) h
  have h3 := ftF_ok (v := v) h
  unfold out1F
  rw [length_fatTo _ _ _ _ _ _ om_, h2]
  intro j hj
  have h4 := sector_le (size := sizeF v) (getD_lt (pl_lt (v := v) (st := st) h) (i := j) (by rw [length_plF h]; unfold TF; omega))
  rw [h2]
  unfold NF
  have h5 : 4 * perF v ≤ sizeF v := by unfold perF; omega
  omega
theorem fill1_ok {v st : Nat} {xs : List Nd} (h : Ok xs) {k : Nat} (hk : k * sizeF v < (tabF (mchF v st xs).table).length) : walkP (chF v st xs).table ((chF v st xs).outs.getD 1 0) k < TF v xs := by
  refine ch_walk_lt h om_ ?_
  rw [cs_1]
  rw [length_tabF, (length_mch (v := v) (st := st) h).1] at hk
  have h1 : 4 * (mfF v xs * perF v) = mfF v xs * sizeF v := by
    have : 4 * perF v = sizeF v := by unfold perF; rcases sizeF_or v with e | e <;> omega
    rw [← this, Nat.mul_left_comm]
  rw [h1] at hk
  exact Nat.lt_of_mul_lt_mul_right hk
theorem length_out2F {v st : Nat} {xs : List Nd} (h : Ok xs) : (out2F v st xs).length = NF v xs := by
  have h2 := length_out1F (v := v) (st := st) h
  have h4 : 0 < sizeF v := by rcases sizeF_or v with e | e <;> omega
  unfold out2F
  rw [length_fillF h4 (fun j hj => by rw [h2]; exact sector_le2 (fill1_ok h hj)), h2]
theorem node1_ok {v st : Nat} {xs : List Nd} (h : Ok xs) {k : Nat} (hk : k < xs.length) (hs : (xs.getD k default).stream = true) (hl : (xs.getD k default).data.length < 4096) {j : Nat} (hj : j * 64 < (xs.getD k default).data.length) :
    walkP (mchF v st xs).table ((mchF v st xs).outs.getD k 0) j < miF xs := by
  refine mch_walk_lt h hk ?_
  rw [sm_at xs hk]
  unfold smallF
  rw [if_pos ⟨hs, hl⟩, lt_partsF om_]
  exact hj
theorem node2_ok {v st : Nat} {xs : List Nd} (h : Ok xs) {k : Nat} (hk : k < xs.length) (hs : (xs.getD k default).stream = true) (hl : ¬ (xs.getD k default).data.length < 4096) {j : Nat} (hj : j * sizeF v < (xs.getD k default).data.length) :
    walkP (chF v st xs).table ((chF v st xs).outs.getD (3 + k) 0) j < TF v xs := by
  have h4 : 0 < sizeF v := by rcases sizeF_or v with e | e <;> omega
  refine ch_walk_lt h om_ ?_
  rw [cs_3 v xs hk]
  unfold largeF
  rw [if_pos ⟨hs, hl⟩, lt_partsF h4]
  exact hj
theorem small_at {xs : List Nd} (h : Ok xs) {k : Nat} (hk : k < xs.length) : (xs.getD k default).data.length ≤ 9000 := by
  rw [List.getD_eq_getElem?_getD, List.getElem?_eq_getElem hk]; exact h.small _ (List.getElem_mem _)
theorem nodesTo_len {v st : Nat} {xs : List Nd} (h : Ok xs) (hn : ∀ x ∈ xs, x.name.length ≤ 31) : ∀ k, k ≤ xs.length → ∀ q, q = nodesTo (miF xs) (sizeF v) (chF v st xs).outs (mchF v st xs).outs (chF v st xs).table (mchF v st xs).table xs k (dirTo (dsF v xs * sizeF v / 128) (List.replicate (dsF v xs * sizeF v) 0), List.replicate (64 * miF xs) 0, out2F v st xs) →
    q.1.length = dsF v xs * sizeF v ∧ q.2.1.length = 64 * miF xs ∧ q.2.2.length = NF v xs := by
  have h2 := length_out2F (v := v) (st := st) h
  have h4 : 0 < sizeF v := by rcases sizeF_or v with e | e <;> omega
  have hd := dsF_le (v := v) h
  have hc := length_ch (v := v) (st := st) h
  have hm := length_mch (v := v) (st := st) h
  have hcm := ch_mem (v := v) (st := st) h
  have hmm := mch_mem (v := v) (st := st) h
  have hmi := miF_le h
  intro k
  induction k with
  | zero =>
    intro _ q hq
    subst hq
    refine ⟨?_, by show (List.replicate _ _).length = _; simp, h2⟩
    show (dirTo _ _).length = _
    rw [length_dirTo _ _ (by simp; omega)]; simp
  | succ k ih =>
    intro hk q hq
    obtain ⟨i1, i2, i3⟩ := ih om_ _ rfl
    rw [show nodesTo (miF xs) (sizeF v) (chF v st xs).outs (mchF v st xs).outs (chF v st xs).table (mchF v st xs).table xs (k + 1) (dirTo (dsF v xs * sizeF v / 128) (List.replicate (dsF v xs * sizeF v) 0), List.replicate (64 * miF xs) 0, out2F v st xs) = nodeF (miF xs) (sizeF v) (chF v st xs).outs (mchF v st xs).outs (chF v st xs).table (mchF v st xs).table xs k (nodesTo (miF xs) (sizeF v) (chF v st xs).outs (mchF v st xs).outs (chF v st xs).table (mchF v st xs).table xs k (dirTo (dsF v xs * sizeF v / 128) (List.replicate (dsF v xs * sizeF v) 0), List.replicate (64 * miF xs) 0, out2F v st xs)) from rfl] at hq
    subst hq
    have hf := swF_facts (k := k) (x := xs.getD k default) (minis := miF xs) h4 (fun y hy => by have := hcm.2 y hy; omega) (fun y hy => by have := hmm.2 y hy; omega) om_ om_ (show sizeF v * (1 + TF v xs) = NF v xs from rfl) i3 i2 om_ (small_at h om_)
      (fun _ hs hl j hj => node1_ok (v := v) (st := st) h om_ hs hl hj) (fun _ hs hl j hj => node2_ok (v := v) (st := st) h om_ hs hl hj)
    have hnm : (xs.getD k default).name.length ≤ 31 := by rw [List.getD_eq_getElem?_getD, List.getElem?_eq_getElem (show k < xs.length by omega)]; exact hn _ (List.getElem_mem _)
    refine ⟨?_, hf.2.2.1, hf.2.2.2⟩
    show (entF _ _ _ _ _ (nameF _ _ _)).length = _
    rw [length_entF _ _ _ _ _ _ (by rw [length_nameF _ _ _ om_ hnm]; omega), length_nameF _ _ _ om_ hnm]
    exact i1
theorem length_writeF {v st : Nat} {xs : List Nd} (h : Ok xs) (hn : ∀ x ∈ xs, x.name.length ≤ 31) : (writeF v st xs).length = NF v xs := by
  have h4 : 0 < sizeF v := by rcases sizeF_or v with e | e <;> omega
  obtain ⟨h1, h2, h3⟩ := nodesTo_len (v := v) (st := st) h hn xs.length (Nat.le_refl _) (ndsF v st xs) rfl
  have h5 : (fillF (chF v st xs).table (sizeF v) (ndsF v st xs).2.1 ((chF v st xs).outs.getD 2 0) (ndsF v st xs).2.2).length = NF v xs := by
    rw [length_fillF h4, h3]
    intro j hj
    rw [h3]
    refine sector_le2 (ch_walk_lt h om_ ?_)
    rw [cs_2, lt_partsF h4]; omega
  unfold writeF
  rw [length_fillF h4, h5]
  intro j hj
  rw [h5]
  refine sector_le2 (ch_walk_lt h om_ ?_)
  rw [cs_0]
  rw [h1] at hj
  exact Nat.lt_of_mul_lt_mul_right hj

structure Holds (N o : Nat) (c l : List UInt8) : Prop where
  len : l.length = N
  fit : o + c.length ≤ N
  at_ : ∀ i, i < c.length → l[o + i]? = c[i]?
theorem Holds.cut {N o : Nat} {c l : List UInt8} (h : Holds N o c l) : (l.drop o).take c.length = c := by
  apply List.ext_getElem?
  intro i
  rw [List.getElem?_take]
  by_cases hi : i < c.length
  · rw [if_pos hi, List.getElem?_drop]; exact h.at_ i hi
  rw [if_neg hi, List.getElem?_eq_none om_]
theorem Holds.cut' {N o n : Nat} {c l : List UInt8} (h : Holds N o c l) (hn : c.length = n) : (l.drop o).take n = c := by subst hn; exact h.cut
theorem Holds.num {N o n k : Nat} {l : List UInt8} (h : Holds N o (le n k) l) (hn : n < 256 ^ k) : num ((l.drop o).take k) = n := by
  rw [h.cut' (length_le n k)]; exact num_le_of_lt hn
theorem Holds.sub {N o a b : Nat} {c l : List UInt8} (h : Holds N o c l) (hab : a + b ≤ c.length) : Holds N (o + a) ((c.drop a).take b) l := by
  have hl : ((c.drop a).take b).length = b := by simp; omega
  refine ⟨h.len, by rw [hl]; have := h.fit; omega, ?_⟩
  intro i hi
  rw [hl] at hi
  rw [List.getElem?_take, if_pos hi, List.getElem?_drop, Nat.add_assoc]
  exact h.at_ (a + i) om_
theorem Holds.zeros {N o n : Nat} (h : o + n ≤ N) : Holds N o (List.replicate n 0) (List.replicate N 0) := by
  refine ⟨by simp, by simpa using h, ?_⟩
  intro i hi
  simp only [List.length_replicate] at hi
  rw [List.getElem?_replicate, if_pos om_, List.getElem?_replicate, if_pos hi]
theorem spl_self {N a : Nat} {c l : List UInt8} (hl : l.length = N) (h : a + c.length ≤ N) : Holds N a c (spl a c l) := by
  refine ⟨by rw [length_spl om_]; exact hl, h, ?_⟩
  intro i hi
  rw [getElem?_spl om_, if_neg om_, if_pos om_]
  congr 1; omega
theorem spl_other {N o a : Nat} {c d l : List UInt8} (h : Holds N o c l) (hd : o + c.length ≤ a ∨ a + d.length ≤ o) (hf : a + d.length ≤ N) : Holds N o c (spl a d l) := by
  have hl := h.len
  refine ⟨by rw [length_spl om_]; exact hl, h.fit, ?_⟩
  intro i hi
  rw [getElem?_spl om_]
  rw [← h.at_ i hi]
  rcases hd with hd | hd
  · rw [if_pos om_]
  rw [if_neg om_, if_neg om_]
theorem put_self {N a n k : Nat} {l : List UInt8} (hl : l.length = N) (h : a + k ≤ N) : Holds N a (le n k) (putF a n k l) := spl_self hl (by rw [length_le]; exact h)
theorem put_other {N o a n k : Nat} {c l : List UInt8} (h : Holds N o c l) (hd : o + c.length ≤ a ∨ a + k ≤ o) (hf : a + k ≤ N) : Holds N o c (putF a n k l) :=
  spl_other h (by rw [length_le]; exact hd) (by rw [length_le]; exact hf)
theorem set_other {N o a : Nat} {x : UInt8} {c l : List UInt8} (h : Holds N o c l) (hd : o + c.length ≤ a ∨ a < o) : Holds N o c (l.set a x) := by
  refine ⟨by simp [h.len], h.fit, ?_⟩
  intro i hi
  rw [List.getElem?_set_ne om_]
  exact h.at_ i hi
theorem set_self {N a : Nat} {x : UInt8} {l : List UInt8} (hl : l.length = N) (h : a < N) : Holds N a [x] (l.set a x) := by
  refine ⟨by simp [hl], by simp only [List.length_singleton]; omega, ?_⟩
  intro i hi
  have : i = 0 := by simpa using hi
  subst this
  rw [Nat.add_zero, List.getElem?_set_self om_]; rfl
theorem Holds.getD {N a : Nat} {x : UInt8} {l : List UInt8} (h : Holds N a [x] l) : l.getD a 0 = x := by
  have := h.at_ 0 (by simp)
  rw [Nat.add_zero] at this
  simp [List.getD_eq_getElem?_getD, this]
theorem iter_keep {β : Type} {P : β → Prop} (f : Nat → β → β) : ∀ (k : Nat) (l : β), P l → (∀ j l', j < k → P l' → P (f j l')) → P (iter f k l) := by
  intro k
  induction k with
  | zero => intro l h _; exact h
  | succ k ih => intro l h hs; exact hs k _ (by omega) (ih l h (fun j l' hj => hs j l' (by omega)))
theorem iter_make {β : Type} {P : β → Prop} {I : β → Prop} (f : Nat → β → β) (j : Nat) : ∀ (k : Nat) (l : β), j < k → I l → (∀ i l', i < j → I l' → I (f i l')) → (∀ l', I l' → P (f j l')) → (∀ i l', j < i → i < k → P l' → P (f i l')) → P (iter f k l) := by
  intro k
  induction k with
  | zero => intro l h; omega
  | succ k ih =>
    intro l h hi hI hm hk
    by_cases e : j = k
    · subst e
      exact hm _ (iter_keep f j l hi (fun i l' hj => hI i l' hj))
    exact hk k _ om_ om_ (ih l om_ hi hI hm (fun i l' h1 h2 => hk i l' h1 om_))
theorem freeTo_keep {N o k : Nat} {c l : List UInt8} (h : Holds N o c l) (ho : o + c.length ≤ 76) (hN : 76 + 4 * k ≤ N) : Holds N o c (freeTo k l) :=
  iter_keep _ k l h (fun j l' hj h' => put_other h' (.inl om_) om_)
theorem rowTo_other {N o p k j size per : Nat} {fat : List Nat} {c l : List UInt8} (h : Holds N o c l) (hd : o + c.length ≤ size * (1 + p) ∨ size * (1 + p) + 4 * j ≤ o) (hN : size * (1 + p) + 4 * j ≤ N) : Holds N o c (rowTo fat size per p k j l) :=
  iter_keep _ j l h (fun i l' hi h' => put_other h' om_ om_)
theorem rowTo_self {N p k j i size per : Nat} {fat : List Nat} {l : List UInt8} (hl : l.length = N) (hi : i < j) (hN : size * (1 + p) + 4 * j ≤ N) :
    Holds N (size * (1 + p) + 4 * i) (le (fat.getD (k * per + i) 0) 4) (rowTo fat size per p k j l) :=
  iter_make (I := fun l => l.length = N) _ i j l hi hl (fun q l' hq h' => by rw [length_putF om_]; exact h') (fun l' h' => put_self h' om_)
    (fun q l' h1 h2 h' => put_other h' (.inl (by rw [length_le]; omega)) om_)
theorem sec_end (size p : Nat) : size * (2 + p) = size * (1 + p) + size := by rw [show 2 + p = (1 + p) + 1 by omega, Nat.mul_succ]
theorem sec_apart {size p q : Nat} (h : p ≠ q) : size * (2 + p) ≤ size * (1 + q) ∨ size * (2 + q) ≤ size * (1 + p) := by
  rcases Nat.lt_or_gt_of_ne h with h | h
  · exact .inl (Nat.mul_le_mul_left _ om_)
  exact .inr (Nat.mul_le_mul_left _ om_)
theorem sec_ge (size p : Nat) : size ≤ size * (1 + p) := by
  have := Nat.mul_le_mul_left size (show 1 ≤ 1 + p by omega)
  omega
theorem fatTo_other {N o size per k : Nat} {pl fat : List Nat} {c l : List UInt8} (h : Holds N o c l) (h1 : o + c.length ≤ 76 ∨ 76 + 4 * k ≤ o) (hd : ∀ j, j < k → o + c.length ≤ size * (1 + pl.getD j 0) ∨ size * (2 + pl.getD j 0) ≤ o)
    (hp : 4 * per = size) (hN1 : 76 + 4 * k ≤ N) (hN : ∀ j, j < k → size * (2 + pl.getD j 0) ≤ N) : Holds N o c (fatTo pl fat size per k l) := by
  refine iter_keep _ k l h (fun j l' hj h' => ?_)
  have e := sec_end size (pl.getD j 0)
  have e2 := hd j hj
  have e3 := hN j hj
  exact rowTo_other (put_other h' om_ om_) om_ om_
theorem fatTo_row {N size per k j i : Nat} {pl fat : List Nat} {l : List UInt8} (hl : l.length = N) (hnd : ∀ a b, a < k → b < k → pl.getD a 0 = pl.getD b 0 → a = b) (hj : j < k) (hi : i < per)
    (hp : 4 * per = size) (h512 : 76 + 4 * k ≤ size) (hN1 : 76 + 4 * k ≤ N) (hN : ∀ j, j < k → size * (2 + pl.getD j 0) ≤ N) :
    Holds N (size * (1 + pl.getD j 0) + 4 * i) (le (fat.getD (j * per + i) 0) 4) (fatTo pl fat size per k l) := by
  refine iter_make (I := fun l => l.length = N) _ j k l hj hl (fun q l' hq h' => ?_) (fun l' h' => ?_) (fun q l' h1 h2 h' => ?_)
  · have e := sec_end size (pl.getD q 0)
    have e3 := hN q om_
    have h3 : (putF (76 + 4 * q) (pl.getD q 0) 4 l').length = N := by rw [length_putF om_]; exact h'
    rw [length_rowTo _ _ _ _ _ _ _ om_]; exact h3
  · have e := sec_end size (pl.getD j 0)
    have e3 := hN j hj
    exact rowTo_self (by rw [length_putF om_]; exact h') hi om_
  have e := sec_end size (pl.getD q 0)
  have e3 := hN q h2
  have e4 := sec_end size (pl.getD j 0)
  have e5 := sec_apart (size := size) (p := pl.getD j 0) (q := pl.getD q 0) (fun e => by have := hnd j q hj h2 e; omega)
  have e6 := sec_ge size (pl.getD j 0)
  refine rowTo_other (put_other h' ?_ om_) ?_ om_
  · rw [length_le]; omega
  rw [length_le]; omega
theorem fatTo_dif {N size per k j : Nat} {pl fat : List Nat} {l : List UInt8} (hl : l.length = N) (hj : j < k)
    (hp : 4 * per = size) (h512 : 76 + 4 * k ≤ size) (hN1 : 76 + 4 * k ≤ N) (hN : ∀ j, j < k → size * (2 + pl.getD j 0) ≤ N) :
    Holds N (76 + 4 * j) (le (pl.getD j 0) 4) (fatTo pl fat size per k l) := by
  refine iter_make (I := fun l => l.length = N) _ j k l hj hl (fun q l' hq h' => ?_) (fun l' h' => ?_) (fun q l' h1 h2 h' => ?_)
  · have e := sec_end size (pl.getD q 0)
    have e3 := hN q om_
    have h3 : (putF (76 + 4 * q) (pl.getD q 0) 4 l').length = N := by rw [length_putF om_]; exact h'
    rw [length_rowTo _ _ _ _ _ _ _ om_]; exact h3
  · have e := sec_end size (pl.getD j 0)
    have e3 := hN j hj
    have e6 := sec_ge size (pl.getD j 0)
    exact rowTo_other (put_self h' om_) (by rw [length_le]; omega) om_
  have e := sec_end size (pl.getD q 0)
  have e3 := hN q h2
  have e6 := sec_ge size (pl.getD q 0)
  refine rowTo_other (put_other h' ?_ om_) ?_ om_
  · rw [length_le]; omega
  rw [length_le]; omega
theorem chunk_le (data : List UInt8) (a size : Nat) : ((data.drop a).take size).length ≤ size := by simp; omega
theorem fillTo_other {N o size start : Nat} {fat : List Nat} {data c out : List UInt8} (h : Holds N o c out) : ∀ k, (∀ j, j < k → o + c.length ≤ size * (1 + walkP fat start j) ∨ size * (2 + walkP fat start j) ≤ o) → (∀ j, j < k → size * (2 + walkP fat start j) ≤ N) → Holds N o c (fillTo fat size data start out k) := by
  intro k
  induction k with
  | zero => intro _ _; exact h
  | succ k ih =>
    intro h1 h2
    have h3 := ih (fun j hj => h1 j om_) (fun j hj => h2 j om_)
    have e := sec_end size (walkP fat start k)
    have e1 := h1 k om_
    have e2 := h2 k om_
    have e3 := chunk_le data (k * size) size
    exact spl_other h3 om_ om_
theorem fillTo_self {N size start : Nat} {fat : List Nat} {data out : List UInt8} (hl : out.length = N) {j : Nat} : ∀ k, j < k → (∀ a b, a < k → b < k → walkP fat start a = walkP fat start b → a = b) → (∀ j, j < k → size * (2 + walkP fat start j) ≤ N) →
    Holds N (size * (1 + walkP fat start j)) ((data.drop (j * size)).take size) (fillTo fat size data start out k) := by
  intro k
  induction k with
  | zero => intro h; omega
  | succ k ih =>
    intro hj hnd hN
    have e := sec_end size (walkP fat start k)
    have e2 := hN k om_
    have e3 := chunk_le data (k * size) size
    by_cases ejk : j = k
    · subst ejk
      exact spl_self (by rw [length_fillTo _ (fun i hi => by rw [hl]; exact hN i om_)]; exact hl) om_
    have h3 := ih om_ (fun a b ha hb => hnd a b om_ om_) (fun i hi => hN i om_)
    have e4 := sec_apart (size := size) (p := walkP fat start j) (q := walkP fat start k) (fun e => ejk (hnd j k om_ om_ e))
    have e5 := sec_end size (walkP fat start j)
    have e6 := chunk_le data (j * size) size
    exact spl_other h3 om_ om_

theorem partsF_mul {n p : Nat} (hp : 0 < p) : partsF (n * p) p = n := by
  unfold partsF
  have e : n * p + p - 1 = (p - 1) + p * n := by rw [Nat.mul_comm]; omega
  rw [e, Nat.add_mul_div_left _ _ hp, Nat.div_eq_of_lt om_]; omega
theorem size_ge (v : Nat) : 512 ≤ sizeF v ∧ sizeF v ≤ 4096 := by rcases sizeF_or v with e | e <;> omega
theorem per4 (v : Nat) : 4 * perF v = sizeF v := by unfold perF; rcases sizeF_or v with e | e <;> omega
def ixF (v : Nat) (xs : List Nd) (i k : Nat) : Nat := ftF v xs + ((csF v xs).take i).sum + k
def seF (v st : Nat) (xs : List Nd) (a : Nat) : Nat := sizeF v * (1 + (plF v st xs).getD a 0)
theorem take_mono (cs : List Nat) {i i' : Nat} (h : i < i') (hi : i < cs.length) : (cs.take i).sum + cs.getD i 0 ≤ (cs.take i').sum := by
  have h1 := take_sum_succ cs i hi
  have h2 : (cs.take (i + 1)).sum ≤ (cs.take i').sum := by
    have e : cs.take i' = cs.take (i + 1) ++ (cs.drop (i + 1)).take (i' - (i + 1)) := by
      rw [← List.take_add]; congr 1; omega
    rw [e, List.sum_append]; omega
  omega
section
variable {v st : Nat} {xs : List Nd}
theorem ix_lt (h : Ok xs) {i k : Nat} (hi : i < xs.length + 3) (hk : k < (csF v xs).getD i 0) : ixF v xs i k < TF v xs := by
  have h2 := sum_take_succ (csF v xs) i (by rw [length_csF]; exact hi)
  unfold ixF TF; omega
theorem ix_ne {i k i' k' : Nat} (hi : i < xs.length + 3) (hi' : i' < xs.length + 3) (hk : k < (csF v xs).getD i 0) (hk' : k' < (csF v xs).getD i' 0) (e : ixF v xs i k = ixF v xs i' k') : i = i' ∧ k = k' := by
  unfold ixF at e
  rcases Nat.lt_trichotomy i i' with h | h | h
  · have := take_mono (csF v xs) h (by rw [length_csF]; exact hi); omega
  · subst h; exact ⟨rfl, by omega⟩
  have := take_mono (csF v xs) h (by rw [length_csF]; exact hi'); omega
theorem ix_ge (i k : Nat) : ftF v xs ≤ ixF v xs i k := by unfold ixF; omega
theorem pl_inj (h : Ok xs) {a b : Nat} (ha : a < TF v xs) (hb : b < TF v xs) (e : (plF v st xs).getD a 0 = (plF v st xs).getD b 0) : a = b :=
  nodup_getD (pl := plF v st xs) (mixedF_nodup _ _) (by rw [length_plF h]; exact ha) (by rw [length_plF h]; exact hb) e
theorem se_le (h : Ok xs) {a : Nat} (ha : a < TF v xs) : seF v st xs a + sizeF v ≤ NF v xs := by
  have h1 := sector_le (size := sizeF v) (getD_lt (pl_lt (v := v) (st := st) h) (i := a) (by rw [length_plF h]; exact ha))
  unfold seF NF; exact h1
theorem se_ge (a : Nat) : sizeF v ≤ seF v st xs a := sec_ge _ _
theorem se_apart (h : Ok xs) {a b : Nat} (ha : a < TF v xs) (hb : b < TF v xs) (hne : a ≠ b) : seF v st xs a + sizeF v ≤ seF v st xs b ∨ seF v st xs b + sizeF v ≤ seF v st xs a := by
  have := sec_apart (size := sizeF v) (fun e => hne (pl_inj (v := v) (st := st) h ha hb e))
  rw [sec_end, sec_end] at this
  exact this
theorem walk_ix (h : Ok xs) {i k : Nat} (hi : i < xs.length + 3) (hk : k < (csF v xs).getD i 0) : walkP (chF v st xs).table ((chF v st xs).outs.getD i 0) k = (plF v st xs).getD (ixF v xs i k) 0 := ch_walk h hi hk
def Off (v st : Nat) (xs : List Nd) (o n i : Nat) : Prop := ∀ k, k < (csF v xs).getD i 0 → o + n ≤ seF v st xs (ixF v xs i k) ∨ seF v st xs (ixF v xs i k) + sizeF v ≤ o
theorem off_head {o n i : Nat} (h : o + n ≤ sizeF v) : Off v st xs o n i := fun k _ => .inl (Nat.le_trans h (se_ge _))
theorem off_place (h : Ok xs) {o n i a : Nat} (hi : i < xs.length + 3) (ha : a < TF v xs) (h1 : seF v st xs a ≤ o) (h2 : o + n ≤ seF v st xs a + sizeF v) (hne : ∀ k, k < (csF v xs).getD i 0 → a ≠ ixF v xs i k) : Off v st xs o n i := by
  intro k hk
  have := se_apart (st := st) h ha (ix_lt h hi hk) (hne k hk)
  omega
theorem off_fat (h : Ok xs) {o n i a : Nat} (hi : i < xs.length + 3) (ha : a < ftF v xs) (h1 : seF v st xs a ≤ o) (h2 : o + n ≤ seF v st xs a + sizeF v) : Off v st xs o n i :=
  off_place h hi (by unfold TF; omega) h1 h2 (fun k _ => by have := ix_ge (v := v) (xs := xs) i k; omega)
theorem fill_keep (h : Ok xs) {i o : Nat} {data c out : List UInt8} (hi : i < xs.length + 3) (hd : partsF data.length (sizeF v) ≤ (csF v xs).getD i 0) (hh : Holds (NF v xs) o c out) (ho : Off v st xs o c.length i) :
    Holds (NF v xs) o c (fillF (chF v st xs).table (sizeF v) data ((chF v st xs).outs.getD i 0) out) := by
  refine fillTo_other hh _ (fun j hj => ?_) (fun j hj => ?_)
  · rw [walk_ix h hi om_, sec_end]
    exact ho j om_
  rw [walk_ix h hi om_, sec_end]
  exact se_le h (ix_lt h hi om_)
theorem fill_make (h : Ok xs) {i j : Nat} {data out : List UInt8} (hi : i < xs.length + 3) (hd : partsF data.length (sizeF v) ≤ (csF v xs).getD i 0) (hl : out.length = NF v xs) (hj : j * sizeF v < data.length) :
    Holds (NF v xs) (seF v st xs (ixF v xs i j)) ((data.drop (j * sizeF v)).take (sizeF v)) (fillF (chF v st xs).table (sizeF v) data ((chF v st xs).outs.getD i 0) out) := by
  have hs := size_ge v
  have hj' := (lt_partsF (size := sizeF v) om_).2 hj
  have := fillTo_self (size := sizeF v) (fat := (chF v st xs).table) (start := (chF v st xs).outs.getD i 0) (data := data) hl (j := j) (partsF data.length (sizeF v)) hj' (fun a b ha hb e => ?_) (fun a ha => ?_)
  · rw [walk_ix h hi om_] at this; exact this
  · rw [walk_ix h hi om_, walk_ix h hi om_] at e
    exact (ix_ne hi hi om_ om_ (pl_inj h (ix_lt h hi om_) (ix_lt h hi om_) e)).2
  rw [walk_ix h hi om_, sec_end]
  exact se_le h (ix_lt h hi om_)
theorem parts_large {k : Nat} (hk : k < xs.length) (hs : (xs.getD k default).stream = true) (hl : ¬ (xs.getD k default).data.length < 4096) : partsF (xs.getD k default).data.length (sizeF v) = (csF v xs).getD (3 + k) 0 := by
  rw [cs_3 v xs hk]; unfold largeF; rw [if_pos ⟨hs, hl⟩]
abbrev dir0F (v : Nat) (xs : List Nd) : List UInt8 := dirTo (dsF v xs * sizeF v / 128) (List.replicate (dsF v xs * sizeF v) 0)
abbrev nTo (v st : Nat) (xs : List Nd) (k : Nat) : List UInt8 × List UInt8 × List UInt8 :=
  nodesTo (miF xs) (sizeF v) (chF v st xs).outs (mchF v st xs).outs (chF v st xs).table (mchF v st xs).table xs k (dir0F v xs, List.replicate (64 * miF xs) 0, out2F v st xs)
theorem nTo_all : nTo v st xs xs.length = ndsF v st xs := rfl
theorem nTo_out (k : Nat) : (nTo v st xs (k + 1)).2.2 = if k ≠ 0 ∧ (xs.getD k default).stream = true ∧ ¬ (xs.getD k default).data.length < 4096 then fillF (chF v st xs).table (sizeF v) (xs.getD k default).data ((chF v st xs).outs.getD (3 + k) 0) (nTo v st xs k).2.2 else (nTo v st xs k).2.2 := by
  show (swF k (miF xs) (sizeF v) (chF v st xs).outs (mchF v st xs).outs (chF v st xs).table (mchF v st xs).table (xs.getD k default) (nTo v st xs k).2.1 (nTo v st xs k).2.2).2.2.2.2 = _
  unfold swF
  split
  · rw [if_neg om_]
  split
  · split
    · rw [if_neg om_]
    rw [if_pos ⟨by assumption, by assumption, by assumption⟩]
  rename_i hns; rw [if_neg (fun hc => hns hc.2.1)]
theorem nTo_len (h : Ok xs) (hn : ∀ x ∈ xs, x.name.length ≤ 31) {k : Nat} (hk : k ≤ xs.length) : (nTo v st xs k).1.length = dsF v xs * sizeF v ∧ (nTo v st xs k).2.1.length = 64 * miF xs ∧ (nTo v st xs k).2.2.length = NF v xs := nodesTo_len h hn k hk _ rfl
theorem nTo_keep (h : Ok xs) {o : Nat} {c : List UInt8} (hh : Holds (NF v xs) o c (out2F v st xs)) (ho : ∀ k, k < xs.length → Off v st xs o c.length (3 + k)) : ∀ k, k ≤ xs.length → Holds (NF v xs) o c (nTo v st xs k).2.2 := by
  intro k
  induction k with
  | zero => intro _; exact hh
  | succ k ih =>
    intro hk
    rw [nTo_out]
    split
    · rename_i hc
      exact fill_keep h om_ (by rw [parts_large om_ hc.2.1 hc.2.2]; exact Nat.le_refl _) (ih om_) (ho k om_)
    exact ih om_
theorem last_keep (h : Ok xs) (hn : ∀ x ∈ xs, x.name.length ≤ 31) {o : Nat} {c : List UInt8} (hh : Holds (NF v xs) o c (ndsF v st xs).2.2) (h2 : Off v st xs o c.length 2) (h0 : Off v st xs o c.length 0) : Holds (NF v xs) o c (writeF v st xs) := by
  have hz := size_ge v
  obtain ⟨l1, l2, l3⟩ := nTo_len (v := v) (st := st) h hn (Nat.le_refl _)
  rw [nTo_all] at l1 l2 l3
  unfold writeF
  refine fill_keep h om_ ?_ (fill_keep h om_ ?_ hh h2) h0
  · rw [cs_0, l1, partsF_mul om_]; exact Nat.le_refl _
  rw [cs_2, l2, Nat.mul_comm]; exact Nat.le_refl _
theorem write_dir (h : Ok xs) (hn : ∀ x ∈ xs, x.name.length ≤ 31) {j : Nat} (hj : j < dsF v xs) :
    Holds (NF v xs) (seF v st xs (ixF v xs 0 j)) (((ndsF v st xs).1.drop (j * sizeF v)).take (sizeF v)) (writeF v st xs) := by
  have hz := size_ge v
  obtain ⟨l1, l2, l3⟩ := nTo_len (v := v) (st := st) h hn (Nat.le_refl _)
  rw [nTo_all] at l1 l2 l3
  unfold writeF
  refine fill_make h om_ ?_ ?_ ?_
  · rw [cs_0, l1, partsF_mul om_]; exact Nat.le_refl _
  · rw [length_fillF om_, l3]
    intro k hk
    rw [l3]
    refine sector_le2 (ch_walk_lt h om_ ?_)
    rw [cs_2, lt_partsF om_]; omega
  rw [l1]; exact Nat.mul_lt_mul_of_pos_right hj om_
theorem tab_parts (h : Ok xs) : partsF (tabF (mchF v st xs).table).length (sizeF v) = mfF v xs := by
  have hz := size_ge v
  rw [length_tabF, (length_mch (v := v) (st := st) h).1, show 4 * (mfF v xs * perF v) = mfF v xs * sizeF v by rw [← per4 v, Nat.mul_left_comm], partsF_mul om_]
theorem write_first (h : Ok xs) (hn : ∀ x ∈ xs, x.name.length ≤ 31) {o : Nat} {c : List UInt8} (hh : Holds (NF v xs) o c (out1F v st xs)) (ho : ∀ i, i < xs.length + 3 → Off v st xs o c.length i) : Holds (NF v xs) o c (writeF v st xs) := by
  refine last_keep h hn (nTo_keep h ?_ (fun k hk => ho _ om_) _ (Nat.le_refl _)) (ho _ om_) (ho _ om_)
  unfold out2F
  exact fill_keep h om_ (by rw [tab_parts h, cs_1]; exact Nat.le_refl _) hh (ho _ om_)
theorem ft_sec (h : Ok xs) : ∀ j, j < ftF v xs → sizeF v * (2 + (plF v st xs).getD j 0) ≤ NF v xs := by
  intro j hj
  rw [sec_end]
  exact se_le h (by unfold TF; omega)
theorem ft_nd (h : Ok xs) : ∀ a b, a < ftF v xs → b < ftF v xs → (plF v st xs).getD a 0 = (plF v st xs).getD b 0 → a = b :=
  fun a b ha hb e => pl_inj h (by unfold TF; omega) (by unfold TF; omega) e
theorem write_fat (h : Ok xs) (hn : ∀ x ∈ xs, x.name.length ≤ 31) {j i : Nat} (hj : j < ftF v xs) (hi : i < perF v) :
    Holds (NF v xs) (seF v st xs j + 4 * i) (le ((chF v st xs).table.getD (j * perF v + i) 0) 4) (writeF v st xs) := by
  have hz := size_ge v
  have hp := per4 v
  have hf := ftF_ok (v := v) h
  have hN := NF_le (v := v) h
  refine write_first h hn ?_ (fun i' hi' => off_fat h hi' hj om_ (by rw [length_le]; omega))
  exact fatTo_row (length_out0F h) (ft_nd h) hj hi hp om_ om_ (ft_sec h)
theorem write_dif (h : Ok xs) (hn : ∀ x ∈ xs, x.name.length ≤ 31) {j : Nat} (hj : j < ftF v xs) :
    Holds (NF v xs) (76 + 4 * j) (le ((plF v st xs).getD j 0) 4) (writeF v st xs) := by
  have hz := size_ge v
  have hp := per4 v
  have hf := ftF_ok (v := v) h
  have hN := NF_le (v := v) h
  refine write_first h hn ?_ (fun i' hi' => off_head (by rw [length_le]; omega))
  exact fatTo_dif (length_out0F h) hj hp om_ om_ (ft_sec h)
theorem write_head (h : Ok xs) (hn : ∀ x ∈ xs, x.name.length ≤ 31) {o : Nat} {c : List UInt8} (ho : o + c.length ≤ 76)
    (hh : Holds (NF v xs) o c (headF (sizeF v) v (dsF v xs) (ftF v xs) ((chF v st xs).outs.getD 0 0) ((chF v st xs).outs.getD 1 0) (mfF v xs) (List.replicate (NF v xs) 0))) : Holds (NF v xs) o c (writeF v st xs) := by
  have hz := size_ge v
  have hp := per4 v
  have hf := ftF_ok (v := v) h
  have hN := NF_le (v := v) h
  refine write_first h hn ?_ (fun i' hi' => off_head om_)
  refine fatTo_other (freeTo_keep hh ho om_) (.inl ho) (fun j hj => ?_) hp om_ (ft_sec h)
  have := sec_ge (sizeF v) ((plF v st xs).getD j 0)
  exact .inl om_
theorem head_at {N size v dirs fats s0 s1 nm : Nat} (hN : 512 ≤ N) {l : List UInt8} (hl : l = headF size v dirs fats s0 s1 nm (List.replicate N 0)) :
    Holds N 0 magic l ∧ Holds N 26 (le v 2) l ∧ Holds N 30 (le (shiftF size) 2) l ∧ Holds N 40 (if v = 4 then le dirs 4 else List.replicate 4 0) l ∧ Holds N 44 (le fats 4) l ∧ Holds N 48 (le s0 4) l ∧ Holds N 60 (le s1 4) l ∧ Holds N 64 (le nm 4) l ∧ Holds N 72 (List.replicate 4 0) l := by
  have l0 : (List.replicate N (0 : UInt8)).length = N := by simp
  have m0 : Holds N 0 magic (spl 0 magic (List.replicate N 0)) := spl_self l0 (by simp [magic]; omega)
  have ml : magic.length = 8 := rfl
  have z40 : Holds N 40 (List.replicate 4 0) (spl 0 magic (List.replicate N 0)) := spl_other (Holds.zeros om_) (.inr (by rw [ml]; omega)) (by rw [ml]; omega)
  have z72 : Holds N 72 (List.replicate 4 0) (spl 0 magic (List.replicate N 0)) := spl_other (Holds.zeros om_) (.inr (by rw [ml]; omega)) (by rw [ml]; omega)
  have P : ∀ (o a n k : Nat) (c z : List UInt8), Holds N o c z → (o + c.length ≤ a ∨ a + k ≤ o) → a + k ≤ N → Holds N o c (putF a n k z) := fun o a n k c z h hd hf => put_other h hd hf
  have lp : ∀ (a n k : Nat) (z : List UInt8), z.length = N → a + k ≤ N → (putF a n k z).length = N := fun a n k z hz ha => by rw [length_putF om_]; exact hz
  have r4 : (List.replicate 4 (0 : UInt8)).length = 4 := rfl
  have m1 := P _ 24 62 2 _ _ m0 (by rw [ml]; omega) om_
  have m2 := P _ 26 v 2 _ _ m1 (by rw [ml]; omega) om_
  have m3 := P _ 28 65534 2 _ _ m2 (by rw [ml]; omega) om_
  have m4 := P _ 30 (shiftF size) 2 _ _ m3 (by rw [ml]; omega) om_
  have m5 := P _ 32 6 2 _ _ m4 (by rw [ml]; omega) om_
  have z1 := P _ 32 6 2 _ _ (P _ 30 (shiftF size) 2 _ _ (P _ 28 65534 2 _ _ (P _ 26 v 2 _ _ (P _ 24 62 2 _ _ z40 (by rw [r4]; omega) om_) (by rw [r4]; omega) om_) (by rw [r4]; omega) om_) (by rw [r4]; omega) om_) (by rw [r4]; omega) om_
  have z2 := P _ 32 6 2 _ _ (P _ 30 (shiftF size) 2 _ _ (P _ 28 65534 2 _ _ (P _ 26 v 2 _ _ (P _ 24 62 2 _ _ z72 (by rw [r4]; omega) om_) (by rw [r4]; omega) om_) (by rw [r4]; omega) om_) (by rw [r4]; omega) om_) (by rw [r4]; omega) om_
  have a26 := P _ 32 6 2 _ _ (P _ 30 (shiftF size) 2 _ _ (P _ 28 65534 2 _ _ (put_self (N := N) (a := 26) (n := v) (k := 2) m1.len om_) (by rw [length_le]; omega) om_) (by rw [length_le]; omega) om_) (by rw [length_le]; omega) om_
  have a30 := P _ 32 6 2 _ _ (put_self (N := N) (a := 30) (n := shiftF size) (k := 2) m3.len om_) (by rw [length_le]; omega) om_
  unfold headF at hl
  generalize (putF 32 6 2 (putF 30 (shiftF size) 2 (putF 28 65534 2 (putF 26 v 2 (putF 24 62 2 (spl 0 magic (List.replicate N 0))))))) = y at hl m5 z1 z2 a26 a30
  have hy : ∃ y', (if v = 4 then putF 40 dirs 4 else id) y = y' ∧ y'.length = N ∧ Holds N 0 magic y' ∧ Holds N 26 (le v 2) y' ∧ Holds N 30 (le (shiftF size) 2) y' ∧ Holds N 40 (if v = 4 then le dirs 4 else List.replicate 4 0) y' ∧ Holds N 72 (List.replicate 4 0) y' := by
    by_cases h4 : v = 4
    · simp only [h4, if_true]
      simp only [h4] at a26
      exact ⟨_, rfl, lp _ _ _ _ m5.len om_, P _ _ _ _ _ _ m5 (by rw [ml]; omega) om_, P _ _ _ _ _ _ a26 (by rw [length_le]; omega) om_, P _ _ _ _ _ _ a30 (by rw [length_le]; omega) om_, put_self m5.len om_, P _ _ _ _ _ _ z2 (by rw [r4]; omega) om_⟩
    simp only [h4, if_false]
    exact ⟨_, rfl, m5.len, m5, a26, a30, z1, z2⟩
  obtain ⟨y', e, ly, b0, b26, b30, b40, b72⟩ := hy
  have c40 : (if v = 4 then le dirs 4 else List.replicate 4 (0 : UInt8)).length = 4 := by split <;> simp
  rw [e] at hl
  subst hl
  have T : ∀ (o : Nat) (c : List UInt8), o + c.length ≤ 44 ∨ 72 ≤ o → Holds N o c y' → Holds N o c (putF 68 CE 4 (putF 64 nm 4 (putF 60 s1 4 (putF 56 4096 4 (putF 48 s0 4 (putF 44 fats 4 y')))))) := fun o c hd h =>
    P _ _ _ _ _ _ (P _ _ _ _ _ _ (P _ _ _ _ _ _ (P _ _ _ _ _ _ (P _ _ _ _ _ _ (P _ _ _ _ _ _ h om_ om_) om_ om_) om_ om_) om_ om_) om_ om_) om_ om_
  have k44 := put_self (N := N) (a := 44) (n := fats) (k := 4) ly om_
  have k48 := put_self (N := N) (a := 48) (n := s0) (k := 4) k44.len om_
  have k56 := put_self (N := N) (a := 56) (n := 4096) (k := 4) k48.len om_
  have k60 := put_self (N := N) (a := 60) (n := s1) (k := 4) k56.len om_
  have k64 := put_self (N := N) (a := 64) (n := nm) (k := 4) k60.len om_
  refine ⟨T _ _ (by rw [ml]; omega) b0, T _ _ (by rw [length_le]; omega) b26, T _ _ (by rw [length_le]; omega) b30, T _ _ (by rw [c40]; omega) b40, ?_, ?_, ?_, ?_, T _ _ om_ b72⟩
  · exact P _ _ _ _ _ _ (P _ _ _ _ _ _ (P _ _ _ _ _ _ (P _ _ _ _ _ _ (P _ _ _ _ _ _ k44 (by rw [length_le]; omega) om_) (by rw [length_le]; omega) om_) (by rw [length_le]; omega) om_) (by rw [length_le]; omega) om_) (by rw [length_le]; omega) om_
  · exact P _ _ _ _ _ _ (P _ _ _ _ _ _ (P _ _ _ _ _ _ (P _ _ _ _ _ _ k48 (by rw [length_le]; omega) om_) (by rw [length_le]; omega) om_) (by rw [length_le]; omega) om_) (by rw [length_le]; omega) om_
  · exact P _ _ _ _ _ _ (P _ _ _ _ _ _ k60 (by rw [length_le]; omega) om_) (by rw [length_le]; omega) om_
  exact P _ _ _ _ _ _ k64 (by rw [length_le]; omega) om_
end

def lnkF (x : Int) : Nat := if 0 ≤ x then x.toNat else FREE
section
variable {D A o j : Nat} {vs : List Int} {c l : List UInt8}
theorem link3_other (h : Holds D o c l) (hd : o + c.length ≤ A + 68 ∨ A + 80 ≤ o) (hj : j ≤ 3) (hA : A + 128 ≤ D) : Holds D o c (link3 A vs j l) :=
  iter_keep _ j l h (fun i l' hi h' => by
    show Holds D o c (linkF _ _ _ _)
    unfold linkF
    split
    · exact put_other h' om_ om_
    exact h')
theorem link3_self {i : Nat} (h : Holds D (A + 68 + 4 * i) (le FREE 4) l) (hi : i < j) (hj : j ≤ 3) (hA : A + 128 ≤ D) : Holds D (A + 68 + 4 * i) (le (lnkF (vs.getD i 0)) 4) (link3 A vs j l) := by
  refine iter_make (I := fun l => Holds D (A + 68 + 4 * i) (le FREE 4) l) _ i j l hi h (fun q l' hq h' => ?_) (fun l' h' => ?_) (fun q l' h1 h2 h' => ?_)
  · show Holds _ _ _ (linkF _ _ _ _)
    unfold linkF
    split
    · exact put_other h' (by rw [length_le]; omega) om_
    exact h'
  · show Holds _ _ _ (linkF _ _ _ _)
    unfold linkF lnkF
    split
    · exact put_self h'.len om_
    exact h'
  show Holds _ _ _ (linkF _ _ _ _)
  unfold linkF
  split
  · exact put_other h' (by rw [length_le]; omega) om_
  exact h'
theorem nameTo_other {name : List UInt8} (h : Holds D o c l) (hd : o + c.length ≤ A ∨ A + 2 * j ≤ o) (hA : A + 2 * j ≤ D) : Holds D o c (nameTo name A j l) :=
  iter_keep _ j l h (fun i l' hi h' => put_other h' om_ om_)
theorem nameTo_self {name : List UInt8} {i : Nat} (hl : l.length = D) (hi : i < j) (hA : A + 2 * j ≤ D) : Holds D (A + 2 * i) (le (name.getD i 0).toNat 2) (nameTo name A j l) :=
  iter_make (I := fun l => l.length = D) _ i j l hi hl (fun q l' hq h' => by rw [length_putF om_]; exact h') (fun l' h' => put_self h' om_)
    (fun q l' h1 h2 h' => put_other h' (.inl (by rw [length_le]; omega)) om_)
theorem nameF_other {x : Nd} (h : Holds D o c l) (hd : o + c.length ≤ A ∨ A + 66 ≤ o) (hn : x.name.length ≤ 31) (hA : A + 128 ≤ D) : Holds D o c (nameF A x l) :=
  put_other (nameTo_other h om_ om_) om_ om_
theorem entF_other {x : Nd} {kd : UInt8} {st ln : Nat} (h : Holds D o c l) (hd : o + c.length ≤ A ∨ A + 128 ≤ o) (hA : A + 128 ≤ D) : Holds D o c (entF A x kd st ln l) := by
  have h1 := link3_other (A := A) (vs := [x.left, x.right, x.child]) (j := 3) (set_other (a := A + 67) (x := 1) (set_other (a := A + 66) (x := kd) h om_) om_) om_ om_ hA
  have hc := x.h16
  have hs := x.h4
  exact put_other (put_other (put_other (put_other (spl_other (spl_other h1 om_ om_) om_ om_) om_ om_) om_ om_) om_ om_) om_ om_
end
structure EntAt (D A : Nat) (x : Nd) (kd : UInt8) (st ln : Nat) (l : List UInt8) : Prop where
  name : ∀ j, j < x.name.length → Holds D (A + 2 * j) (le (x.name.getD j 0).toNat 2) l
  nl : Holds D (A + 64) (le (2 * x.name.length + 2) 2) l
  kd : Holds D (A + 66) [kd] l
  lnk : ∀ j, j < 3 → Holds D (A + 68 + 4 * j) (le (lnkF ([x.left, x.right, x.child].getD j 0)) 4) l
  cls : Holds D (A + 80) x.cls l
  state : Holds D (A + 96) x.state l
  cr : Holds D (A + 100) (le x.created 8) l
  mo : Holds D (A + 108) (le x.modified 8) l
  st : Holds D (A + 116) (le st 4) l
  ln : Holds D (A + 120) (le ln 8) l
theorem EntAt.keep {D A A' st ln st' ln' : Nat} {x y : Nd} {kd kd' : UInt8} {l : List UInt8} (h : EntAt D A x kd st ln l) (hx : x.name.length ≤ 31) (hd : A + 128 ≤ A' ∨ A' + 128 ≤ A) (hn : y.name.length ≤ 31) (hA : A' + 128 ≤ D) :
    EntAt D A x kd st ln (entF A' y kd' st' ln' (nameF A' y l)) := by
  have hc := x.h16
  have hs := x.h4
  have K : ∀ (o : Nat) (c : List UInt8), A ≤ o → o + c.length ≤ A + 128 → Holds D o c l → Holds D o c (entF A' y kd' st' ln' (nameF A' y l)) := fun o c h1 h2 h =>
    entF_other (nameF_other h om_ hn hA) om_ hA
  exact ⟨fun j hj => K _ _ (by omega) (by rw [length_le]; omega) (h.name j hj), K _ _ (by omega) (by rw [length_le]; omega) h.nl, K _ _ (by omega) (by simp) h.kd, fun j hj => K _ _ (by omega) (by rw [length_le]; omega) (h.lnk j hj),
    K _ _ om_ om_ h.cls, K _ _ om_ om_ h.state, K _ _ om_ (by rw [length_le]; omega) h.cr, K _ _ om_ (by rw [length_le]; omega) h.mo, K _ _ om_ (by rw [length_le]; omega) h.st, K _ _ om_ (by rw [length_le]; omega) h.ln⟩
theorem ent_make {D A st ln : Nat} {x : Nd} {kd : UInt8} {l : List UInt8} (hl : l.length = D) (hfree : ∀ j, j < 3 → Holds D (A + 68 + 4 * j) (le FREE 4) l) (hn : x.name.length ≤ 31) (hA : A + 128 ≤ D) : EntAt D A x kd st ln (entF A x kd st ln (nameF A x l)) := by
  have hc := x.h16
  have hs := x.h4
  have l1 := length_nameF A x l om_ hn
  have n0 : ∀ j, j < x.name.length → Holds D (A + 2 * j) (le (x.name.getD j 0).toNat 2) (nameF A x l) := fun j hj => put_other (nameTo_self hl hj om_) (by rw [length_le]; omega) om_
  have n1 : Holds D (A + 64) (le (2 * x.name.length + 2) 2) (nameF A x l) := put_self (by rw [length_nameTo _ _ _ _ om_]; exact hl) om_
  have n2 : ∀ j, j < 3 → Holds D (A + 68 + 4 * j) (le FREE 4) (nameF A x l) := fun j hj => nameF_other (hfree j hj) om_ hn hA
  rw [hl] at l1
  unfold entF
  generalize nameF A x l = y at l1 n0 n1 n2
  have s1 : ((y.set (A + 66) kd).set (A + 67) 1).length = D := by simp [l1]
  have k66 : Holds D (A + 66) [kd] ((y.set (A + 66) kd).set (A + 67) 1) := set_other (set_self l1 om_) (by simp)
  have t0 : ∀ (o : Nat) (c : List UInt8), o + c.length ≤ A + 66 ∨ A + 68 ≤ o → Holds D o c y → Holds D o c ((y.set (A + 66) kd).set (A + 67) 1) := fun o c hd h => set_other (set_other h om_) om_
  have p0 := fun j hj => t0 _ _ (by rw [length_le]; omega) (n0 j hj)
  have p1 := t0 _ _ (by rw [length_le]; omega) n1
  have p2 := fun j hj => t0 _ _ (by rw [length_le]; omega) (n2 j hj)
  generalize (y.set (A + 66) kd).set (A + 67) 1 = z at s1 k66 p0 p1 p2
  have s2 : (link3 A [x.left, x.right, x.child] 3 z).length = D := by rw [length_link3 _ _ _ _ om_]; exact s1
  have q0 := fun j hj => link3_other (A := A) (vs := [x.left, x.right, x.child]) (j := 3) (p0 j hj) (by rw [length_le]; omega) om_ hA
  have q1 := link3_other (A := A) (vs := [x.left, x.right, x.child]) (j := 3) p1 (by rw [length_le]; omega) om_ hA
  have q2 := link3_other (A := A) (vs := [x.left, x.right, x.child]) (j := 3) k66 (.inl (by simp)) om_ hA
  have q3 : ∀ j, j < 3 → Holds D (A + 68 + 4 * j) (le (lnkF ([x.left, x.right, x.child].getD j 0)) 4) (link3 A [x.left, x.right, x.child] 3 z) := fun j hj => link3_self (p2 j hj) hj om_ hA
  generalize link3 A [x.left, x.right, x.child] 3 z = u at s2 q0 q1 q2 q3
  have b1 := spl_self (N := D) (a := A + 80) (c := x.cls) s2 om_
  have b2 := spl_self (N := D) (a := A + 96) (c := x.state) b1.len om_
  have b3 := put_self (N := D) (a := A + 100) (n := x.created) (k := 8) b2.len om_
  have b4 := put_self (N := D) (a := A + 108) (n := x.modified) (k := 8) b3.len om_
  have b5 := put_self (N := D) (a := A + 116) (n := st) (k := 4) b4.len om_
  have b6 := put_self (N := D) (a := A + 120) (n := ln) (k := 8) b5.len om_
  have T : ∀ (o : Nat) (c : List UInt8), o + c.length ≤ A + 80 → Holds D o c u → Holds D o c (putF (A + 120) ln 8 (putF (A + 116) st 4 (putF (A + 108) x.modified 8 (putF (A + 100) x.created 8 (spl (A + 96) x.state (spl (A + 80) x.cls u)))))) := fun o c hd h =>
    put_other (put_other (put_other (put_other (spl_other (spl_other h om_ om_) om_ om_) om_ om_) om_ om_) om_ om_) om_ om_
  refine ⟨fun j hj => T _ _ (by rw [length_le]; omega) (q0 j hj), T _ _ (by rw [length_le]; omega) q1, T _ _ (by simp) q2, fun j hj => T _ _ (by rw [length_le]; omega) (q3 j hj), ?_, ?_, ?_, ?_, ?_, b6⟩
  · exact put_other (put_other (put_other (put_other (spl_other b1 om_ om_) om_ om_) om_ om_) om_ om_) om_ om_
  · exact put_other (put_other (put_other (put_other b2 om_ om_) om_ om_) om_ om_) om_ om_
  · exact put_other (put_other (put_other b3 (by rw [length_le]; omega) om_) (by rw [length_le]; omega) om_) (by rw [length_le]; omega) om_
  · exact put_other (put_other b4 (by rw [length_le]; omega) om_) (by rw [length_le]; omega) om_
  exact put_other b5 (by rw [length_le]; omega) om_
structure EmpAt (D A : Nat) (l : List UInt8) : Prop where
  kd : Holds D (A + 64) (List.replicate 4 0) l
  st : Holds D (A + 80) (List.replicate 48 0) l
  lnk : ∀ j, j < 3 → Holds D (A + 68 + 4 * j) (le FREE 4) l
theorem EmpAt.keep {D A A' st' ln' : Nat} {y : Nd} {kd' : UInt8} {l : List UInt8} (h : EmpAt D A l) (hd : A + 128 ≤ A' ∨ A' + 128 ≤ A) (hn : y.name.length ≤ 31) (hA : A' + 128 ≤ D) :
    EmpAt D A (entF A' y kd' st' ln' (nameF A' y l)) := by
  have K : ∀ (o : Nat) (c : List UInt8), A ≤ o → o + c.length ≤ A + 128 → Holds D o c l → Holds D o c (entF A' y kd' st' ln' (nameF A' y l)) := fun o c h1 h2 h =>
    entF_other (nameF_other h om_ hn hA) om_ hA
  exact ⟨K _ _ om_ (by simp) h.kd, K _ _ om_ (by simp) h.st, fun j hj => K _ _ om_ (by rw [length_le]; omega) (h.lnk j hj)⟩
theorem dir3_other {D k j o : Nat} {c l : List UInt8} (h : Holds D o c l) (hd : o + c.length ≤ 128 * k + 68 ∨ 128 * k + 80 ≤ o) (hj : j ≤ 3) (hA : 128 * k + 128 ≤ D) : Holds D o c (dir3 k j l) :=
  iter_keep _ j l h (fun i l' hi h' => put_other h' om_ om_)
theorem dirTo_free {D K k j : Nat} {l : List UInt8} (hl : l.length = D) (hk : k < K) (hj : j < 3) (hA : 128 * K ≤ D) : Holds D (128 * k + 68 + 4 * j) (le FREE 4) (dirTo K l) := by
  refine iter_make (I := fun l => l.length = D) _ k K l hk hl (fun q l' hq h' => ?_) (fun l' h' => ?_) (fun q l' h1 h2 h' => ?_)
  · rw [length_dir3 _ _ _ om_ om_]; exact h'
  · exact iter_make (I := fun l => l.length = D) _ j 3 l' hj h' (fun q l2 hq h2 => by rw [length_putF om_]; exact h2) (fun l2 h2 => put_self h2 om_)
      (fun q l2 h1 h2 h3 => put_other h3 (.inl (by rw [length_le]; omega)) om_)
  exact dir3_other h' (.inl (by rw [length_le]; omega)) om_ om_
theorem dirTo_other {D K o : Nat} {c l : List UInt8} (h : Holds D o c l) (hd : ∀ k, k < K → o + c.length ≤ 128 * k + 68 ∨ 128 * k + 80 ≤ o) (hA : 128 * K ≤ D) : Holds D o c (dirTo K l) :=
  iter_keep _ K l h (fun i l' hi h' => dir3_other h' (hd i hi) om_ om_)
def kdF (xs : List Nd) (k : Nat) : UInt8 := if k = 0 then 5 else if (xs.getD k default).stream = true then 2 else 1
def stF (v st : Nat) (xs : List Nd) (k : Nat) : Nat := if k = 0 then (chF v st xs).outs.getD 2 0 else if (xs.getD k default).stream = true then (if (xs.getD k default).data.length < 4096 then (mchF v st xs).outs.getD k 0 else (chF v st xs).outs.getD (3 + k) 0) else 0
def lnF (xs : List Nd) (k : Nat) : Nat := if k = 0 then 64 * miF xs else if (xs.getD k default).stream = true then (xs.getD k default).data.length else 0
section
variable {v st : Nat} {xs : List Nd}
theorem swF_is (k : Nat) (wl ol : List UInt8) : let s := swF k (miF xs) (sizeF v) (chF v st xs).outs (mchF v st xs).outs (chF v st xs).table (mchF v st xs).table (xs.getD k default) wl ol
    s.1 = kdF xs k ∧ s.2.1 = stF v st xs k ∧ s.2.2.1 = lnF xs k := by
  unfold swF kdF stF lnF
  split
  · exact ⟨rfl, rfl, rfl⟩
  split
  · split <;> exact ⟨rfl, rfl, rfl⟩
  exact ⟨rfl, rfl, rfl⟩
theorem nTo_dir (k : Nat) : (nTo v st xs (k + 1)).1 = entF (128 * k) (xs.getD k default) (kdF xs k) (stF v st xs k) (lnF xs k) (nameF (128 * k) (xs.getD k default) (nTo v st xs k).1) := by
  obtain ⟨h1, h2, h3⟩ := swF_is (v := v) (st := st) (xs := xs) k (nTo v st xs k).2.1 (nTo v st xs k).2.2
  rw [← h1, ← h2, ← h3]
  rfl
theorem name_at (hn : ∀ x ∈ xs, x.name.length ≤ 31) {k : Nat} (hk : k < xs.length) : (xs.getD k default).name.length ≤ 31 := by
  rw [List.getD_eq_getElem?_getD, List.getElem?_eq_getElem hk]; exact hn _ (List.getElem_mem _)
theorem dir_sz (h : Ok xs) : dsF v xs * sizeF v / 128 * 128 = dsF v xs * sizeF v := by
  have := size_ge v
  rcases sizeF_or v with e | e <;> rw [e] <;> omega
theorem dir_free (h : Ok xs) {k j : Nat} (hk : k < xs.length) (hj : j < 3) : Holds (dsF v xs * sizeF v) (128 * k + 68 + 4 * j) (le FREE 4) (dir0F v xs) := by
  have hd := dsF_le (v := v) h
  have hz := dir_sz (v := v) h
  exact dirTo_free (by simp) om_ hj om_
theorem nTo_ents (h : Ok xs) (hn : ∀ x ∈ xs, x.name.length ≤ 31) : ∀ m, m ≤ xs.length →
    (∀ k, k < m → EntAt (dsF v xs * sizeF v) (128 * k) (xs.getD k default) (kdF xs k) (stF v st xs k) (lnF xs k) (nTo v st xs m).1) ∧
    (∀ k, m ≤ k → k < xs.length → ∀ j, j < 3 → Holds (dsF v xs * sizeF v) (128 * k + 68 + 4 * j) (le FREE 4) (nTo v st xs m).1) ∧
    (∀ k, xs.length ≤ k → k < dsF v xs * sizeF v / 128 → EmpAt (dsF v xs * sizeF v) (128 * k) (nTo v st xs m).1) := by
  have hd := dsF_le (v := v) h
  have hz := dir_sz (v := v) h
  intro m
  induction m with
  | zero =>
    intro _
    refine ⟨fun k hk => by omega, fun k _ hk j hj => dir_free h hk hj, fun k _ hk => ⟨?_, ?_, fun j hj => dirTo_free (by simp) hk hj om_⟩⟩
    · exact dirTo_other (Holds.zeros om_) (fun q hq => by simp only [List.length_replicate]; omega) om_
    exact dirTo_other (Holds.zeros om_) (fun q hq => by simp only [List.length_replicate]; omega) om_
  | succ m ih =>
    intro hm
    obtain ⟨i1, i2, i3⟩ := ih om_
    have hnm := name_at hn (show m < xs.length by omega)
    have hl := (nTo_len (v := v) (st := st) h hn (show m ≤ xs.length by omega)).1
    rw [nTo_dir]
    refine ⟨fun k hk => ?_, fun k h1 h2 j hj => ?_, fun k h1 h2 => ?_⟩
    · by_cases e : k = m
      · subst e
        exact ent_make hl (i2 k (Nat.le_refl _) om_) hnm om_
      exact (i1 k om_).keep (name_at hn om_) om_ hnm om_
    · exact entF_other (nameF_other (i2 k om_ h2 j hj) (by rw [length_le]; omega) hnm om_) (by rw [length_le]; omega) om_
    exact (i3 k h1 h2).keep om_ hnm om_
theorem dir_ent (h : Ok xs) (hn : ∀ x ∈ xs, x.name.length ≤ 31) {k : Nat} (hk : k < xs.length) : EntAt (dsF v xs * sizeF v) (128 * k) (xs.getD k default) (kdF xs k) (stF v st xs k) (lnF xs k) (ndsF v st xs).1 := (nTo_ents h hn xs.length (Nat.le_refl _)).1 k hk
theorem dir_emp (h : Ok xs) (hn : ∀ x ∈ xs, x.name.length ≤ 31) {k : Nat} (hk : xs.length ≤ k) (hk2 : k < dsF v xs * sizeF v / 128) : EmpAt (dsF v xs * sizeF v) (128 * k) (ndsF v st xs).1 := (nTo_ents h hn xs.length (Nat.le_refl _)).2.2 k hk hk2
theorem Holds.window {N o a n : Nat} {c l : List UInt8} (h : Holds N o c l) (h1 : a ≤ o) (h2 : o + c.length ≤ a + n) (h3 : a + n ≤ N) : Holds n (o - a) c ((l.drop a).take n) := by
  refine ⟨by simp [h.len]; omega, by omega, ?_⟩
  intro i hi
  rw [List.getElem?_take, if_pos om_, List.getElem?_drop, show a + (o - a + i) = o + i by omega]
  exact h.at_ i hi
theorem Holds.window' {N o a n b : Nat} {c l : List UInt8} (h : Holds N o c l) (e : o = a + b) (h2 : b + c.length ≤ n) (h3 : a + n ≤ N) : Holds n b c ((l.drop a).take n) := by
  have := h.window (a := a) (n := n) om_ om_ h3
  rw [show o - a = b by omega] at this
  exact this
theorem EntAt.window {N A a b n st ln : Nat} {x : Nd} {kd : UInt8} {l : List UInt8} (h : EntAt N A x kd st ln l) (hx : x.name.length ≤ 31) (e : A = a + b) (h2 : b + 128 ≤ n) (h3 : a + n ≤ N) : EntAt n b x kd st ln ((l.drop a).take n) := by
  have hc := x.h16
  have hs := x.h4
  exact ⟨fun j hj => (h.name j hj).window' (by omega) (by rw [length_le]; omega) h3, h.nl.window' (by omega) (by rw [length_le]; omega) h3, h.kd.window' (by omega) (by simp only [List.length_singleton]; omega) h3, fun j hj => (h.lnk j hj).window' (by omega) (by rw [length_le]; omega) h3,
    h.cls.window' om_ om_ h3, h.state.window' om_ om_ h3, h.cr.window' om_ (by rw [length_le]; omega) h3, h.mo.window' om_ (by rw [length_le]; omega) h3, h.st.window' om_ (by rw [length_le]; omega) h3, h.ln.window' om_ (by rw [length_le]; omega) h3⟩
theorem EmpAt.window {N A a b n : Nat} {l : List UInt8} (h : EmpAt N A l) (e : A = a + b) (h2 : b + 128 ≤ n) (h3 : a + n ≤ N) : EmpAt n b ((l.drop a).take n) :=
  ⟨h.kd.window' om_ (by simp only [List.length_replicate]; omega) h3, h.st.window' om_ (by simp only [List.length_replicate]; omega) h3, fun j hj => (h.lnk j hj).window' om_ (by rw [length_le]; omega) h3⟩
theorem dirX (h : Ok xs) (hn : ∀ x ∈ xs, x.name.length ≤ 31) {j : Nat} (hj : j < dsF v xs) : ((writeF v st xs).drop (((plF v st xs).getD (ixF v xs 0 j) 0 + 1) * sizeF v)).take (sizeF v) = ((ndsF v st xs).1.drop (j * sizeF v)).take (sizeF v) := by
  have hl := (nTo_len (v := v) (st := st) h hn (Nat.le_refl _)).1
  rw [nTo_all] at hl
  have hle : j * sizeF v + sizeF v ≤ dsF v xs * sizeF v := by rw [← Nat.succ_mul]; exact Nat.mul_le_mul_right _ hj
  have h1 := (write_dir (v := v) (st := st) h hn hj).cut' (n := sizeF v) (by simp [hl]; omega)
  rw [← h1]
  unfold seF
  rw [Nat.mul_comm, Nat.add_comm 1]
theorem ent_X (h : Ok xs) (hn : ∀ x ∈ xs, x.name.length ≤ 31) {j i k : Nat} (hj : j < dsF v xs) (hi : i < sizeF v / 128) (hk : k = j * (sizeF v / 128) + i) (hkl : k < xs.length) :
    EntAt (sizeF v) (i * 128) (xs.getD k default) (kdF xs k) (stF v st xs k) (lnF xs k) (((ndsF v st xs).1.drop (j * sizeF v)).take (sizeF v)) := by
  have hz : sizeF v / 128 * 128 = sizeF v := by rcases sizeF_or v with e | e <;> rw [e]
  have hle : j * sizeF v + sizeF v ≤ dsF v xs * sizeF v := by rw [← Nat.succ_mul]; exact Nat.mul_le_mul_right _ hj
  have e1 : j * sizeF v = j * (sizeF v / 128) * 128 := by rw [Nat.mul_assoc, hz]
  refine (dir_ent (v := v) (st := st) h hn hkl).window (name_at hn hkl) ?_ om_ hle
  rw [hk, e1]; omega
theorem emp_X (h : Ok xs) (hn : ∀ x ∈ xs, x.name.length ≤ 31) {j i k : Nat} (hj : j < dsF v xs) (hi : i < sizeF v / 128) (hk : k = j * (sizeF v / 128) + i) (hkl : xs.length ≤ k) :
    EmpAt (sizeF v) (i * 128) (((ndsF v st xs).1.drop (j * sizeF v)).take (sizeF v)) := by
  have hz : sizeF v / 128 * 128 = sizeF v := by rcases sizeF_or v with e | e <;> rw [e]
  have hle : j * sizeF v + sizeF v ≤ dsF v xs * sizeF v := by rw [← Nat.succ_mul]; exact Nat.mul_le_mul_right _ hj
  have e1 : j * sizeF v = j * (sizeF v / 128) * 128 := by rw [Nat.mul_assoc, hz]
  have hd := dir_sz (v := v) h
  refine (dir_emp (v := v) (st := st) h hn hkl ?_).window ?_ om_ hle
  · rw [hk]; omega
  rw [hk, e1]; omega
def snF (v st : Nat) (xs : List Nd) (i : Nat) : List Nat := (List.range ((csF v xs).getD i 0)).map fun k => (plF v st xs).getD (ixF v xs i k) 0
theorem length_snF (i : Nat) : (snF v st xs i).length = (csF v xs).getD i 0 := by simp [snF]
theorem snF_at {i k : Nat} (hk : k < (csF v xs).getD i 0) : (snF v st xs i).getD k 0 = (plF v st xs).getD (ixF v xs i k) 0 := by
  unfold snF
  rw [List.getD_eq_getElem?_getD, List.getElem?_map, List.getElem?_range hk]; rfl
theorem snF_nodup (h : Ok xs) {i : Nat} (hi : i < xs.length + 3) : (snF v st xs i).Nodup := by
  unfold snF
  rw [List.Nodup, List.pairwise_map]
  refine List.Pairwise.imp_of_mem ?_ (List.nodup_range (n := (csF v xs).getD i 0))
  intro a b ha hb hne e
  have ha' := List.mem_range.1 ha
  have hb' := List.mem_range.1 hb
  exact hne (ix_ne hi hi ha' hb' (pl_inj h (ix_lt h hi ha') (ix_lt h hi hb') e)).2
theorem sn_lt (h : Ok xs) {i k : Nat} (hi : i < xs.length + 3) (hk : k < (csF v xs).getD i 0) : (plF v st xs).getD (ixF v xs i k) 0 < TF v xs := getD_lt (pl_lt h) (by rw [length_plF h]; exact ix_lt h hi hk)
theorem sn_next (h : Ok xs) {i k : Nat} (hi : i < xs.length + 3) (hk : k < (csF v xs).getD i 0) : (chF v st xs).table.getD ((plF v st xs).getD (ixF v xs i k) 0) 0 = if k + 1 < (csF v xs).getD i 0 then (plF v st xs).getD (ixF v xs i (k + 1)) 0 else CE := by
  have h1 : walkP (chF v st xs).table ((chF v st xs).outs.getD i 0) (k + 1) = (chF v st xs).table.getD ((plF v st xs).getD (ixF v xs i k) 0) 0 := by rw [walkP, walk_ix h hi hk]
  rw [← h1]
  split
  · rename_i h2; exact walk_ix h hi h2
  have hk1 : k + 1 = (csF v xs).getD i 0 := by omega
  rw [hk1]
  have hf := ftF_ok (v := v) h
  refine chain_end (mixedF_nodup _ _) (t := tbF v st xs) (from_ := ftF v xs) (cs := csF v xs) ?_ ?_ (by rw [length_csF]; exact hi)
  · intro x hx; have := pl_lt (v := v) (st := st) h x hx; simp [tbF]; omega
  show _ ≤ (plF v st xs).length; rw [length_plF h]; unfold TF; omega
theorem out_start (h : Ok xs) {i : Nat} (hi : i < xs.length + 3) : (chF v st xs).outs.getD i 0 = if (csF v xs).getD i 0 = 0 then CE else (plF v st xs).getD (ixF v xs i 0) 0 := by
  split
  · rename_i h0
    have hf := ftF_ok (v := v) h
    have := chain_end (pl := plF v st xs) (mixedF_nodup _ _) (t := tbF v st xs) (from_ := ftF v xs) (cs := csF v xs) (i := i) (by intro x hx; have := pl_lt (v := v) (st := st) h x hx; simp [tbF]; omega) (by rw [length_plF h]; unfold TF; omega) (by rw [length_csF]; exact hi)
    rw [h0] at this
    exact this
  rename_i h0
  have := walk_ix (st := st) h hi (show 0 < (csF v xs).getD i 0 by omega)
  exact this
theorem fat_at (h : Ok xs) (hn : ∀ x ∈ xs, x.name.length ≤ 31) {sn : Nat} (hsn : sn < TF v xs) :
    sn / perF v < ftF v xs ∧ (plF v st xs).getD (sn / perF v) 0 < TF v xs ∧ Holds (NF v xs) (((plF v st xs).getD (sn / perF v) 0 + 1) * sizeF v + sn % perF v * 4) (le ((chF v st xs).table.getD sn 0) 4) (writeF v st xs) := by
  have hp : 128 ≤ perF v := by have := per4 v; have := size_ge v; omega
  have hf := ftF_ok (v := v) h
  have h1 : sn / perF v < ftF v xs := (Nat.div_lt_iff_lt_mul om_).2 om_
  refine ⟨h1, getD_lt (pl_lt h) (by rw [length_plF h]; unfold TF; omega), ?_⟩
  have h2 := write_fat (v := v) (st := st) h hn h1 (Nat.mod_lt sn (show 0 < perF v by omega))
  have e1 : sn / perF v * perF v + sn % perF v = sn := by rw [Nat.mul_comm]; exact Nat.div_add_mod _ _
  rw [e1] at h2
  unfold seF at h2
  rw [Nat.mul_comm (sizeF v), Nat.add_comm 1, Nat.mul_comm 4] at h2
  exact h2
end

end Cfb

namespace Go.Proofs.YtgoddcicbpjknaaDoor
open Go
open Cfb

section
variable (X : List UInt8) (off : Nat)
theorem d12 (h : off + 128 ≤ X.length) {i : Nat} (hi : i < 61) : (de12F X off)[i]? = (de11F X off)[i]? := by
  rw [de12F, getElem?_spl (by rw [length_de11F]; simp; omega), if_pos hi]
theorem d11 {i : Nat} (hi : i ≠ 60) : (de11F X off)[i]? = (de10F X off)[i]? := by rw [de11F, List.getElem?_set_ne om_]
theorem d10 {i : Nat} (hi : i ≠ 59) : (de10F X off)[i]? = (de9F X off)[i]? := by rw [de10F, List.getElem?_set_ne om_]
theorem d9 {i : Nat} (hi : i ≠ 58) : (de9F X off)[i]? = (de8F X off)[i]? := by rw [de9F, List.getElem?_set_ne om_]
theorem d8 {i : Nat} (hi : i < 54) : (de8F X off)[i]? = (de7F X off)[i]? := by
  rw [de8F, getElem?_spl (by rw [length_de7F]; simp; omega), if_pos hi]
theorem d7 {i : Nat} (hi : i < 38) : (de7F X off)[i]? = (de6F X off)[i]? := by
  rw [de7F, getElem?_spl (by rw [length_de6F]; simp; omega), if_pos hi]
theorem d6 {i : Nat} (hi : i ≠ 37) : (de6F X off)[i]? = (de5F X off)[i]? := by rw [de6F, List.getElem?_set_ne om_]
theorem d5 {i : Nat} (hi : i ≠ 36) : (de5F X off)[i]? = (de4F X off)[i]? := by rw [de5F, List.getElem?_set_ne om_]
theorem d4 {i : Nat} (hi : i ≠ 35) : (de4F X off)[i]? = (de3F X off)[i]? := by rw [de4F, List.getElem?_set_ne om_]
theorem d3 {i : Nat} (hi : i ≠ 34) : (de3F X off)[i]? = (de2F X off)[i]? := by rw [de3F, List.getElem?_set_ne om_]
theorem d2 {i : Nat} (hi : i ≠ 33) : (de2F X off)[i]? = (de1F X off)[i]? := by rw [de2F, List.getElem?_set_ne om_]
theorem d1 {i : Nat} (hi : i ≠ 32) : (de1F X off)[i]? = (rawF X off 32)[i]? := by rw [de1F, List.getElem?_set_ne om_]
theorem raw_at {j : Nat} : ∀ k, j < k → k ≤ 32 → (rawF X off k)[j]? = some (.int .u16 ((num ((X.drop (off + 2 * j)).take 2) : Nat) : Int)) := by
  intro k
  induction k with
  | zero => intro h; omega
  | succ k ih =>
    intro h hk
    show ((rawF X off k).set k _)[j]? = _
    by_cases e : j = k
    · subst e
      rw [List.getElem?_set_self (by rw [length_rawF]; omega)]
    rw [List.getElem?_set_ne om_]
    exact ih om_ om_
end
theorem de_raw (X : List UInt8) (off : Nat) (h : off + 128 ≤ X.length) {j : Nat} (hj : j < 32) : (de12F X off)[j]? = some (.int .u16 ((num ((X.drop (off + 2 * j)).take 2) : Nat) : Int)) := by
  rw [d12 X off h om_, d11 _ _ om_, d10 _ _ om_, d9 _ _ om_, d8 _ _ om_, d7 _ _ om_, d6 _ _ om_, d5 _ _ om_, d4 _ _ om_, d3 _ _ om_, d2 _ _ om_, d1 _ _ om_, raw_at _ _ 32 hj om_]
theorem de_nl (X : List UInt8) (off : Nat) (h : off + 128 ≤ X.length) : (de12F X off)[32]? = some (.int .u16 ((num ((X.drop (off + 64)).take 2) : Nat) : Int)) := by
  rw [d12 X off h om_, d11 _ _ om_, d10 _ _ om_, d9 _ _ om_, d8 _ _ om_, d7 _ _ om_, d6 _ _ om_, d5 _ _ om_, d4 _ _ om_, d3 _ _ om_, d2 _ _ om_, de1F, List.getElem?_set_self (by rw [length_rawF]; omega)]
theorem de_ot (X : List UInt8) (off : Nat) (h : off + 128 ≤ X.length) : (de12F X off)[33]? = some (bv (X.getD (off + 66) 0)) := by
  rw [d12 X off h om_, d11 _ _ om_, d10 _ _ om_, d9 _ _ om_, d8 _ _ om_, d7 _ _ om_, d6 _ _ om_, d5 _ _ om_, d4 _ _ om_, d3 _ _ om_, de2F, List.getElem?_set_self (by rw [length_de1F]; omega)]
theorem de_left (X : List UInt8) (off : Nat) (h : off + 128 ≤ X.length) : (de12F X off)[35]? = some (uv (num ((X.drop (off + 68)).take 4))) := by
  rw [d12 X off h om_, d11 _ _ om_, d10 _ _ om_, d9 _ _ om_, d8 _ _ om_, d7 _ _ om_, d6 _ _ om_, d5 _ _ om_, de4F, List.getElem?_set_self (by rw [length_de3F]; omega)]; rfl
theorem de_right (X : List UInt8) (off : Nat) (h : off + 128 ≤ X.length) : (de12F X off)[36]? = some (uv (num ((X.drop (off + 72)).take 4))) := by
  rw [d12 X off h om_, d11 _ _ om_, d10 _ _ om_, d9 _ _ om_, d8 _ _ om_, d7 _ _ om_, d6 _ _ om_, de5F, List.getElem?_set_self (by rw [length_de4F]; omega)]; rfl
theorem de_child (X : List UInt8) (off : Nat) (h : off + 128 ≤ X.length) : (de12F X off)[37]? = some (uv (num ((X.drop (off + 76)).take 4))) := by
  rw [d12 X off h om_, d11 _ _ om_, d10 _ _ om_, d9 _ _ om_, d8 _ _ om_, d7 _ _ om_, de6F, List.getElem?_set_self (by rw [length_de5F]; omega)]; rfl
theorem de_cls (X : List UInt8) (off : Nat) (h : off + 128 ≤ X.length) {j : Nat} (hj : j < 16) : (de12F X off)[38 + j]? = some (bv (X.getD (off + 80 + j) 0)) := by
  rw [d12 X off h om_, d11 _ _ om_, d10 _ _ om_, d9 _ _ om_, d8 _ _ om_, de7F, getElem?_spl (by rw [length_de6F]; simp; omega), if_neg om_, if_pos (by simp; omega), show 38 + j - 38 = j by omega, ats _ (by simp; omega), gdt _ _ hj]
theorem de_state (X : List UInt8) (off : Nat) (h : off + 128 ≤ X.length) {j : Nat} (hj : j < 4) : (de12F X off)[54 + j]? = some (bv (X.getD (off + 96 + j) 0)) := by
  rw [d12 X off h om_, d11 _ _ om_, d10 _ _ om_, d9 _ _ om_, de8F, getElem?_spl (by rw [length_de7F]; simp; omega), if_neg om_, if_pos (by simp; omega), show 54 + j - 54 = j by omega, ats _ (by simp; omega), gdt _ _ hj]
theorem de_cr (X : List UInt8) (off : Nat) (h : off + 128 ≤ X.length) : (de12F X off)[58]? = some (.int .u64 ((num ((X.drop (off + 100)).take 8) : Nat) : Int)) := by
  rw [d12 X off h om_, d11 _ _ om_, d10 _ _ om_, de9F, List.getElem?_set_self (by rw [length_de8F]; omega)]
theorem de_mo (X : List UInt8) (off : Nat) (h : off + 128 ≤ X.length) : (de12F X off)[59]? = some (.int .u64 ((num ((X.drop (off + 108)).take 8) : Nat) : Int)) := by
  rw [d12 X off h om_, d11 _ _ om_, de10F, List.getElem?_set_self (by rw [length_de9F]; omega)]
theorem de_st (X : List UInt8) (off : Nat) (h : off + 128 ≤ X.length) : (de12F X off)[60]? = some (uv (num ((X.drop (off + 116)).take 4))) := by
  rw [d12 X off h om_, de11F, List.getElem?_set_self (by rw [length_de10F]; omega)]; rfl
theorem de_sz (X : List UInt8) (off : Nat) (h : off + 128 ≤ X.length) {j : Nat} (hj : j < 8) : (de12F X off)[61 + j]? = some (bv (X.getD (off + 120 + j) 0)) := by
  rw [de12F, getElem?_spl (by rw [length_de11F]; simp; omega), if_neg om_, if_pos (by simp; omega), show 61 + j - 61 = j by omega, ats _ (by simp; omega), gdt _ _ hj]
/-! ### files -/
structure En where
  nm : List UInt8
  ini : Nat
  path : Value
  size : Int
  pos : Int
  cur : Nat
  rem : Int
  dc : List Value
instance : Inhabited En := ⟨⟨[], 0, .nilIface, 0, 0, 0, 0, []⟩⟩
structure Fil where
  bf : Nat
  bd : Nat
  en : En
@[reducible] def enB (br bf bd : Nat) (e : En) : Nat × Obj := (bf, blk (fiF e.nm e.ini e.path e.size e.pos e.cur e.rem bd br) 93)
def filsH (br : Nat) : List Fil → Heap
  | [] => []
  | f :: r => enB br f.bf f.bd f.en :: (f.bd, blk f.en.dc 112) :: filsH br r
abbrev ptrs (fs : List Fil) : List Value := fs.map fun f => pv f.bf
theorem filsH_append (br : Nat) (a b : List Fil) : filsH br (a ++ b) = filsH br a ++ filsH br b := by
  induction a with
  | nil => rfl
  | cons f r ih => simp only [List.cons_append, filsH, ih]
theorem filsH_rev (br : Nat) (a : List Fil) : (filsH br a.reverse).Perm (filsH br a) := by
  induction a with
  | nil => exact .refl _
  | cons f r ih =>
    rw [List.reverse_cons, filsH_append]
    simp only [filsH]
    exact (List.perm_append_comm).trans ((ih.cons _).cons _)
theorem Ct.frame {P : Program} {f : FuncId} {args : List Value} {pre G : Heap} {R : Value → Heap → Prop} (h : Ct P f args pre R) : Ct P f args (pre ++ G) (fun v q => ∃ post, R v post ∧ q = post ++ G) := by
  intro E F w hh
  rw [List.append_assoc] at hh
  refine (h E (G ++ F) w hh).mono ?_
  rintro e w' ⟨v, post, he, hR, ha⟩
  exact ⟨v, post ++ G, he, ⟨post, hR, rfl⟩, by rw [List.append_assoc]; exact ha⟩
structure EnOk (ps : List Value) (ver : Nat) (X : List UInt8) (off : Nat) (e : En) : Prop where
  path : e.path = .slice none 0 0
  pos : e.pos = 0
  rem : e.rem = 0
  dc : e.dc = de12F X off
  cur : (de12F X off)[60]? = some (uv e.cur)
  size : ∃ (ot : UInt8) (S : List UInt8) (SZ : Nat), e.size = (SZ : Int) ∧ (de12F X off)[33]? = some (bv ot) ∧ S.length = 8 ∧ (∀ j, j < 8 → (de12F X off)[61 + j]? = some (bv (S.getD j 0))) ∧ num S < 9223372036854775808 ∧ SZ = if ot.toNat = 2 then (if 3 < ver then num S else num (S.take 4)) else 0
  name : (∃ nl, (de12F X off)[32]? = some (.int .u16 ((nl : Nat) : Int)) ∧ nl < 4 ∧ e.nm = [] ∧ e.ini = 0) ∨
    (∃ (nl : Nat) (cs : List Nat) (p c : Int), (de12F X off)[32]? = some (.int .u16 (nl : Int)) ∧ 4 ≤ nl ∧ nl ≤ 64 ∧ cs.length = nl / 2 - 1 ∧ (∀ j, j < nl / 2 - 1 → (de12F X off)[j]? = some (.int .u16 ((cs.getD j 0 : Nat) : Int))) ∧ (∀ x ∈ cs, x < 128) ∧
      ps[cs.getD 0 0]? = some (.int .u8 p) ∧ (∀ w, (Op.intBits .and .u8 p 128).run Tryd.prog w = .ok (.int .u8 c) w) ∧ e.nm = (cs.drop (if c = 0 then 1 else 0)).map UInt8.ofNat ∧ e.ini = cs.getD 0 0)
theorem fixFile_en {ps : List Value} {T : TypeId} {ver off bf bd br : Nat} {X : List UInt8} {e : En} (h : EnOk ps ver X off e) (hver : ver ≤ 4) :
    Ct Tryd.prog 59 [.int .u16 (ver : Int), pv bf] [(bf, blk (fiF [] 0 (.slice none 0 0) 0 0 0 0 bd br) 93), (bd, blk e.dc 112), (2, blk ps T)] (fun v q => v = .tuple #[] ∧ q = [(bf, blk (fiF e.nm e.ini (.slice none 0 0) e.size 0 0 0 bd br) 93), (bd, blk e.dc 112), (2, blk ps T)]) := by
  obtain ⟨ot, S, SZ, h1, h2, h3, h4, h5, h6⟩ := h.size
  rw [h1]
  have hd := h.dc
  refine fixFile_ct bf bd br 0 ver SZ 0 e.ini [] e.nm S ot (.slice none 0 0) 0 0 e.dc [(2, blk ps T)] (by rw [hd]; exact h2) h3 (by rw [hd]; exact h4) hver h5 h6 ?_
  rcases h.name with ⟨nl, n1, n2, n3, n4⟩ | ⟨nl, cs, p, c, n1, n2, n3, n4, n5, n6, n7, n8, n9, n10⟩
  · rw [n3, n4]
    refine ((fixName0_ct bf bd br 0 nl 0 [] (.slice none 0 0) 0 0 0 e.dc (by rw [hd]; exact n1) n2).frame (G := [(2, blk ps T)])).mono ?_
    rintro v q ⟨post, ⟨rfl, rfl⟩, rfl⟩
    exact ⟨rfl, rfl⟩
  rw [n9, n10]
  exact fixName_ct bf bd br 0 nl cs (.slice none 0 0) 0 0 0 p c e.dc ps T (by rw [hd]; exact n1) ⟨n2, n3⟩ n4 (by rw [hd]; exact n5) n6 n7 n8
section
variable {P : Program} {L : Fra} {dst : Option Tmp} {ty : TypeId} {pos : String} {aft : Array Edge} {gd : Option (Nat × Bool)}
theorem Yl_cutLO {x y : Operand} {t e : TypeId} {sz m c b off l o' m' c' : Nat} (hx : ev L x = some (.slice (some ⟨b, off, none⟩) m c)) (hy : ev L y = some (.int .i64 (l : Int)))
    (ht : slOf P t = some (e, sz)) (h1 : l ≤ m) (h3 : l < c) (e1 : off + l * sz = o') (e2 : m - l = m') (e3 : c - l = c') :
    Yl P L ⟨dst, .slice t x (some y) none none, ty, pos, aft, gd⟩ (.slice (some ⟨b, o', none⟩) m' c') := by
  have := Yl_cutLN (P := P) (dst := dst) (ty := ty) (pos := pos) (aft := aft) (gd := gd) hx hy ht h1
  rw [if_neg om_, e1, e2, e3] at this
  exact this
end

def snx (sns : List Nat) (j : Nat) : Nat := (sns ++ [4294967294]).getD j 0
theorem snx_end (sns : List Nat) {j : Nat} (h : j = sns.length) : snx sns j = 4294967294 := by subst h; simp [snx, List.getD_eq_getElem?_getD]
theorem snx_in (sns : List Nat) {j : Nat} (h : j < sns.length) : snx sns j = sns.getD j 0 := by simp [snx, List.getD_eq_getElem?_getD, List.getElem?_append_left h]
structure ChOk (B : List UInt8) (N ss : Nat) (hc : List Value) (sns : List Nat) : Prop where
 nodup : sns.Nodup
 small : ∀ j, j < sns.length → snx sns j ≤ 1000000
 fit : ∀ j, j < sns.length → (snx sns j + 1) * ss + ss ≤ N
 next : ∀ j, j < sns.length → ∃ sect o, hc[45 + snx sns j / (ss / 4)]? = some (uv sect) ∧ snx sns j / (ss / 4) < 109 ∧ sect ≤ 1000000 ∧ o = (sect + 1) * ss + snx sns j % (ss / 4) * 4 ∧ o + 4 ≤ N ∧ num ((B.drop o).take 4) = snx sns (j + 1)
theorem ChOk.ne {B : List UInt8} {N ss : Nat} {hc : List Value} {sns : List Nat} (h : ChOk B N ss hc sns) {i j : Nat} (hi : i < sns.length) (hj : j ≤ sns.length) (hne : i ≠ j) : snx sns i ≠ snx sns j := by
 intro e
 rcases Nat.lt_or_ge j sns.length with hl | hl
 ·rw [snx_in _ hi, snx_in _ hl] at e
  exact hne (nodup_getD h.nodup hi hl e)
 rw [snx_end sns (show j = sns.length by omega)] at e
 have := h.small i hi
 omega
structure DrS where
 j : Nat
 g : Nat
 cap : Nat
 r : List Value
 rs : List Fil
 lb : List Value
 l : List (Int × Value × Nat)
 c : Nat
theorem setDirEntries_ct (br bh bhf bb bs bB ss ver nd num_ N cN : Nat) (B : List UInt8) (rB hc ps lb0 : List Value) (T : TypeId) (sns : List Nat) (es : List En) (file wa m1 m2 : Value) (hch : ChOk B N ss hc sns) (hK : 1 ≤ sns.length) (hver : hc[18]? = some (.int .u16 (ver : Int))) (hnd : hc[30]? = some (uv nd)) (hdl : hc[32]? = some (uv (snx sns 0))) (hv4 : ver ≤ 4) (hnd1 : nd ≤ 64000) (hss : 512 ≤ ss ∧ ss ≤ 4096) (hnum : num_ = ss / 128)
  (hes : es.length = sns.length * num_) (hn20 : es.length ≤ 100000) (hent : ∀ j, j < sns.length → ∀ i, i < num_ → EnOk ps ver ((B.drop ((snx sns j + 1) * ss)).take ss) (i * 128) (es.getD (j * num_ + i) default)) (hB : B.length = N) (hcN : N ≤ cN) (hN : N ≤ 1000000000) (hlb0 : lb0.length = ss) :
  Ct Tryd.prog 48 [pv br] [(br, blk (rdF bs ss (.slice (some ⟨bb, 0, none⟩) ss ss) (pv bh) file (.slice none 0 0) wa) 89), (bh, blk [pv bhf, .slice (some ⟨bhf, 45, none⟩) 109 109, m1, m2] 137), (bhf, blk hc 142), (bb, blk lb0 5), (bs, blk [.slice (some ⟨bB, 0, none⟩) N cN] 103), (bB, blk (bys B ++ rB) 5), (2, blk ps T)] (fun v q => v = .nilIface ∧ ∃ g cap r lb fs, fs.map Fil.en = es ∧ (ptrs fs ++ r).length = cap ∧ lb.length = ss ∧ q = ((br, blk (rdF bs ss (.slice (some ⟨bb, 0, none⟩) ss ss) (pv bh) file (.slice (some ⟨g, 0, none⟩) es.length cap) wa) 89) :: (bh, blk [pv bhf, .slice (some ⟨bhf, 45, none⟩) 109 109, m1, m2] 137) :: (bhf, blk hc 142) :: (bb, blk lb 5) :: (bs, blk [.slice (some ⟨bB, 0, none⟩) N cN] 103) :: (bB, blk (bys B ++ rB) 5) :: (2, blk ps T) :: (g, blk (ptrs fs ++ r) 90) :: filsH br fs)) := by
 have hd128 : num_ * 128 ≤ ss ∧ ss < num_ * 128 + 128 := by omega
 have hn4 : 4 ≤ num_ := by omega
 refine Ct_of Tryd.func48 rfl Tryd.ntmps48 rfl ?_
 intro E F
 simp only [numL, List.nil_append, List.cons_append]
 refine CW_sr ?_
 refine RW_a ?_
 refine RW_lv [0] ?_
 refine CW_sr ?_
 refine RW_a ?_
 refine RW_lv [0,3] ?_
 refine CW_cut (σ := Nat) (fun q => [(0, pv br), (3, nv q)]) (fun _ => (br, blk (rdF bs ss (.slice (some ⟨bb, 0, none⟩) ss ss) (pv bh) file (.slice none 0 0) wa) 89) :: (bh, blk [pv bhf, .slice (some ⟨bhf, 45, none⟩) 109 109, m1, m2] 137) :: (bhf, blk hc 142) :: (bb, blk lb0 5) :: (bs, blk [.slice (some ⟨bB, 0, none⟩) N cN] 103) :: (bB, blk (bys B ++ rB) 5) :: (2, blk ps T) :: F) (fun q => q ≤ 64000) ?_ ?_
 ·skip
  refine CW_sr ?_
  refine RW_m ?_
  refine RW_n ?_
  refine RW_f fo_89_3 ?_
  refine RW_h (Yh_ld (v := pv bh) sc_82) ?_
  refine RW_n ?_
  refine RW_f fo_137_0 ?_
  refine RW_h (Yh_ld (v := pv bhf) sc_134) ?_
  refine RW_n ?_
  refine RW_f fo_142_3 ?_
  refine RW_h (Yh_lh (v := .int .u16 (ver : Int)) sc_47 hver) ?_
  refine RW_l (Yl_gtr rfl rfl) ?_
  refine RW_m ?_
  refine RW_bool 24 rfl (fun hg1 => ?_) (fun hg1 => ?_)
  ·replace hg1 := of_decide_eq_true hg1
   refine RW_gy rfl rfl rfl (Yl.h (Yl_move rfl)) ?_
   refine RW_gy rfl rfl rfl (Yl.h (Yl_nilCheck rfl)) ?_
   refine RW_gy rfl rfl rfl (Yl.h (Yl_field rfl fo_89_3)) ?_
   refine RW_gy rfl rfl rfl (Yh_ld (v := pv bh) sc_82) ?_
   refine RW_gy rfl rfl rfl (Yl.h (Yl_nilCheck rfl)) ?_
   refine RW_gy rfl rfl rfl (Yl.h (Yl_field rfl fo_137_0)) ?_
   refine RW_gy rfl rfl rfl (Yh_ld (v := pv bhf) sc_134) ?_
   refine RW_gy rfl rfl rfl (Yl.h (Yl_nilCheck rfl)) ?_
   refine RW_gy rfl rfl rfl (Yl.h (Yl_field rfl fo_142_8)) ?_
   refine RW_gy rfl rfl rfl (Yh_lh (v := uv nd) sc_67 hnd) ?_
   refine RW_gy rfl rfl rfl (Yl.h (Yl_gtr rfl rfl)) ?_
   refine RW_l (Yl_pick_t rfl rfl) ?_
   refine RW_lv [0,3,36] ?_
   refine CW_cd rfl (fun hc2 => ?_) (fun hc2 => ?_)
   ·refine CW_sr ?_
    refine RW_m ?_
    refine RW_n ?_
    refine RW_f fo_89_3 ?_
    refine RW_h (Yh_ld (v := pv bh) sc_82) ?_
    refine RW_n ?_
    refine RW_f fo_137_0 ?_
    refine RW_h (Yh_ld (v := pv bhf) sc_134) ?_
    refine RW_n ?_
    refine RW_f fo_142_8 ?_
    refine RW_h (Yh_lh (v := uv nd) sc_67 hnd) ?_
    refine RW_l (Yl_gtr rfl rfl) ?_
    refine RW_lv [0,47] ?_
    refine CW_cd rfl (fun hc3 => ?_) (fun hc3 => ?_)
    ·exfalso; omega
    refine CW_region ?_
    refine RW_m ?_
    refine RW_n ?_
    refine RW_f fo_89_3 ?_
    refine RW_h (Yh_ld (v := pv bh) sc_82) ?_
    refine RW_n ?_
    refine RW_f fo_137_0 ?_
    refine RW_h (Yh_ld (v := pv bhf) sc_134) ?_
    refine RW_n ?_
    refine RW_f fo_142_8 ?_
    refine RW_h (Yh_lh (v := uv nd) sc_67 hnd) ?_
    refine RW_l (Yl_conv (c := (nd : Int)) rfl in_67 in_3 (wi64 om_ om_)) ?_
    refine RW_a ?_
    refine RW_nil ?_
    first
     | exact QW_cut nd (by omega) (by repeat (first | exact Prm.nil _ | exact Rem.here _ _ | apply Rem.there | apply Prm.cons)) (.cons rfl (.cons rfl .nil))
     | exact QW_cut 20 (by omega) (by repeat (first | exact Prm.nil _ | exact Rem.here _ _ | apply Rem.there | apply Prm.cons)) (.cons rfl (.cons rfl .nil))
   refine CW_skip ?_
   first
    | exact QW_cut nd (by omega) (by repeat (first | exact Prm.nil _ | exact Rem.here _ _ | apply Rem.there | apply Prm.cons)) (.cons rfl (.cons rfl .nil))
    | exact QW_cut 20 (by omega) (by repeat (first | exact Prm.nil _ | exact Rem.here _ _ | apply Rem.there | apply Prm.cons)) (.cons rfl (.cons rfl .nil))
  replace hg1 := of_decide_eq_false hg1
  refine RW_skip rfl rfl rfl ?_
  refine RW_skip rfl rfl rfl ?_
  refine RW_skip rfl rfl rfl ?_
  refine RW_skip rfl rfl rfl ?_
  refine RW_skip rfl rfl rfl ?_
  refine RW_skip rfl rfl rfl ?_
  refine RW_skip rfl rfl rfl ?_
  refine RW_skip rfl rfl rfl ?_
  refine RW_skip rfl rfl rfl ?_
  refine RW_skip rfl rfl rfl ?_
  refine RW_skip rfl rfl rfl ?_
  refine RW_l (Yl_pick_f rfl rfl) ?_
  refine RW_lv [0,3,36] ?_
  refine CW_false rfl ?_
  refine CW_skip ?_
  first
   | exact QW_cut nd (by omega) (by repeat (first | exact Prm.nil _ | exact Rem.here _ _ | apply Rem.there | apply Prm.cons)) (.cons rfl (.cons rfl .nil))
   | exact QW_cut 20 (by omega) (by repeat (first | exact Prm.nil _ | exact Rem.here _ _ | apply Rem.there | apply Prm.cons)) (.cons rfl (.cons rfl .nil))
 rintro cc hcc
 refine CW_sr ?_
 refine RW_m ?_
 refine RW_fx rfl rfl rfl (Fx_makeSlice (z0 := .pointer none) (m := 1) (l := 0) (c := (cc : Int)) rfl rfl sl_83 by_90 ze_90 rfl rfl om_ om_ om_ om_) ?_
 rintro _ _ ⟨g0, rfl, rfl⟩
 refine RW_a ?_
 refine RW_lv [0,4] ?_
 refine CW_sr ?_
 refine RW_fx rfl rfl rfl (Fx_makeMap .u32) ?_
 rintro _ _ ⟨bm, rfl, rfl⟩
 refine RW_a ?_
 refine RW_lv [0,4,5] ?_
 refine CW_sr ?_
 refine RW_m ?_
 refine RW_n ?_
 refine RW_f fo_89_1 ?_
 refine RW_h (Yh_ld (v := uv ss) sc_67) ?_
 refine RW_l (Yl_quo (c := (num_ : Int)) rfl rfl om_ (by rw [hnum]; exact quo32 (b := 128) om_)) ?_
 refine RW_l (Yl_conv (c := (num_ : Int)) rfl in_67 in_3 (wi64 om_ om_)) ?_
 refine RW_a ?_
 refine RW_lv [0,4,5,6] ?_
 refine CW_sr ?_
 refine RW_m ?_
 refine RW_n ?_
 refine RW_f fo_89_3 ?_
 refine RW_h (Yh_ld (v := pv bh) sc_82) ?_
 refine RW_n ?_
 refine RW_f fo_137_0 ?_
 refine RW_h (Yh_ld (v := pv bhf) sc_134) ?_
 refine RW_n ?_
 refine RW_f fo_142_10 ?_
 refine RW_h (Yh_lh (v := uv (snx sns 0)) sc_67 hdl) ?_
 refine RW_a ?_
 refine RW_lv [0,4,5,6,7] ?_
 refine CW_seq ?_
 refine CW_block ?_
 refine CW_loop (σ := DrS) (fun q => [(0, pv br), (4, .slice (some ⟨q.g, 0, none⟩) q.rs.length q.cap), (5, .map (some bm)), (6, nv num_), (7, uv (snx sns q.j))]) (fun q => (br, blk (rdF bs ss (.slice (some ⟨bb, 0, none⟩) ss ss) (pv bh) file (.slice none 0 0) wa) 89) :: (bh, blk [pv bhf, .slice (some ⟨bhf, 45, none⟩) 109 109, m1, m2] 137) :: (bhf, blk hc 142) :: (bb, blk q.lb 5) :: (bs, blk [.slice (some ⟨bB, 0, none⟩) N cN] 103) :: (bB, blk (bys B ++ rB) 5) :: (2, blk ps T) :: (bm, mobj .u32 q.l q.c) :: (q.g, blk (ptrs q.rs.reverse ++ q.r) 90) :: (filsH br q.rs ++ F)) (fun q => q.j ≤ sns.length ∧ q.rs.length = q.j * num_ ∧ q.rs.reverse.map Fil.en = es.take (q.j * num_) ∧ (ptrs q.rs.reverse ++ q.r).length = q.cap ∧ q.lb.length = ss ∧ (∀ p ∈ q.l, ∃ i, 1 ≤ i ∧ i ≤ q.j ∧ p.1 = ((snx sns i : Nat) : Int))) (fun q => sns.length - q.j) ⟨0, g0, cc, List.replicate cc (.pointer none), [], lb0, [], 0⟩ ⟨Nat.zero_le _, by simp, by simp, by simp, hlb0, by simp⟩ (by simp only [List.reverse_nil, List.map_nil, List.nil_append, filsH, Int.toNat_natCast, Nat.mul_one]; exact prm_) kp_ ?_
 rintro ⟨j, g, cap, r, rs, lb, l, c⟩ ⟨hj, hrl, hre, hl, hlb, hmap⟩
 simp only at hj hrl hre hl hlb hmap ⊢
 refine CW_seq ?_
 refine CW_sr ?_
 refine RW_m ?_
 refine RW_l (Yl_neq rfl rfl) ?_
 refine RW_lv [0,4,5,6,7,79] ?_
 refine CW_cd rfl (fun hc4 => ?_) (fun hc4 => ?_)
 ·have hjK : j < sns.length := by
   rcases Nat.lt_or_ge j sns.length with hh | hh
   ·exact hh
   exact absurd (by rw [snx_end sns (show j = sns.length by omega)]; rfl) hc4
  have hsm := hch.small j hjK
  have hft := hch.fit j hjK
  obtain ⟨sect, o, hsect, hs109, hse, ho, ho4, hnx⟩ := hch.next j hjK
  have hXl : ((B.drop ((snx sns j + 1) * ss)).take ss).length = ss := len_drop_take B _ ss om_
  refine (CW_skip (QW_lv [0,4,5,6,7] ?_))
  refine CW_block ?_
  refine CW_seq ?_
  refine CW_draw [12] _ mixed (Sub.refl _) ?_
  refine RD_m 0 ?_
  refine RD_m 1 ?_
  refine RD_n 2 ?_
  refine RD_f 3 fo_89_1 ?_
  refine RD_m 5 ?_
  refine RD_m 7 ?_
  refine RD_n 8 ?_
  refine RD_f 9 fo_89_1 ?_
  refine RD_h (i := 4) #[true, true, true, true, false, true, false, true, true, true, true, true, false, false, false, false, false, false] rfl rfl rfl rfl kr_ (fun _ _ _ h => h) (Yh_ld (v := uv ss) sc_67) ?_
  refine RD_h (i := 10) #[true, true, true, true, true, true, true, true, true, true, false, false, false, false, false, false, false, false] rfl rfl rfl rfl kr_ (fun _ _ _ h => h) (Yh_ld (v := uv ss) sc_67) ?_
  refine RD_l 11 rfl (Yl_conv (c := (ss : Int)) rfl in_67 in_3 (wi64 om_ om_)) ?_
  refine RD_o 6 ?_
  refine RO_fx rfl rfl rfl rfl (Fx_callQ ok_56 (vs := [uv ss, uv (snx sns j)]) rfl pk_ (fileOffset_ct ss (snx sns j) om_ om_ om_)) ?_
  rintro _ _ ⟨rfl, rfl⟩
  refine ⟨Or.inr (Sub.refl _), ?_⟩
  refine RD_o 12 ?_
  refine RO_fx rfl rfl rfl rfl (Fx_call ok_54 (vs := [pv br, nv ((snx sns j + 1) * ss), nv ss]) rfl pk_ (readAt_ct br bb bs bB ss ss ss N cN ((snx sns j + 1) * ss) B rB lb (rdF bs ss (.slice (some ⟨bb, 0, none⟩) ss ss) (pv bh) file (.slice none 0 0) wa) 5 rfl rfl rfl hB hcN hN om_ om_ om_ om_ om_)) ?_
  rintro _ _ ⟨_, ⟨rfl, rfl⟩, rfl⟩
  rw [spl_full _ _ (by rw [List.length_map, hXl, hlb])]
  refine ⟨Or.inl kr_, ?_⟩
  refine RD_m 13 ?_
  refine RD_l 14 rfl (Yl_extract rfl rfl) ?_
  refine RD_l 15 rfl (Yl_extract rfl rfl) ?_
  refine RD_a 16 ?_
  refine RD_a 17 ?_
  refine (RD_done kr_ (QW_lv [0,4,5,6,7,8,9] ?_))
  refine CW_seq ?_
  refine CW_sr ?_
  refine RW_m ?_
  refine RW_l (Yl_ifNeNil rfl if_105) ?_
  refine RW_lv [0,4,5,6,7,8,9,97] ?_
  refine CW_cond rfl (fun hc5 => ?_) (fun hc5 => ?_)
  ·skip
   exact absurd hc5 (by decide)
  skip
  refine (CW_skip (QW_lv [0,4,5,6,7,8] ?_))
  refine CW_seq ?_
  refine CW_sr ?_
  refine RW_a ?_
  refine RW_lv [0,4,5,6,7,8,10] ?_
  refine CW_block ?_
  refine CW_lp (σ := DrS) (fun q => [(0, pv br), (4, .slice (some ⟨q.g, 0, none⟩) q.rs.length q.cap), (5, .map (some bm)), (6, nv num_), (7, uv (snx sns j)), (8, .slice (some ⟨bb, 0, none⟩) ss ss), (10, nv q.j)]) (fun q => (br, blk (rdF bs ss (.slice (some ⟨bb, 0, none⟩) ss ss) (pv bh) file (.slice none 0 0) wa) 89) :: (bh, blk [pv bhf, .slice (some ⟨bhf, 45, none⟩) 109 109, m1, m2] 137) :: (bhf, blk hc 142) :: (bb, blk (bys ((B.drop ((snx sns j + 1) * ss)).take ss)) 5) :: (bs, blk [.slice (some ⟨bB, 0, none⟩) N cN] 103) :: (bB, blk (bys B ++ rB) 5) :: (2, blk ps T) :: (bm, mobj .u32 l c) :: (q.g, blk (ptrs q.rs.reverse ++ q.r) 90) :: (filsH br q.rs ++ F)) (fun q => q.j ≤ num_ ∧ q.rs.length = j * num_ + q.j ∧ q.rs.reverse.map Fil.en = es.take (j * num_ + q.j) ∧ (ptrs q.rs.reverse ++ q.r).length = q.cap) (fun q => num_ - q.j) ⟨0, g, cap, r, rs, [], l, c⟩ ⟨Nat.zero_le _, by simpa using hrl, by simpa using hre, hl⟩ ?_
  rintro ⟨i, g, cap, r, rs, lbX, lX, cX⟩ ⟨hi, hrl2, hre2, hl⟩
  simp only at hi hrl2 hre2 hl ⊢
  refine CW_seq ?_
  refine CW_sr ?_
  refine RW_m ?_
  refine RW_m ?_
  refine RW_l (Yl_lss rfl rfl) ?_
  refine RW_lv [0,4,5,6,7,8,10,112] ?_
  refine CW_cd rfl (fun hc6 => ?_) (fun hc6 => ?_)
  ·refine (CW_skip (QW_lv [0,4,5,6,7,8,10] ?_))
   refine CW_seq ?_
   refine CW_block ?_
   refine CW_seq ?_
   have hlen2 : (j * num_ + i) < es.length := by rw [hes]; have := Nat.mul_le_mul_right num_ (show j + 1 ≤ sns.length by omega); rw [Nat.succ_mul] at this; omega
   obtain ⟨e, he⟩ : ∃ e, e = es.getD (j * num_ + i) default := ⟨_, rfl⟩
   have hen : EnOk ps ver ((B.drop ((snx sns j + 1) * ss)).take ss) (i * 128) e := by rw [he]; exact hent j hjK i om_
   refine CW_region ?_
   refine RW_m ?_
   refine RW_l (Yl_build (cs := [.string (bar []), .int .u16 0, .slice none 0 0, .int .i64 0, .int .i64 0, .int .u32 0, .int .i64 0, .pointer none, pv br]) pl_93 ze_93 rfl rfl) ?_
   refine RW_fx rfl rfl rfl (Fx_box (zs := [.string (bar []), .int .u16 0, .slice none 0 0, .int .i64 0, .int .i64 0, .int .u32 0, .int .i64 0, .pointer none, pv br]) rfl rfl) ?_
   rintro _ _ ⟨bf, rfl, rfl⟩
   refine RW_a ?_
   refine RW_lv [0,4,5,6,7,8,10,11] ?_
   refine CW_sr ?_
   refine RW_m ?_
   refine RW_m ?_
   refine RW_m ?_
   refine RW_l (Yl_mul (c := ((i * 128 : Nat) : Int)) rfl rfl (mulN (a := i) (b := 128) om_)) ?_
   refine RW_l (Yl_cutLO (b := bb) (off := 0) (l := i * 128) (m := ss) (c := ss) (o' := i * 128) (m' := ss - i * 128) (c' := ss - i * 128) rfl rfl sl_23 om_ om_ om_ rfl rfl) ?_
   refine RW_fx rfl rfl rfl (Fx_call ok_58 (vs := [.slice (some ⟨bb, i * 128, none⟩) (ss - i * 128) (ss - i * 128)]) rfl pk_ (makeDirEntry_ct bb (i * 128) (ss - i * 128) (ss - i * 128) ((B.drop ((snx sns j + 1) * ss)).take ss) om_ om_ om_)) ?_
   rintro _ _ ⟨_, ⟨bd, rfl, rfl⟩, rfl⟩
   simp only [List.cons_append, List.nil_append]
   refine RW_n ?_
   refine RW_f fo_93_7 ?_
   refine RW_fx0 rfl rfl (Fx_store (v := pv bd) (b := bf) (off := 7) (T := 93) (l := [.string (bar []), .int .u16 0, .slice none 0 0, .int .i64 0, .int .i64 0, .int .u32 0, .int .i64 0, .pointer none, pv br]) rfl rfl sz_91 rfl rep_ (by simp only [List.length_cons, List.length_nil]; omega)) ?_
   rintro _ _ rfl
   refine RW_lv [0,4,5,6,7,8,10,11] ?_
   refine CW_seq ?_
   rw [← hen.dc]
   refine CW_region ?_
   refine RW_m ?_
   refine RW_n ?_
   refine RW_f fo_89_3 ?_
   refine RW_h (Yh_ld (v := pv bh) sc_82) ?_
   refine RW_n ?_
   refine RW_f fo_137_0 ?_
   refine RW_h (Yh_ld (v := pv bhf) sc_134) ?_
   refine RW_n ?_
   refine RW_f fo_142_3 ?_
   refine RW_h (Yh_lh (v := .int .u16 (ver : Int)) sc_47 hver) ?_
   refine RW_m ?_
   refine RW_fx rfl rfl rfl (Fx_call ok_59 (vs := [.int .u16 (ver : Int), pv bf]) rfl (Pick.cons rem_ (Pick.cons rem_ (Pick.cons rem_ (Pick.nil _)))) (fixFile_en (br := br) (bf := bf) (bd := bd) (T := T) hen hv4)) ?_
   rintro _ _ ⟨_, ⟨rfl, rfl⟩, rfl⟩
   simp only [List.cons_append, List.nil_append]
   refine RW_lv [0,4,5,6,7,8,10,11] ?_
   refine CW_sr ?_
   refine RW_m ?_
   refine RW_m ?_
   refine RW_n ?_
   refine RW_f fo_93_7 ?_
   refine RW_h (Yh_ld (v := pv bd) sc_91) ?_
   refine RW_n ?_
   refine RW_f fo_112_11 ?_
   refine RW_h (Yh_load (v := uv e.cur) rfl sc_67 mem_ (by rw [hen.dc]; exact hen.cur)) ?_
   refine RW_n ?_
   refine RW_f fo_93_5 ?_
   refine RW_fx0 rfl rfl (Fx_store (v := uv e.cur) (b := bf) (off := 5) (T := 93) (l := fiF e.nm e.ini (.slice none 0 0) e.size 0 0 0 bd br) rfl rfl sz_67 rfl rep_ (by simp [fiF])) ?_
   rintro _ _ rfl
   refine RW_lv [0,4,5,6,7,8,10,11] ?_
   refine CW_region ?_
   refine RW_m ?_
   refine RW_m ?_
   refine RW_fx rfl rfl rfl (Fx_litS (vs := [pv bf]) sl_83 ze_90 rfl rfl rfl rfl rfl) ?_
   rintro _ _ ⟨b150, rfl, rfl⟩
   refine RW_fx rfl rfl rfl (Fx_appT (xs := ptrs rs.reverse) (r := r) (news := [pv bf]) (n := rs.length) (cap := cap) (z0 := .pointer none) (q := 1) rfl rfl sl_83 by_90 ze_90 rfl rfl rem_ rem_ (by rw [hl]; omega) (by simp) rfl (by simp [Value.oneCell']) om_ om_ om_) ?_
   rintro _ _ ⟨g', cap', r', rfl, hl', rfl⟩
   refine RW_a ?_
   refine RW_nil ?_
   refine QW_normal_block ?_
   refine (QW_lv [0,4,5,6,7,8,10] ?_)
   refine CW_region ?_
   refine RW_m ?_
   refine RW_l (Yl_add (c := ((i + 1 : Nat) : Int)) rfl rfl (wi64 om_ om_)) ?_
   refine RW_a ?_
   refine RW_nil ?_
   have htk : es.take (j * num_ + (i + 1)) = es.take (j * num_ + i) ++ [e] := by rw [← Nat.add_assoc, List.take_succ_eq_append_getElem hlen2]; congr 2; rw [he]; simp [List.getD_eq_getElem?_getD, hlen2]
   refine QW_round ⟨i + 1, g', cap', r', ⟨bf, bd, e⟩ :: rs, [], [], 0⟩ ⟨by simp only; omega, by simp only [List.length_cons]; omega, ?_, ?_⟩ (by simp only; omega) ?_ kp_
   ·simp only [List.reverse_cons, List.map_append, List.map_cons, List.map_nil]; rw [htk, ← hre2]
   ·simp only [List.reverse_cons, List.map_append, List.map_cons, List.map_nil]; rw [← Nat.mul_one cap']; exact hl'
   simp only [List.reverse_cons, List.map_append, List.map_cons, List.map_nil, filsH, enB, List.cons_append, hen.path, hen.pos, hen.rem]; exact prm_
  refine CW_exit ?_
  refine QW_exit_then ?_
  refine QW_exit_then ?_
  refine QW_exit_block ?_
  refine (QW_lv [0,4,5,6,7] ?_)
  refine CW_seq ?_
  have hfn := findNext_ct br bh bhf bs bB ss (snx sns j) sect 45 109 109 o N cN B rB (rdF bs ss (.slice (some ⟨bb, 0, none⟩) ss ss) (pv bh) file (.slice none 0 0) wa) [pv bhf, .slice (some ⟨bhf, 45, none⟩) 109 109, m1, m2] hc 142 rfl rfl rfl rfl hsect hs109 om_ om_ om_ om_ ho ho4 hB hcN hN
  rw [hnx] at hfn
  have hin : i = num_ := by omega
  rw [hin] at hrl2 hre2
  refine CW_region ?_
  refine RW_m ?_
  refine RW_m ?_
  refine RW_fx rfl rfl rfl (Fx_callQ ok_60 (vs := [pv br, uv (snx sns j), .bool false]) (R := fun v => v = .tuple #[uv (snx sns (j + 1)), .nilIface]) rfl pk_ hfn) ?_
  rintro _ _ ⟨rfl, rfl⟩
  refine RW_m ?_
  refine RW_l (Yl_extract rfl rfl) ?_
  refine RW_l (Yl_extract rfl rfl) ?_
  refine RW_a ?_
  refine RW_a ?_
  refine RW_lv [0,4,5,6,7,9,12] ?_
  refine CW_seq ?_
  refine CW_sr ?_
  refine RW_m ?_
  refine RW_l (Yl_ifNeNil rfl if_105) ?_
  refine RW_lv [0,4,5,6,7,9,12,159] ?_
  refine CW_cond rfl (fun hc7 => ?_) (fun hc7 => ?_)
  ·skip
   exact absurd hc7 (by decide)
  skip
  refine (CW_skip (QW_lv [0,4,5,6,7,12] ?_))
  refine CW_seq ?_
  refine CW_sr ?_
  refine RW_m ?_
  refine RW_m ?_
  refine RW_l (Yl_leq rfl rfl) ?_
  refine RW_lv [0,4,5,6,7,12,170] ?_
  refine CW_cd rfl (fun hc8 => ?_) (fun hc8 => ?_)
  ·refine CW_seq ?_
   refine CW_sr ?_
   refine RW_m ?_
   refine RW_m ?_
   refine RW_l (Yl_eql rfl rfl) ?_
   refine RW_m ?_
   refine RW_bool 174 rfl (fun hg9 => ?_) (fun hg9 => ?_)
   ·replace hg9 := of_decide_eq_true hg9
    exact absurd (by exact_mod_cast hg9) (hch.ne (i := j) (j := j + 1) om_ om_ om_).symm
   replace hg9 := of_decide_eq_false hg9
   refine RW_gy rfl rfl rfl (Yl.h (Yl_move rfl)) ?_
   refine RW_gy rfl rfl rfl (Yl.h (Yl_move rfl)) ?_
   refine RW_gy rfl rfl rfl (Yh_lookup (v := .bool false) (n := ((snx sns (j + 1) : Nat) : Int)) (k := .u32) (l := l) (c := c) rfl rfl mp_143 in_67 zm_4 mem_ (by rw [mfind_none (by intro p hp; obtain ⟨i, hi1, hi2, hi3⟩ := hmap p hp; rw [hi3]; intro e; exact hch.ne (i := i) (j := j + 1) om_ om_ om_ (by exact_mod_cast e))]; rfl)) ?_
   refine RW_l (Yl_pick_f rfl rfl) ?_
   refine RW_lv [0,4,5,6,12,178] ?_
   refine CW_false rfl ?_
   refine (CW_skip (QW_lv [0,4,5,6,12] ?_))
   refine CW_region ?_
   refine RW_m ?_
   refine RW_m ?_
   refine RW_fx0 rfl rfl (Fx_mapUpdate (n := ((snx sns (j + 1) : Nat) : Int)) (v := .bool true) (k := .u32) (l := l) (c := c) rfl rfl rfl mp_143 in_67 rep_ (by intro p hp; obtain ⟨i, hi1, hi2, hi3⟩ := hmap p hp; rw [hi3]; intro e; exact hch.ne (i := i) (j := j + 1) om_ om_ om_ (by exact_mod_cast e))) ?_
   rintro _ _ ⟨rfl, rfl⟩
   refine RW_lv [0,4,5,6,12] ?_
   refine CW_region ?_
   refine RW_m ?_
   refine RW_a ?_
   refine RW_nil ?_
   refine QW_normal_block ?_
   first
    | (refine QW_round ⟨j + 1, g, cap, r, rs, bys ((B.drop ((snx sns j + 1) * ss)).take ss), l, c⟩ ⟨by simp only; omega, by simp only; rw [hrl2, Nat.succ_mul], by simp only; rw [hre2, Nat.succ_mul], hl, by rw [List.length_map]; exact hXl, (by intro p hp; obtain ⟨i, hi1, hi2, hi3⟩ := hmap p hp; exact ⟨i, hi1, by simp only; omega, hi3⟩)⟩ (by simp only; omega) ?_ (.cons rfl (.cons rfl (.cons rfl (.cons rfl (.cons rfl .nil))))); (repeat (first | exact Prm.nil _ | exact Rem.here _ _ | apply Rem.there | apply Prm.cons)); done)
    | (refine QW_round ⟨j + 1, g, cap, r, rs, bys ((B.drop ((snx sns j + 1) * ss)).take ss), l ++ [(((snx sns (j + 1) : Nat) : Int), .bool true, c)], c + 1⟩ ⟨by simp only; omega, by simp only; rw [hrl2, Nat.succ_mul], by simp only; rw [hre2, Nat.succ_mul], hl, by rw [List.length_map]; exact hXl, (by intro p hp; rcases List.mem_append.1 hp with hp | hp; (obtain ⟨i, hi1, hi2, hi3⟩ := hmap p hp; exact ⟨i, hi1, by simp only; omega, hi3⟩); (rw [List.mem_singleton.1 hp]; exact ⟨j + 1, by omega, by simp only; omega, rfl⟩))⟩ (by simp only; omega) ?_ (.cons rfl (.cons rfl (.cons rfl (.cons rfl (.cons rfl .nil))))); (repeat (first | exact Prm.nil _ | exact Rem.here _ _ | apply Rem.there | apply Prm.cons)); done)
  refine (CW_skip (QW_lv [0,4,5,6,12] ?_))
  refine CW_region ?_
  refine RW_m ?_
  refine RW_a ?_
  refine RW_nil ?_
  refine QW_normal_block ?_
  first
   | (refine QW_round ⟨j + 1, g, cap, r, rs, bys ((B.drop ((snx sns j + 1) * ss)).take ss), l, c⟩ ⟨by simp only; omega, by simp only; rw [hrl2, Nat.succ_mul], by simp only; rw [hre2, Nat.succ_mul], hl, by rw [List.length_map]; exact hXl, (by intro p hp; obtain ⟨i, hi1, hi2, hi3⟩ := hmap p hp; exact ⟨i, hi1, by simp only; omega, hi3⟩)⟩ (by simp only; omega) ?_ (.cons rfl (.cons rfl (.cons rfl (.cons rfl (.cons rfl .nil))))); (repeat (first | exact Prm.nil _ | exact Rem.here _ _ | apply Rem.there | apply Prm.cons)); done)
   | (refine QW_round ⟨j + 1, g, cap, r, rs, bys ((B.drop ((snx sns j + 1) * ss)).take ss), l ++ [(((snx sns (j + 1) : Nat) : Int), .bool true, c)], c + 1⟩ ⟨by simp only; omega, by simp only; rw [hrl2, Nat.succ_mul], by simp only; rw [hre2, Nat.succ_mul], hl, by rw [List.length_map]; exact hXl, (by intro p hp; rcases List.mem_append.1 hp with hp | hp; (obtain ⟨i, hi1, hi2, hi3⟩ := hmap p hp; exact ⟨i, hi1, by simp only; omega, hi3⟩); (rw [List.mem_singleton.1 hp]; exact ⟨j + 1, by omega, by simp only; omega, rfl⟩))⟩ (by simp only; omega) ?_ (.cons rfl (.cons rfl (.cons rfl (.cons rfl (.cons rfl .nil))))); (repeat (first | exact Prm.nil _ | exact Rem.here _ _ | apply Rem.there | apply Prm.cons)); done)
 have hjK2 : j = sns.length := by
  rcases Nat.lt_or_ge j sns.length with hh | hh
  ·have := hch.small j hh
   exfalso; omega
  omega
 have hlen : rs.length = es.length := by rw [hrl, hjK2, hes]
 rw [hjK2, ← hes, List.take_length] at hre
 have hpos : 0 < es.length := by rw [hes]; exact Nat.mul_pos hK om_
 refine CW_exit ?_
 refine QW_exit_then ?_
 refine QW_exit_then ?_
 refine QW_exit_block ?_
 refine (QW_lv [0,4] ?_)
 refine CW_seq ?_
 refine CW_sr ?_
 refine RW_m ?_
 refine RW_l (Yl_len rfl sl_83) ?_
 refine RW_l (Yl_eql rfl rfl) ?_
 refine RW_lv [0,4,188] ?_
 refine CW_cd rfl (fun hc10 => ?_) (fun hc10 => ?_)
 ·exfalso; omega
 refine (CW_skip (QW_lv [0,4] ?_))
 refine CW_sr ?_
 refine RW_m ?_
 refine RW_m ?_
 refine RW_n ?_
 refine RW_f fo_89_5 ?_
 refine RW_fx0 rfl rfl (Fx_store (v := .slice (some ⟨g, 0, none⟩) rs.length cap) rfl rfl sz_83 rfl rep_ (by simp [rdF])) ?_
 rintro _ _ rfl
 refine RW_lv [] ?_
 refine CW_sr ?_
 refine RW_a ?_
 refine RW_lv [2] ?_
 refine CW_ret ?_
 refine QW_dropB (e := (bm, _)) rem_ ?_
 exact QW_heap (List.Perm.append_left [_, _, _, _, _, _, _, _] (List.Perm.append_right F (filsH_rev br rs).symm)) (QW_ret1 rfl rfl (_ :: _ :: _ :: _ :: _ :: _ :: _ :: _ :: filsH br rs.reverse) ⟨rfl, g, cap, r, lb, rs.reverse, hre, hl, hlb, by rw [hlen]; rfl⟩ (Prm.nil _))

theorem setMini0_ct (br bh bhf bs bB ss g N cN : Nat) (B : List UInt8) (rB hc : List Value) (buf file wa m1 m2 : Value) (n cap : Nat) (r : List Value) (f0 : Fil) (fr : List Fil) (st0 : Nat) (hst : f0.en.dc[60]? = some (uv st0)) (hn : 0 < n) (h0 : st0 = 4294967294) :
  Ct Tryd.prog 49 [pv br] ((br, blk (rdF bs ss buf (pv bh) file (.slice (some ⟨g, 0, none⟩) n cap) wa) 89) :: (bh, blk [pv bhf, .slice (some ⟨bhf, 45, none⟩) 109 109, m1, m2] 137) :: (g, blk (ptrs (f0 :: fr) ++ r) 90) :: filsH br (f0 :: fr)) (fun v q => v = .nilIface ∧ q = (br, blk (rdF bs ss buf (pv bh) file (.slice (some ⟨g, 0, none⟩) n cap) wa) 89) :: (bh, blk [pv bhf, .slice (some ⟨bhf, 45, none⟩) 109 109, m1, m2] 137) :: (g, blk (ptrs (f0 :: fr) ++ r) 90) :: filsH br (f0 :: fr)) := by
 simp only [filsH]
 refine Ct_of Tryd.func49 rfl Tryd.ntmps49 rfl ?_
 intro E F
 simp only [numL, List.nil_append, List.cons_append]
 refine CW_sr ?_
 refine RW_a ?_
 refine RW_lv [0] ?_
 refine CW_seq ?_
 refine CW_sr ?_
 refine RW_m ?_
 refine RW_n ?_
 refine RW_f fo_89_5 ?_
 refine RW_h (Yh_ld (v := .slice (some ⟨g, 0, none⟩) n cap) sc_83) ?_
 refine RW_l (Yl_indexN (b := g) (off := 0) (i := 0) (o' := 0) rfl rfl sl_83 om_ om_) ?_
 refine RW_h (Yh_ld (v := pv f0.bf) sc_90) ?_
 refine RW_n ?_
 refine RW_f fo_93_7 ?_
 refine RW_h (Yh_ld (v := pv f0.bd) sc_91) ?_
 refine RW_n ?_
 refine RW_f fo_112_11 ?_
 refine RW_h (Yh_lh (v := uv st0) sc_67 hst) ?_
 refine RW_l (Yl_eql rfl rfl) ?_
 refine RW_m ?_
 refine RW_bool 24 rfl (fun hg1 => ?_) (fun hg1 => ?_)
 ·replace hg1 := of_decide_eq_true hg1
  refine RW_skip rfl rfl rfl ?_
  refine RW_skip rfl rfl rfl ?_
  refine RW_skip rfl rfl rfl ?_
  refine RW_skip rfl rfl rfl ?_
  refine RW_skip rfl rfl rfl ?_
  refine RW_skip rfl rfl rfl ?_
  refine RW_skip rfl rfl rfl ?_
  refine RW_skip rfl rfl rfl ?_
  refine RW_skip rfl rfl rfl ?_
  refine RW_skip rfl rfl rfl ?_
  refine RW_skip rfl rfl rfl ?_
  refine RW_l (Yl_pick_t rfl rfl) ?_
  refine RW_m ?_
  refine RW_skip rfl rfl rfl ?_
  refine RW_skip rfl rfl rfl ?_
  refine RW_skip rfl rfl rfl ?_
  refine RW_skip rfl rfl rfl ?_
  refine RW_skip rfl rfl rfl ?_
  refine RW_skip rfl rfl rfl ?_
  refine RW_skip rfl rfl rfl ?_
  refine RW_skip rfl rfl rfl ?_
  refine RW_skip rfl rfl rfl ?_
  refine RW_skip rfl rfl rfl ?_
  refine RW_skip rfl rfl rfl ?_
  refine RW_l (Yl_pick_t rfl rfl) ?_
  refine RW_lv [0,49] ?_
  refine CW_true rfl ?_
  refine CW_sr ?_
  refine RW_a ?_
  refine RW_lv [2] ?_
  refine CW_ret ?_
  refine QW_ret_then ?_
  exact QW_ret1 rfl rfl (_ :: _ :: _ :: filsH br (f0 :: fr)) ⟨rfl, rfl⟩ (Prm.nil _)
 replace hg1 := of_decide_eq_false hg1
 exact absurd (show ((st0 : Nat) : Int) = 4294967294 by omega) hg1
structure MsS where
 j : Nat
 g2 : Nat
 cap2 : Nat
 r2 : List Value
 l : List (Int × Value × Nat)
 c : Nat
theorem setMini_ct (br bh bhf bs bB ss g N cN : Nat) (B : List UInt8) (rB hc : List Value) (buf file wa : Value) (n cap : Nat) (r : List Value) (f0 : Fil) (fr : List Fil) (hn : 0 < n)
  (sns1 sns2 : List Nat) (ml nm : Nat) (h1 : ChOk B N ss hc sns1) (h2 : ChOk B N ss hc sns2) (hst : f0.en.dc[60]? = some (uv (snx sns2 0))) (hK2 : 1 ≤ sns2.length) (hml0 : ml = snx sns1 0) (hnm1 : nm = sns1.length) (hnm0 : 1 ≤ nm) (hml : hc[41]? = some (uv ml)) (hnm : hc[42]? = some (uv nm)) (hcm : ss / 4 * nm ≤ 64000) (hnm4 : nm ≤ 64000) (hs2 : sns2.length ≤ 100000)
  (hss : 512 ≤ ss ∧ ss ≤ 4096) (hB : B.length = N) (hcN : N ≤ cN) (hN : N ≤ 1000000000) :
  Ct Tryd.prog 49 [pv br] ((br, blk (rdF bs ss buf (pv bh) file (.slice (some ⟨g, 0, none⟩) n cap) wa) 89) :: (bh, blk [pv bhf, .slice (some ⟨bhf, 45, none⟩) 109 109, .slice none 0 0, .slice none 0 0] 137) :: (bhf, blk hc 142) :: (bs, blk [.slice (some ⟨bB, 0, none⟩) N cN] 103) :: (bB, blk (bys B ++ rB) 5) :: (g, blk (ptrs (f0 :: fr) ++ r) 90) :: filsH br (f0 :: fr)) (fun v q => v = .nilIface ∧ ∃ bm1 Tl g2 cap2 r2, Tl.length = nm ∧ (∀ k, k < nm → Tl[k]? = some (uv (snx sns1 k))) ∧ (u32s sns2 ++ r2).length = cap2 ∧ q = ((br, blk (rdF bs ss buf (pv bh) file (.slice (some ⟨g, 0, none⟩) n cap) wa) 89) :: (bh, blk [pv bhf, .slice (some ⟨bhf, 45, none⟩) 109 109, .slice (some ⟨bm1, 0, none⟩) nm nm, .slice (some ⟨g2, 0, none⟩) sns2.length cap2] 137) :: (bhf, blk hc 142) :: (bs, blk [.slice (some ⟨bB, 0, none⟩) N cN] 103) :: (bB, blk (bys B ++ rB) 5) :: (g, blk (ptrs (f0 :: fr) ++ r) 90) :: (bm1, blk Tl 67) :: (g2, blk (u32s sns2 ++ r2) 67) :: filsH br (f0 :: fr))) := by
 simp only [filsH]
 refine Ct_of Tryd.func49 rfl Tryd.ntmps49 rfl ?_
 intro E F
 simp only [numL, List.nil_append, List.cons_append]
 refine CW_sr ?_
 refine RW_a ?_
 refine RW_lv [0] ?_
 refine CW_seq ?_
 refine CW_sr ?_
 refine RW_m ?_
 refine RW_n ?_
 refine RW_f fo_89_5 ?_
 refine RW_h (Yh_ld (v := .slice (some ⟨g, 0, none⟩) n cap) sc_83) ?_
 refine RW_l (Yl_indexN (b := g) (off := 0) (i := 0) (o' := 0) rfl rfl sl_83 om_ om_) ?_
 refine RW_h (Yh_ld (v := pv f0.bf) sc_90) ?_
 refine RW_n ?_
 refine RW_f fo_93_7 ?_
 refine RW_h (Yh_ld (v := pv f0.bd) sc_91) ?_
 refine RW_n ?_
 refine RW_f fo_112_11 ?_
 refine RW_h (Yh_lh (v := uv (snx sns2 0)) sc_67 hst) ?_
 refine RW_l (Yl_eql rfl rfl) ?_
 refine RW_m ?_
 refine RW_bool 24 rfl (fun hg1 => ?_) (fun hg1 => ?_)
 ·replace hg1 := of_decide_eq_true hg1
  exfalso
  have := h2.small 0 om_
  omega
 replace hg1 := of_decide_eq_false hg1
 refine RW_gy rfl rfl rfl (Yl.h (Yl_move rfl)) ?_
 refine RW_gy rfl rfl rfl (Yl.h (Yl_nilCheck rfl)) ?_
 refine RW_gy rfl rfl rfl (Yl.h (Yl_field rfl fo_89_3)) ?_
 refine RW_gy rfl rfl rfl (Yh_ld (v := pv bh) sc_82) ?_
 refine RW_gy rfl rfl rfl (Yl.h (Yl_nilCheck rfl)) ?_
 refine RW_gy rfl rfl rfl (Yl.h (Yl_field rfl fo_137_0)) ?_
 refine RW_gy rfl rfl rfl (Yh_ld (v := pv bhf) sc_134) ?_
 refine RW_gy rfl rfl rfl (Yl.h (Yl_nilCheck rfl)) ?_
 refine RW_gy rfl rfl rfl (Yl.h (Yl_field rfl fo_142_13)) ?_
 refine RW_gy rfl rfl rfl (Yh_lh (v := uv ml) sc_67 hml) ?_
 refine RW_gy rfl rfl rfl (Yl.h (Yl_eql rfl rfl)) ?_
 refine RW_l (Yl_pick_f rfl rfl) ?_
 refine RW_m ?_
 refine RW_bool 37 rfl (fun hg2 => ?_) (fun hg2 => ?_)
 ·replace hg2 := of_decide_eq_true hg2
  exfalso
  have := h1.small 0 om_
  omega
 replace hg2 := of_decide_eq_false hg2
 refine RW_gy rfl rfl rfl (Yl.h (Yl_move rfl)) ?_
 refine RW_gy rfl rfl rfl (Yl.h (Yl_nilCheck rfl)) ?_
 refine RW_gy rfl rfl rfl (Yl.h (Yl_field rfl fo_89_3)) ?_
 refine RW_gy rfl rfl rfl (Yh_ld (v := pv bh) sc_82) ?_
 refine RW_gy rfl rfl rfl (Yl.h (Yl_nilCheck rfl)) ?_
 refine RW_gy rfl rfl rfl (Yl.h (Yl_field rfl fo_137_0)) ?_
 refine RW_gy rfl rfl rfl (Yh_ld (v := pv bhf) sc_134) ?_
 refine RW_gy rfl rfl rfl (Yl.h (Yl_nilCheck rfl)) ?_
 refine RW_gy rfl rfl rfl (Yl.h (Yl_field rfl fo_142_14)) ?_
 refine RW_gy rfl rfl rfl (Yh_lh (v := uv nm) sc_67 hnm) ?_
 refine RW_gy rfl rfl rfl (Yl.h (Yl_eql rfl rfl)) ?_
 refine RW_l (Yl_pick_f rfl rfl) ?_
 refine RW_lv [0,49] ?_
 refine CW_cd rfl (fun hc3 => ?_) (fun hc3 => ?_)
 ·exfalso; omega
 refine (CW_skip (QW_lv [0] ?_))
 refine CW_sr ?_
 refine RW_m ?_
 refine RW_n ?_
 refine RW_f fo_89_3 ?_
 refine RW_h (Yh_ld (v := pv bh) sc_82) ?_
 refine RW_n ?_
 refine RW_f fo_137_0 ?_
 refine RW_h (Yh_ld (v := pv bhf) sc_134) ?_
 refine RW_n ?_
 refine RW_f fo_142_14 ?_
 refine RW_h (Yh_lh (v := uv nm) sc_67 hnm) ?_
 refine RW_l (Yl_conv (c := (nm : Int)) rfl in_67 in_3 (wi64 om_ om_)) ?_
 refine RW_a ?_
 refine RW_lv [0,3] ?_
 refine CW_seq ?_
 refine CW_sr ?_
 refine RW_m ?_
 refine RW_n ?_
 refine RW_f fo_89_3 ?_
 refine RW_h (Yh_ld (v := pv bh) sc_82) ?_
 refine RW_n ?_
 refine RW_f fo_137_0 ?_
 refine RW_h (Yh_ld (v := pv bhf) sc_134) ?_
 refine RW_n ?_
 refine RW_f fo_142_14 ?_
 refine RW_h (Yh_lh (v := uv nm) sc_67 hnm) ?_
 refine RW_l (Yl_gtr rfl rfl) ?_
 refine RW_lv [0,3,71] ?_
 refine CW_cd rfl (fun hc4 => ?_) (fun hc4 => ?_)
 ·exfalso; omega
 refine (CW_skip (QW_lv [0,3] ?_))
 refine CW_seq ?_
 refine CW_draw [8] _ mixed (Sub.refl _) ?_
 refine RD_m 0 ?_
 refine RD_n 1 ?_
 refine RD_f 2 fo_89_3 ?_
 refine RD_m 4 ?_
 refine RD_h (i := 3) #[true, true, true, false, true, true, false, false, false] rfl rfl rfl rfl kr_ (fun _ _ _ h => h) (Yh_ld (v := pv bh) sc_82) ?_
 refine RD_o 5 ?_
 refine RO_fx rfl rfl rfl rfl (Fx_makeU32 nm rfl rfl om_) ?_
 rintro _ _ ⟨bm1, rfl, rfl⟩
 refine ⟨Or.inr (Sub.more (Sub.refl _)), ?_⟩
 refine RD_n 6 ?_
 refine RD_f 7 fo_137_2 ?_
 refine RD_o 8 ?_
 refine RO_fx0 rfl rfl rfl (Fx_store (v := .slice (some ⟨bm1, 0, none⟩) nm nm) rfl rfl sz_22 rfl rep_ (by simp)) ?_
 rintro _ _ rfl
 refine ⟨Or.inl kr_, ?_⟩
 refine (RD_done kr_ (QW_lv [0,3] ?_))
 refine CW_seq ?_
 refine CW_draw [18] _ mixed (Sub.refl _) ?_
 refine RD_m 0 ?_
 refine RD_n 1 ?_
 refine RD_f 2 fo_89_3 ?_
 refine RD_m 7 ?_
 refine RD_n 8 ?_
 refine RD_f 9 fo_89_3 ?_
 refine RD_h (i := 3) #[true, true, true, false, false, false, false, true, true, true, true, true, true, true, true, true, true, false, false] rfl rfl rfl rfl kr_ (fun _ _ _ h => h) (Yh_ld (v := pv bh) sc_82) ?_
 refine RD_n 4 ?_
 refine RD_f 5 fo_137_2 ?_
 refine RD_h (i := 6) #[true, true, true, true, true, true, false, true, true, true, true, true, true, true, true, true, true, false, false] rfl rfl rfl rfl kr_ (fun _ _ _ h => h) (Yh_ld (v := .slice (some ⟨bm1, 0, none⟩) nm nm) sc_22) ?_
 refine RD_h (i := 10) #[true, true, true, true, true, true, true, true, true, true, false, false, false, false, false, false, false, false, false] rfl rfl rfl rfl kr_ (fun _ _ _ h => h) (Yh_ld (v := pv bh) sc_82) ?_
 refine RD_n 11 ?_
 refine RD_f 12 fo_137_0 ?_
 refine RD_h (i := 13) #[true, true, true, true, true, true, true, true, true, true, true, true, true, false, false, false, false, false, false] rfl rfl rfl rfl kr_ (fun _ _ _ h => h) (Yh_ld (v := pv bhf) sc_134) ?_
 refine RD_n 14 ?_
 refine RD_f 15 fo_142_13 ?_
 refine RD_h (i := 16) #[true, true, true, true, true, true, true, true, true, true, true, true, true, true, true, true, false, false, false] rfl rfl rfl rfl kr_ (fun _ _ _ h => h) (Yh_lh (v := uv ml) sc_67 hml) ?_
 refine RD_l 17 rfl (Yl_indexN (b := bm1) (off := 0) (i := 0) (o' := 0) rfl rfl sl_22 om_ om_) ?_
 refine RD_o 18 ?_
 refine RO_fx0 rfl rfl rfl (Fx_store (v := uv ml) rfl rfl sz_67 rfl rep_ (by simp; omega)) ?_
 rintro _ _ rfl
 refine ⟨Or.inl kr_, ?_⟩
 refine (RD_done kr_ (QW_lv [0,3] ?_))
 refine CW_seq ?_
 refine CW_sr ?_
 refine RW_a ?_
 refine RW_lv [0,3,4] ?_
 refine CW_block ?_
 refine CW_lp (σ := Nat × List Value) (fun q => [(0, pv br), (3, nv nm), (4, nv q.1)]) (fun q => (br, blk (rdF bs ss buf (pv bh) file (.slice (some ⟨g, 0, none⟩) n cap) wa) 89) :: (bh, blk [pv bhf, .slice (some ⟨bhf, 45, none⟩) 109 109, .slice (some ⟨bm1, 0, none⟩) nm nm, .slice none 0 0] 137) :: (bhf, blk hc 142) :: (bs, blk [.slice (some ⟨bB, 0, none⟩) N cN] 103) :: (bB, blk (bys B ++ rB) 5) :: (g, blk (ptrs (f0 :: fr) ++ r) 90) :: (bm1, blk q.2 67) :: (f0.bf, blk (fiF f0.en.nm f0.en.ini f0.en.path f0.en.size f0.en.pos f0.en.cur f0.en.rem f0.bd br) 93) :: (f0.bd, blk f0.en.dc 112) :: (filsH br fr ++ F)) (fun q => 1 ≤ q.1 ∧ q.1 ≤ nm ∧ q.2.length = nm ∧ ∀ k, k < q.1 → q.2[k]? = some (uv (snx sns1 k))) (fun q => nm - q.1) (1, (u32s (List.replicate nm 0)).set 0 (uv ml)) ⟨Nat.le_refl _, by simpa using hnm0, by simp, by intro k hk; simp only at hk ⊢; obtain rfl : k = 0 := om_; rw [← hml0]; exact List.getElem?_set_self (by simp only [List.length_map, List.length_replicate]; omega)⟩ ?_
 rintro ⟨i, Tl⟩ ⟨hi1, hi, hTl, hT⟩
 simp only at hi1 hi hTl hT ⊢
 refine CW_seq ?_
 refine CW_sr ?_
 refine RW_m ?_
 refine RW_m ?_
 refine RW_l (Yl_lss rfl rfl) ?_
 refine RW_lv [0,3,4,113] ?_
 refine CW_cd rfl (fun hc5 => ?_) (fun hc5 => ?_)
 ·have hsm := h1.small (i - 1) om_
  obtain ⟨sect, o, hsect, hs109, hse, ho, ho4, hnx⟩ := h1.next (i - 1) om_
  rw [show i - 1 + 1 = i by omega] at hnx
  have hfn := findNext_ct br bh bhf bs bB ss (snx sns1 (i - 1)) sect 45 109 109 o N cN B rB (rdF bs ss buf (pv bh) file (.slice (some ⟨g, 0, none⟩) n cap) wa) [pv bhf, .slice (some ⟨bhf, 45, none⟩) 109 109, .slice (some ⟨bm1, 0, none⟩) nm nm, .slice none 0 0] hc 142 rfl rfl rfl rfl hsect hs109 om_ om_ om_ om_ ho ho4 hB hcN hN
  rw [hnx] at hfn
  refine (CW_skip (QW_lv [0,3,4] ?_))
  refine CW_seq ?_
  refine CW_block ?_
  refine CW_sr ?_
  refine RW_m ?_
  refine RW_m ?_
  refine RW_n ?_
  refine RW_f fo_89_3 ?_
  refine RW_h (Yh_ld (v := pv bh) sc_82) ?_
  refine RW_n ?_
  refine RW_f fo_137_2 ?_
  refine RW_h (Yh_ld (v := .slice (some ⟨bm1, 0, none⟩) nm nm) sc_22) ?_
  refine RW_m ?_
  refine RW_l (Yl_sub (c := ((i - 1 : Nat) : Int)) rfl rfl (by rw [wi64 om_ om_]; omega)) ?_
  refine RW_l (Yl_indexN (b := bm1) (off := 0) (i := i - 1) (o' := i - 1) rfl rfl sl_22 om_ om_) ?_
  refine RW_h (Yh_load (v := uv (snx sns1 (i - 1))) rfl sc_67 mem_ (hT (i - 1) om_)) ?_
  refine RW_fx rfl rfl rfl (Fx_callQ ok_60 (vs := [pv br, uv (snx sns1 (i - 1)), .bool false]) (R := fun v => v = .tuple #[uv (snx sns1 i), .nilIface]) rfl pk_ hfn) ?_
  rintro _ _ ⟨rfl, rfl⟩
  refine RW_m ?_
  refine RW_l (Yl_extract rfl rfl) ?_
  refine RW_l (Yl_extract rfl rfl) ?_
  refine RW_a ?_
  refine RW_a ?_
  refine RW_lv [0,3,4,5,6] ?_
  refine CW_seq ?_
  refine CW_sr ?_
  refine RW_m ?_
  refine RW_l (Yl_ifNeNil rfl if_105) ?_
  refine RW_lv [0,3,4,5,6,133] ?_
  refine CW_cond rfl (fun hc6 => ?_) (fun hc6 => ?_)
  ·skip
   exact absurd hc6 (by decide)
  skip
  refine (CW_skip (QW_lv [0,3,4,5] ?_))
  refine CW_region ?_
  refine RW_m ?_
  refine RW_n ?_
  refine RW_f fo_89_3 ?_
  refine RW_h (Yh_ld (v := pv bh) sc_82) ?_
  refine RW_n ?_
  refine RW_f fo_137_2 ?_
  refine RW_h (Yh_ld (v := .slice (some ⟨bm1, 0, none⟩) nm nm) sc_22) ?_
  refine RW_m ?_
  refine RW_m ?_
  refine RW_l (Yl_indexN (b := bm1) (off := 0) (i := i) (o' := i) rfl rfl sl_22 om_ om_) ?_
  refine RW_fx0 rfl rfl (Fx_store (v := uv (snx sns1 i)) rfl rfl sz_67 rfl rep_ om_) ?_
  rintro _ _ rfl
  refine RW_nil ?_
  refine QW_normal_block ?_
  refine (QW_lv [0,3,4] ?_)
  refine CW_region ?_
  refine RW_m ?_
  refine RW_l (Yl_add (c := ((i + 1 : Nat) : Int)) rfl rfl (wi64 om_ om_)) ?_
  refine RW_a ?_
  refine RW_nil ?_
  refine QW_round (i + 1, Tl.set i (uv (snx sns1 i))) ⟨by simp only; omega, by simp only; omega, by simp only [List.length_set]; exact hTl, ?_⟩ (by simp only; omega) prm_ kp_
  intro k hk
  simp only at hk ⊢
  by_cases e : k = i
  ·subst e; exact List.getElem?_set_self om_
  rw [List.getElem?_set_ne om_]; exact hT k om_
 have hin : i = nm := by omega
 rw [hin] at hT
 refine CW_exit ?_
 refine QW_exit_then ?_
 refine QW_exit_then ?_
 refine QW_exit_block ?_
 refine (QW_lv [0] ?_)
 refine CW_seq ?_
 refine CW_draw [] _ mixed (Sub.refl _) ?_
 refine RD_m 0 ?_
 refine RD_n 1 ?_
 refine RD_f 2 fo_89_1 ?_
 refine RD_m 5 ?_
 refine RD_n 6 ?_
 refine RD_f 7 fo_89_3 ?_
 refine RD_h (i := 3) #[true, true, true, false, false, true, true, true, true, true, true, true, true, true, true, false, false, false] rfl rfl rfl rfl kr_ (fun _ _ _ h => h) (Yh_ld (v := uv ss) sc_67) ?_
 refine RD_l 4 rfl (Yl_quo (c := ((ss / 4 : Nat) : Int)) rfl rfl om_ (quo32 (b := 4) om_)) ?_
 refine RD_h (i := 8) #[true, true, true, true, true, true, true, true, false, false, false, false, false, false, false, false, false, false] rfl rfl rfl rfl kr_ (fun _ _ _ h => h) (Yh_ld (v := pv bh) sc_82) ?_
 refine RD_n 9 ?_
 refine RD_f 10 fo_137_0 ?_
 refine RD_h (i := 11) #[true, true, true, true, true, true, true, true, true, true, true, false, false, false, false, false, false, false] rfl rfl rfl rfl kr_ (fun _ _ _ h => h) (Yh_ld (v := pv bhf) sc_134) ?_
 refine RD_n 12 ?_
 refine RD_f 13 fo_142_14 ?_
 refine RD_h (i := 14) #[true, true, true, true, true, true, true, true, true, true, true, true, true, true, false, false, false, false] rfl rfl rfl rfl kr_ (fun _ _ _ h => h) (Yh_lh (v := uv nm) sc_67 hnm) ?_
 refine RD_l 15 rfl (Yl_mul (c := ((ss / 4 * nm : Nat) : Int)) rfl rfl (mul32 (a := ss / 4) (b := nm) om_)) ?_
 refine RD_l 16 rfl (Yl_conv (c := ((ss / 4 * nm : Nat) : Int)) rfl in_67 in_3 (wi64 om_ om_)) ?_
 refine RD_a 17 ?_
 refine (RD_done kr_ (QW_lv [0,3] ?_))
 refine CW_seq ?_
 refine CW_sr ?_
 refine RW_m ?_
 refine RW_l (Yl_gtr rfl rfl) ?_
 refine RW_lv [0,3,180] ?_
 refine CW_cd rfl (fun hc7 => ?_) (fun hc7 => ?_)
 ·exfalso; omega
 refine (CW_skip (QW_lv [0,3] ?_))
 refine CW_seq ?_
 refine CW_draw [8] _ mixed (Sub.refl _) ?_
 refine RD_m 0 ?_
 refine RD_n 1 ?_
 refine RD_f 2 fo_89_3 ?_
 refine RD_m 4 ?_
 refine RD_h (i := 3) #[true, true, true, false, true, true, false, false, false] rfl rfl rfl rfl kr_ (fun _ _ _ h => h) (Yh_ld (v := pv bh) sc_82) ?_
 refine RD_o 5 ?_
 refine RO_fx rfl rfl rfl rfl (Fx_makeSlice (z0 := .int .u32 0) (m := 1) (l := 0) (c := ((ss / 4 * nm : Nat) : Int)) rfl rfl sl_22 by_67 ze_67 rfl rfl om_ om_ om_ om_) ?_
 rintro _ _ ⟨g2, rfl, rfl⟩
 refine ⟨Or.inr (Sub.more (Sub.refl _)), ?_⟩
 refine RD_n 6 ?_
 refine RD_f 7 fo_137_3 ?_
 refine RD_o 8 ?_
 refine RO_fx0 rfl rfl rfl (Fx_store (v := .slice (some ⟨g2, 0, none⟩) 0 (ss / 4 * nm)) rfl rfl sz_22 rfl rep_ (by simp)) ?_
 rintro _ _ rfl
 refine ⟨Or.inl kr_, ?_⟩
 refine (RD_done kr_ (QW_lv [0] ?_))
 refine CW_sr ?_
 refine RW_fx rfl rfl rfl (Fx_makeMap .u32) ?_
 rintro _ _ ⟨bm, rfl, rfl⟩
 refine RW_a ?_
 refine RW_lv [0,7] ?_
 refine CW_sr ?_
 refine RW_m ?_
 refine RW_n ?_
 refine RW_f fo_89_5 ?_
 refine RW_h (Yh_ld (v := .slice (some ⟨g, 0, none⟩) n cap) sc_83) ?_
 refine RW_l (Yl_indexN (b := g) (off := 0) (i := 0) (o' := 0) rfl rfl sl_83 om_ om_) ?_
 refine RW_h (Yh_ld (v := pv f0.bf) sc_90) ?_
 refine RW_n ?_
 refine RW_f fo_93_7 ?_
 refine RW_h (Yh_ld (v := pv f0.bd) sc_91) ?_
 refine RW_n ?_
 refine RW_f fo_112_11 ?_
 refine RW_h (Yh_lh (v := uv (snx sns2 0)) sc_67 hst) ?_
 refine RW_a ?_
 refine RW_lv [0,7,8] ?_
 refine CW_seq ?_
 refine CW_block ?_
 refine CW_loop (σ := MsS) (fun q => [(0, pv br), (7, .map (some bm)), (8, uv (snx sns2 q.j))]) (fun q => (br, blk (rdF bs ss buf (pv bh) file (.slice (some ⟨g, 0, none⟩) n cap) wa) 89) :: (bh, blk [pv bhf, .slice (some ⟨bhf, 45, none⟩) 109 109, .slice (some ⟨bm1, 0, none⟩) nm nm, .slice (some ⟨q.g2, 0, none⟩) q.j q.cap2] 137) :: (bhf, blk hc 142) :: (bs, blk [.slice (some ⟨bB, 0, none⟩) N cN] 103) :: (bB, blk (bys B ++ rB) 5) :: (g, blk (ptrs (f0 :: fr) ++ r) 90) :: (bm1, blk Tl 67) :: (bm, mobj .u32 q.l q.c) :: (q.g2, blk (u32s (sns2.take q.j) ++ q.r2) 67) :: (f0.bf, blk (fiF f0.en.nm f0.en.ini f0.en.path f0.en.size f0.en.pos f0.en.cur f0.en.rem f0.bd br) 93) :: (f0.bd, blk f0.en.dc 112) :: (filsH br fr ++ F)) (fun q => q.j ≤ sns2.length ∧ (u32s (sns2.take q.j) ++ q.r2).length = q.cap2 ∧ ∀ p ∈ q.l, ∃ i, 1 ≤ i ∧ i ≤ q.j ∧ p.1 = ((snx sns2 i : Nat) : Int)) (fun q => sns2.length - q.j) ⟨0, g2, ss / 4 * nm, List.replicate (ss / 4 * nm) (.int .u32 0), [], 0⟩ ⟨Nat.zero_le _, by simp, by simp⟩ (by simp only [List.take_zero, List.map_nil, List.nil_append, Int.toNat_natCast, Nat.mul_one]; exact prm_) kp_ ?_
 rintro ⟨j, g2, cap2, r2, l, c⟩ ⟨hj, hl, hmap⟩
 simp only at hj hl hmap ⊢
 refine CW_seq ?_
 refine CW_sr ?_
 refine RW_m ?_
 refine RW_l (Yl_neq rfl rfl) ?_
 refine RW_lv [0,7,8,203] ?_
 refine CW_cd rfl (fun hc8 => ?_) (fun hc8 => ?_)
 ·have hjK : j < sns2.length := by
   rcases Nat.lt_or_ge j sns2.length with hh | hh
   ·exact hh
   exact absurd (by rw [snx_end sns2 (show j = sns2.length by omega)]; rfl) hc8
  have hsm := h2.small j hjK
  have hft := h2.fit j hjK
  obtain ⟨sect, o, hsect, hs109, hse, ho, ho4, hnx⟩ := h2.next j hjK
  refine (CW_skip (QW_lv [0,7,8] ?_))
  refine CW_block ?_
  refine CW_seq ?_
  refine CW_draw [16] [(br, blk (rdF bs ss buf (pv bh) file (.slice (some ⟨g, 0, none⟩) n cap) wa) 89), (bh, blk [pv bhf, .slice (some ⟨bhf, 45, none⟩) 109 109, .slice (some ⟨bm1, 0, none⟩) nm nm, .slice (some ⟨g2, 0, none⟩) j cap2] 137)] mixed sub_ ?_
  refine RD_m 0 ?_
  refine RD_n 1 ?_
  refine RD_f 2 fo_89_3 ?_
  refine RD_m 4 ?_
  refine RD_n 5 ?_
  refine RD_f 6 fo_89_3 ?_
  refine RD_m 11 ?_
  refine RD_h (i := 3) #[true, true, true, false, true, true, true, true, true, true, true, true, true, true, false, false, false] rfl rfl rfl rfl kr_ (fun _ _ _ h => h) (Yh_ld (v := pv bh) sc_82) ?_
  refine RD_h (i := 7) #[true, true, true, true, true, true, true, false, false, false, false, true, true, false, false, false, false] rfl rfl rfl rfl kr_ (fun _ _ _ h => h) (Yh_ld (v := pv bh) sc_82) ?_
  refine RD_n 8 ?_
  refine RD_f 9 fo_137_3 ?_
  refine RD_h (i := 10) #[true, true, true, true, true, true, true, true, true, true, false, true, true, false, false, false, false] rfl rfl rfl rfl kr_ (fun _ _ _ h => h) (Yh_ld (v := .slice (some ⟨g2, 0, none⟩) j cap2) sc_22) ?_
  refine RD_o 12 ?_
  refine RO_fx rfl rfl rfl rfl (Fx_litS (vs := [uv (snx sns2 j)]) sl_22 ze_67 rfl rfl rfl rfl rfl) ?_
  rintro _ _ ⟨b216, rfl, rfl⟩
  refine ⟨Or.inr sub_, ?_⟩
  refine RD_o 13 ?_
  refine RO_fx rfl rfl rfl rfl (Fx_appT (xs := u32s (sns2.take j)) (r := r2) (news := [uv (snx sns2 j)]) (n := j) (cap := cap2) (z0 := .int .u32 0) (q := 1) rfl rfl sl_22 by_67 ze_67 rfl rfl rem_ rem_ (by rw [hl]; omega) (by simp; omega) rfl (by simp [Value.oneCell', uv]) om_ om_ om_) ?_
  rintro _ _ ⟨g', cap', r', rfl, hl', rfl⟩
  refine ⟨Or.inr sub_, ?_⟩
  refine RD_n 14 ?_
  refine RD_f 15 fo_137_3 ?_
  refine RD_o 16 ?_
  refine RO_fx0 rfl rfl rfl (Fx_store (v := .slice (some ⟨g', 0, none⟩) (j + 1) cap') rfl rfl sz_22 rfl rep_ (by simp)) ?_
  rintro _ _ rfl
  refine ⟨Or.inl kr_, ?_⟩
  refine (RD_done kr_ (QW_lv [0,7,8] ?_))
  refine CW_seq ?_
  have hfn := findNext_ct br bh bhf bs bB ss (snx sns2 j) sect 45 109 109 o N cN B rB (rdF bs ss buf (pv bh) file (.slice (some ⟨g, 0, none⟩) n cap) wa) [pv bhf, .slice (some ⟨bhf, 45, none⟩) 109 109, .slice (some ⟨bm1, 0, none⟩) nm nm, .slice (some ⟨g', 0, none⟩) (j + 1) cap'] hc 142 rfl rfl rfl rfl hsect hs109 om_ om_ om_ om_ ho ho4 hB hcN hN
  rw [hnx] at hfn
  refine CW_region ?_
  refine RW_m ?_
  refine RW_m ?_
  refine RW_fx rfl rfl rfl (Fx_callQ ok_60 (vs := [pv br, uv (snx sns2 j), .bool false]) (R := fun v => v = .tuple #[uv (snx sns2 (j + 1)), .nilIface]) rfl pk_ hfn) ?_
  rintro _ _ ⟨rfl, rfl⟩
  refine RW_m ?_
  refine RW_l (Yl_extract rfl rfl) ?_
  refine RW_l (Yl_extract rfl rfl) ?_
  refine RW_a ?_
  refine RW_a ?_
  refine RW_lv [0,7,8,9,10] ?_
  refine CW_seq ?_
  refine CW_sr ?_
  refine RW_m ?_
  refine RW_l (Yl_ifNeNil rfl if_105) ?_
  refine RW_lv [0,7,8,9,10,227] ?_
  refine CW_cond rfl (fun hc9 => ?_) (fun hc9 => ?_)
  ·skip
   exact absurd hc9 (by decide)
  skip
  refine (CW_skip (QW_lv [0,7,8,9] ?_))
  refine CW_seq ?_
  refine CW_sr ?_
  refine RW_m ?_
  refine RW_m ?_
  refine RW_l (Yl_leq rfl rfl) ?_
  refine RW_lv [0,7,8,9,238] ?_
  refine CW_cd rfl (fun hc10 => ?_) (fun hc10 => ?_)
  ·refine CW_seq ?_
   refine CW_sr ?_
   refine RW_m ?_
   refine RW_m ?_
   refine RW_l (Yl_eql rfl rfl) ?_
   refine RW_m ?_
   refine RW_bool 242 rfl (fun hg11 => ?_) (fun hg11 => ?_)
   ·replace hg11 := of_decide_eq_true hg11
    exact absurd (by exact_mod_cast hg11) (h2.ne (i := j) (j := j + 1) om_ om_ om_).symm
   replace hg11 := of_decide_eq_false hg11
   refine RW_gy rfl rfl rfl (Yl.h (Yl_move rfl)) ?_
   refine RW_gy rfl rfl rfl (Yl.h (Yl_move rfl)) ?_
   refine RW_gy rfl rfl rfl (Yh_lookup (v := .bool false) (n := ((snx sns2 (j + 1) : Nat) : Int)) (k := .u32) (l := l) (c := c) rfl rfl mp_143 in_67 zm_4 mem_ (by rw [mfind_none (by intro p hp; obtain ⟨i, hi1, hi2, hi3⟩ := hmap p hp; rw [hi3]; intro e; exact h2.ne (i := i) (j := j + 1) om_ om_ om_ (by exact_mod_cast e))]; rfl)) ?_
   refine RW_l (Yl_pick_f rfl rfl) ?_
   refine RW_lv [0,7,9,246] ?_
   refine CW_false rfl ?_
   refine (CW_skip (QW_lv [0,7,9] ?_))
   refine CW_region ?_
   refine RW_m ?_
   refine RW_m ?_
   refine RW_fx0 rfl rfl (Fx_mapUpdate (n := ((snx sns2 (j + 1) : Nat) : Int)) (v := .bool true) (k := .u32) (l := l) (c := c) rfl rfl rfl mp_143 in_67 rep_ (by intro p hp; obtain ⟨i, hi1, hi2, hi3⟩ := hmap p hp; rw [hi3]; intro e; exact h2.ne (i := i) (j := j + 1) om_ om_ om_ (by exact_mod_cast e))) ?_
   rintro _ _ ⟨rfl, rfl⟩
   refine RW_lv [0,7,9] ?_
   refine CW_region ?_
   refine RW_m ?_
   refine RW_a ?_
   refine RW_nil ?_
   refine QW_normal_block ?_
   have htk : u32s (sns2.take (j + 1)) = u32s (sns2.take j) ++ [uv (snx sns2 j)] := by
    rw [List.take_succ_eq_append_getElem hjK]; simp only [u32s, List.map_append, List.map_cons, List.map_nil]; congr 2; rw [snx_in _ hjK]; simp [List.getD_eq_getElem?_getD, hjK]
   first
    | (refine QW_round ⟨j + 1, g', cap', r', l, c⟩ ⟨by simp only; omega, by simp only [htk]; rw [← Nat.mul_one cap']; exact hl', (by intro p hp; obtain ⟨i, hi1, hi2, hi3⟩ := hmap p hp; exact ⟨i, hi1, by simp only; omega, hi3⟩)⟩ (by simp only; omega) ?_ (.cons rfl (.cons rfl (.cons rfl .nil))); simp only [htk]; (repeat (first | exact Prm.nil _ | exact Rem.here _ _ | apply Rem.there | apply Prm.cons)); done)
    | (refine QW_round ⟨j + 1, g', cap', r', l ++ [(((snx sns2 (j + 1) : Nat) : Int), .bool true, c)], c + 1⟩ ⟨by simp only; omega, by simp only [htk]; rw [← Nat.mul_one cap']; exact hl', (by intro p hp; rcases List.mem_append.1 hp with hp | hp; (obtain ⟨i, hi1, hi2, hi3⟩ := hmap p hp; exact ⟨i, hi1, by simp only; omega, hi3⟩); (rw [List.mem_singleton.1 hp]; exact ⟨j + 1, by omega, by simp only; omega, rfl⟩))⟩ (by simp only; omega) ?_ (.cons rfl (.cons rfl (.cons rfl .nil))); simp only [htk]; (repeat (first | exact Prm.nil _ | exact Rem.here _ _ | apply Rem.there | apply Prm.cons)); done)
  refine (CW_skip (QW_lv [0,7,9] ?_))
  refine CW_region ?_
  refine RW_m ?_
  refine RW_a ?_
  refine RW_nil ?_
  refine QW_normal_block ?_
  have htk : u32s (sns2.take (j + 1)) = u32s (sns2.take j) ++ [uv (snx sns2 j)] := by
   rw [List.take_succ_eq_append_getElem hjK]; simp only [u32s, List.map_append, List.map_cons, List.map_nil]; congr 2; rw [snx_in _ hjK]; simp [List.getD_eq_getElem?_getD, hjK]
  first
   | (refine QW_round ⟨j + 1, g', cap', r', l, c⟩ ⟨by simp only; omega, by simp only [htk]; rw [← Nat.mul_one cap']; exact hl', (by intro p hp; obtain ⟨i, hi1, hi2, hi3⟩ := hmap p hp; exact ⟨i, hi1, by simp only; omega, hi3⟩)⟩ (by simp only; omega) ?_ (.cons rfl (.cons rfl (.cons rfl .nil))); simp only [htk]; (repeat (first | exact Prm.nil _ | exact Rem.here _ _ | apply Rem.there | apply Prm.cons)); done)
   | (refine QW_round ⟨j + 1, g', cap', r', l ++ [(((snx sns2 (j + 1) : Nat) : Int), .bool true, c)], c + 1⟩ ⟨by simp only; omega, by simp only [htk]; rw [← Nat.mul_one cap']; exact hl', (by intro p hp; rcases List.mem_append.1 hp with hp | hp; (obtain ⟨i, hi1, hi2, hi3⟩ := hmap p hp; exact ⟨i, hi1, by simp only; omega, hi3⟩); (rw [List.mem_singleton.1 hp]; exact ⟨j + 1, by omega, by simp only; omega, rfl⟩))⟩ (by simp only; omega) ?_ (.cons rfl (.cons rfl (.cons rfl .nil))); simp only [htk]; (repeat (first | exact Prm.nil _ | exact Rem.here _ _ | apply Rem.there | apply Prm.cons)); done)
 have hjK2 : j = sns2.length := by
  rcases Nat.lt_or_ge j sns2.length with hh | hh
  ·have := h2.small j hh
   exfalso; omega
  omega
 rw [hjK2, List.take_length] at hl
 rw [hjK2, List.take_length]
 refine CW_exit ?_
 refine QW_exit_then ?_
 refine QW_exit_then ?_
 refine QW_exit_block ?_
 refine (QW_lv [] ?_)
 refine CW_sr ?_
 refine RW_a ?_
 refine RW_lv [2] ?_
 refine CW_ret ?_
 refine QW_dropB (e := (bm, _)) rem_ ?_
 exact QW_ret1 rfl rfl (_ :: _ :: _ :: _ :: _ :: _ :: _ :: _ :: filsH br (f0 :: fr)) ⟨rfl, bm1, Tl, g2, cap2, r2, hTl, hT, hl, rfl⟩ (Prm.nil _)

end Go.Proofs.YtgoddcicbpjknaaDoor

namespace Cfb

structure Tn where
  name : List UInt8
  left : Nat
  child : Nat
  right : Nat
instance : Inhabited Tn := ⟨⟨[], 0, 0, 0⟩⟩
structure TS where
  cnt : Nat
  bad : Bool
  out : List Nat
  pth : Nat → List (List UInt8)
def TS.call (s : TS) : TS := { s with cnt := s.cnt + 1 }
def TS.wrong (s : TS) : TS := { s with bad := true }
def TS.visit (s : TS) (i : Nat) (p : List (List UInt8)) : TS := { s with out := s.out ++ [i], pth := fun k => if k = i then p else s.pth k }
def travS (es : List Tn) (go : Nat → List (List UInt8) → TS → TS) (i : Nat) (p : List (List UInt8)) (s : TS) : TS :=
  let e := es.getD i default
  let s1 := if e.left = FREE then s else go e.left p s
  let s2 := s1.visit i p
  let s3 := if e.child = FREE then s2 else go e.child (if i = 0 then p else p ++ [e.name]) s2
  if e.right = FREE then s3 else go e.right p s3
def trav (es : List Tn) : Nat → Nat → List (List UInt8) → TS → TS
  | 0, _, _, s => s.call.wrong
  | f + 1, i, p, s => if es.length < s.cnt + 1 then s.call.wrong else if es.length ≤ i then s.call.wrong else travS es (trav es f) i p s.call
theorem travS_cnt {es : List Tn} {go : Nat → List (List UInt8) → TS → TS} (h : ∀ i p s, s.cnt + 1 ≤ (go i p s).cnt) (i : Nat) (p : List (List UInt8)) (s : TS) : s.cnt ≤ (travS es go i p s).cnt := by
  unfold travS
  have hv : ∀ (s : TS) i p, (s.visit i p).cnt = s.cnt := fun _ _ _ => rfl
  have h1 : ∀ (c : Prop) [Decidable c] a p (s : TS), s.cnt ≤ (if c then s else go a p s).cnt := by
    intro c _ a p s
    split
    · exact Nat.le_refl _
    have := h a p s; omega
  simp only
  refine Nat.le_trans ?_ (h1 _ _ _ _)
  refine Nat.le_trans ?_ (h1 _ _ _ _)
  rw [hv]
  exact h1 _ _ _ _
theorem trav_cnt (es : List Tn) : ∀ f i p s, s.cnt + 1 ≤ (trav es f i p s).cnt := by
  intro f
  induction f with
  | zero => intro i p s; exact Nat.le_refl _
  | succ f ih =>
    intro i p s
    unfold trav
    split
    · exact Nat.le_refl _
    split
    · exact Nat.le_refl _
    exact travS_cnt ih i p s.call

theorem trav_le (es : List Tn) : ∀ f i p s, (es.length ≤ s.cnt → (trav es f i p s).cnt = s.cnt + 1) ∧ (s.cnt < es.length → (trav es f i p s).cnt + 2 * s.cnt ≤ 3 * es.length + 1) := by
  intro f
  induction f with
  | zero => intro i p s; exact ⟨fun _ => rfl, fun h => by show s.cnt + 1 + 2 * s.cnt ≤ _; omega⟩
  | succ f ih =>
    intro i p s
    have e0 : s.call.wrong.cnt = s.cnt + 1 := rfl
    unfold trav
    split
    · exact ⟨fun _ => rfl, fun h => by omega⟩
    split
    · exact ⟨fun _ => rfl, fun h => by rw [e0]; omega⟩
    rename_i h1 h2
    refine ⟨fun h => by omega, fun h => ?_⟩
    have hc : s.call.cnt = s.cnt + 1 := rfl
    have hv : ∀ (s : TS) i p, (s.visit i p).cnt = s.cnt := fun _ _ _ => rfl
    have S : ∀ (c : Prop) [Decidable c] a p (t : TS), (es.length ≤ t.cnt → (if c then t else trav es f a p t).cnt ≤ t.cnt + 1) ∧ (t.cnt < es.length → (if c then t else trav es f a p t).cnt = t.cnt ∨ (if c then t else trav es f a p t).cnt + 2 * t.cnt ≤ 3 * es.length + 1) ∧ t.cnt ≤ (if c then t else trav es f a p t).cnt := by
      intro c _ a p t
      have h3 := ih a p t
      have h4 := trav_cnt es f a p t
      split
      · exact ⟨fun _ => by omega, fun _ => .inl rfl, by omega⟩
      exact ⟨fun h => by have := h3.1 h; omega, fun h => .inr (h3.2 h), by omega⟩
    unfold travS
    simp only
    have a1 := S ((es.getD i default).left = FREE) (es.getD i default).left p s.call
    generalize (if (es.getD i default).left = FREE then s.call else trav es f (es.getD i default).left p s.call) = t1 at a1 ⊢
    have a2 := S ((es.getD i default).child = FREE) (es.getD i default).child (if i = 0 then p else p ++ [(es.getD i default).name]) (t1.visit i p)
    generalize (if (es.getD i default).child = FREE then t1.visit i p else trav es f (es.getD i default).child (if i = 0 then p else p ++ [(es.getD i default).name]) (t1.visit i p)) = t2 at a2 ⊢
    have a3 := S ((es.getD i default).right = FREE) (es.getD i default).right p t2
    generalize (if (es.getD i default).right = FREE then t2 else trav es f (es.getD i default).right p t2) = t3 at a3 ⊢
    rw [hv] at a2
    omega
theorem trav_max (es : List Tn) (f i : Nat) (p : List (List UInt8)) (s : TS) : (trav es f i p s).cnt ≤ 3 * es.length + 1 ∨ (trav es f i p s).cnt = s.cnt + 1 := by
  have h := trav_le es f i p s
  rcases Nat.lt_or_ge s.cnt es.length with hl | hl
  · have := h.2 hl; exact .inl om_
  exact .inr (h.1 hl)
theorem trav_out (es : List Tn) : ∀ f i p s, (trav es f i p s).out.length + s.cnt + 1 ≤ (trav es f i p s).cnt + s.out.length + 1 := by
  intro f
  induction f with
  | zero => intro i p s; show s.out.length + s.cnt + 1 ≤ s.cnt + 1 + s.out.length + 1; omega
  | succ f ih =>
    intro i p s
    have e0 : s.call.wrong.cnt = s.cnt + 1 := rfl
    have e1 : s.call.wrong.out = s.out := rfl
    unfold trav
    split
    · rw [e0, e1]; omega
    split
    · rw [e0, e1]; omega
    have hc : s.call.cnt = s.cnt + 1 := rfl
    have ho : s.call.out = s.out := rfl
    have hv : ∀ (s : TS) i p, (s.visit i p).cnt = s.cnt := fun _ _ _ => rfl
    have hw : ∀ (s : TS) i p, (s.visit i p).out.length = s.out.length + 1 := fun s i p => by show (s.out ++ [i]).length = _; simp
    have S : ∀ (c : Prop) [Decidable c] a p (t : TS), (if c then t else trav es f a p t).out.length + t.cnt ≤ (if c then t else trav es f a p t).cnt + t.out.length := by
      intro c _ a p t
      have h3 := ih a p t
      split
      · omega
      omega
    unfold travS
    simp only
    have a1 := S ((es.getD i default).left = FREE) (es.getD i default).left p s.call
    generalize (if (es.getD i default).left = FREE then s.call else trav es f (es.getD i default).left p s.call) = t1 at a1 ⊢
    have a2 := S ((es.getD i default).child = FREE) (es.getD i default).child (if i = 0 then p else p ++ [(es.getD i default).name]) (t1.visit i p)
    generalize (if (es.getD i default).child = FREE then t1.visit i p else trav es f (es.getD i default).child (if i = 0 then p else p ++ [(es.getD i default).name]) (t1.visit i p)) = t2 at a2 ⊢
    have a3 := S ((es.getD i default).right = FREE) (es.getD i default).right p t2
    generalize (if (es.getD i default).right = FREE then t2 else trav es f (es.getD i default).right p t2) = t3 at a3 ⊢
    rw [hv, hw] at a2
    rw [ho] at a1
    omega
theorem trav_lt (es : List Tn) : ∀ f i p s, (∀ k ∈ s.out, k < es.length) → ∀ k ∈ (trav es f i p s).out, k < es.length := by
  intro f
  induction f with
  | zero => intro i p s h; exact h
  | succ f ih =>
    intro i p s h
    unfold trav
    split
    · exact h
    split
    · exact h
    rename_i h1 h2
    have S : ∀ (c : Prop) [Decidable c] a p (t : TS), (∀ k ∈ t.out, k < es.length) → ∀ k ∈ (if c then t else trav es f a p t).out, k < es.length := by
      intro c _ a p t ht
      split
      · exact ht
      exact ih a p t ht
    unfold travS
    simp only
    refine S _ _ _ _ (S _ _ _ _ ?_)
    have a1 := S ((es.getD i default).left = FREE) (es.getD i default).left p s.call h
    intro k hk
    have hk' : k ∈ (if (es.getD i default).left = FREE then s.call else trav es f (es.getD i default).left p s.call).out ++ [i] := hk
    rcases List.mem_append.1 hk' with h3 | h3
    · exact a1 k h3
    rw [List.mem_singleton.1 h3]; omega

end Cfb

namespace Go.Proofs.YtgoddcicbpjknaaDoor
open Go
open Cfb

abbrev strs (ns : List (List UInt8)) : List Value := ns.map fun s => .string (bar s)
def psH : List (Nat × List (List UInt8)) → Heap
  | [] => []
  | x :: r => (x.1, blk (strs x.2) 9) :: psH r
theorem psH_mem {b : Nat} {ns : List (List UInt8)} : ∀ {ps : List (Nat × List (List UInt8))}, (b, ns) ∈ ps → (b, blk (strs ns) 9) ∈ psH ps := by
  intro ps
  induction ps with
  | nil => intro h; cases h
  | cons x r ih =>
    intro h
    rcases List.mem_cons.1 h with rfl | h
    · exact List.Mem.head _
    exact List.Mem.tail _ (ih h)
section
variable {br : Nat}
theorem filsH_mem1 : ∀ {fs : List Fil} {k : Nat} {f : Fil}, fs[k]? = some f → enB br f.bf f.bd f.en ∈ filsH br fs := by
  intro fs
  induction fs with
  | nil => intro k f h; simp at h
  | cons x r ih =>
    intro k f h
    cases k with
    | zero => simp at h; subst h; exact List.Mem.head _
    | succ k => simp at h; exact List.Mem.tail _ (List.Mem.tail _ (ih h))
theorem filsH_mem2 : ∀ {fs : List Fil} {k : Nat} {f : Fil}, fs[k]? = some f → (f.bd, blk f.en.dc 112) ∈ filsH br fs := by
  intro fs
  induction fs with
  | nil => intro k f h; simp at h
  | cons x r ih =>
    intro k f h
    cases k with
    | zero => simp at h; subst h; exact List.Mem.tail _ (List.Mem.head _)
    | succ k => simp at h; exact List.Mem.tail _ (List.Mem.tail _ (ih h))
theorem filsH_rep {e' : En} : ∀ {fs : List Fil} {k : Nat} {f : Fil}, fs[k]? = some f → e'.dc = f.en.dc → Rep (filsH br fs) (enB br f.bf f.bd f.en) (enB br f.bf f.bd e') (filsH br (fs.set k ⟨f.bf, f.bd, e'⟩)) := by
  intro fs
  induction fs with
  | nil => intro k f h; simp at h
  | cons x r ih =>
    intro k f h he
    cases k with
    | zero =>
      simp at h; subst h
      simp only [List.set_cons_zero, filsH, he]
      exact Rep.here _ _ _
    | succ k =>
      simp at h
      simp only [List.set_cons_succ, filsH]
      exact Rep.there _ (Rep.there _ (ih h he))
end
theorem rep_app {H H' : Heap} {x y : Nat × Obj} (h : Rep H x y H') (G : Heap) : Rep (H ++ G) x y (H' ++ G) := by
  induction h with
  | here x y H => exact Rep.here _ _ _
  | there z h ih => exact Rep.there _ ih
theorem perm_ps (x : Nat × Obj) (L A B F : Heap) : (x :: (L ++ ((A ++ B) ++ F))).Perm (L ++ ((A ++ (x :: B)) ++ F)) := by
  have h1 : (A ++ (x :: B)).Perm (x :: (A ++ B)) := List.perm_middle
  have h2 : (L ++ ((A ++ (x :: B)) ++ F)).Perm (L ++ ((x :: (A ++ B)) ++ F)) := List.Perm.append_left L (List.Perm.append_right F h1)
  exact (h2.trans List.perm_middle).symm
theorem path_cells (p : List (List UInt8)) (nm : List UInt8) (z : Value) : (spl 0 (((strs p).drop 0).take (min p.length (p.length + 1) * 1)) (List.replicate (p.length + 1) z)).set p.length (.string (bar nm)) = strs (p ++ [nm]) := by
  have e1 : ((strs p).drop 0).take (min p.length (p.length + 1) * 1) = strs p := by
    rw [List.drop_zero, Nat.mul_one, Nat.min_eq_left om_, List.take_of_length_le (by simp)]
  rw [e1]
  unfold spl
  simp only [List.take_zero, List.nil_append, List.length_map, Nat.zero_add, List.drop_replicate]
  rw [show p.length + 1 - p.length = 1 by omega, List.set_append_right _ _ (by simp)]
  simp [strs]
structure LinkOk (es : List Tn) (e0 : List En) : Prop where
  len : e0.length = es.length
  lnk : ∀ k e, e0[k]? = some e → e.dc[35]? = some (uv (es.getD k default).left) ∧ e.dc[36]? = some (uv (es.getD k default).right) ∧ e.dc[37]? = some (uv (es.getD k default).child) ∧ e.nm = (es.getD k default).name
  lt : ∀ k, k < es.length → (es.getD k default).left ≤ 4294967295 ∧ (es.getD k default).right ≤ 4294967295 ∧ (es.getD k default).child ≤ 4294967295
def En.noPath (e : En) : En := { e with path := .nilIface }
structure TOk (bfs : List Nat) (e0 : List En) (s : TS) (fs : List Fil) (ps : List (Nat × List (List UInt8))) (er : Value) : Prop where
  bf : fs.map Fil.bf = bfs
  rest : fs.map (fun f => f.en.noPath) = e0.map En.noPath
  out : s.out.length ≤ s.cnt
  path : ∀ k ∈ s.out, ∀ f, fs[k]? = some f → ∃ b, (b, s.pth k) ∈ ps ∧ f.en.path = .slice (some ⟨b, 0, none⟩) (s.pth k).length (s.pth k).length
  err : (s.bad = false ∧ er = .nilIface) ∨ (s.bad = true ∧ ∃ (m : ByteArray) (x : Int), er = .iface 123 (.agg [.int .i64 4, .string m, .int .i64 x].toArray))
theorem TOk.at {bfs : List Nat} {es : List Tn} {e0 : List En} {s : TS} {fs : List Fil} {ps : List (Nat × List (List UInt8))} {er : Value} (h : TOk bfs e0 s fs ps er) (hl : LinkOk es e0) {i : Nat} (hi : i < es.length) :
    ∃ bd e, fs[i]? = some ⟨bfs.getD i 0, bd, e⟩ ∧ e.dc[35]? = some (uv (es.getD i default).left) ∧ e.dc[36]? = some (uv (es.getD i default).right) ∧ e.dc[37]? = some (uv (es.getD i default).child) ∧ e.nm = (es.getD i default).name := by
  have hlen : fs.length = e0.length := by have := congrArg List.length h.rest; simpa using this
  have hif : i < fs.length := by rw [hlen, hl.len]; exact hi
  have h0 : i < e0.length := by omega
  obtain ⟨f, hf⟩ : ∃ f, fs[i]? = some f := ⟨_, List.getElem?_eq_getElem hif⟩
  have hb : f.bf = bfs.getD i 0 := by
    rw [← h.bf]; simp [List.getD_eq_getElem?_getD, hf]
  have hr : f.en.noPath = (e0[i]).noPath := by
    have := congrArg (fun l => l[i]?) h.rest
    simp only [List.getElem?_map, hf, List.getElem?_eq_getElem h0, Option.map_some, Option.some.injEq] at this
    exact this
  have hdc : f.en.dc = (e0[i]).dc := by have := congrArg En.dc hr; exact this
  have hnm : f.en.nm = (e0[i]).nm := by have := congrArg En.nm hr; exact this
  obtain ⟨a, b, c, d⟩ := hl.lnk i _ (List.getElem?_eq_getElem h0)
  refine ⟨f.bd, f.en, ?_, by rw [hdc]; exact a, by rw [hdc]; exact b, by rw [hdc]; exact c, by rw [hnm]; exact d⟩
  rw [hf, ← hb]
theorem TOk.call {bfs : List Nat} {e0 : List En} {s : TS} {fs : List Fil} {ps : List (Nat × List (List UInt8))} {er : Value} (h : TOk bfs e0 s fs ps er) : TOk bfs e0 s.call fs ps er :=
  ⟨h.bf, h.rest, by have := h.out; show s.out.length ≤ s.cnt + 1; omega, h.path, h.err⟩
theorem TOk.wrong {bfs : List Nat} {e0 : List En} {s : TS} {fs : List Fil} {ps : List (Nat × List (List UInt8))} {er : Value} (h : TOk bfs e0 s fs ps er) (m : ByteArray) (x : Int) : TOk bfs e0 s.call.wrong fs ps (.iface 123 (.agg [.int .i64 4, .string m, .int .i64 x].toArray)) :=
  ⟨h.bf, h.rest, by have := h.out; show s.out.length ≤ s.cnt + 1; omega, h.path, .inr ⟨rfl, m, x, rfl⟩⟩
theorem TOk.visit {bfs : List Nat} {e0 : List En} {s : TS} {fs : List Fil} {ps : List (Nat × List (List UInt8))} {er : Value} (h : TOk bfs e0 s fs ps er) {i b bd : Nat} {e : En} {p : List (List UInt8)} (ho : s.out.length + 1 ≤ s.cnt) (hb : (b, p) ∈ ps) (hf : fs[i]? = some ⟨bfs.getD i 0, bd, e⟩) :
    TOk bfs e0 (s.visit i p) (fs.set i ⟨bfs.getD i 0, bd, { e with path := .slice (some ⟨b, 0, none⟩) p.length p.length }⟩) ps er := by
  have hi : i < fs.length := by
    rcases Nat.lt_or_ge i fs.length with h1 | h1
    · exact h1
    simp [List.getElem?_eq_none h1] at hf
  have hg : fs[i] = ⟨bfs.getD i 0, bd, e⟩ := by rw [List.getElem?_eq_getElem hi] at hf; exact Option.some.inj hf
  refine ⟨?_, ?_, ?_, ?_, h.err⟩
  · rw [List.map_set, ← h.bf]
    apply List.ext_getElem?
    intro k
    rw [List.getElem?_set]
    split
    · rename_i e1
      subst e1
      rw [if_pos (by simpa using hi), List.getElem?_map, List.getElem?_eq_getElem hi, hg]
      simp only [Option.map_some, h.bf]
    rfl
  · rw [List.map_set, ← h.rest]
    apply List.ext_getElem?
    intro k
    rw [List.getElem?_set]
    split
    · rename_i e1
      subst e1
      rw [if_pos (by simpa using hi), List.getElem?_map, List.getElem?_eq_getElem hi, hg]
      rfl
    rfl
  · show (s.out ++ [i]).length ≤ s.cnt
    simp; omega
  intro k hk f hfk
  by_cases e1 : k = i
  · subst e1
    rw [List.getElem?_set_self hi] at hfk
    cases hfk
    refine ⟨b, ?_, ?_⟩
    · show (b, if k = k then p else s.pth k) ∈ ps
      rw [if_pos rfl]; exact hb
    show _ = Value.slice (some ⟨b, 0, none⟩) (if k = k then p else s.pth k).length (if k = k then p else s.pth k).length
    rw [if_pos rfl]
  rw [List.getElem?_set_ne om_] at hfk
  have hk' : k ∈ s.out := by
    have hk2 : k ∈ s.out ++ [i] := hk
    rcases List.mem_append.1 hk2 with h1 | h1
    · exact h1
    exact absurd (List.mem_singleton.1 h1) e1
  obtain ⟨b', h1, h2⟩ := h.path k hk' f hfk
  refine ⟨b', ?_, ?_⟩
  · show (b', if k = i then p else s.pth k) ∈ ps
    rw [if_neg e1]; exact h1
  show _ = Value.slice (some ⟨b', 0, none⟩) (if k = i then p else s.pth k).length (if k = i then p else s.pth k).length
  rw [if_neg e1]; exact h2
theorem TOk.more {bfs : List Nat} {e0 : List En} {s : TS} {fs : List Fil} {ps ps' : List (Nat × List (List UInt8))} {er : Value} (h : TOk bfs e0 s fs ps er) (hs : ∀ x ∈ ps, x ∈ ps') : TOk bfs e0 s fs ps' er :=
  ⟨h.bf, h.rest, h.out, fun k hk f hf => by obtain ⟨b, h1, h2⟩ := h.path k hk f hf; exact ⟨b, hs _ h1, h2⟩, h.err⟩
abbrev outs (bfs : List Nat) (o : List Nat) : List Value := o.map fun k => pv (bfs.getD k 0)

def TCt (br bs ss g n capn bc bR be bF : Nat) (buf hdr wa : Value) (rn : List Value) (bfs : List Nat) (es : List Tn) (e0 : List En) (i : Nat) (p : List (List UInt8)) (s T : TS) : Prop :=
 ∀ (bp : Nat) (fs : List Fil) (ps : List (Nat × List (List UInt8))) (bo capo : Nat) (ro : List Value) (er : Value), TOk bfs e0 s fs ps er → (bp, p) ∈ ps → (outs bfs s.out ++ ro).length = capo →
  Ct Tryd.prog 61 [nv i, .slice (some ⟨bp, 0, none⟩) p.length p.length, pv bc, pv bR, pv be, pv bF] ((bc, blk [nv s.cnt] 3) :: (bR, blk [pv br] 78) :: (be, blk [er] 105) :: (bF, blk [.func (.func 61) #[] #[pv bc, pv bR, pv be, pv bF]] 77) :: (br, blk (rdF bs ss buf hdr (.slice (some ⟨bo, 0, none⟩) (s.out).length capo) (.slice (some ⟨g, 0, none⟩) n capn) wa) 89) :: (g, blk (bfs.map pv ++ rn) 90) :: (bo, blk (outs bfs s.out ++ ro) 90) :: (filsH br fs ++ psH ps))
   (fun v q => v = .tuple #[] ∧ ∃ fs' ps' bo' capo' ro' er', TOk bfs e0 T fs' ps' er' ∧ (∀ x ∈ ps, x ∈ ps') ∧ (outs bfs T.out ++ ro').length = capo' ∧ q = (bc, blk [nv T.cnt] 3) :: (bR, blk [pv br] 78) :: (be, blk [er'] 105) :: (bF, blk [.func (.func 61) #[] #[pv bc, pv bR, pv be, pv bF]] 77) :: (br, blk (rdF bs ss buf hdr (.slice (some ⟨bo', 0, none⟩) (T.out).length capo') (.slice (some ⟨g, 0, none⟩) n capn) wa) 89) :: (g, blk (bfs.map pv ++ rn) 90) :: (bo', blk (outs bfs T.out ++ ro') 90) :: (filsH br fs' ++ psH ps'))
structure TrS where
 fs : List Fil
 ps : List (Nat × List (List UInt8))
 bo : Nat
 capo : Nat
 ro : List Value
 er : Value
theorem outs_visit (bfs : List Nat) (s : TS) (i : Nat) (p : List (List UInt8)) : outs bfs (s.visit i p).out = outs bfs s.out ++ [pv (bfs.getD i 0)] := by simp [TS.visit]
theorem trav_step (br bs ss g n capn bc bR be bF : Nat) (buf hdr wa : Value) (rn : List Value) (bfs : List Nat) (es : List Tn) (e0 : List En) (hlbf : bfs.length = es.length) (hn : n = es.length) (hN : es.length ≤ 100000) (hL : LinkOk es e0) (i : Nat) (p : List (List UInt8)) (s T : TS) (go : Nat → List (List UInt8) → TS → TS) (hp100 : p.length ≤ s.cnt) (hcnt : s.cnt ≤ 4000000) (hi63 : i ≤ 4294967295)
  (h1 : es.length < s.cnt + 1 → T = s.call.wrong) (h2 : ¬ es.length < s.cnt + 1 → es.length ≤ i → T = s.call.wrong) (h3 : ¬ es.length < s.cnt + 1 → ¬ es.length ≤ i → T = travS es go i p s.call)
  (hgo : ∀ i' p' s', s.cnt + 1 ≤ es.length → s.cnt + 1 ≤ s'.cnt → s'.cnt ≤ 4000000 → p'.length ≤ s'.cnt → i' ≤ 4294967295 → TCt br bs ss g n capn bc bR be bF buf hdr wa rn bfs es e0 i' p' s' (go i' p' s'))
  (hq1 : ∀ i p s, s.cnt + 1 ≤ (go i p s).cnt) (hq2 : ∀ i p s, (go i p s).out.length + s.cnt ≤ (go i p s).cnt + s.out.length) (hq3 : ∀ i p s, (go i p s).cnt ≤ 3 * es.length + 1 ∨ (go i p s).cnt = s.cnt + 1) : TCt br bs ss g n capn bc bR be bF buf hdr wa rn bfs es e0 i p s T := by
 unfold TCt
 intro bp fs ps0 bo capo ro er hT hbp hlo
 have ho0 := hT.out
 refine Ct_of Tryd.func61 rfl Tryd.ntmps61 rfl ?_
 intro E F
 simp only [numL, List.nil_append, List.cons_append]
 refine CW_sr ?_
 refine RW_h (Yh_ld sc_3) ?_
 refine RW_l (Yl_add (c := ((s.cnt + 1 : Nat) : Int)) rfl rfl (wi64 om_ om_)) ?_
 refine RW_fx0 rfl rfl (Fx_store (v := nv (s.cnt + 1)) rfl rfl sz_3 rfl rep_ (by simp)) ?_
 rintro _ _ rfl
 refine RW_lv [0,1,2,3,4,5] ?_
 refine CW_seq ?_
 refine CW_seq ?_
 refine CW_draw [] _ mixed (Sub.refl _) ?_
 refine RD_h (i := 0) #[false, true, true, true, true, true, false] rfl rfl rfl rfl kr_ (fun _ _ _ h => h) (Yh_ld (v := nv (s.cnt + 1)) sc_3) ?_
 refine RD_h (i := 1) #[true, false, false, false, false, false, false] rfl rfl rfl rfl kr_ (fun _ _ _ h => h) (Yh_ld sc_78) ?_
 refine RD_n 2 ?_
 refine RD_f 3 fo_89_5 ?_
 refine RD_h (i := 4) #[true, true, true, true, false, false, false] rfl rfl rfl rfl kr_ (fun _ _ _ h => h) (Yh_ld sc_83) ?_
 refine RD_l 5 rfl (Yl_len rfl sl_83) ?_
 refine RD_l 6 rfl (Yl_gtr rfl rfl) ?_
 refine (RD_done kr_ (QW_lv [0,1,3,4,5,18] ?_))
 refine CW_cd rfl (fun hc1 => ?_) (fun hc1 => ?_)
 ·have hov : es.length < s.cnt + 1 := by omega
  obtain rfl := h1 hov
  refine CW_sr ?_
  refine RW_m ?_
  refine RW_l (Yl_build (cs := [.int .i64 4, .string ⟨#[116, 114, 97, 118, 101, 114, 115, 97, 108, 32, 99, 111, 117, 110, 116, 101, 114, 32, 111, 118, 101, 114, 102, 108, 111, 119]⟩, nv i]) pl_123 ze_123 rfl rfl) ?_
  refine RW_l (Yl_iface rfl co_123) ?_
  refine RW_fx0 rfl rfl (Fx_store rfl rfl sz_105 rfl rep_ (by simp)) ?_
  rintro _ _ rfl
  refine RW_lv [] ?_
  refine CW_ret ?_
  refine QW_ret_then ?_
  first
   | exact QW_ret0 rfl (_ :: _ :: _ :: _ :: _ :: _ :: _ :: (filsH br fs ++ psH ps0)) ⟨rfl, fs, ps0, bo, capo, ro, _, hT.wrong _ _, fun _ h => h, hlo, rfl⟩ (Prm.nil _)
   | exact QW_end0 rfl (_ :: _ :: _ :: _ :: _ :: _ :: _ :: (filsH br fs' ++ psH ps')) ⟨rfl, fs', ps', bo', capo', ro', er', hT', fun x hx => hsub' x (hsub x hx), hl', rfl⟩ (Prm.nil _)
   | (rw [hTT']; exact QW_end0 rfl (_ :: _ :: _ :: _ :: _ :: _ :: _ :: (filsH br fs ++ psH ps)) ⟨rfl, fs, ps, bo, capo, ro, er, hT, hsub, hlo, rfl⟩ (Prm.nil _))
 have hov : ¬ es.length < s.cnt + 1 := by omega
 refine (CW_skip (QW_lv [0,1,3,4,5] ?_))
 refine CW_seq ?_
 refine CW_sr ?_
 refine RW_m ?_
 refine RW_l (Yl_lss rfl rfl) ?_
 refine RW_m ?_
 refine RW_bool 24 rfl (fun hg2 => ?_) (fun hg2 => ?_)
 ·replace hg2 := of_decide_eq_true hg2
  exfalso; omega
 replace hg2 := of_decide_eq_false hg2
 refine RW_gy rfl rfl rfl (Yl.h (Yl_move rfl)) ?_
 refine RW_gy rfl rfl rfl (Yh_ld sc_78) ?_
 refine RW_gy rfl rfl rfl (Yl.h (Yl_nilCheck rfl)) ?_
 refine RW_gy rfl rfl rfl (Yl.h (Yl_field rfl fo_89_5)) ?_
 refine RW_gy rfl rfl rfl (Yh_ld sc_83) ?_
 refine RW_gy rfl rfl rfl (Yl.h (Yl_len rfl sl_83)) ?_
 refine RW_gy rfl rfl rfl (Yl.h (Yl_geq rfl rfl)) ?_
 refine RW_l (Yl_pick_f rfl rfl) ?_
 refine RW_lv [0,1,3,4,5,32] ?_
 refine CW_cd rfl (fun hc3 => ?_) (fun hc3 => ?_)
 ·have hil : es.length ≤ i := by omega
  obtain rfl := h2 hov hil
  refine CW_sr ?_
  refine RW_m ?_
  refine RW_l (Yl_build (cs := [.int .i64 4, .string ⟨#[105, 108, 108, 101, 103, 97, 108, 32, 116, 114, 97, 118, 101, 114, 115, 97, 108, 32, 105, 110, 100, 101, 120]⟩, nv i]) pl_123 ze_123 rfl rfl) ?_
  refine RW_l (Yl_iface rfl co_123) ?_
  refine RW_fx0 rfl rfl (Fx_store rfl rfl sz_105 rfl rep_ (by simp)) ?_
  rintro _ _ rfl
  refine RW_lv [] ?_
  refine CW_ret ?_
  refine QW_ret_then ?_
  first
   | exact QW_ret0 rfl (_ :: _ :: _ :: _ :: _ :: _ :: _ :: (filsH br fs ++ psH ps0)) ⟨rfl, fs, ps0, bo, capo, ro, _, hT.wrong _ _, fun _ h => h, hlo, rfl⟩ (Prm.nil _)
   | exact QW_end0 rfl (_ :: _ :: _ :: _ :: _ :: _ :: _ :: (filsH br fs' ++ psH ps')) ⟨rfl, fs', ps', bo', capo', ro', er', hT', fun x hx => hsub' x (hsub x hx), hl', rfl⟩ (Prm.nil _)
   | (rw [hTT']; exact QW_end0 rfl (_ :: _ :: _ :: _ :: _ :: _ :: _ :: (filsH br fs ++ psH ps)) ⟨rfl, fs, ps, bo, capo, ro, er, hT, hsub, hlo, rfl⟩ (Prm.nil _))
 have hil : ¬ es.length ≤ i := by omega
 refine (CW_skip (QW_lv [0,1,3,5] ?_))
 refine CW_seq ?_
 obtain ⟨e, hee⟩ : ∃ e, e = es.getD i default := ⟨_, rfl⟩
 obtain ⟨hll, hlr, hlc⟩ := hL.lt i om_
 rw [← hee] at hll hlr hlc
 have hbi : (bfs.map pv ++ rn)[i]? = some (pv (bfs.getD i 0)) := by rw [List.getElem?_append_left (by simp; omega)]; simp [List.getD_eq_getElem?_getD, show i < bfs.length by omega]
 have hcc : s.call.cnt = s.cnt + 1 := rfl
 have hco : s.call.out = s.out := rfl
 obtain ⟨s1, hs1⟩ : ∃ x, x = (if e.left = FREE then s.call else go e.left p s.call) := ⟨_, rfl⟩
 have hb1 : s.cnt + 1 ≤ s1.cnt ∧ s1.cnt ≤ 400000 ∧ s1.out.length + (s.cnt + 1) ≤ s1.cnt + s.out.length := by
  have a1 := hq1 e.left p s.call
  have a2 := hq2 e.left p s.call
  have a3 := hq3 e.left p s.call
  rw [hco] at a2
  rw [hs1]
  split
  ·exact ⟨Nat.le_refl _, by omega, by rw [hco, hcc]; omega⟩
  exact ⟨by omega, by omega, by omega⟩
 refine CW_region ?_
 refine RW_h (Yh_ld sc_78) ?_
 refine RW_n ?_
 refine RW_f fo_89_5 ?_
 refine RW_h (Yh_ld sc_83) ?_
 refine RW_m ?_
 refine RW_l (Yl_indexN (b := g) (off := 0) (i := i) (o' := i) rfl rfl sl_83 om_ om_) ?_
 refine RW_h (Yh_lh (v := pv (bfs.getD i 0)) sc_90 hbi) ?_
 refine RW_a ?_
 refine RW_lv [0,1,3,5,8] ?_
 refine CW_cut (σ := TrS) (fun q => [(0, nv i), (1, .slice (some ⟨bp, 0, none⟩) p.length p.length), (3, pv bR), (5, pv bF), (8, pv (bfs.getD i 0))]) (fun q => (bc, blk [nv s1.cnt] 3) :: (bR, blk [pv br] 78) :: (be, blk [q.er] 105) :: (bF, blk [.func (.func 61) #[] #[pv bc, pv bR, pv be, pv bF]] 77) :: (br, blk (rdF bs ss buf hdr (.slice (some ⟨q.bo, 0, none⟩) (s1.out).length q.capo) (.slice (some ⟨g, 0, none⟩) n capn) wa) 89) :: (g, blk (bfs.map pv ++ rn) 90) :: (q.bo, blk (outs bfs s1.out ++ q.ro) 90) :: ((filsH br q.fs ++ psH q.ps) ++ F)) (fun q => (TOk bfs e0 s1 q.fs q.ps q.er ∧ (∀ x ∈ ps0, x ∈ q.ps) ∧ (outs bfs s1.out ++ q.ro).length = q.capo)) ?_ ?_
 ·skip
  refine CW_seq ?_
  obtain ⟨bd, en, hf, hl, hr, hch, hnm⟩ := hT.at hL (show i < es.length by omega)
  rw [← hee] at hl hr hch hnm
  have hm1 : (bfs.getD i 0, blk (fiF en.nm en.ini en.path en.size en.pos en.cur en.rem bd br) 93) ∈ (filsH br fs ++ psH ps0) ++ F := List.mem_append_left _ (List.mem_append_left _ (filsH_mem1 (br := br) hf))
  have hm2 : (bd, blk en.dc 112) ∈ (filsH br fs ++ psH ps0) ++ F := List.mem_append_left _ (List.mem_append_left _ (filsH_mem2 (br := br) hf))
  refine CW_region ?_
  refine RW_m ?_
  refine RW_n ?_
  refine RW_f fo_93_7 ?_
  refine RW_h (Yh_load (v := pv bd) rfl sc_91 (by repeat (first | exact hm1 | exact hm2 | exact List.Mem.head _ | apply List.Mem.tail)) rfl) ?_
  refine RW_n ?_
  refine RW_f fo_112_4 ?_
  refine RW_h (Yh_load (v := uv e.left) rfl sc_67 (by repeat (first | exact hm1 | exact hm2 | exact List.Mem.head _ | apply List.Mem.tail)) hl) ?_
  refine RW_l (Yl_neq rfl rfl) ?_
  refine RW_lv [0,1,3,5,8,50] ?_
  refine CW_cd rfl (fun hc4 => ?_) (fun hc4 => ?_)
  ·have hs1' : s1 = go e.left p s.call := by rw [hs1]; exact if_neg (show ¬ e.left = 4294967295 by omega)
   have hih := hgo e.left (p) s.call om_ om_ om_ (by skip; omega) om_ bp fs ps0 bo capo ro er hT.call hbp hlo
   rw [← hs1'] at hih
   refine CW_draw [10] _ mixed (Sub.refl _) ?_
   refine RD_m 1 ?_
   refine RD_n 2 ?_
   refine RD_f 3 fo_93_7 ?_
   refine RD_m 9 ?_
   refine RD_h (i := 0) #[false, true, true, true, true, true, true, true, true, true, false] rfl rfl rfl rfl kr_ (fun _ _ _ h => h) (Yh_ld sc_77) ?_
   refine RD_h (i := 4) #[true, true, true, true, false, false, false, false, false, true, false] rfl rfl rfl rfl kr_ (fun _ _ _ h => h) (Yh_load (v := pv bd) rfl sc_91 (by repeat (first | exact hm1 | exact hm2 | exact List.Mem.head _ | apply List.Mem.tail)) rfl) ?_
   refine RD_n 5 ?_
   refine RD_f 6 fo_112_4 ?_
   refine RD_h (i := 7) #[true, true, true, true, true, true, true, false, false, true, false] rfl rfl rfl rfl kr_ (fun _ _ _ h => h) (Yh_load (v := uv e.left) rfl sc_67 (by repeat (first | exact hm1 | exact hm2 | exact List.Mem.head _ | apply List.Mem.tail)) hl) ?_
   refine RD_l 8 rfl (Yl_conv (c := ((e.left : Nat) : Int)) rfl in_67 in_3 (wi64 om_ om_)) ?_
   refine RD_o 10 ?_
   refine RO_fx rfl rfl rfl rfl (Fx_callV ok_61 (fs := []) (cs := [pv bc, pv bR, pv be, pv bF]) (vs := [nv (e.left), .slice (some ⟨bp, 0, none⟩) p.length p.length]) rfl rfl (by exact (Pick.cons rem_ (Pick.cons rem_ (Pick.cons rem_ (Pick.cons rem_ (Pick.cons rem_ (Pick.cons rem_ (Pick.cons rem_ (pick_app _ F))))))))) hih) ?_
   rintro _ _ ⟨_, ⟨rfl, fs', ps', bo', capo', ro', er', hT', hsub', hl', rfl⟩, rfl⟩
   simp only [List.cons_append]
   refine ⟨Or.inl kr_, ?_⟩
   refine RD_done kr_ ?_
   first
    | exact QW_cut ⟨fs', ps', bo', capo', ro', er'⟩ ⟨hT', hsub', hl'⟩ (by repeat (first | exact Prm.nil _ | exact Rem.here _ _ | apply Rem.there | apply Prm.cons)) (.cons rfl (.cons rfl (.cons rfl (.cons rfl (.cons rfl .nil)))))
    | (rw [hs1']; exact QW_cut ⟨fs, ps0, bo, capo, ro, er⟩ ⟨hT.call, fun _ h => h, hlo⟩ (by repeat (first | exact Prm.nil _ | exact Rem.here _ _ | apply Rem.there | apply Prm.cons)) (.cons rfl (.cons rfl (.cons rfl (.cons rfl (.cons rfl .nil))))))
  have hs1' : s1 = s.call := by rw [hs1]; exact if_pos (show e.left = 4294967295 by omega)
  refine CW_skip ?_
  first
   | exact QW_cut ⟨fs', ps', bo', capo', ro', er'⟩ ⟨hT', hsub', hl'⟩ (by repeat (first | exact Prm.nil _ | exact Rem.here _ _ | apply Rem.there | apply Prm.cons)) (.cons rfl (.cons rfl (.cons rfl (.cons rfl (.cons rfl .nil)))))
   | (rw [hs1']; exact QW_cut ⟨fs, ps0, bo, capo, ro, er⟩ ⟨hT.call, fun _ h => h, hlo⟩ (by repeat (first | exact Prm.nil _ | exact Rem.here _ _ | apply Rem.there | apply Prm.cons)) (.cons rfl (.cons rfl (.cons rfl (.cons rfl (.cons rfl .nil))))))
 rintro ⟨fs, ps, bo, capo, ro, er⟩ ⟨hT, hsub, hlo⟩
 simp only at hT hsub hlo ⊢
 refine CW_seq ?_
 have ho1 : s1.out.length + 1 ≤ s1.cnt := by omega
 obtain ⟨bd, en, hf, hl, hr, hch, hnm⟩ := hT.at hL (show i < es.length by omega)
 rw [← hee] at hl hr hch hnm
 have hm1 : (bfs.getD i 0, blk (fiF en.nm en.ini en.path en.size en.pos en.cur en.rem bd br) 93) ∈ (filsH br fs ++ psH ps) ++ F := List.mem_append_left _ (List.mem_append_left _ (filsH_mem1 (br := br) hf))
 have hm2 : (bd, blk en.dc 112) ∈ (filsH br fs ++ psH ps) ++ F := List.mem_append_left _ (List.mem_append_left _ (filsH_mem2 (br := br) hf))
 have hrep : Rep ((filsH br fs ++ psH ps) ++ F) (bfs.getD i 0, blk (fiF en.nm en.ini en.path en.size en.pos en.cur en.rem bd br) 93) (bfs.getD i 0, blk ((fiF en.nm en.ini en.path en.size en.pos en.cur en.rem bd br).set 2 (.slice (some ⟨bp, 0, none⟩) p.length p.length)) 93) ((filsH br (fs.set i ⟨bfs.getD i 0, bd, { en with path := .slice (some ⟨bp, 0, none⟩) p.length p.length }⟩) ++ psH ps) ++ F) := rep_app (rep_app (filsH_rep (br := br) (e' := { en with path := .slice (some ⟨bp, 0, none⟩) p.length p.length }) hf rfl) _) _
 obtain ⟨s2, hs2⟩ : ∃ x, x = s1.visit i p := ⟨_, rfl⟩
 obtain ⟨s3, hs3⟩ : ∃ x, x = (if e.child = FREE then s2 else go e.child (if i = 0 then p else p ++ [e.name]) s2) := ⟨_, rfl⟩
 have hc2 : s1.cnt = s2.cnt := by rw [hs2]; rfl
 have hl2 : s1.out.length + 1 = s2.out.length := by rw [hs2]; simp [TS.visit]
 have hb3 : s2.cnt ≤ s3.cnt ∧ s3.cnt ≤ 500000 := by
  have a1 := hq1 e.child (if i = 0 then p else p ++ [e.name]) s2
  have a3 := hq3 e.child (if i = 0 then p else p ++ [e.name]) s2
  rw [hs3]
  split
  ·exact ⟨Nat.le_refl _, by omega⟩
  exact ⟨by omega, by omega⟩
 have hTT : T = if e.right = FREE then s3 else go e.right p s3 := by rw [h3 hov hil, hs3, hs2, hs1, hee]; rfl
 refine CW_draw [10] [(bR, blk [pv br] 78), (br, blk (rdF bs ss buf hdr (.slice (some ⟨bo, 0, none⟩) s1.out.length capo) (.slice (some ⟨g, 0, none⟩) n capn) wa) 89)] mixed sub_ ?_
 refine RD_m 5 ?_
 refine RD_h (i := 0) #[false, true, true, true, true, true, true, true, false, false, false] rfl rfl rfl rfl kr_ (fun _ _ _ h => h) (Yh_ld sc_78) ?_
 refine RD_h (i := 1) #[true, false, false, false, false, true, true, false, false, false, false] rfl rfl rfl rfl kr_ (fun _ _ _ h => h) (Yh_ld sc_78) ?_
 refine RD_n 2 ?_
 refine RD_f 3 fo_89_4 ?_
 refine RD_h (i := 4) #[true, true, true, true, false, true, true, false, false, false, false] rfl rfl rfl rfl kr_ (fun _ _ _ h => h) (Yh_ld sc_83) ?_
 refine RD_o 6 ?_
 refine RO_fx rfl rfl rfl rfl (Fx_litS (vs := [pv (bfs.getD i 0)]) sl_83 ze_90 rfl rfl rfl rfl rfl) ?_
 rintro _ _ ⟨b68, rfl, rfl⟩
 refine ⟨Or.inr sub_, ?_⟩
 refine RD_o 7 ?_
 refine RO_fx rfl rfl rfl rfl (Fx_appT (xs := outs bfs s1.out) (r := ro) (news := [pv (bfs.getD i 0)]) (n := s1.out.length) (cap := capo) (z0 := .pointer none) (q := 1) rfl rfl sl_83 by_90 ze_90 rfl rfl rem_ rem_ (by rw [hlo]; omega) (by simp) rfl (by simp [Value.oneCell']) om_ om_ om_) ?_
 rintro _ _ ⟨bo2, capo2, ro2, rfl, hlo2, rfl⟩
 refine ⟨Or.inr sub_, ?_⟩
 refine RD_n 8 ?_
 refine RD_f 9 fo_89_4 ?_
 refine RD_o 10 ?_
 refine RO_fx0 rfl rfl rfl (Fx_store (v := .slice (some ⟨bo2, 0, none⟩) (s1.out.length + 1) capo2) rfl rfl sz_83 rfl rep_ (by simp [rdF])) ?_
 rintro _ _ rfl
 refine ⟨Or.inl kr_, ?_⟩
 refine (RD_done kr_ (QW_lv [0,1,5,8] ?_))
 refine CW_sr ?_
 refine RW_m ?_
 refine RW_m ?_
 refine RW_n ?_
 refine RW_f fo_93_2 ?_
 refine RW_fx0 rfl rfl (Fx_store (v := .slice (some ⟨bp, 0, none⟩) p.length p.length) (b := bfs.getD i 0) (off := 2) (T := 93) (l := fiF en.nm en.ini en.path en.size en.pos en.cur en.rem bd br) rfl rfl sz_36 rfl (by repeat (first | exact hrep | apply Rep.there)) (by simp [fiF])) ?_
 rintro _ _ rfl
 refine RW_lv [0,1,5,8] ?_
 refine CW_cut (σ := TrS) (fun q => [(1, .slice (some ⟨bp, 0, none⟩) p.length p.length), (5, pv bF), (8, pv (bfs.getD i 0))]) (fun q => (bc, blk [nv s3.cnt] 3) :: (bR, blk [pv br] 78) :: (be, blk [q.er] 105) :: (bF, blk [.func (.func 61) #[] #[pv bc, pv bR, pv be, pv bF]] 77) :: (br, blk (rdF bs ss buf hdr (.slice (some ⟨q.bo, 0, none⟩) (s3.out).length q.capo) (.slice (some ⟨g, 0, none⟩) n capn) wa) 89) :: (g, blk (bfs.map pv ++ rn) 90) :: (q.bo, blk (outs bfs s3.out ++ q.ro) 90) :: ((filsH br q.fs ++ psH q.ps) ++ F)) (fun q => (TOk bfs e0 s3 q.fs q.ps q.er ∧ (∀ x ∈ ps0, x ∈ q.ps) ∧ (outs bfs s3.out ++ q.ro).length = q.capo)) ?_ ?_
 ·skip
  refine CW_seq ?_
  have hTv := hT.visit (i := i) (p := p) ho1 (hsub _ hbp) hf
  rw [← hs2] at hTv
  generalize (fs.set i ⟨bfs.getD i 0, bd, { en with path := .slice (some ⟨bp, 0, none⟩) p.length p.length }⟩) = fs at hTv ⊢
  have ho2 : outs bfs s1.out ++ [pv (bfs.getD i 0)] = outs bfs s2.out := by rw [hs2, outs_visit]
  rw [ho2] at hlo2
  rw [Nat.mul_one] at hlo2
  rw [ho2, hc2]
  simp only [hl2]
  obtain ⟨bd, en, hf, hl, hr, hch, hnm⟩ := hTv.at hL (show i < es.length by omega)
  rw [← hee] at hl hr hch hnm
  have hm1 : (bfs.getD i 0, blk (fiF en.nm en.ini en.path en.size en.pos en.cur en.rem bd br) 93) ∈ (filsH br fs ++ psH ps) ++ F := List.mem_append_left _ (List.mem_append_left _ (filsH_mem1 (br := br) hf))
  have hm2 : (bd, blk en.dc 112) ∈ (filsH br fs ++ psH ps) ++ F := List.mem_append_left _ (List.mem_append_left _ (filsH_mem2 (br := br) hf))
  refine CW_region ?_
  refine RW_m ?_
  refine RW_n ?_
  refine RW_f fo_93_7 ?_
  refine RW_h (Yh_load (v := pv bd) rfl sc_91 (by repeat (first | exact hm1 | exact hm2 | exact List.Mem.head _ | apply List.Mem.tail)) rfl) ?_
  refine RW_n ?_
  refine RW_f fo_112_6 ?_
  refine RW_h (Yh_load (v := uv e.child) rfl sc_67 (by repeat (first | exact hm1 | exact hm2 | exact List.Mem.head _ | apply List.Mem.tail)) hch) ?_
  refine RW_l (Yl_neq rfl rfl) ?_
  refine RW_lv [0,1,5,8,83] ?_
  refine CW_cd rfl (fun hc5 => ?_) (fun hc5 => ?_)
  ·have hs3' : s3 = go e.child (if i = 0 then p else p ++ [e.name]) s2 := by rw [hs3]; exact if_neg (show ¬ e.child = 4294967295 by omega)
   refine CW_sr ?_
   refine RW_m ?_
   refine RW_l (Yl_gtr rfl rfl) ?_
   refine RW_lv [1,5,8,85] ?_
   refine CW_cd rfl (fun hc6 => ?_) (fun hc6 => ?_)
   ·rw [if_neg (show ¬ i = 0 by omega)] at hs3'
    refine CW_seq ?_
    have hpm : (bp, blk (strs p) 9) ∈ (filsH br fs ++ psH ps) ++ F := List.mem_append_left _ (List.mem_append_right _ (psH_mem (hsub _ hbp)))
    refine CW_region ?_
    refine RW_m ?_
    refine RW_l (Yl_len rfl sl_36) ?_
    refine RW_l (Yl_add (c := ((p.length + 1 : Nat) : Int)) rfl rfl (wi64 om_ om_)) ?_
    refine RW_fx rfl rfl rfl (Fx_makeSlice (z0 := .string ⟨#[]⟩) (m := 1) (l := ((p.length + 1 : Nat) : Int)) (c := ((p.length + 1 : Nat) : Int)) rfl rfl sl_36 by_9 ze_9 rfl rfl om_ om_ om_ om_) ?_
    rintro _ _ ⟨bp2, rfl, rfl⟩
    simp only [Int.toNat_natCast, Nat.mul_one]
    refine RW_a ?_
    refine RW_lv [1,5,8,9] ?_
    refine CW_sr ?_
    refine RW_m ?_
    refine RW_m ?_
    refine RW_fx rfl rfl rfl (Fx_copy (b := bp2) (off := 0) (m := p.length + 1) (c := p.length + 1) (bs := bp) (offs := 0) (ms := p.length) (cs := p.length) (l := List.replicate (p.length + 1) (.string ⟨#[]⟩)) (ls := strs p) (T := 9) (Ts := 9) (fz := (0, 0)) (e := 9) (sz := 1) rfl rfl sl_36 (by repeat (first | exact hpm | exact List.Mem.head _ | apply List.Mem.tail)) (by simp) rep_ (by simp) (one_take (one_map (fun _ => rfl) p) _ _)) ?_
    rintro _ _ ⟨rfl, rfl⟩
    refine RW_lv [1,5,8,9] ?_
    refine CW_sr ?_
    refine RW_m ?_
    refine RW_m ?_
    refine RW_l (Yl_len rfl sl_36) ?_
    refine RW_l (Yl_sub (c := ((p.length : Nat) : Int)) rfl rfl (by rw [wi64 om_ om_]; omega)) ?_
    refine RW_m ?_
    refine RW_n ?_
    refine RW_f fo_93_0 ?_
    refine RW_h (Yh_load (v := .string (bar e.name)) rfl sc_9 (by repeat (first | exact hm1 | exact hm2 | exact List.Mem.head _ | apply List.Mem.tail)) (by rw [← hnm]; rfl)) ?_
    refine RW_l (Yl_indexN (b := bp2) (off := 0) (i := p.length) (o' := p.length) rfl rfl sl_36 om_ om_) ?_
    refine RW_fx0 rfl rfl (Fx_store (v := .string (bar e.name)) (b := bp2) (off := p.length) rfl rfl sz_9 rfl rep_ (by rw [length_spl] <;> simp)) ?_
    rintro _ _ rfl
    refine RW_lv [1,5,8,9] ?_
    rw [path_cells]
    refine CW_heap (perm_ps (bp2, _) [_, _, _, _, _, _, _] _ _ _) ?_
    have hsub2 : ∀ x ∈ ps, x ∈ (bp2, p ++ [e.name]) :: ps := fun x hx => List.Mem.tail _ hx
    simp only [List.cons_append, List.nil_append]
    have hm1 : (bfs.getD i 0, blk (fiF en.nm en.ini en.path en.size en.pos en.cur en.rem bd br) 93) ∈ (filsH br fs ++ psH ((bp2, p ++ [e.name]) :: ps)) ++ F := List.mem_append_left _ (List.mem_append_left _ (filsH_mem1 (br := br) hf))
    have hm2 : (bd, blk en.dc 112) ∈ (filsH br fs ++ psH ((bp2, p ++ [e.name]) :: ps)) ++ F := List.mem_append_left _ (List.mem_append_left _ (filsH_mem2 (br := br) hf))
    have hpl : (p ++ [e.name]).length = p.length + 1 := by simp
    have hih := hgo e.child (p ++ [e.name]) s2 om_ om_ om_ (by simp only [List.length_append, List.length_singleton]; omega) om_ bp2 fs ((bp2, p ++ [e.name]) :: ps) bo2 capo2 ro2 er (hTv.more hsub2) (List.Mem.head _) hlo2
    rw [← hs3'] at hih
    rw [hpl] at hih
    refine CW_draw [10] _ mixed (Sub.refl _) ?_
    refine RD_m 1 ?_
    refine RD_n 2 ?_
    refine RD_f 3 fo_93_7 ?_
    refine RD_m 9 ?_
    refine RD_h (i := 0) #[false, true, true, true, true, true, true, true, true, true, false] rfl rfl rfl rfl kr_ (fun _ _ _ h => h) (Yh_ld sc_77) ?_
    refine RD_h (i := 4) #[true, true, true, true, false, false, false, false, false, true, false] rfl rfl rfl rfl kr_ (fun _ _ _ h => h) (Yh_load (v := pv bd) rfl sc_91 (by repeat (first | exact hm1 | exact hm2 | exact List.Mem.head _ | apply List.Mem.tail)) rfl) ?_
    refine RD_n 5 ?_
    refine RD_f 6 fo_112_6 ?_
    refine RD_h (i := 7) #[true, true, true, true, true, true, true, false, false, true, false] rfl rfl rfl rfl kr_ (fun _ _ _ h => h) (Yh_load (v := uv e.child) rfl sc_67 (by repeat (first | exact hm1 | exact hm2 | exact List.Mem.head _ | apply List.Mem.tail)) hch) ?_
    refine RD_l 8 rfl (Yl_conv (c := ((e.child : Nat) : Int)) rfl in_67 in_3 (wi64 om_ om_)) ?_
    refine RD_o 10 ?_
    refine RO_fx rfl rfl rfl rfl (Fx_callV ok_61 (fs := []) (cs := [pv bc, pv bR, pv be, pv bF]) (vs := [nv (e.child), .slice (some ⟨bp2, 0, none⟩) (p.length + 1) (p.length + 1)]) rfl rfl (by exact (Pick.cons rem_ (Pick.cons rem_ (Pick.cons rem_ (Pick.cons rem_ (Pick.cons rem_ (Pick.cons rem_ (Pick.cons rem_ (pick_app _ F))))))))) hih) ?_
    rintro _ _ ⟨_, ⟨rfl, fs', ps', bo', capo', ro', er', hT', hsub', hl', rfl⟩, rfl⟩
    simp only [List.cons_append]
    refine ⟨Or.inl kr_, ?_⟩
    refine RD_done kr_ ?_
    first
     | exact QW_cut ⟨fs', ps', bo', capo', ro', er'⟩ ⟨hT', fun x hx => hsub' x (hsub2 x (hsub x hx)), hl'⟩ (by repeat (first | exact Prm.nil _ | exact Rem.here _ _ | apply Rem.there | apply Prm.cons)) (.cons rfl (.cons rfl (.cons rfl .nil)))
     | (rw [hs3']; exact QW_cut ⟨fs, ps, bo2, capo2, ro2, er⟩ ⟨hTv, hsub, hlo2⟩ (by repeat (first | exact Prm.nil _ | exact Rem.here _ _ | apply Rem.there | apply Prm.cons)) (.cons rfl (.cons rfl (.cons rfl .nil))))
   rw [if_pos (show i = 0 by omega)] at hs3'
   have hsub2 : ∀ x ∈ ps, x ∈ ps := fun x hx => hx
   have hih := hgo e.child (p) s2 om_ om_ om_ (by skip; omega) om_ bp fs ps bo2 capo2 ro2 er hTv (hsub _ hbp) hlo2
   rw [← hs3'] at hih
   refine CW_draw [10] _ mixed (Sub.refl _) ?_
   refine RD_m 1 ?_
   refine RD_n 2 ?_
   refine RD_f 3 fo_93_7 ?_
   refine RD_m 9 ?_
   refine RD_h (i := 0) #[false, true, true, true, true, true, true, true, true, true, false] rfl rfl rfl rfl kr_ (fun _ _ _ h => h) (Yh_ld sc_77) ?_
   refine RD_h (i := 4) #[true, true, true, true, false, false, false, false, false, true, false] rfl rfl rfl rfl kr_ (fun _ _ _ h => h) (Yh_load (v := pv bd) rfl sc_91 (by repeat (first | exact hm1 | exact hm2 | exact List.Mem.head _ | apply List.Mem.tail)) rfl) ?_
   refine RD_n 5 ?_
   refine RD_f 6 fo_112_6 ?_
   refine RD_h (i := 7) #[true, true, true, true, true, true, true, false, false, true, false] rfl rfl rfl rfl kr_ (fun _ _ _ h => h) (Yh_load (v := uv e.child) rfl sc_67 (by repeat (first | exact hm1 | exact hm2 | exact List.Mem.head _ | apply List.Mem.tail)) hch) ?_
   refine RD_l 8 rfl (Yl_conv (c := ((e.child : Nat) : Int)) rfl in_67 in_3 (wi64 om_ om_)) ?_
   refine RD_o 10 ?_
   refine RO_fx rfl rfl rfl rfl (Fx_callV ok_61 (fs := []) (cs := [pv bc, pv bR, pv be, pv bF]) (vs := [nv (e.child), .slice (some ⟨bp, 0, none⟩) p.length p.length]) rfl rfl (by exact (Pick.cons rem_ (Pick.cons rem_ (Pick.cons rem_ (Pick.cons rem_ (Pick.cons rem_ (Pick.cons rem_ (Pick.cons rem_ (pick_app _ F))))))))) hih) ?_
   rintro _ _ ⟨_, ⟨rfl, fs', ps', bo', capo', ro', er', hT', hsub', hl', rfl⟩, rfl⟩
   simp only [List.cons_append]
   refine ⟨Or.inl kr_, ?_⟩
   refine RD_done kr_ ?_
   first
    | exact QW_cut ⟨fs', ps', bo', capo', ro', er'⟩ ⟨hT', fun x hx => hsub' x (hsub2 x (hsub x hx)), hl'⟩ (by repeat (first | exact Prm.nil _ | exact Rem.here _ _ | apply Rem.there | apply Prm.cons)) (.cons rfl (.cons rfl (.cons rfl .nil)))
    | (rw [hs3']; exact QW_cut ⟨fs, ps, bo2, capo2, ro2, er⟩ ⟨hTv, hsub, hlo2⟩ (by repeat (first | exact Prm.nil _ | exact Rem.here _ _ | apply Rem.there | apply Prm.cons)) (.cons rfl (.cons rfl (.cons rfl .nil))))
  have hs3' : s3 = s2 := by rw [hs3]; exact if_pos (show e.child = 4294967295 by omega)
  refine CW_skip ?_
  first
   | exact QW_cut ⟨fs', ps', bo', capo', ro', er'⟩ ⟨hT', fun x hx => hsub' x (hsub2 x (hsub x hx)), hl'⟩ (by repeat (first | exact Prm.nil _ | exact Rem.here _ _ | apply Rem.there | apply Prm.cons)) (.cons rfl (.cons rfl (.cons rfl .nil)))
   | (rw [hs3']; exact QW_cut ⟨fs, ps, bo2, capo2, ro2, er⟩ ⟨hTv, hsub, hlo2⟩ (by repeat (first | exact Prm.nil _ | exact Rem.here _ _ | apply Rem.there | apply Prm.cons)) (.cons rfl (.cons rfl (.cons rfl .nil))))
 rintro ⟨fs, ps, bo, capo, ro, er⟩ ⟨hT, hsub, hlo⟩
 simp only at hT hsub hlo ⊢
 refine CW_seq ?_
 obtain ⟨bd, en, hf, hl, hr, hch, hnm⟩ := hT.at hL (show i < es.length by omega)
 rw [← hee] at hl hr hch hnm
 have hm1 : (bfs.getD i 0, blk (fiF en.nm en.ini en.path en.size en.pos en.cur en.rem bd br) 93) ∈ (filsH br fs ++ psH ps) ++ F := List.mem_append_left _ (List.mem_append_left _ (filsH_mem1 (br := br) hf))
 have hm2 : (bd, blk en.dc 112) ∈ (filsH br fs ++ psH ps) ++ F := List.mem_append_left _ (List.mem_append_left _ (filsH_mem2 (br := br) hf))
 refine CW_region ?_
 refine RW_m ?_
 refine RW_n ?_
 refine RW_f fo_93_7 ?_
 refine RW_h (Yh_load (v := pv bd) rfl sc_91 (by repeat (first | exact hm1 | exact hm2 | exact List.Mem.head _ | apply List.Mem.tail)) rfl) ?_
 refine RW_n ?_
 refine RW_f fo_112_5 ?_
 refine RW_h (Yh_load (v := uv e.right) rfl sc_67 (by repeat (first | exact hm1 | exact hm2 | exact List.Mem.head _ | apply List.Mem.tail)) hr) ?_
 refine RW_l (Yl_neq rfl rfl) ?_
 refine RW_lv [1,5,8,131] ?_
 refine CW_cd rfl (fun hc7 => ?_) (fun hc7 => ?_)
 ·have hTT' : T = go e.right p s3 := by rw [hTT]; exact if_neg (show ¬ e.right = 4294967295 by omega)
  have hih := hgo e.right (p) s3 om_ om_ om_ (by skip; omega) om_ bp fs ps bo capo ro er hT (hsub _ hbp) hlo
  rw [← hTT'] at hih
  refine CW_draw [10] _ mixed (Sub.refl _) ?_
  refine RD_m 1 ?_
  refine RD_n 2 ?_
  refine RD_f 3 fo_93_7 ?_
  refine RD_m 9 ?_
  refine RD_h (i := 0) #[false, true, true, true, true, true, true, true, true, true, false] rfl rfl rfl rfl kr_ (fun _ _ _ h => h) (Yh_ld sc_77) ?_
  refine RD_h (i := 4) #[true, true, true, true, false, false, false, false, false, true, false] rfl rfl rfl rfl kr_ (fun _ _ _ h => h) (Yh_load (v := pv bd) rfl sc_91 (by repeat (first | exact hm1 | exact hm2 | exact List.Mem.head _ | apply List.Mem.tail)) rfl) ?_
  refine RD_n 5 ?_
  refine RD_f 6 fo_112_5 ?_
  refine RD_h (i := 7) #[true, true, true, true, true, true, true, false, false, true, false] rfl rfl rfl rfl kr_ (fun _ _ _ h => h) (Yh_load (v := uv e.right) rfl sc_67 (by repeat (first | exact hm1 | exact hm2 | exact List.Mem.head _ | apply List.Mem.tail)) hr) ?_
  refine RD_l 8 rfl (Yl_conv (c := ((e.right : Nat) : Int)) rfl in_67 in_3 (wi64 om_ om_)) ?_
  refine RD_o 10 ?_
  refine RO_fx rfl rfl rfl rfl (Fx_callV ok_61 (fs := []) (cs := [pv bc, pv bR, pv be, pv bF]) (vs := [nv (e.right), .slice (some ⟨bp, 0, none⟩) p.length p.length]) rfl rfl (by exact (Pick.cons rem_ (Pick.cons rem_ (Pick.cons rem_ (Pick.cons rem_ (Pick.cons rem_ (Pick.cons rem_ (Pick.cons rem_ (pick_app _ F))))))))) hih) ?_
  rintro _ _ ⟨_, ⟨rfl, fs', ps', bo', capo', ro', er', hT', hsub', hl', rfl⟩, rfl⟩
  simp only [List.cons_append]
  refine ⟨Or.inl kr_, ?_⟩
  refine RD_done kr_ ?_
  first
   | exact QW_ret0 rfl (_ :: _ :: _ :: _ :: _ :: _ :: _ :: (filsH br fs ++ psH ps0)) ⟨rfl, fs, ps0, bo, capo, ro, _, hT.wrong _ _, fun _ h => h, hlo, rfl⟩ (Prm.nil _)
   | exact QW_end0 rfl (_ :: _ :: _ :: _ :: _ :: _ :: _ :: (filsH br fs' ++ psH ps')) ⟨rfl, fs', ps', bo', capo', ro', er', hT', fun x hx => hsub' x (hsub x hx), hl', rfl⟩ (Prm.nil _)
   | (rw [hTT']; exact QW_end0 rfl (_ :: _ :: _ :: _ :: _ :: _ :: _ :: (filsH br fs ++ psH ps)) ⟨rfl, fs, ps, bo, capo, ro, er, hT, hsub, hlo, rfl⟩ (Prm.nil _))
 have hTT' : T = s3 := by rw [hTT]; exact if_pos (show e.right = 4294967295 by omega)
 refine CW_skip ?_
 first
  | exact QW_ret0 rfl (_ :: _ :: _ :: _ :: _ :: _ :: _ :: (filsH br fs ++ psH ps0)) ⟨rfl, fs, ps0, bo, capo, ro, _, hT.wrong _ _, fun _ h => h, hlo, rfl⟩ (Prm.nil _)
  | exact QW_end0 rfl (_ :: _ :: _ :: _ :: _ :: _ :: _ :: (filsH br fs' ++ psH ps')) ⟨rfl, fs', ps', bo', capo', ro', er', hT', fun x hx => hsub' x (hsub x hx), hl', rfl⟩ (Prm.nil _)
  | (rw [hTT']; exact QW_end0 rfl (_ :: _ :: _ :: _ :: _ :: _ :: _ :: (filsH br fs ++ psH ps)) ⟨rfl, fs, ps, bo, capo, ro, er, hT, hsub, hlo, rfl⟩ (Prm.nil _))
theorem trav_ct (br bs ss g n capn bc bR be bF : Nat) (buf hdr wa : Value) (rn : List Value) (bfs : List Nat) (es : List Tn) (e0 : List En) (hlbf : bfs.length = es.length) (hn : n = es.length) (hN : es.length ≤ 100000) (hL : LinkOk es e0) : ∀ f i p s, es.length + 1 ≤ s.cnt + f → p.length ≤ s.cnt → s.cnt ≤ 4000000 → i ≤ 4294967295 → TCt br bs ss g n capn bc bR be bF buf hdr wa rn bfs es e0 i p s (trav es f i p s) := by
 intro f
 induction f with
 | zero =>
  intro i p s hf hp hc hi
  refine trav_step br bs ss g n capn bc bR be bF buf hdr wa rn bfs es e0 hlbf hn hN hL i p s _ (trav es 0) hp hc hi (fun _ => rfl) (fun h => absurd (show es.length < s.cnt + 1 by omega) h) (fun h => absurd (show es.length < s.cnt + 1 by omega) h) (fun i' p' s' h => by omega) (fun i p s => trav_cnt es 0 i p s) (fun i p s => by have := trav_out es 0 i p s; omega) (fun i p s => trav_max es 0 i p s)
 | succ f ih =>
  intro i p s hf hp hc hi
  refine trav_step br bs ss g n capn bc bR be bF buf hdr wa rn bfs es e0 hlbf hn hN hL i p s _ (trav es f) hp hc hi ?_ ?_ ?_ (fun i' p' s' h h2 h3 h4 h5 => ih i' p' s' om_ h4 h3 h5) (fun i p s => trav_cnt es f i p s) (fun i p s => by have := trav_out es f i p s; omega) (fun i p s => trav_max es f i p s)
  ·intro h; show trav es (f + 1) i p s = _; unfold trav; rw [if_pos h]
  ·intro h h'; show trav es (f + 1) i p s = _; unfold trav; rw [if_neg h, if_pos h']
  intro h h'; show trav es (f + 1) i p s = _; rw [trav, if_neg h, if_neg h']

theorem code_nil : Ct Tryd.prog 40 [.nilIface] [] (fun v q => v = nv 0 ∧ q = []) := by
 refine Ct_of Tryd.func40 rfl Tryd.ntmps40 rfl ?_
 intro E F
 simp only [numL, List.nil_append, List.cons_append]
 refine CW_sr ?_
 refine RW_a ?_
 refine RW_lv [0] ?_
 refine CW_seq ?_
 refine CW_sr ?_
 refine RW_m ?_
 refine RW_l (Yl_ifEqNil rfl if_105) ?_
 refine RW_lv [0,6] ?_
 refine CW_cond rfl (fun hc1 => ?_) (fun hc1 => ?_)
 ·skip
  refine CW_sr ?_
  refine RW_a ?_
  refine RW_lv [2] ?_
  refine CW_ret ?_
  refine QW_ret_then ?_
  exact QW_ret1 rfl rfl [] ⟨rfl, rfl⟩ (Prm.nil _)
 skip
 exact Bool.noConfusion hc1
theorem versionOf_ct (four : Bool) : Ct Tryd.prog 16 [.bool four] [] (fun v q => v = nv (if four = true then 4 else 3) ∧ q = []) := by
 refine Ct_of Tryd.func16 rfl Tryd.ntmps16 rfl ?_
 intro E F
 simp only [numL, List.nil_append, List.cons_append]
 refine CW_sr ?_
 refine RW_a ?_
 refine RW_lv [0] ?_
 refine CW_seq ?_
 refine CW_sr ?_
 refine RW_m ?_
 refine RW_lv [3] ?_
 refine CW_cond rfl (fun hc1 => ?_) (fun hc1 => ?_)
 ·skip
  refine CW_sr ?_
  refine RW_a ?_
  refine RW_lv [2] ?_
  refine CW_ret ?_
  refine QW_ret_then ?_
  first
   | exact QW_ret1 rfl rfl [] ⟨by rw [if_pos (by assumption)]; rfl, rfl⟩ (Prm.nil _)
   | exact QW_ret1 rfl rfl [] ⟨by rw [if_neg (by simp_all)]; rfl, rfl⟩ (Prm.nil _)
 skip
 refine (CW_skip (QW_lv [] ?_))
 refine CW_sr ?_
 refine RW_a ?_
 refine RW_lv [2] ?_
 refine CW_ret ?_
 first
  | exact QW_ret1 rfl rfl [] ⟨by rw [if_pos (by assumption)]; rfl, rfl⟩ (Prm.nil _)
  | exact QW_ret1 rfl rfl [] ⟨by rw [if_neg (by simp_all)]; rfl, rfl⟩ (Prm.nil _)

theorem RW_heap {P : Program} {E : World} {n : Nat} {ops : Array Oper} {L : Fra} {H H' : Heap} {rest : List Oper} {Q : Exit → Act → World → Prop} (hp : H.Perm H') (h : RW P E n ops L H' rest Q) : RW P E n ops L H rest Q := fun a w hf hh => h a w hf (hh.perm hp)
theorem Ct.conseq {P : Program} {f : FuncId} {args : List Value} {pre pre' G : Heap} {R R' : Value → Heap → Prop} (h : Ct P f args pre R) (hp : pre'.Perm (pre ++ G)) (hr : ∀ v post, R v post → ∃ post', R' v post' ∧ (post ++ G).Perm post') : Ct P f args pre' R' := by
  intro E F w hh
  have hh' : HA E w (pre ++ (G ++ F)) := by
    have := hh.perm (List.Perm.append_right F hp)
    rw [List.append_assoc] at this; exact this
  refine (h E (G ++ F) w hh').mono ?_
  rintro e w' ⟨v, post, he, hR, ha⟩
  obtain ⟨post', h1, h2⟩ := hr v post hR
  refine ⟨v, post', he, h1, ?_⟩
  rw [← List.append_assoc] at ha
  exact ha.perm (List.Perm.append_right F h2)
theorem rem_mid (a : Nat × Obj) (R : Heap) : ∀ (L : Heap), Rem (L ++ (a :: R)) a (L ++ R)
  | [] => .here _ _
  | x :: L => .there x (rem_mid a R L)
theorem pick_mid : ∀ (A L F : Heap), Pick (L ++ (A ++ F)) A (L ++ F)
  | [], L, F => .nil _
  | a :: A, L, F => .cons (rem_mid a (A ++ F) L) (pick_mid A L F)
theorem perm_ps0 (x : Nat × Obj) (L A F : Heap) : (x :: (L ++ (A ++ F))).Perm (L ++ ((A ++ [x]) ++ F)) := by
  have h := perm_ps x L A [] F
  rw [List.append_nil] at h
  exact h
def MiniOk (mi : Option (List Nat × List Nat)) (m1 m2 : Value) (X : Heap) : Prop :=
  match mi with
  | none => m1 = .slice none 0 0 ∧ m2 = .slice none 0 0 ∧ X = []
  | some s => ∃ (bm1 : Nat) (Tl : List Value) (g2 cap2 : Nat) (r2 : List Value), Tl.length = s.1.length ∧ (∀ k, k < s.1.length → Tl[k]? = some (uv (snx s.1 k))) ∧ (u32s s.2 ++ r2).length = cap2 ∧ m1 = .slice (some ⟨bm1, 0, none⟩) s.1.length s.1.length ∧ m2 = .slice (some ⟨g2, 0, none⟩) s.2.length cap2 ∧ X = [(bm1, blk Tl 67), (g2, blk (u32s s.2 ++ r2) 67)]
def MiniIn (B : List UInt8) (N ss : Nat) (hc : List Value) (st0 ml nm : Nat) : Option (List Nat × List Nat) → Prop
  | none => st0 = 4294967294
  | some s => ChOk B N ss hc s.1 ∧ ChOk B N ss hc s.2 ∧ st0 = snx s.2 0 ∧ 1 ≤ s.2.length ∧ ml = snx s.1 0 ∧ nm = s.1.length ∧ 1 ≤ nm ∧ ss / 4 * nm ≤ 64000 ∧ s.2.length ≤ 100000
theorem setMini_any (mi : Option (List Nat × List Nat)) (br bh bhf bb bs bB ss g N cN : Nat) (B : List UInt8) (rB hc lb ps : List Value) (T : TypeId) (buf file wa : Value) (n cap : Nat) (r : List Value) (fs : List Fil) (st0 ml nm : Nat) (hst : ∃ f0, fs[0]? = some f0 ∧ f0.en.dc[60]? = some (uv st0)) (hn : 0 < n)
    (hmi : MiniIn B N ss hc st0 ml nm mi) (hml : hc[41]? = some (uv ml)) (hnm : hc[42]? = some (uv nm)) (hss : 512 ≤ ss ∧ ss ≤ 4096) (hB : B.length = N) (hcN : N ≤ cN) (hN : N ≤ 1000000000) :
    Ct Tryd.prog 49 [pv br] ((br, blk (rdF bs ss buf (pv bh) file (.slice (some ⟨g, 0, none⟩) n cap) wa) 89) :: (bh, blk [pv bhf, .slice (some ⟨bhf, 45, none⟩) 109 109, .slice none 0 0, .slice none 0 0] 137) :: (bhf, blk hc 142) :: (bb, blk lb 5) :: (bs, blk [.slice (some ⟨bB, 0, none⟩) N cN] 103) :: (bB, blk (bys B ++ rB) 5) :: (2, blk ps T) :: (g, blk (ptrs fs ++ r) 90) :: filsH br fs)
      (fun v q => v = .nilIface ∧ ∃ m1 m2 X, MiniOk mi m1 m2 X ∧ q = (br, blk (rdF bs ss buf (pv bh) file (.slice (some ⟨g, 0, none⟩) n cap) wa) 89) :: (bh, blk [pv bhf, .slice (some ⟨bhf, 45, none⟩) 109 109, m1, m2] 137) :: (bhf, blk hc 142) :: (bb, blk lb 5) :: (bs, blk [.slice (some ⟨bB, 0, none⟩) N cN] 103) :: (bB, blk (bys B ++ rB) 5) :: (2, blk ps T) :: (g, blk (ptrs fs ++ r) 90) :: (filsH br fs ++ X)) := by
  obtain ⟨f0, hf0, hst⟩ := hst
  obtain ⟨fr, rfl⟩ : ∃ fr, fs = f0 :: fr := by
    cases fs with
    | nil => simp at hf0
    | cons a r => simp at hf0; subst hf0; exact ⟨r, rfl⟩
  have P1 : ∀ (a b c d e f p h : Nat × Obj) (A X : Heap), (a :: b :: c :: d :: e :: f :: p :: h :: A).Perm ((a :: b :: h :: A) ++ [c, d, e, f, p]) := by
    intro a b c d e f p h A X
    have h1 : ((a :: b :: h :: A) ++ [c, d, e, f, p]).Perm (a :: b :: h :: ([c, d, e, f, p] ++ A)) := ((List.perm_append_comm).cons h |>.cons b).cons a
    have h2 : (h :: ([c, d, e, f, p] ++ A)).Perm ([c, d, e, f, p] ++ (h :: A)) := (List.perm_middle (l₁ := [c, d, e, f, p])).symm
    exact (h1.trans ((h2.cons b).cons a)).symm
  cases mi with
  | none =>
    have h0 : st0 = 4294967294 := hmi
    refine (setMini0_ct br bh bhf bs bB ss g N cN B rB hc buf file wa (.slice none 0 0) (.slice none 0 0) n cap r f0 fr st0 hst hn h0).conseq (P1 _ _ _ _ _ _ _ _ _ []) ?_
    rintro v post ⟨rfl, rfl⟩
    refine ⟨_, ⟨rfl, .slice none 0 0, .slice none 0 0, [], ⟨rfl, rfl, rfl⟩, rfl⟩, ?_⟩
    rw [List.append_nil]
    exact (P1 _ _ _ _ _ _ _ _ _ []).symm
  | some s =>
    obtain ⟨h1, h2, h3, h4, h5, h6, h7, h8, h9⟩ := hmi
    have hq : 128 ≤ ss / 4 := by omega
    have hnm4 : nm ≤ 64000 := by
      have := Nat.mul_le_mul_right nm hq
      omega
    have P2 : ∀ (a b c d e f p h : Nat × Obj) (A : Heap), (a :: b :: c :: d :: e :: f :: p :: h :: A).Perm ((a :: b :: c :: e :: f :: h :: A) ++ [d, p]) := by
      intro a b c d e f p h A
      have e1 : ((a :: b :: c :: e :: f :: h :: A) ++ [d, p]).Perm ([a, b, c, e, f, h] ++ ([d, p] ++ A)) := List.Perm.append_left [a, b, c, e, f, h] List.perm_append_comm
      have e2 : ([a, b, c, e, f, h] ++ ([d, p] ++ A)).Perm (a :: b :: c :: d :: e :: f :: p :: h :: A) := by
        refine (((List.Perm.cons _ (List.Perm.cons _ (List.Perm.cons _ ?_)))))
        show (e :: f :: h :: d :: p :: A).Perm (d :: e :: f :: p :: h :: A)
        have q1 : (e :: f :: h :: d :: p :: A).Perm (d :: e :: f :: h :: p :: A) := List.perm_middle (l₁ := [e, f, h]) (a := d) (l₂ := p :: A)
        refine q1.trans ((List.Perm.cons _ (List.Perm.cons _ (List.Perm.cons _ ?_))))
        exact List.Perm.swap _ _ _
      exact (e1.trans e2).symm
    refine (setMini_ct br bh bhf bs bB ss g N cN B rB hc buf file wa n cap r f0 fr hn s.1 s.2 ml nm h1 h2 (by rw [← h3]; exact hst) h4 h5 h6 h7 hml hnm h8 hnm4 h9 hss hB hcN hN).conseq (P2 _ _ _ _ _ _ _ _ _) ?_
    rintro v post ⟨rfl, bm1, Tl, g2, cap2, r2, t1, t2, t3, rfl⟩
    subst h6
    refine ⟨_, ⟨rfl, .slice (some ⟨bm1, 0, none⟩) s.1.length s.1.length, .slice (some ⟨g2, 0, none⟩) s.2.length cap2, [(bm1, blk Tl 67), (g2, blk (u32s s.2 ++ r2) 67)], ⟨bm1, Tl, g2, cap2, r2, t1, t2, t3, rfl, rfl, rfl⟩, rfl⟩, ?_⟩
    have e3 : ∀ (a b c d e f p h x y : Nat × Obj) (A : Heap), ((a :: b :: c :: e :: f :: h :: x :: y :: A) ++ [d, p]).Perm (a :: b :: c :: d :: e :: f :: p :: h :: (A ++ [x, y])) := by
      intro a b c d e f p h x y A
      have q1 : (A ++ [x, y]).Perm (x :: y :: A) := List.perm_append_comm
      have q2 := P2 a b c d e f p h (A ++ [x, y])
      refine (List.Perm.trans ?_ q2.symm)
      refine List.Perm.append_right [d, p] ?_
      exact ((((((q1.symm).cons h).cons f).cons e).cons c).cons b).cons a
    exact e3 _ _ _ _ _ _ _ _ _ _ _
theorem un_119 : Tryd.prog.underlying 119 = some (.interface #[("Slice", 133)]) := by kernel_rfl
theorem ms_79 : (Tryd.prog.info? 79).map (fun i => i.methods.any fun m => m.name == "Slice" && m.sig == 133) = some false := by kernel_rfl
theorem part_one (p : String → Bool) (f : String → String) (s : String) : (Instr.least ([s].partition p).2 <|> Instr.least (([s].partition p).1.map f) : Option String).isSome = true := by
  cases hc : p s with
  | true => simp [List.partition, List.partition.loop, hc, Instr.least]
  | false => simp [List.partition, List.partition.loop, hc, Instr.least]
theorem miss_one (ms : Array Method) (s : String) (k : TypeId) (h : (ms.any fun m => m.name == s && m.sig == k) = false) : (Instr.missingMethod #[(s, k)] ms).isSome = true := by
  unfold Instr.missingMethod
  simp only [List.filter_cons, List.filter_nil, h, Bool.not_false, if_true, List.map_cons, List.map_nil]
  exact part_one _ _ _
theorem lk_119_79 : lacks Tryd.prog 119 79 = true := by
  have hm := ms_79
  unfold lacks
  rw [un_119]
  cases hi : Tryd.prog.info? 79 with
  | none => simp [hi] at hm
  | some i =>
    simp only [hi, Option.map_some, Option.some.injEq] at hm
    exact miss_one _ _ _ hm

theorem traverse_ct (br bs ss g n capn : Nat) (buf hdr file wa : Value) (rn : List Value) (fs : List Fil) (es : List Tn) (hlf : fs.length = es.length) (hn : n = es.length) (hN : es.length ≤ 100000) (hL : LinkOk es (fs.map Fil.en)) :
  Ct Tryd.prog 50 [pv br] ((br, blk (rdF bs ss buf hdr file (.slice (some ⟨g, 0, none⟩) n capn) wa) 89) :: (g, blk (ptrs fs ++ rn) 90) :: filsH br fs)
   (fun v q => ∃ fs' ps bo capo ro er, er = v ∧ TOk (fs.map Fil.bf) (fs.map Fil.en) (trav es (es.length + 1) 0 [] ⟨0, false, [], fun _ => []⟩) fs' ps er ∧ (outs (fs.map Fil.bf) (trav es (es.length + 1) 0 [] ⟨0, false, [], fun _ => []⟩).out ++ ro).length = capo ∧
    q = (br, blk (rdF bs ss buf hdr (.slice (some ⟨bo, 0, none⟩) (trav es (es.length + 1) 0 [] ⟨0, false, [], fun _ => []⟩).out.length capo) (.slice (some ⟨g, 0, none⟩) n capn) wa) 89) :: (g, blk (ptrs fs ++ rn) 90) :: (bo, blk (outs (fs.map Fil.bf) (trav es (es.length + 1) 0 [] ⟨0, false, [], fun _ => []⟩).out ++ ro) 90) :: (filsH br fs' ++ psH ps)) := by
 refine Ct_of Tryd.func50 rfl Tryd.ntmps50 rfl ?_
 intro E F
 simp only [numL, List.nil_append, List.cons_append]
 refine CW_sr ?_
 refine RW_fx rfl rfl rfl (Fx_box (zs := [pv br]) rfl rfl) ?_
 rintro _ _ ⟨bR, rfl, rfl⟩
 refine RW_a ?_
 refine RW_lv [1] ?_
 refine CW_seq ?_
 refine CW_draw [9] _ mixed (Sub.refl _) ?_
 refine RD_h (i := 0) #[false, true, true, true, true, true, true, false, false, false] rfl rfl rfl rfl kr_ (fun _ _ _ h => h) (Yh_ld sc_78) ?_
 refine RD_h (i := 1) #[true, false, false, false, false, false, false, false, false, false] rfl rfl rfl rfl kr_ (fun _ _ _ h => h) (Yh_ld sc_78) ?_
 refine RD_n 2 ?_
 refine RD_f 3 fo_89_5 ?_
 refine RD_h (i := 4) #[true, true, true, true, false, false, false, false, false, false] rfl rfl rfl rfl kr_ (fun _ _ _ h => h) (Yh_ld (v := .slice (some ⟨g, 0, none⟩) n capn) sc_83) ?_
 refine RD_l 5 rfl (Yl_len rfl sl_83) ?_
 refine RD_o 6 ?_
 refine RO_fx rfl rfl rfl rfl (Fx_makeSlice (z0 := .pointer none) (m := 1) (l := 0) (c := (n : Int)) rfl rfl sl_83 by_90 ze_90 rfl rfl om_ om_ om_ om_) ?_
 rintro _ _ ⟨bo, rfl, rfl⟩
 simp only [Int.toNat_natCast, Nat.mul_one]
 refine ⟨Or.inr (Sub.more (Sub.refl _)), ?_⟩
 refine RD_n 7 ?_
 refine RD_f 8 fo_89_4 ?_
 refine RD_o 9 ?_
 refine RO_fx0 rfl rfl rfl (Fx_store (v := .slice (some ⟨bo, 0, none⟩) 0 n) rfl rfl sz_83 rfl rep_ (by simp [rdF])) ?_
 rintro _ _ rfl
 refine ⟨Or.inl kr_, ?_⟩
 refine (RD_done kr_ (QW_lv [1] ?_))
 refine CW_sr ?_
 refine RW_fx rfl rfl rfl (Fx_alloc (zs := [.nilFunc]) ze_77 rfl) ?_
 rintro _ _ ⟨bF, rfl, rfl⟩
 refine RW_lv [1,3] ?_
 refine CW_sr ?_
 refine RW_fx rfl rfl rfl (Fx_alloc (zs := [.nilIface]) ze_105 rfl) ?_
 rintro _ _ ⟨be, rfl, rfl⟩
 refine RW_lv [1,3,4] ?_
 refine CW_sr ?_
 refine RW_fx rfl rfl rfl (Fx_alloc (zs := [nv 0]) ze_3 rfl) ?_
 rintro _ _ ⟨bc, rfl, rfl⟩
 refine RW_lv [1,3,4,5] ?_
 refine CW_sr ?_
 refine RW_l (Yl_makeFunc (us := []) (vs := [pv bc, pv bR, pv be, pv bF]) rfl rfl) ?_
 refine RW_fx0 rfl rfl (Fx_store (v := .func (.func 61) #[] #[pv bc, pv bR, pv be, pv bF]) rfl rfl sz_77 rfl rep_ (by simp)) ?_
 rintro _ _ rfl
 refine RW_lv [3,4] ?_
 refine CW_seq ?_
 have htr := fun bp => trav_ct br bs ss g n capn bc bR be bF buf hdr wa rn (fs.map Fil.bf) es (fs.map Fil.en) (by simpa using hlf) hn hN hL (es.length + 1) 0 [] ⟨0, false, [], fun _ => []⟩ (by show es.length + 1 ≤ 0 + _; omega) (by simp) (by simp) om_ bp fs [(bp, [])] bo n (List.replicate n (.pointer none)) .nilIface ⟨rfl, (by rw [List.map_map]; rfl), Nat.le_refl _, fun k hk => (by cases hk), .inl ⟨rfl, rfl⟩⟩ (List.Mem.head _) (by simp)
 refine CW_region ?_
 refine RW_h (Yh_ld (v := .func (.func 61) #[] #[pv bc, pv bR, pv be, pv bF]) sc_77) ?_
 refine RW_fx rfl rfl rfl (Fx_buildSlice0 sl_36) ?_
 rintro _ _ ⟨bp, rfl, rfl⟩
 refine RW_heap (perm_ps0 (bp, _) [_, _, _, _, _, _, _] _ _) ?_
 simp only [List.cons_append, List.nil_append]
 replace htr := htr bp
 simp only [List.map_map] at htr
 refine RW_fx rfl rfl rfl (Fx_callV ok_61 (fs := []) (cs := [pv bc, pv bR, pv be, pv bF]) (vs := [nv 0, .slice (some ⟨bp, 0, none⟩) 0 0]) rfl rfl (by exact (Pick.cons rem_ (Pick.cons rem_ (Pick.cons rem_ (Pick.cons rem_ (Pick.cons rem_ (Pick.cons rem_ (Pick.cons rem_ (pick_app _ F)))))))) ) htr) ?_
 rintro _ _ ⟨_, ⟨rfl, fs', ps', bo', capo', ro', er', hT', hsub', hl', rfl⟩, rfl⟩
 simp only [List.cons_append]
 refine RW_lv [4] ?_
 refine CW_sr ?_
 refine RW_h (Yh_ld (v := er') sc_105) ?_
 refine RW_a ?_
 refine RW_lv [2] ?_
 refine CW_ret ?_
 refine QW_dropB (e := (bc, _)) rem_ ?_
 refine QW_dropB (e := (bR, _)) rem_ ?_
 refine QW_dropB (e := (be, _)) rem_ ?_
 refine QW_dropB (e := (bF, _)) rem_ ?_
 exact QW_ret1 rfl rfl (_ :: _ :: _ :: (filsH br fs' ++ psH ps')) ⟨fs', ps', bo', capo', ro', er', rfl, hT', hl', rfl⟩ (Prm.nil _)

end Go.Proofs.YtgoddcicbpjknaaDoor
