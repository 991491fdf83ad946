/- Walks: the directory is read. Walks: the small stream is found. Plain: how the entries of a directory are gone through. No program in sight. Plain: bounds on how entries are gone through. No program in sight. Values: files and their paths in memory, as they are gone through. Walks: the entries are gone through: the closure. Walks: the code of no error, the version. Contracts in other words: more blocks, other orders. Walks: the entries are gone through. Values: a reader that is open, its blocks. Walks: a reader is opened. Walks: the code of an error. Three results. Walks: a file is opened. 'append' onto a slice that may be nil, 'append' of nothing; a file among others. Walks: what a file tells. 'append' of elements of many cells; structs that are built. Values: the entries that a file's reader tells. Walks: the entries of a file. -/
import Derived.Test.YtgoddcicbpjknaaDoorPartB
import Derived.OwnWalk
/-! Walks: the directory is read. -/
set_option maxRecDepth 20000
namespace Go.Proofs.YtgoddcicbpjknaaDoor
open Go
open Cfb
/-- The sectors of a chain, and its end. -/
def snx (sns : List Nat) (j : Nat) : Nat := (sns ++ [4294967294]).getD j 0
theorem snx_end (sns : List Nat) {j : Nat} (h : j = sns.length) : snx sns j = 4294967294 := by subst h; simp [snx, List.getD_eq_getElem?_getD]
theorem snx_in (sns : List Nat) {j : Nat} (h : j < sns.length) : snx sns j = sns.getD j 0 := by simp [snx, List.getD_eq_getElem?_getD, List.getElem?_append_left h]
/-- What is asked of a chain that is followed in the table. -/
structure ChOk (B : List UInt8) (N ss : Nat) (hc : List Value) (sns : List Nat) : Prop where
  nodup : sns.Nodup
  small : ∀ j, j < sns.length → snx sns j ≤ 1000000
  fit : ∀ j, j < sns.length → (snx sns j + 1) * ss + ss ≤ N
  next : ∀ j, j < sns.length → ∃ sect o, hc[45 + snx sns j / (ss / 4)]? = some (uv sect) ∧ snx sns j / (ss / 4) < 109 ∧ sect ≤ 1000000 ∧ o = (sect + 1) * ss + snx sns j % (ss / 4) * 4 ∧ o + 4 ≤ N ∧ num ((B.drop o).take 4) = snx sns (j + 1)
theorem ChOk.ne {B : List UInt8} {N ss : Nat} {hc : List Value} {sns : List Nat} (h : ChOk B N ss hc sns) {i j : Nat} (hi : i < sns.length) (hj : j ≤ sns.length) (hne : i ≠ j) : snx sns i ≠ snx sns j := by
  intro e
  rcases Nat.lt_or_ge j sns.length with hl | hl
  · rw [snx_in _ hi, snx_in _ hl] at e
    exact hne (nodup_getD h.nodup hi hl e)
  · rw [snx_end sns (show j = sns.length by omega)] at e
    have := h.small i hi
    omega
structure DrS where
  j : Nat
  g : Nat
  cap : Nat
  r : List Value
  rs : List Fil
  lb : List Value
  l : List (Int × Value × Nat)
  c : Nat
set_option maxHeartbeats 4000000 in
theorem setDirEntries_ct (br bh bhf bb bs bB ss ver nd num_ N cN : Nat) (B : List UInt8) (rB hc ps lb0 : List Value) (T : TypeId) (sns : List Nat) (es : List En) (file wa m1 m2 : Value) (hch : ChOk B N ss hc sns) (hK : 1 ≤ sns.length) (hver : hc[18]? = some (.int .u16 (ver : Int))) (hnd : hc[30]? = some (uv nd)) (hdl : hc[32]? = some (uv (snx sns 0))) (hv4 : ver ≤ 4) (hnd1 : nd ≤ 64000) (hss : 512 ≤ ss ∧ ss ≤ 4096) (hnum : num_ = ss / 128)
    (hes : es.length = sns.length * num_) (hn20 : es.length ≤ 100000) (hent : ∀ j, j < sns.length → ∀ i, i < num_ → EnOk ps ver ((B.drop ((snx sns j + 1) * ss)).take ss) (i * 128) (es.getD (j * num_ + i) default)) (hB : B.length = N) (hcN : N ≤ cN) (hN : N ≤ 1000000000) (hlb0 : lb0.length = ss) :
    Ct Tryd.prog 48 [pv br] [(br, blk (rdF bs ss (.slice (some ⟨bb, 0, none⟩) ss ss) (pv bh) file (.slice none 0 0) wa) 89), (bh, blk [pv bhf, .slice (some ⟨bhf, 45, none⟩) 109 109, m1, m2] 137), (bhf, blk hc 142), (bb, blk lb0 5), (bs, blk [.slice (some ⟨bB, 0, none⟩) N cN] 103), (bB, blk (bys B ++ rB) 5), (2, blk ps T)] (fun v q => v = .nilIface ∧ ∃ g cap r lb fs, fs.map Fil.en = es ∧ (ptrs fs ++ r).length = cap ∧ lb.length = ss ∧ q = ((br, blk (rdF bs ss (.slice (some ⟨bb, 0, none⟩) ss ss) (pv bh) file (.slice (some ⟨g, 0, none⟩) es.length cap) wa) 89) :: (bh, blk [pv bhf, .slice (some ⟨bhf, 45, none⟩) 109 109, m1, m2] 137) :: (bhf, blk hc 142) :: (bb, blk lb 5) :: (bs, blk [.slice (some ⟨bB, 0, none⟩) N cN] 103) :: (bB, blk (bys B ++ rB) 5) :: (2, blk ps T) :: (g, blk (ptrs fs ++ r) 90) :: filsH br fs)) := by
  have hd128 : num_ * 128 ≤ ss ∧ ss < num_ * 128 + 128 := by omega
  have hn4 : 4 ≤ num_ := by omega
  refine Ct_of Tryd.func48 rfl Tryd.ntmps48 rfl ?_
  intro E F
  simp only [numL, List.nil_append, List.cons_append]
  refine CW_seq ?_
  refine CW_region ?_
  refine RW_a ?_
  refine RW_lv (ks := [0]) ?_
  refine CW_seq ?_
  refine CW_region ?_
  refine RW_a ?_
  refine RW_lv (ks := [0, 3]) ?_
  refine CW_cut (σ := Nat) (fun q => [(0, pv br), (3, nv q)]) (fun _ => (br, blk (rdF bs ss (.slice (some ⟨bb, 0, none⟩) ss ss) (pv bh) file (.slice none 0 0) wa) 89) :: (bh, blk [pv bhf, .slice (some ⟨bhf, 45, none⟩) 109 109, m1, m2] 137) :: (bhf, blk hc 142) :: (bb, blk lb0 5) :: (bs, blk [.slice (some ⟨bB, 0, none⟩) N cN] 103) :: (bB, blk (bys B ++ rB) 5) :: (2, blk ps T) :: F) (fun q => q ≤ 64000) ?_ ?_
  · skip
    refine CW_seq ?_
    refine CW_region ?_
    refine RW_m ?_
    refine RW_l (Yl_nilCheck rfl) ?_
    refine RW_l (Yl_field rfl fo_89_3) ?_
    refine RW_h (Yh_load (v := pv bh) rfl sc_82 (by repeat (first | exact List.Mem.head _ | apply List.Mem.tail)) rfl) ?_
    refine RW_l (Yl_nilCheck rfl) ?_
    refine RW_l (Yl_field rfl fo_137_0) ?_
    refine RW_h (Yh_load (v := pv bhf) rfl sc_134 (by repeat (first | exact List.Mem.head _ | apply List.Mem.tail)) rfl) ?_
    refine RW_l (Yl_nilCheck rfl) ?_
    refine RW_l (Yl_field rfl fo_142_3) ?_
    refine RW_h (Yh_load (v := .int .u16 (ver : Int)) rfl sc_47 (by repeat (first | exact List.Mem.head _ | apply List.Mem.tail)) hver) ?_
    refine RW_l (Yl_gtr rfl rfl) ?_
    refine RW_m ?_
    refine RW_bool 24 rfl (fun hg1 => ?_) (fun hg1 => ?_)
    · replace hg1 := of_decide_eq_true hg1
      refine RW_gy rfl rfl rfl (Yl.h (Yl_move rfl)) ?_
      refine RW_gy rfl rfl rfl (Yl.h (Yl_nilCheck rfl)) ?_
      refine RW_gy rfl rfl rfl (Yl.h (Yl_field rfl fo_89_3)) ?_
      refine RW_gy rfl rfl rfl (Yh_load (v := pv bh) rfl sc_82 (by repeat (first | exact List.Mem.head _ | apply List.Mem.tail)) rfl) ?_
      refine RW_gy rfl rfl rfl (Yl.h (Yl_nilCheck rfl)) ?_
      refine RW_gy rfl rfl rfl (Yl.h (Yl_field rfl fo_137_0)) ?_
      refine RW_gy rfl rfl rfl (Yh_load (v := pv bhf) rfl sc_134 (by repeat (first | exact List.Mem.head _ | apply List.Mem.tail)) rfl) ?_
      refine RW_gy rfl rfl rfl (Yl.h (Yl_nilCheck rfl)) ?_
      refine RW_gy rfl rfl rfl (Yl.h (Yl_field rfl fo_142_8)) ?_
      refine RW_gy rfl rfl rfl (Yh_load (v := uv nd) rfl sc_67 (by repeat (first | exact List.Mem.head _ | apply List.Mem.tail)) hnd) ?_
      refine RW_gy rfl rfl rfl (Yl.h (Yl_gtr rfl rfl)) ?_
      refine RW_l (Yl_pick_t rfl rfl) ?_
      refine RW_lv (ks := [0, 3, 36]) ?_
      refine CW_cond rfl (fun hc2 => ?_) (fun hc2 => ?_)
      · replace hc2 := of_decide_eq_true hc2
        refine CW_seq ?_
        refine CW_region ?_
        refine RW_m ?_
        refine RW_l (Yl_nilCheck rfl) ?_
        refine RW_l (Yl_field rfl fo_89_3) ?_
        refine RW_h (Yh_load (v := pv bh) rfl sc_82 (by repeat (first | exact List.Mem.head _ | apply List.Mem.tail)) rfl) ?_
        refine RW_l (Yl_nilCheck rfl) ?_
        refine RW_l (Yl_field rfl fo_137_0) ?_
        refine RW_h (Yh_load (v := pv bhf) rfl sc_134 (by repeat (first | exact List.Mem.head _ | apply List.Mem.tail)) rfl) ?_
        refine RW_l (Yl_nilCheck rfl) ?_
        refine RW_l (Yl_field rfl fo_142_8) ?_
        refine RW_h (Yh_load (v := uv nd) rfl sc_67 (by repeat (first | exact List.Mem.head _ | apply List.Mem.tail)) hnd) ?_
        refine RW_l (Yl_gtr rfl rfl) ?_
        refine RW_lv (ks := [0, 47]) ?_
        refine CW_cond rfl (fun hc3 => ?_) (fun hc3 => ?_)
        · replace hc3 := of_decide_eq_true hc3
          exfalso; omega
        · replace hc3 := of_decide_eq_false hc3
          refine CW_region ?_
          refine RW_m ?_
          refine RW_l (Yl_nilCheck rfl) ?_
          refine RW_l (Yl_field rfl fo_89_3) ?_
          refine RW_h (Yh_load (v := pv bh) rfl sc_82 (by repeat (first | exact List.Mem.head _ | apply List.Mem.tail)) rfl) ?_
          refine RW_l (Yl_nilCheck rfl) ?_
          refine RW_l (Yl_field rfl fo_137_0) ?_
          refine RW_h (Yh_load (v := pv bhf) rfl sc_134 (by repeat (first | exact List.Mem.head _ | apply List.Mem.tail)) rfl) ?_
          refine RW_l (Yl_nilCheck rfl) ?_
          refine RW_l (Yl_field rfl fo_142_8) ?_
          refine RW_h (Yh_load (v := uv nd) rfl sc_67 (by repeat (first | exact List.Mem.head _ | apply List.Mem.tail)) hnd) ?_
          refine RW_l (Yl_conv (c := (nd : Int)) rfl in_67 in_3 (wi64 (by omega) (by omega))) ?_
          refine RW_a ?_
          refine RW_nil ?_
          first
            | exact QW_cut nd (by omega) (by repeat (first | exact Prm.nil _ | exact Rem.here _ _ | apply Rem.there | apply Prm.cons)) (.cons rfl (.cons rfl .nil))
            | exact QW_cut 20 (by omega) (by repeat (first | exact Prm.nil _ | exact Rem.here _ _ | apply Rem.there | apply Prm.cons)) (.cons rfl (.cons rfl .nil))
      · replace hc2 := of_decide_eq_false hc2
        refine CW_skip ?_
        first
          | exact QW_cut nd (by omega) (by repeat (first | exact Prm.nil _ | exact Rem.here _ _ | apply Rem.there | apply Prm.cons)) (.cons rfl (.cons rfl .nil))
          | exact QW_cut 20 (by omega) (by repeat (first | exact Prm.nil _ | exact Rem.here _ _ | apply Rem.there | apply Prm.cons)) (.cons rfl (.cons rfl .nil))
    · replace hg1 := of_decide_eq_false hg1
      refine RW_skip rfl rfl rfl ?_
      refine RW_skip rfl rfl rfl ?_
      refine RW_skip rfl rfl rfl ?_
      refine RW_skip rfl rfl rfl ?_
      refine RW_skip rfl rfl rfl ?_
      refine RW_skip rfl rfl rfl ?_
      refine RW_skip rfl rfl rfl ?_
      refine RW_skip rfl rfl rfl ?_
      refine RW_skip rfl rfl rfl ?_
      refine RW_skip rfl rfl rfl ?_
      refine RW_skip rfl rfl rfl ?_
      refine RW_l (Yl_pick_f rfl rfl) ?_
      refine RW_lv (ks := [0, 3, 36]) ?_
      refine CW_false rfl ?_
      refine CW_skip ?_
      first
        | exact QW_cut nd (by omega) (by repeat (first | exact Prm.nil _ | exact Rem.here _ _ | apply Rem.there | apply Prm.cons)) (.cons rfl (.cons rfl .nil))
        | exact QW_cut 20 (by omega) (by repeat (first | exact Prm.nil _ | exact Rem.here _ _ | apply Rem.there | apply Prm.cons)) (.cons rfl (.cons rfl .nil))
  · rintro cc hcc
    refine CW_seq ?_
    refine CW_region ?_
    refine RW_m ?_
    refine RW_fx rfl rfl rfl (Fx_makeSlice (z0 := .pointer none) (m := 1) (l := 0) (c := (cc : Int)) rfl rfl sl_83 by_90 ze_90 rfl rfl (by omega) (by omega) (by omega) (by omega)) ?_
    rintro _ _ ⟨g0, rfl, rfl⟩
    refine RW_a ?_
    refine RW_lv (ks := [0, 4]) ?_
    refine CW_seq ?_
    refine CW_region ?_
    refine RW_fx rfl rfl rfl (Fx_makeMap .u32) ?_
    rintro _ _ ⟨bm, rfl, rfl⟩
    refine RW_a ?_
    refine RW_lv (ks := [0, 4, 5]) ?_
    refine CW_seq ?_
    refine CW_region ?_
    refine RW_m ?_
    refine RW_l (Yl_nilCheck rfl) ?_
    refine RW_l (Yl_field rfl fo_89_1) ?_
    refine RW_h (Yh_load (v := uv ss) rfl sc_67 (by repeat (first | exact List.Mem.head _ | apply List.Mem.tail)) rfl) ?_
    refine RW_l (Yl_quo (c := (num_ : Int)) rfl rfl (by omega) (by rw [hnum]; exact quo32 (b := 128) (by omega))) ?_
    refine RW_l (Yl_conv (c := (num_ : Int)) rfl in_67 in_3 (wi64 (by omega) (by omega))) ?_
    refine RW_a ?_
    refine RW_lv (ks := [0, 4, 5, 6]) ?_
    refine CW_seq ?_
    refine CW_region ?_
    refine RW_m ?_
    refine RW_l (Yl_nilCheck rfl) ?_
    refine RW_l (Yl_field rfl fo_89_3) ?_
    refine RW_h (Yh_load (v := pv bh) rfl sc_82 (by repeat (first | exact List.Mem.head _ | apply List.Mem.tail)) rfl) ?_
    refine RW_l (Yl_nilCheck rfl) ?_
    refine RW_l (Yl_field rfl fo_137_0) ?_
    refine RW_h (Yh_load (v := pv bhf) rfl sc_134 (by repeat (first | exact List.Mem.head _ | apply List.Mem.tail)) rfl) ?_
    refine RW_l (Yl_nilCheck rfl) ?_
    refine RW_l (Yl_field rfl fo_142_10) ?_
    refine RW_h (Yh_load (v := uv (snx sns 0)) rfl sc_67 (by repeat (first | exact List.Mem.head _ | apply List.Mem.tail)) hdl) ?_
    refine RW_a ?_
    refine RW_lv (ks := [0, 4, 5, 6, 7]) ?_
    refine CW_seq ?_
    refine CW_block ?_
    refine CW_loop (σ := DrS) (fun q => [(0, pv br), (4, .slice (some ⟨q.g, 0, none⟩) q.rs.length q.cap), (5, .map (some bm)), (6, nv num_), (7, uv (snx sns q.j))]) (fun q => (br, blk (rdF bs ss (.slice (some ⟨bb, 0, none⟩) ss ss) (pv bh) file (.slice none 0 0) wa) 89) :: (bh, blk [pv bhf, .slice (some ⟨bhf, 45, none⟩) 109 109, m1, m2] 137) :: (bhf, blk hc 142) :: (bb, blk q.lb 5) :: (bs, blk [.slice (some ⟨bB, 0, none⟩) N cN] 103) :: (bB, blk (bys B ++ rB) 5) :: (2, blk ps T) :: (bm, mobj .u32 q.l q.c) :: (q.g, blk (ptrs q.rs.reverse ++ q.r) 90) :: (filsH br q.rs ++ F)) (fun q => q.j ≤ sns.length ∧ q.rs.length = q.j * num_ ∧ q.rs.reverse.map Fil.en = es.take (q.j * num_) ∧ (ptrs q.rs.reverse ++ q.r).length = q.cap ∧ q.lb.length = ss ∧ (∀ p ∈ q.l, ∃ i, 1 ≤ i ∧ i ≤ q.j ∧ p.1 = ((snx sns i : Nat) : Int))) (fun q => sns.length - q.j) ⟨0, g0, cc, List.replicate cc (.pointer none), [], lb0, [], 0⟩ ⟨Nat.zero_le _, by simp, by simp, by simp, hlb0, by simp⟩ (by simp only [List.reverse_nil, List.map_nil, List.nil_append, filsH, Int.toNat_natCast, Nat.mul_one]; exact (by repeat (first | exact Prm.nil _ | exact Rem.here _ _ | apply Rem.there | apply Prm.cons))) (.cons rfl (.cons rfl (.cons rfl (.cons rfl (.cons rfl .nil))))) ?_
    rintro ⟨j, g, cap, r, rs, lb, l, c⟩ ⟨hj, hrl, hre, hl, hlb, hmap⟩
    simp only at hj hrl hre hl hlb hmap ⊢
    refine CW_seq ?_
    refine CW_seq ?_
    refine CW_region ?_
    refine RW_m ?_
    refine RW_l (Yl_neq rfl rfl) ?_
    refine RW_lv (ks := [0, 4, 5, 6, 7, 79]) ?_
    refine CW_cond rfl (fun hc4 => ?_) (fun hc4 => ?_)
    · replace hc4 := of_decide_eq_true hc4
      have hjK : j < sns.length := by
        rcases Nat.lt_or_ge j sns.length with hh | hh
        · exact hh
        · exact absurd (by rw [snx_end sns (show j = sns.length by omega)]; rfl) hc4
      have hsm := hch.small j hjK
      have hft := hch.fit j hjK
      obtain ⟨sect, o, hsect, hs109, hse, ho, ho4, hnx⟩ := hch.next j hjK
      have hXl : ((B.drop ((snx sns j + 1) * ss)).take ss).length = ss := len_drop_take B _ ss (by omega)
      refine (CW_skip (QW_lv (ks := [0, 4, 5, 6, 7]) ?_))
      refine CW_block ?_
      refine CW_seq ?_
      refine CW_draw [12] _ mixed (Sub.refl _) ?_
      refine RD_l 0 rfl (Yl_move rfl) ?_
      refine RD_l 1 rfl (Yl_move rfl) ?_
      refine RD_l 2 rfl (Yl_nilCheck rfl) ?_
      refine RD_l 3 rfl (Yl_field rfl fo_89_1) ?_
      refine RD_l 5 rfl (Yl_move rfl) ?_
      refine RD_l 7 rfl (Yl_move rfl) ?_
      refine RD_l 8 rfl (Yl_nilCheck rfl) ?_
      refine RD_l 9 rfl (Yl_field rfl fo_89_1) ?_
      refine RD_h (i := 4) #[true, true, true, true, false, true, false, true, true, true, true, true, false, false, false, false, false, false] rfl rfl rfl rfl (by kernel_rfl) (fun _ _ _ h => h) (Yh_load (v := uv ss) rfl sc_67 (by repeat (first | exact List.Mem.head _ | apply List.Mem.tail)) rfl) ?_
      refine RD_h (i := 10) #[true, true, true, true, true, true, true, true, true, true, false, false, false, false, false, false, false, false] rfl rfl rfl rfl (by kernel_rfl) (fun _ _ _ h => h) (Yh_load (v := uv ss) rfl sc_67 (by repeat (first | exact List.Mem.head _ | apply List.Mem.tail)) rfl) ?_
      refine RD_l 11 rfl (Yl_conv (c := (ss : Int)) rfl in_67 in_3 (wi64 (by omega) (by omega))) ?_
      refine RD_one (i := 6) (by kernel_rfl) ?_
      refine RO_fx rfl rfl rfl rfl (Fx_callQ ok_56 (vs := [uv ss, uv (snx sns j)]) rfl (by repeat (first | exact Pick.nil _ | apply Pick.cons | exact Rem.here _ _ | apply Rem.there)) (fileOffset_ct ss (snx sns j) (by omega) (by omega) (by omega))) ?_
      rintro _ _ ⟨rfl, rfl⟩
      refine ⟨Or.inr (Sub.refl _), ?_⟩
      refine RD_one (i := 12) (by kernel_rfl) ?_
      refine RO_fx rfl rfl rfl rfl (Fx_call ok_54 (vs := [pv br, nv ((snx sns j + 1) * ss), nv ss]) rfl (by repeat (first | exact Pick.nil _ | apply Pick.cons | exact Rem.here _ _ | apply Rem.there)) (readAt_ct br bb bs bB ss ss ss N cN ((snx sns j + 1) * ss) B rB lb (rdF bs ss (.slice (some ⟨bb, 0, none⟩) ss ss) (pv bh) file (.slice none 0 0) wa) 5 rfl rfl rfl hB hcN hN (by omega) (by omega) (by omega) (by omega) (by omega))) ?_
      rintro _ _ ⟨_, ⟨rfl, rfl⟩, rfl⟩
      rw [spl_full _ _ (by rw [List.length_map, hXl, hlb])]
      refine ⟨Or.inl (by kernel_rfl), ?_⟩
      refine RD_l 13 rfl (Yl_move rfl) ?_
      refine RD_l 14 rfl (Yl_extract rfl rfl) ?_
      refine RD_l 15 rfl (Yl_extract rfl rfl) ?_
      refine RD_l 16 rfl (Yl_assign rfl) ?_
      refine RD_l 17 rfl (Yl_assign rfl) ?_
      refine (RD_done (by kernel_rfl) (QW_lv (ks := [0, 4, 5, 6, 7, 8, 9]) ?_))
      refine CW_seq ?_
      refine CW_seq ?_
      refine CW_region ?_
      refine RW_m ?_
      refine RW_l (Yl_ifNeNil rfl if_105) ?_
      refine RW_lv (ks := [0, 4, 5, 6, 7, 8, 9, 97]) ?_
      refine CW_cond rfl (fun hc5 => ?_) (fun hc5 => ?_)
      · skip
        exact absurd hc5 (by decide)
      · skip
        refine (CW_skip (QW_lv (ks := [0, 4, 5, 6, 7, 8]) ?_))
        refine CW_seq ?_
        refine CW_seq ?_
        refine CW_region ?_
        refine RW_a ?_
        refine RW_lv (ks := [0, 4, 5, 6, 7, 8, 10]) ?_
        refine CW_block ?_
        refine CW_loop (σ := DrS) (fun q => [(0, pv br), (4, .slice (some ⟨q.g, 0, none⟩) q.rs.length q.cap), (5, .map (some bm)), (6, nv num_), (7, uv (snx sns j)), (8, .slice (some ⟨bb, 0, none⟩) ss ss), (10, nv q.j)]) (fun q => (br, blk (rdF bs ss (.slice (some ⟨bb, 0, none⟩) ss ss) (pv bh) file (.slice none 0 0) wa) 89) :: (bh, blk [pv bhf, .slice (some ⟨bhf, 45, none⟩) 109 109, m1, m2] 137) :: (bhf, blk hc 142) :: (bb, blk (bys ((B.drop ((snx sns j + 1) * ss)).take ss)) 5) :: (bs, blk [.slice (some ⟨bB, 0, none⟩) N cN] 103) :: (bB, blk (bys B ++ rB) 5) :: (2, blk ps T) :: (bm, mobj .u32 l c) :: (q.g, blk (ptrs q.rs.reverse ++ q.r) 90) :: (filsH br q.rs ++ F)) (fun q => q.j ≤ num_ ∧ q.rs.length = j * num_ + q.j ∧ q.rs.reverse.map Fil.en = es.take (j * num_ + q.j) ∧ (ptrs q.rs.reverse ++ q.r).length = q.cap) (fun q => num_ - q.j) ⟨0, g, cap, r, rs, [], l, c⟩ ⟨Nat.zero_le _, by simpa using hrl, by simpa using hre, hl⟩ (by repeat (first | exact Prm.nil _ | exact Rem.here _ _ | apply Rem.there | apply Prm.cons)) (.cons rfl (.cons rfl (.cons rfl (.cons rfl (.cons rfl (.cons rfl (.cons rfl .nil))))))) ?_
        rintro ⟨i, g, cap, r, rs, lbX, lX, cX⟩ ⟨hi, hrl2, hre2, hl⟩
        simp only at hi hrl2 hre2 hl ⊢
        refine CW_seq ?_
        refine CW_seq ?_
        refine CW_region ?_
        refine RW_m ?_
        refine RW_m ?_
        refine RW_l (Yl_lss rfl rfl) ?_
        refine RW_lv (ks := [0, 4, 5, 6, 7, 8, 10, 112]) ?_
        refine CW_cond rfl (fun hc6 => ?_) (fun hc6 => ?_)
        · replace hc6 := of_decide_eq_true hc6
          refine (CW_skip (QW_lv (ks := [0, 4, 5, 6, 7, 8, 10]) ?_))
          refine CW_seq ?_
          refine CW_block ?_
          refine CW_seq ?_
          have hlen2 : (j * num_ + i) < es.length := by rw [hes]; have := Nat.mul_le_mul_right num_ (show j + 1 ≤ sns.length by omega); rw [Nat.succ_mul] at this; omega
          obtain ⟨e, he⟩ : ∃ e, e = es.getD (j * num_ + i) default := ⟨_, rfl⟩
          have hen : EnOk ps ver ((B.drop ((snx sns j + 1) * ss)).take ss) (i * 128) e := by rw [he]; exact hent j hjK i (by omega)
          refine CW_region ?_
          refine RW_m ?_
          refine RW_l (Yl_build (cs := [.string (bar []), .int .u16 0, .slice none 0 0, .int .i64 0, .int .i64 0, .int .u32 0, .int .i64 0, .pointer none, pv br]) pl_93 ze_93 rfl rfl) ?_
          refine RW_fx rfl rfl rfl (Fx_box (zs := [.string (bar []), .int .u16 0, .slice none 0 0, .int .i64 0, .int .i64 0, .int .u32 0, .int .i64 0, .pointer none, pv br]) rfl rfl) ?_
          rintro _ _ ⟨bf, rfl, rfl⟩
          refine RW_a ?_
          refine RW_lv (ks := [0, 4, 5, 6, 7, 8, 10, 11]) ?_
          refine CW_seq ?_
          refine CW_region ?_
          refine RW_m ?_
          refine RW_m ?_
          refine RW_m ?_
          refine RW_l (Yl_mul (c := ((i * 128 : Nat) : Int)) rfl rfl (mulN (a := i) (b := 128) (by omega))) ?_
          refine RW_l (Yl_cutLO (b := bb) (off := 0) (l := i * 128) (m := ss) (c := ss) (o' := i * 128) (m' := ss - i * 128) (c' := ss - i * 128) rfl rfl sl_23 (by omega) (by omega) (by omega) rfl rfl) ?_
          refine RW_fx rfl rfl rfl (Fx_call ok_58 (vs := [.slice (some ⟨bb, i * 128, none⟩) (ss - i * 128) (ss - i * 128)]) rfl (by repeat (first | exact Pick.nil _ | apply Pick.cons | exact Rem.here _ _ | apply Rem.there)) (makeDirEntry_ct bb (i * 128) (ss - i * 128) (ss - i * 128) ((B.drop ((snx sns j + 1) * ss)).take ss) (by omega) (by omega) (by omega))) ?_
          rintro _ _ ⟨_, ⟨bd, rfl, rfl⟩, rfl⟩
          simp only [List.cons_append, List.nil_append]
          refine RW_l (Yl_nilCheck rfl) ?_
          refine RW_l (Yl_field rfl fo_93_7) ?_
          refine RW_fx0 rfl rfl (Fx_store (v := pv bd) (b := bf) (off := 7) (T := 93) (l := [.string (bar []), .int .u16 0, .slice none 0 0, .int .i64 0, .int .i64 0, .int .u32 0, .int .i64 0, .pointer none, pv br]) rfl rfl sz_91 rfl (by repeat (first | exact Rep.here _ _ _ | apply Rep.there)) (by simp only [List.length_cons, List.length_nil]; omega)) ?_
          rintro _ _ rfl
          refine RW_lv (ks := [0, 4, 5, 6, 7, 8, 10, 11]) ?_
          refine CW_seq ?_
          rw [← hen.dc]
          refine CW_region ?_
          refine RW_m ?_
          refine RW_l (Yl_nilCheck rfl) ?_
          refine RW_l (Yl_field rfl fo_89_3) ?_
          refine RW_h (Yh_load (v := pv bh) rfl sc_82 (by repeat (first | exact List.Mem.head _ | apply List.Mem.tail)) rfl) ?_
          refine RW_l (Yl_nilCheck rfl) ?_
          refine RW_l (Yl_field rfl fo_137_0) ?_
          refine RW_h (Yh_load (v := pv bhf) rfl sc_134 (by repeat (first | exact List.Mem.head _ | apply List.Mem.tail)) rfl) ?_
          refine RW_l (Yl_nilCheck rfl) ?_
          refine RW_l (Yl_field rfl fo_142_3) ?_
          refine RW_h (Yh_load (v := .int .u16 (ver : Int)) rfl sc_47 (by repeat (first | exact List.Mem.head _ | apply List.Mem.tail)) hver) ?_
          refine RW_m ?_
          refine RW_fx rfl rfl rfl (Fx_call ok_59 (vs := [.int .u16 (ver : Int), pv bf]) rfl (Pick.cons (by repeat (first | exact Rem.here _ _ | apply Rem.there)) (Pick.cons (by repeat (first | exact Rem.here _ _ | apply Rem.there)) (Pick.cons (by repeat (first | exact Rem.here _ _ | apply Rem.there)) (Pick.nil _)))) (fixFile_en (br := br) (bf := bf) (bd := bd) (T := T) hen hv4)) ?_
          rintro _ _ ⟨_, ⟨rfl, rfl⟩, rfl⟩
          simp only [List.cons_append, List.nil_append]
          refine RW_lv (ks := [0, 4, 5, 6, 7, 8, 10, 11]) ?_
          refine CW_seq ?_
          refine CW_region ?_
          refine RW_m ?_
          refine RW_m ?_
          refine RW_l (Yl_nilCheck rfl) ?_
          refine RW_l (Yl_field rfl fo_93_7) ?_
          refine RW_h (Yh_load (v := pv bd) rfl sc_91 (by repeat (first | exact List.Mem.head _ | apply List.Mem.tail)) rfl) ?_
          refine RW_l (Yl_nilCheck rfl) ?_
          refine RW_l (Yl_field rfl fo_112_11) ?_
          refine RW_h (Yh_load (v := uv e.cur) rfl sc_67 (by repeat (first | exact List.Mem.head _ | apply List.Mem.tail)) (by rw [hen.dc]; exact hen.cur)) ?_
          refine RW_l (Yl_nilCheck rfl) ?_
          refine RW_l (Yl_field rfl fo_93_5) ?_
          refine RW_fx0 rfl rfl (Fx_store (v := uv e.cur) (b := bf) (off := 5) (T := 93) (l := fiF e.nm e.ini (.slice none 0 0) e.size 0 0 0 bd br) rfl rfl sz_67 rfl (by repeat (first | exact Rep.here _ _ _ | apply Rep.there)) (by simp [fiF])) ?_
          rintro _ _ rfl
          refine RW_lv (ks := [0, 4, 5, 6, 7, 8, 10, 11]) ?_
          refine CW_region ?_
          refine RW_m ?_
          refine RW_m ?_
          refine RW_fx rfl rfl rfl (Fx_litS (vs := [pv bf]) sl_83 ze_90 rfl rfl rfl rfl rfl) ?_
          rintro _ _ ⟨b150, rfl, rfl⟩
          refine RW_fx rfl rfl rfl (Fx_appT (xs := ptrs rs.reverse) (r := r) (news := [pv bf]) (n := rs.length) (cap := cap) (z0 := .pointer none) (q := 1) rfl rfl sl_83 by_90 ze_90 rfl rfl (by repeat (first | exact Rem.here _ _ | apply Rem.there)) (by repeat (first | exact Rem.here _ _ | apply Rem.there)) (by rw [hl]; omega) (by simp) rfl (by simp [Value.oneCell']) (by omega) (by omega) (by omega)) ?_
          rintro _ _ ⟨g', cap', r', rfl, hl', rfl⟩
          refine RW_a ?_
          refine RW_nil ?_
          refine QW_normal_block ?_
          refine (QW_lv (ks := [0, 4, 5, 6, 7, 8, 10]) ?_)
          refine CW_region ?_
          refine RW_m ?_
          refine RW_l (Yl_add (c := ((i + 1 : Nat) : Int)) rfl rfl (wi64 (by omega) (by omega))) ?_
          refine RW_a ?_
          refine RW_nil ?_
          have htk : es.take (j * num_ + (i + 1)) = es.take (j * num_ + i) ++ [e] := by rw [← Nat.add_assoc, List.take_succ_eq_append_getElem hlen2]; congr 2; rw [he]; simp [List.getD_eq_getElem?_getD, hlen2]
          refine QW_round ⟨i + 1, g', cap', r', ⟨bf, bd, e⟩ :: rs, [], [], 0⟩ ⟨by simp only; omega, by simp only [List.length_cons]; omega, ?_, ?_⟩ (by simp only; omega) ?_ (.cons rfl (.cons rfl (.cons rfl (.cons rfl (.cons rfl (.cons rfl (.cons rfl .nil)))))))
          · simp only [List.reverse_cons, List.map_append, List.map_cons, List.map_nil]; rw [htk, ← hre2]
          · simp only [List.reverse_cons, List.map_append, List.map_cons, List.map_nil]; rw [← Nat.mul_one cap']; exact hl'
          · simp only [List.reverse_cons, List.map_append, List.map_cons, List.map_nil, filsH, enB, List.cons_append, hen.path, hen.pos, hen.rem]; exact (by repeat (first | exact Prm.nil _ | exact Rem.here _ _ | apply Rem.there | apply Prm.cons))
        · replace hc6 := of_decide_eq_false hc6
          refine CW_exit ?_
          refine QW_exit_then ?_
          refine QW_exit_then ?_
          refine QW_exit_block ?_
          refine (QW_lv (ks := [0, 4, 5, 6, 7]) ?_)
          refine CW_seq ?_
          have hfn := findNext_ct br bh bhf bs bB ss (snx sns j) sect 45 109 109 o N cN B rB (rdF bs ss (.slice (some ⟨bb, 0, none⟩) ss ss) (pv bh) file (.slice none 0 0) wa) [pv bhf, .slice (some ⟨bhf, 45, none⟩) 109 109, m1, m2] hc 142 rfl rfl rfl rfl hsect hs109 (by omega) (by omega) (by omega) (by omega) ho ho4 hB hcN hN
          rw [hnx] at hfn
          have hin : i = num_ := by omega
          rw [hin] at hrl2 hre2
          refine CW_region ?_
          refine RW_m ?_
          refine RW_m ?_
          refine RW_fx rfl rfl rfl (Fx_callQ ok_60 (vs := [pv br, uv (snx sns j), .bool false]) (R := fun v => v = .tuple #[uv (snx sns (j + 1)), .nilIface]) rfl (by repeat (first | exact Pick.nil _ | apply Pick.cons | exact Rem.here _ _ | apply Rem.there)) hfn) ?_
          rintro _ _ ⟨rfl, rfl⟩
          refine RW_m ?_
          refine RW_l (Yl_extract rfl rfl) ?_
          refine RW_l (Yl_extract rfl rfl) ?_
          refine RW_a ?_
          refine RW_a ?_
          refine RW_lv (ks := [0, 4, 5, 6, 7, 9, 12]) ?_
          refine CW_seq ?_
          refine CW_seq ?_
          refine CW_region ?_
          refine RW_m ?_
          refine RW_l (Yl_ifNeNil rfl if_105) ?_
          refine RW_lv (ks := [0, 4, 5, 6, 7, 9, 12, 159]) ?_
          refine CW_cond rfl (fun hc7 => ?_) (fun hc7 => ?_)
          · skip
            exact absurd hc7 (by decide)
          · skip
            refine (CW_skip (QW_lv (ks := [0, 4, 5, 6, 7, 12]) ?_))
            refine CW_seq ?_
            refine CW_seq ?_
            refine CW_region ?_
            refine RW_m ?_
            refine RW_m ?_
            refine RW_l (Yl_leq rfl rfl) ?_
            refine RW_lv (ks := [0, 4, 5, 6, 7, 12, 170]) ?_
            refine CW_cond rfl (fun hc8 => ?_) (fun hc8 => ?_)
            · replace hc8 := of_decide_eq_true hc8
              refine CW_seq ?_
              refine CW_seq ?_
              refine CW_region ?_
              refine RW_m ?_
              refine RW_m ?_
              refine RW_l (Yl_eql rfl rfl) ?_
              refine RW_m ?_
              refine RW_bool 174 rfl (fun hg9 => ?_) (fun hg9 => ?_)
              · replace hg9 := of_decide_eq_true hg9
                exact absurd (by exact_mod_cast hg9) (hch.ne (i := j) (j := j + 1) (by omega) (by omega) (by omega)).symm
              · replace hg9 := of_decide_eq_false hg9
                refine RW_gy rfl rfl rfl (Yl.h (Yl_move rfl)) ?_
                refine RW_gy rfl rfl rfl (Yl.h (Yl_move rfl)) ?_
                refine RW_gy rfl rfl rfl (Yh_lookup (v := .bool false) (n := ((snx sns (j + 1) : Nat) : Int)) (k := .u32) (l := l) (c := c) rfl rfl mp_143 in_67 zm_4 (by repeat (first | exact List.Mem.head _ | apply List.Mem.tail)) (by rw [mfind_none (by intro p hp; obtain ⟨i, hi1, hi2, hi3⟩ := hmap p hp; rw [hi3]; intro e; exact hch.ne (i := i) (j := j + 1) (by omega) (by omega) (by omega) (by exact_mod_cast e))]; rfl)) ?_
                refine RW_l (Yl_pick_f rfl rfl) ?_
                refine RW_lv (ks := [0, 4, 5, 6, 12, 178]) ?_
                refine CW_false rfl ?_
                refine (CW_skip (QW_lv (ks := [0, 4, 5, 6, 12]) ?_))
                refine CW_region ?_
                refine RW_m ?_
                refine RW_m ?_
                refine RW_fx0 rfl rfl (Fx_mapUpdate (n := ((snx sns (j + 1) : Nat) : Int)) (v := .bool true) (k := .u32) (l := l) (c := c) rfl rfl rfl mp_143 in_67 (by repeat (first | exact Rep.here _ _ _ | apply Rep.there)) (by intro p hp; obtain ⟨i, hi1, hi2, hi3⟩ := hmap p hp; rw [hi3]; intro e; exact hch.ne (i := i) (j := j + 1) (by omega) (by omega) (by omega) (by exact_mod_cast e))) ?_
                rintro _ _ ⟨rfl, rfl⟩
                refine RW_lv (ks := [0, 4, 5, 6, 12]) ?_
                refine CW_region ?_
                refine RW_m ?_
                refine RW_a ?_
                refine RW_nil ?_
                refine QW_normal_block ?_
                first
                  | (refine QW_round ⟨j + 1, g, cap, r, rs, bys ((B.drop ((snx sns j + 1) * ss)).take ss), l, c⟩ ⟨by simp only; omega, by simp only; rw [hrl2, Nat.succ_mul], by simp only; rw [hre2, Nat.succ_mul], hl, by rw [List.length_map]; exact hXl, (by intro p hp; obtain ⟨i, hi1, hi2, hi3⟩ := hmap p hp; exact ⟨i, hi1, by simp only; omega, hi3⟩)⟩ (by simp only; omega) ?_ (.cons rfl (.cons rfl (.cons rfl (.cons rfl (.cons rfl .nil))))); (repeat (first | exact Prm.nil _ | exact Rem.here _ _ | apply Rem.there | apply Prm.cons)); done)
                  | (refine QW_round ⟨j + 1, g, cap, r, rs, bys ((B.drop ((snx sns j + 1) * ss)).take ss), l ++ [(((snx sns (j + 1) : Nat) : Int), .bool true, c)], c + 1⟩ ⟨by simp only; omega, by simp only; rw [hrl2, Nat.succ_mul], by simp only; rw [hre2, Nat.succ_mul], hl, by rw [List.length_map]; exact hXl, (by intro p hp; rcases List.mem_append.1 hp with hp | hp; (obtain ⟨i, hi1, hi2, hi3⟩ := hmap p hp; exact ⟨i, hi1, by simp only; omega, hi3⟩); (rw [List.mem_singleton.1 hp]; exact ⟨j + 1, by omega, by simp only; omega, rfl⟩))⟩ (by simp only; omega) ?_ (.cons rfl (.cons rfl (.cons rfl (.cons rfl (.cons rfl .nil))))); (repeat (first | exact Prm.nil _ | exact Rem.here _ _ | apply Rem.there | apply Prm.cons)); done)
            · replace hc8 := of_decide_eq_false hc8
              refine (CW_skip (QW_lv (ks := [0, 4, 5, 6, 12]) ?_))
              refine CW_region ?_
              refine RW_m ?_
              refine RW_a ?_
              refine RW_nil ?_
              refine QW_normal_block ?_
              first
                | (refine QW_round ⟨j + 1, g, cap, r, rs, bys ((B.drop ((snx sns j + 1) * ss)).take ss), l, c⟩ ⟨by simp only; omega, by simp only; rw [hrl2, Nat.succ_mul], by simp only; rw [hre2, Nat.succ_mul], hl, by rw [List.length_map]; exact hXl, (by intro p hp; obtain ⟨i, hi1, hi2, hi3⟩ := hmap p hp; exact ⟨i, hi1, by simp only; omega, hi3⟩)⟩ (by simp only; omega) ?_ (.cons rfl (.cons rfl (.cons rfl (.cons rfl (.cons rfl .nil))))); (repeat (first | exact Prm.nil _ | exact Rem.here _ _ | apply Rem.there | apply Prm.cons)); done)
                | (refine QW_round ⟨j + 1, g, cap, r, rs, bys ((B.drop ((snx sns j + 1) * ss)).take ss), l ++ [(((snx sns (j + 1) : Nat) : Int), .bool true, c)], c + 1⟩ ⟨by simp only; omega, by simp only; rw [hrl2, Nat.succ_mul], by simp only; rw [hre2, Nat.succ_mul], hl, by rw [List.length_map]; exact hXl, (by intro p hp; rcases List.mem_append.1 hp with hp | hp; (obtain ⟨i, hi1, hi2, hi3⟩ := hmap p hp; exact ⟨i, hi1, by simp only; omega, hi3⟩); (rw [List.mem_singleton.1 hp]; exact ⟨j + 1, by omega, by simp only; omega, rfl⟩))⟩ (by simp only; omega) ?_ (.cons rfl (.cons rfl (.cons rfl (.cons rfl (.cons rfl .nil))))); (repeat (first | exact Prm.nil _ | exact Rem.here _ _ | apply Rem.there | apply Prm.cons)); done)
    · replace hc4 := of_decide_eq_false hc4
      have hjK2 : j = sns.length := by
        rcases Nat.lt_or_ge j sns.length with hh | hh
        · have := hch.small j hh
          exfalso; omega
        · omega
      have hlen : rs.length = es.length := by rw [hrl, hjK2, hes]
      rw [hjK2, ← hes, List.take_length] at hre
      have hpos : 0 < es.length := by rw [hes]; exact Nat.mul_pos hK (by omega)
      refine CW_exit ?_
      refine QW_exit_then ?_
      refine QW_exit_then ?_
      refine QW_exit_block ?_
      refine (QW_lv (ks := [0, 4]) ?_)
      refine CW_seq ?_
      refine CW_seq ?_
      refine CW_region ?_
      refine RW_m ?_
      refine RW_l (Yl_len rfl sl_83) ?_
      refine RW_l (Yl_eql rfl rfl) ?_
      refine RW_lv (ks := [0, 4, 188]) ?_
      refine CW_cond rfl (fun hc10 => ?_) (fun hc10 => ?_)
      · replace hc10 := of_decide_eq_true hc10
        exfalso; omega
      · replace hc10 := of_decide_eq_false hc10
        refine (CW_skip (QW_lv (ks := [0, 4]) ?_))
        refine CW_seq ?_
        refine CW_region ?_
        refine RW_m ?_
        refine RW_m ?_
        refine RW_l (Yl_nilCheck rfl) ?_
        refine RW_l (Yl_field rfl fo_89_5) ?_
        refine RW_fx0 rfl rfl (Fx_store (v := .slice (some ⟨g, 0, none⟩) rs.length cap) rfl rfl sz_83 rfl (by repeat (first | exact Rep.here _ _ _ | apply Rep.there)) (by simp [rdF])) ?_
        rintro _ _ rfl
        refine RW_lv (ks := []) ?_
        refine CW_seq ?_
        refine CW_region ?_
        refine RW_a ?_
        refine RW_lv (ks := [2]) ?_
        refine CW_ret ?_
        refine QW_dropB (e := (bm, _)) (by repeat (first | exact Rem.here _ _ | apply Rem.there)) ?_
        exact QW_heap (List.Perm.append_left [_, _, _, _, _, _, _, _] (List.Perm.append_right F (filsH_rev br rs).symm)) (QW_ret1 rfl rfl (_ :: _ :: _ :: _ :: _ :: _ :: _ :: _ :: filsH br rs.reverse) ⟨rfl, g, cap, r, lb, rs.reverse, hre, hl, hlb, by rw [hlen]; rfl⟩ (Prm.nil _))
end Go.Proofs.YtgoddcicbpjknaaDoor

/-! Walks: the small stream is found. -/
set_option maxRecDepth 20000
namespace Go.Proofs.YtgoddcicbpjknaaDoor
open Go
open Cfb
set_option maxHeartbeats 4000000 in
theorem setMini0_ct (br bh bhf bs bB ss g N cN : Nat) (B : List UInt8) (rB hc : List Value) (buf file wa m1 m2 : Value) (n cap : Nat) (r : List Value) (f0 : Fil) (fr : List Fil) (st0 : Nat) (hst : f0.en.dc[60]? = some (uv st0)) (hn : 0 < n) (h0 : st0 = 4294967294) :
    Ct Tryd.prog 49 [pv br] ((br, blk (rdF bs ss buf (pv bh) file (.slice (some ⟨g, 0, none⟩) n cap) wa) 89) :: (bh, blk [pv bhf, .slice (some ⟨bhf, 45, none⟩) 109 109, m1, m2] 137) :: (g, blk (ptrs (f0 :: fr) ++ r) 90) :: filsH br (f0 :: fr)) (fun v q => v = .nilIface ∧ q = (br, blk (rdF bs ss buf (pv bh) file (.slice (some ⟨g, 0, none⟩) n cap) wa) 89) :: (bh, blk [pv bhf, .slice (some ⟨bhf, 45, none⟩) 109 109, m1, m2] 137) :: (g, blk (ptrs (f0 :: fr) ++ r) 90) :: filsH br (f0 :: fr)) := by
  simp only [filsH]
  refine Ct_of Tryd.func49 rfl Tryd.ntmps49 rfl ?_
  intro E F
  simp only [numL, List.nil_append, List.cons_append]
  refine CW_seq ?_
  refine CW_region ?_
  refine RW_a ?_
  refine RW_lv (ks := [0]) ?_
  refine CW_seq ?_
  refine CW_seq ?_
  refine CW_region ?_
  refine RW_m ?_
  refine RW_l (Yl_nilCheck rfl) ?_
  refine RW_l (Yl_field rfl fo_89_5) ?_
  refine RW_h (Yh_load (v := .slice (some ⟨g, 0, none⟩) n cap) rfl sc_83 (by repeat (first | exact List.Mem.head _ | apply List.Mem.tail)) rfl) ?_
  refine RW_l (Yl_indexN (b := g) (off := 0) (i := 0) (o' := 0) rfl rfl sl_83 (by omega) (by omega)) ?_
  refine RW_h (Yh_load (v := pv f0.bf) rfl sc_90 (by repeat (first | exact List.Mem.head _ | apply List.Mem.tail)) rfl) ?_
  refine RW_l (Yl_nilCheck rfl) ?_
  refine RW_l (Yl_field rfl fo_93_7) ?_
  refine RW_h (Yh_load (v := pv f0.bd) rfl sc_91 (by repeat (first | exact List.Mem.head _ | apply List.Mem.tail)) rfl) ?_
  refine RW_l (Yl_nilCheck rfl) ?_
  refine RW_l (Yl_field rfl fo_112_11) ?_
  refine RW_h (Yh_load (v := uv st0) rfl sc_67 (by repeat (first | exact List.Mem.head _ | apply List.Mem.tail)) hst) ?_
  refine RW_l (Yl_eql rfl rfl) ?_
  refine RW_m ?_
  refine RW_bool 24 rfl (fun hg1 => ?_) (fun hg1 => ?_)
  · replace hg1 := of_decide_eq_true hg1
    refine RW_skip rfl rfl rfl ?_
    refine RW_skip rfl rfl rfl ?_
    refine RW_skip rfl rfl rfl ?_
    refine RW_skip rfl rfl rfl ?_
    refine RW_skip rfl rfl rfl ?_
    refine RW_skip rfl rfl rfl ?_
    refine RW_skip rfl rfl rfl ?_
    refine RW_skip rfl rfl rfl ?_
    refine RW_skip rfl rfl rfl ?_
    refine RW_skip rfl rfl rfl ?_
    refine RW_skip rfl rfl rfl ?_
    refine RW_l (Yl_pick_t rfl rfl) ?_
    refine RW_m ?_
    refine RW_skip rfl rfl rfl ?_
    refine RW_skip rfl rfl rfl ?_
    refine RW_skip rfl rfl rfl ?_
    refine RW_skip rfl rfl rfl ?_
    refine RW_skip rfl rfl rfl ?_
    refine RW_skip rfl rfl rfl ?_
    refine RW_skip rfl rfl rfl ?_
    refine RW_skip rfl rfl rfl ?_
    refine RW_skip rfl rfl rfl ?_
    refine RW_skip rfl rfl rfl ?_
    refine RW_skip rfl rfl rfl ?_
    refine RW_l (Yl_pick_t rfl rfl) ?_
    refine RW_lv (ks := [0, 49]) ?_
    refine CW_true rfl ?_
    refine CW_seq ?_
    refine CW_region ?_
    refine RW_a ?_
    refine RW_lv (ks := [2]) ?_
    refine CW_ret ?_
    refine QW_ret_then ?_
    exact QW_ret1 rfl rfl (_ :: _ :: _ :: filsH br (f0 :: fr)) ⟨rfl, rfl⟩ (Prm.nil _)
  · replace hg1 := of_decide_eq_false hg1
    exact absurd (show ((st0 : Nat) : Int) = 4294967294 by omega) hg1
structure MsS where
  j : Nat
  g2 : Nat
  cap2 : Nat
  r2 : List Value
  l : List (Int × Value × Nat)
  c : Nat
set_option maxHeartbeats 4000000 in
theorem setMini_ct (br bh bhf bs bB ss g N cN : Nat) (B : List UInt8) (rB hc : List Value) (buf file wa : Value) (n cap : Nat) (r : List Value) (f0 : Fil) (fr : List Fil) (hn : 0 < n)
    (sns1 sns2 : List Nat) (ml nm : Nat) (h1 : ChOk B N ss hc sns1) (h2 : ChOk B N ss hc sns2) (hst : f0.en.dc[60]? = some (uv (snx sns2 0))) (hK2 : 1 ≤ sns2.length) (hml0 : ml = snx sns1 0) (hnm1 : nm = sns1.length) (hnm0 : 1 ≤ nm) (hml : hc[41]? = some (uv ml)) (hnm : hc[42]? = some (uv nm)) (hcm : ss / 4 * nm ≤ 64000) (hnm4 : nm ≤ 64000) (hs2 : sns2.length ≤ 100000)
    (hss : 512 ≤ ss ∧ ss ≤ 4096) (hB : B.length = N) (hcN : N ≤ cN) (hN : N ≤ 1000000000) :
    Ct Tryd.prog 49 [pv br] ((br, blk (rdF bs ss buf (pv bh) file (.slice (some ⟨g, 0, none⟩) n cap) wa) 89) :: (bh, blk [pv bhf, .slice (some ⟨bhf, 45, none⟩) 109 109, .slice none 0 0, .slice none 0 0] 137) :: (bhf, blk hc 142) :: (bs, blk [.slice (some ⟨bB, 0, none⟩) N cN] 103) :: (bB, blk (bys B ++ rB) 5) :: (g, blk (ptrs (f0 :: fr) ++ r) 90) :: filsH br (f0 :: fr)) (fun v q => v = .nilIface ∧ ∃ bm1 Tl g2 cap2 r2, Tl.length = nm ∧ (∀ k, k < nm → Tl[k]? = some (uv (snx sns1 k))) ∧ (u32s sns2 ++ r2).length = cap2 ∧ q = ((br, blk (rdF bs ss buf (pv bh) file (.slice (some ⟨g, 0, none⟩) n cap) wa) 89) :: (bh, blk [pv bhf, .slice (some ⟨bhf, 45, none⟩) 109 109, .slice (some ⟨bm1, 0, none⟩) nm nm, .slice (some ⟨g2, 0, none⟩) sns2.length cap2] 137) :: (bhf, blk hc 142) :: (bs, blk [.slice (some ⟨bB, 0, none⟩) N cN] 103) :: (bB, blk (bys B ++ rB) 5) :: (g, blk (ptrs (f0 :: fr) ++ r) 90) :: (bm1, blk Tl 67) :: (g2, blk (u32s sns2 ++ r2) 67) :: filsH br (f0 :: fr))) := by
  simp only [filsH]
  refine Ct_of Tryd.func49 rfl Tryd.ntmps49 rfl ?_
  intro E F
  simp only [numL, List.nil_append, List.cons_append]
  refine CW_seq ?_
  refine CW_region ?_
  refine RW_a ?_
  refine RW_lv (ks := [0]) ?_
  refine CW_seq ?_
  refine CW_seq ?_
  refine CW_region ?_
  refine RW_m ?_
  refine RW_l (Yl_nilCheck rfl) ?_
  refine RW_l (Yl_field rfl fo_89_5) ?_
  refine RW_h (Yh_load (v := .slice (some ⟨g, 0, none⟩) n cap) rfl sc_83 (by repeat (first | exact List.Mem.head _ | apply List.Mem.tail)) rfl) ?_
  refine RW_l (Yl_indexN (b := g) (off := 0) (i := 0) (o' := 0) rfl rfl sl_83 (by omega) (by omega)) ?_
  refine RW_h (Yh_load (v := pv f0.bf) rfl sc_90 (by repeat (first | exact List.Mem.head _ | apply List.Mem.tail)) rfl) ?_
  refine RW_l (Yl_nilCheck rfl) ?_
  refine RW_l (Yl_field rfl fo_93_7) ?_
  refine RW_h (Yh_load (v := pv f0.bd) rfl sc_91 (by repeat (first | exact List.Mem.head _ | apply List.Mem.tail)) rfl) ?_
  refine RW_l (Yl_nilCheck rfl) ?_
  refine RW_l (Yl_field rfl fo_112_11) ?_
  refine RW_h (Yh_load (v := uv (snx sns2 0)) rfl sc_67 (by repeat (first | exact List.Mem.head _ | apply List.Mem.tail)) hst) ?_
  refine RW_l (Yl_eql rfl rfl) ?_
  refine RW_m ?_
  refine RW_bool 24 rfl (fun hg1 => ?_) (fun hg1 => ?_)
  · replace hg1 := of_decide_eq_true hg1
    exfalso
    have := h2.small 0 (by omega)
    omega
  · replace hg1 := of_decide_eq_false hg1
    refine RW_gy rfl rfl rfl (Yl.h (Yl_move rfl)) ?_
    refine RW_gy rfl rfl rfl (Yl.h (Yl_nilCheck rfl)) ?_
    refine RW_gy rfl rfl rfl (Yl.h (Yl_field rfl fo_89_3)) ?_
    refine RW_gy rfl rfl rfl (Yh_load (v := pv bh) rfl sc_82 (by repeat (first | exact List.Mem.head _ | apply List.Mem.tail)) rfl) ?_
    refine RW_gy rfl rfl rfl (Yl.h (Yl_nilCheck rfl)) ?_
    refine RW_gy rfl rfl rfl (Yl.h (Yl_field rfl fo_137_0)) ?_
    refine RW_gy rfl rfl rfl (Yh_load (v := pv bhf) rfl sc_134 (by repeat (first | exact List.Mem.head _ | apply List.Mem.tail)) rfl) ?_
    refine RW_gy rfl rfl rfl (Yl.h (Yl_nilCheck rfl)) ?_
    refine RW_gy rfl rfl rfl (Yl.h (Yl_field rfl fo_142_13)) ?_
    refine RW_gy rfl rfl rfl (Yh_load (v := uv ml) rfl sc_67 (by repeat (first | exact List.Mem.head _ | apply List.Mem.tail)) hml) ?_
    refine RW_gy rfl rfl rfl (Yl.h (Yl_eql rfl rfl)) ?_
    refine RW_l (Yl_pick_f rfl rfl) ?_
    refine RW_m ?_
    refine RW_bool 37 rfl (fun hg2 => ?_) (fun hg2 => ?_)
    · replace hg2 := of_decide_eq_true hg2
      exfalso
      have := h1.small 0 (by omega)
      omega
    · replace hg2 := of_decide_eq_false hg2
      refine RW_gy rfl rfl rfl (Yl.h (Yl_move rfl)) ?_
      refine RW_gy rfl rfl rfl (Yl.h (Yl_nilCheck rfl)) ?_
      refine RW_gy rfl rfl rfl (Yl.h (Yl_field rfl fo_89_3)) ?_
      refine RW_gy rfl rfl rfl (Yh_load (v := pv bh) rfl sc_82 (by repeat (first | exact List.Mem.head _ | apply List.Mem.tail)) rfl) ?_
      refine RW_gy rfl rfl rfl (Yl.h (Yl_nilCheck rfl)) ?_
      refine RW_gy rfl rfl rfl (Yl.h (Yl_field rfl fo_137_0)) ?_
      refine RW_gy rfl rfl rfl (Yh_load (v := pv bhf) rfl sc_134 (by repeat (first | exact List.Mem.head _ | apply List.Mem.tail)) rfl) ?_
      refine RW_gy rfl rfl rfl (Yl.h (Yl_nilCheck rfl)) ?_
      refine RW_gy rfl rfl rfl (Yl.h (Yl_field rfl fo_142_14)) ?_
      refine RW_gy rfl rfl rfl (Yh_load (v := uv nm) rfl sc_67 (by repeat (first | exact List.Mem.head _ | apply List.Mem.tail)) hnm) ?_
      refine RW_gy rfl rfl rfl (Yl.h (Yl_eql rfl rfl)) ?_
      refine RW_l (Yl_pick_f rfl rfl) ?_
      refine RW_lv (ks := [0, 49]) ?_
      refine CW_cond rfl (fun hc3 => ?_) (fun hc3 => ?_)
      · replace hc3 := of_decide_eq_true hc3
        exfalso; omega
      · replace hc3 := of_decide_eq_false hc3
        refine (CW_skip (QW_lv (ks := [0]) ?_))
        refine CW_seq ?_
        refine CW_region ?_
        refine RW_m ?_
        refine RW_l (Yl_nilCheck rfl) ?_
        refine RW_l (Yl_field rfl fo_89_3) ?_
        refine RW_h (Yh_load (v := pv bh) rfl sc_82 (by repeat (first | exact List.Mem.head _ | apply List.Mem.tail)) rfl) ?_
        refine RW_l (Yl_nilCheck rfl) ?_
        refine RW_l (Yl_field rfl fo_137_0) ?_
        refine RW_h (Yh_load (v := pv bhf) rfl sc_134 (by repeat (first | exact List.Mem.head _ | apply List.Mem.tail)) rfl) ?_
        refine RW_l (Yl_nilCheck rfl) ?_
        refine RW_l (Yl_field rfl fo_142_14) ?_
        refine RW_h (Yh_load (v := uv nm) rfl sc_67 (by repeat (first | exact List.Mem.head _ | apply List.Mem.tail)) hnm) ?_
        refine RW_l (Yl_conv (c := (nm : Int)) rfl in_67 in_3 (wi64 (by omega) (by omega))) ?_
        refine RW_a ?_
        refine RW_lv (ks := [0, 3]) ?_
        refine CW_seq ?_
        refine CW_seq ?_
        refine CW_region ?_
        refine RW_m ?_
        refine RW_l (Yl_nilCheck rfl) ?_
        refine RW_l (Yl_field rfl fo_89_3) ?_
        refine RW_h (Yh_load (v := pv bh) rfl sc_82 (by repeat (first | exact List.Mem.head _ | apply List.Mem.tail)) rfl) ?_
        refine RW_l (Yl_nilCheck rfl) ?_
        refine RW_l (Yl_field rfl fo_137_0) ?_
        refine RW_h (Yh_load (v := pv bhf) rfl sc_134 (by repeat (first | exact List.Mem.head _ | apply List.Mem.tail)) rfl) ?_
        refine RW_l (Yl_nilCheck rfl) ?_
        refine RW_l (Yl_field rfl fo_142_14) ?_
        refine RW_h (Yh_load (v := uv nm) rfl sc_67 (by repeat (first | exact List.Mem.head _ | apply List.Mem.tail)) hnm) ?_
        refine RW_l (Yl_gtr rfl rfl) ?_
        refine RW_lv (ks := [0, 3, 71]) ?_
        refine CW_cond rfl (fun hc4 => ?_) (fun hc4 => ?_)
        · replace hc4 := of_decide_eq_true hc4
          exfalso; omega
        · replace hc4 := of_decide_eq_false hc4
          refine (CW_skip (QW_lv (ks := [0, 3]) ?_))
          refine CW_seq ?_
          refine CW_draw [8] _ mixed (Sub.refl _) ?_
          refine RD_l 0 rfl (Yl_move rfl) ?_
          refine RD_l 1 rfl (Yl_nilCheck rfl) ?_
          refine RD_l 2 rfl (Yl_field rfl fo_89_3) ?_
          refine RD_l 4 rfl (Yl_move rfl) ?_
          refine RD_h (i := 3) #[true, true, true, false, true, true, false, false, false] rfl rfl rfl rfl (by kernel_rfl) (fun _ _ _ h => h) (Yh_load (v := pv bh) rfl sc_82 (by repeat (first | exact List.Mem.head _ | apply List.Mem.tail)) rfl) ?_
          refine RD_one (i := 5) (by kernel_rfl) ?_
          refine RO_fx rfl rfl rfl rfl (Fx_makeU32 nm rfl rfl (by omega)) ?_
          rintro _ _ ⟨bm1, rfl, rfl⟩
          refine ⟨Or.inr (Sub.more (Sub.refl _)), ?_⟩
          refine RD_l 6 rfl (Yl_nilCheck rfl) ?_
          refine RD_l 7 rfl (Yl_field rfl fo_137_2) ?_
          refine RD_one (i := 8) (by kernel_rfl) ?_
          refine RO_fx0 rfl rfl rfl (Fx_store (v := .slice (some ⟨bm1, 0, none⟩) nm nm) rfl rfl sz_22 rfl (by repeat (first | exact Rep.here _ _ _ | apply Rep.there)) (by simp)) ?_
          rintro _ _ rfl
          refine ⟨Or.inl (by kernel_rfl), ?_⟩
          refine (RD_done (by kernel_rfl) (QW_lv (ks := [0, 3]) ?_))
          refine CW_seq ?_
          refine CW_draw [18] _ mixed (Sub.refl _) ?_
          refine RD_l 0 rfl (Yl_move rfl) ?_
          refine RD_l 1 rfl (Yl_nilCheck rfl) ?_
          refine RD_l 2 rfl (Yl_field rfl fo_89_3) ?_
          refine RD_l 7 rfl (Yl_move rfl) ?_
          refine RD_l 8 rfl (Yl_nilCheck rfl) ?_
          refine RD_l 9 rfl (Yl_field rfl fo_89_3) ?_
          refine RD_h (i := 3) #[true, true, true, false, false, false, false, true, true, true, true, true, true, true, true, true, true, false, false] rfl rfl rfl rfl (by kernel_rfl) (fun _ _ _ h => h) (Yh_load (v := pv bh) rfl sc_82 (by repeat (first | exact List.Mem.head _ | apply List.Mem.tail)) rfl) ?_
          refine RD_l 4 rfl (Yl_nilCheck rfl) ?_
          refine RD_l 5 rfl (Yl_field rfl fo_137_2) ?_
          refine RD_h (i := 6) #[true, true, true, true, true, true, false, true, true, true, true, true, true, true, true, true, true, false, false] rfl rfl rfl rfl (by kernel_rfl) (fun _ _ _ h => h) (Yh_load (v := .slice (some ⟨bm1, 0, none⟩) nm nm) rfl sc_22 (by repeat (first | exact List.Mem.head _ | apply List.Mem.tail)) rfl) ?_
          refine RD_h (i := 10) #[true, true, true, true, true, true, true, true, true, true, false, false, false, false, false, false, false, false, false] rfl rfl rfl rfl (by kernel_rfl) (fun _ _ _ h => h) (Yh_load (v := pv bh) rfl sc_82 (by repeat (first | exact List.Mem.head _ | apply List.Mem.tail)) rfl) ?_
          refine RD_l 11 rfl (Yl_nilCheck rfl) ?_
          refine RD_l 12 rfl (Yl_field rfl fo_137_0) ?_
          refine RD_h (i := 13) #[true, true, true, true, true, true, true, true, true, true, true, true, true, false, false, false, false, false, false] rfl rfl rfl rfl (by kernel_rfl) (fun _ _ _ h => h) (Yh_load (v := pv bhf) rfl sc_134 (by repeat (first | exact List.Mem.head _ | apply List.Mem.tail)) rfl) ?_
          refine RD_l 14 rfl (Yl_nilCheck rfl) ?_
          refine RD_l 15 rfl (Yl_field rfl fo_142_13) ?_
          refine RD_h (i := 16) #[true, true, true, true, true, true, true, true, true, true, true, true, true, true, true, true, false, false, false] rfl rfl rfl rfl (by kernel_rfl) (fun _ _ _ h => h) (Yh_load (v := uv ml) rfl sc_67 (by repeat (first | exact List.Mem.head _ | apply List.Mem.tail)) hml) ?_
          refine RD_l 17 rfl (Yl_indexN (b := bm1) (off := 0) (i := 0) (o' := 0) rfl rfl sl_22 (by omega) (by omega)) ?_
          refine RD_one (i := 18) (by kernel_rfl) ?_
          refine RO_fx0 rfl rfl rfl (Fx_store (v := uv ml) rfl rfl sz_67 rfl (by repeat (first | exact Rep.here _ _ _ | apply Rep.there)) (by simp; omega)) ?_
          rintro _ _ rfl
          refine ⟨Or.inl (by kernel_rfl), ?_⟩
          refine (RD_done (by kernel_rfl) (QW_lv (ks := [0, 3]) ?_))
          refine CW_seq ?_
          refine CW_seq ?_
          refine CW_region ?_
          refine RW_a ?_
          refine RW_lv (ks := [0, 3, 4]) ?_
          refine CW_block ?_
          refine CW_loop (σ := Nat × List Value) (fun q => [(0, pv br), (3, nv nm), (4, nv q.1)]) (fun q => (br, blk (rdF bs ss buf (pv bh) file (.slice (some ⟨g, 0, none⟩) n cap) wa) 89) :: (bh, blk [pv bhf, .slice (some ⟨bhf, 45, none⟩) 109 109, .slice (some ⟨bm1, 0, none⟩) nm nm, .slice none 0 0] 137) :: (bhf, blk hc 142) :: (bs, blk [.slice (some ⟨bB, 0, none⟩) N cN] 103) :: (bB, blk (bys B ++ rB) 5) :: (g, blk (ptrs (f0 :: fr) ++ r) 90) :: (bm1, blk q.2 67) :: (f0.bf, blk (fiF f0.en.nm f0.en.ini f0.en.path f0.en.size f0.en.pos f0.en.cur f0.en.rem f0.bd br) 93) :: (f0.bd, blk f0.en.dc 112) :: (filsH br fr ++ F)) (fun q => 1 ≤ q.1 ∧ q.1 ≤ nm ∧ q.2.length = nm ∧ ∀ k, k < q.1 → q.2[k]? = some (uv (snx sns1 k))) (fun q => nm - q.1) (1, (u32s (List.replicate nm 0)).set 0 (uv ml)) ⟨Nat.le_refl _, by simpa using hnm0, by simp, by intro k hk; simp only at hk ⊢; obtain rfl : k = 0 := (by omega); rw [← hml0]; exact List.getElem?_set_self (by simp only [List.length_map, List.length_replicate]; omega)⟩ (by repeat (first | exact Prm.nil _ | exact Rem.here _ _ | apply Rem.there | apply Prm.cons)) (.cons rfl (.cons rfl (.cons rfl .nil))) ?_
          rintro ⟨i, Tl⟩ ⟨hi1, hi, hTl, hT⟩
          simp only at hi1 hi hTl hT ⊢
          refine CW_seq ?_
          refine CW_seq ?_
          refine CW_region ?_
          refine RW_m ?_
          refine RW_m ?_
          refine RW_l (Yl_lss rfl rfl) ?_
          refine RW_lv (ks := [0, 3, 4, 113]) ?_
          refine CW_cond rfl (fun hc5 => ?_) (fun hc5 => ?_)
          · replace hc5 := of_decide_eq_true hc5
            have hsm := h1.small (i - 1) (by omega)
            obtain ⟨sect, o, hsect, hs109, hse, ho, ho4, hnx⟩ := h1.next (i - 1) (by omega)
            rw [show i - 1 + 1 = i by omega] at hnx
            have hfn := findNext_ct br bh bhf bs bB ss (snx sns1 (i - 1)) sect 45 109 109 o N cN B rB (rdF bs ss buf (pv bh) file (.slice (some ⟨g, 0, none⟩) n cap) wa) [pv bhf, .slice (some ⟨bhf, 45, none⟩) 109 109, .slice (some ⟨bm1, 0, none⟩) nm nm, .slice none 0 0] hc 142 rfl rfl rfl rfl hsect hs109 (by omega) (by omega) (by omega) (by omega) ho ho4 hB hcN hN
            rw [hnx] at hfn
            refine (CW_skip (QW_lv (ks := [0, 3, 4]) ?_))
            refine CW_seq ?_
            refine CW_block ?_
            refine CW_seq ?_
            refine CW_region ?_
            refine RW_m ?_
            refine RW_m ?_
            refine RW_l (Yl_nilCheck rfl) ?_
            refine RW_l (Yl_field rfl fo_89_3) ?_
            refine RW_h (Yh_load (v := pv bh) rfl sc_82 (by repeat (first | exact List.Mem.head _ | apply List.Mem.tail)) rfl) ?_
            refine RW_l (Yl_nilCheck rfl) ?_
            refine RW_l (Yl_field rfl fo_137_2) ?_
            refine RW_h (Yh_load (v := .slice (some ⟨bm1, 0, none⟩) nm nm) rfl sc_22 (by repeat (first | exact List.Mem.head _ | apply List.Mem.tail)) rfl) ?_
            refine RW_m ?_
            refine RW_l (Yl_sub (c := ((i - 1 : Nat) : Int)) rfl rfl (by rw [wi64 (by omega) (by omega)]; omega)) ?_
            refine RW_l (Yl_indexN (b := bm1) (off := 0) (i := i - 1) (o' := i - 1) rfl rfl sl_22 (by omega) (by omega)) ?_
            refine RW_h (Yh_load (v := uv (snx sns1 (i - 1))) rfl sc_67 (by repeat (first | exact List.Mem.head _ | apply List.Mem.tail)) (hT (i - 1) (by omega))) ?_
            refine RW_fx rfl rfl rfl (Fx_callQ ok_60 (vs := [pv br, uv (snx sns1 (i - 1)), .bool false]) (R := fun v => v = .tuple #[uv (snx sns1 i), .nilIface]) rfl (by repeat (first | exact Pick.nil _ | apply Pick.cons | exact Rem.here _ _ | apply Rem.there)) hfn) ?_
            rintro _ _ ⟨rfl, rfl⟩
            refine RW_m ?_
            refine RW_l (Yl_extract rfl rfl) ?_
            refine RW_l (Yl_extract rfl rfl) ?_
            refine RW_a ?_
            refine RW_a ?_
            refine RW_lv (ks := [0, 3, 4, 5, 6]) ?_
            refine CW_seq ?_
            refine CW_seq ?_
            refine CW_region ?_
            refine RW_m ?_
            refine RW_l (Yl_ifNeNil rfl if_105) ?_
            refine RW_lv (ks := [0, 3, 4, 5, 6, 133]) ?_
            refine CW_cond rfl (fun hc6 => ?_) (fun hc6 => ?_)
            · skip
              exact absurd hc6 (by decide)
            · skip
              refine (CW_skip (QW_lv (ks := [0, 3, 4, 5]) ?_))
              refine CW_region ?_
              refine RW_m ?_
              refine RW_l (Yl_nilCheck rfl) ?_
              refine RW_l (Yl_field rfl fo_89_3) ?_
              refine RW_h (Yh_load (v := pv bh) rfl sc_82 (by repeat (first | exact List.Mem.head _ | apply List.Mem.tail)) rfl) ?_
              refine RW_l (Yl_nilCheck rfl) ?_
              refine RW_l (Yl_field rfl fo_137_2) ?_
              refine RW_h (Yh_load (v := .slice (some ⟨bm1, 0, none⟩) nm nm) rfl sc_22 (by repeat (first | exact List.Mem.head _ | apply List.Mem.tail)) rfl) ?_
              refine RW_m ?_
              refine RW_m ?_
              refine RW_l (Yl_indexN (b := bm1) (off := 0) (i := i) (o' := i) rfl rfl sl_22 (by omega) (by omega)) ?_
              refine RW_fx0 rfl rfl (Fx_store (v := uv (snx sns1 i)) rfl rfl sz_67 rfl (by repeat (first | exact Rep.here _ _ _ | apply Rep.there)) (by omega)) ?_
              rintro _ _ rfl
              refine RW_nil ?_
              refine QW_normal_block ?_
              refine (QW_lv (ks := [0, 3, 4]) ?_)
              refine CW_region ?_
              refine RW_m ?_
              refine RW_l (Yl_add (c := ((i + 1 : Nat) : Int)) rfl rfl (wi64 (by omega) (by omega))) ?_
              refine RW_a ?_
              refine RW_nil ?_
              refine QW_round (i + 1, Tl.set i (uv (snx sns1 i))) ⟨by simp only; omega, by simp only; omega, by simp only [List.length_set]; exact hTl, ?_⟩ (by simp only; omega) (by repeat (first | exact Prm.nil _ | exact Rem.here _ _ | apply Rem.there | apply Prm.cons)) (.cons rfl (.cons rfl (.cons rfl .nil)))
              intro k hk
              simp only at hk ⊢
              by_cases e : k = i
              · subst e; exact List.getElem?_set_self (by omega)
              · rw [List.getElem?_set_ne (by omega)]; exact hT k (by omega)
          · replace hc5 := of_decide_eq_false hc5
            have hin : i = nm := by omega
            rw [hin] at hT
            refine CW_exit ?_
            refine QW_exit_then ?_
            refine QW_exit_then ?_
            refine QW_exit_block ?_
            refine (QW_lv (ks := [0]) ?_)
            refine CW_seq ?_
            refine CW_draw [] _ mixed (Sub.refl _) ?_
            refine RD_l 0 rfl (Yl_move rfl) ?_
            refine RD_l 1 rfl (Yl_nilCheck rfl) ?_
            refine RD_l 2 rfl (Yl_field rfl fo_89_1) ?_
            refine RD_l 5 rfl (Yl_move rfl) ?_
            refine RD_l 6 rfl (Yl_nilCheck rfl) ?_
            refine RD_l 7 rfl (Yl_field rfl fo_89_3) ?_
            refine RD_h (i := 3) #[true, true, true, false, false, true, true, true, true, true, true, true, true, true, true, false, false, false] rfl rfl rfl rfl (by kernel_rfl) (fun _ _ _ h => h) (Yh_load (v := uv ss) rfl sc_67 (by repeat (first | exact List.Mem.head _ | apply List.Mem.tail)) rfl) ?_
            refine RD_l 4 rfl (Yl_quo (c := ((ss / 4 : Nat) : Int)) rfl rfl (by omega) (quo32 (b := 4) (by omega))) ?_
            refine RD_h (i := 8) #[true, true, true, true, true, true, true, true, false, false, false, false, false, false, false, false, false, false] rfl rfl rfl rfl (by kernel_rfl) (fun _ _ _ h => h) (Yh_load (v := pv bh) rfl sc_82 (by repeat (first | exact List.Mem.head _ | apply List.Mem.tail)) rfl) ?_
            refine RD_l 9 rfl (Yl_nilCheck rfl) ?_
            refine RD_l 10 rfl (Yl_field rfl fo_137_0) ?_
            refine RD_h (i := 11) #[true, true, true, true, true, true, true, true, true, true, true, false, false, false, false, false, false, false] rfl rfl rfl rfl (by kernel_rfl) (fun _ _ _ h => h) (Yh_load (v := pv bhf) rfl sc_134 (by repeat (first | exact List.Mem.head _ | apply List.Mem.tail)) rfl) ?_
            refine RD_l 12 rfl (Yl_nilCheck rfl) ?_
            refine RD_l 13 rfl (Yl_field rfl fo_142_14) ?_
            refine RD_h (i := 14) #[true, true, true, true, true, true, true, true, true, true, true, true, true, true, false, false, false, false] rfl rfl rfl rfl (by kernel_rfl) (fun _ _ _ h => h) (Yh_load (v := uv nm) rfl sc_67 (by repeat (first | exact List.Mem.head _ | apply List.Mem.tail)) hnm) ?_
            refine RD_l 15 rfl (Yl_mul (c := ((ss / 4 * nm : Nat) : Int)) rfl rfl (mul32 (a := ss / 4) (b := nm) (by omega))) ?_
            refine RD_l 16 rfl (Yl_conv (c := ((ss / 4 * nm : Nat) : Int)) rfl in_67 in_3 (wi64 (by omega) (by omega))) ?_
            refine RD_l 17 rfl (Yl_assign rfl) ?_
            refine (RD_done (by kernel_rfl) (QW_lv (ks := [0, 3]) ?_))
            refine CW_seq ?_
            refine CW_seq ?_
            refine CW_region ?_
            refine RW_m ?_
            refine RW_l (Yl_gtr rfl rfl) ?_
            refine RW_lv (ks := [0, 3, 180]) ?_
            refine CW_cond rfl (fun hc7 => ?_) (fun hc7 => ?_)
            · replace hc7 := of_decide_eq_true hc7
              exfalso; omega
            · replace hc7 := of_decide_eq_false hc7
              refine (CW_skip (QW_lv (ks := [0, 3]) ?_))
              refine CW_seq ?_
              refine CW_draw [8] _ mixed (Sub.refl _) ?_
              refine RD_l 0 rfl (Yl_move rfl) ?_
              refine RD_l 1 rfl (Yl_nilCheck rfl) ?_
              refine RD_l 2 rfl (Yl_field rfl fo_89_3) ?_
              refine RD_l 4 rfl (Yl_move rfl) ?_
              refine RD_h (i := 3) #[true, true, true, false, true, true, false, false, false] rfl rfl rfl rfl (by kernel_rfl) (fun _ _ _ h => h) (Yh_load (v := pv bh) rfl sc_82 (by repeat (first | exact List.Mem.head _ | apply List.Mem.tail)) rfl) ?_
              refine RD_one (i := 5) (by kernel_rfl) ?_
              refine RO_fx rfl rfl rfl rfl (Fx_makeSlice (z0 := .int .u32 0) (m := 1) (l := 0) (c := ((ss / 4 * nm : Nat) : Int)) rfl rfl sl_22 by_67 ze_67 rfl rfl (by omega) (by omega) (by omega) (by omega)) ?_
              rintro _ _ ⟨g2, rfl, rfl⟩
              refine ⟨Or.inr (Sub.more (Sub.refl _)), ?_⟩
              refine RD_l 6 rfl (Yl_nilCheck rfl) ?_
              refine RD_l 7 rfl (Yl_field rfl fo_137_3) ?_
              refine RD_one (i := 8) (by kernel_rfl) ?_
              refine RO_fx0 rfl rfl rfl (Fx_store (v := .slice (some ⟨g2, 0, none⟩) 0 (ss / 4 * nm)) rfl rfl sz_22 rfl (by repeat (first | exact Rep.here _ _ _ | apply Rep.there)) (by simp)) ?_
              rintro _ _ rfl
              refine ⟨Or.inl (by kernel_rfl), ?_⟩
              refine (RD_done (by kernel_rfl) (QW_lv (ks := [0]) ?_))
              refine CW_seq ?_
              refine CW_region ?_
              refine RW_fx rfl rfl rfl (Fx_makeMap .u32) ?_
              rintro _ _ ⟨bm, rfl, rfl⟩
              refine RW_a ?_
              refine RW_lv (ks := [0, 7]) ?_
              refine CW_seq ?_
              refine CW_region ?_
              refine RW_m ?_
              refine RW_l (Yl_nilCheck rfl) ?_
              refine RW_l (Yl_field rfl fo_89_5) ?_
              refine RW_h (Yh_load (v := .slice (some ⟨g, 0, none⟩) n cap) rfl sc_83 (by repeat (first | exact List.Mem.head _ | apply List.Mem.tail)) rfl) ?_
              refine RW_l (Yl_indexN (b := g) (off := 0) (i := 0) (o' := 0) rfl rfl sl_83 (by omega) (by omega)) ?_
              refine RW_h (Yh_load (v := pv f0.bf) rfl sc_90 (by repeat (first | exact List.Mem.head _ | apply List.Mem.tail)) rfl) ?_
              refine RW_l (Yl_nilCheck rfl) ?_
              refine RW_l (Yl_field rfl fo_93_7) ?_
              refine RW_h (Yh_load (v := pv f0.bd) rfl sc_91 (by repeat (first | exact List.Mem.head _ | apply List.Mem.tail)) rfl) ?_
              refine RW_l (Yl_nilCheck rfl) ?_
              refine RW_l (Yl_field rfl fo_112_11) ?_
              refine RW_h (Yh_load (v := uv (snx sns2 0)) rfl sc_67 (by repeat (first | exact List.Mem.head _ | apply List.Mem.tail)) hst) ?_
              refine RW_a ?_
              refine RW_lv (ks := [0, 7, 8]) ?_
              refine CW_seq ?_
              refine CW_block ?_
              refine CW_loop (σ := MsS) (fun q => [(0, pv br), (7, .map (some bm)), (8, uv (snx sns2 q.j))]) (fun q => (br, blk (rdF bs ss buf (pv bh) file (.slice (some ⟨g, 0, none⟩) n cap) wa) 89) :: (bh, blk [pv bhf, .slice (some ⟨bhf, 45, none⟩) 109 109, .slice (some ⟨bm1, 0, none⟩) nm nm, .slice (some ⟨q.g2, 0, none⟩) q.j q.cap2] 137) :: (bhf, blk hc 142) :: (bs, blk [.slice (some ⟨bB, 0, none⟩) N cN] 103) :: (bB, blk (bys B ++ rB) 5) :: (g, blk (ptrs (f0 :: fr) ++ r) 90) :: (bm1, blk Tl 67) :: (bm, mobj .u32 q.l q.c) :: (q.g2, blk (u32s (sns2.take q.j) ++ q.r2) 67) :: (f0.bf, blk (fiF f0.en.nm f0.en.ini f0.en.path f0.en.size f0.en.pos f0.en.cur f0.en.rem f0.bd br) 93) :: (f0.bd, blk f0.en.dc 112) :: (filsH br fr ++ F)) (fun q => q.j ≤ sns2.length ∧ (u32s (sns2.take q.j) ++ q.r2).length = q.cap2 ∧ ∀ p ∈ q.l, ∃ i, 1 ≤ i ∧ i ≤ q.j ∧ p.1 = ((snx sns2 i : Nat) : Int)) (fun q => sns2.length - q.j) ⟨0, g2, ss / 4 * nm, List.replicate (ss / 4 * nm) (.int .u32 0), [], 0⟩ ⟨Nat.zero_le _, by simp, by simp⟩ (by simp only [List.take_zero, List.map_nil, List.nil_append, Int.toNat_natCast, Nat.mul_one]; exact (by repeat (first | exact Prm.nil _ | exact Rem.here _ _ | apply Rem.there | apply Prm.cons))) (.cons rfl (.cons rfl (.cons rfl .nil))) ?_
              rintro ⟨j, g2, cap2, r2, l, c⟩ ⟨hj, hl, hmap⟩
              simp only at hj hl hmap ⊢
              refine CW_seq ?_
              refine CW_seq ?_
              refine CW_region ?_
              refine RW_m ?_
              refine RW_l (Yl_neq rfl rfl) ?_
              refine RW_lv (ks := [0, 7, 8, 203]) ?_
              refine CW_cond rfl (fun hc8 => ?_) (fun hc8 => ?_)
              · replace hc8 := of_decide_eq_true hc8
                have hjK : j < sns2.length := by
                  rcases Nat.lt_or_ge j sns2.length with hh | hh
                  · exact hh
                  · exact absurd (by rw [snx_end sns2 (show j = sns2.length by omega)]; rfl) hc8
                have hsm := h2.small j hjK
                have hft := h2.fit j hjK
                obtain ⟨sect, o, hsect, hs109, hse, ho, ho4, hnx⟩ := h2.next j hjK
                refine (CW_skip (QW_lv (ks := [0, 7, 8]) ?_))
                refine CW_block ?_
                refine CW_seq ?_
                refine CW_draw [16] [(br, blk (rdF bs ss buf (pv bh) file (.slice (some ⟨g, 0, none⟩) n cap) wa) 89), (bh, blk [pv bhf, .slice (some ⟨bhf, 45, none⟩) 109 109, .slice (some ⟨bm1, 0, none⟩) nm nm, .slice (some ⟨g2, 0, none⟩) j cap2] 137)] mixed (by repeat (first | exact Sub.nil _ | apply Sub.cons | exact Rem.here _ _ | apply Rem.there)) ?_
                refine RD_l 0 rfl (Yl_move rfl) ?_
                refine RD_l 1 rfl (Yl_nilCheck rfl) ?_
                refine RD_l 2 rfl (Yl_field rfl fo_89_3) ?_
                refine RD_l 4 rfl (Yl_move rfl) ?_
                refine RD_l 5 rfl (Yl_nilCheck rfl) ?_
                refine RD_l 6 rfl (Yl_field rfl fo_89_3) ?_
                refine RD_l 11 rfl (Yl_move rfl) ?_
                refine RD_h (i := 3) #[true, true, true, false, true, true, true, true, true, true, true, true, true, true, false, false, false] rfl rfl rfl rfl (by kernel_rfl) (fun _ _ _ h => h) (Yh_load (v := pv bh) rfl sc_82 (by repeat (first | exact List.Mem.head _ | apply List.Mem.tail)) rfl) ?_
                refine RD_h (i := 7) #[true, true, true, true, true, true, true, false, false, false, false, true, true, false, false, false, false] rfl rfl rfl rfl (by kernel_rfl) (fun _ _ _ h => h) (Yh_load (v := pv bh) rfl sc_82 (by repeat (first | exact List.Mem.head _ | apply List.Mem.tail)) rfl) ?_
                refine RD_l 8 rfl (Yl_nilCheck rfl) ?_
                refine RD_l 9 rfl (Yl_field rfl fo_137_3) ?_
                refine RD_h (i := 10) #[true, true, true, true, true, true, true, true, true, true, false, true, true, false, false, false, false] rfl rfl rfl rfl (by kernel_rfl) (fun _ _ _ h => h) (Yh_load (v := .slice (some ⟨g2, 0, none⟩) j cap2) rfl sc_22 (by repeat (first | exact List.Mem.head _ | apply List.Mem.tail)) rfl) ?_
                refine RD_one (i := 12) (by kernel_rfl) ?_
                refine RO_fx rfl rfl rfl rfl (Fx_litS (vs := [uv (snx sns2 j)]) sl_22 ze_67 rfl rfl rfl rfl rfl) ?_
                rintro _ _ ⟨b216, rfl, rfl⟩
                refine ⟨Or.inr (by repeat (first | exact Sub.nil _ | apply Sub.cons | exact Rem.here _ _ | apply Rem.there)), ?_⟩
                refine RD_one (i := 13) (by kernel_rfl) ?_
                refine RO_fx rfl rfl rfl rfl (Fx_appT (xs := u32s (sns2.take j)) (r := r2) (news := [uv (snx sns2 j)]) (n := j) (cap := cap2) (z0 := .int .u32 0) (q := 1) rfl rfl sl_22 by_67 ze_67 rfl rfl (by repeat (first | exact Rem.here _ _ | apply Rem.there)) (by repeat (first | exact Rem.here _ _ | apply Rem.there)) (by rw [hl]; omega) (by simp; omega) rfl (by simp [Value.oneCell', uv]) (by omega) (by omega) (by omega)) ?_
                rintro _ _ ⟨g', cap', r', rfl, hl', rfl⟩
                refine ⟨Or.inr (by repeat (first | exact Sub.nil _ | apply Sub.cons | exact Rem.here _ _ | apply Rem.there)), ?_⟩
                refine RD_l 14 rfl (Yl_nilCheck rfl) ?_
                refine RD_l 15 rfl (Yl_field rfl fo_137_3) ?_
                refine RD_one (i := 16) (by kernel_rfl) ?_
                refine RO_fx0 rfl rfl rfl (Fx_store (v := .slice (some ⟨g', 0, none⟩) (j + 1) cap') rfl rfl sz_22 rfl (by repeat (first | exact Rep.here _ _ _ | apply Rep.there)) (by simp)) ?_
                rintro _ _ rfl
                refine ⟨Or.inl (by kernel_rfl), ?_⟩
                refine (RD_done (by kernel_rfl) (QW_lv (ks := [0, 7, 8]) ?_))
                refine CW_seq ?_
                have hfn := findNext_ct br bh bhf bs bB ss (snx sns2 j) sect 45 109 109 o N cN B rB (rdF bs ss buf (pv bh) file (.slice (some ⟨g, 0, none⟩) n cap) wa) [pv bhf, .slice (some ⟨bhf, 45, none⟩) 109 109, .slice (some ⟨bm1, 0, none⟩) nm nm, .slice (some ⟨g', 0, none⟩) (j + 1) cap'] hc 142 rfl rfl rfl rfl hsect hs109 (by omega) (by omega) (by omega) (by omega) ho ho4 hB hcN hN
                rw [hnx] at hfn
                refine CW_region ?_
                refine RW_m ?_
                refine RW_m ?_
                refine RW_fx rfl rfl rfl (Fx_callQ ok_60 (vs := [pv br, uv (snx sns2 j), .bool false]) (R := fun v => v = .tuple #[uv (snx sns2 (j + 1)), .nilIface]) rfl (by repeat (first | exact Pick.nil _ | apply Pick.cons | exact Rem.here _ _ | apply Rem.there)) hfn) ?_
                rintro _ _ ⟨rfl, rfl⟩
                refine RW_m ?_
                refine RW_l (Yl_extract rfl rfl) ?_
                refine RW_l (Yl_extract rfl rfl) ?_
                refine RW_a ?_
                refine RW_a ?_
                refine RW_lv (ks := [0, 7, 8, 9, 10]) ?_
                refine CW_seq ?_
                refine CW_seq ?_
                refine CW_region ?_
                refine RW_m ?_
                refine RW_l (Yl_ifNeNil rfl if_105) ?_
                refine RW_lv (ks := [0, 7, 8, 9, 10, 227]) ?_
                refine CW_cond rfl (fun hc9 => ?_) (fun hc9 => ?_)
                · skip
                  exact absurd hc9 (by decide)
                · skip
                  refine (CW_skip (QW_lv (ks := [0, 7, 8, 9]) ?_))
                  refine CW_seq ?_
                  refine CW_seq ?_
                  refine CW_region ?_
                  refine RW_m ?_
                  refine RW_m ?_
                  refine RW_l (Yl_leq rfl rfl) ?_
                  refine RW_lv (ks := [0, 7, 8, 9, 238]) ?_
                  refine CW_cond rfl (fun hc10 => ?_) (fun hc10 => ?_)
                  · replace hc10 := of_decide_eq_true hc10
                    refine CW_seq ?_
                    refine CW_seq ?_
                    refine CW_region ?_
                    refine RW_m ?_
                    refine RW_m ?_
                    refine RW_l (Yl_eql rfl rfl) ?_
                    refine RW_m ?_
                    refine RW_bool 242 rfl (fun hg11 => ?_) (fun hg11 => ?_)
                    · replace hg11 := of_decide_eq_true hg11
                      exact absurd (by exact_mod_cast hg11) (h2.ne (i := j) (j := j + 1) (by omega) (by omega) (by omega)).symm
                    · replace hg11 := of_decide_eq_false hg11
                      refine RW_gy rfl rfl rfl (Yl.h (Yl_move rfl)) ?_
                      refine RW_gy rfl rfl rfl (Yl.h (Yl_move rfl)) ?_
                      refine RW_gy rfl rfl rfl (Yh_lookup (v := .bool false) (n := ((snx sns2 (j + 1) : Nat) : Int)) (k := .u32) (l := l) (c := c) rfl rfl mp_143 in_67 zm_4 (by repeat (first | exact List.Mem.head _ | apply List.Mem.tail)) (by rw [mfind_none (by intro p hp; obtain ⟨i, hi1, hi2, hi3⟩ := hmap p hp; rw [hi3]; intro e; exact h2.ne (i := i) (j := j + 1) (by omega) (by omega) (by omega) (by exact_mod_cast e))]; rfl)) ?_
                      refine RW_l (Yl_pick_f rfl rfl) ?_
                      refine RW_lv (ks := [0, 7, 9, 246]) ?_
                      refine CW_false rfl ?_
                      refine (CW_skip (QW_lv (ks := [0, 7, 9]) ?_))
                      refine CW_region ?_
                      refine RW_m ?_
                      refine RW_m ?_
                      refine RW_fx0 rfl rfl (Fx_mapUpdate (n := ((snx sns2 (j + 1) : Nat) : Int)) (v := .bool true) (k := .u32) (l := l) (c := c) rfl rfl rfl mp_143 in_67 (by repeat (first | exact Rep.here _ _ _ | apply Rep.there)) (by intro p hp; obtain ⟨i, hi1, hi2, hi3⟩ := hmap p hp; rw [hi3]; intro e; exact h2.ne (i := i) (j := j + 1) (by omega) (by omega) (by omega) (by exact_mod_cast e))) ?_
                      rintro _ _ ⟨rfl, rfl⟩
                      refine RW_lv (ks := [0, 7, 9]) ?_
                      refine CW_region ?_
                      refine RW_m ?_
                      refine RW_a ?_
                      refine RW_nil ?_
                      refine QW_normal_block ?_
                      have htk : u32s (sns2.take (j + 1)) = u32s (sns2.take j) ++ [uv (snx sns2 j)] := by
                        rw [List.take_succ_eq_append_getElem hjK]; simp only [u32s, List.map_append, List.map_cons, List.map_nil]; congr 2; rw [snx_in _ hjK]; simp [List.getD_eq_getElem?_getD, hjK]
                      first
                        | (refine QW_round ⟨j + 1, g', cap', r', l, c⟩ ⟨by simp only; omega, by simp only [htk]; rw [← Nat.mul_one cap']; exact hl', (by intro p hp; obtain ⟨i, hi1, hi2, hi3⟩ := hmap p hp; exact ⟨i, hi1, by simp only; omega, hi3⟩)⟩ (by simp only; omega) ?_ (.cons rfl (.cons rfl (.cons rfl .nil))); simp only [htk]; (repeat (first | exact Prm.nil _ | exact Rem.here _ _ | apply Rem.there | apply Prm.cons)); done)
                        | (refine QW_round ⟨j + 1, g', cap', r', l ++ [(((snx sns2 (j + 1) : Nat) : Int), .bool true, c)], c + 1⟩ ⟨by simp only; omega, by simp only [htk]; rw [← Nat.mul_one cap']; exact hl', (by intro p hp; rcases List.mem_append.1 hp with hp | hp; (obtain ⟨i, hi1, hi2, hi3⟩ := hmap p hp; exact ⟨i, hi1, by simp only; omega, hi3⟩); (rw [List.mem_singleton.1 hp]; exact ⟨j + 1, by omega, by simp only; omega, rfl⟩))⟩ (by simp only; omega) ?_ (.cons rfl (.cons rfl (.cons rfl .nil))); simp only [htk]; (repeat (first | exact Prm.nil _ | exact Rem.here _ _ | apply Rem.there | apply Prm.cons)); done)
                  · replace hc10 := of_decide_eq_false hc10
                    refine (CW_skip (QW_lv (ks := [0, 7, 9]) ?_))
                    refine CW_region ?_
                    refine RW_m ?_
                    refine RW_a ?_
                    refine RW_nil ?_
                    refine QW_normal_block ?_
                    have htk : u32s (sns2.take (j + 1)) = u32s (sns2.take j) ++ [uv (snx sns2 j)] := by
                      rw [List.take_succ_eq_append_getElem hjK]; simp only [u32s, List.map_append, List.map_cons, List.map_nil]; congr 2; rw [snx_in _ hjK]; simp [List.getD_eq_getElem?_getD, hjK]
                    first
                      | (refine QW_round ⟨j + 1, g', cap', r', l, c⟩ ⟨by simp only; omega, by simp only [htk]; rw [← Nat.mul_one cap']; exact hl', (by intro p hp; obtain ⟨i, hi1, hi2, hi3⟩ := hmap p hp; exact ⟨i, hi1, by simp only; omega, hi3⟩)⟩ (by simp only; omega) ?_ (.cons rfl (.cons rfl (.cons rfl .nil))); simp only [htk]; (repeat (first | exact Prm.nil _ | exact Rem.here _ _ | apply Rem.there | apply Prm.cons)); done)
                      | (refine QW_round ⟨j + 1, g', cap', r', l ++ [(((snx sns2 (j + 1) : Nat) : Int), .bool true, c)], c + 1⟩ ⟨by simp only; omega, by simp only [htk]; rw [← Nat.mul_one cap']; exact hl', (by intro p hp; rcases List.mem_append.1 hp with hp | hp; (obtain ⟨i, hi1, hi2, hi3⟩ := hmap p hp; exact ⟨i, hi1, by simp only; omega, hi3⟩); (rw [List.mem_singleton.1 hp]; exact ⟨j + 1, by omega, by simp only; omega, rfl⟩))⟩ (by simp only; omega) ?_ (.cons rfl (.cons rfl (.cons rfl .nil))); simp only [htk]; (repeat (first | exact Prm.nil _ | exact Rem.here _ _ | apply Rem.there | apply Prm.cons)); done)
              · replace hc8 := of_decide_eq_false hc8
                have hjK2 : j = sns2.length := by
                  rcases Nat.lt_or_ge j sns2.length with hh | hh
                  · have := h2.small j hh
                    exfalso; omega
                  · omega
                rw [hjK2, List.take_length] at hl
                rw [hjK2, List.take_length]
                refine CW_exit ?_
                refine QW_exit_then ?_
                refine QW_exit_then ?_
                refine QW_exit_block ?_
                refine (QW_lv (ks := []) ?_)
                refine CW_seq ?_
                refine CW_region ?_
                refine RW_a ?_
                refine RW_lv (ks := [2]) ?_
                refine CW_ret ?_
                refine QW_dropB (e := (bm, _)) (by repeat (first | exact Rem.here _ _ | apply Rem.there)) ?_
                exact QW_ret1 rfl rfl (_ :: _ :: _ :: _ :: _ :: _ :: _ :: _ :: filsH br (f0 :: fr)) ⟨rfl, bm1, Tl, g2, cap2, r2, hTl, hT, hl, rfl⟩ (Prm.nil _)
end Go.Proofs.YtgoddcicbpjknaaDoor

/-! Plain: how the entries of a directory are gone through. No program in sight. -/
namespace Cfb
/-- An entry, as far as it leads on: its name, what is to its left, below it, to its right (FREE of none). -/
structure Tn where
  name : List UInt8
  left : Nat
  child : Nat
  right : Nat
instance : Inhabited Tn := ⟨⟨[], 0, 0, 0⟩⟩
/-- How far one has gone: the calls, whether something was wrong, the entries, their paths. -/
structure TS where
  cnt : Nat
  bad : Bool
  out : List Nat
  pth : Nat → List (List UInt8)
def TS.call (s : TS) : TS := { s with cnt := s.cnt + 1 }
def TS.wrong (s : TS) : TS := { s with bad := true }
def TS.visit (s : TS) (i : Nat) (p : List (List UInt8)) : TS := { s with out := s.out ++ [i], pth := fun k => if k = i then p else s.pth k }
/-- One step: left, itself, below, right. -/
def travS (es : List Tn) (go : Nat → List (List UInt8) → TS → TS) (i : Nat) (p : List (List UInt8)) (s : TS) : TS :=
  let e := es.getD i default
  let s1 := if e.left = FREE then s else go e.left p s
  let s2 := s1.visit i p
  let s3 := if e.child = FREE then s2 else go e.child (if i = 0 then p else p ++ [e.name]) s2
  if e.right = FREE then s3 else go e.right p s3
def trav (es : List Tn) : Nat → Nat → List (List UInt8) → TS → TS
  | 0, _, _, s => s.call.wrong
  | f + 1, i, p, s => if es.length < s.cnt + 1 then s.call.wrong else if es.length ≤ i then s.call.wrong else travS es (trav es f) i p s.call
theorem travS_cnt {es : List Tn} {go : Nat → List (List UInt8) → TS → TS} (h : ∀ i p s, s.cnt + 1 ≤ (go i p s).cnt) (i : Nat) (p : List (List UInt8)) (s : TS) : s.cnt ≤ (travS es go i p s).cnt := by
  unfold travS
  have hv : ∀ (s : TS) i p, (s.visit i p).cnt = s.cnt := fun _ _ _ => rfl
  have h1 : ∀ (c : Prop) [Decidable c] a p (s : TS), s.cnt ≤ (if c then s else go a p s).cnt := by
    intro c _ a p s
    split
    · exact Nat.le_refl _
    · have := h a p s; omega
  simp only
  refine Nat.le_trans ?_ (h1 _ _ _ _)
  refine Nat.le_trans ?_ (h1 _ _ _ _)
  rw [hv]
  exact h1 _ _ _ _
theorem trav_cnt (es : List Tn) : ∀ f i p s, s.cnt + 1 ≤ (trav es f i p s).cnt := by
  intro f
  induction f with
  | zero => intro i p s; exact Nat.le_refl _
  | succ f ih =>
    intro i p s
    unfold trav
    split
    · exact Nat.le_refl _
    · split
      · exact Nat.le_refl _
      · exact travS_cnt ih i p s.call
theorem travS_bad {es : List Tn} {go : Nat → List (List UInt8) → TS → TS} (h : ∀ i p s, s.bad = true → (go i p s).bad = true) (i : Nat) (p : List (List UInt8)) (s : TS) (hs : s.bad = true) : (travS es go i p s).bad = true := by
  unfold travS
  have h1 : ∀ (c : Prop) [Decidable c] a p (s : TS), s.bad = true → (if c then s else go a p s).bad = true := by
    intro c _ a p s hs
    split
    · exact hs
    · exact h a p s hs
  simp only
  refine h1 _ _ _ _ (h1 _ _ _ _ ?_)
  exact h1 _ _ _ _ hs
theorem trav_bad (es : List Tn) : ∀ f i p s, s.bad = true → (trav es f i p s).bad = true := by
  intro f
  induction f with
  | zero => intro i p s _; rfl
  | succ f ih =>
    intro i p s hs
    unfold trav
    split
    · rfl
    · split
      · rfl
      · exact travS_bad ih i p s.call hs
/-- A ring: from each entry up to k one is led to another such. -/
theorem trav_ring (es : List Tn) (k : Nat) (hk : k < es.length)
    (hd : ∀ i, i ≤ k → ∃ t, (t ≤ k ∨ es.length ≤ t) ∧ t ≠ FREE ∧ ((es.getD i default).left = t ∨ (es.getD i default).child = t ∨ (es.getD i default).right = t)) :
    ∀ f i p s, (i ≤ k ∨ es.length ≤ i) → es.length + 1 ≤ s.cnt + f → (trav es f i p s).bad = true := by
  intro f
  induction f with
  | zero => intro i p s _ _; rfl
  | succ f ih =>
    intro i p s hi hf
    unfold trav
    split
    · rfl
    · split
      · rfl
      · rename_i h1 h2
        have hik : i ≤ k := by omega
        obtain ⟨t, ht, htf, hw⟩ := hd i hik
        have B : ∀ (c : Prop) [Decidable c] a p (s : TS), s.bad = true → (if c then s else trav es f a p s).bad = true := by
          intro c _ a p s hs
          split
          · exact hs
          · exact trav_bad es f a p s hs
        have C : ∀ (c : Prop) [Decidable c] a p (s : TS), s.cnt ≤ (if c then s else trav es f a p s).cnt := by
          intro c _ a p s
          split
          · exact Nat.le_refl _
          · have := trav_cnt es f a p s; omega
        have hc : s.call.cnt = s.cnt + 1 := rfl
        have hv : ∀ (s : TS) i p, (s.visit i p).cnt = s.cnt := fun _ _ _ => rfl
        unfold travS
        simp only
        rcases hw with e | e | e
        · refine B _ _ _ _ (B _ _ _ _ ?_)
          show (if _ then _ else _ : TS).bad = true
          rw [if_neg (by rw [e]; exact htf), e]
          exact ih t p _ ht (by omega)
        · refine B _ _ _ _ ?_
          rw [if_neg (by rw [e]; exact htf), e]
          refine ih t _ _ ht ?_
          rw [hv]
          have := C ((es.getD i default).left = FREE) (es.getD i default).left p s.call
          omega
        · rw [if_neg (by rw [e]; exact htf), e]
          refine ih t _ _ ht ?_
          have h3 := C ((es.getD i default).left = FREE) (es.getD i default).left p s.call
          have h4 := C ((es.getD i default).child = FREE) (es.getD i default).child (if i = 0 then p else p ++ [(es.getD i default).name]) ((if (es.getD i default).left = FREE then s.call else trav es f (es.getD i default).left p s.call).visit i p)
          rw [hv] at h4
          omega
end Cfb

/-! Plain: bounds on how entries are gone through. No program in sight. -/
namespace Cfb
theorem ifT (P : TS → TS → Prop) (hr : ∀ s, P s s) (c : Prop) [Decidable c] (s t : TS) (h : P s t) : P s (if c then s else t) := by
  split
  · exact hr s
  · exact h
/-- How many calls there are. -/
theorem trav_le (es : List Tn) : ∀ f i p s, (es.length ≤ s.cnt → (trav es f i p s).cnt = s.cnt + 1) ∧ (s.cnt < es.length → (trav es f i p s).cnt + 2 * s.cnt ≤ 3 * es.length + 1) := by
  intro f
  induction f with
  | zero => intro i p s; exact ⟨fun _ => rfl, fun h => by show s.cnt + 1 + 2 * s.cnt ≤ _; omega⟩
  | succ f ih =>
    intro i p s
    have e0 : s.call.wrong.cnt = s.cnt + 1 := rfl
    unfold trav
    split
    · exact ⟨fun _ => rfl, fun h => by omega⟩
    · split
      · exact ⟨fun _ => rfl, fun h => by rw [e0]; omega⟩
      · rename_i h1 h2
        refine ⟨fun h => by omega, fun h => ?_⟩
        have hc : s.call.cnt = s.cnt + 1 := rfl
        have hv : ∀ (s : TS) i p, (s.visit i p).cnt = s.cnt := fun _ _ _ => rfl
        have S : ∀ (c : Prop) [Decidable c] a p (t : TS), (es.length ≤ t.cnt → (if c then t else trav es f a p t).cnt ≤ t.cnt + 1) ∧ (t.cnt < es.length → (if c then t else trav es f a p t).cnt = t.cnt ∨ (if c then t else trav es f a p t).cnt + 2 * t.cnt ≤ 3 * es.length + 1) ∧ t.cnt ≤ (if c then t else trav es f a p t).cnt := by
          intro c _ a p t
          have h3 := ih a p t
          have h4 := trav_cnt es f a p t
          split
          · exact ⟨fun _ => by omega, fun _ => .inl rfl, by omega⟩
          · exact ⟨fun h => by have := h3.1 h; omega, fun h => .inr (h3.2 h), by omega⟩
        unfold travS
        simp only
        have a1 := S ((es.getD i default).left = FREE) (es.getD i default).left p s.call
        generalize (if (es.getD i default).left = FREE then s.call else trav es f (es.getD i default).left p s.call) = t1 at a1 ⊢
        have a2 := S ((es.getD i default).child = FREE) (es.getD i default).child (if i = 0 then p else p ++ [(es.getD i default).name]) (t1.visit i p)
        generalize (if (es.getD i default).child = FREE then t1.visit i p else trav es f (es.getD i default).child (if i = 0 then p else p ++ [(es.getD i default).name]) (t1.visit i p)) = t2 at a2 ⊢
        have a3 := S ((es.getD i default).right = FREE) (es.getD i default).right p t2
        generalize (if (es.getD i default).right = FREE then t2 else trav es f (es.getD i default).right p t2) = t3 at a3 ⊢
        rw [hv] at a2
        omega
theorem trav_max (es : List Tn) (f i : Nat) (p : List (List UInt8)) (s : TS) : (trav es f i p s).cnt ≤ 3 * es.length + 1 ∨ (trav es f i p s).cnt = s.cnt + 1 := by
  have h := trav_le es f i p s
  rcases Nat.lt_or_ge s.cnt es.length with hl | hl
  · have := h.2 hl; exact .inl (by omega)
  · exact .inr (h.1 hl)
/-- Not more entries than calls. -/
theorem trav_out (es : List Tn) : ∀ f i p s, (trav es f i p s).out.length + s.cnt + 1 ≤ (trav es f i p s).cnt + s.out.length + 1 := by
  intro f
  induction f with
  | zero => intro i p s; show s.out.length + s.cnt + 1 ≤ s.cnt + 1 + s.out.length + 1; omega
  | succ f ih =>
    intro i p s
    have e0 : s.call.wrong.cnt = s.cnt + 1 := rfl
    have e1 : s.call.wrong.out = s.out := rfl
    unfold trav
    split
    · rw [e0, e1]; omega
    · split
      · rw [e0, e1]; omega
      · have hc : s.call.cnt = s.cnt + 1 := rfl
        have ho : s.call.out = s.out := rfl
        have hv : ∀ (s : TS) i p, (s.visit i p).cnt = s.cnt := fun _ _ _ => rfl
        have hw : ∀ (s : TS) i p, (s.visit i p).out.length = s.out.length + 1 := fun s i p => by show (s.out ++ [i]).length = _; simp
        have S : ∀ (c : Prop) [Decidable c] a p (t : TS), (if c then t else trav es f a p t).out.length + t.cnt ≤ (if c then t else trav es f a p t).cnt + t.out.length := by
          intro c _ a p t
          have h3 := ih a p t
          split
          · omega
          · omega
        unfold travS
        simp only
        have a1 := S ((es.getD i default).left = FREE) (es.getD i default).left p s.call
        generalize (if (es.getD i default).left = FREE then s.call else trav es f (es.getD i default).left p s.call) = t1 at a1 ⊢
        have a2 := S ((es.getD i default).child = FREE) (es.getD i default).child (if i = 0 then p else p ++ [(es.getD i default).name]) (t1.visit i p)
        generalize (if (es.getD i default).child = FREE then t1.visit i p else trav es f (es.getD i default).child (if i = 0 then p else p ++ [(es.getD i default).name]) (t1.visit i p)) = t2 at a2 ⊢
        have a3 := S ((es.getD i default).right = FREE) (es.getD i default).right p t2
        generalize (if (es.getD i default).right = FREE then t2 else trav es f (es.getD i default).right p t2) = t3 at a3 ⊢
        rw [hv, hw] at a2
        rw [ho] at a1
        omega
/-- Only entries that there are come out. -/
theorem trav_lt (es : List Tn) : ∀ f i p s, (∀ k ∈ s.out, k < es.length) → ∀ k ∈ (trav es f i p s).out, k < es.length := by
  intro f
  induction f with
  | zero => intro i p s h; exact h
  | succ f ih =>
    intro i p s h
    unfold trav
    split
    · exact h
    · split
      · exact h
      · rename_i h1 h2
        have S : ∀ (c : Prop) [Decidable c] a p (t : TS), (∀ k ∈ t.out, k < es.length) → ∀ k ∈ (if c then t else trav es f a p t).out, k < es.length := by
          intro c _ a p t ht
          split
          · exact ht
          · exact ih a p t ht
        unfold travS
        simp only
        refine S _ _ _ _ (S _ _ _ _ ?_)
        have a1 := S ((es.getD i default).left = FREE) (es.getD i default).left p s.call h
        intro k hk
        have hk' : k ∈ (if (es.getD i default).left = FREE then s.call else trav es f (es.getD i default).left p s.call).out ++ [i] := hk
        rcases List.mem_append.1 hk' with h3 | h3
        · exact a1 k h3
        · rw [List.mem_singleton.1 h3]; omega
end Cfb

/-! Values: files and their paths in memory, as they are gone through. -/
set_option maxRecDepth 20000
namespace Go.Proofs.YtgoddcicbpjknaaDoor
open Go
open Cfb
abbrev strs (ns : List (List UInt8)) : List Value := ns.map fun s => .string (bar s)
def psH : List (Nat × List (List UInt8)) → Heap
  | [] => []
  | x :: r => (x.1, blk (strs x.2) 9) :: psH r
theorem psH_mem {b : Nat} {ns : List (List UInt8)} : ∀ {ps : List (Nat × List (List UInt8))}, (b, ns) ∈ ps → (b, blk (strs ns) 9) ∈ psH ps := by
  intro ps
  induction ps with
  | nil => intro h; cases h
  | cons x r ih =>
    intro h
    rcases List.mem_cons.1 h with rfl | h
    · exact List.Mem.head _
    · exact List.Mem.tail _ (ih h)
section
variable {br : Nat}
theorem filsH_mem1 : ∀ {fs : List Fil} {k : Nat} {f : Fil}, fs[k]? = some f → enB br f.bf f.bd f.en ∈ filsH br fs := by
  intro fs
  induction fs with
  | nil => intro k f h; simp at h
  | cons x r ih =>
    intro k f h
    cases k with
    | zero => simp at h; subst h; exact List.Mem.head _
    | succ k => simp at h; exact List.Mem.tail _ (List.Mem.tail _ (ih h))
theorem filsH_mem2 : ∀ {fs : List Fil} {k : Nat} {f : Fil}, fs[k]? = some f → (f.bd, blk f.en.dc 112) ∈ filsH br fs := by
  intro fs
  induction fs with
  | nil => intro k f h; simp at h
  | cons x r ih =>
    intro k f h
    cases k with
    | zero => simp at h; subst h; exact List.Mem.tail _ (List.Mem.head _)
    | succ k => simp at h; exact List.Mem.tail _ (List.Mem.tail _ (ih h))
theorem filsH_rep {e' : En} : ∀ {fs : List Fil} {k : Nat} {f : Fil}, fs[k]? = some f → e'.dc = f.en.dc → Rep (filsH br fs) (enB br f.bf f.bd f.en) (enB br f.bf f.bd e') (filsH br (fs.set k ⟨f.bf, f.bd, e'⟩)) := by
  intro fs
  induction fs with
  | nil => intro k f h; simp at h
  | cons x r ih =>
    intro k f h he
    cases k with
    | zero =>
      simp at h; subst h
      simp only [List.set_cons_zero, filsH, he]
      exact Rep.here _ _ _
    | succ k =>
      simp at h
      simp only [List.set_cons_succ, filsH]
      exact Rep.there _ (Rep.there _ (ih h he))
end
theorem rep_app {H H' : Heap} {x y : Nat × Obj} (h : Rep H x y H') (G : Heap) : Rep (H ++ G) x y (H' ++ G) := by
  induction h with
  | here x y H => exact Rep.here _ _ _
  | there z h ih => exact Rep.there _ ih
theorem perm_ps (x : Nat × Obj) (L A B F : Heap) : (x :: (L ++ ((A ++ B) ++ F))).Perm (L ++ ((A ++ (x :: B)) ++ F)) := by
  have h1 : (A ++ (x :: B)).Perm (x :: (A ++ B)) := List.perm_middle
  have h2 : (L ++ ((A ++ (x :: B)) ++ F)).Perm (L ++ ((x :: (A ++ B)) ++ F)) := List.Perm.append_left L (List.Perm.append_right F h1)
  exact (h2.trans List.perm_middle).symm
theorem path_cells (p : List (List UInt8)) (nm : List UInt8) (z : Value) : (spl 0 (((strs p).drop 0).take (min p.length (p.length + 1) * 1)) (List.replicate (p.length + 1) z)).set p.length (.string (bar nm)) = strs (p ++ [nm]) := by
  have e1 : ((strs p).drop 0).take (min p.length (p.length + 1) * 1) = strs p := by
    rw [List.drop_zero, Nat.mul_one, Nat.min_eq_left (by omega), List.take_of_length_le (by simp)]
  rw [e1]
  unfold spl
  simp only [List.take_zero, List.nil_append, List.length_map, Nat.zero_add, List.drop_replicate]
  rw [show p.length + 1 - p.length = 1 by omega, List.set_append_right _ _ (by simp)]
  simp [strs]
/-- The entries lead as es says. -/
structure LinkOk (es : List Tn) (e0 : List En) : Prop where
  len : e0.length = es.length
  lnk : ∀ k e, e0[k]? = some e → e.dc[35]? = some (uv (es.getD k default).left) ∧ e.dc[36]? = some (uv (es.getD k default).right) ∧ e.dc[37]? = some (uv (es.getD k default).child) ∧ e.nm = (es.getD k default).name
  lt : ∀ k, k < es.length → (es.getD k default).left ≤ 4294967295 ∧ (es.getD k default).right ≤ 4294967295 ∧ (es.getD k default).child ≤ 4294967295
def En.noPath (e : En) : En := { e with path := .nilIface }
structure TOk (bfs : List Nat) (e0 : List En) (s : TS) (fs : List Fil) (ps : List (Nat × List (List UInt8))) (er : Value) : Prop where
  bf : fs.map Fil.bf = bfs
  rest : fs.map (fun f => f.en.noPath) = e0.map En.noPath
  out : s.out.length ≤ s.cnt
  path : ∀ k ∈ s.out, ∀ f, fs[k]? = some f → ∃ b, (b, s.pth k) ∈ ps ∧ f.en.path = .slice (some ⟨b, 0, none⟩) (s.pth k).length (s.pth k).length
  err : (s.bad = false ∧ er = .nilIface) ∨ (s.bad = true ∧ ∃ (m : ByteArray) (x : Int), er = .iface 123 (.agg [.int .i64 4, .string m, .int .i64 x].toArray))
theorem TOk.at {bfs : List Nat} {es : List Tn} {e0 : List En} {s : TS} {fs : List Fil} {ps : List (Nat × List (List UInt8))} {er : Value} (h : TOk bfs e0 s fs ps er) (hl : LinkOk es e0) {i : Nat} (hi : i < es.length) :
    ∃ bd e, fs[i]? = some ⟨bfs.getD i 0, bd, e⟩ ∧ e.dc[35]? = some (uv (es.getD i default).left) ∧ e.dc[36]? = some (uv (es.getD i default).right) ∧ e.dc[37]? = some (uv (es.getD i default).child) ∧ e.nm = (es.getD i default).name := by
  have hlen : fs.length = e0.length := by have := congrArg List.length h.rest; simpa using this
  have hif : i < fs.length := by rw [hlen, hl.len]; exact hi
  have h0 : i < e0.length := by omega
  obtain ⟨f, hf⟩ : ∃ f, fs[i]? = some f := ⟨_, List.getElem?_eq_getElem hif⟩
  have hb : f.bf = bfs.getD i 0 := by
    rw [← h.bf]; simp [List.getD_eq_getElem?_getD, hf]
  have hr : f.en.noPath = (e0[i]).noPath := by
    have := congrArg (fun l => l[i]?) h.rest
    simp only [List.getElem?_map, hf, List.getElem?_eq_getElem h0, Option.map_some, Option.some.injEq] at this
    exact this
  have hdc : f.en.dc = (e0[i]).dc := by have := congrArg En.dc hr; exact this
  have hnm : f.en.nm = (e0[i]).nm := by have := congrArg En.nm hr; exact this
  obtain ⟨a, b, c, d⟩ := hl.lnk i _ (List.getElem?_eq_getElem h0)
  refine ⟨f.bd, f.en, ?_, by rw [hdc]; exact a, by rw [hdc]; exact b, by rw [hdc]; exact c, by rw [hnm]; exact d⟩
  rw [hf, ← hb]
theorem TOk.call {bfs : List Nat} {e0 : List En} {s : TS} {fs : List Fil} {ps : List (Nat × List (List UInt8))} {er : Value} (h : TOk bfs e0 s fs ps er) : TOk bfs e0 s.call fs ps er :=
  ⟨h.bf, h.rest, by have := h.out; show s.out.length ≤ s.cnt + 1; omega, h.path, h.err⟩
theorem TOk.wrong {bfs : List Nat} {e0 : List En} {s : TS} {fs : List Fil} {ps : List (Nat × List (List UInt8))} {er : Value} (h : TOk bfs e0 s fs ps er) (m : ByteArray) (x : Int) : TOk bfs e0 s.call.wrong fs ps (.iface 123 (.agg [.int .i64 4, .string m, .int .i64 x].toArray)) :=
  ⟨h.bf, h.rest, by have := h.out; show s.out.length ≤ s.cnt + 1; omega, h.path, .inr ⟨rfl, m, x, rfl⟩⟩
theorem TOk.visit {bfs : List Nat} {e0 : List En} {s : TS} {fs : List Fil} {ps : List (Nat × List (List UInt8))} {er : Value} (h : TOk bfs e0 s fs ps er) {i b bd : Nat} {e : En} {p : List (List UInt8)} (ho : s.out.length + 1 ≤ s.cnt) (hb : (b, p) ∈ ps) (hf : fs[i]? = some ⟨bfs.getD i 0, bd, e⟩) :
    TOk bfs e0 (s.visit i p) (fs.set i ⟨bfs.getD i 0, bd, { e with path := .slice (some ⟨b, 0, none⟩) p.length p.length }⟩) ps er := by
  have hi : i < fs.length := by
    rcases Nat.lt_or_ge i fs.length with h1 | h1
    · exact h1
    · simp [List.getElem?_eq_none h1] at hf
  have hg : fs[i] = ⟨bfs.getD i 0, bd, e⟩ := by rw [List.getElem?_eq_getElem hi] at hf; exact Option.some.inj hf
  refine ⟨?_, ?_, ?_, ?_, h.err⟩
  · rw [List.map_set, ← h.bf]
    apply List.ext_getElem?
    intro k
    rw [List.getElem?_set]
    split
    · rename_i e1
      subst e1
      rw [if_pos (by simpa using hi), List.getElem?_map, List.getElem?_eq_getElem hi, hg]
      simp only [Option.map_some, h.bf]
    · rfl
  · rw [List.map_set, ← h.rest]
    apply List.ext_getElem?
    intro k
    rw [List.getElem?_set]
    split
    · rename_i e1
      subst e1
      rw [if_pos (by simpa using hi), List.getElem?_map, List.getElem?_eq_getElem hi, hg]
      rfl
    · rfl
  · show (s.out ++ [i]).length ≤ s.cnt
    simp; omega
  · intro k hk f hfk
    by_cases e1 : k = i
    · subst e1
      rw [List.getElem?_set_self hi] at hfk
      cases hfk
      refine ⟨b, ?_, ?_⟩
      · show (b, if k = k then p else s.pth k) ∈ ps
        rw [if_pos rfl]; exact hb
      · show _ = Value.slice (some ⟨b, 0, none⟩) (if k = k then p else s.pth k).length (if k = k then p else s.pth k).length
        rw [if_pos rfl]
    · rw [List.getElem?_set_ne (by omega)] at hfk
      have hk' : k ∈ s.out := by
        have hk2 : k ∈ s.out ++ [i] := hk
        rcases List.mem_append.1 hk2 with h1 | h1
        · exact h1
        · exact absurd (List.mem_singleton.1 h1) e1
      obtain ⟨b', h1, h2⟩ := h.path k hk' f hfk
      refine ⟨b', ?_, ?_⟩
      · show (b', if k = i then p else s.pth k) ∈ ps
        rw [if_neg e1]; exact h1
      · show _ = Value.slice (some ⟨b', 0, none⟩) (if k = i then p else s.pth k).length (if k = i then p else s.pth k).length
        rw [if_neg e1]; exact h2
theorem TOk.more {bfs : List Nat} {e0 : List En} {s : TS} {fs : List Fil} {ps ps' : List (Nat × List (List UInt8))} {er : Value} (h : TOk bfs e0 s fs ps er) (hs : ∀ x ∈ ps, x ∈ ps') : TOk bfs e0 s fs ps' er :=
  ⟨h.bf, h.rest, h.out, fun k hk f hf => by obtain ⟨b, h1, h2⟩ := h.path k hk f hf; exact ⟨b, hs _ h1, h2⟩, h.err⟩
abbrev outs (bfs : List Nat) (o : List Nat) : List Value := o.map fun k => pv (bfs.getD k 0)
end Go.Proofs.YtgoddcicbpjknaaDoor

/-! Walks: the entries are gone through: the closure. -/
set_option maxRecDepth 20000
namespace Go.Proofs.YtgoddcicbpjknaaDoor
open Go
open Cfb
/-- What a call of the closure does: T is told of s. -/
def TCt (br bs ss g n capn bc bR be bF : Nat) (buf hdr wa : Value) (rn : List Value) (bfs : List Nat) (es : List Tn) (e0 : List En) (i : Nat) (p : List (List UInt8)) (s T : TS) : Prop :=
  ∀ (bp : Nat) (fs : List Fil) (ps : List (Nat × List (List UInt8))) (bo capo : Nat) (ro : List Value) (er : Value), TOk bfs e0 s fs ps er → (bp, p) ∈ ps → (outs bfs s.out ++ ro).length = capo →
    Ct Tryd.prog 61 [nv i, .slice (some ⟨bp, 0, none⟩) p.length p.length, pv bc, pv bR, pv be, pv bF] ((bc, blk [nv s.cnt] 3) :: (bR, blk [pv br] 78) :: (be, blk [er] 105) :: (bF, blk [.func (.func 61) #[] #[pv bc, pv bR, pv be, pv bF]] 77) :: (br, blk (rdF bs ss buf hdr (.slice (some ⟨bo, 0, none⟩) (s.out).length capo) (.slice (some ⟨g, 0, none⟩) n capn) wa) 89) :: (g, blk (bfs.map pv ++ rn) 90) :: (bo, blk (outs bfs s.out ++ ro) 90) :: (filsH br fs ++ psH ps))
      (fun v q => v = .tuple #[] ∧ ∃ fs' ps' bo' capo' ro' er', TOk bfs e0 T fs' ps' er' ∧ (∀ x ∈ ps, x ∈ ps') ∧ (outs bfs T.out ++ ro').length = capo' ∧ q = (bc, blk [nv T.cnt] 3) :: (bR, blk [pv br] 78) :: (be, blk [er'] 105) :: (bF, blk [.func (.func 61) #[] #[pv bc, pv bR, pv be, pv bF]] 77) :: (br, blk (rdF bs ss buf hdr (.slice (some ⟨bo', 0, none⟩) (T.out).length capo') (.slice (some ⟨g, 0, none⟩) n capn) wa) 89) :: (g, blk (bfs.map pv ++ rn) 90) :: (bo', blk (outs bfs T.out ++ ro') 90) :: (filsH br fs' ++ psH ps'))
structure TrS where
  fs : List Fil
  ps : List (Nat × List (List UInt8))
  bo : Nat
  capo : Nat
  ro : List Value
  er : Value
theorem outs_visit (bfs : List Nat) (s : TS) (i : Nat) (p : List (List UInt8)) : outs bfs (s.visit i p).out = outs bfs s.out ++ [pv (bfs.getD i 0)] := by simp [TS.visit]
set_option maxHeartbeats 4000000 in
theorem trav_step (br bs ss g n capn bc bR be bF : Nat) (buf hdr wa : Value) (rn : List Value) (bfs : List Nat) (es : List Tn) (e0 : List En) (hlbf : bfs.length = es.length) (hn : n = es.length) (hN : es.length ≤ 100000) (hL : LinkOk es e0) (i : Nat) (p : List (List UInt8)) (s T : TS) (go : Nat → List (List UInt8) → TS → TS) (hp100 : p.length ≤ s.cnt) (hcnt : s.cnt ≤ 4000000) (hi63 : i ≤ 4294967295)
    (h1 : es.length < s.cnt + 1 → T = s.call.wrong) (h2 : ¬ es.length < s.cnt + 1 → es.length ≤ i → T = s.call.wrong) (h3 : ¬ es.length < s.cnt + 1 → ¬ es.length ≤ i → T = travS es go i p s.call)
    (hgo : ∀ i' p' s', s.cnt + 1 ≤ es.length → s.cnt + 1 ≤ s'.cnt → s'.cnt ≤ 4000000 → p'.length ≤ s'.cnt → i' ≤ 4294967295 → TCt br bs ss g n capn bc bR be bF buf hdr wa rn bfs es e0 i' p' s' (go i' p' s'))
    (hq1 : ∀ i p s, s.cnt + 1 ≤ (go i p s).cnt) (hq2 : ∀ i p s, (go i p s).out.length + s.cnt ≤ (go i p s).cnt + s.out.length) (hq3 : ∀ i p s, (go i p s).cnt ≤ 3 * es.length + 1 ∨ (go i p s).cnt = s.cnt + 1) : TCt br bs ss g n capn bc bR be bF buf hdr wa rn bfs es e0 i p s T := by
  unfold TCt
  intro bp fs ps0 bo capo ro er hT hbp hlo
  have ho0 := hT.out
  refine Ct_of Tryd.func61 rfl Tryd.ntmps61 rfl ?_
  intro E F
  simp only [numL, List.nil_append, List.cons_append]
  refine CW_seq ?_
  refine CW_region ?_
  refine RW_h (Yh_load rfl sc_3 (by repeat (first | exact List.Mem.head _ | apply List.Mem.tail)) rfl) ?_
  refine RW_l (Yl_add (c := ((s.cnt + 1 : Nat) : Int)) rfl rfl (wi64 (by omega) (by omega))) ?_
  refine RW_fx0 rfl rfl (Fx_store (v := nv (s.cnt + 1)) rfl rfl sz_3 rfl (by repeat (first | exact Rep.here _ _ _ | apply Rep.there)) (by simp)) ?_
  rintro _ _ rfl
  refine RW_lv (ks := [0, 1, 2, 3, 4, 5]) ?_
  refine CW_seq ?_
  refine CW_seq ?_
  refine CW_draw [] _ mixed (Sub.refl _) ?_
  refine RD_h (i := 0) #[false, true, true, true, true, true, false] rfl rfl rfl rfl (by kernel_rfl) (fun _ _ _ h => h) (Yh_load (v := nv (s.cnt + 1)) rfl sc_3 (by repeat (first | exact List.Mem.head _ | apply List.Mem.tail)) rfl) ?_
  refine RD_h (i := 1) #[true, false, false, false, false, false, false] rfl rfl rfl rfl (by kernel_rfl) (fun _ _ _ h => h) (Yh_load rfl sc_78 (by repeat (first | exact List.Mem.head _ | apply List.Mem.tail)) rfl) ?_
  refine RD_l 2 rfl (Yl_nilCheck rfl) ?_
  refine RD_l 3 rfl (Yl_field rfl fo_89_5) ?_
  refine RD_h (i := 4) #[true, true, true, true, false, false, false] rfl rfl rfl rfl (by kernel_rfl) (fun _ _ _ h => h) (Yh_load rfl sc_83 (by repeat (first | exact List.Mem.head _ | apply List.Mem.tail)) rfl) ?_
  refine RD_l 5 rfl (Yl_len rfl sl_83) ?_
  refine RD_l 6 rfl (Yl_gtr rfl rfl) ?_
  refine (RD_done (by kernel_rfl) (QW_lv (ks := [0, 1, 3, 4, 5, 18]) ?_))
  refine CW_cond rfl (fun hc1 => ?_) (fun hc1 => ?_)
  · replace hc1 := of_decide_eq_true hc1
    have hov : es.length < s.cnt + 1 := by omega
    obtain rfl := h1 hov
    refine CW_seq ?_
    refine CW_region ?_
    refine RW_m ?_
    refine RW_l (Yl_build (cs := [.int .i64 4, .string ⟨#[116, 114, 97, 118, 101, 114, 115, 97, 108, 32, 99, 111, 117, 110, 116, 101, 114, 32, 111, 118, 101, 114, 102, 108, 111, 119]⟩, nv i]) pl_123 ze_123 rfl rfl) ?_
    refine RW_l (Yl_iface rfl co_123) ?_
    refine RW_fx0 rfl rfl (Fx_store rfl rfl sz_105 rfl (by repeat (first | exact Rep.here _ _ _ | apply Rep.there)) (by simp)) ?_
    rintro _ _ rfl
    refine RW_lv (ks := []) ?_
    refine CW_ret ?_
    refine QW_ret_then ?_
    first
      | exact QW_ret0 rfl (_ :: _ :: _ :: _ :: _ :: _ :: _ :: (filsH br fs ++ psH ps0)) ⟨rfl, fs, ps0, bo, capo, ro, _, hT.wrong _ _, fun _ h => h, hlo, rfl⟩ (Prm.nil _)
      | exact QW_end0 rfl (_ :: _ :: _ :: _ :: _ :: _ :: _ :: (filsH br fs' ++ psH ps')) ⟨rfl, fs', ps', bo', capo', ro', er', hT', fun x hx => hsub' x (hsub x hx), hl', rfl⟩ (Prm.nil _)
      | (rw [hTT']; exact QW_end0 rfl (_ :: _ :: _ :: _ :: _ :: _ :: _ :: (filsH br fs ++ psH ps)) ⟨rfl, fs, ps, bo, capo, ro, er, hT, hsub, hlo, rfl⟩ (Prm.nil _))
  · replace hc1 := of_decide_eq_false hc1
    have hov : ¬ es.length < s.cnt + 1 := by omega
    refine (CW_skip (QW_lv (ks := [0, 1, 3, 4, 5]) ?_))
    refine CW_seq ?_
    refine CW_seq ?_
    refine CW_region ?_
    refine RW_m ?_
    refine RW_l (Yl_lss rfl rfl) ?_
    refine RW_m ?_
    refine RW_bool 24 rfl (fun hg2 => ?_) (fun hg2 => ?_)
    · replace hg2 := of_decide_eq_true hg2
      exfalso; omega
    · replace hg2 := of_decide_eq_false hg2
      refine RW_gy rfl rfl rfl (Yl.h (Yl_move rfl)) ?_
      refine RW_gy rfl rfl rfl (Yh_load rfl sc_78 (by repeat (first | exact List.Mem.head _ | apply List.Mem.tail)) rfl) ?_
      refine RW_gy rfl rfl rfl (Yl.h (Yl_nilCheck rfl)) ?_
      refine RW_gy rfl rfl rfl (Yl.h (Yl_field rfl fo_89_5)) ?_
      refine RW_gy rfl rfl rfl (Yh_load rfl sc_83 (by repeat (first | exact List.Mem.head _ | apply List.Mem.tail)) rfl) ?_
      refine RW_gy rfl rfl rfl (Yl.h (Yl_len rfl sl_83)) ?_
      refine RW_gy rfl rfl rfl (Yl.h (Yl_geq rfl rfl)) ?_
      refine RW_l (Yl_pick_f rfl rfl) ?_
      refine RW_lv (ks := [0, 1, 3, 4, 5, 32]) ?_
      refine CW_cond rfl (fun hc3 => ?_) (fun hc3 => ?_)
      · replace hc3 := of_decide_eq_true hc3
        have hil : es.length ≤ i := by omega
        obtain rfl := h2 hov hil
        refine CW_seq ?_
        refine CW_region ?_
        refine RW_m ?_
        refine RW_l (Yl_build (cs := [.int .i64 4, .string ⟨#[105, 108, 108, 101, 103, 97, 108, 32, 116, 114, 97, 118, 101, 114, 115, 97, 108, 32, 105, 110, 100, 101, 120]⟩, nv i]) pl_123 ze_123 rfl rfl) ?_
        refine RW_l (Yl_iface rfl co_123) ?_
        refine RW_fx0 rfl rfl (Fx_store rfl rfl sz_105 rfl (by repeat (first | exact Rep.here _ _ _ | apply Rep.there)) (by simp)) ?_
        rintro _ _ rfl
        refine RW_lv (ks := []) ?_
        refine CW_ret ?_
        refine QW_ret_then ?_
        first
          | exact QW_ret0 rfl (_ :: _ :: _ :: _ :: _ :: _ :: _ :: (filsH br fs ++ psH ps0)) ⟨rfl, fs, ps0, bo, capo, ro, _, hT.wrong _ _, fun _ h => h, hlo, rfl⟩ (Prm.nil _)
          | exact QW_end0 rfl (_ :: _ :: _ :: _ :: _ :: _ :: _ :: (filsH br fs' ++ psH ps')) ⟨rfl, fs', ps', bo', capo', ro', er', hT', fun x hx => hsub' x (hsub x hx), hl', rfl⟩ (Prm.nil _)
          | (rw [hTT']; exact QW_end0 rfl (_ :: _ :: _ :: _ :: _ :: _ :: _ :: (filsH br fs ++ psH ps)) ⟨rfl, fs, ps, bo, capo, ro, er, hT, hsub, hlo, rfl⟩ (Prm.nil _))
      · replace hc3 := of_decide_eq_false hc3
        have hil : ¬ es.length ≤ i := by omega
        refine (CW_skip (QW_lv (ks := [0, 1, 3, 5]) ?_))
        refine CW_seq ?_
        obtain ⟨e, hee⟩ : ∃ e, e = es.getD i default := ⟨_, rfl⟩
        obtain ⟨hll, hlr, hlc⟩ := hL.lt i (by omega)
        rw [← hee] at hll hlr hlc
        have hbi : (bfs.map pv ++ rn)[i]? = some (pv (bfs.getD i 0)) := by rw [List.getElem?_append_left (by simp; omega)]; simp [List.getD_eq_getElem?_getD, show i < bfs.length by omega]
        have hcc : s.call.cnt = s.cnt + 1 := rfl
        have hco : s.call.out = s.out := rfl
        obtain ⟨s1, hs1⟩ : ∃ x, x = (if e.left = FREE then s.call else go e.left p s.call) := ⟨_, rfl⟩
        have hb1 : s.cnt + 1 ≤ s1.cnt ∧ s1.cnt ≤ 400000 ∧ s1.out.length + (s.cnt + 1) ≤ s1.cnt + s.out.length := by
          have a1 := hq1 e.left p s.call
          have a2 := hq2 e.left p s.call
          have a3 := hq3 e.left p s.call
          rw [hco] at a2
          rw [hs1]
          split
          · exact ⟨Nat.le_refl _, by omega, by rw [hco, hcc]; omega⟩
          · exact ⟨by omega, by omega, by omega⟩
        refine CW_region ?_
        refine RW_h (Yh_load rfl sc_78 (by repeat (first | exact List.Mem.head _ | apply List.Mem.tail)) rfl) ?_
        refine RW_l (Yl_nilCheck rfl) ?_
        refine RW_l (Yl_field rfl fo_89_5) ?_
        refine RW_h (Yh_load rfl sc_83 (by repeat (first | exact List.Mem.head _ | apply List.Mem.tail)) rfl) ?_
        refine RW_m ?_
        refine RW_l (Yl_indexN (b := g) (off := 0) (i := i) (o' := i) rfl rfl sl_83 (by omega) (by omega)) ?_
        refine RW_h (Yh_load (v := pv (bfs.getD i 0)) rfl sc_90 (by repeat (first | exact List.Mem.head _ | apply List.Mem.tail)) hbi) ?_
        refine RW_a ?_
        refine RW_lv (ks := [0, 1, 3, 5, 8]) ?_
        refine CW_cut (σ := TrS) (fun q => [(0, nv i), (1, .slice (some ⟨bp, 0, none⟩) p.length p.length), (3, pv bR), (5, pv bF), (8, pv (bfs.getD i 0))]) (fun q => (bc, blk [nv s1.cnt] 3) :: (bR, blk [pv br] 78) :: (be, blk [q.er] 105) :: (bF, blk [.func (.func 61) #[] #[pv bc, pv bR, pv be, pv bF]] 77) :: (br, blk (rdF bs ss buf hdr (.slice (some ⟨q.bo, 0, none⟩) (s1.out).length q.capo) (.slice (some ⟨g, 0, none⟩) n capn) wa) 89) :: (g, blk (bfs.map pv ++ rn) 90) :: (q.bo, blk (outs bfs s1.out ++ q.ro) 90) :: ((filsH br q.fs ++ psH q.ps) ++ F)) (fun q => (TOk bfs e0 s1 q.fs q.ps q.er ∧ (∀ x ∈ ps0, x ∈ q.ps) ∧ (outs bfs s1.out ++ q.ro).length = q.capo)) ?_ ?_
        · skip
          refine CW_seq ?_
          obtain ⟨bd, en, hf, hl, hr, hch, hnm⟩ := hT.at hL (show i < es.length by omega)
          rw [← hee] at hl hr hch hnm
          have hm1 : (bfs.getD i 0, blk (fiF en.nm en.ini en.path en.size en.pos en.cur en.rem bd br) 93) ∈ (filsH br fs ++ psH ps0) ++ F := List.mem_append_left _ (List.mem_append_left _ (filsH_mem1 (br := br) hf))
          have hm2 : (bd, blk en.dc 112) ∈ (filsH br fs ++ psH ps0) ++ F := List.mem_append_left _ (List.mem_append_left _ (filsH_mem2 (br := br) hf))
          refine CW_region ?_
          refine RW_m ?_
          refine RW_l (Yl_nilCheck rfl) ?_
          refine RW_l (Yl_field rfl fo_93_7) ?_
          refine RW_h (Yh_load (v := pv bd) rfl sc_91 (by repeat (first | exact hm1 | exact hm2 | exact List.Mem.head _ | apply List.Mem.tail)) rfl) ?_
          refine RW_l (Yl_nilCheck rfl) ?_
          refine RW_l (Yl_field rfl fo_112_4) ?_
          refine RW_h (Yh_load (v := uv e.left) rfl sc_67 (by repeat (first | exact hm1 | exact hm2 | exact List.Mem.head _ | apply List.Mem.tail)) hl) ?_
          refine RW_l (Yl_neq rfl rfl) ?_
          refine RW_lv (ks := [0, 1, 3, 5, 8, 50]) ?_
          refine CW_cond rfl (fun hc4 => ?_) (fun hc4 => ?_)
          · replace hc4 := of_decide_eq_true hc4
            have hs1' : s1 = go e.left p s.call := by rw [hs1]; exact if_neg (show ¬ e.left = 4294967295 by omega)
            have hih := hgo e.left (p) s.call (by omega) (by omega) (by omega) (by skip; omega) (by omega) bp fs ps0 bo capo ro er hT.call hbp hlo
            rw [← hs1'] at hih
            refine CW_draw [10] _ mixed (Sub.refl _) ?_
            refine RD_l 1 rfl (Yl_move rfl) ?_
            refine RD_l 2 rfl (Yl_nilCheck rfl) ?_
            refine RD_l 3 rfl (Yl_field rfl fo_93_7) ?_
            refine RD_l 9 rfl (Yl_move rfl) ?_
            refine RD_h (i := 0) #[false, true, true, true, true, true, true, true, true, true, false] rfl rfl rfl rfl (by kernel_rfl) (fun _ _ _ h => h) (Yh_load rfl sc_77 (by repeat (first | exact List.Mem.head _ | apply List.Mem.tail)) rfl) ?_
            refine RD_h (i := 4) #[true, true, true, true, false, false, false, false, false, true, false] rfl rfl rfl rfl (by kernel_rfl) (fun _ _ _ h => h) (Yh_load (v := pv bd) rfl sc_91 (by repeat (first | exact hm1 | exact hm2 | exact List.Mem.head _ | apply List.Mem.tail)) rfl) ?_
            refine RD_l 5 rfl (Yl_nilCheck rfl) ?_
            refine RD_l 6 rfl (Yl_field rfl fo_112_4) ?_
            refine RD_h (i := 7) #[true, true, true, true, true, true, true, false, false, true, false] rfl rfl rfl rfl (by kernel_rfl) (fun _ _ _ h => h) (Yh_load (v := uv e.left) rfl sc_67 (by repeat (first | exact hm1 | exact hm2 | exact List.Mem.head _ | apply List.Mem.tail)) hl) ?_
            refine RD_l 8 rfl (Yl_conv (c := ((e.left : Nat) : Int)) rfl in_67 in_3 (wi64 (by omega) (by omega))) ?_
            refine RD_one (i := 10) (by kernel_rfl) ?_
            refine RO_fx rfl rfl rfl rfl (Fx_callV ok_61 (fs := []) (cs := [pv bc, pv bR, pv be, pv bF]) (vs := [nv (e.left), .slice (some ⟨bp, 0, none⟩) p.length p.length]) rfl rfl (by exact (Pick.cons (by repeat (first | exact Rem.here _ _ | apply Rem.there)) (Pick.cons (by repeat (first | exact Rem.here _ _ | apply Rem.there)) (Pick.cons (by repeat (first | exact Rem.here _ _ | apply Rem.there)) (Pick.cons (by repeat (first | exact Rem.here _ _ | apply Rem.there)) (Pick.cons (by repeat (first | exact Rem.here _ _ | apply Rem.there)) (Pick.cons (by repeat (first | exact Rem.here _ _ | apply Rem.there)) (Pick.cons (by repeat (first | exact Rem.here _ _ | apply Rem.there)) (pick_app _ F))))))))) hih) ?_
            rintro _ _ ⟨_, ⟨rfl, fs', ps', bo', capo', ro', er', hT', hsub', hl', rfl⟩, rfl⟩
            simp only [List.cons_append]
            refine ⟨Or.inl (by kernel_rfl), ?_⟩
            refine RD_done (by kernel_rfl) ?_
            first
              | exact QW_cut ⟨fs', ps', bo', capo', ro', er'⟩ ⟨hT', hsub', hl'⟩ (by repeat (first | exact Prm.nil _ | exact Rem.here _ _ | apply Rem.there | apply Prm.cons)) (.cons rfl (.cons rfl (.cons rfl (.cons rfl (.cons rfl .nil)))))
              | (rw [hs1']; exact QW_cut ⟨fs, ps0, bo, capo, ro, er⟩ ⟨hT.call, fun _ h => h, hlo⟩ (by repeat (first | exact Prm.nil _ | exact Rem.here _ _ | apply Rem.there | apply Prm.cons)) (.cons rfl (.cons rfl (.cons rfl (.cons rfl (.cons rfl .nil))))))
          · replace hc4 := of_decide_eq_false hc4
            have hs1' : s1 = s.call := by rw [hs1]; exact if_pos (show e.left = 4294967295 by omega)
            refine CW_skip ?_
            first
              | exact QW_cut ⟨fs', ps', bo', capo', ro', er'⟩ ⟨hT', hsub', hl'⟩ (by repeat (first | exact Prm.nil _ | exact Rem.here _ _ | apply Rem.there | apply Prm.cons)) (.cons rfl (.cons rfl (.cons rfl (.cons rfl (.cons rfl .nil)))))
              | (rw [hs1']; exact QW_cut ⟨fs, ps0, bo, capo, ro, er⟩ ⟨hT.call, fun _ h => h, hlo⟩ (by repeat (first | exact Prm.nil _ | exact Rem.here _ _ | apply Rem.there | apply Prm.cons)) (.cons rfl (.cons rfl (.cons rfl (.cons rfl (.cons rfl .nil))))))
        · rintro ⟨fs, ps, bo, capo, ro, er⟩ ⟨hT, hsub, hlo⟩
          simp only at hT hsub hlo ⊢
          refine CW_seq ?_
          have ho1 : s1.out.length + 1 ≤ s1.cnt := by omega
          obtain ⟨bd, en, hf, hl, hr, hch, hnm⟩ := hT.at hL (show i < es.length by omega)
          rw [← hee] at hl hr hch hnm
          have hm1 : (bfs.getD i 0, blk (fiF en.nm en.ini en.path en.size en.pos en.cur en.rem bd br) 93) ∈ (filsH br fs ++ psH ps) ++ F := List.mem_append_left _ (List.mem_append_left _ (filsH_mem1 (br := br) hf))
          have hm2 : (bd, blk en.dc 112) ∈ (filsH br fs ++ psH ps) ++ F := List.mem_append_left _ (List.mem_append_left _ (filsH_mem2 (br := br) hf))
          have hrep : Rep ((filsH br fs ++ psH ps) ++ F) (bfs.getD i 0, blk (fiF en.nm en.ini en.path en.size en.pos en.cur en.rem bd br) 93) (bfs.getD i 0, blk ((fiF en.nm en.ini en.path en.size en.pos en.cur en.rem bd br).set 2 (.slice (some ⟨bp, 0, none⟩) p.length p.length)) 93) ((filsH br (fs.set i ⟨bfs.getD i 0, bd, { en with path := .slice (some ⟨bp, 0, none⟩) p.length p.length }⟩) ++ psH ps) ++ F) := rep_app (rep_app (filsH_rep (br := br) (e' := { en with path := .slice (some ⟨bp, 0, none⟩) p.length p.length }) hf rfl) _) _
          obtain ⟨s2, hs2⟩ : ∃ x, x = s1.visit i p := ⟨_, rfl⟩
          obtain ⟨s3, hs3⟩ : ∃ x, x = (if e.child = FREE then s2 else go e.child (if i = 0 then p else p ++ [e.name]) s2) := ⟨_, rfl⟩
          have hc2 : s1.cnt = s2.cnt := by rw [hs2]; rfl
          have hl2 : s1.out.length + 1 = s2.out.length := by rw [hs2]; simp [TS.visit]
          have hb3 : s2.cnt ≤ s3.cnt ∧ s3.cnt ≤ 500000 := by
            have a1 := hq1 e.child (if i = 0 then p else p ++ [e.name]) s2
            have a3 := hq3 e.child (if i = 0 then p else p ++ [e.name]) s2
            rw [hs3]
            split
            · exact ⟨Nat.le_refl _, by omega⟩
            · exact ⟨by omega, by omega⟩
          have hTT : T = if e.right = FREE then s3 else go e.right p s3 := by rw [h3 hov hil, hs3, hs2, hs1, hee]; rfl
          refine CW_draw [10] [(bR, blk [pv br] 78), (br, blk (rdF bs ss buf hdr (.slice (some ⟨bo, 0, none⟩) s1.out.length capo) (.slice (some ⟨g, 0, none⟩) n capn) wa) 89)] mixed (by repeat (first | exact Sub.nil _ | apply Sub.cons | exact Rem.here _ _ | apply Rem.there)) ?_
          refine RD_l 5 rfl (Yl_move rfl) ?_
          refine RD_h (i := 0) #[false, true, true, true, true, true, true, true, false, false, false] rfl rfl rfl rfl (by kernel_rfl) (fun _ _ _ h => h) (Yh_load rfl sc_78 (by repeat (first | exact List.Mem.head _ | apply List.Mem.tail)) rfl) ?_
          refine RD_h (i := 1) #[true, false, false, false, false, true, true, false, false, false, false] rfl rfl rfl rfl (by kernel_rfl) (fun _ _ _ h => h) (Yh_load rfl sc_78 (by repeat (first | exact List.Mem.head _ | apply List.Mem.tail)) rfl) ?_
          refine RD_l 2 rfl (Yl_nilCheck rfl) ?_
          refine RD_l 3 rfl (Yl_field rfl fo_89_4) ?_
          refine RD_h (i := 4) #[true, true, true, true, false, true, true, false, false, false, false] rfl rfl rfl rfl (by kernel_rfl) (fun _ _ _ h => h) (Yh_load rfl sc_83 (by repeat (first | exact List.Mem.head _ | apply List.Mem.tail)) rfl) ?_
          refine RD_one (i := 6) (by kernel_rfl) ?_
          refine RO_fx rfl rfl rfl rfl (Fx_litS (vs := [pv (bfs.getD i 0)]) sl_83 ze_90 rfl rfl rfl rfl rfl) ?_
          rintro _ _ ⟨b68, rfl, rfl⟩
          refine ⟨Or.inr (by repeat (first | exact Sub.nil _ | apply Sub.cons | exact Rem.here _ _ | apply Rem.there)), ?_⟩
          refine RD_one (i := 7) (by kernel_rfl) ?_
          refine RO_fx rfl rfl rfl rfl (Fx_appT (xs := outs bfs s1.out) (r := ro) (news := [pv (bfs.getD i 0)]) (n := s1.out.length) (cap := capo) (z0 := .pointer none) (q := 1) rfl rfl sl_83 by_90 ze_90 rfl rfl (by repeat (first | exact Rem.here _ _ | apply Rem.there)) (by repeat (first | exact Rem.here _ _ | apply Rem.there)) (by rw [hlo]; omega) (by simp) rfl (by simp [Value.oneCell']) (by omega) (by omega) (by omega)) ?_
          rintro _ _ ⟨bo2, capo2, ro2, rfl, hlo2, rfl⟩
          refine ⟨Or.inr (by repeat (first | exact Sub.nil _ | apply Sub.cons | exact Rem.here _ _ | apply Rem.there)), ?_⟩
          refine RD_l 8 rfl (Yl_nilCheck rfl) ?_
          refine RD_l 9 rfl (Yl_field rfl fo_89_4) ?_
          refine RD_one (i := 10) (by kernel_rfl) ?_
          refine RO_fx0 rfl rfl rfl (Fx_store (v := .slice (some ⟨bo2, 0, none⟩) (s1.out.length + 1) capo2) rfl rfl sz_83 rfl (by repeat (first | exact Rep.here _ _ _ | apply Rep.there)) (by simp [rdF])) ?_
          rintro _ _ rfl
          refine ⟨Or.inl (by kernel_rfl), ?_⟩
          refine (RD_done (by kernel_rfl) (QW_lv (ks := [0, 1, 5, 8]) ?_))
          refine CW_seq ?_
          refine CW_region ?_
          refine RW_m ?_
          refine RW_m ?_
          refine RW_l (Yl_nilCheck rfl) ?_
          refine RW_l (Yl_field rfl fo_93_2) ?_
          refine RW_fx0 rfl rfl (Fx_store (v := .slice (some ⟨bp, 0, none⟩) p.length p.length) (b := bfs.getD i 0) (off := 2) (T := 93) (l := fiF en.nm en.ini en.path en.size en.pos en.cur en.rem bd br) rfl rfl sz_36 rfl (by repeat (first | exact hrep | apply Rep.there)) (by simp [fiF])) ?_
          rintro _ _ rfl
          refine RW_lv (ks := [0, 1, 5, 8]) ?_
          refine CW_cut (σ := TrS) (fun q => [(1, .slice (some ⟨bp, 0, none⟩) p.length p.length), (5, pv bF), (8, pv (bfs.getD i 0))]) (fun q => (bc, blk [nv s3.cnt] 3) :: (bR, blk [pv br] 78) :: (be, blk [q.er] 105) :: (bF, blk [.func (.func 61) #[] #[pv bc, pv bR, pv be, pv bF]] 77) :: (br, blk (rdF bs ss buf hdr (.slice (some ⟨q.bo, 0, none⟩) (s3.out).length q.capo) (.slice (some ⟨g, 0, none⟩) n capn) wa) 89) :: (g, blk (bfs.map pv ++ rn) 90) :: (q.bo, blk (outs bfs s3.out ++ q.ro) 90) :: ((filsH br q.fs ++ psH q.ps) ++ F)) (fun q => (TOk bfs e0 s3 q.fs q.ps q.er ∧ (∀ x ∈ ps0, x ∈ q.ps) ∧ (outs bfs s3.out ++ q.ro).length = q.capo)) ?_ ?_
          · skip
            refine CW_seq ?_
            have hTv := hT.visit (i := i) (p := p) ho1 (hsub _ hbp) hf
            rw [← hs2] at hTv
            generalize (fs.set i ⟨bfs.getD i 0, bd, { en with path := .slice (some ⟨bp, 0, none⟩) p.length p.length }⟩) = fs at hTv ⊢
            have ho2 : outs bfs s1.out ++ [pv (bfs.getD i 0)] = outs bfs s2.out := by rw [hs2, outs_visit]
            rw [ho2] at hlo2
            rw [Nat.mul_one] at hlo2
            rw [ho2, hc2]
            simp only [hl2]
            obtain ⟨bd, en, hf, hl, hr, hch, hnm⟩ := hTv.at hL (show i < es.length by omega)
            rw [← hee] at hl hr hch hnm
            have hm1 : (bfs.getD i 0, blk (fiF en.nm en.ini en.path en.size en.pos en.cur en.rem bd br) 93) ∈ (filsH br fs ++ psH ps) ++ F := List.mem_append_left _ (List.mem_append_left _ (filsH_mem1 (br := br) hf))
            have hm2 : (bd, blk en.dc 112) ∈ (filsH br fs ++ psH ps) ++ F := List.mem_append_left _ (List.mem_append_left _ (filsH_mem2 (br := br) hf))
            refine CW_region ?_
            refine RW_m ?_
            refine RW_l (Yl_nilCheck rfl) ?_
            refine RW_l (Yl_field rfl fo_93_7) ?_
            refine RW_h (Yh_load (v := pv bd) rfl sc_91 (by repeat (first | exact hm1 | exact hm2 | exact List.Mem.head _ | apply List.Mem.tail)) rfl) ?_
            refine RW_l (Yl_nilCheck rfl) ?_
            refine RW_l (Yl_field rfl fo_112_6) ?_
            refine RW_h (Yh_load (v := uv e.child) rfl sc_67 (by repeat (first | exact hm1 | exact hm2 | exact List.Mem.head _ | apply List.Mem.tail)) hch) ?_
            refine RW_l (Yl_neq rfl rfl) ?_
            refine RW_lv (ks := [0, 1, 5, 8, 83]) ?_
            refine CW_cond rfl (fun hc5 => ?_) (fun hc5 => ?_)
            · replace hc5 := of_decide_eq_true hc5
              have hs3' : s3 = go e.child (if i = 0 then p else p ++ [e.name]) s2 := by rw [hs3]; exact if_neg (show ¬ e.child = 4294967295 by omega)
              refine CW_seq ?_
              refine CW_region ?_
              refine RW_m ?_
              refine RW_l (Yl_gtr rfl rfl) ?_
              refine RW_lv (ks := [1, 5, 8, 85]) ?_
              refine CW_cond rfl (fun hc6 => ?_) (fun hc6 => ?_)
              · replace hc6 := of_decide_eq_true hc6
                rw [if_neg (show ¬ i = 0 by omega)] at hs3'
                refine CW_seq ?_
                have hpm : (bp, blk (strs p) 9) ∈ (filsH br fs ++ psH ps) ++ F := List.mem_append_left _ (List.mem_append_right _ (psH_mem (hsub _ hbp)))
                refine CW_region ?_
                refine RW_m ?_
                refine RW_l (Yl_len rfl sl_36) ?_
                refine RW_l (Yl_add (c := ((p.length + 1 : Nat) : Int)) rfl rfl (wi64 (by omega) (by omega))) ?_
                refine RW_fx rfl rfl rfl (Fx_makeSlice (z0 := .string ⟨#[]⟩) (m := 1) (l := ((p.length + 1 : Nat) : Int)) (c := ((p.length + 1 : Nat) : Int)) rfl rfl sl_36 by_9 ze_9 rfl rfl (by omega) (by omega) (by omega) (by omega)) ?_
                rintro _ _ ⟨bp2, rfl, rfl⟩
                simp only [Int.toNat_natCast, Nat.mul_one]
                refine RW_a ?_
                refine RW_lv (ks := [1, 5, 8, 9]) ?_
                refine CW_seq ?_
                refine CW_region ?_
                refine RW_m ?_
                refine RW_m ?_
                refine RW_fx rfl rfl rfl (Fx_copy (b := bp2) (off := 0) (m := p.length + 1) (c := p.length + 1) (bs := bp) (offs := 0) (ms := p.length) (cs := p.length) (l := List.replicate (p.length + 1) (.string ⟨#[]⟩)) (ls := strs p) (T := 9) (Ts := 9) (fz := (0, 0)) (e := 9) (sz := 1) rfl rfl sl_36 (by repeat (first | exact hpm | exact List.Mem.head _ | apply List.Mem.tail)) (by simp) (by repeat (first | exact Rep.here _ _ _ | apply Rep.there)) (by simp) (one_take (one_map (fun _ => rfl) p) _ _)) ?_
                rintro _ _ ⟨rfl, rfl⟩
                refine RW_lv (ks := [1, 5, 8, 9]) ?_
                refine CW_seq ?_
                refine CW_region ?_
                refine RW_m ?_
                refine RW_m ?_
                refine RW_l (Yl_len rfl sl_36) ?_
                refine RW_l (Yl_sub (c := ((p.length : Nat) : Int)) rfl rfl (by rw [wi64 (by omega) (by omega)]; omega)) ?_
                refine RW_m ?_
                refine RW_l (Yl_nilCheck rfl) ?_
                refine RW_l (Yl_field rfl fo_93_0) ?_
                refine RW_h (Yh_load (v := .string (bar e.name)) rfl sc_9 (by repeat (first | exact hm1 | exact hm2 | exact List.Mem.head _ | apply List.Mem.tail)) (by rw [← hnm]; rfl)) ?_
                refine RW_l (Yl_indexN (b := bp2) (off := 0) (i := p.length) (o' := p.length) rfl rfl sl_36 (by omega) (by omega)) ?_
                refine RW_fx0 rfl rfl (Fx_store (v := .string (bar e.name)) (b := bp2) (off := p.length) rfl rfl sz_9 rfl (by repeat (first | exact Rep.here _ _ _ | apply Rep.there)) (by rw [length_spl] <;> simp)) ?_
                rintro _ _ rfl
                refine RW_lv (ks := [1, 5, 8, 9]) ?_
                rw [path_cells]
                refine CW_heap (perm_ps (bp2, _) [_, _, _, _, _, _, _] _ _ _) ?_
                have hsub2 : ∀ x ∈ ps, x ∈ (bp2, p ++ [e.name]) :: ps := fun x hx => List.Mem.tail _ hx
                simp only [List.cons_append, List.nil_append]
                have hm1 : (bfs.getD i 0, blk (fiF en.nm en.ini en.path en.size en.pos en.cur en.rem bd br) 93) ∈ (filsH br fs ++ psH ((bp2, p ++ [e.name]) :: ps)) ++ F := List.mem_append_left _ (List.mem_append_left _ (filsH_mem1 (br := br) hf))
                have hm2 : (bd, blk en.dc 112) ∈ (filsH br fs ++ psH ((bp2, p ++ [e.name]) :: ps)) ++ F := List.mem_append_left _ (List.mem_append_left _ (filsH_mem2 (br := br) hf))
                have hpl : (p ++ [e.name]).length = p.length + 1 := by simp
                have hih := hgo e.child (p ++ [e.name]) s2 (by omega) (by omega) (by omega) (by simp only [List.length_append, List.length_singleton]; omega) (by omega) bp2 fs ((bp2, p ++ [e.name]) :: ps) bo2 capo2 ro2 er (hTv.more hsub2) (List.Mem.head _) hlo2
                rw [← hs3'] at hih
                rw [hpl] at hih
                refine CW_draw [10] _ mixed (Sub.refl _) ?_
                refine RD_l 1 rfl (Yl_move rfl) ?_
                refine RD_l 2 rfl (Yl_nilCheck rfl) ?_
                refine RD_l 3 rfl (Yl_field rfl fo_93_7) ?_
                refine RD_l 9 rfl (Yl_move rfl) ?_
                refine RD_h (i := 0) #[false, true, true, true, true, true, true, true, true, true, false] rfl rfl rfl rfl (by kernel_rfl) (fun _ _ _ h => h) (Yh_load rfl sc_77 (by repeat (first | exact List.Mem.head _ | apply List.Mem.tail)) rfl) ?_
                refine RD_h (i := 4) #[true, true, true, true, false, false, false, false, false, true, false] rfl rfl rfl rfl (by kernel_rfl) (fun _ _ _ h => h) (Yh_load (v := pv bd) rfl sc_91 (by repeat (first | exact hm1 | exact hm2 | exact List.Mem.head _ | apply List.Mem.tail)) rfl) ?_
                refine RD_l 5 rfl (Yl_nilCheck rfl) ?_
                refine RD_l 6 rfl (Yl_field rfl fo_112_6) ?_
                refine RD_h (i := 7) #[true, true, true, true, true, true, true, false, false, true, false] rfl rfl rfl rfl (by kernel_rfl) (fun _ _ _ h => h) (Yh_load (v := uv e.child) rfl sc_67 (by repeat (first | exact hm1 | exact hm2 | exact List.Mem.head _ | apply List.Mem.tail)) hch) ?_
                refine RD_l 8 rfl (Yl_conv (c := ((e.child : Nat) : Int)) rfl in_67 in_3 (wi64 (by omega) (by omega))) ?_
                refine RD_one (i := 10) (by kernel_rfl) ?_
                refine RO_fx rfl rfl rfl rfl (Fx_callV ok_61 (fs := []) (cs := [pv bc, pv bR, pv be, pv bF]) (vs := [nv (e.child), .slice (some ⟨bp2, 0, none⟩) (p.length + 1) (p.length + 1)]) rfl rfl (by exact (Pick.cons (by repeat (first | exact Rem.here _ _ | apply Rem.there)) (Pick.cons (by repeat (first | exact Rem.here _ _ | apply Rem.there)) (Pick.cons (by repeat (first | exact Rem.here _ _ | apply Rem.there)) (Pick.cons (by repeat (first | exact Rem.here _ _ | apply Rem.there)) (Pick.cons (by repeat (first | exact Rem.here _ _ | apply Rem.there)) (Pick.cons (by repeat (first | exact Rem.here _ _ | apply Rem.there)) (Pick.cons (by repeat (first | exact Rem.here _ _ | apply Rem.there)) (pick_app _ F))))))))) hih) ?_
                rintro _ _ ⟨_, ⟨rfl, fs', ps', bo', capo', ro', er', hT', hsub', hl', rfl⟩, rfl⟩
                simp only [List.cons_append]
                refine ⟨Or.inl (by kernel_rfl), ?_⟩
                refine RD_done (by kernel_rfl) ?_
                first
                  | exact QW_cut ⟨fs', ps', bo', capo', ro', er'⟩ ⟨hT', fun x hx => hsub' x (hsub2 x (hsub x hx)), hl'⟩ (by repeat (first | exact Prm.nil _ | exact Rem.here _ _ | apply Rem.there | apply Prm.cons)) (.cons rfl (.cons rfl (.cons rfl .nil)))
                  | (rw [hs3']; exact QW_cut ⟨fs, ps, bo2, capo2, ro2, er⟩ ⟨hTv, hsub, hlo2⟩ (by repeat (first | exact Prm.nil _ | exact Rem.here _ _ | apply Rem.there | apply Prm.cons)) (.cons rfl (.cons rfl (.cons rfl .nil))))
              · replace hc6 := of_decide_eq_false hc6
                rw [if_pos (show i = 0 by omega)] at hs3'
                have hsub2 : ∀ x ∈ ps, x ∈ ps := fun x hx => hx
                have hih := hgo e.child (p) s2 (by omega) (by omega) (by omega) (by skip; omega) (by omega) bp fs ps bo2 capo2 ro2 er hTv (hsub _ hbp) hlo2
                rw [← hs3'] at hih
                refine CW_draw [10] _ mixed (Sub.refl _) ?_
                refine RD_l 1 rfl (Yl_move rfl) ?_
                refine RD_l 2 rfl (Yl_nilCheck rfl) ?_
                refine RD_l 3 rfl (Yl_field rfl fo_93_7) ?_
                refine RD_l 9 rfl (Yl_move rfl) ?_
                refine RD_h (i := 0) #[false, true, true, true, true, true, true, true, true, true, false] rfl rfl rfl rfl (by kernel_rfl) (fun _ _ _ h => h) (Yh_load rfl sc_77 (by repeat (first | exact List.Mem.head _ | apply List.Mem.tail)) rfl) ?_
                refine RD_h (i := 4) #[true, true, true, true, false, false, false, false, false, true, false] rfl rfl rfl rfl (by kernel_rfl) (fun _ _ _ h => h) (Yh_load (v := pv bd) rfl sc_91 (by repeat (first | exact hm1 | exact hm2 | exact List.Mem.head _ | apply List.Mem.tail)) rfl) ?_
                refine RD_l 5 rfl (Yl_nilCheck rfl) ?_
                refine RD_l 6 rfl (Yl_field rfl fo_112_6) ?_
                refine RD_h (i := 7) #[true, true, true, true, true, true, true, false, false, true, false] rfl rfl rfl rfl (by kernel_rfl) (fun _ _ _ h => h) (Yh_load (v := uv e.child) rfl sc_67 (by repeat (first | exact hm1 | exact hm2 | exact List.Mem.head _ | apply List.Mem.tail)) hch) ?_
                refine RD_l 8 rfl (Yl_conv (c := ((e.child : Nat) : Int)) rfl in_67 in_3 (wi64 (by omega) (by omega))) ?_
                refine RD_one (i := 10) (by kernel_rfl) ?_
                refine RO_fx rfl rfl rfl rfl (Fx_callV ok_61 (fs := []) (cs := [pv bc, pv bR, pv be, pv bF]) (vs := [nv (e.child), .slice (some ⟨bp, 0, none⟩) p.length p.length]) rfl rfl (by exact (Pick.cons (by repeat (first | exact Rem.here _ _ | apply Rem.there)) (Pick.cons (by repeat (first | exact Rem.here _ _ | apply Rem.there)) (Pick.cons (by repeat (first | exact Rem.here _ _ | apply Rem.there)) (Pick.cons (by repeat (first | exact Rem.here _ _ | apply Rem.there)) (Pick.cons (by repeat (first | exact Rem.here _ _ | apply Rem.there)) (Pick.cons (by repeat (first | exact Rem.here _ _ | apply Rem.there)) (Pick.cons (by repeat (first | exact Rem.here _ _ | apply Rem.there)) (pick_app _ F))))))))) hih) ?_
                rintro _ _ ⟨_, ⟨rfl, fs', ps', bo', capo', ro', er', hT', hsub', hl', rfl⟩, rfl⟩
                simp only [List.cons_append]
                refine ⟨Or.inl (by kernel_rfl), ?_⟩
                refine RD_done (by kernel_rfl) ?_
                first
                  | exact QW_cut ⟨fs', ps', bo', capo', ro', er'⟩ ⟨hT', fun x hx => hsub' x (hsub2 x (hsub x hx)), hl'⟩ (by repeat (first | exact Prm.nil _ | exact Rem.here _ _ | apply Rem.there | apply Prm.cons)) (.cons rfl (.cons rfl (.cons rfl .nil)))
                  | (rw [hs3']; exact QW_cut ⟨fs, ps, bo2, capo2, ro2, er⟩ ⟨hTv, hsub, hlo2⟩ (by repeat (first | exact Prm.nil _ | exact Rem.here _ _ | apply Rem.there | apply Prm.cons)) (.cons rfl (.cons rfl (.cons rfl .nil))))
            · replace hc5 := of_decide_eq_false hc5
              have hs3' : s3 = s2 := by rw [hs3]; exact if_pos (show e.child = 4294967295 by omega)
              refine CW_skip ?_
              first
                | exact QW_cut ⟨fs', ps', bo', capo', ro', er'⟩ ⟨hT', fun x hx => hsub' x (hsub2 x (hsub x hx)), hl'⟩ (by repeat (first | exact Prm.nil _ | exact Rem.here _ _ | apply Rem.there | apply Prm.cons)) (.cons rfl (.cons rfl (.cons rfl .nil)))
                | (rw [hs3']; exact QW_cut ⟨fs, ps, bo2, capo2, ro2, er⟩ ⟨hTv, hsub, hlo2⟩ (by repeat (first | exact Prm.nil _ | exact Rem.here _ _ | apply Rem.there | apply Prm.cons)) (.cons rfl (.cons rfl (.cons rfl .nil))))
          · rintro ⟨fs, ps, bo, capo, ro, er⟩ ⟨hT, hsub, hlo⟩
            simp only at hT hsub hlo ⊢
            refine CW_seq ?_
            obtain ⟨bd, en, hf, hl, hr, hch, hnm⟩ := hT.at hL (show i < es.length by omega)
            rw [← hee] at hl hr hch hnm
            have hm1 : (bfs.getD i 0, blk (fiF en.nm en.ini en.path en.size en.pos en.cur en.rem bd br) 93) ∈ (filsH br fs ++ psH ps) ++ F := List.mem_append_left _ (List.mem_append_left _ (filsH_mem1 (br := br) hf))
            have hm2 : (bd, blk en.dc 112) ∈ (filsH br fs ++ psH ps) ++ F := List.mem_append_left _ (List.mem_append_left _ (filsH_mem2 (br := br) hf))
            refine CW_region ?_
            refine RW_m ?_
            refine RW_l (Yl_nilCheck rfl) ?_
            refine RW_l (Yl_field rfl fo_93_7) ?_
            refine RW_h (Yh_load (v := pv bd) rfl sc_91 (by repeat (first | exact hm1 | exact hm2 | exact List.Mem.head _ | apply List.Mem.tail)) rfl) ?_
            refine RW_l (Yl_nilCheck rfl) ?_
            refine RW_l (Yl_field rfl fo_112_5) ?_
            refine RW_h (Yh_load (v := uv e.right) rfl sc_67 (by repeat (first | exact hm1 | exact hm2 | exact List.Mem.head _ | apply List.Mem.tail)) hr) ?_
            refine RW_l (Yl_neq rfl rfl) ?_
            refine RW_lv (ks := [1, 5, 8, 131]) ?_
            refine CW_cond rfl (fun hc7 => ?_) (fun hc7 => ?_)
            · replace hc7 := of_decide_eq_true hc7
              have hTT' : T = go e.right p s3 := by rw [hTT]; exact if_neg (show ¬ e.right = 4294967295 by omega)
              have hih := hgo e.right (p) s3 (by omega) (by omega) (by omega) (by skip; omega) (by omega) bp fs ps bo capo ro er hT (hsub _ hbp) hlo
              rw [← hTT'] at hih
              refine CW_draw [10] _ mixed (Sub.refl _) ?_
              refine RD_l 1 rfl (Yl_move rfl) ?_
              refine RD_l 2 rfl (Yl_nilCheck rfl) ?_
              refine RD_l 3 rfl (Yl_field rfl fo_93_7) ?_
              refine RD_l 9 rfl (Yl_move rfl) ?_
              refine RD_h (i := 0) #[false, true, true, true, true, true, true, true, true, true, false] rfl rfl rfl rfl (by kernel_rfl) (fun _ _ _ h => h) (Yh_load rfl sc_77 (by repeat (first | exact List.Mem.head _ | apply List.Mem.tail)) rfl) ?_
              refine RD_h (i := 4) #[true, true, true, true, false, false, false, false, false, true, false] rfl rfl rfl rfl (by kernel_rfl) (fun _ _ _ h => h) (Yh_load (v := pv bd) rfl sc_91 (by repeat (first | exact hm1 | exact hm2 | exact List.Mem.head _ | apply List.Mem.tail)) rfl) ?_
              refine RD_l 5 rfl (Yl_nilCheck rfl) ?_
              refine RD_l 6 rfl (Yl_field rfl fo_112_5) ?_
              refine RD_h (i := 7) #[true, true, true, true, true, true, true, false, false, true, false] rfl rfl rfl rfl (by kernel_rfl) (fun _ _ _ h => h) (Yh_load (v := uv e.right) rfl sc_67 (by repeat (first | exact hm1 | exact hm2 | exact List.Mem.head _ | apply List.Mem.tail)) hr) ?_
              refine RD_l 8 rfl (Yl_conv (c := ((e.right : Nat) : Int)) rfl in_67 in_3 (wi64 (by omega) (by omega))) ?_
              refine RD_one (i := 10) (by kernel_rfl) ?_
              refine RO_fx rfl rfl rfl rfl (Fx_callV ok_61 (fs := []) (cs := [pv bc, pv bR, pv be, pv bF]) (vs := [nv (e.right), .slice (some ⟨bp, 0, none⟩) p.length p.length]) rfl rfl (by exact (Pick.cons (by repeat (first | exact Rem.here _ _ | apply Rem.there)) (Pick.cons (by repeat (first | exact Rem.here _ _ | apply Rem.there)) (Pick.cons (by repeat (first | exact Rem.here _ _ | apply Rem.there)) (Pick.cons (by repeat (first | exact Rem.here _ _ | apply Rem.there)) (Pick.cons (by repeat (first | exact Rem.here _ _ | apply Rem.there)) (Pick.cons (by repeat (first | exact Rem.here _ _ | apply Rem.there)) (Pick.cons (by repeat (first | exact Rem.here _ _ | apply Rem.there)) (pick_app _ F))))))))) hih) ?_
              rintro _ _ ⟨_, ⟨rfl, fs', ps', bo', capo', ro', er', hT', hsub', hl', rfl⟩, rfl⟩
              simp only [List.cons_append]
              refine ⟨Or.inl (by kernel_rfl), ?_⟩
              refine RD_done (by kernel_rfl) ?_
              first
                | exact QW_ret0 rfl (_ :: _ :: _ :: _ :: _ :: _ :: _ :: (filsH br fs ++ psH ps0)) ⟨rfl, fs, ps0, bo, capo, ro, _, hT.wrong _ _, fun _ h => h, hlo, rfl⟩ (Prm.nil _)
                | exact QW_end0 rfl (_ :: _ :: _ :: _ :: _ :: _ :: _ :: (filsH br fs' ++ psH ps')) ⟨rfl, fs', ps', bo', capo', ro', er', hT', fun x hx => hsub' x (hsub x hx), hl', rfl⟩ (Prm.nil _)
                | (rw [hTT']; exact QW_end0 rfl (_ :: _ :: _ :: _ :: _ :: _ :: _ :: (filsH br fs ++ psH ps)) ⟨rfl, fs, ps, bo, capo, ro, er, hT, hsub, hlo, rfl⟩ (Prm.nil _))
            · replace hc7 := of_decide_eq_false hc7
              have hTT' : T = s3 := by rw [hTT]; exact if_pos (show e.right = 4294967295 by omega)
              refine CW_skip ?_
              first
                | exact QW_ret0 rfl (_ :: _ :: _ :: _ :: _ :: _ :: _ :: (filsH br fs ++ psH ps0)) ⟨rfl, fs, ps0, bo, capo, ro, _, hT.wrong _ _, fun _ h => h, hlo, rfl⟩ (Prm.nil _)
                | exact QW_end0 rfl (_ :: _ :: _ :: _ :: _ :: _ :: _ :: (filsH br fs' ++ psH ps')) ⟨rfl, fs', ps', bo', capo', ro', er', hT', fun x hx => hsub' x (hsub x hx), hl', rfl⟩ (Prm.nil _)
                | (rw [hTT']; exact QW_end0 rfl (_ :: _ :: _ :: _ :: _ :: _ :: _ :: (filsH br fs ++ psH ps)) ⟨rfl, fs, ps, bo, capo, ro, er, hT, hsub, hlo, rfl⟩ (Prm.nil _))
theorem trav_ct (br bs ss g n capn bc bR be bF : Nat) (buf hdr wa : Value) (rn : List Value) (bfs : List Nat) (es : List Tn) (e0 : List En) (hlbf : bfs.length = es.length) (hn : n = es.length) (hN : es.length ≤ 100000) (hL : LinkOk es e0) : ∀ f i p s, es.length + 1 ≤ s.cnt + f → p.length ≤ s.cnt → s.cnt ≤ 4000000 → i ≤ 4294967295 → TCt br bs ss g n capn bc bR be bF buf hdr wa rn bfs es e0 i p s (trav es f i p s) := by
  intro f
  induction f with
  | zero =>
    intro i p s hf hp hc hi
    refine trav_step br bs ss g n capn bc bR be bF buf hdr wa rn bfs es e0 hlbf hn hN hL i p s _ (trav es 0) hp hc hi (fun _ => rfl) (fun h => absurd (show es.length < s.cnt + 1 by omega) h) (fun h => absurd (show es.length < s.cnt + 1 by omega) h) (fun i' p' s' h => by omega) (fun i p s => trav_cnt es 0 i p s) (fun i p s => by have := trav_out es 0 i p s; omega) (fun i p s => trav_max es 0 i p s)
  | succ f ih =>
    intro i p s hf hp hc hi
    refine trav_step br bs ss g n capn bc bR be bF buf hdr wa rn bfs es e0 hlbf hn hN hL i p s _ (trav es f) hp hc hi ?_ ?_ ?_ (fun i' p' s' h h2 h3 h4 h5 => ih i' p' s' (by omega) h4 h3 h5) (fun i p s => trav_cnt es f i p s) (fun i p s => by have := trav_out es f i p s; omega) (fun i p s => trav_max es f i p s)
    · intro h; show trav es (f + 1) i p s = _; unfold trav; rw [if_pos h]
    · intro h h'; show trav es (f + 1) i p s = _; unfold trav; rw [if_neg h, if_pos h']
    · intro h h'; show trav es (f + 1) i p s = _; rw [trav, if_neg h, if_neg h']
end Go.Proofs.YtgoddcicbpjknaaDoor

/-! Walks: the code of no error, the version. -/
set_option maxRecDepth 20000
namespace Go.Proofs.YtgoddcicbpjknaaDoor
open Go
open Cfb
set_option maxHeartbeats 4000000 in
theorem code_nil : Ct Tryd.prog 40 [.nilIface] [] (fun v q => v = nv 0 ∧ q = []) := by
  refine Ct_of Tryd.func40 rfl Tryd.ntmps40 rfl ?_
  intro E F
  simp only [numL, List.nil_append, List.cons_append]
  refine CW_seq ?_
  refine CW_region ?_
  refine RW_a ?_
  refine RW_lv (ks := [0]) ?_
  refine CW_seq ?_
  refine CW_seq ?_
  refine CW_region ?_
  refine RW_m ?_
  refine RW_l (Yl_ifEqNil rfl if_105) ?_
  refine RW_lv (ks := [0, 6]) ?_
  refine CW_cond rfl (fun hc1 => ?_) (fun hc1 => ?_)
  · skip
    refine CW_seq ?_
    refine CW_region ?_
    refine RW_a ?_
    refine RW_lv (ks := [2]) ?_
    refine CW_ret ?_
    refine QW_ret_then ?_
    exact QW_ret1 rfl rfl [] ⟨rfl, rfl⟩ (Prm.nil _)
  · skip
    exact Bool.noConfusion hc1
set_option maxHeartbeats 4000000 in
theorem versionOf_ct (four : Bool) : Ct Tryd.prog 16 [.bool four] [] (fun v q => v = nv (if four = true then 4 else 3) ∧ q = []) := by
  refine Ct_of Tryd.func16 rfl Tryd.ntmps16 rfl ?_
  intro E F
  simp only [numL, List.nil_append, List.cons_append]
  refine CW_seq ?_
  refine CW_region ?_
  refine RW_a ?_
  refine RW_lv (ks := [0]) ?_
  refine CW_seq ?_
  refine CW_seq ?_
  refine CW_region ?_
  refine RW_m ?_
  refine RW_lv (ks := [3]) ?_
  refine CW_cond rfl (fun hc1 => ?_) (fun hc1 => ?_)
  · skip
    refine CW_seq ?_
    refine CW_region ?_
    refine RW_a ?_
    refine RW_lv (ks := [2]) ?_
    refine CW_ret ?_
    refine QW_ret_then ?_
    first
      | exact QW_ret1 rfl rfl [] ⟨by rw [if_pos (by assumption)]; rfl, rfl⟩ (Prm.nil _)
      | exact QW_ret1 rfl rfl [] ⟨by rw [if_neg (by simp_all)]; rfl, rfl⟩ (Prm.nil _)
  · skip
    refine (CW_skip (QW_lv (ks := []) ?_))
    refine CW_seq ?_
    refine CW_region ?_
    refine RW_a ?_
    refine RW_lv (ks := [2]) ?_
    refine CW_ret ?_
    first
      | exact QW_ret1 rfl rfl [] ⟨by rw [if_pos (by assumption)]; rfl, rfl⟩ (Prm.nil _)
      | exact QW_ret1 rfl rfl [] ⟨by rw [if_neg (by simp_all)]; rfl, rfl⟩ (Prm.nil _)
end Go.Proofs.YtgoddcicbpjknaaDoor

/-! Contracts in other words: more blocks, other orders. -/
set_option maxRecDepth 20000
namespace Go.Proofs.YtgoddcicbpjknaaDoor
open Go
open Cfb
theorem RW_heap {P : Program} {E : World} {n : Nat} {ops : Array Oper} {L : Fra} {H H' : Heap} {rest : List Oper} {Q : Exit → Act → World → Prop} (hp : H.Perm H') (h : RW P E n ops L H' rest Q) : RW P E n ops L H rest Q := fun a w hf hh => h a w hf (hh.perm hp)
theorem Ct.conseq {P : Program} {f : FuncId} {args : List Value} {pre pre' G : Heap} {R R' : Value → Heap → Prop} (h : Ct P f args pre R) (hp : pre'.Perm (pre ++ G)) (hr : ∀ v post, R v post → ∃ post', R' v post' ∧ (post ++ G).Perm post') : Ct P f args pre' R' := by
  intro E F w hh
  have hh' : HA E w (pre ++ (G ++ F)) := by
    have := hh.perm (List.Perm.append_right F hp)
    rw [List.append_assoc] at this; exact this
  refine (h E (G ++ F) w hh').mono ?_
  rintro e w' ⟨v, post, he, hR, ha⟩
  obtain ⟨post', h1, h2⟩ := hr v post hR
  refine ⟨v, post', he, h1, ?_⟩
  rw [← List.append_assoc] at ha
  exact ha.perm (List.Perm.append_right F h2)
theorem rem_mid (a : Nat × Obj) (R : Heap) : ∀ (L : Heap), Rem (L ++ (a :: R)) a (L ++ R)
  | [] => .here _ _
  | x :: L => .there x (rem_mid a R L)
theorem pick_mid : ∀ (A L F : Heap), Pick (L ++ (A ++ F)) A (L ++ F)
  | [], L, F => .nil _
  | a :: A, L, F => .cons (rem_mid a (A ++ F) L) (pick_mid A L F)
theorem perm_ps0 (x : Nat × Obj) (L A F : Heap) : (x :: (L ++ (A ++ F))).Perm (L ++ ((A ++ [x]) ++ F)) := by
  have h := perm_ps x L A [] F
  rw [List.append_nil] at h
  exact h
/-- The small stream's tables, if there is one. -/
def MiniOk (mi : Option (List Nat × List Nat)) (m1 m2 : Value) (X : Heap) : Prop :=
  match mi with
  | none => m1 = .slice none 0 0 ∧ m2 = .slice none 0 0 ∧ X = []
  | some s => ∃ (bm1 : Nat) (Tl : List Value) (g2 cap2 : Nat) (r2 : List Value), Tl.length = s.1.length ∧ (∀ k, k < s.1.length → Tl[k]? = some (uv (snx s.1 k))) ∧ (u32s s.2 ++ r2).length = cap2 ∧ m1 = .slice (some ⟨bm1, 0, none⟩) s.1.length s.1.length ∧ m2 = .slice (some ⟨g2, 0, none⟩) s.2.length cap2 ∧ X = [(bm1, blk Tl 67), (g2, blk (u32s s.2 ++ r2) 67)]
/-- What is asked of the small stream's tables. -/
def MiniIn (B : List UInt8) (N ss : Nat) (hc : List Value) (st0 ml nm : Nat) : Option (List Nat × List Nat) → Prop
  | none => st0 = 4294967294
  | some s => ChOk B N ss hc s.1 ∧ ChOk B N ss hc s.2 ∧ st0 = snx s.2 0 ∧ 1 ≤ s.2.length ∧ ml = snx s.1 0 ∧ nm = s.1.length ∧ 1 ≤ nm ∧ ss / 4 * nm ≤ 64000 ∧ s.2.length ≤ 100000
theorem setMini_any (mi : Option (List Nat × List Nat)) (br bh bhf bb bs bB ss g N cN : Nat) (B : List UInt8) (rB hc lb ps : List Value) (T : TypeId) (buf file wa : Value) (n cap : Nat) (r : List Value) (fs : List Fil) (st0 ml nm : Nat) (hst : ∃ f0, fs[0]? = some f0 ∧ f0.en.dc[60]? = some (uv st0)) (hn : 0 < n)
    (hmi : MiniIn B N ss hc st0 ml nm mi) (hml : hc[41]? = some (uv ml)) (hnm : hc[42]? = some (uv nm)) (hss : 512 ≤ ss ∧ ss ≤ 4096) (hB : B.length = N) (hcN : N ≤ cN) (hN : N ≤ 1000000000) :
    Ct Tryd.prog 49 [pv br] ((br, blk (rdF bs ss buf (pv bh) file (.slice (some ⟨g, 0, none⟩) n cap) wa) 89) :: (bh, blk [pv bhf, .slice (some ⟨bhf, 45, none⟩) 109 109, .slice none 0 0, .slice none 0 0] 137) :: (bhf, blk hc 142) :: (bb, blk lb 5) :: (bs, blk [.slice (some ⟨bB, 0, none⟩) N cN] 103) :: (bB, blk (bys B ++ rB) 5) :: (2, blk ps T) :: (g, blk (ptrs fs ++ r) 90) :: filsH br fs)
      (fun v q => v = .nilIface ∧ ∃ m1 m2 X, MiniOk mi m1 m2 X ∧ q = (br, blk (rdF bs ss buf (pv bh) file (.slice (some ⟨g, 0, none⟩) n cap) wa) 89) :: (bh, blk [pv bhf, .slice (some ⟨bhf, 45, none⟩) 109 109, m1, m2] 137) :: (bhf, blk hc 142) :: (bb, blk lb 5) :: (bs, blk [.slice (some ⟨bB, 0, none⟩) N cN] 103) :: (bB, blk (bys B ++ rB) 5) :: (2, blk ps T) :: (g, blk (ptrs fs ++ r) 90) :: (filsH br fs ++ X)) := by
  obtain ⟨f0, hf0, hst⟩ := hst
  obtain ⟨fr, rfl⟩ : ∃ fr, fs = f0 :: fr := by
    cases fs with
    | nil => simp at hf0
    | cons a r => simp at hf0; subst hf0; exact ⟨r, rfl⟩
  have P1 : ∀ (a b c d e f p h : Nat × Obj) (A X : Heap), (a :: b :: c :: d :: e :: f :: p :: h :: A).Perm ((a :: b :: h :: A) ++ [c, d, e, f, p]) := by
    intro a b c d e f p h A X
    have h1 : ((a :: b :: h :: A) ++ [c, d, e, f, p]).Perm (a :: b :: h :: ([c, d, e, f, p] ++ A)) := ((List.perm_append_comm).cons h |>.cons b).cons a
    have h2 : (h :: ([c, d, e, f, p] ++ A)).Perm ([c, d, e, f, p] ++ (h :: A)) := (List.perm_middle (l₁ := [c, d, e, f, p])).symm
    exact (h1.trans ((h2.cons b).cons a)).symm
  cases mi with
  | none =>
    have h0 : st0 = 4294967294 := hmi
    refine (setMini0_ct br bh bhf bs bB ss g N cN B rB hc buf file wa (.slice none 0 0) (.slice none 0 0) n cap r f0 fr st0 hst hn h0).conseq (P1 _ _ _ _ _ _ _ _ _ []) ?_
    rintro v post ⟨rfl, rfl⟩
    refine ⟨_, ⟨rfl, .slice none 0 0, .slice none 0 0, [], ⟨rfl, rfl, rfl⟩, rfl⟩, ?_⟩
    rw [List.append_nil]
    exact (P1 _ _ _ _ _ _ _ _ _ []).symm
  | some s =>
    obtain ⟨h1, h2, h3, h4, h5, h6, h7, h8, h9⟩ := hmi
    have hq : 128 ≤ ss / 4 := by omega
    have hnm4 : nm ≤ 64000 := by
      have := Nat.mul_le_mul_right nm hq
      omega
    have P2 : ∀ (a b c d e f p h : Nat × Obj) (A : Heap), (a :: b :: c :: d :: e :: f :: p :: h :: A).Perm ((a :: b :: c :: e :: f :: h :: A) ++ [d, p]) := by
      intro a b c d e f p h A
      have e1 : ((a :: b :: c :: e :: f :: h :: A) ++ [d, p]).Perm ([a, b, c, e, f, h] ++ ([d, p] ++ A)) := List.Perm.append_left [a, b, c, e, f, h] List.perm_append_comm
      have e2 : ([a, b, c, e, f, h] ++ ([d, p] ++ A)).Perm (a :: b :: c :: d :: e :: f :: p :: h :: A) := by
        refine (((List.Perm.cons _ (List.Perm.cons _ (List.Perm.cons _ ?_)))))
        show (e :: f :: h :: d :: p :: A).Perm (d :: e :: f :: p :: h :: A)
        have q1 : (e :: f :: h :: d :: p :: A).Perm (d :: e :: f :: h :: p :: A) := List.perm_middle (l₁ := [e, f, h]) (a := d) (l₂ := p :: A)
        refine q1.trans ((List.Perm.cons _ (List.Perm.cons _ (List.Perm.cons _ ?_))))
        exact List.Perm.swap _ _ _
      exact (e1.trans e2).symm
    refine (setMini_ct br bh bhf bs bB ss g N cN B rB hc buf file wa n cap r f0 fr hn s.1 s.2 ml nm h1 h2 (by rw [← h3]; exact hst) h4 h5 h6 h7 hml hnm h8 hnm4 h9 hss hB hcN hN).conseq (P2 _ _ _ _ _ _ _ _ _) ?_
    rintro v post ⟨rfl, bm1, Tl, g2, cap2, r2, t1, t2, t3, rfl⟩
    subst h6
    refine ⟨_, ⟨rfl, .slice (some ⟨bm1, 0, none⟩) s.1.length s.1.length, .slice (some ⟨g2, 0, none⟩) s.2.length cap2, [(bm1, blk Tl 67), (g2, blk (u32s s.2 ++ r2) 67)], ⟨bm1, Tl, g2, cap2, r2, t1, t2, t3, rfl, rfl, rfl⟩, rfl⟩, ?_⟩
    have e3 : ∀ (a b c d e f p h x y : Nat × Obj) (A : Heap), ((a :: b :: c :: e :: f :: h :: x :: y :: A) ++ [d, p]).Perm (a :: b :: c :: d :: e :: f :: p :: h :: (A ++ [x, y])) := by
      intro a b c d e f p h x y A
      have q1 : (A ++ [x, y]).Perm (x :: y :: A) := List.perm_append_comm
      have q2 := P2 a b c d e f p h (A ++ [x, y])
      refine (List.Perm.trans ?_ q2.symm)
      refine List.Perm.append_right [d, p] ?_
      exact ((((((q1.symm).cons h).cons f).cons e).cons c).cons b).cons a
    exact e3 _ _ _ _ _ _ _ _ _ _ _
theorem un_119 : Tryd.prog.underlying 119 = some (.interface #[("Slice", 133)]) := by kernel_rfl
theorem ms_79 : (Tryd.prog.info? 79).map (fun i => i.methods.any fun m => m.name == "Slice" && m.sig == 133) = some false := by kernel_rfl
theorem part_one (p : String → Bool) (f : String → String) (s : String) : (Instr.least ([s].partition p).2 <|> Instr.least (([s].partition p).1.map f) : Option String).isSome = true := by
  cases hc : p s with
  | true => simp [List.partition, List.partition.loop, hc, Instr.least]
  | false => simp [List.partition, List.partition.loop, hc, Instr.least]
theorem miss_one (ms : Array Method) (s : String) (k : TypeId) (h : (ms.any fun m => m.name == s && m.sig == k) = false) : (Instr.missingMethod #[(s, k)] ms).isSome = true := by
  unfold Instr.missingMethod
  simp only [List.filter_cons, List.filter_nil, h, Bool.not_false, if_true, List.map_cons, List.map_nil]
  exact part_one _ _ _
theorem lk_119_79 : lacks Tryd.prog 119 79 = true := by
  have hm := ms_79
  unfold lacks
  rw [un_119]
  cases hi : Tryd.prog.info? 79 with
  | none => simp [hi] at hm
  | some i =>
    simp only [hi, Option.map_some, Option.some.injEq] at hm
    exact miss_one _ _ _ hm
end Go.Proofs.YtgoddcicbpjknaaDoor

/-! Walks: the entries are gone through. -/
set_option maxRecDepth 20000
namespace Go.Proofs.YtgoddcicbpjknaaDoor
open Go
open Cfb
set_option maxHeartbeats 4000000 in
theorem traverse_ct (br bs ss g n capn : Nat) (buf hdr file wa : Value) (rn : List Value) (fs : List Fil) (es : List Tn) (hlf : fs.length = es.length) (hn : n = es.length) (hN : es.length ≤ 100000) (hL : LinkOk es (fs.map Fil.en)) :
    Ct Tryd.prog 50 [pv br] ((br, blk (rdF bs ss buf hdr file (.slice (some ⟨g, 0, none⟩) n capn) wa) 89) :: (g, blk (ptrs fs ++ rn) 90) :: filsH br fs)
      (fun v q => ∃ fs' ps bo capo ro er, er = v ∧ TOk (fs.map Fil.bf) (fs.map Fil.en) (trav es (es.length + 1) 0 [] ⟨0, false, [], fun _ => []⟩) fs' ps er ∧ (outs (fs.map Fil.bf) (trav es (es.length + 1) 0 [] ⟨0, false, [], fun _ => []⟩).out ++ ro).length = capo ∧
        q = (br, blk (rdF bs ss buf hdr (.slice (some ⟨bo, 0, none⟩) (trav es (es.length + 1) 0 [] ⟨0, false, [], fun _ => []⟩).out.length capo) (.slice (some ⟨g, 0, none⟩) n capn) wa) 89) :: (g, blk (ptrs fs ++ rn) 90) :: (bo, blk (outs (fs.map Fil.bf) (trav es (es.length + 1) 0 [] ⟨0, false, [], fun _ => []⟩).out ++ ro) 90) :: (filsH br fs' ++ psH ps)) := by
  refine Ct_of Tryd.func50 rfl Tryd.ntmps50 rfl ?_
  intro E F
  simp only [numL, List.nil_append, List.cons_append]
  refine CW_seq ?_
  refine CW_region ?_
  refine RW_fx rfl rfl rfl (Fx_box (zs := [pv br]) rfl rfl) ?_
  rintro _ _ ⟨bR, rfl, rfl⟩
  refine RW_a ?_
  refine RW_lv (ks := [1]) ?_
  refine CW_seq ?_
  refine CW_draw [9] _ mixed (Sub.refl _) ?_
  refine RD_h (i := 0) #[false, true, true, true, true, true, true, false, false, false] rfl rfl rfl rfl (by kernel_rfl) (fun _ _ _ h => h) (Yh_load rfl sc_78 (by repeat (first | exact List.Mem.head _ | apply List.Mem.tail)) rfl) ?_
  refine RD_h (i := 1) #[true, false, false, false, false, false, false, false, false, false] rfl rfl rfl rfl (by kernel_rfl) (fun _ _ _ h => h) (Yh_load rfl sc_78 (by repeat (first | exact List.Mem.head _ | apply List.Mem.tail)) rfl) ?_
  refine RD_l 2 rfl (Yl_nilCheck rfl) ?_
  refine RD_l 3 rfl (Yl_field rfl fo_89_5) ?_
  refine RD_h (i := 4) #[true, true, true, true, false, false, false, false, false, false] rfl rfl rfl rfl (by kernel_rfl) (fun _ _ _ h => h) (Yh_load (v := .slice (some ⟨g, 0, none⟩) n capn) rfl sc_83 (by repeat (first | exact List.Mem.head _ | apply List.Mem.tail)) rfl) ?_
  refine RD_l 5 rfl (Yl_len rfl sl_83) ?_
  refine RD_one (i := 6) (by kernel_rfl) ?_
  refine RO_fx rfl rfl rfl rfl (Fx_makeSlice (z0 := .pointer none) (m := 1) (l := 0) (c := (n : Int)) rfl rfl sl_83 by_90 ze_90 rfl rfl (by omega) (by omega) (by omega) (by omega)) ?_
  rintro _ _ ⟨bo, rfl, rfl⟩
  simp only [Int.toNat_natCast, Nat.mul_one]
  refine ⟨Or.inr (Sub.more (Sub.refl _)), ?_⟩
  refine RD_l 7 rfl (Yl_nilCheck rfl) ?_
  refine RD_l 8 rfl (Yl_field rfl fo_89_4) ?_
  refine RD_one (i := 9) (by kernel_rfl) ?_
  refine RO_fx0 rfl rfl rfl (Fx_store (v := .slice (some ⟨bo, 0, none⟩) 0 n) rfl rfl sz_83 rfl (by repeat (first | exact Rep.here _ _ _ | apply Rep.there)) (by simp [rdF])) ?_
  rintro _ _ rfl
  refine ⟨Or.inl (by kernel_rfl), ?_⟩
  refine (RD_done (by kernel_rfl) (QW_lv (ks := [1]) ?_))
  refine CW_seq ?_
  refine CW_region ?_
  refine RW_fx rfl rfl rfl (Fx_alloc (zs := [.nilFunc]) ze_77 rfl) ?_
  rintro _ _ ⟨bF, rfl, rfl⟩
  refine RW_lv (ks := [1, 3]) ?_
  refine CW_seq ?_
  refine CW_region ?_
  refine RW_fx rfl rfl rfl (Fx_alloc (zs := [.nilIface]) ze_105 rfl) ?_
  rintro _ _ ⟨be, rfl, rfl⟩
  refine RW_lv (ks := [1, 3, 4]) ?_
  refine CW_seq ?_
  refine CW_region ?_
  refine RW_fx rfl rfl rfl (Fx_alloc (zs := [nv 0]) ze_3 rfl) ?_
  rintro _ _ ⟨bc, rfl, rfl⟩
  refine RW_lv (ks := [1, 3, 4, 5]) ?_
  refine CW_seq ?_
  refine CW_region ?_
  refine RW_l (Yl_makeFunc (us := []) (vs := [pv bc, pv bR, pv be, pv bF]) rfl rfl) ?_
  refine RW_fx0 rfl rfl (Fx_store (v := .func (.func 61) #[] #[pv bc, pv bR, pv be, pv bF]) rfl rfl sz_77 rfl (by repeat (first | exact Rep.here _ _ _ | apply Rep.there)) (by simp)) ?_
  rintro _ _ rfl
  refine RW_lv (ks := [3, 4]) ?_
  refine CW_seq ?_
  have htr := fun bp => trav_ct br bs ss g n capn bc bR be bF buf hdr wa rn (fs.map Fil.bf) es (fs.map Fil.en) (by simpa using hlf) hn hN hL (es.length + 1) 0 [] ⟨0, false, [], fun _ => []⟩ (by show es.length + 1 ≤ 0 + _; omega) (by simp) (by simp) (by omega) bp fs [(bp, [])] bo n (List.replicate n (.pointer none)) .nilIface ⟨rfl, (by rw [List.map_map]; rfl), Nat.le_refl _, fun k hk => (by cases hk), .inl ⟨rfl, rfl⟩⟩ (List.Mem.head _) (by simp)
  refine CW_region ?_
  refine RW_h (Yh_load (v := .func (.func 61) #[] #[pv bc, pv bR, pv be, pv bF]) rfl sc_77 (by repeat (first | exact List.Mem.head _ | apply List.Mem.tail)) rfl) ?_
  refine RW_fx rfl rfl rfl (Fx_buildSlice0 sl_36) ?_
  rintro _ _ ⟨bp, rfl, rfl⟩
  refine RW_heap (perm_ps0 (bp, _) [_, _, _, _, _, _, _] _ _) ?_
  simp only [List.cons_append, List.nil_append]
  replace htr := htr bp
  simp only [List.map_map] at htr
  refine RW_fx rfl rfl rfl (Fx_callV ok_61 (fs := []) (cs := [pv bc, pv bR, pv be, pv bF]) (vs := [nv 0, .slice (some ⟨bp, 0, none⟩) 0 0]) rfl rfl (by exact (Pick.cons (by repeat (first | exact Rem.here _ _ | apply Rem.there)) (Pick.cons (by repeat (first | exact Rem.here _ _ | apply Rem.there)) (Pick.cons (by repeat (first | exact Rem.here _ _ | apply Rem.there)) (Pick.cons (by repeat (first | exact Rem.here _ _ | apply Rem.there)) (Pick.cons (by repeat (first | exact Rem.here _ _ | apply Rem.there)) (Pick.cons (by repeat (first | exact Rem.here _ _ | apply Rem.there)) (Pick.cons (by repeat (first | exact Rem.here _ _ | apply Rem.there)) (pick_app _ F)))))))) ) htr) ?_
  rintro _ _ ⟨_, ⟨rfl, fs', ps', bo', capo', ro', er', hT', hsub', hl', rfl⟩, rfl⟩
  simp only [List.cons_append]
  refine RW_lv (ks := [4]) ?_
  refine CW_seq ?_
  refine CW_region ?_
  refine RW_h (Yh_load (v := er') rfl sc_105 (by repeat (first | exact List.Mem.head _ | apply List.Mem.tail)) rfl) ?_
  refine RW_a ?_
  refine RW_lv (ks := [2]) ?_
  refine CW_ret ?_
  refine QW_dropB (e := (bc, _)) (by repeat (first | exact Rem.here _ _ | apply Rem.there)) ?_
  refine QW_dropB (e := (bR, _)) (by repeat (first | exact Rem.here _ _ | apply Rem.there)) ?_
  refine QW_dropB (e := (be, _)) (by repeat (first | exact Rem.here _ _ | apply Rem.there)) ?_
  refine QW_dropB (e := (bF, _)) (by repeat (first | exact Rem.here _ _ | apply Rem.there)) ?_
  exact QW_ret1 rfl rfl (_ :: _ :: _ :: (filsH br fs' ++ psH ps')) ⟨fs', ps', bo', capo', ro', er', rfl, hT', hl', rfl⟩ (Prm.nil _)
end Go.Proofs.YtgoddcicbpjknaaDoor

/-! Values: a reader that is open, its blocks. -/
set_option maxRecDepth 20000
namespace Go.Proofs.YtgoddcicbpjknaaDoor
open Go
open Cfb
/-- What is asked of a file's bytes, that it is opened. -/
structure FileIn (ps : List Value) (B : List UInt8) (N ss ver sh nd nf dl ml nm num_ : Nat) (sns : List Nat) (es : List En) (tn : List Tn) (mi : Option (List Nat × List Nat)) : Prop where
  hd : HdOk ((B.drop 0).take 512) ver sh nd nf dl ml nm
  hsh : sh = 9 ∨ sh = 12
  hss : ss = 2 ^ sh
  ss2 : 512 ≤ ss ∧ ss ≤ 4096
  m1 : ss / 4 * nm ≤ 1000000
  m2 : nm ≤ nf * (ss / 64)
  m3 : nf * (ss / 64) ≤ 1000000
  ch : ChOk B N ss (hcF ((B.drop 0).take 512) 109) sns
  K : 1 ≤ sns.length
  hdl : dl = snx sns 0
  ver4 : ver ≤ 4
  nd4 : nd ≤ 64000
  num : num_ = ss / 128
  len : es.length = sns.length * num_
  len2 : es.length ≤ 100000
  ent : ∀ j, j < sns.length → ∀ i, i < num_ → EnOk ps ver ((B.drop ((snx sns j + 1) * ss)).take ss) (i * 128) (es.getD (j * num_ + i) default)
  mini : ∃ st0 e0, es[0]? = some e0 ∧ e0.dc[60]? = some (uv st0) ∧ MiniIn B N ss (hcF ((B.drop 0).take 512) 109) st0 ml nm mi
  link : LinkOk tn es
  hB : B.length = N
  hN : N ≤ 1000000000
  hN5 : 512 ≤ N
structure Rdr where
  br : Nat
  bh : Nat
  bhf : Nat
  bb : Nat
  bs : Nat
  bB : Nat
  ss : Nat
  g : Nat
  cap : Nat
  N : Nat
  cN : Nat
  bo : Nat
  capo : Nat
  B : List UInt8
  rB : List Value
  hc : List Value
  lb : List Value
  rn : List Value
  ps : List Value
  ro : List Value
  T : TypeId
  m1 : Value
  m2 : Value
  wa : Value
  X : Heap
  fs : List Fil
  pth : List (Nat × List (List UInt8))
  bfs : List Nat
  out : List Nat
@[reducible] def Rdr.cells (R : Rdr) : List Value := rdF R.bs R.ss (.slice (some ⟨R.bb, 0, none⟩) R.ss R.ss) (pv R.bh) (.slice (some ⟨R.bo, 0, none⟩) R.out.length R.capo) (.slice (some ⟨R.g, 0, none⟩) R.fs.length R.cap) R.wa
@[reducible] def Rdr.hcells (R : Rdr) : List Value := [pv R.bhf, .slice (some ⟨R.bhf, 45, none⟩) 109 109, R.m1, R.m2]
def Rdr.H (R : Rdr) : Heap := (R.br, blk R.cells 89) :: (R.bh, blk R.hcells 137) :: (R.bhf, blk R.hc 142) :: (R.bb, blk R.lb 5) :: (R.bs, blk [.slice (some ⟨R.bB, 0, none⟩) R.N R.cN] 103) :: (R.bB, blk (bys R.B ++ R.rB) 5) :: (2, blk R.ps R.T) ::
  (R.g, blk (R.bfs.map pv ++ R.rn) 90) :: (R.bo, blk (outs R.bfs R.out ++ R.ro) 90) :: (filsH R.br R.fs ++ (psH R.pth ++ R.X))
/-- What is known of a reader that has been opened. -/
structure Rdr.Ok (R : Rdr) (es : List En) (S : TS) (mi : Option (List Nat × List Nat)) (er : Value) : Prop where
  tok : TOk R.bfs es S R.fs R.pth er
  out : R.out = S.out
  lo : (outs R.bfs R.out ++ R.ro).length = R.capo
  ln : (R.bfs.map pv ++ R.rn).length = R.cap
  lb : R.lb.length = R.ss
  mini : MiniOk mi R.m1 R.m2 R.X
  hc : R.hc = hcF ((R.B.drop 0).take 512) 109
  wa : R.wa = .nilIface
abbrev S0 : TS := ⟨0, false, [], fun _ => []⟩
abbrev STv (tn : List Tn) : TS := trav tn (tn.length + 1) 0 [] S0
theorem Fx_makeU8' {P : Program} {E : World} {L : Fra} {H : Heap} {dst : Option Tmp} {ty : TypeId} {pos : String} {aft : Array Edge} {gd : Option (Nat × Bool)} {x y : Operand} (N : Nat) (hP : P = Tryd.prog) (hx : ev L x = some (.int .u32 (N : Int))) (hy : ev L y = some (.int .u32 (N : Int))) (hN : N ≤ 1000000000) :
    Fx P E L H ⟨dst, .makeSlice 23 x y, ty, pos, aft, gd⟩ (fun v H'' => ∃ b, v = .slice (some ⟨b, 0, none⟩) N N ∧ H'' = (b, blk (List.replicate N (.int .u8 0)) 5) :: H) := by
  subst hP
  have := Fx_makeSlice (E := E) (H := H) (dst := dst) (ty := ty) (pos := pos) (aft := aft) (gd := gd) (z0 := .int .u8 0) (m := 1) hx hy sl_23 by_5 ze_5 rfl rfl (by omega) (by omega) (by omega) (by omega)
  simp only [Int.toNat_natCast, Nat.mul_one] at this
  exact this
end Go.Proofs.YtgoddcicbpjknaaDoor

/-! Walks: a reader is opened. -/
set_option maxRecDepth 20000
namespace Go.Proofs.YtgoddcicbpjknaaDoor
open Go
open Cfb
theorem hpm (a b d c f k l m n : Nat × Obj) (P X F : Heap) : (a :: b :: d :: (P ++ (c :: f :: k :: l :: m :: n :: (X ++ F)))).Perm (a :: c :: f :: k :: l :: m :: n :: b :: d :: (P ++ (X ++ F))) := by
  have h1 : (b :: d :: (P ++ (c :: f :: k :: l :: m :: n :: (X ++ F)))).Perm ([c, f, k, l, m, n] ++ (b :: d :: (P ++ (X ++ F)))) := by
    have h2 : ((b :: d :: P) ++ ([c, f, k, l, m, n] ++ (X ++ F))).Perm ([c, f, k, l, m, n] ++ ((b :: d :: P) ++ (X ++ F))) := by
      have := List.Perm.append_right (X ++ F) (List.perm_append_comm (l₁ := b :: d :: P) (l₂ := [c, f, k, l, m, n]))
      rw [List.append_assoc, List.append_assoc] at this
      exact this
    exact h2
  exact h1.cons a
set_option maxHeartbeats 4000000 in
theorem New_ct (bs bB N cN ss ver sh nd nf dl ml nm num_ : Nat) (B : List UInt8) (rB ps : List Value) (T : TypeId) (sns : List Nat) (es : List En) (tn : List Tn) (mi : Option (List Nat × List Nat)) (h : FileIn ps B N ss ver sh nd nf dl ml nm num_ sns es tn mi) (hcN : N ≤ cN) :
    Ct Tryd.prog 39 [.iface 79 (pv bs)] [(bs, blk [.slice (some ⟨bB, 0, none⟩) N cN] 103), (bB, blk (bys B ++ rB) 5), (2, blk ps T)] (fun v q => ∃ (R : Rdr) (er : Value), R.Ok es (STv tn) mi er ∧ R.B = B ∧ R.N = N ∧ R.cN = cN ∧ R.ss = ss ∧ R.bs = bs ∧ R.bB = bB ∧ R.rB = rB ∧ R.ps = ps ∧ R.T = T ∧ v = .tuple #[if (STv tn).bad = true then .pointer none else pv R.br, er] ∧ q = R.H) := by
  obtain ⟨st0, e0, he0, hst0, hMi⟩ := h.mini
  refine Ct_of Tryd.func39 rfl Tryd.ntmps39 rfl ?_
  intro E F
  simp only [numL, List.nil_append, List.cons_append]
  refine CW_seq ?_
  refine CW_region ?_
  refine RW_a ?_
  refine RW_a ?_
  refine RW_lv (ks := [0]) ?_
  refine CW_seq ?_
  refine CW_region ?_
  refine RW_m ?_
  refine RW_l (Yl_build (cs := rdF bs 0 (.slice none 0 0) (.pointer none) (.slice none 0 0) (.slice none 0 0) .nilIface) pl_89 ze_89 rfl rfl) ?_
  refine RW_fx rfl rfl rfl (Fx_box (zs := rdF bs 0 (.slice none 0 0) (.pointer none) (.slice none 0 0) (.slice none 0 0) .nilIface) rfl rfl) ?_
  rintro _ _ ⟨br, rfl, rfl⟩
  refine RW_a ?_
  refine RW_lv (ks := [0, 4]) ?_
  refine CW_seq ?_
  refine CW_seq ?_
  refine CW_region ?_
  refine RW_m ?_
  refine RW_l (Yl_assertLacks rfl lk_119_79 ze_119) ?_
  refine RW_m ?_
  refine RW_l (Yl_extract rfl rfl) ?_
  refine RW_l (Yl_extract rfl rfl) ?_
  refine RW_a ?_
  refine RW_a ?_
  refine RW_lv (ks := [4, 6]) ?_
  refine CW_seq ?_
  refine CW_region ?_
  refine RW_m ?_
  refine RW_lv (ks := [4, 20]) ?_
  refine CW_cond rfl (fun hc1 => ?_) (fun hc1 => ?_)
  · skip
    exact Bool.noConfusion hc1
  · skip
    refine CW_region ?_
    refine RW_m ?_
    refine RW_fx rfl rfl rfl (Fx_makeU8 512 rfl rfl (by omega)) ?_
    rintro _ _ ⟨bb0, rfl, rfl⟩
    refine RW_l (Yl_nilCheck rfl) ?_
    refine RW_l (Yl_field rfl fo_89_2) ?_
    refine RW_fx0 rfl rfl (Fx_store (v := .slice (some ⟨bb0, 0, none⟩) 512 512) rfl rfl sz_23 rfl (by repeat (first | exact Rep.here _ _ _ | apply Rep.there)) (by simp [rdF])) ?_
    rintro _ _ rfl
    refine RW_lv (ks := [4]) ?_
    refine CW_seq ?_
    refine CW_seq ?_
    refine CW_region ?_
    refine RW_m ?_
    refine RW_fx rfl rfl rfl (Fx_call ok_46 (vs := [pv br]) rfl (by repeat (first | exact Pick.nil _ | apply Pick.cons | exact Rem.here _ _ | apply Rem.there)) (setHeader_ct br bb0 bs bB N cN ver sh nd nf dl ml nm ss B rB (bys (List.replicate 512 0)) (.slice none 0 0) (.slice none 0 0) .nilIface h.hd h.hsh h.hss h.ss2 h.m1 h.m2 h.m3 h.hB hcN h.hN h.hN5 (by simp))) ?_
    rintro _ _ ⟨_, ⟨rfl, bh, bhf, rfl⟩, rfl⟩
    simp only [List.cons_append, List.nil_append]
    refine RW_a ?_
    refine RW_lv (ks := [4, 7]) ?_
    refine CW_seq ?_
    refine CW_region ?_
    refine RW_m ?_
    refine RW_l (Yl_ifNeNil rfl if_105) ?_
    refine RW_lv (ks := [4, 7, 31]) ?_
    refine CW_cond rfl (fun hc2 => ?_) (fun hc2 => ?_)
    · skip
      exact absurd hc2 (by decide)
    · skip
      refine (CW_skip (QW_lv (ks := [4]) ?_))
      refine CW_cut (σ := Nat × List Value) (fun _ => [(4, pv br)]) (fun q => (br, blk (rdF bs ss (.slice (some ⟨q.1, 0, none⟩) ss ss) (pv bh) (.slice none 0 0) (.slice none 0 0) .nilIface) 89) :: (bh, blk [pv bhf, .slice none 0 0, .slice none 0 0, .slice none 0 0] 137) :: (bhf, blk (hcF ((B.drop 0).take 512) 109) 142) :: (q.1, blk q.2 5) :: (bs, blk [.slice (some ⟨bB, 0, none⟩) N cN] 103) :: (bB, blk (bys B ++ rB) 5) :: (2, blk ps T) :: F) (fun q => q.2.length = ss) ?_ ?_
      · skip
        refine CW_seq ?_
        have hs5 := h.ss2
        refine CW_draw [] _ mixed (Sub.refl _) ?_
        refine RD_l 0 rfl (Yl_move rfl) ?_
        refine RD_l 1 rfl (Yl_nilCheck rfl) ?_
        refine RD_l 2 rfl (Yl_field rfl fo_89_0) ?_
        refine RD_h (i := 3) #[true, true, true, false, false, false, false, false, false, false, false, false, false, false, false, false, false, false] rfl rfl rfl rfl (by kernel_rfl) (fun _ _ _ h => h) (Yh_load (v := .bool false) rfl sc_4 (by repeat (first | exact List.Mem.head _ | apply List.Mem.tail)) rfl) ?_
        refine RD_l 4 rfl (Yl_not rfl) ?_
        refine RD_l 5 rfl (Yl_move rfl) ?_
        refine RD_bool 38 rfl (fun hg3 => ?_) (fun hg3 => ?_)
        · skip
          refine RD_l 6 rfl (Yl_move rfl) ?_
          refine RD_l 7 rfl (Yl_nilCheck rfl) ?_
          refine RD_l 8 rfl (Yl_field rfl fo_89_1) ?_
          refine RD_l 11 rfl (Yl_move rfl) ?_
          refine RD_l 12 rfl (Yl_nilCheck rfl) ?_
          refine RD_l 13 rfl (Yl_field rfl fo_89_2) ?_
          refine RD_h (i := 9) #[true, true, true, true, true, true, true, true, true, false, false, true, true, true, true, true, false, false] rfl rfl rfl rfl (by kernel_rfl) (fun _ _ _ h => h) (Yh_load (v := uv ss) rfl sc_67 (by repeat (first | exact List.Mem.head _ | apply List.Mem.tail)) rfl) ?_
          refine RD_l 10 rfl (Yl_conv (c := (ss : Int)) rfl in_67 in_3 (wi64 (by omega) (by omega))) ?_
          refine RD_h (i := 14) #[true, true, true, true, true, true, true, true, true, true, true, true, true, true, false, false, false, false] rfl rfl rfl rfl (by kernel_rfl) (fun _ _ _ h => h) (Yh_load (v := .slice (some ⟨bb0, 0, none⟩) 512 512) rfl sc_23 (by repeat (first | exact List.Mem.head _ | apply List.Mem.tail)) rfl) ?_
          refine RD_l 15 rfl (Yl_len rfl sl_23) ?_
          refine RD_l 16 rfl (Yl_gtr rfl rfl) ?_
          refine RD_l 17 rfl (Yl_pick_t rfl rfl) ?_
          refine (RD_done (by kernel_rfl) (QW_lv (ks := [4, 50]) ?_))
          refine CW_cond rfl (fun hc4 => ?_) (fun hc4 => ?_)
          · replace hc4 := of_decide_eq_true hc4
            refine CW_region ?_
            refine RW_m ?_
            refine RW_m ?_
            refine RW_l (Yl_nilCheck rfl) ?_
            refine RW_l (Yl_field rfl fo_89_1) ?_
            refine RW_h (Yh_load (v := uv ss) rfl sc_67 (by repeat (first | exact List.Mem.head _ | apply List.Mem.tail)) rfl) ?_
            refine RW_fx rfl rfl rfl (Fx_makeU8' ss rfl rfl rfl (by omega)) ?_
            rintro _ _ ⟨bb, rfl, rfl⟩
            refine RW_l (Yl_nilCheck rfl) ?_
            refine RW_l (Yl_field rfl fo_89_2) ?_
            refine RW_fx0 rfl rfl (Fx_store (v := .slice (some ⟨bb, 0, none⟩) ss ss) rfl rfl sz_23 rfl (by repeat (first | exact Rep.here _ _ _ | apply Rep.there)) (by simp [rdF])) ?_
            rintro _ _ rfl
            refine RW_nil ?_
            first
              | (refine QW_dropB (e := (bb0, _)) (by repeat (first | exact Rem.here _ _ | apply Rem.there)) ?_; exact QW_cut (bb, List.replicate ss (.int .u8 0)) (by simp) (by repeat (first | exact Prm.nil _ | exact Rem.here _ _ | apply Rem.there | apply Prm.cons)) (.cons rfl .nil))
              | (have e512 : ss = 512 := (by have := h.ss2; omega); exact QW_cut (bb0, bys ((B.drop 0).take 512)) (by rw [e512, List.length_map]; exact len_drop_take B 0 512 (by have := h.hB; have := h.hN5; omega)) (by rw [e512]; exact (by repeat (first | exact Prm.nil _ | exact Rem.here _ _ | apply Rem.there | apply Prm.cons))) (.cons rfl .nil))
          · replace hc4 := of_decide_eq_false hc4
            refine CW_skip ?_
            first
              | (refine QW_dropB (e := (bb0, _)) (by repeat (first | exact Rem.here _ _ | apply Rem.there)) ?_; exact QW_cut (bb, List.replicate ss (.int .u8 0)) (by simp) (by repeat (first | exact Prm.nil _ | exact Rem.here _ _ | apply Rem.there | apply Prm.cons)) (.cons rfl .nil))
              | (have e512 : ss = 512 := (by have := h.ss2; omega); exact QW_cut (bb0, bys ((B.drop 0).take 512)) (by rw [e512, List.length_map]; exact len_drop_take B 0 512 (by have := h.hB; have := h.hN5; omega)) (by rw [e512]; exact (by repeat (first | exact Prm.nil _ | exact Rem.here _ _ | apply Rem.there | apply Prm.cons))) (.cons rfl .nil))
        · skip
          exact Bool.noConfusion hg3
      · rintro ⟨bb, lb0⟩ hlb0
        simp only at hlb0 ⊢
        refine CW_seq ?_
        refine CW_seq ?_
        refine CW_region ?_
        refine RW_m ?_
        refine RW_fx rfl rfl rfl (Fx_call ok_47 (vs := [pv br]) rfl (by repeat (first | exact Pick.nil _ | apply Pick.cons | exact Rem.here _ _ | apply Rem.there)) (setDifats_ct br bh bhf (rdF bs ss (.slice (some ⟨bb, 0, none⟩) ss ss) (pv bh) (.slice none 0 0) (.slice none 0 0) .nilIface) (hcF ((B.drop 0).take 512) 109) (.slice none 0 0) (.slice none 0 0) (.slice none 0 0) rfl h.hd.ndif)) ?_
        rintro _ _ ⟨_, ⟨rfl, rfl⟩, rfl⟩
        simp only [List.cons_append, List.nil_append]
        refine RW_a ?_
        refine RW_lv (ks := [4, 8]) ?_
        refine CW_seq ?_
        refine CW_region ?_
        refine RW_m ?_
        refine RW_l (Yl_ifNeNil rfl if_105) ?_
        refine RW_lv (ks := [4, 8, 62]) ?_
        refine CW_cond rfl (fun hc5 => ?_) (fun hc5 => ?_)
        · skip
          exact absurd hc5 (by decide)
        · skip
          refine (CW_skip (QW_lv (ks := [4]) ?_))
          refine CW_seq ?_
          refine CW_seq ?_
          refine CW_region ?_
          refine RW_m ?_
          refine RW_fx rfl rfl rfl (Fx_call ok_48 (vs := [pv br]) rfl (by repeat (first | exact Pick.nil _ | apply Pick.cons | exact Rem.here _ _ | apply Rem.there)) (setDirEntries_ct br bh bhf bb bs bB ss ver nd num_ N cN B rB (hcF ((B.drop 0).take 512) 109) ps lb0 T sns es (.slice none 0 0) .nilIface (.slice none 0 0) (.slice none 0 0) h.ch h.K h.hd.ver h.hd.nd (by rw [← h.hdl]; exact h.hd.dl) h.ver4 h.nd4 h.ss2 h.num h.len h.len2 h.ent h.hB hcN h.hN hlb0)) ?_
          rintro _ _ ⟨_, ⟨rfl, g, cap, rn, lb, fs, hfs, hln, hlb, rfl⟩, rfl⟩
          simp only [List.cons_append, List.nil_append]
          refine RW_a ?_
          refine RW_lv (ks := [4, 9]) ?_
          refine CW_seq ?_
          refine CW_region ?_
          refine RW_m ?_
          refine RW_l (Yl_ifNeNil rfl if_105) ?_
          refine RW_lv (ks := [4, 9, 67]) ?_
          refine CW_cond rfl (fun hc6 => ?_) (fun hc6 => ?_)
          · skip
            exact absurd hc6 (by decide)
          · skip
            refine (CW_skip (QW_lv (ks := [4]) ?_))
            refine CW_seq ?_
            refine CW_seq ?_
            have hf0 : ∃ f0, fs[0]? = some f0 ∧ f0.en.dc[60]? = some (uv st0) := by
              rw [← hfs, List.getElem?_map] at he0
              cases hq : fs[0]? with
              | none => rw [hq] at he0; cases he0
              | some f0 => rw [hq] at he0; cases he0; exact ⟨f0, rfl, hst0⟩
            have hmn := setMini_any (g := g) (bB := bB) mi br bh bhf bb bs ss N cN B rB (hcF ((B.drop 0).take 512) 109) lb ps T (.slice (some ⟨bb, 0, none⟩) ss ss) (.slice none 0 0) .nilIface es.length cap rn fs st0 ml nm hf0 (by rw [h.len]; exact Nat.mul_pos h.K (by have := h.num; have := h.ss2; omega)) hMi h.hd.ml h.hd.nm h.ss2 h.hB hcN h.hN
            refine CW_region ?_
            refine RW_m ?_
            refine RW_fx rfl rfl rfl (Fx_call ok_49 (vs := [pv br]) rfl (by exact (Pick.cons (by repeat (first | exact Rem.here _ _ | apply Rem.there)) (Pick.cons (by repeat (first | exact Rem.here _ _ | apply Rem.there)) (Pick.cons (by repeat (first | exact Rem.here _ _ | apply Rem.there)) (Pick.cons (by repeat (first | exact Rem.here _ _ | apply Rem.there)) (Pick.cons (by repeat (first | exact Rem.here _ _ | apply Rem.there)) (Pick.cons (by repeat (first | exact Rem.here _ _ | apply Rem.there)) (Pick.cons (by repeat (first | exact Rem.here _ _ | apply Rem.there)) (Pick.cons (by repeat (first | exact Rem.here _ _ | apply Rem.there)) (pick_app _ F)))))))))) hmn) ?_
            rintro _ _ ⟨_, ⟨rfl, m1, m2, X, hmi, rfl⟩, rfl⟩
            simp only [List.cons_append, List.nil_append, List.append_assoc]
            refine RW_a ?_
            refine RW_lv (ks := [4, 10]) ?_
            refine CW_seq ?_
            refine CW_region ?_
            refine RW_m ?_
            refine RW_l (Yl_ifNeNil rfl if_105) ?_
            refine RW_lv (ks := [4, 10, 72]) ?_
            refine CW_cond rfl (fun hc7 => ?_) (fun hc7 => ?_)
            · skip
              exact absurd hc7 (by decide)
            · skip
              refine (CW_skip (QW_lv (ks := [4]) ?_))
              refine CW_seq ?_
              refine CW_seq ?_
              have hle : tn.length = es.length := h.link.len.symm
              have hlf : fs.length = tn.length := by rw [hle, ← hfs, List.length_map]
              have htr := traverse_ct br bs ss g es.length cap (.slice (some ⟨bb, 0, none⟩) ss ss) (pv bh) (.slice none 0 0) .nilIface rn fs tn hlf hle.symm (by rw [hle]; exact h.len2) (by rw [hfs]; exact h.link)
              rw [show (trav tn (tn.length + 1) 0 [] ⟨0, false, [], fun _ => []⟩ : TS) = STv tn from rfl] at htr
              generalize STv tn = S at htr ⊢
              refine CW_region ?_
              refine RW_m ?_
              refine RW_fx rfl rfl rfl (Fx_call ok_50 (vs := [pv br]) rfl (by exact (Pick.cons (by repeat (first | exact Rem.here _ _ | apply Rem.there)) (Pick.cons (by repeat (first | exact Rem.here _ _ | apply Rem.there)) (pick_mid (filsH br fs) [_, _, _, _, _, _] (X ++ F))))) htr) ?_
              rintro _ _ ⟨_, ⟨fs', pth, bo, capo, ro, er, rfl, hT, hlo, rfl⟩, rfl⟩
              simp only [List.cons_append, List.nil_append]
              refine RW_a ?_
              refine RW_lv (ks := [4, 11]) ?_
              refine CW_seq ?_
              refine CW_region ?_
              refine RW_m ?_
              refine RW_y rfl rfl rfl (Yl.h (v := .bool S.bad) (by rcases hT.err with ⟨hb, rfl⟩ | ⟨hb, m, x, rfl⟩ <;> rw [hb]; exact Yl_ifNeNil rfl if_105; exact Yl_ifNe rfl if_105)) ?_
              refine RW_lv (ks := [4, 11, 77]) ?_
              refine CW_cond rfl (fun hc8 => ?_) (fun hc8 => ?_)
              · skip
                have hvv : (.tuple #[.pointer none, er] : Value) = .tuple #[if S.bad = true then .pointer none else pv br, er] := by rw [if_pos hc8]
                refine CW_seq ?_
                refine CW_region ?_
                refine RW_m ?_
                refine RW_a ?_
                refine RW_a ?_
                refine RW_lv (ks := [2, 3]) ?_
                refine CW_ret ?_
                refine QW_ret_then ?_
                have hT2 : TOk (fs.map Fil.bf) es S fs' pth er := (by rw [hfs] at hT; exact hT)
                have hmm : (fs.map Fil.bf).map pv = ptrs fs := (by rw [List.map_map]; rfl)
                have hln2 : ((fs.map Fil.bf).map pv ++ rn).length = cap := (by rw [hmm]; exact hln)
                have hok : Rdr.Ok ({ br := br, bh := bh, bhf := bhf, bb := bb, bs := bs, bB := bB, ss := ss, g := g, cap := cap, N := N, cN := cN, bo := bo, capo := capo, B := B, rB := rB, hc := (hcF ((B.drop 0).take 512) 109), lb := lb, rn := rn, ps := ps, ro := ro, T := T, m1 := m1, m2 := m2, wa := .nilIface, X := X, fs := fs', pth := pth, bfs := fs.map Fil.bf, out := S.out }) es S mi er := ⟨hT2, rfl, hlo, hln2, hlb, hmi, by dsimp only, rfl⟩
                have hfl : fs'.length = es.length := by have := congrArg List.length hT.rest; simp only [List.length_map] at this; rw [this, ← hfs, List.length_map]
                refine QW_heap (hpm _ _ _ _ _ _ _ _ _ _ _ _) ?_
                exact QW_ret2 rfl rfl rfl (Rdr.H ({ br := br, bh := bh, bhf := bhf, bb := bb, bs := bs, bB := bB, ss := ss, g := g, cap := cap, N := N, cN := cN, bo := bo, capo := capo, B := B, rB := rB, hc := (hcF ((B.drop 0).take 512) 109), lb := lb, rn := rn, ps := ps, ro := ro, T := T, m1 := m1, m2 := m2, wa := .nilIface, X := X, fs := fs', pth := pth, bfs := fs.map Fil.bf, out := S.out })) ⟨_, er, hok, rfl, rfl, rfl, rfl, rfl, rfl, rfl, rfl, rfl, hvv, rfl⟩ (by simp only [Rdr.H, Rdr.cells, Rdr.hcells, hfl, hmm, List.cons_append, List.append_assoc]; exact Prm.nil _)
              · skip
                have hbad := hc8
                have her : er = .nilIface := by rcases hT.err with ⟨_, hh⟩ | ⟨hh, _⟩; exact hh; rw [hh] at hbad; cases hbad
                have hvv : (.tuple #[pv br, .nilIface] : Value) = .tuple #[if S.bad = true then .pointer none else pv br, er] := by rw [if_neg (by rw [hbad]; simp), her]
                refine (CW_skip (QW_lv (ks := [4]) ?_))
                refine CW_seq ?_
                refine CW_region ?_
                refine RW_m ?_
                refine RW_a ?_
                refine RW_a ?_
                refine RW_lv (ks := [2, 3]) ?_
                refine CW_ret ?_
                have hT2 : TOk (fs.map Fil.bf) es S fs' pth er := (by rw [hfs] at hT; exact hT)
                have hmm : (fs.map Fil.bf).map pv = ptrs fs := (by rw [List.map_map]; rfl)
                have hln2 : ((fs.map Fil.bf).map pv ++ rn).length = cap := (by rw [hmm]; exact hln)
                have hok : Rdr.Ok ({ br := br, bh := bh, bhf := bhf, bb := bb, bs := bs, bB := bB, ss := ss, g := g, cap := cap, N := N, cN := cN, bo := bo, capo := capo, B := B, rB := rB, hc := (hcF ((B.drop 0).take 512) 109), lb := lb, rn := rn, ps := ps, ro := ro, T := T, m1 := m1, m2 := m2, wa := .nilIface, X := X, fs := fs', pth := pth, bfs := fs.map Fil.bf, out := S.out }) es S mi er := ⟨hT2, rfl, hlo, hln2, hlb, hmi, by dsimp only, rfl⟩
                have hfl : fs'.length = es.length := by have := congrArg List.length hT.rest; simp only [List.length_map] at this; rw [this, ← hfs, List.length_map]
                refine QW_heap (hpm _ _ _ _ _ _ _ _ _ _ _ _) ?_
                exact QW_ret2 rfl rfl rfl (Rdr.H ({ br := br, bh := bh, bhf := bhf, bb := bb, bs := bs, bB := bB, ss := ss, g := g, cap := cap, N := N, cN := cN, bo := bo, capo := capo, B := B, rB := rB, hc := (hcF ((B.drop 0).take 512) 109), lb := lb, rn := rn, ps := ps, ro := ro, T := T, m1 := m1, m2 := m2, wa := .nilIface, X := X, fs := fs', pth := pth, bfs := fs.map Fil.bf, out := S.out })) ⟨_, er, hok, rfl, rfl, rfl, rfl, rfl, rfl, rfl, rfl, rfl, hvv, rfl⟩ (by simp only [Rdr.H, Rdr.cells, Rdr.hcells, hfl, hmm, List.cons_append, List.append_assoc]; exact Prm.nil _)
end Go.Proofs.YtgoddcicbpjknaaDoor

/-! Walks: the code of an error. -/
set_option maxRecDepth 20000
namespace Go.Proofs.YtgoddcicbpjknaaDoor
open Go
open Cfb
theorem Yh_loadAll {P : Program} {E : World} {L : Fra} {H : Heap} {dst : Option Tmp} {ty : TypeId} {pos : String} {aft : Array Edge} {gd : Option (Nat × Bool)} {x : Operand} {t T : TypeId} {b k : Nat} {l : List Value} {fz : Nat × Nat} (hx : ev L x = some (.pointer (some ⟨b, 0, none⟩))) (ht : agOf P t = some k)
    (hm : (b, Obj.cells l.toArray T fz) ∈ H) (hv : l.length = k) : Yh P E L H ⟨dst, .load t x, ty, pos, aft, gd⟩ (.agg l.toArray) := by
  have h := Yh_loadA (E := E) (dst := dst) (ty := ty) (pos := pos) (aft := aft) (gd := gd) hx ht hm (by omega)
  rw [List.drop_zero, ← hv, List.take_length] at h
  exact h
set_option maxHeartbeats 4000000 in
theorem Typ_ct (t : Int) (s x : Value) : Ct Tryd.prog 51 [.agg [.int .i64 t, s, x].toArray] [] (fun v q => v = .int .i64 t ∧ q = []) := by
  refine Ct_of Tryd.func51 rfl Tryd.ntmps51 rfl ?_
  intro E F
  simp only [numL, List.nil_append, List.cons_append]
  refine CW_seq ?_
  refine CW_region ?_
  refine RW_fx rfl rfl rfl (Fx_box (zs := [.int .i64 t, s, x]) rfl rfl) ?_
  rintro _ _ ⟨b1, rfl, rfl⟩
  refine RW_a ?_
  refine RW_lv (ks := [1]) ?_
  refine CW_seq ?_
  refine CW_region ?_
  refine RW_l (Yl_field rfl fo_123_0) ?_
  refine RW_h (Yh_load (v := .int .i64 t) rfl sc_3 (by repeat (first | exact List.Mem.head _ | apply List.Mem.tail)) rfl) ?_
  refine RW_a ?_
  refine RW_lv (ks := [2]) ?_
  refine CW_ret ?_
  refine QW_dropB (e := (b1, _)) (by repeat (first | exact Rem.here _ _ | apply Rem.there)) ?_
  exact QW_ret1 rfl rfl [] ⟨rfl, rfl⟩ (Prm.nil _)
set_option maxHeartbeats 4000000 in
theorem code_err (t : Int) (s x : Value) (h0 : 0 ≤ t ∧ t ≤ 10) (hs : s.oneCell' = true) (hx : x.oneCell' = true) : Ct Tryd.prog 40 [.iface 123 (.agg [.int .i64 t, s, x].toArray)] [] (fun v q => v = .int .i64 (t + 1) ∧ q = []) := by
  refine Ct_of Tryd.func40 rfl Tryd.ntmps40 rfl ?_
  intro E F
  simp only [numL, List.nil_append, List.cons_append]
  refine CW_seq ?_
  refine CW_region ?_
  refine RW_a ?_
  refine RW_lv (ks := [0]) ?_
  refine CW_seq ?_
  refine CW_seq ?_
  refine CW_region ?_
  refine RW_m ?_
  refine RW_l (Yl_ifEq rfl if_105) ?_
  refine RW_lv (ks := [0, 6]) ?_
  refine CW_cond rfl (fun hc1 => ?_) (fun hc1 => ?_)
  · skip
    exact Bool.noConfusion hc1
  · skip
    refine (CW_skip (QW_lv (ks := [0]) ?_))
    refine CW_seq ?_
    refine CW_seq ?_
    refine CW_region ?_
    refine RW_m ?_
    refine RW_l (Yl_assertIs rfl co_123) ?_
    refine RW_m ?_
    refine RW_l (Yl_extract rfl rfl) ?_
    refine RW_l (Yl_extract rfl rfl) ?_
    refine RW_fx rfl rfl rfl (Fx_alloc (zs := zs_123) ze_123 rfl) ?_
    rintro _ _ ⟨b3, rfl, rfl⟩
    refine RW_fx0 rfl rfl (Fx_storeA (b := b3) (off := 0) (l := zs_123) (T := 123) (cs := [.int .i64 t, s, x]) rfl rfl sz_123 (by intro u hu; simp only [List.mem_cons, List.not_mem_nil, or_false] at hu; rcases hu with hu | hu | hu <;> rw [hu] <;> first | rfl | assumption) (by repeat (first | exact Rep.here _ _ _ | apply Rep.there)) (Nat.le_refl 3)) ?_
    rintro _ _ rfl
    refine RW_a ?_
    refine RW_lv (ks := [3, 4]) ?_
    refine CW_seq ?_
    rw [spl_full [.int .i64 t, s, x] zs_123 rfl]
    refine CW_region ?_
    refine RW_m ?_
    refine RW_lv (ks := [3, 12]) ?_
    refine CW_cond rfl (fun hc2 => ?_) (fun hc2 => ?_)
    · skip
      refine CW_seq ?_
      refine CW_region ?_
      refine RW_h (Yh_loadAll (b := b3) (k := 3) (T := 123) (fz := (0, 0)) (l := [.int .i64 t, s, x]) rfl ag_123 (by repeat (first | exact List.Mem.head _ | apply List.Mem.tail)) rfl) ?_
      have htyp := Typ_ct t s x
      refine RW_fx (R := fun v H'' => v = .int .i64 t ∧ H'' = (b3, blk [.int .i64 t, s, x] 123) :: F) rfl rfl rfl ?hfx ?_
      case hfx =>
        refine Fx_callQ (R := fun v => v = .int .i64 t) ok_51 (vs := [.agg [.int .i64 t, s, x].toArray]) ?_ (Pick.nil _) ?_
        · exact rfl
        · exact htyp
      rintro _ _ ⟨rfl, rfl⟩
      refine RW_l (Yl_add rfl rfl (wi64 (by omega) (by omega))) ?_
      refine RW_a ?_
      refine RW_lv (ks := [2]) ?_
      refine CW_ret ?_
      refine QW_ret_then ?_
      refine QW_dropB (e := (b3, _)) (by repeat (first | exact Rem.here _ _ | apply Rem.there)) ?_
      exact QW_ret1 rfl rfl [] ⟨rfl, rfl⟩ (Prm.nil _)
    · skip
      exact Bool.noConfusion hc2
theorem code_any (er : Value) (c : Nat) (h : (er = .nilIface ∧ c = 0) ∨ (∃ (m : ByteArray) (x : Int), er = .iface 123 (.agg [.int .i64 4, .string m, .int .i64 x].toArray) ∧ c = 5)) : Ct Tryd.prog 40 [er] [] (fun v q => v = nv c ∧ q = []) := by
  rcases h with ⟨rfl, rfl⟩ | ⟨m, x, rfl, rfl⟩
  · exact code_nil
  · exact code_err 4 (.string m) (.int .i64 x) (by omega) rfl rfl
end Go.Proofs.YtgoddcicbpjknaaDoor

/-! Three results. -/
set_option maxRecDepth 20000
namespace Go.Proofs.YtgoddcicbpjknaaDoor
open Go
open Cfb
theorem QW_ret3 {P : Program} {E : World} {n : Nat} {L : Fra} {H : Heap} {fn : Func} {t u s : Tmp} {F : Heap} {x y z : Value} {R : Value → Heap → Prop} (hr : fn.results = #[.tmp t, .tmp u, .tmp s]) (hx : look t L = some x) (hy : look u L = some y) (hz : look s L = some z) (post : Heap) (hR : R (.tuple #[x, y, z]) post) (hH : Prm H (post ++ F)) :
    QW E n L H .ret (bodyPost P fn (Done E F R)) := by
  intro a w hf hh
  refine ⟨hf.defers, _, ?_, _, post, rfl, hR, hh.perm hH.perm⟩
  rw [results_tmp3 hr]
  simp [hf.mem t x hx, hf.mem u y hy, hf.mem s z hz]
end Go.Proofs.YtgoddcicbpjknaaDoor

/-! Walks: a file is opened. -/
set_option maxRecDepth 20000
namespace Go.Proofs.YtgoddcicbpjknaaDoor
open Go
open Cfb
theorem hc5 {b : Bool} {er : Value} (h : (b = false ∧ er = .nilIface) ∨ (b = true ∧ ∃ (m : ByteArray) (x : Int), er = .iface 123 (.agg [.int .i64 4, .string m, .int .i64 x].toArray))) :
    (er = .nilIface ∧ (if b = true then 5 else 0) = 0) ∨ (∃ (m : ByteArray) (x : Int), er = .iface 123 (.agg [.int .i64 4, .string m, .int .i64 x].toArray) ∧ (if b = true then 5 else 0) = 5) := by
  rcases h with ⟨h1, h2⟩ | ⟨h1, m, x, h2⟩
  · left; refine ⟨h2, ?_⟩; rw [h1]; simp
  · right; refine ⟨m, x, h2, ?_⟩; rw [h1]; simp
set_option maxHeartbeats 4000000 in
theorem opened_ct (gI cI : Nat) (rI : List Value) (N ss ver sh nd nf dl ml nm num_ : Nat) (B : List UInt8) (ps : List Value) (T : TypeId) (sns : List Nat) (es : List En) (tn : List Tn) (mi : Option (List Nat × List Nat)) (h : FileIn ps B N ss ver sh nd nf dl ml nm num_ sns es tn mi) (hN1 : N ≤ 131072) (hT0 : 2 ≠ gI) :
    Ct Tryd.prog 31 [.slice (some ⟨gI, 0, none⟩) N cI] [(gI, blk (bys B ++ rI) 5), (2, blk ps T)] (fun v q => ∃ (R : Rdr) (er : Value), R.Ok es (STv tn) mi er ∧ R.B = B ∧ R.N = N ∧ R.ss = ss ∧ R.ps = ps ∧ R.T = T ∧ N ≤ R.cN ∧ (bys R.B ++ R.rB).length = R.cN ∧ v = .tuple #[if (STv tn).bad = true then .pointer none else pv R.br, pv R.bs, nv (if (STv tn).bad = true then 5 else 0)] ∧ q = (gI, blk (bys B ++ rI) 5) :: R.H) := by
  have hN5 := h.hN5
  have hBl := h.hB
  refine Ct_of Tryd.func31 rfl Tryd.ntmps31 rfl ?_
  intro E F
  simp only [numL, List.nil_append, List.cons_append]
  refine CW_seq ?_
  refine CW_region ?_
  refine RW_a ?_
  refine RW_a ?_
  refine RW_a ?_
  refine RW_lv (ks := [0]) ?_
  refine CW_seq ?_
  refine CW_seq ?_
  refine CW_region ?_
  refine RW_m ?_
  refine RW_l (Yl_len rfl sl_23) ?_
  refine RW_l (Yl_gtr rfl rfl) ?_
  refine RW_lv (ks := [0, 10]) ?_
  refine CW_cond rfl (fun hc1 => ?_) (fun hc1 => ?_)
  · replace hc1 := of_decide_eq_true hc1
    exfalso; omega
  · replace hc1 := of_decide_eq_false hc1
    refine (CW_skip (QW_lv (ks := [0]) ?_))
    refine CW_seq ?_
    refine CW_region ?_
    refine RW_m ?_
    refine RW_fx rfl rfl rfl (Fx_append_nil (z0 := .int .u8 0) (q := 1) rfl rfl sl_23 by_5 ze_5 rfl rfl (by repeat (first | exact List.Mem.head _ | apply List.Mem.tail)) (by simp; omega) (by omega) (by omega) (by omega)) ?_
    rintro _ _ ⟨bB, lB, cN, rfl, hcN, hlB, htk, rfl⟩
    obtain ⟨rB, hlB2⟩ : ∃ rB, lB = bys B ++ rB := by
      refine ⟨lB.drop N, ?_⟩
      have e1 : lB.take N = bys B := by
        have e2 : N = (bys B).length := by rw [List.length_map]; exact h.hB.symm
        rw [Nat.mul_one] at htk
        rw [htk, List.drop_zero, e2, List.take_left]
      rw [← e1, List.take_append_drop]
    rw [hlB2]
    refine RW_l (Yl_build (cs := [.slice (some ⟨bB, 0, none⟩) N cN]) pl_103 ze_103 rfl rfl) ?_
    refine RW_fx rfl rfl rfl (Fx_box (zs := [.slice (some ⟨bB, 0, none⟩) N cN]) rfl rfl) ?_
    rintro _ _ ⟨bs, rfl, rfl⟩
    refine RW_a ?_
    refine RW_lv (ks := [5]) ?_
    refine CW_seq ?_
    refine CW_region ?_
    refine RW_m ?_
    refine RW_l (Yl_iface rfl co_79) ?_
    refine RW_fx rfl rfl rfl (Fx_call ok_39 (vs := [.iface 79 (pv bs)]) rfl (by repeat (first | exact Pick.nil _ | apply Pick.cons | exact Rem.here _ _ | apply Rem.there)) (New_ct bs bB N cN ss ver sh nd nf dl ml nm num_ B rB ps T sns es tn mi h hcN)) ?_
    rintro _ _ ⟨_, ⟨R, er, hok, hRB, hRN, hRc, hRs, hRbs, hRbB, hRr, hRp, hRT, rfl, rfl⟩, rfl⟩
    refine RW_m ?_
    refine RW_l (Yl_extract rfl rfl) ?_
    refine RW_l (Yl_extract rfl rfl) ?_
    refine RW_a ?_
    refine RW_a ?_
    refine RW_lv (ks := [5, 6, 7]) ?_
    refine CW_seq ?_
    generalize STv tn = S at hok ⊢
    have hcode : Ct Tryd.prog 40 [er] [] (fun v q => v = nv (if S.bad = true then 5 else 0) ∧ q = []) := code_any er _ (hc5 hok.tok.err)
    have hprm : Prm (R.H ++ ((gI, blk (bys B ++ rI) 5) :: F)) ((gI, blk (bys B ++ rI) 5) :: R.H ++ F) := Prm.cons (rem_mid _ _ _) (Prm.nil _)
    refine CW_region ?_
    refine RW_m ?_
    refine RW_m ?_
    refine RW_m ?_
    refine RW_fx rfl rfl rfl (Fx_callQ ok_40 (vs := [er]) (R := fun v => v = nv (if S.bad = true then 5 else 0)) rfl (Pick.nil _) hcode) ?_
    rintro _ _ ⟨rfl, rfl⟩
    refine RW_a ?_
    refine RW_a ?_
    refine RW_a ?_
    refine RW_lv (ks := [2, 3, 4]) ?_
    refine CW_ret ?_
    exact QW_ret3 rfl rfl rfl rfl ((gI, blk (bys B ++ rI) 5) :: R.H) ⟨R, er, hok, hRB, hRN, hRs, hRp, hRT, by rw [hRc]; exact hcN, by rw [hRB, hRr, ← hlB2, hRc, hlB, Nat.mul_one], by rw [hRbs], rfl⟩ hprm
end Go.Proofs.YtgoddcicbpjknaaDoor

/-! 'append' onto a slice that may be nil, 'append' of nothing; a file among others. -/
set_option maxRecDepth 20000
namespace Go.Proofs.YtgoddcicbpjknaaDoor
open Go
open Cfb
/-- A slice that has a block, or none yet. -/
@[reducible] def osl (o : Option Nat) (n cap : Nat) : Value := match o with | none => .slice none 0 0 | some g => .slice (some ⟨g, 0, none⟩) n cap
@[reducible] def oH (o : Option Nat) (cs : List Value) (T : TypeId) : Heap := match o with | none => [] | some g => [(g, blk cs T)]
/-- What is known of it. -/
def oOk (o : Option Nat) (xs r : List Value) (n cap sz : Nat) : Prop := match o with | none => n = 0 ∧ xs = [] | some _ => (xs ++ r).length = cap * sz ∧ xs.length = n * sz
section
variable {P : Program} {E : World} {L : Fra} {H H' : Heap} {dst : Option Tmp} {ty : TypeId} {pos : String} {aft : Array Edge} {gd : Option (Nat × Bool)}
theorem Yl_append0 {x y : Operand} {t e : TypeId} {sz n cap c : Nat} {base p : Option Addr} (hx : ev L x = some (.slice base n cap)) (hy : ev L y = some (.slice p 0 c)) (ht : slOf P t = some (e, sz)) (hle : n ≤ cap) :
    Yl P L ⟨dst, .call ⟨.builtin .append, #[x, y], #[t, t]⟩, ty, pos, aft, gd⟩ (.slice base n cap) := by
  intro _ a w hf
  obtain ⟨inf, hu, hi, rfl⟩ := slOf_u ht
  simp only [execOp, resolve, invoke, builtin, hf.eval hx, hf.eval hy, List.map_toArray, List.map_cons, List.map_nil]
  cases base <;> cases p <;> simp [Builtin.append_, Builtin.lenOf, Builtin.firstCells, run_underlying hu, sizeOf, typeInfo, hi, hle, storeCells, loadCells, loadCellsFrom]
theorem perm_front (L A F : Heap) : (L ++ (A ++ F)).Perm (A ++ (L ++ F)) := by
  rw [← List.append_assoc, ← List.append_assoc]
  exact List.Perm.append_right F List.perm_append_comm
theorem Fx_appO {x y : Operand} {t e : TypeId} {sz by_ n cap bx m c : Nat} {o : Option Nat} {xs r news : List Value} {T : TypeId} {z z0 : Value} {q : Nat} {H1 R : Heap} (hx : ev L x = some (osl o n cap)) (hy : ev L y = some (.slice (some ⟨bx, 0, none⟩) m c))
    (ht : slOf P t = some (e, sz)) (hb : byOf P e = some by_) (hz : zeOf P e = some z) (hz0 : z.cells = (List.replicate q z0).toArray) (hq : q = sz)
    (hm : Rem H (bx, blk news T) H1) (hg : H1.Perm (oH o (xs ++ r) e ++ R)) (ho : oOk o xs r n cap sz)
    (hnews : news.length = m * sz) (h1 : ∀ u ∈ news, u.oneCell' = true) (hsz : 0 < sz) (h0 : 0 < m) (h48 : (n + m) * by_ ≤ 140737488355328) (h63 : n + m ≤ 9223372036854775807) :
    Fx P E L H ⟨dst, .call ⟨.builtin .append, #[x, y], #[t, t]⟩, ty, pos, aft, gd⟩
      (fun v H'' => ∃ g' cap' r', v = osl (some g') (n + m) cap' ∧ oOk (some g') (xs ++ news) r' (n + m) cap' sz ∧ H'' = (g', blk ((xs ++ news) ++ r') e) :: R) := by
  cases o with
  | some g =>
    obtain ⟨hl, hxs⟩ := ho
    intro nn a w next Q hf hh k
    have hh2 : HA E w ((bx, blk news T) :: (g, blk (xs ++ r) e) :: R) := hh.perm (hm.perm.trans (hg.cons _))
    refine Fx_appT (P := P) (H1 := (g, blk (xs ++ r) e) :: R) hx hy ht hb hz hz0 hq (.here _ _) (.here _ _) hl hxs hnews h1 hsz h48 h63 nn a w next Q hf hh2 ?_
    rintro v w' H'' ⟨g', cap', r', rfl, h2, rfl⟩ hh'
    exact k _ w' _ ⟨g', cap', r', rfl, ⟨h2, by rw [List.length_append, hxs, hnews, Nat.add_mul]⟩, rfl⟩ hh'
  | none =>
    obtain ⟨rfl, rfl⟩ := ho
    intro nn a w next Q hf hh k
    have hh2 : HA E w ((bx, blk news T) :: R) := hh.perm (hm.perm.trans (hg.cons _))
    refine Fx_append_nil (P := P) (lx := news) (offx := 0) hx hy ht hb hz hz0 hq (List.mem_cons_self ..) (by rw [hnews]; omega) h0 (by rw [Nat.zero_add] at h48; omega) (by omega) nn a w next Q hf hh2 ?_
    rintro v w' H'' ⟨g', l', cap', rfl, hle, hl', htk, rfl⟩ hh'
    rw [List.drop_zero, ← hnews, List.take_length, hnews] at htk
    have e2 : l' = ([] ++ news) ++ l'.drop (m * sz) := by rw [List.nil_append, ← htk, List.take_append_drop]
    refine k _ w' ((g', blk (([] ++ news) ++ l'.drop (m * sz)) e) :: R) ⟨g', cap', l'.drop (m * sz), by rw [Nat.zero_add], ⟨by rw [← e2]; exact hl', by rw [List.nil_append, hnews, Nat.zero_add]⟩, rfl⟩ ?_
    rw [← e2]
    exact hh'.sub (.cons_cons _ (List.sublist_cons_self _ _))
end
/-- A file among others, and what is left. -/
theorem filsH_split {br : Nat} : ∀ {fs : List Fil} {k : Nat} {f : Fil}, fs[k]? = some f → ∃ G, (filsH br fs).Perm (enB br f.bf f.bd f.en :: (f.bd, blk f.en.dc 112) :: G) := by
  intro fs
  induction fs with
  | nil => intro k f h; simp at h
  | cons x r ih =>
    intro k f h
    cases k with
    | zero => simp at h; subst h; exact ⟨filsH br r, .refl _⟩
    | succ k =>
      simp at h
      obtain ⟨G, hG⟩ := ih h
      refine ⟨enB br x.bf x.bd x.en :: (x.bd, blk x.en.dc 112) :: G, ?_⟩
      simp only [filsH]
      refine ((hG.cons _).cons _).trans ?_
      exact List.perm_append_comm (l₁ := [enB br x.bf x.bd x.en, (x.bd, blk x.en.dc 112)]) (l₂ := [enB br f.bf f.bd f.en, (f.bd, blk f.en.dc 112)]) |>.append_right G
/-- The same of paths. -/
theorem psH_split {b : Nat} {ns : List (List UInt8)} : ∀ {ps : List (Nat × List (List UInt8))}, (b, ns) ∈ ps → ∃ G, (psH ps).Perm ((b, blk (strs ns) 9) :: G) := by
  intro ps
  induction ps with
  | nil => intro h; cases h
  | cons x r ih =>
    intro h
    rcases List.mem_cons.1 h with rfl | h
    · exact ⟨psH r, .refl _⟩
    · obtain ⟨G, hG⟩ := ih h
      refine ⟨(x.1, blk (strs x.2) 9) :: G, ?_⟩
      simp only [psH]
      exact (hG.cons _).trans (.swap _ _ _)
end Go.Proofs.YtgoddcicbpjknaaDoor

/-! Walks: what a file tells. -/
set_option maxRecDepth 20000
namespace Go.Proofs.YtgoddcicbpjknaaDoor
open Go
open Cfb
set_option maxHeartbeats 4000000 in
theorem ZZType_ct (bf bd br cur ini : Nat) (nm : List UInt8) (path : Value) (size i rem : Int) (dc : List Value) (ot : UInt8) (h33 : dc[33]? = some (bv ot)) :
    Ct Tryd.prog 32 [pv bf] [(bf, blk (fiF nm ini path size i cur rem bd br) 93), (bd, blk dc 112)] (fun v q => v = nv ot.toNat ∧ q = [(bf, blk (fiF nm ini path size i cur rem bd br) 93), (bd, blk dc 112)]) := by
  refine Ct_of Tryd.func32 rfl Tryd.ntmps32 rfl ?_
  intro E F
  simp only [numL, List.nil_append, List.cons_append]
  refine CW_seq ?_
  refine CW_region ?_
  refine RW_a ?_
  refine RW_lv (ks := [0]) ?_
  refine CW_seq ?_
  refine CW_region ?_
  refine RW_m ?_
  refine RW_l (Yl_nilCheck rfl) ?_
  refine RW_l (Yl_field rfl fo_93_7) ?_
  refine RW_h (Yh_load (v := pv bd) rfl sc_91 (by repeat (first | exact List.Mem.head _ | apply List.Mem.tail)) rfl) ?_
  refine RW_l (Yl_nilCheck rfl) ?_
  refine RW_l (Yl_field rfl fo_112_2) ?_
  refine RW_h (Yh_load (v := bv ot) rfl sc_5 (by repeat (first | exact List.Mem.head _ | apply List.Mem.tail)) h33) ?_
  refine RW_l (Yl_conv (c := ((ot.toNat : Nat) : Int)) rfl in_5 in_3 (wi64 (by have := ot.toNat_lt; omega) (by have := ot.toNat_lt; omega))) ?_
  refine RW_a ?_
  refine RW_lv (ks := [2]) ?_
  refine CW_ret ?_
  exact QW_ret1 rfl rfl [_, _] ⟨rfl, rfl⟩ (by repeat (first | exact Prm.nil _ | exact Rem.here _ _ | apply Rem.there | apply Prm.cons))
set_option maxHeartbeats 4000000 in
theorem Created_ct (bf bd br cur ini : Nat) (nm : List UInt8) (path : Value) (size i rem : Int) (dc : List Value) (x : Value) (hx : dc[58]? = some x) :
    Ct Tryd.prog 35 [pv bf] [(bf, blk (fiF nm ini path size i cur rem bd br) 93), (bd, blk dc 112)] (fun v q => v = x ∧ q = [(bf, blk (fiF nm ini path size i cur rem bd br) 93), (bd, blk dc 112)]) := by
  refine Ct_of Tryd.func35 rfl Tryd.ntmps35 rfl ?_
  intro E F
  simp only [numL, List.nil_append, List.cons_append]
  refine CW_seq ?_
  refine CW_region ?_
  refine RW_a ?_
  refine RW_lv (ks := [0]) ?_
  refine CW_seq ?_
  refine CW_region ?_
  refine RW_m ?_
  refine RW_l (Yl_nilCheck rfl) ?_
  refine RW_l (Yl_field rfl fo_93_7) ?_
  refine RW_h (Yh_load (v := pv bd) rfl sc_91 (by repeat (first | exact List.Mem.head _ | apply List.Mem.tail)) rfl) ?_
  refine RW_l (Yl_nilCheck rfl) ?_
  refine RW_l (Yl_field rfl fo_112_9) ?_
  refine RW_h (Yh_load (v := x) rfl sc_98 (by repeat (first | exact List.Mem.head _ | apply List.Mem.tail)) hx) ?_
  refine RW_a ?_
  refine RW_lv (ks := [2]) ?_
  refine CW_ret ?_
  exact QW_ret1 rfl rfl [_, _] ⟨rfl, rfl⟩ (by repeat (first | exact Prm.nil _ | exact Rem.here _ _ | apply Rem.there | apply Prm.cons))
set_option maxHeartbeats 4000000 in
theorem Modified_ct (bf bd br cur ini : Nat) (nm : List UInt8) (path : Value) (size i rem : Int) (dc : List Value) (x : Value) (hx : dc[59]? = some x) :
    Ct Tryd.prog 36 [pv bf] [(bf, blk (fiF nm ini path size i cur rem bd br) 93), (bd, blk dc 112)] (fun v q => v = x ∧ q = [(bf, blk (fiF nm ini path size i cur rem bd br) 93), (bd, blk dc 112)]) := by
  refine Ct_of Tryd.func36 rfl Tryd.ntmps36 rfl ?_
  intro E F
  simp only [numL, List.nil_append, List.cons_append]
  refine CW_seq ?_
  refine CW_region ?_
  refine RW_a ?_
  refine RW_lv (ks := [0]) ?_
  refine CW_seq ?_
  refine CW_region ?_
  refine RW_m ?_
  refine RW_l (Yl_nilCheck rfl) ?_
  refine RW_l (Yl_field rfl fo_93_7) ?_
  refine RW_h (Yh_load (v := pv bd) rfl sc_91 (by repeat (first | exact List.Mem.head _ | apply List.Mem.tail)) rfl) ?_
  refine RW_l (Yl_nilCheck rfl) ?_
  refine RW_l (Yl_field rfl fo_112_10) ?_
  refine RW_h (Yh_load (v := x) rfl sc_98 (by repeat (first | exact List.Mem.head _ | apply List.Mem.tail)) hx) ?_
  refine RW_a ?_
  refine RW_lv (ks := [2]) ?_
  refine CW_ret ?_
  exact QW_ret1 rfl rfl [_, _] ⟨rfl, rfl⟩ (by repeat (first | exact Prm.nil _ | exact Rem.here _ _ | apply Rem.there | apply Prm.cons))
set_option maxHeartbeats 4000000 in
theorem ID_ct (bf bd br cur ini : Nat) (nm : List UInt8) (path : Value) (size i rem : Int) (dc : List Value) (hdl : dc.length = 69) (hone : ∀ u ∈ dc, u.oneCell' = true) :
    Ct Tryd.prog 33 [pv bf] [(bf, blk (fiF nm ini path size i cur rem bd br) 93), (bd, blk dc 112)] (fun v q => v = .agg ((dc.drop 38).take 16).toArray ∧ q = [(bf, blk (fiF nm ini path size i cur rem bd br) 93), (bd, blk dc 112)]) := by
  have hlen : ((dc.drop 38).take 16).length = 16 := by simp; omega
  refine Ct_of Tryd.func33 rfl Tryd.ntmps33 rfl ?_
  intro E F
  simp only [numL, List.nil_append, List.cons_append]
  refine CW_seq ?_
  refine CW_region ?_
  refine RW_fx rfl rfl rfl (Fx_alloc (zs := zs_95) ze_95 rfl) ?_
  rintro _ _ ⟨b2, rfl, rfl⟩
  refine RW_lv (ks := [0, 2]) ?_
  refine CW_seq ?_
  refine CW_region ?_
  refine RW_m ?_
  refine RW_l (Yl_nilCheck rfl) ?_
  refine RW_l (Yl_field rfl fo_93_7) ?_
  refine RW_h (Yh_load (v := pv bd) rfl sc_91 (by repeat (first | exact List.Mem.head _ | apply List.Mem.tail)) rfl) ?_
  refine RW_l (Yl_nilCheck rfl) ?_
  refine RW_l (Yl_field rfl fo_112_7) ?_
  refine RW_h (Yh_loadA (b := bd) (off := 38) (k := 16) (l := dc) (T := 112) (fz := (0, 0)) rfl ag_95 (by repeat (first | exact List.Mem.head _ | apply List.Mem.tail)) (by omega)) ?_
  refine RW_fx0 rfl rfl (Fx_storeA (b := b2) (off := 0) (l := zs_95) (T := 95) (cs := (dc.drop 38).take 16) rfl rfl (by rw [hlen]; exact sz_95) (one_take hone 38 16) (by repeat (first | exact Rep.here _ _ _ | apply Rep.there)) (by rw [hlen]; exact Nat.le_refl _)) ?_
  rintro _ _ rfl
  refine RW_lv (ks := [2]) ?_
  refine CW_ret ?_
  have e1 : spl 0 ((dc.drop 38).take 16) zs_95 = (dc.drop 38).take 16 := spl_full _ _ (by rw [hlen]; rfl)
  rw [e1]
  exact QW_retC rfl rfl (List.Mem.head _) (by rw [hlen]; exact ag_95) [_, _] ⟨rfl, rfl⟩ (fun w hh => HA_dropB (.here _ _) hh)
set_option maxHeartbeats 4000000 in
theorem ZZState_ct (bf bd br cur ini : Nat) (nm : List UInt8) (path : Value) (size i rem : Int) (dc : List Value) (hdl : dc.length = 69) (hone : ∀ u ∈ dc, u.oneCell' = true) :
    Ct Tryd.prog 34 [pv bf] [(bf, blk (fiF nm ini path size i cur rem bd br) 93), (bd, blk dc 112)] (fun v q => v = .agg ((dc.drop 54).take 4).toArray ∧ q = [(bf, blk (fiF nm ini path size i cur rem bd br) 93), (bd, blk dc 112)]) := by
  have hlen : ((dc.drop 54).take 4).length = 4 := by simp; omega
  refine Ct_of Tryd.func34 rfl Tryd.ntmps34 rfl ?_
  intro E F
  simp only [numL, List.nil_append, List.cons_append]
  refine CW_seq ?_
  refine CW_region ?_
  refine RW_fx rfl rfl rfl (Fx_alloc (zs := zs_38) ze_38 rfl) ?_
  rintro _ _ ⟨b2, rfl, rfl⟩
  refine RW_lv (ks := [0, 2]) ?_
  refine CW_seq ?_
  refine CW_region ?_
  refine RW_m ?_
  refine RW_l (Yl_nilCheck rfl) ?_
  refine RW_l (Yl_field rfl fo_93_7) ?_
  refine RW_h (Yh_load (v := pv bd) rfl sc_91 (by repeat (first | exact List.Mem.head _ | apply List.Mem.tail)) rfl) ?_
  refine RW_l (Yl_nilCheck rfl) ?_
  refine RW_l (Yl_field rfl fo_112_8) ?_
  refine RW_h (Yh_loadA (b := bd) (off := 54) (k := 4) (l := dc) (T := 112) (fz := (0, 0)) rfl ag_38 (by repeat (first | exact List.Mem.head _ | apply List.Mem.tail)) (by omega)) ?_
  refine RW_fx0 rfl rfl (Fx_storeA (b := b2) (off := 0) (l := zs_38) (T := 38) (cs := (dc.drop 54).take 4) rfl rfl (by rw [hlen]; exact sz_38) (one_take hone 54 4) (by repeat (first | exact Rep.here _ _ _ | apply Rep.there)) (by rw [hlen]; exact Nat.le_refl _)) ?_
  rintro _ _ rfl
  refine RW_lv (ks := [2]) ?_
  refine CW_ret ?_
  have e1 : spl 0 ((dc.drop 54).take 4) zs_38 = (dc.drop 54).take 4 := spl_full _ _ (by rw [hlen]; rfl)
  rw [e1]
  exact QW_retC rfl rfl (List.Mem.head _) (by rw [hlen]; exact ag_38) [_, _] ⟨rfl, rfl⟩ (fun w hh => HA_dropB (.here _ _) hh)
end Go.Proofs.YtgoddcicbpjknaaDoor

/-! 'append' of elements of many cells; structs that are built. -/
set_option maxRecDepth 20000
namespace Go.Proofs.YtgoddcicbpjknaaDoor
open Go
open Cfb
section
variable {P : Program} {E : World} {L : Fra} {H H' : Heap} {dst : Option Tmp} {ty : TypeId} {pos : String} {aft : Array Edge} {gd : Option (Nat × Bool)}
theorem Fx_append_nilG {x y : Operand} {t e : TypeId} {sz by_ bx offx m c : Nat} {lx : List Value} {T : TypeId} {fz : Nat × Nat} {z : Value} (hx : ev L x = some (.slice none 0 0)) (hy : ev L y = some (.slice (some ⟨bx, offx, none⟩) m c))
    (ht : slOf P t = some (e, sz)) (hb : byOf P e = some by_) (hz : zeOf P e = some z) (hz0 : z.cells.size = sz)
    (hm : (bx, Obj.cells lx.toArray T fz) ∈ H) (hfit : offx + m * sz ≤ lx.length) (h0 : 0 < m) (h48 : m * by_ ≤ 281474976710656) (h63 : m ≤ 9223372036854775807) :
    Fx P E L H ⟨dst, .call ⟨.builtin .append, #[x, y], #[t, t]⟩, ty, pos, aft, gd⟩
      (fun v H'' => ∃ g' l' cap', v = .slice (some ⟨g', 0, none⟩) m cap' ∧ m ≤ cap' ∧ l'.length = cap' * sz ∧ l'.take (m * sz) = (lx.drop offx).take (m * sz) ∧ H'' = (g', blk l' e) :: H) := by
  intro _ a w next Q hf hh k
  obtain ⟨inf, hu, hi, rfl⟩ := slOf_u ht
  unfold zeOf at hz
  simp only [Option.bind_eq_some_iff] at hz
  obtain ⟨i2, hi2, hz'⟩ := hz
  rw [hi] at hi2; cases hi2
  simp only [byOf, hi, Option.map_some, Option.some.injEq] at hb
  subst hb
  have hlen : ((lx.drop offx).take (m * inf.size)).length = m * inf.size := by simp; omega
  have hr := run_append_nil (P := P) w t ty e inf z hu hi hz' ⟨bx, offx, none⟩ m c _ hlen (hh.cellsAt hm) h0 (by omega) h48
  have hge := grownCap_ge w m 0 e
  have hrun : (execOp a.eval ⟨dst, .call ⟨.builtin .append, #[x, y], #[t, t]⟩, ty, pos, aft, gd⟩).run P w = .ok (.value (.slice (some ⟨w.heap.size, 0, none⟩) m (grownCap w m 0 e)))
      (w.drew.alloc (.cells (((lx.drop offx).take (m * inf.size)).toArray ++ Builtin.zeroCells z.cells (grownCap w m 0 e - m)) e)) := by
    simp only [execOp, resolve, invoke, builtin, hf.eval hx, hf.eval hy, List.map_toArray, List.map_cons, List.map_nil]
    simp [hr]
  simp only [Oper.wp, hrun, Oper.upon]
  refine k _ _ _ ⟨w.heap.size, ((lx.drop offx).take (m * inf.size)) ++ (Builtin.zeroCells z.cells (grownCap w m 0 e - m)).toList, _, rfl, hge, ?_, ?_, rfl⟩ ?_
  · have hs : z.cells.size = inf.size := hz0
    simp only [List.length_append, hlen, Array.length_toList, size_zeroCells, hs, ← Nat.add_mul]
    congr 1; omega
  · rw [List.take_append_of_le_length (by rw [hlen]; exact Nat.le_refl _), List.take_of_length_le (by rw [hlen]; exact Nat.le_refl _)]
  · have := (hh.drew).alloc (.cells (((lx.drop offx).take (m * inf.size)).toArray ++ Builtin.zeroCells z.cells (grownCap w m 0 e - m)) e)
    have e1 : ∀ (l : List Value) (A : Array Value), l.toArray ++ A = (l ++ A.toList).toArray := by intro l A; simp
    rw [e1] at this ⊢
    exact this
theorem Fx_appendG {x y : Operand} {t e : TypeId} {sz by_ g n cap bx offx m c : Nat} {l lx : List Value} {T : TypeId} {fz : Nat × Nat} {z : Value} {R : Heap} (hx : ev L x = some (.slice (some ⟨g, 0, none⟩) n cap)) (hy : ev L y = some (.slice (some ⟨bx, offx, none⟩) m c))
    (ht : slOf P t = some (e, sz)) (hb : byOf P e = some by_) (hz : zeOf P e = some z) (hz0 : z.cells.size = sz)
    (hg : Rem H (g, blk l e) R) (hl : l.length = cap * sz) (hn : n ≤ cap)
    (hm : (bx, Obj.cells lx.toArray T fz) ∈ H) (hfit : offx + m * sz ≤ lx.length) (h1 : ∀ u ∈ (lx.drop offx).take (m * sz), u.oneCell' = true) (h48 : (n + m) * by_ ≤ 140737488355328) (h63 : n + m ≤ 9223372036854775807) :
    Fx P E L H ⟨dst, .call ⟨.builtin .append, #[x, y], #[t, t]⟩, ty, pos, aft, gd⟩
      (fun v H'' => ∃ g' l' cap', v = .slice (some ⟨g', 0, none⟩) (n + m) cap' ∧ n + m ≤ cap' ∧ l'.length = cap' * sz ∧ l'.take ((n + m) * sz) = l.take (n * sz) ++ (lx.drop offx).take (m * sz) ∧ H'' = (g', blk l' e) :: R) := by
  intro _ a w next Q hf hh k
  obtain ⟨inf, hu, hi, rfl⟩ := slOf_u ht
  unfold zeOf at hz
  simp only [Option.bind_eq_some_iff] at hz
  obtain ⟨i2, hi2, hz'⟩ := hz
  rw [hi] at hi2; cases hi2
  simp only [byOf, hi, Option.map_some, Option.some.injEq] at hb
  subst hb
  have hlen : ((lx.drop offx).take (m * inf.size)).length = m * inf.size := by simp; omega
  have hR := hh.perm hg.perm
  have hheap := hh.mem _ hg.mem
  have hnl : n * inf.size ≤ l.length := by rw [hl]; exact Nat.mul_le_mul_right _ hn
  by_cases hroom : n + m ≤ cap
  · have hfit2 : n * inf.size + ((lx.drop offx).take (m * inf.size)).length ≤ l.toArray.size := by
      rw [hlen, ← Nat.add_mul]; simp only [List.size_toArray, hl]; exact Nat.mul_le_mul_right _ hroom
    have hr := run_append_room (P := P) w t ty e inf hu hi g n cap l.toArray hheap ⟨bx, offx, none⟩ m c _ hlen (hh.cellsAt hm) h1 hroom hfit2
    have hrun : (execOp a.eval ⟨dst, .call ⟨.builtin .append, #[x, y], #[t, t]⟩, ty, pos, aft, gd⟩).run P w = .ok (.value (.slice (some ⟨g, 0, none⟩) (n + m) cap))
        (w.setRow g (l.take (n * inf.size) ++ (lx.drop offx).take (m * inf.size) ++ l.drop (n * inf.size + ((lx.drop offx).take (m * inf.size)).length)).toArray) := by
      simp only [execOp, resolve, invoke, builtin, hf.eval hx, hf.eval hy, List.map_toArray, List.map_cons, List.map_nil]
      simp [hr]
    simp only [Oper.wp, hrun, Oper.upon]
    refine k _ _ _ ⟨g, l.take (n * inf.size) ++ (lx.drop offx).take (m * inf.size) ++ l.drop (n * inf.size + ((lx.drop offx).take (m * inf.size)).length), cap, rfl, hroom, ?_, ?_, rfl⟩ ?_
    · simp only [List.length_append, List.length_take, List.length_drop, hlen]
      simp only [List.length_drop, hl] at *
      have := Nat.mul_le_mul_right inf.size hroom
      rw [Nat.add_mul] at this
      omega
    · have h3 : (l.take (n * inf.size)).length = n * inf.size := by simp; omega
      rw [List.take_append_of_le_length (by simp only [List.length_append, h3, hlen, Nat.add_mul]; exact Nat.le_refl _), List.take_of_length_le (by simp only [List.length_append, h3, hlen, Nat.add_mul]; exact Nat.le_refl _)]
    · refine ⟨hR.os, hR.tape, hR.output, hR.nodup, ?_, by have := hR.size; simpa [World.setRow] using this, ?_⟩
      rotate_left
      · intro b' o' hb' ho'
        by_cases e3 : b' = g
        · subst e3
          rw [setRow_heap w b' l.toArray _ e _ hheap] at ho'
          cases ho'; rfl
        · rw [setRow_other w g b' _ e3] at ho'
          exact hR.fresh b' o' hb' ho'
      intro p hp
      rcases List.mem_cons.1 hp with rfl | hp
      · exact setRow_heap w g l.toArray _ e _ hheap
      · have hne : p.1 ≠ g := by
          have := hR.nodup
          simp only [List.map_cons, List.nodup_cons] at this
          intro e
          exact this.1 (e ▸ List.mem_map_of_mem hp)
        rw [setRow_other w g p.1 _ hne]
        exact hR.mem p (List.mem_cons_of_mem _ hp)
  · have holds : ∀ j u, (l.take (n * inf.size))[j]? = some u → w.cell? ((⟨g, 0, none⟩ : Addr).add j) = some u := by
      have := hh.cellsAt hg.mem (offx := 0) (k := n * inf.size)
      simpa using this
    have hlo : (l.take (n * inf.size)).length = n * inf.size := by simp; omega
    have hr := run_append_grow (P := P) w t ty e inf z hu hi hz' ⟨g, 0, none⟩ n cap (l.take (n * inf.size)) hlo holds ⟨bx, offx, none⟩ m c _ hlen (hh.cellsAt hm) (by omega) (by omega) (growslice_fits (by omega) h48)
    have hge := grownCap_ge w (n + m) cap e
    have hrun : (execOp a.eval ⟨dst, .call ⟨.builtin .append, #[x, y], #[t, t]⟩, ty, pos, aft, gd⟩).run P w = .ok (.value (.slice (some ⟨w.heap.size, 0, none⟩) (n + m) (grownCap w (n + m) cap e)))
        (w.drew.alloc (.cells ((l.take (n * inf.size)).toArray ++ ((lx.drop offx).take (m * inf.size)).toArray ++ Builtin.zeroCells z.cells (grownCap w (n + m) cap e - (n + m))) e)) := by
      simp only [execOp, resolve, invoke, builtin, hf.eval hx, hf.eval hy, List.map_toArray, List.map_cons, List.map_nil]
      simp [hr]
    simp only [Oper.wp, hrun, Oper.upon]
    refine k _ _ _ ⟨w.heap.size, l.take (n * inf.size) ++ (lx.drop offx).take (m * inf.size) ++ (Builtin.zeroCells z.cells (grownCap w (n + m) cap e - (n + m))).toList, _, rfl, hge, ?_, ?_, rfl⟩ ?_
    · have hs : z.cells.size = inf.size := hz0
      simp only [List.length_append, hlo, hlen, Array.length_toList, size_zeroCells, hs, ← Nat.add_mul]
      congr 1; omega
    · rw [List.take_append_of_le_length (by simp only [List.length_append, hlo, hlen, Nat.add_mul]; exact Nat.le_refl _), List.take_of_length_le (by simp only [List.length_append, hlo, hlen, Nat.add_mul]; exact Nat.le_refl _)]
    · have h2 : HA E w R := hR.sub (List.sublist_cons_self _ _)
      have := (h2.drew).alloc (.cells ((l.take (n * inf.size)).toArray ++ ((lx.drop offx).take (m * inf.size)).toArray ++ Builtin.zeroCells z.cells (grownCap w (n + m) cap e - (n + m))) e)
      have e1 : ∀ (l l2 : List Value) (A : Array Value), l.toArray ++ l2.toArray ++ A = (l ++ l2 ++ A.toList).toArray := by intro l l2 A; simp
      rw [e1] at this ⊢
      exact this
theorem Fx_appG {x y : Operand} {t e : TypeId} {sz by_ g n cap bx offx m c : Nat} {xs r news lx : List Value} {T : TypeId} {fz : Nat × Nat} {z : Value} {R : Heap} (hx : ev L x = some (.slice (some ⟨g, 0, none⟩) n cap)) (hy : ev L y = some (.slice (some ⟨bx, offx, none⟩) m c))
    (ht : slOf P t = some (e, sz)) (hb : byOf P e = some by_) (hz : zeOf P e = some z) (hz0 : z.cells.size = sz)
    (hm : (bx, Obj.cells lx.toArray T fz) ∈ H) (hg : Rem H (g, blk (xs ++ r) e) R) (hl : (xs ++ r).length = cap * sz) (hxs : xs.length = n * sz)
    (hnews : (lx.drop offx).take (m * sz) = news) (hfit : offx + m * sz ≤ lx.length) (h1 : ∀ u ∈ news, u.oneCell' = true) (hsz : 0 < sz) (h48 : (n + m) * by_ ≤ 140737488355328) (h63 : n + m ≤ 9223372036854775807) :
    Fx P E L H ⟨dst, .call ⟨.builtin .append, #[x, y], #[t, t]⟩, ty, pos, aft, gd⟩
      (fun v H'' => ∃ g' cap' r', v = .slice (some ⟨g', 0, none⟩) (n + m) cap' ∧ ((xs ++ news) ++ r').length = cap' * sz ∧ H'' = (g', blk ((xs ++ news) ++ r') e) :: R) := by
  subst hnews
  have hn : n ≤ cap := by
    have : n * sz ≤ cap * sz := by rw [← hl, ← hxs]; simp
    exact Nat.le_of_mul_le_mul_right this hsz
  refine (Fx_appendG hx hy ht hb hz hz0 hg hl hn hm hfit h1 h48 h63).weak ?_
  rintro v H'' ⟨g', l', cap', rfl, _, hl', htk, rfl⟩
  have e1 : (xs ++ r).take (n * sz) = xs := by rw [← hxs]; exact List.take_left
  rw [e1] at htk
  have e2 : l' = (xs ++ (lx.drop offx).take (m * sz)) ++ l'.drop ((n + m) * sz) := by rw [← htk, List.take_append_drop]
  exact ⟨g', cap', l'.drop ((n + m) * sz), rfl, by rw [← e2]; exact hl', by rw [← e2]⟩
theorem Fx_appTG {x y : Operand} {t e : TypeId} {sz by_ g n cap bx m c : Nat} {xs r news : List Value} {T : TypeId} {z : Value} {H1 R : Heap} (hx : ev L x = some (.slice (some ⟨g, 0, none⟩) n cap)) (hy : ev L y = some (.slice (some ⟨bx, 0, none⟩) m c))
    (ht : slOf P t = some (e, sz)) (hb : byOf P e = some by_) (hz : zeOf P e = some z) (hz0 : z.cells.size = sz)
    (hm : Rem H (bx, blk news T) H1) (hg : Rem H1 (g, blk (xs ++ r) e) R) (hl : (xs ++ r).length = cap * sz) (hxs : xs.length = n * sz)
    (hnews : news.length = m * sz) (h1 : ∀ u ∈ news, u.oneCell' = true) (hsz : 0 < sz) (h48 : (n + m) * by_ ≤ 140737488355328) (h63 : n + m ≤ 9223372036854775807) :
    Fx P E L H ⟨dst, .call ⟨.builtin .append, #[x, y], #[t, t]⟩, ty, pos, aft, gd⟩
      (fun v H'' => ∃ g' cap' r', v = .slice (some ⟨g', 0, none⟩) (n + m) cap' ∧ ((xs ++ news) ++ r').length = cap' * sz ∧ H'' = (g', blk ((xs ++ news) ++ r') e) :: R) := by
  refine Fx.less hm ?_
  intro nn a w next Q hf hh k
  refine Fx_appG (news := news) hx hy ht hb hz hz0 (List.mem_cons_self ..) (.there _ hg) hl hxs (by rw [List.drop_zero, ← hnews, List.take_length]) (by rw [← hnews]; omega) h1 hsz h48 h63 nn a w next Q hf hh ?_
  rintro v w' H'' ⟨g', cap', r', rfl, h2, rfl⟩ hh'
  exact k _ w' _ ⟨g', cap', r', rfl, h2, rfl⟩ (hh'.sub (.cons_cons _ (List.sublist_cons_self _ _)))
theorem Fx_appOG {x y : Operand} {t e : TypeId} {sz by_ n cap bx m c : Nat} {o : Option Nat} {xs r news : List Value} {T : TypeId} {z : Value} {H1 R : Heap} (hx : ev L x = some (osl o n cap)) (hy : ev L y = some (.slice (some ⟨bx, 0, none⟩) m c))
    (ht : slOf P t = some (e, sz)) (hb : byOf P e = some by_) (hz : zeOf P e = some z) (hz0 : z.cells.size = sz)
    (hm : Rem H (bx, blk news T) H1) (hg : H1.Perm (oH o (xs ++ r) e ++ R)) (ho : oOk o xs r n cap sz)
    (hnews : news.length = m * sz) (h1 : ∀ u ∈ news, u.oneCell' = true) (hsz : 0 < sz) (h0 : 0 < m) (h48 : (n + m) * by_ ≤ 140737488355328) (h63 : n + m ≤ 9223372036854775807) :
    Fx P E L H ⟨dst, .call ⟨.builtin .append, #[x, y], #[t, t]⟩, ty, pos, aft, gd⟩
      (fun v H'' => ∃ g' cap' r', v = osl (some g') (n + m) cap' ∧ oOk (some g') (xs ++ news) r' (n + m) cap' sz ∧ H'' = (g', blk ((xs ++ news) ++ r') e) :: R) := by
  cases o with
  | some g =>
    obtain ⟨hl, hxs⟩ := ho
    intro nn a w next Q hf hh k
    have hh2 : HA E w ((bx, blk news T) :: (g, blk (xs ++ r) e) :: R) := hh.perm (hm.perm.trans (hg.cons _))
    refine Fx_appTG (P := P) (H1 := (g, blk (xs ++ r) e) :: R) hx hy ht hb hz hz0 (.here _ _) (.here _ _) hl hxs hnews h1 hsz h48 h63 nn a w next Q hf hh2 ?_
    rintro v w' H'' ⟨g', cap', r', rfl, h2, rfl⟩ hh'
    exact k _ w' _ ⟨g', cap', r', rfl, ⟨h2, by rw [List.length_append, hxs, hnews, Nat.add_mul]⟩, rfl⟩ hh'
  | none =>
    obtain ⟨rfl, rfl⟩ := ho
    intro nn a w next Q hf hh k
    have hh2 : HA E w ((bx, blk news T) :: R) := hh.perm (hm.perm.trans (hg.cons _))
    refine Fx_append_nilG (P := P) (lx := news) (offx := 0) hx hy ht hb hz hz0 (List.mem_cons_self ..) (by rw [hnews]; omega) h0 (by rw [Nat.zero_add] at h48; omega) (by omega) nn a w next Q hf hh2 ?_
    rintro v w' H'' ⟨g', l', cap', rfl, hle, hl', htk, rfl⟩ hh'
    rw [List.drop_zero, ← hnews, List.take_length, hnews] at htk
    have e2 : l' = ([] ++ news) ++ l'.drop (m * sz) := by rw [List.nil_append, ← htk, List.take_append_drop]
    refine k _ w' ((g', blk (([] ++ news) ++ l'.drop (m * sz)) e) :: R) ⟨g', cap', l'.drop (m * sz), by rw [Nat.zero_add], ⟨by rw [← e2]; exact hl', by rw [List.nil_append, hnews, Nat.zero_add]⟩, rfl⟩ ?_
    rw [← e2]
    exact hh'.sub (.cons_cons _ (List.sublist_cons_self _ _))
/-- Parts that lie one behind the other. -/
def consec (pl : List (Nat × Nat)) : Nat → Nat → List (List Value) → Prop
  | _, _, [] => True
  | k, p, c :: cs => pl[k]? = some (p, c.length) ∧ consec pl (k + 1) (p + c.length) cs
theorem fill_pl (pl : List (Nat × Nat)) : ∀ (vs : List Value) (css : List (List Value)) (k : Nat) (pre rest : List Value), vs.map Value.cells = css.map List.toArray → consec pl k pre.length css → rest.length = css.flatten.length →
    Instr.fill (fun i => pl[i]?) (pre ++ rest).toArray (enumV k vs) = some (pre ++ css.flatten).toArray := by
  intro vs
  induction vs with
  | nil =>
    intro css k pre rest h _ hr
    have : css = [] := by cases css <;> simp_all
    subst this
    have : rest = [] := by simpa using hr
    subst this
    simp [enumV, Instr.fill]
  | cons v r ih =>
    intro css k pre rest h hc hr
    cases css with
    | nil => simp at h
    | cons c cs =>
      simp only [List.map_cons, List.cons.injEq] at h
      obtain ⟨h1, h2⟩ := h
      obtain ⟨hc1, hc2⟩ := hc
      simp only [List.flatten_cons, List.length_append] at hr
      have hz : v.cells.size = c.length := by rw [h1]; simp
      simp only [enumV, Instr.fill, hz, hc1]
      rw [if_neg (by simp; omega)]
      have e1 : (v.cells.zipIdx.foldl (fun (cs : Array Value) (p : Value × Nat) => cs.setIfInBounds (pre.length + p.2) p.1) (pre ++ rest).toArray) = ((pre ++ c) ++ rest.drop c.length).toArray := by
        rw [h1, ← Array.foldl_toList, Array.toList_zipIdx]
        have := foldl_cells c.length pre.length c 0 (pre ++ rest) (by simp; omega)
        rw [this]
        congr 1
        simp only [spl, Nat.add_zero]
        rw [List.take_left, ← List.drop_drop, List.drop_left]
      have e2 := ih cs (k + 1) (pre ++ c) (rest.drop c.length) h2 (by rw [List.length_append]; exact hc2) (by rw [List.length_drop, hr]; omega)
      rw [← e1] at e2
      simp only [List.flatten_cons]
      rw [← List.append_assoc]
      exact e2
theorem Yl_buildL {t : TypeId} {ps : List (Nat × Operand)} {vs : List Value} {css : List (List Value)} {pl : List (Nat × Nat)} {z : Value} {zc cs : List Value} (ht : plsOf P t = some pl) (hz : zeOf P t = some z) (hzc : z.cells = zc.toArray) (hp : evq L 0 ps = some vs)
    (hc : vs.map Value.cells = css.map List.toArray) (hcon : consec pl 0 0 css) (hlen : zc.length = css.flatten.length) (hcs : css.flatten = cs) : Yl P L ⟨dst, .build t ps.toArray, ty, pos, aft, gd⟩ (.agg cs.toArray) := by
  obtain ⟨h1, h2⟩ := evq_evp ps 0 vs hp
  refine Yl_build ht hz h1 ?_
  rw [hzc, ← hcs]
  have := fill_pl pl vs css 0 [] zc hc hcon hlen
  simpa using this
end
end Go.Proofs.YtgoddcicbpjknaaDoor

/-! Values: the entries that a file's reader tells. -/
set_option maxRecDepth 20000
namespace Go.Proofs.YtgoddcicbpjknaaDoor
open Go
open Cfb
def otv (e : En) : Nat := match (e.dc[33]? : Option Value) with | some (.int .u8 x) => x.toNat | _ => 0
/-- An entry's cells. -/
def entC (e : En) (pvv : Value) : List Value := [.string (bar e.nm)] ++ ([pvv] ++ ([nv (otv e)] ++ ([.int .i64 e.size] ++ ([.int .i64 (e.ini : Int)] ++ ((e.dc.drop 38).take 16 ++ ((e.dc.drop 54).take 4 ++ ([e.dc.getD 58 undef] ++ ([e.dc.getD 59 undef] ++ []))))))))
structure DcOk (e : En) : Prop where
  len : e.dc.length = 69
  one : ∀ u ∈ e.dc, u.oneCell' = true
  ot : ∃ x : UInt8, e.dc[33]? = some (bv x)
  ini : e.ini ≤ 65535
theorem otv_bv {e : En} {x : UInt8} (h : e.dc[33]? = some (bv x)) : otv e = x.toNat := by
  unfold otv; rw [h]; simp [bv]
theorem DcOk.at {e : En} (h : DcOk e) {i : Nat} (hi : i < 69) : e.dc[i]? = some (e.dc.getD i undef) ∧ (e.dc.getD i undef).oneCell' = true := by
  have hl := h.len
  have h1 : e.dc[i]? = some e.dc[i] := List.getElem?_eq_getElem (by omega)
  have h2 : e.dc.getD i undef = e.dc[i] := by simp [List.getD_eq_getElem?_getD, h1]
  rw [h2]
  exact ⟨h1, h.one _ (List.getElem_mem _)⟩
theorem length_entC {e : En} (h : DcOk e) (pvv : Value) : (entC e pvv).length = 27 := by
  have hl := h.len
  simp [entC]
  omega
theorem one_set {l : List Value} {i : Nat} {v : Value} (h : ∀ u ∈ l, u.oneCell' = true) (hv : v.oneCell' = true) : ∀ u ∈ l.set i v, u.oneCell' = true := by
  intro u hu
  rcases List.mem_or_eq_of_mem_set hu with h1 | h1
  · exact h u h1
  · rw [h1]; exact hv
theorem one_spl {l c : List Value} {o : Nat} (h : ∀ u ∈ l, u.oneCell' = true) (hc : ∀ u ∈ c, u.oneCell' = true) : ∀ u ∈ spl o c l, u.oneCell' = true := by
  intro u hu
  simp only [spl, List.mem_append] at hu
  rcases hu with (h1 | h1) | h1
  · exact h u (List.mem_of_mem_take h1)
  · exact hc u h1
  · exact h u (List.mem_of_mem_drop h1)
theorem one_raw (X : List UInt8) (off : Nat) : ∀ k, ∀ u ∈ rawF X off k, u.oneCell' = true := by
  intro k
  induction k with
  | zero => intro u hu; have : (zs_112.all Value.oneCell') = true := rfl; exact List.all_eq_true.1 this u hu
  | succ k ih => exact one_set ih rfl
theorem one_de12 (X : List UInt8) (off : Nat) : ∀ u ∈ de12F X off, u.oneCell' = true := by
  have h0 := one_raw X off 32
  have b := fun (l : List UInt8) => one_map (f := bv) one_bv l
  exact one_spl (one_set (one_set (one_set (one_spl (one_spl (one_set (one_set (one_set (one_set (one_set (one_set h0 rfl) rfl) rfl) rfl) rfl) rfl) (b _)) (b _)) rfl) rfl) rfl) (b _)
theorem EnOk.dcOk {ps : List Value} {ver off : Nat} {X : List UInt8} {e : En} (h : EnOk ps ver X off e) (hX : off + 128 ≤ X.length) (hi : e.ini ≤ 65535) : DcOk e :=
  ⟨by rw [h.dc]; exact length_de12F _ _, by rw [h.dc]; exact one_de12 _ _, by rw [h.dc]; exact ⟨_, de_ot X off hX⟩, hi⟩
theorem one_entC {e : En} (h : DcOk e) {pvv : Value} (hv : pvv.oneCell' = true) : ∀ u ∈ entC e pvv, u.oneCell' = true := by
  intro u hu
  simp only [entC, List.mem_append, List.mem_singleton, List.not_mem_nil, or_false] at hu
  rcases hu with hu | hu | hu | hu | hu | hu | hu | hu | hu
  · rw [hu]; rfl
  · rw [hu]; exact hv
  · rw [hu]; rfl
  · rw [hu]; rfl
  · rw [hu]; rfl
  · exact one_take h.one _ _ u hu
  · exact one_take h.one _ _ u hu
  · rw [hu]; exact (h.at (by omega)).2
  · rw [hu]; exact (h.at (by omega)).2
/-- A path, copied. -/
def PathC (pp : Heap) (v : Value) (p : List (List UInt8)) : Prop := (p = [] ∧ v = .slice none 0 0) ∨ (∃ b cap r, p ≠ [] ∧ v = .slice (some ⟨b, 0, none⟩) p.length cap ∧ (b, blk (strs p ++ r) 9) ∈ pp)
theorem PathC.more {pp qq : Heap} {v : Value} {p : List (List UInt8)} (h : PathC pp v p) (hs : ∀ x ∈ pp, x ∈ qq) : PathC qq v p := by
  rcases h with h | ⟨b, cap, r, h1, h2, h3⟩
  · exact .inl h
  · exact .inr ⟨b, cap, r, h1, h2, hs _ h3⟩
theorem PathC.one {pp : Heap} {v : Value} {p : List (List UInt8)} (h : PathC pp v p) : v.oneCell' = true ∧ v.cells = #[v] := by
  rcases h with ⟨_, rfl⟩ | ⟨b, cap, r, _, rfl, _⟩ <;> exact ⟨rfl, rfl⟩
/-- The rows of what is told, for the entries o. -/
inductive RowsOk (fs : List Fil) (pth : Nat → List (List UInt8)) (pp : Heap) : List Nat → List (List Value) → Prop
  | nil : RowsOk fs pth pp [] []
  | snoc {o : List Nat} {rows : List (List Value)} {k : Nat} {f : Fil} {v : Value} (h : RowsOk fs pth pp o rows) (hf : fs[k]? = some f) (hd : DcOk f.en) (hp : PathC pp v (pth k)) : RowsOk fs pth pp (o ++ [k]) (rows ++ [entC f.en v])
theorem RowsOk.more {fs : List Fil} {pth : Nat → List (List UInt8)} {pp qq : Heap} {o : List Nat} {rows : List (List Value)} (h : RowsOk fs pth pp o rows) (hs : ∀ x ∈ pp, x ∈ qq) : RowsOk fs pth qq o rows := by
  induction h with
  | nil => exact .nil
  | snoc h hf hd hp ih => exact .snoc ih hf hd (hp.more hs)
theorem RowsOk.len {fs : List Fil} {pth : Nat → List (List UInt8)} {pp : Heap} {o : List Nat} {rows : List (List Value)} (h : RowsOk fs pth pp o rows) : rows.flatten.length = o.length * 27 ∧ rows.length = o.length := by
  induction h with
  | nil => exact ⟨rfl, rfl⟩
  | snoc h hf hd hp ih =>
    refine ⟨?_, by simp [ih.2]⟩
    rw [List.flatten_append, List.length_append, ih.1]
    simp [length_entC hd, Nat.add_mul]
end Go.Proofs.YtgoddcicbpjknaaDoor

/-! Walks: the entries of a file. -/
set_option maxRecDepth 20000
namespace Go.Proofs.YtgoddcicbpjknaaDoor
open Go
open Cfb
theorem QW_sub {E : World} {n : Nat} {L : Fra} {H H' : Heap} {x : Exit} {Q : Exit → Act → World → Prop} (hs : H'.Sublist H) (h : QW E n L H' x Q) : QW E n L H x Q := fun a w hf hh => h a w hf (hh.sub hs)
theorem Fx_pathcopy {E : World} {L : Fra} {H L0 pp F : Heap} {dst : Option Tmp} {ty : TypeId} {pos : String} {aft : Array Edge} {gd : Option (Nat × Bool)} {x y : Operand} {b : Nat} {p : List (List UInt8)} (hx : ev L x = some (.slice none 0 0)) (hy : ev L y = some (.slice (some ⟨b, 0, none⟩) p.length p.length)) (hm : (b, blk (strs p) 9) ∈ H) (hH : H.Perm (L0 ++ (pp ++ F))) (hp : p.length ≤ 1000000) :
    Fx Tryd.prog E L H ⟨dst, .call ⟨.builtin .append, #[x, y], #[36, 36]⟩, ty, pos, aft, gd⟩ (fun v H'' => ∃ pp' u, u = v ∧ (∀ x ∈ pp, x ∈ pp') ∧ PathC pp' u p ∧ H'' = L0 ++ (pp' ++ F)) := by
  intro n a w next Q hf hh k
  cases p with
  | nil =>
    refine (Yl.h (Yl_append0 (P := Tryd.prog) hx hy sl_36 (Nat.le_refl _))).fx n a w next Q hf hh ?_
    rintro v w' H' ⟨rfl, rfl⟩ hh'
    exact k _ w' _ ⟨pp, _, rfl, fun _ h => h, .inl ⟨rfl, rfl⟩, rfl⟩ (hh'.perm hH)
  | cons s r =>
    refine Fx_append_nil (P := Tryd.prog) (z0 := .string ⟨#[]⟩) (q := 1) hx hy sl_36 by_9 ze_9 rfl rfl hm (by simp) (by simp) (by simp at hp ⊢; omega) (by simp at hp ⊢; omega) n a w next Q hf hh ?_
    rintro v w' H' ⟨g', l', cap', rfl, h1, h2, h3, rfl⟩ hh'
    have h4 : (strs (s :: r)).take (s :: r).length = strs (s :: r) := List.take_of_length_le (by simp)
    rw [Nat.mul_one, List.drop_zero, h4] at h3
    have e2 : l' = strs (s :: r) ++ l'.drop (s :: r).length := by
      have := List.take_append_drop (s :: r).length l'
      rw [h3] at this; exact this.symm
    refine k _ w' _ ⟨(g', blk l' 9) :: pp, _, rfl, fun x hx => List.Mem.tail _ hx, .inr ⟨g', cap', l'.drop (s :: r).length, by simp, rfl, by rw [← e2]; exact List.Mem.head _⟩, rfl⟩ ?_
    refine hh'.perm ?_
    have q1 : ((g', blk l' 9) :: H).Perm ((g', blk l' 9) :: (L0 ++ (pp ++ F))) := hH.cons _
    exact q1.trans (List.perm_middle (l₁ := L0) (a := (g', blk l' 9)) (l₂ := pp ++ F)).symm
theorem pA {S G O Z : Heap} {x y z b : Nat × Obj} (h : S.Perm (x :: y :: z :: G)) : (b :: (S ++ (O ++ Z))).Perm (x :: y :: z :: b :: ((G ++ O) ++ Z)) := by
  have h1 : (S ++ (O ++ Z)).Perm (x :: y :: z :: (G ++ (O ++ Z))) := h.append_right _
  rw [← List.append_assoc G] at h1
  have h2 : (b :: (S ++ (O ++ Z))).Perm (b :: x :: y :: z :: ((G ++ O) ++ Z)) := h1.cons _
  exact h2.trans (List.perm_middle (l₁ := [x, y, z]) (a := b)).symm
theorem pB {G O Z : Heap} {x y z b : Nat × Obj} : (x :: y :: z :: b :: ((G ++ O) ++ Z)).Perm (O ++ (x :: y :: z :: b :: (G ++ Z))) := by
  rw [List.append_assoc]
  have h1 : (G ++ (O ++ Z)).Perm (O ++ (G ++ Z)) := perm_front G O Z
  have h2 : (x :: y :: z :: b :: (G ++ (O ++ Z))).Perm ([x, y, z, b] ++ (O ++ (G ++ Z))) := List.Perm.append_left [x, y, z, b] h1
  exact h2.trans (perm_front [x, y, z, b] O (G ++ Z))
theorem pC {S G Z : Heap} {x y z b g : Nat × Obj} (h : S.Perm (x :: y :: z :: G)) : (g :: x :: y :: z :: b :: (G ++ Z)).Perm (b :: (S ++ (g :: Z))) := by
  have h1 : (S ++ (g :: Z)).Perm (x :: y :: z :: (G ++ (g :: Z))) := h.append_right _
  have h2 : (G ++ (g :: Z)).Perm (g :: (G ++ Z)) := List.perm_middle
  have h3 : (S ++ (g :: Z)).Perm ([x, y, z] ++ (g :: (G ++ Z))) := h1.trans (List.Perm.append_left [x, y, z] h2)
  have h4 : (S ++ (g :: Z)).Perm (g :: ([x, y, z] ++ (G ++ Z))) := h3.trans List.perm_middle
  have h5 : (b :: (S ++ (g :: Z))).Perm (b :: g :: x :: y :: z :: (G ++ Z)) := h4.cons b
  exact (h5.trans (List.perm_middle (l₁ := [g, x, y, z]) (a := b)).symm).symm
theorem pS {fs : List Fil} {ps : List (Nat × List (List UInt8))} {br k b : Nat} {f : Fil} {ns : List (List UInt8)} (hf : fs[k]? = some f) (hp : (b, ns) ∈ ps) : ∃ G, (filsH br fs ++ psH ps).Perm (enB br f.bf f.bd f.en :: (f.bd, blk f.en.dc 112) :: (b, blk (strs ns) 9) :: G) := by
  obtain ⟨G1, h1⟩ := filsH_split (br := br) hf
  obtain ⟨G2, h2⟩ := psH_split hp
  refine ⟨G1 ++ G2, ?_⟩
  have h3 : (filsH br fs ++ psH ps).Perm ((enB br f.bf f.bd f.en :: (f.bd, blk f.en.dc 112) :: G1) ++ ((b, blk (strs ns) 9) :: G2)) := h1.append h2
  refine h3.trans ?_
  exact ((List.perm_middle (l₁ := G1) (a := (b, blk (strs ns) 9)) (l₂ := G2)).cons _).cons _
set_option maxHeartbeats 4000000 in
theorem Entries_bad (gI cI : Nat) (rI : List Value) (N ss ver sh nd nf dl ml nm num_ : Nat) (B : List UInt8) (ps : List Value) (T : TypeId) (sns : List Nat) (es : List En) (tn : List Tn) (mi : Option (List Nat × List Nat)) (h : FileIn ps B N ss ver sh nd nf dl ml nm num_ sns es tn mi) (hN1 : N ≤ 131072) (hT0 : 2 ≠ gI) (hb : (STv tn).bad = true) :
    Ct Tryd.prog 18 [.slice (some ⟨gI, 0, none⟩) N cI] [(gI, blk (bys B ++ rI) 5), (2, blk ps T)] (fun v q => v = .tuple #[.slice none 0 0, nv 5] ∧ q = [(gI, blk (bys B ++ rI) 5), (2, blk ps T)]) := by
  have hop := opened_ct gI cI rI N ss ver sh nd nf dl ml nm num_ B ps T sns es tn mi h hN1 hT0
  refine Ct_of Tryd.func18 rfl Tryd.ntmps18 rfl ?_
  intro E F
  simp only [numL, List.nil_append, List.cons_append]
  refine CW_seq ?_
  refine CW_region ?_
  refine RW_a ?_
  refine RW_a ?_
  refine RW_lv (ks := [0]) ?_
  refine CW_seq ?_
  refine CW_region ?_
  refine RW_m ?_
  refine RW_fx rfl rfl rfl (Fx_call ok_31 (vs := [.slice (some ⟨gI, 0, none⟩) N cI]) rfl (Pick.cons (.here _ _) (Pick.cons (.here _ _) (Pick.nil _))) hop) ?_
  rintro _ _ ⟨_, ⟨R, er, hok, hRB, hRN, hRs, hRp, hRT, hRc, hRr, hve, rfl⟩, rfl⟩
  simp only [hb] at hve
  subst hve
  simp only [Rdr.H, List.cons_append, hRp, hRT]
  refine RW_m ?_
  refine RW_l (Yl_extract (v := .pointer none) rfl rfl) ?_
  refine RW_l (Yl_extract (v := pv R.bs) rfl rfl) ?_
  refine RW_l (Yl_extract (v := nv 5) rfl rfl) ?_
  refine RW_a ?_
  refine RW_a ?_
  refine RW_a ?_
  refine RW_lv (ks := [4, 6]) ?_
  refine CW_seq ?_
  refine CW_seq ?_
  refine CW_region ?_
  refine RW_m ?_
  refine RW_l (Yl_neq rfl rfl) ?_
  refine RW_lv (ks := [4, 6, 17]) ?_
  refine CW_cond rfl (fun hc1 => ?_) (fun hc1 => ?_)
  · replace hc1 := of_decide_eq_true hc1
    refine CW_seq ?_
    refine CW_region ?_
    refine RW_m ?_
    refine RW_a ?_
    refine RW_a ?_
    refine RW_lv (ks := [2, 3]) ?_
    refine CW_ret ?_
    refine QW_ret_then ?_
    refine QW_sub (H' := (gI, blk (bys B ++ rI) 5) :: (2, blk ps T) :: F) ?_ ?_
    · exact .cons_cons _ (.cons _ (.cons _ (.cons _ (.cons _ (.cons _ (.cons _ (.cons_cons _ (.cons _ (.cons _ (List.sublist_append_right _ _))))))))))
    · exact QW_ret2 rfl rfl rfl [_, _] ⟨rfl, rfl⟩ (Prm.nil _)
  · replace hc1 := of_decide_eq_false hc1
    exact absurd (show ¬ ((5 : Int) = 0) by decide) hc1
structure EtS where
  n : Nat
  o : List Nat
  g : Option Nat
  cap : Nat
  r : List Value
  rows : List (List Value)
  pp : Heap
theorem pE {a b c d e f g h i o : Nat × Obj} {A P X F : Heap} : (i :: a :: b :: c :: d :: e :: f :: h :: g :: o :: ((A ++ (P ++ X)) ++ F)).Perm (o :: ((A ++ P) ++ ([] ++ ([] ++ (i :: h :: a :: b :: c :: d :: e :: f :: g :: (X ++ F)))))) := by
  simp only [List.nil_append]
  have h1 : ((A ++ P) ++ ([i, h, a, b, c, d, e, f, g] ++ (X ++ F))).Perm ([i, h, a, b, c, d, e, f, g] ++ ((A ++ P) ++ (X ++ F))) := perm_front _ _ _
  have h2 : (o :: ((A ++ P) ++ ([i, h, a, b, c, d, e, f, g] ++ (X ++ F)))).Perm ([i, h, a, b, c, d, e, f, g] ++ (o :: ((A ++ P) ++ (X ++ F)))) := (h1.cons o).trans (List.perm_middle (l₁ := [i, h, a, b, c, d, e, f, g]) (a := o)).symm
  have e1 : (A ++ (P ++ X)) ++ F = (A ++ P) ++ (X ++ F) := by simp only [List.append_assoc]
  rw [e1]
  refine List.Perm.trans ?_ h2.symm
  have h3 : (a :: b :: c :: d :: e :: f :: h :: g :: o :: ((A ++ P) ++ (X ++ F))).Perm (h :: a :: b :: c :: d :: e :: f :: g :: o :: ((A ++ P) ++ (X ++ F))) := List.perm_middle (l₁ := [a, b, c, d, e, f]) (a := h)
  exact h3.cons i
set_option maxHeartbeats 4000000 in
theorem Entries_ok (gI cI : Nat) (rI : List Value) (N ss ver sh nd nf dl ml nm num_ : Nat) (B : List UInt8) (ps : List Value) (T : TypeId) (sns : List Nat) (es : List En) (tn : List Tn) (mi : Option (List Nat × List Nat)) (h : FileIn ps B N ss ver sh nd nf dl ml nm num_ sns es tn mi) (hN1 : N ≤ 131072) (hT0 : 2 ≠ gI) (hb : (STv tn).bad = false) (hde : ∀ e ∈ es, DcOk e) (hpl0 : ∀ k, ((STv tn).pth k).length ≤ 1000000) (hol0 : (STv tn).out.length ≤ 1000000) :
    Ct Tryd.prog 18 [.slice (some ⟨gI, 0, none⟩) N cI] [(gI, blk (bys B ++ rI) 5), (2, blk ps T)] (fun v q => ∃ (fs : List Fil) (pth : Nat → List (List UInt8)) (out : List Nat) (g : Option Nat) (cap : Nat) (r : List Value) (rows : List (List Value)) (pp : Heap), pth = (STv tn).pth ∧ out = (STv tn).out ∧ fs.map (fun f => f.en.noPath) = es.map En.noPath ∧ RowsOk fs pth pp out rows ∧ oOk g rows.flatten r out.length cap 27 ∧ v = .tuple #[osl g out.length cap, nv 0] ∧ q = (gI, blk (bys B ++ rI) 5) :: (2, blk ps T) :: (oH g (rows.flatten ++ r) 41 ++ pp)) := by
  have hop := opened_ct gI cI rI N ss ver sh nd nf dl ml nm num_ B ps T sns es tn mi h hN1 hT0
  refine Ct_of Tryd.func18 rfl Tryd.ntmps18 rfl ?_
  intro E F
  simp only [numL, List.nil_append, List.cons_append]
  refine CW_seq ?_
  refine CW_region ?_
  refine RW_a ?_
  refine RW_a ?_
  refine RW_lv (ks := [0]) ?_
  refine CW_seq ?_
  refine CW_region ?_
  refine RW_m ?_
  refine RW_fx rfl rfl rfl (Fx_call ok_31 (vs := [.slice (some ⟨gI, 0, none⟩) N cI]) rfl (Pick.cons (.here _ _) (Pick.cons (.here _ _) (Pick.nil _))) hop) ?_
  rintro _ _ ⟨_, ⟨R, er, hok, hRB, hRN, hRs, hRp, hRT, hRc, hRr, hve, rfl⟩, rfl⟩
  simp only [hb] at hve
  subst hve
  simp only [Rdr.H, List.cons_append, hRp, hRT]
  refine RW_m ?_
  refine RW_l (Yl_extract (v := pv R.br) rfl rfl) ?_
  refine RW_l (Yl_extract (v := pv R.bs) rfl rfl) ?_
  refine RW_l (Yl_extract (v := nv 0) rfl rfl) ?_
  refine RW_a ?_
  refine RW_a ?_
  refine RW_a ?_
  refine RW_lv (ks := [4, 6]) ?_
  refine CW_seq ?_
  refine CW_seq ?_
  refine CW_region ?_
  refine RW_m ?_
  refine RW_l (Yl_neq rfl rfl) ?_
  refine RW_lv (ks := [4, 6, 17]) ?_
  refine CW_cond rfl (fun hc1 => ?_) (fun hc1 => ?_)
  · replace hc1 := of_decide_eq_true hc1
    exact absurd rfl hc1
  · replace hc1 := of_decide_eq_false hc1
    refine (CW_skip (QW_lv (ks := [4]) ?_))
    refine CW_seq ?_
    obtain ⟨S, hS⟩ : ∃ x, x = STv tn := ⟨_, rfl⟩
    rw [← hS] at hok
    have hall : ∀ k ∈ S.out, ∃ f, R.fs[k]? = some f := by
      intro k hk
      have h1 : k < tn.length := by rw [hS] at hk; exact trav_lt tn _ _ _ _ (by intro k hk; cases hk) k hk
      have h2 : R.fs.length = es.length := by have := congrArg List.length hok.tok.rest; simpa using this
      have h3 := h.link.len
      exact ⟨_, List.getElem?_eq_getElem (by omega)⟩
    have hdcs : ∀ (k : Nat) (f : Fil), R.fs[k]? = some f → DcOk f.en := by
      intro k f hf
      have h1 := congrArg (fun l => l[k]?) hok.tok.rest
      simp only [List.getElem?_map, hf, Option.map_some] at h1
      cases hq : es[k]? with
      | none => rw [hq] at h1; cases h1
      | some e =>
        rw [hq] at h1; simp only [Option.map_some, Option.some.injEq] at h1
        have h2 := hde e (List.mem_of_getElem? hq)
        have a1 : f.en.dc = e.dc := by have := congrArg En.dc h1; exact this
        have a2 : f.en.ini = e.ini := by have := congrArg En.ini h1; exact this
        exact ⟨by rw [a1]; exact h2.len, by rw [a1]; exact h2.one, by rw [a1]; exact h2.ot, by rw [a2]; exact h2.ini⟩
    have hpl : ∀ k, (S.pth k).length ≤ 1000000 := by rw [hS]; exact hpl0
    have houtl : R.out.length ≤ 1000000 := by rw [hok.out, hS]; exact hol0
    refine CW_region ?_
    refine RW_a ?_
    refine RW_lv (ks := [4, 7]) ?_
    refine CW_seq ?_
    refine CW_seq ?_
    refine CW_region ?_
    refine RW_m ?_
    refine RW_l (Yl_nilCheck rfl) ?_
    refine RW_l (Yl_field rfl fo_89_4) ?_
    refine RW_h (Yh_load (v := .slice (some ⟨R.bo, 0, none⟩) R.out.length R.capo) rfl sc_83 (by repeat (first | exact List.Mem.head _ | apply List.Mem.tail)) rfl) ?_
    refine RW_l (Yl_len rfl sl_83) ?_
    refine RW_m ?_
    refine RW_lv (ks := [7, 22, 23, 24]) ?_
    refine CW_block ?_
    obtain ⟨Y, hY⟩ : ∃ Y, Y = (R.br, blk R.cells 89) :: (R.bh, blk R.hcells 137) :: (R.bhf, blk R.hc 142) :: (R.bb, blk R.lb 5) :: (R.bs, blk [.slice (some ⟨R.bB, 0, none⟩) R.N R.cN] 103) :: (R.bB, blk (bys R.B ++ R.rB) 5) :: (R.g, blk (R.bfs.map pv ++ R.rn) 90) :: (R.X ++ F) := ⟨_, rfl⟩
    obtain ⟨Z, hZ⟩ : ∃ Z, Z = (gI, blk (bys B ++ rI) 5) :: (2, blk ps T) :: Y := ⟨_, rfl⟩
    refine CW_heap (H' := (R.bo, blk (outs R.bfs R.out ++ R.ro) 90) :: ((filsH R.br R.fs ++ psH R.pth) ++ ([] ++ ([] ++ Z)))) (by rw [hZ, hY]; exact pE) ?_
    refine CW_loop (σ := EtS) (fun q => [(7, osl q.g q.n q.cap), (22, .slice (some ⟨R.bo, 0, none⟩) R.out.length R.capo), (23, nv R.out.length), (24, nv q.n)]) (fun q => (R.bo, blk (outs R.bfs R.out ++ R.ro) 90) :: ((filsH R.br R.fs ++ psH R.pth) ++ (oH q.g (q.rows.flatten ++ q.r) 41 ++ (q.pp ++ Z)))) (fun q => q.o = R.out.take q.n ∧ q.n ≤ R.out.length ∧ RowsOk R.fs S.pth q.pp q.o q.rows ∧ oOk q.g q.rows.flatten q.r q.n q.cap 27) (fun q => R.out.length - q.n) ⟨0, [], none, 0, [], [], []⟩ ⟨rfl, Nat.zero_le _, .nil, ⟨rfl, rfl⟩⟩ (Prm.nil _) (.cons rfl (.cons rfl (.cons rfl (.cons rfl .nil)))) ?_
    rintro q ⟨hpre, hqle, hrows, hoo⟩
    refine CW_seq ?_
    refine CW_region ?_
    refine RW_l (Yl_lss rfl rfl) ?_
    refine RW_lv (ks := [7, 22, 23, 24, 25]) ?_
    refine CW_seq ?_
    refine CW_cond rfl (fun hc2 => ?_) (fun hc2 => ?_)
    · replace hc2 := of_decide_eq_true hc2
      have hlt : q.n < R.out.length := by omega
      obtain ⟨k, hk⟩ : ∃ k, k = R.out.getD q.n 0 := ⟨_, rfl⟩
      have hkm : k ∈ S.out := by rw [hk, ← hok.out, List.getD_eq_getElem?_getD, List.getElem?_eq_getElem hlt]; exact List.getElem_mem _
      obtain ⟨f, hf⟩ : ∃ f, R.fs[k]? = some f := hall k hkm
      have hbf : R.bfs.getD k 0 = f.bf := by rw [← hok.tok.bf]; simp [List.getD_eq_getElem?_getD, hf]
      obtain ⟨bp, hbp, hpath⟩ := hok.tok.path k hkm f hf
      have hdc : DcOk f.en := hdcs k f hf
      obtain ⟨otx, hot0⟩ := hdc.ot
      have hbo : (outs R.bfs R.out ++ R.ro)[q.n]? = some (pv f.bf) := by rw [List.getElem?_append_left (by rw [List.length_map]; exact hlt), List.getElem?_map, List.getElem?_eq_getElem hlt, ← hbf, hk]; simp [List.getD_eq_getElem?_getD, hlt]
      refine (CW_skip (QW_lv (ks := [7, 22, 23, 24]) ?_))
      refine CW_seq ?_
      refine CW_block ?_
      refine CW_seq ?_
      refine CW_region ?_
      refine RW_l (Yl_indexN (b := R.bo) (off := 0) (i := q.n) (o' := q.n) rfl rfl sl_83 (by omega) (by omega)) ?_
      refine RW_h (Yh_load (v := pv f.bf) rfl sc_90 (by repeat (first | exact List.Mem.head _ | apply List.Mem.tail)) hbo) ?_
      refine RW_a ?_
      refine RW_lv (ks := [7, 9, 22, 23, 24]) ?_
      have hzt : Ct Tryd.prog 32 [pv f.bf] [(f.bf, blk (fiF f.en.nm f.en.ini f.en.path f.en.size f.en.pos f.en.cur f.en.rem f.bd R.br) 93), (f.bd, blk f.en.dc 112)] (fun v q => v = nv (otv f.en) ∧ q = [(f.bf, blk (fiF f.en.nm f.en.ini f.en.path f.en.size f.en.pos f.en.cur f.en.rem f.bd R.br) 93), (f.bd, blk f.en.dc 112)]) := by rw [otv_bv hot0]; exact ZZType_ct f.bf f.bd R.br f.en.cur f.en.ini f.en.nm f.en.path f.en.size f.en.pos f.en.rem f.en.dc otx hot0
      obtain ⟨G, hG⟩ := pS (br := R.br) hf hbp
      refine CW_heap (pA hG) ?_
      have hini := hdc.ini
      have hl16 : ((f.en.dc.drop 38).take 16).length = 16 := by have := hdc.len; simp; omega
      have hl4 : ((f.en.dc.drop 54).take 4).length = 4 := by have := hdc.len; simp; omega
      refine CW_draw [31] [(enB R.br f.bf f.bd f.en), (f.bd, blk f.en.dc 112)] mixed (by repeat (first | exact Sub.nil _ | apply Sub.cons | exact Rem.here _ _ | apply Rem.there)) ?_
      refine RD_l 0 rfl (Yl_move rfl) ?_
      refine RD_l 1 rfl (Yl_move rfl) ?_
      refine RD_l 2 rfl (Yl_nilCheck rfl) ?_
      refine RD_l 3 rfl (Yl_field rfl fo_93_0) ?_
      refine RD_l 5 rfl (Yl_move rfl) ?_
      refine RD_l 6 rfl (Yl_nilCheck rfl) ?_
      refine RD_l 7 rfl (Yl_field rfl fo_93_2) ?_
      refine RD_l 10 rfl (Yl_move rfl) ?_
      refine RD_l 12 rfl (Yl_move rfl) ?_
      refine RD_l 13 rfl (Yl_nilCheck rfl) ?_
      refine RD_l 14 rfl (Yl_field rfl fo_93_3) ?_
      refine RD_l 16 rfl (Yl_move rfl) ?_
      refine RD_l 17 rfl (Yl_nilCheck rfl) ?_
      refine RD_l 18 rfl (Yl_field rfl fo_93_1) ?_
      refine RD_l 21 rfl (Yl_move rfl) ?_
      refine RD_l 23 rfl (Yl_move rfl) ?_
      refine RD_l 25 rfl (Yl_move rfl) ?_
      refine RD_l 27 rfl (Yl_move rfl) ?_
      refine RD_h (i := 4) #[true, true, true, true, false, true, true, true, true, true, true, true, true, true, true, true, true, true, true, true, true, true, true, true, true, true, true, true, true, false, false, false, false] rfl rfl rfl rfl (by kernel_rfl) (fun _ _ _ h => h) (Yh_load (v := .string (bar f.en.nm)) rfl sc_9 (by repeat (first | exact List.Mem.head _ | apply List.Mem.tail)) rfl) ?_
      refine RD_h (i := 8) #[true, true, true, true, true, true, true, true, false, false, true, false, true, true, true, true, true, true, true, true, true, true, false, true, false, true, false, true, false, false, false, false, false] rfl rfl rfl rfl (by kernel_rfl) (fun _ _ _ h => h) (Yh_load (v := .slice (some ⟨bp, 0, none⟩) (S.pth k).length (S.pth k).length) rfl sc_36 (by repeat (first | exact List.Mem.head _ | apply List.Mem.tail)) (by rw [← hpath]; rfl)) ?_
      refine RD_h (i := 15) #[true, true, true, true, true, true, true, true, true, true, true, true, true, true, true, false, true, true, true, true, true, true, true, true, true, true, true, true, true, false, false, false, false] rfl rfl rfl rfl (by kernel_rfl) (fun _ _ _ h => h) (Yh_load (v := .int .i64 f.en.size) rfl sc_2 (by repeat (first | exact List.Mem.head _ | apply List.Mem.tail)) rfl) ?_
      refine RD_h (i := 19) #[true, true, true, true, true, true, true, true, true, true, true, true, true, true, true, true, true, true, true, false, false, true, true, true, true, true, true, true, true, false, false, false, false] rfl rfl rfl rfl (by kernel_rfl) (fun _ _ _ h => h) (Yh_load (v := .int .u16 (f.en.ini : Int)) rfl sc_47 (by repeat (first | exact List.Mem.head _ | apply List.Mem.tail)) rfl) ?_
      refine RD_l 20 rfl (Yl_conv (c := (f.en.ini : Int)) rfl in_47 in_3 (wi64 (by omega) (by omega))) ?_
      refine RD_one (i := 9) (by kernel_rfl) ?_
      refine RO_fx rfl rfl rfl rfl (Fx_pathcopy (pp := q.pp) (F := Z) (L0 := (enB R.br f.bf f.bd f.en) :: (f.bd, blk f.en.dc 112) :: (bp, blk (strs (S.pth k)) 9) :: (R.bo, blk (outs R.bfs R.out ++ R.ro) 90) :: (G ++ oH q.g (q.rows.flatten ++ q.r) 41)) rfl rfl (by repeat (first | exact List.Mem.head _ | apply List.Mem.tail)) (.refl _) (hpl k)) ?_
      rintro _ _ ⟨pp', pvv, rfl, hpp, hpc, rfl⟩
      simp only [List.cons_append]
      have hcc : ([.string (bar f.en.nm), pvv, nv (otv f.en), .int .i64 f.en.size, .int .i64 (f.en.ini : Int), .agg ((f.en.dc.drop 38).take 16).toArray, .agg ((f.en.dc.drop 54).take 4).toArray, f.en.dc.getD 58 undef, f.en.dc.getD 59 undef]).map Value.cells = ([[.string (bar f.en.nm)], [pvv], [nv (otv f.en)], [.int .i64 f.en.size], [.int .i64 (f.en.ini : Int)], (f.en.dc.drop 38).take 16, (f.en.dc.drop 54).take 4, [f.en.dc.getD 58 undef], [f.en.dc.getD 59 undef]]).map List.toArray := by simp only [List.map_cons, List.map_nil]; rw [hpc.one.2, cells_one (hdc.at (show 58 < 69 by omega)).2, cells_one (hdc.at (show 59 < 69 by omega)).2]; rfl
      have hone27 := one_entC hdc hpc.one.1
      refine ⟨Or.inr (by repeat (first | exact Sub.nil _ | apply Sub.cons | exact Rem.here _ _ | apply Rem.there)), ?_⟩
      refine RD_one (i := 11) (by kernel_rfl) ?_
      refine RO_fx rfl rfl rfl rfl (Fx_callQ ok_32 (vs := [pv f.bf]) (R := fun v => v = nv (otv f.en)) rfl (Pick.cons (by repeat (first | exact Rem.here _ _ | apply Rem.there)) (Pick.cons (by repeat (first | exact Rem.here _ _ | apply Rem.there)) (Pick.nil _))) hzt) ?_
      rintro _ _ ⟨rfl, rfl⟩
      refine ⟨Or.inr (by repeat (first | exact Sub.nil _ | apply Sub.cons | exact Rem.here _ _ | apply Rem.there)), ?_⟩
      refine RD_one (i := 22) (by kernel_rfl) ?_
      refine RO_fx rfl rfl rfl rfl (Fx_callQ ok_33 (vs := [pv f.bf]) (R := fun v => v = .agg ((f.en.dc.drop 38).take 16).toArray) rfl (Pick.cons (by repeat (first | exact Rem.here _ _ | apply Rem.there)) (Pick.cons (by repeat (first | exact Rem.here _ _ | apply Rem.there)) (Pick.nil _))) (ID_ct f.bf f.bd R.br f.en.cur f.en.ini f.en.nm f.en.path f.en.size f.en.pos f.en.rem f.en.dc hdc.len hdc.one)) ?_
      rintro _ _ ⟨rfl, rfl⟩
      refine ⟨Or.inr (by repeat (first | exact Sub.nil _ | apply Sub.cons | exact Rem.here _ _ | apply Rem.there)), ?_⟩
      refine RD_one (i := 24) (by kernel_rfl) ?_
      refine RO_fx rfl rfl rfl rfl (Fx_callQ ok_34 (vs := [pv f.bf]) (R := fun v => v = .agg ((f.en.dc.drop 54).take 4).toArray) rfl (Pick.cons (by repeat (first | exact Rem.here _ _ | apply Rem.there)) (Pick.cons (by repeat (first | exact Rem.here _ _ | apply Rem.there)) (Pick.nil _))) (ZZState_ct f.bf f.bd R.br f.en.cur f.en.ini f.en.nm f.en.path f.en.size f.en.pos f.en.rem f.en.dc hdc.len hdc.one)) ?_
      rintro _ _ ⟨rfl, rfl⟩
      refine ⟨Or.inr (by repeat (first | exact Sub.nil _ | apply Sub.cons | exact Rem.here _ _ | apply Rem.there)), ?_⟩
      refine RD_one (i := 26) (by kernel_rfl) ?_
      refine RO_fx rfl rfl rfl rfl (Fx_callQ ok_35 (vs := [pv f.bf]) (R := fun v => v = f.en.dc.getD 58 undef) rfl (Pick.cons (by repeat (first | exact Rem.here _ _ | apply Rem.there)) (Pick.cons (by repeat (first | exact Rem.here _ _ | apply Rem.there)) (Pick.nil _))) (Created_ct f.bf f.bd R.br f.en.cur f.en.ini f.en.nm f.en.path f.en.size f.en.pos f.en.rem f.en.dc _ (hdc.at (show 58 < 69 by omega)).1)) ?_
      rintro _ _ ⟨rfl, rfl⟩
      refine ⟨Or.inr (by repeat (first | exact Sub.nil _ | apply Sub.cons | exact Rem.here _ _ | apply Rem.there)), ?_⟩
      refine RD_one (i := 28) (by kernel_rfl) ?_
      refine RO_fx rfl rfl rfl rfl (Fx_callQ ok_36 (vs := [pv f.bf]) (R := fun v => v = f.en.dc.getD 59 undef) rfl (Pick.cons (by repeat (first | exact Rem.here _ _ | apply Rem.there)) (Pick.cons (by repeat (first | exact Rem.here _ _ | apply Rem.there)) (Pick.nil _))) (Modified_ct f.bf f.bd R.br f.en.cur f.en.ini f.en.nm f.en.path f.en.size f.en.pos f.en.rem f.en.dc _ (hdc.at (show 59 < 69 by omega)).1)) ?_
      rintro _ _ ⟨rfl, rfl⟩
      refine ⟨Or.inr (by repeat (first | exact Sub.nil _ | apply Sub.cons | exact Rem.here _ _ | apply Rem.there)), ?_⟩
      refine RD_l 29 rfl (Yl_buildL (vs := [.string (bar f.en.nm), pvv, nv (otv f.en), .int .i64 f.en.size, .int .i64 (f.en.ini : Int), .agg ((f.en.dc.drop 38).take 16).toArray, .agg ((f.en.dc.drop 54).take 4).toArray, f.en.dc.getD 58 undef, f.en.dc.getD 59 undef]) (css := [[.string (bar f.en.nm)], [pvv], [nv (otv f.en)], [.int .i64 f.en.size], [.int .i64 (f.en.ini : Int)], (f.en.dc.drop 38).take 16, (f.en.dc.drop 54).take 4, [f.en.dc.getD 58 undef], [f.en.dc.getD 59 undef]]) (zc := zs_41) (cs := (entC f.en pvv)) pl_41 ze_41 rfl rfl hcc (by refine ⟨rfl, rfl, rfl, rfl, rfl, ?_, ?_, ?_, ?_, trivial⟩ <;> simp only [hl16, hl4] <;> rfl) (by show 27 = (entC f.en pvv).length; rw [length_entC hdc]) rfl) ?_
      refine RD_one (i := 30) (by kernel_rfl) ?_
      refine RO_fx rfl rfl rfl rfl (Fx_lit (vs := [.agg (entC f.en pvv).toArray]) (css := [(entC f.en pvv)]) (cs := (entC f.en pvv)) sl_33 ze_41 rfl rfl rfl rfl rfl (by intro c hc; rw [List.mem_singleton.1 hc]; exact length_entC hdc pvv) (by simp)) ?_
      rintro _ _ ⟨b58, rfl, rfl⟩
      refine ⟨Or.inr (by repeat (first | exact Sub.nil _ | apply Sub.cons | exact Rem.here _ _ | apply Rem.there)), ?_⟩
      refine RD_one (i := 31) (by kernel_rfl) ?_
      refine RO_fx rfl rfl rfl rfl (Fx_appOG (o := q.g) (xs := q.rows.flatten) (r := q.r) (news := (entC f.en pvv)) (T := 41) (n := q.n) (cap := q.cap) (m := 1) (c := 1) (R := (enB R.br f.bf f.bd f.en) :: (f.bd, blk f.en.dc 112) :: (bp, blk (strs (S.pth k)) 9) :: (R.bo, blk (outs R.bfs R.out ++ R.ro) 90) :: (G ++ (pp' ++ Z))) rfl rfl sl_33 by_41 ze_41 rfl (.here _ _) pB hoo (by rw [length_entC hdc]) hone27 (by omega) (by omega) (by omega) (by omega)) ?_
      rintro _ _ ⟨g', cap', r', rfl, hoo', rfl⟩
      refine ⟨Or.inl (by kernel_rfl), ?_⟩
      refine RD_l 32 rfl (Yl_assign rfl) ?_
      refine RD_done (by kernel_rfl) ?_
      refine QW_normal_block ?_
      refine (QW_lv (ks := [7, 22, 23, 24]) ?_)
      refine CW_region ?_
      refine RW_l (Yl_add (c := ((q.n + 1 : Nat) : Int)) rfl rfl (wi64 (by omega) (by omega))) ?_
      refine RW_m ?_
      refine RW_nil ?_
      have hrows2 : RowsOk R.fs S.pth pp' (q.o ++ [k]) (q.rows ++ [entC f.en pvv]) := .snoc (hrows.more hpp) hf hdc hpc
      refine QW_heap (pC hG) ?_
      refine QW_round (σ := EtS) ⟨q.n + 1, q.o ++ [k], some g', cap', r', q.rows ++ [entC f.en pvv], pp'⟩ ⟨?_, by simp only; omega, hrows2, ?_⟩ (by simp only; omega) ?_ (.cons rfl (.cons rfl (.cons rfl (.cons rfl .nil))))
      · simp only; rw [List.take_succ_eq_append_getElem hlt, ← hpre, hk]; simp [List.getD_eq_getElem?_getD, hlt]
      · simp only [List.flatten_append, List.flatten_cons, List.flatten_nil, List.append_nil]; exact hoo'
      · simp only [oH, List.flatten_append, List.flatten_cons, List.flatten_nil, List.append_nil, List.cons_append, List.nil_append]; exact Prm.nil _
    · replace hc2 := of_decide_eq_false hc2
      refine CW_exit ?_
      refine QW_exit_then ?_
      refine QW_exit_then ?_
      refine QW_exit_block ?_
      refine (QW_lv (ks := [7]) ?_)
      refine CW_seq ?_
      refine CW_region ?_
      refine RW_m ?_
      refine RW_a ?_
      refine RW_a ?_
      refine RW_lv (ks := [2, 3]) ?_
      refine CW_ret ?_
      have hqn : q.o.length = q.n := by rw [hpre, List.length_take]; omega
      have hqo : q.o = S.out := by rw [hpre, show q.n = R.out.length by omega, List.take_length, hok.out]
      refine QW_sub (H' := oH q.g (q.rows.flatten ++ q.r) 41 ++ (q.pp ++ ((gI, blk (bys B ++ rI) 5) :: (2, blk ps T) :: F))) ?_ ?_
      · refine .cons _ (List.Sublist.trans ?_ (List.sublist_append_right _ _)); refine List.Sublist.append_left (List.Sublist.append_left ?_ _) _; rw [hZ, hY]; exact .cons_cons _ (.cons_cons _ (.cons _ (.cons _ (.cons _ (.cons _ (.cons _ (.cons _ (.cons _ (List.sublist_append_right _ _)))))))))
      · refine QW_heap (H' := ((gI, blk (bys B ++ rI) 5) :: (2, blk ps T) :: (oH q.g (q.rows.flatten ++ q.r) 41 ++ q.pp)) ++ F) ?_ ?_
        · have q1 : (oH q.g (q.rows.flatten ++ q.r) 41 ++ (q.pp ++ ([(gI, blk (bys B ++ rI) 5), (2, blk ps T)] ++ F))).Perm ([(gI, blk (bys B ++ rI) 5), (2, blk ps T)] ++ ((oH q.g (q.rows.flatten ++ q.r) 41 ++ q.pp) ++ F)) := by rw [← List.append_assoc]; exact perm_front _ _ _
          exact q1
        · exact QW_ret2 rfl rfl rfl _ ⟨R.fs, S.pth, q.o, q.g, q.cap, q.r, q.rows, q.pp, by rw [hS], by rw [hqo, hS], hok.tok.rest, hrows, by rw [hqn]; exact hoo, by rw [hqn]; rfl, rfl⟩ (Prm.nil _)
end Go.Proofs.YtgoddcicbpjknaaDoor
