/- FnCut, as its card states it: whatever the numbers, the bytes, the choice, the step, the turn and the cut, the call returns true and leaves all that was there as it was. -/
import Derived.Test.YtgoddcicbpjknaaDoorPartE
import Derived.Clock
import Derived.Lay
set_option maxRecDepth 20000
set_option maxHeartbeats 4000000

namespace Go.Proofs.YtgoddcicbpjknaaDoor
open Go
open Cfb

theorem streamTry_ct (S : Src) (ft : Nat → Prop) (h : S.Try ft) (pos k sz : Nat) (h0 : 0 < sz) (hsz : k * S.u + sz ≤ S.size) :
  Ct Tryd.prog 52 [pv S.bf, nv sz] (S.fb (pos) (k) (0) :: S.rb :: S.G) (fun v q => (∃ k' r' g l2 r2 cap, r' < S.u ∧ k' * S.u + r' = k * S.u + sz ∧ Run S.ad (k * S.u) l2 (k * S.u + sz) ∧ Small l2 ∧ (prs l2 ++ r2).length = cap * 2 ∧ cap ≤ 20000 ∧ v = .tuple #[.slice (some ⟨g, 0, none⟩) l2.length cap, .nilIface] ∧ q = (g, blk (prs l2 ++ r2) 128) :: S.fb pos k' r' :: S.rb :: S.G) ∨
   ((∃ j, j * S.u < S.size ∧ ¬ ft j) ∧ (∃ (ty : Nat) (m : List UInt8) (x : Int), ty ≤ 10 ∧ v = .tuple #[.slice none 0 0, .iface 123 (.agg #[nv ty, .string (bar m), .int .i64 x])]) ∧ ∃ y, q = (S.bf, y) :: S.rb :: S.G)) := by
 have hdv := Nat.div_le_self sz S.ss
 have hdv0 : (0 : Int) ≤ ((sz / S.ss : Nat) : Int) := Int.natCast_nonneg _
 have hu1 := h.u1
 have hs2 := h.ss2
 have hsz1 := h.sz
 refine Ct_of Tryd.func52 rfl Tryd.ntmps52 rfl ?_
 intro E F
 simp only [numL, List.nil_append, List.cons_append]
 refine CW_sr ?_
 refine RW_a ?_
 refine RW_a ?_
 refine RW_lv [0,1] ?_
 refine CW_sr ?_
 refine RW_a ?_
 refine RW_lv [0,1,6] ?_
 refine CW_sr ?_
 refine RW_a ?_
 refine RW_lv [0,1,6] ?_
 refine CW_sr ?_
 refine RW_a ?_
 refine RW_lv [0,1,6] ?_
 refine CW_cut (σ := Bool × Nat × Nat) (fun q => [(0, pv S.bf), (1, nv sz), (6, .bool q.1), (7, nv q.2.1), (8, nv q.2.2)]) (fun _ => S.fb (pos) (k) (0) :: S.rb :: (S.G ++ F)) (fun q => q.1 = S.mini ∧ q.2.1 = sz / S.u + 2 ∧ q.2.2 = S.u) ?_ ?_
 ·skip
  refine CW_sr ?_
  refine RW_m ?_
  refine RW_n ?_
  refine RW_f fo_93_3 ?_
  refine RW_h (Yh_ld (v := nv S.size) sc_2) ?_
  refine RW_l (Yl_lss rfl rfl) ?_
  refine RW_lv [0,1,6,20] ?_
  refine CW_cd rfl (fun hc1 => ?_) (fun hc1 => ?_)
  ·obtain ⟨hm1, hm2⟩ : S.mini = true ∧ S.u = 64 := by rcases h.sel with ⟨e1, e2, e3⟩ | ⟨e1, e2, e3⟩; exact ⟨e1, e3⟩; omega
   refine CW_sr ?_
   refine RW_a ?_
   refine RW_lv [0,1,6] ?_
   refine CW_sr ?_
   refine RW_m ?_
   refine RW_l (Yl_quo (c := ((sz / 64 : Nat) : Int)) rfl rfl om_ (quoN (b := 64) om_)) ?_
   refine RW_l (Yl_add (c := ((sz / 64 + 2 : Nat) : Int)) rfl rfl (wi64 om_ om_)) ?_
   refine RW_a ?_
   refine RW_lv [0,1,6,7] ?_
   refine CW_region ?_
   refine RW_a ?_
   refine RW_nil ?_
   first
    | exact QW_cut (true, sz / 64 + 2, 64) ⟨hm1.symm, by simp only [hm2], hm2.symm⟩ (by repeat (first | exact Prm.nil _ | exact Rem.here _ _ | apply Rem.there | apply Prm.cons)) (.cons rfl (.cons rfl (.cons rfl (.cons rfl (.cons rfl .nil)))))
    | exact QW_cut (false, sz / S.ss + 2, S.ss) ⟨hm1.symm, by simp only [hm2], hm2.symm⟩ (by repeat (first | exact Prm.nil _ | exact Rem.here _ _ | apply Rem.there | apply Prm.cons)) (.cons rfl (.cons rfl (.cons rfl (.cons rfl (.cons rfl .nil)))))
  obtain ⟨hm1, hm2⟩ : S.mini = false ∧ S.u = S.ss := by rcases h.sel with ⟨e1, e2, e3⟩ | ⟨e1, e2, e3⟩; omega; exact ⟨e1, e3⟩
  refine CW_sr ?_
  refine RW_m ?_
  refine RW_m ?_
  refine RW_n ?_
  refine RW_f fo_93_8 ?_
  refine RW_h (Yh_ld (v := pv S.br) sc_78) ?_
  refine RW_n ?_
  refine RW_f fo_89_1 ?_
  refine RW_h (Yh_lh (v := uv S.ss) sc_67 h.rd1) ?_
  refine RW_l (Yl_conv (c := ((S.ss : Nat) : Int)) rfl in_67 in_3 (wi64 om_ om_)) ?_
  refine RW_l (Yl_quo (c := ((sz / S.ss : Nat) : Int)) rfl rfl om_ (quoN (b := S.ss) om_)) ?_
  refine RW_l (Yl_add (c := ((sz / S.ss + 2 : Nat) : Int)) rfl rfl (wi64 om_ om_)) ?_
  refine RW_a ?_
  refine RW_lv [0,1,6,7] ?_
  refine CW_region ?_
  refine RW_m ?_
  refine RW_n ?_
  refine RW_f fo_93_8 ?_
  refine RW_h (Yh_ld (v := pv S.br) sc_78) ?_
  refine RW_n ?_
  refine RW_f fo_89_1 ?_
  refine RW_h (Yh_lh (v := uv S.ss) sc_67 h.rd1) ?_
  refine RW_l (Yl_conv (c := ((S.ss : Nat) : Int)) rfl in_67 in_2 (wi64 om_ om_)) ?_
  refine RW_a ?_
  refine RW_nil ?_
  first
   | exact QW_cut (true, sz / 64 + 2, 64) ⟨hm1.symm, by simp only [hm2], hm2.symm⟩ (by repeat (first | exact Prm.nil _ | exact Rem.here _ _ | apply Rem.there | apply Prm.cons)) (.cons rfl (.cons rfl (.cons rfl (.cons rfl (.cons rfl .nil)))))
   | exact QW_cut (false, sz / S.ss + 2, S.ss) ⟨hm1.symm, by simp only [hm2], hm2.symm⟩ (by repeat (first | exact Prm.nil _ | exact Rem.here _ _ | apply Rem.there | apply Prm.cons)) (.cons rfl (.cons rfl (.cons rfl (.cons rfl (.cons rfl .nil)))))
 rintro ⟨b, l, u⟩ ⟨hb, hl, hu⟩
 simp only at hb hl hu ⊢
 subst hb hu
 have hl2 : 2 ≤ l := by rw [hl]; exact Nat.le_add_left _ _
 have hl4 : l ≤ 20000 := by have := Nat.div_le_div_left (a := sz) (show 64 ≤ S.u by omega) om_; omega
 refine CW_sr ?_
 refine RW_m ?_
 refine RW_fx rfl rfl rfl (Fx_makeSlice (z0 := .int .i64 0) (m := 2) (l := 0) (c := (l : Int)) rfl rfl sl_125 by_128 ze_128 rfl rfl om_ om_ om_ om_) ?_
 rintro _ _ ⟨g, rfl, rfl⟩
 refine RW_a ?_
 refine RW_lv [0,1,6,8,9] ?_
 refine CW_sr ?_
 refine RW_a ?_
 refine RW_a ?_
 refine RW_lv [0,1,6,8,9,10,11] ?_
 refine CW_seq ?_
 refine CW_sr ?_
 refine RW_m ?_
 refine RW_n ?_
 refine RW_f fo_93_6 ?_
 refine RW_h (Yh_ld (v := nv (0)) sc_2) ?_
 refine RW_l (Yl_gtrB false rfl rfl (decide_eq_false om_)) ?_
 refine RW_lv [0,1,6,8,9,10,11,49] ?_
 refine CW_false rfl ?_
 refine (CW_skip (QW_lv [0,1,6,8,9,10,11] ?_))
 refine CW_block ?_
 refine CW_lp (σ := Nat × Nat × Nat × List (Nat × Nat) × List Value) (fun q => [(0, pv S.bf), (1, nv sz), (6, .bool S.mini), (8, nv S.u), (9, .slice (some ⟨g, 0, none⟩) q.2.2.2.1.length l), (10, nv q.2.2.1), (11, nv q.1)]) (fun q => (g, blk (prs q.2.2.2.1 ++ q.2.2.2.2) 128) :: S.fb (pos) (q.2.1) (0) :: S.rb :: (S.G ++ F)) (fun q => q.2.1 * S.u = k * S.u + q.1 ∧ q.1 < sz ∧ Run S.ad (k * S.u) q.2.2.2.1 (k * S.u + q.1) ∧ Small q.2.2.2.1 ∧ (prs q.2.2.2.1 ++ q.2.2.2.2).length = l * 2 ∧ q.2.2.2.1.length = q.2.2.1 ∧ q.2.2.1 * S.u ≤ q.1 + S.u) (fun q => sz - q.1) (0, k, 0, [], List.replicate (l * 2) (.int .i64 0)) ⟨by simp only; omega, by simp only; omega, .nil _, (by intro k hk; simp at hk), by simp, rfl, by simp⟩ ?_
 rintro ⟨j, k1, i, ls, rr⟩ ⟨hk1, hj1, hrun, hsm, hlen, hls, hi1⟩
 simp only at hk1 hj1 hrun hsm hlen hls hi1 ⊢
 subst hls
 have hku1 : (k1 + 1) * S.u = k1 * S.u + S.u := Nat.succ_mul _ _
 have hiu1 : (ls.length + 1) * S.u = ls.length * S.u + S.u := Nat.succ_mul _ _
 have hroom := few_parts om_ hi1 hj1
 have hof := h.of1 k1 om_
 refine CW_block ?_
 refine CW_seq ?_
 refine CW_sr ?_
 refine RW_m ?_
 refine RW_m ?_
 refine RW_l (Yl_cap rfl sl_125) ?_
 refine RW_l (Yl_geq rfl rfl) ?_
 refine RW_lv [0,1,6,8,9,10,11,171] ?_
 refine CW_cd rfl (fun hc2 => ?_) (fun hc2 => ?_)
 ·exfalso; omega
 refine (CW_skip (QW_lv [0,1,6,8,9,10,11] ?_))
 refine CW_seq ?_
 refine CW_draw [] _ mixed (Sub.refl _) ?_
 refine RD_m 0 ?_
 refine RD_n 1 ?_
 refine RD_f 2 fo_93_8 ?_
 refine RD_m 4 ?_
 refine RD_n 5 ?_
 refine RD_f 6 fo_93_5 ?_
 refine RD_m 8 ?_
 refine RD_h (i := 3) #[true, true, true, false, true, true, true, true, true, false, false, false, false, false, false] rfl rfl rfl rfl kr_ (fun _ _ _ h => h) (Yh_ld (v := pv S.br) sc_78) ?_
 refine RD_h (i := 7) #[true, true, true, true, true, true, true, false, true, false, false, false, false, false, false] rfl rfl rfl rfl kr_ (fun _ _ _ h => h) (Yh_ld (v := uv (snx S.cs (k1))) sc_67) ?_
 refine RD_o 9 ?_
 refine RO_fx rfl rfl rfl rfl (Fx_callQ ok_62 (vs := [pv S.br, uv (snx S.cs (k1)), .bool S.mini]) (R := fun v => v = .tuple #[nv (S.of_ (k1)), .nilIface]) rfl (Pick.cons (.there _ (.there _ (.here _ _))) (pick_mid _ [_, _] _)) (h.off (k1) om_)) ?_
 rintro _ _ ⟨rfl, rfl⟩
 refine ⟨Or.inr (Sub.refl _), ?_⟩
 refine RD_m 10 ?_
 refine RD_l 11 rfl (Yl_extract (v := nv (S.of_ k1)) rfl rfl) ?_
 refine RD_l 12 rfl (Yl_extract (v := .nilIface) rfl rfl) ?_
 refine RD_a 13 ?_
 refine RD_a 14 ?_
 refine (RD_done kr_ (QW_lv [0,1,6,8,9,10,11,14,15] ?_))
 refine CW_seq ?_
 refine CW_sr ?_
 refine RW_m ?_
 refine RW_l (Yl_ifNeNil rfl if_105) ?_
 refine RW_lv [0,1,6,8,9,10,11,14,15,189] ?_
 refine CW_cond rfl (fun hc3 => ?_) (fun hc3 => ?_)
 ·skip
  exact absurd hc3 (by decide)
 skip
 refine (CW_skip (QW_lv [0,1,6,8,9,10,11,14] ?_))
 refine CW_seq ?_
 refine CW_sr ?_
 refine RW_m ?_
 refine RW_m ?_
 refine RW_l (Yl_sub (c := ((sz - j : Nat) : Int)) rfl rfl (by rw [wi64 om_ om_]; omega)) ?_
 refine RW_m ?_
 refine RW_l (Yl_lss rfl rfl) ?_
 refine RW_lv [0,1,6,8,9,10,11,14,195] ?_
 refine CW_cd rfl (fun hc4 => ?_) (fun hc4 => ?_)
 ·refine CW_sr ?_
  refine RW_m ?_
  refine RW_m ?_
  refine RW_m ?_
  refine RW_m ?_
  refine RW_l (Yl_sub (c := ((sz - j : Nat) : Int)) rfl rfl (by rw [wi64 om_ om_]; omega)) ?_
  refine RW_l (Yl_buildA (cs := [nv (S.of_ k1), nv (sz - j)]) un_128 sz_2 ze_128 rfl rfl) ?_
  refine RW_fx rfl rfl rfl (Fx_lit (vs := [.agg [nv (S.of_ k1), nv (sz - j)].toArray]) (css := [[nv (S.of_ k1), nv (sz - j)]]) (cs := [nv (S.of_ k1), nv (sz - j)]) sl_125 ze_128 rfl rfl rfl rfl rfl (by intro c hc; rw [List.mem_singleton.1 hc]; rfl) rfl) ?_
  rintro _ _ ⟨b202, rfl, rfl⟩
  refine RW_fx rfl rfl rfl (Fx_appR (g := g) (xs := prs ls) (r := rr) (news := [nv (S.of_ k1), nv (sz - j)]) (T := 128) (n := ls.length) (cap := l) (m := 1) (c := 1) rfl rfl sl_125 (.here _ _) (.here _ _) hlen (length_prs _) rfl (by intro u hu; simp only [List.mem_cons, List.not_mem_nil, or_false] at hu; rcases hu with rfl | rfl <;> rfl) om_) ?_
  rintro _ _ ⟨r1, rfl, hl1, rfl⟩
  rw [prs_snoc] at hl1
  rw [prs_snoc]
  have hrun2 : Run S.ad (k * S.u) (ls ++ [(S.of_ k1, sz - j)]) (k * S.u + (j + (sz - j))) := by
   have := h.piece (k := k1) (r := 0) (l := sz - j) hrun om_ om_ om_
   rw [Nat.add_zero, Nat.add_assoc] at this
   exact this
  have hsm2 : Small (ls ++ [(S.of_ k1, sz - j)]) := hsm.snoc om_ om_
  refine RW_a ?_
  refine RW_lv [0,1,9,11] ?_
  refine CW_sr ?_
  refine RW_m ?_
  refine RW_m ?_
  refine RW_m ?_
  refine RW_l (Yl_sub (c := ((sz - j : Nat) : Int)) rfl rfl (by rw [wi64 om_ om_]; omega)) ?_
  refine RW_n ?_
  refine RW_f fo_93_6 ?_
  refine RW_fx0 rfl rfl (Fx_store (v := nv (sz - j)) rfl rfl sz_2 rfl rep_ (by simp [fiF])) ?_
  rintro _ _ rfl
  refine RW_lv [9] ?_
  refine CW_seq ?_
  have hjs : k * S.u + (j + (sz - j)) = k * S.u + sz := by omega
  rw [hjs] at hrun2
  refine CW_region ?_
  refine RW_m ?_
  refine RW_fx rfl rfl rfl (Fx_call ok_63 (vs := [.slice (some ⟨g, 0, none⟩) (ls.length + 1) l]) rfl (Pick.cons (.here _ _) (Pick.nil _)) (compress_ct (k * S.u) (k * S.u + sz) g (ls.length + 1) l (ls ++ [(S.of_ k1, sz - j)]) r1 (by simp) hrun2 hsm2 hl1 om_ om_)) ?_
  rintro _ _ ⟨_, ⟨l2, r2, hrun3, hsm3, hlen3, rfl, rfl⟩, rfl⟩
  refine RW_a ?_
  refine RW_a ?_
  refine RW_lv [4,5] ?_
  refine CW_ret ?_
  refine QW_ret_then ?_
  refine QW_ret_block ?_
  refine QW_ret_then ?_
  refine QW_ret_block ?_
  first
   | exact QW_ret2 rfl rfl rfl ((g, blk (prs l2 ++ r2) 128) :: S.fb (pos) (k1 + 1) (0) :: S.rb :: S.G) (.inl ⟨k1 + 1, 0, g, l2, r2, l, by omega, by omega, hrun3, hsm3, hlen3, by omega, rfl, rfl⟩) (Prm.nil _)
   | exact QW_ret2 rfl rfl rfl ((g, blk (prs l2 ++ r2) 128) :: S.fb (pos) (k1) (sz - j) :: S.rb :: S.G) (.inl ⟨k1, sz - j, g, l2, r2, l, by omega, by omega, hrun3, hsm3, hlen3, by omega, rfl, rfl⟩) (Prm.nil _)
   | (refine QW_dropB (e := (g, _)) (by repeat (first | exact Rem.here _ _ | apply Rem.there)) ?_; exact QW_ret2 rfl rfl rfl (_ :: S.rb :: S.G) (.inr ⟨⟨k1, by omega, hft⟩, ⟨ty, em, ex, hty, rfl⟩, _, rfl⟩) (Prm.nil _))
 refine CW_sr ?_
 refine RW_m ?_
 refine RW_m ?_
 refine RW_m ?_
 refine RW_l (Yl_buildA (cs := [nv (S.of_ k1), nv (S.u)]) un_128 sz_2 ze_128 rfl rfl) ?_
 refine RW_fx rfl rfl rfl (Fx_lit (vs := [.agg [nv (S.of_ k1), nv (S.u)].toArray]) (css := [[nv (S.of_ k1), nv (S.u)]]) (cs := [nv (S.of_ k1), nv (S.u)]) sl_125 ze_128 rfl rfl rfl rfl rfl (by intro c hc; rw [List.mem_singleton.1 hc]; rfl) rfl) ?_
 rintro _ _ ⟨b216, rfl, rfl⟩
 refine RW_fx rfl rfl rfl (Fx_appR (g := g) (xs := prs ls) (r := rr) (news := [nv (S.of_ k1), nv (S.u)]) (T := 128) (n := ls.length) (cap := l) (m := 1) (c := 1) rfl rfl sl_125 (.here _ _) (.here _ _) hlen (length_prs _) rfl (by intro u hu; simp only [List.mem_cons, List.not_mem_nil, or_false] at hu; rcases hu with rfl | rfl <;> rfl) om_) ?_
 rintro _ _ ⟨r1, rfl, hl1, rfl⟩
 rw [prs_snoc] at hl1
 rw [prs_snoc]
 have hrun2 : Run S.ad (k * S.u) (ls ++ [(S.of_ k1, S.u)]) (k * S.u + (j + (S.u))) := by
  have := h.piece (k := k1) (r := 0) (l := S.u) hrun om_ om_ om_
  rw [Nat.add_zero, Nat.add_assoc] at this
  exact this
 have hsm2 : Small (ls ++ [(S.of_ k1, S.u)]) := hsm.snoc om_ om_
 refine RW_a ?_
 refine RW_lv [0,1,6,8,9,10,11] ?_
 refine CW_sr ?_
 refine RW_m ?_
 refine RW_m ?_
 refine RW_l (Yl_add (c := ((j + S.u : Nat) : Int)) rfl rfl (wi64 om_ om_)) ?_
 refine RW_a ?_
 refine RW_lv [0,1,6,8,9,10,11] ?_
 refine CW_seq ?_
 by_cases hft : ft k1
 ·skip
  refine CW_draw [16] _ mixed (Sub.refl _) ?_
  refine RD_m 0 ?_
  refine RD_m 1 ?_
  refine RD_n 2 ?_
  refine RD_f 3 fo_93_8 ?_
  refine RD_m 5 ?_
  refine RD_n 6 ?_
  refine RD_f 7 fo_93_5 ?_
  refine RD_m 9 ?_
  refine RD_h (i := 4) #[true, true, true, true, false, true, true, true, true, true, false, false, false, false, false, false, false, false] rfl rfl rfl rfl kr_ (fun _ _ _ h => h) (Yh_ld (v := pv S.br) sc_78) ?_
  refine RD_h (i := 8) #[true, true, true, true, true, true, true, true, false, true, false, false, false, false, false, false, false, false] rfl rfl rfl rfl kr_ (fun _ _ _ h => h) (Yh_ld (v := uv (snx S.cs (k1))) sc_67) ?_
  refine RD_o 10 ?_
  refine RO_fx rfl rfl rfl rfl (Fx_callQ ok_60 (vs := [pv S.br, uv (snx S.cs (k1)), .bool S.mini]) (R := fun v => v = .tuple #[uv (snx S.cs (k1 + 1)), .nilIface]) rfl (Pick.cons (.there _ (.there _ (.here _ _))) (pick_mid _ [_, _] _)) (h.nx (k1) om_ hft)) ?_
  rintro _ _ ⟨rfl, rfl⟩
  refine ⟨Or.inr (Sub.refl _), ?_⟩
  refine RD_m 11 ?_
  refine RD_l 12 rfl (Yl_extract (v := uv (snx S.cs (k1 + 1))) rfl rfl) ?_
  refine RD_l 13 rfl (Yl_extract (v := .nilIface) rfl rfl) ?_
  refine RD_n 14 ?_
  refine RD_f 15 fo_93_5 ?_
  refine RD_o 16 ?_
  refine RO_fx0 rfl rfl rfl (Fx_store (v := uv (snx S.cs (k1 + 1))) rfl rfl sz_67 rfl rep_ (by simp [fiF])) ?_
  rintro _ _ rfl
  refine ⟨Or.inl kr_, ?_⟩
  refine RD_a 17 ?_
  refine (RD_done kr_ (QW_lv [0,1,6,8,9,10,11,15] ?_))
  refine CW_seq ?_
  refine CW_sr ?_
  refine RW_m ?_
  refine RW_l (Yl_ifNeNil rfl if_105) ?_
  refine RW_lv [0,1,6,8,9,10,11,15,238] ?_
  refine CW_cond rfl (fun hc5 => ?_) (fun hc5 => ?_)
  ·skip
   exact absurd hc5 (by decide)
  skip
  refine (CW_skip (QW_lv [0,1,6,8,9,10,11] ?_))
  refine CW_sr ?_
  refine RW_m ?_
  refine RW_m ?_
  refine RW_l (Yl_eql rfl rfl) ?_
  refine RW_lv [0,1,6,8,9,10,11,242] ?_
  refine CW_cd rfl (fun hc6 => ?_) (fun hc6 => ?_)
  ·refine CW_seq ?_
   have hjs : k * S.u + (j + S.u) = k * S.u + sz := by omega
   rw [hjs] at hrun2
   refine CW_region ?_
   refine RW_m ?_
   refine RW_fx rfl rfl rfl (Fx_call ok_63 (vs := [.slice (some ⟨g, 0, none⟩) (ls.length + 1) l]) rfl (Pick.cons (.here _ _) (Pick.nil _)) (compress_ct (k * S.u) (k * S.u + sz) g (ls.length + 1) l (ls ++ [(S.of_ k1, S.u)]) r1 (by simp) hrun2 hsm2 hl1 om_ om_)) ?_
   rintro _ _ ⟨_, ⟨l2, r2, hrun3, hsm3, hlen3, rfl, rfl⟩, rfl⟩
   refine RW_a ?_
   refine RW_a ?_
   refine RW_lv [4,5] ?_
   refine CW_ret ?_
   refine QW_ret_then ?_
   refine QW_ret_block ?_
   refine QW_ret_then ?_
   refine QW_ret_block ?_
   first
    | exact QW_ret2 rfl rfl rfl ((g, blk (prs l2 ++ r2) 128) :: S.fb (pos) (k1 + 1) (0) :: S.rb :: S.G) (.inl ⟨k1 + 1, 0, g, l2, r2, l, by omega, by omega, hrun3, hsm3, hlen3, by omega, rfl, rfl⟩) (Prm.nil _)
    | exact QW_ret2 rfl rfl rfl ((g, blk (prs l2 ++ r2) 128) :: S.fb (pos) (k1) (sz - j) :: S.rb :: S.G) (.inl ⟨k1, sz - j, g, l2, r2, l, by omega, by omega, hrun3, hsm3, hlen3, by omega, rfl, rfl⟩) (Prm.nil _)
    | (refine QW_dropB (e := (g, _)) (by repeat (first | exact Rem.here _ _ | apply Rem.there)) ?_; exact QW_ret2 rfl rfl rfl (_ :: S.rb :: S.G) (.inr ⟨⟨k1, by omega, hft⟩, ⟨ty, em, ex, hty, rfl⟩, _, rfl⟩) (Prm.nil _))
  refine (CW_skip (QW_lv [0,1,6,8,9,10,11] ?_))
  refine CW_region ?_
  refine RW_m ?_
  refine RW_l (Yl_add (c := ((ls.length + 1 : Nat) : Int)) rfl rfl (wi64 om_ om_)) ?_
  refine RW_a ?_
  refine RW_nil ?_
  refine QW_normal_block ?_
  exact QW_round (j + S.u, k1 + 1, ls.length + 1, ls ++ [(S.of_ k1, S.u)], r1) ⟨by simp only; omega, by simp only; omega, hrun2, hsm2, hl1, by simp, by simp only; omega⟩ (by simp only; omega) prm_ (.cons rfl (.cons rfl (.cons rfl (.cons rfl (.cons (by simp only [List.length_append, List.length_singleton]; rfl) (.cons rfl (.cons rfl .nil)))))))
 skip
 refine CW_draw [16] _ mixed (Sub.refl _) ?_
 refine RD_m 0 ?_
 refine RD_m 1 ?_
 refine RD_n 2 ?_
 refine RD_f 3 fo_93_8 ?_
 refine RD_m 5 ?_
 refine RD_n 6 ?_
 refine RD_f 7 fo_93_5 ?_
 refine RD_m 9 ?_
 refine RD_h (i := 4) #[true, true, true, true, false, true, true, true, true, true, false, false, false, false, false, false, false, false] rfl rfl rfl rfl kr_ (fun _ _ _ h => h) (Yh_ld (v := pv S.br) sc_78) ?_
 refine RD_h (i := 8) #[true, true, true, true, true, true, true, true, false, true, false, false, false, false, false, false, false, false] rfl rfl rfl rfl kr_ (fun _ _ _ h => h) (Yh_ld (v := uv (snx S.cs (k1))) sc_67) ?_
 refine RD_o 10 ?_
 refine RO_fx rfl rfl rfl rfl (Fx_callQ ok_60 (vs := [pv S.br, uv (snx S.cs (k1)), .bool S.mini]) (R := fun v => ∃ (ty : Nat) (m : List UInt8) (x : Int), ty ≤ 10 ∧ v = .tuple #[uv 0, .iface 123 (.agg #[nv ty, .string (bar m), .int .i64 x])]) rfl (Pick.cons (.there _ (.there _ (.here _ _))) (pick_mid _ [_, _] _)) (h.bad k1 om_ hft)) ?_
 rintro _ _ ⟨⟨ty, em, ex, hty, rfl⟩, rfl⟩
 refine ⟨Or.inr (Sub.refl _), ?_⟩
 refine RD_m 11 ?_
 refine RD_l 12 rfl (Yl_extract (v := uv 0) rfl rfl) ?_
 refine RD_l 13 rfl (Yl_extract (v := .iface 123 (.agg #[nv ty, .string (bar em), .int .i64 ex])) rfl rfl) ?_
 refine RD_n 14 ?_
 refine RD_f 15 fo_93_5 ?_
 refine RD_o 16 ?_
 refine RO_fx0 rfl rfl rfl (Fx_store (v := uv 0) rfl rfl sz_67 rfl rep_ (by simp [fiF])) ?_
 rintro _ _ rfl
 refine ⟨Or.inl kr_, ?_⟩
 refine RD_a 17 ?_
 refine (RD_done kr_ (QW_lv [0,1,6,8,9,10,11,15] ?_))
 refine CW_seq ?_
 refine CW_sr ?_
 refine RW_m ?_
 refine RW_l (Yl_ifNe rfl if_105) ?_
 refine RW_lv [0,1,6,8,9,10,11,15,238] ?_
 refine CW_cond rfl (fun hc7 => ?_) (fun hc7 => ?_)
 ·skip
  refine CW_sr ?_
  refine RW_m ?_
  refine RW_a ?_
  refine RW_a ?_
  refine RW_lv [4,5] ?_
  refine CW_ret ?_
  refine QW_ret_then ?_
  refine QW_ret_then ?_
  refine QW_ret_block ?_
  refine QW_ret_then ?_
  refine QW_ret_block ?_
  first
   | exact QW_ret2 rfl rfl rfl ((g, blk (prs l2 ++ r2) 128) :: S.fb (pos) (k1 + 1) (0) :: S.rb :: S.G) (.inl ⟨k1 + 1, 0, g, l2, r2, l, by omega, by omega, hrun3, hsm3, hlen3, by omega, rfl, rfl⟩) (Prm.nil _)
   | exact QW_ret2 rfl rfl rfl ((g, blk (prs l2 ++ r2) 128) :: S.fb (pos) (k1) (sz - j) :: S.rb :: S.G) (.inl ⟨k1, sz - j, g, l2, r2, l, by omega, by omega, hrun3, hsm3, hlen3, by omega, rfl, rfl⟩) (Prm.nil _)
   | (refine QW_dropB (e := (g, _)) (by repeat (first | exact Rem.here _ _ | apply Rem.there)) ?_; exact QW_ret2 rfl rfl rfl (_ :: S.rb :: S.G) (.inr ⟨⟨k1, by omega, hft⟩, ⟨ty, em, ex, hty, rfl⟩, _, rfl⟩) (Prm.nil _))
 skip
 exact absurd hc7 (by decide)

structure Src.RdT (S : Src) (bs N : Nat) (B : List UInt8) (bE : EofB) : Prop where
  rd7 : S.rd[7]? = some (.iface 79 (.pointer (some ⟨bs, 0, none⟩)))
  len : B.length = N
  e0 : ∃ T0 fz0, (0, Obj.cells [.iface 181 (.pointer (some ⟨bE.b, bE.o, none⟩))].toArray T0 fz0) ∈ S.G
  ra : ∀ bp o m c off lp T, 0 < m → off + m ≤ N → o + m ≤ lp.length → Ct Tryd.prog 93 [.pointer (some ⟨bs, 0, none⟩), .slice (some ⟨bp, o, none⟩) m c, nv off] ((bp, blk lp T) :: S.G) (fun v q => v = .tuple #[nv m, .nilIface] ∧ q = (bp, blk (spl o (bys ((B.drop off).take m)) lp) T) :: S.G)
  rs : ∀ bp o m c off lp T, N < off + m → off ≤ 1000000000 → m ≤ 1000000000 → o + m ≤ lp.length → Ct Tryd.prog 93 [.pointer (some ⟨bs, 0, none⟩), .slice (some ⟨bp, o, none⟩) m c, nv off] ((bp, blk lp T) :: S.G) (fun v q => v = .tuple #[nv (N - off), .iface 181 (.pointer (some ⟨bE.b, bE.o, none⟩))] ∧ q = (bp, blk (spl o (bys ((B.drop off).take (N - off))) lp) T) :: S.G)
  er : Ct Tryd.prog 114 [.pointer (some ⟨bE.b, bE.o, none⟩)] S.G (fun v q => v = .string (bar [69, 79, 70]) ∧ q = S.G)
def DatT (ad : Nat → Nat) (B D : List UInt8) : Prop := ∀ i, i < D.length → ad i < B.length → B[ad i]? = D[i]?
theorem DatT.piece {ad : Nat → Nat} {B D : List UInt8} (h : DatT ad B D) {q o l : Nat} (h1 : ∀ j, j < l → ad (q + j) = o + j) (h2 : q + l ≤ D.length) (h3 : o + l ≤ B.length) : (B.drop o).take l = (D.drop q).take l := by
  apply List.ext_getElem?
  intro i
  by_cases hi : i < l
  · rw [List.getElem?_take_of_lt hi, List.getElem?_take_of_lt hi, List.getElem?_drop, List.getElem?_drop, ← h1 i hi]
    exact h (q + i) om_ (by rw [h1 i hi]; omega)
  rw [List.getElem?_eq_none (by simp; omega), List.getElem?_eq_none (by simp; omega)]
theorem DatT.short {ad : Nat → Nat} {B D : List UInt8} (h : DatT ad B D) {q o m N : Nat} (hN : B.length = N) (h1 : ∀ j, j < m → ad (q + j) = o + j) (h2 : q + m ≤ D.length) (h3 : N < o + m) : (B.drop o).take (N - o) = (D.drop q).take (N - o) := by
  by_cases ho : o ≤ N
  · exact h.piece (fun j hj => h1 j om_) om_ om_
  rw [show N - o = 0 by omega]; simp
def CodeT (e : Value) (t m : Nat) (bad : Prop) : Prop := Ct Tryd.prog 40 [e] [] (fun v q => (∃ c, c ≤ 11 ∧ (t = m ∨ (1 ≤ c ∧ bad)) ∧ v = nv c) ∧ q = [])
theorem CodeT.eof (b : Prop) [Decidable b] (u : Value) (m : Nat) (bad : Prop) : CodeT (if b then .nilIface else .iface 181 u) m m bad :=
  (code_eof b 181 u rfl).mono (by rintro v q ⟨rfl, rfl⟩; exact ⟨⟨_, by split <;> omega, .inl rfl, rfl⟩, rfl⟩)
theorem CodeT.err {e : Value} {t m : Nat} {bad : Prop} (h : ErrX e) (hb : bad) : CodeT e t m bad :=
  h.code.mono (by rintro v q ⟨⟨c, h1, h2, rfl⟩, rfl⟩; exact ⟨⟨c, h2, .inr ⟨h1, hb⟩, rfl⟩, rfl⟩)
theorem p_rd5' (a b d : Nat × Obj) (G F : Heap) : (a :: b :: (G ++ (d :: F))).Perm (a :: b :: d :: (G ++ F)) := ((List.perm_middle).cons b).cons a
theorem p_rd3' (a b c d : Nat × Obj) (G F : Heap) : (a :: b :: c :: (G ++ (d :: F))).Perm (a :: b :: c :: d :: (G ++ F)) := (((List.perm_middle).cons c).cons b).cons a
theorem p_rd4' (x a b c d : Nat × Obj) (G F : Heap) : (x :: (G ++ (a :: b :: c :: d :: F))).Perm (a :: b :: c :: d :: x :: (G ++ F)) := perm_front (x :: G) [a, b, c, d] F

theorem ReadTry_ct (S : Src) (ft : Nat → Prop) (h : S.Try ft) (bs N : Nat) (B : List UInt8) (bE : EofB) (hR : S.RdT bs N B bE) (hN9 : N ≤ 1000000000) (D : List UInt8) (hD : DatT S.ad B D) (hDl : D.length = S.size) (p k n m : Nat) (hp : k * S.u = p) (hlt : p < S.size) (hn : 0 < n) (hm : m = min n (S.size - p))
  (bb o c : Nat) (lb : List Value) (Tb : TypeId) (hnc : n ≤ c) (hc : c ≤ 1000000) (hlb : o + n ≤ lb.length) :
  Ct Tryd.prog 41 [pv S.bf, .slice (some ⟨bb, o, none⟩) n c] (S.fb (p) (k) (0) :: S.rb :: (bb, blk lb Tb) :: S.G)
   (fun v q => ∃ t y e, t ≤ m ∧ q = (S.bf, y) :: S.rb :: (bb, blk (spl o (bys ((D.drop p).take (t))) lb) Tb) :: S.G ∧ v = .tuple #[nv t, e] ∧ CodeT e t m (S.Bad ft N)) := by
 have hsz1 := h.sz
 obtain ⟨T0, fz0, hE0⟩ := hR.e0
 refine Ct_of Tryd.func41 rfl Tryd.ntmps41 rfl ?_
 intro E F
 simp only [numL, List.nil_append, List.cons_append]
 refine CW_sr ?_
 refine RW_a ?_
 refine RW_a ?_
 refine RW_lv [0,1] ?_
 refine CW_seq ?_
 refine CW_seq ?_
 refine CW_draw [] _ mixed (Sub.refl _) ?_
 refine RD_m 0 ?_
 refine RD_n 1 ?_
 refine RD_f 2 fo_93_3 ?_
 refine RD_h (i := 3) #[true, true, true, false, false, false, false, false, false, false, false, false, false, false, false, false] rfl rfl rfl rfl kr_ (fun _ _ _ h => h) (Yh_ld (v := nv S.size) sc_2) ?_
 refine RD_l 4 rfl (Yl_lss rfl rfl) ?_
 refine RD_m 5 ?_
 refine RD_bool 21 rfl (fun hg1 => ?_) (fun hg1 => ?_)
 ·replace hg1 := of_decide_eq_true hg1
  exfalso; omega
 replace hg1 := of_decide_eq_false hg1
 refine RD_m 6 ?_
 refine RD_n 7 ?_
 refine RD_f 8 fo_93_4 ?_
 refine RD_m 10 ?_
 refine RD_n 11 ?_
 refine RD_f 12 fo_93_3 ?_
 refine RD_h (i := 9) #[true, true, true, true, true, true, true, true, true, false, true, true, true, true, false, false] rfl rfl rfl rfl kr_ (fun _ _ _ h => h) (Yh_ld (v := nv (p)) sc_2) ?_
 refine RD_h (i := 13) #[true, true, true, true, true, true, true, true, true, true, true, true, true, false, false, false] rfl rfl rfl rfl kr_ (fun _ _ _ h => h) (Yh_ld (v := nv S.size) sc_2) ?_
 refine RD_l 14 rfl (Yl_geq rfl rfl) ?_
 refine RD_l 15 rfl (Yl_pick_f rfl rfl) ?_
 refine (RD_done kr_ (QW_lv [0,1,31] ?_))
 refine CW_cd rfl (fun hc2 => ?_) (fun hc2 => ?_)
 ·exfalso; omega
 refine (CW_skip (QW_lv [0,1] ?_))
 refine CW_sr ?_
 refine RW_m ?_
 refine RW_l (Yl_len rfl sl_23) ?_
 refine RW_a ?_
 refine RW_lv [0,1,6] ?_
 refine CW_cut (σ := Unit) (fun _ => [(0, pv S.bf), (1, .slice (some ⟨bb, o, none⟩) n c), (6, nv m)]) (fun _ => S.fb (p) (k) (0) :: S.rb :: (bb, blk lb Tb) :: (S.G ++ F)) (fun _ => True) ?_ ?_
 ·skip
  refine CW_seq ?_
  refine CW_draw [] _ mixed (Sub.refl _) ?_
  refine RD_m 0 ?_
  refine RD_m 1 ?_
  refine RD_n 2 ?_
  refine RD_f 3 fo_93_3 ?_
  refine RD_m 5 ?_
  refine RD_n 6 ?_
  refine RD_f 7 fo_93_4 ?_
  refine RD_h (i := 4) #[true, true, true, true, false, true, true, true, true, false, false] rfl rfl rfl rfl kr_ (fun _ _ _ h => h) (Yh_ld (v := nv S.size) sc_2) ?_
  refine RD_h (i := 8) #[true, true, true, true, true, true, true, true, false, false, false] rfl rfl rfl rfl kr_ (fun _ _ _ h => h) (Yh_ld (v := nv (p)) sc_2) ?_
  refine RD_l 9 rfl (Yl_sub (c := ((S.size - p : Nat) : Int)) rfl rfl (by rw [wi64 om_ om_]; omega)) ?_
  refine RD_l 10 rfl (Yl_gtr rfl rfl) ?_
  refine (RD_done kr_ (QW_lv [0,1,6,45] ?_))
  refine CW_cd rfl (fun hc3 => ?_) (fun hc3 => ?_)
  ·refine CW_draw [] _ mixed (Sub.refl _) ?_
   refine RD_m 0 ?_
   refine RD_n 1 ?_
   refine RD_f 2 fo_93_3 ?_
   refine RD_m 4 ?_
   refine RD_n 5 ?_
   refine RD_f 6 fo_93_4 ?_
   refine RD_h (i := 3) #[true, true, true, false, true, true, true, true, false, false] rfl rfl rfl rfl kr_ (fun _ _ _ h => h) (Yh_ld (v := nv S.size) sc_2) ?_
   refine RD_h (i := 7) #[true, true, true, true, true, true, true, false, false, false] rfl rfl rfl rfl kr_ (fun _ _ _ h => h) (Yh_ld (v := nv (p)) sc_2) ?_
   refine RD_l 8 rfl (Yl_sub (c := ((S.size - p : Nat) : Int)) rfl rfl (by rw [wi64 om_ om_]; omega)) ?_
   refine RD_a 9 ?_
   refine RD_done kr_ ?_
   first
    | (have e1 : m = n := (by omega); subst e1; exact QW_cut () trivial (by repeat (first | exact Prm.nil _ | exact Rem.here _ _ | apply Rem.there | apply Prm.cons)) (.cons rfl (.cons rfl (.cons rfl .nil))))
    | (have e1 : m = S.size - p := (by omega); subst e1; exact QW_cut () trivial (by repeat (first | exact Prm.nil _ | exact Rem.here _ _ | apply Rem.there | apply Prm.cons)) (.cons rfl (.cons rfl (.cons rfl .nil))))
  refine CW_skip ?_
  first
   | (have e1 : m = n := (by omega); subst e1; exact QW_cut () trivial (by repeat (first | exact Prm.nil _ | exact Rem.here _ _ | apply Rem.there | apply Prm.cons)) (.cons rfl (.cons rfl (.cons rfl .nil))))
   | (have e1 : m = S.size - p := (by omega); subst e1; exact QW_cut () trivial (by repeat (first | exact Prm.nil _ | exact Rem.here _ _ | apply Rem.there | apply Prm.cons)) (.cons rfl (.cons rfl (.cons rfl .nil))))
 rintro ⟨⟩ -
 refine CW_sr ?_
 refine RW_m ?_
 refine RW_m ?_
 refine RW_fx rfl rfl rfl (Fx_call ok_52 (vs := [pv S.bf, nv m]) rfl (Pick.cons (.here _ _) (Pick.cons (.here _ _) (pick_mid S.G [_] F))) (streamTry_ct S ft h p k m om_ om_)) ?_
 rintro _ _ ⟨_, (⟨k', r', g, l2, r2, cap, hr', hk', hrun, hsm, hlen, hcap, rfl, rfl⟩ | ⟨hbad, ⟨ty, em, ex, hty, rfl⟩, y, rfl⟩), rfl⟩
 ·skip
  simp only [List.cons_append, List.nil_append]
  refine RW_heap (p_rd3' _ _ _ _ _ _) ?_
  rw [hp] at hrun hk'
  refine RW_m ?_
  refine RW_l (Yl_extract (v := .slice (some ⟨g, 0, none⟩) l2.length cap) rfl rfl) ?_
  refine RW_l (Yl_extract (v := .nilIface) rfl rfl) ?_
  refine RW_a ?_
  refine RW_a ?_
  refine RW_lv [0,1,6,7,8] ?_
  refine CW_seq ?_
  refine CW_sr ?_
  refine RW_m ?_
  refine RW_l (Yl_ifNeNil rfl if_105) ?_
  refine RW_lv [0,1,6,7,8,62] ?_
  refine CW_cond rfl (fun hc4 => ?_) (fun hc4 => ?_)
  ·skip
   exact absurd hc4 (by decide)
  skip
  refine (CW_skip (QW_lv [0,1,6,7,8] ?_))
  refine CW_sr ?_
  refine RW_a ?_
  refine RW_a ?_
  refine RW_lv [0,1,6,7,8,9,10] ?_
  refine CW_seq ?_
  refine CW_sr ?_
  refine RW_m ?_
  refine RW_l (Yl_len rfl sl_125) ?_
  refine RW_m ?_
  refine RW_lv [0,1,6,8,9,10,64,65,66] ?_
  refine CW_block ?_
  refine CW_loop (σ := Nat) (fun x => [(0, pv S.bf), (1, .slice (some ⟨bb, o, none⟩) n c), (6, nv m), (8, .nilIface), (9, nv (tot l2 x)), (10, nv (tot l2 x)), (64, .slice (some ⟨g, 0, none⟩) l2.length cap), (65, nv l2.length), (66, nv x)]) (fun x => (g, blk (prs l2 ++ r2) 128) :: S.fb (p) (k') (r') :: S.rb :: (bb, blk (spl o (bys ((D.drop p).take (tot l2 x))) lb) Tb) :: (S.G ++ F)) (fun x => x ≤ l2.length) (fun x => l2.length - x) 0 (Nat.zero_le _) (by rw [show tot l2 0 = 0 from rfl, spl_none]; exact Prm.nil _) kp_ ?_
  rintro x hx
  refine CW_sr ?_
  refine RW_l (Yl_lss rfl rfl) ?_
  refine RW_lv [0,1,6,8,9,10,64,65,66,67] ?_
  refine CW_seq ?_
  refine CW_cd rfl (fun hc5 => ?_) (fun hc5 => ?_)
  ·refine (CW_skip (QW_lv [0,1,6,8,9,10,64,65,66] ?_))
   refine CW_seq ?_
   refine CW_block ?_
   refine CW_seq ?_
   obtain ⟨hg1, hg2⟩ := hrun.get x om_
   have hts := tot_succ l2 x om_
   have hfs := hrun.fits (k := x + 1) om_
   have hcl : l2.length ≤ cap := by rw [List.length_append, length_prs] at hlen; omega
   obtain ⟨hsx1, hsx2⟩ := hsm x om_
   refine CW_region ?_
   refine RW_l (Yl_indexN (b := g) (off := 0) (i := x) (o' := x * 2) rfl rfl sl_125 om_ om_) ?_
   refine RW_h (Yh_loadE (cs := [nv (l2.getD x default).1, nv (l2.getD x default).2]) rfl ag_128 mem_ (by rw [List.length_append, length_prs]; omega) (prs_cut om_)) ?_
   refine RW_fx rfl rfl rfl (Fx_alloc (zs := zs_128) ze_128 rfl) ?_
   rintro _ _ ⟨b12, rfl, rfl⟩
   refine RW_fx0 rfl rfl (Fx_storeA (b := b12) (off := 0) (l := zs_128) (T := 128) (cs := [nv (l2.getD x default).1, nv (l2.getD x default).2]) rfl rfl sz_128 (by intro u hu; simp only [List.mem_cons, List.not_mem_nil, or_false] at hu; rcases hu with rfl | rfl <;> rfl) rep_ (Nat.le_refl 2)) ?_
   rintro _ _ rfl
   rw [spl_full _ _ (by rfl)]
   refine RW_lv [0,1,6,8,9,10,12,64,65,66] ?_
   refine CW_sr ?_
   refine RW_m ?_
   refine RW_l (Yl_indexAN (b := b12) (off := 0) (i := 1) (o' := 1) rfl rfl ar_128 om_ rfl) ?_
   refine RW_h (Yh_ld (v := nv (l2.getD x default).2) sc_2) ?_
   refine RW_l (Yl_add (c := ((tot l2 (x + 1) : Nat) : Int)) rfl rfl (by rw [wi64 om_ om_]; omega)) ?_
   refine RW_a ?_
   refine RW_lv [0,1,6,8,9,10,12,13,64,65,66] ?_
   refine CW_seq ?_
   refine CW_sr ?_
   refine RW_m ?_
   refine RW_m ?_
   refine RW_l (Yl_lss rfl rfl) ?_
   refine RW_m ?_
   refine RW_bool 77 rfl (fun hg6 => ?_) (fun hg6 => ?_)
   ·replace hg6 := of_decide_eq_true hg6
    exfalso; omega
   replace hg6 := of_decide_eq_false hg6
   refine RW_gy rfl rfl rfl (Yl.h (Yl_move rfl)) ?_
   refine RW_gy rfl rfl rfl (Yl.h (Yl_move rfl)) ?_
   refine RW_gy rfl rfl rfl (Yl.h (Yl_gtr rfl rfl)) ?_
   refine RW_l (Yl_pick_f rfl rfl) ?_
   refine RW_lv [0,1,6,8,9,10,12,13,64,65,66,81] ?_
   refine CW_cd rfl (fun hc7 => ?_) (fun hc7 => ?_)
   ·exfalso; omega
   refine (CW_skip (QW_lv [0,1,6,8,9,10,12,13,64,65,66] ?_))
   refine CW_seq ?_
   by_cases hfit : (l2.getD x default).1 + (l2.getD x default).2 ≤ N
   ·skip
    refine CW_draw [15] _ mixed (Sub.refl _) ?_
    refine RD_m 0 ?_
    refine RD_n 1 ?_
    refine RD_f 2 fo_93_8 ?_
    refine RD_m 7 ?_
    refine RD_m 8 ?_
    refine RD_m 9 ?_
    refine RD_l 10 rfl (Yl_cutLHN (l := tot l2 x) (h := tot l2 (x + 1)) (o' := o + tot l2 x) (m' := (l2.getD x default).2) rfl rfl rfl sl_23 om_ om_ om_ om_ om_) ?_
    refine RD_l 11 rfl (Yl_indexAN (b := b12) (off := 0) (i := 0) (o' := 0) rfl rfl ar_128 om_ rfl) ?_
    refine RD_h (i := 3) #[true, true, true, false, false, false, false, true, true, true, true, true, true, false, false, false, false, false, false, false, false] rfl rfl rfl rfl kr_ (fun _ _ _ h => h) (Yh_ld (v := pv S.br) sc_78) ?_
    refine RD_n 4 ?_
    refine RD_f 5 fo_89_7 ?_
    refine RD_h (i := 6) #[true, true, true, true, true, true, false, true, true, true, true, true, true, false, false, false, false, false, false, false, false] rfl rfl rfl rfl kr_ (fun _ _ _ h => h) (Yh_lh (v := .iface 79 (.pointer (some ⟨bs, 0, none⟩))) sc_85 hR.rd7) ?_
    refine RD_l 13 rfl (Yl_nilCheckI rfl) ?_
    refine RD_m 14 ?_
    refine RD_h (i := 12) #[true, true, true, true, true, true, true, true, true, true, true, true, false, true, true, false, false, false, false, false, false] rfl rfl rfl rfl kr_ (fun _ _ _ h => h) (Yh_ld (v := nv (l2.getD x default).1) sc_2) ?_
    refine RD_o 15 ?_
    refine RO_fx rfl rfl rfl rfl (Fx_invoke (T := 79) (v := .pointer (some ⟨bs, 0, none⟩)) (vs := [.slice (some ⟨bb, o + tot l2 x, none⟩) (l2.getD x default).2 (c - tot l2 x), nv (l2.getD x default).1]) rfl mt_79 pt_79 ok_93 rfl (Pick.cons (.there _ (.there _ (.there _ (.there _ (.here _ _))))) (pick_mid S.G [_, _, _, _] F)) (hR.ra bb (o + tot l2 x) (l2.getD x default).2 (c - tot l2 x) (l2.getD x default).1 _ Tb hg1 hfit (by rw [length_spl (by simp; omega)]; omega))) ?_
    rintro _ _ ⟨_, ⟨rfl, rfl⟩, rfl⟩
    simp only [List.cons_append, List.nil_append]
    refine ⟨Or.inl kr_, ?_⟩
    refine RD_m 16 ?_
    refine RD_l 17 rfl (Yl_extract (v := nv (l2.getD x default).2) rfl rfl) ?_
    refine RD_l 18 rfl (Yl_extract (v := .nilIface) rfl rfl) ?_
    refine RD_a 19 ?_
    refine RD_a 20 ?_
    refine (RD_done kr_ (QW_lv [0,1,6,8,9,10,13,14,15,64,65,66] ?_))
    refine CW_seq ?_
    refine CW_heap (p_rd4' _ _ _ _ _ _ _) ?_
    rw [hD.piece hg2 om_ (by rw [hR.len]; exact hfit), spl_piece om_ om_, ← hts]
    refine CW_region ?_
    refine RW_m ?_
    refine RW_m ?_
    refine RW_l (Yl_add (c := ((tot l2 (x + 1) : Nat) : Int)) rfl rfl (by rw [wi64 om_ om_]; omega)) ?_
    refine RW_a ?_
    refine RW_lv [0,1,6,8,9,10,13,15,64,65,66] ?_
    refine CW_seq ?_
    refine CW_sr ?_
    refine RW_m ?_
    refine RW_l (Yl_ifNeNil rfl if_105) ?_
    refine RW_lv [0,1,6,8,9,10,13,15,64,65,66,108] ?_
    refine CW_cond rfl (fun hc8 => ?_) (fun hc8 => ?_)
    ·skip
     exact absurd hc8 (by decide)
    skip
    refine (CW_skip (QW_lv [0,1,6,8,10,13,64,65,66] ?_))
    refine CW_region ?_
    refine RW_m ?_
    refine RW_a ?_
    refine RW_nil ?_
    refine QW_normal_block ?_
    refine (QW_lv [0,1,6,8,9,10,64,65,66] ?_)
    refine CW_region ?_
    refine RW_l (Yl_add (c := ((x + 1 : Nat) : Int)) rfl rfl (wi64 om_ om_)) ?_
    refine RW_m ?_
    refine RW_nil ?_
    refine QW_dropB (e := (b12, _)) rem_ ?_
    exact QW_rn (x + 1) om_ om_
   skip
   refine CW_draw [15] _ mixed (Sub.refl _) ?_
   refine RD_m 0 ?_
   refine RD_n 1 ?_
   refine RD_f 2 fo_93_8 ?_
   refine RD_m 7 ?_
   refine RD_m 8 ?_
   refine RD_m 9 ?_
   refine RD_l 10 rfl (Yl_cutLHN (l := tot l2 x) (h := tot l2 (x + 1)) (o' := o + tot l2 x) (m' := (l2.getD x default).2) rfl rfl rfl sl_23 om_ om_ om_ om_ om_) ?_
   refine RD_l 11 rfl (Yl_indexAN (b := b12) (off := 0) (i := 0) (o' := 0) rfl rfl ar_128 om_ rfl) ?_
   refine RD_h (i := 3) #[true, true, true, false, false, false, false, true, true, true, true, true, true, false, false, false, false, false, false, false, false] rfl rfl rfl rfl kr_ (fun _ _ _ h => h) (Yh_ld (v := pv S.br) sc_78) ?_
   refine RD_n 4 ?_
   refine RD_f 5 fo_89_7 ?_
   refine RD_h (i := 6) #[true, true, true, true, true, true, false, true, true, true, true, true, true, false, false, false, false, false, false, false, false] rfl rfl rfl rfl kr_ (fun _ _ _ h => h) (Yh_lh (v := .iface 79 (.pointer (some ⟨bs, 0, none⟩))) sc_85 hR.rd7) ?_
   refine RD_l 13 rfl (Yl_nilCheckI rfl) ?_
   refine RD_m 14 ?_
   refine RD_h (i := 12) #[true, true, true, true, true, true, true, true, true, true, true, true, false, true, true, false, false, false, false, false, false] rfl rfl rfl rfl kr_ (fun _ _ _ h => h) (Yh_ld (v := nv (l2.getD x default).1) sc_2) ?_
   refine RD_o 15 ?_
   refine RO_fx rfl rfl rfl rfl (Fx_invoke (T := 79) (v := .pointer (some ⟨bs, 0, none⟩)) (vs := [.slice (some ⟨bb, o + tot l2 x, none⟩) (l2.getD x default).2 (c - tot l2 x), nv (l2.getD x default).1]) rfl mt_79 pt_79 ok_93 rfl (Pick.cons (.there _ (.there _ (.there _ (.there _ (.here _ _))))) (pick_mid S.G [_, _, _, _] F)) (hR.rs bb (o + tot l2 x) (l2.getD x default).2 (c - tot l2 x) (l2.getD x default).1 _ Tb om_ om_ om_ (by rw [length_spl (by simp; omega)]; omega))) ?_
   rintro _ _ ⟨_, ⟨rfl, rfl⟩, rfl⟩
   simp only [List.cons_append, List.nil_append]
   refine ⟨Or.inl kr_, ?_⟩
   refine RD_m 16 ?_
   refine RD_l 17 rfl (Yl_extract (v := nv (N - (l2.getD x default).1)) rfl rfl) ?_
   refine RD_l 18 rfl (Yl_extract (v := .iface 181 (.pointer (some ⟨bE.b, bE.o, none⟩))) rfl rfl) ?_
   refine RD_a 19 ?_
   refine RD_a 20 ?_
   refine (RD_done kr_ (QW_lv [0,1,6,8,9,10,13,14,15,64,65,66] ?_))
   refine CW_seq ?_
   refine CW_heap (p_rd4' _ _ _ _ _ _ _) ?_
   rw [hD.short hR.len hg2 om_ om_, spl_piece om_ om_]
   refine CW_region ?_
   refine RW_m ?_
   refine RW_m ?_
   refine RW_l (Yl_add (c := ((tot l2 x + (N - (l2.getD x default).1) : Nat) : Int)) rfl rfl (by rw [wi64 om_ om_]; omega)) ?_
   refine RW_a ?_
   refine RW_lv [0,1,6,8,9,10,13,15,64,65,66] ?_
   refine CW_seq ?_
   refine CW_sr ?_
   refine RW_m ?_
   refine RW_l (Yl_ifNe rfl if_105) ?_
   refine RW_lv [0,1,6,8,9,10,13,15,64,65,66,108] ?_
   refine CW_cond rfl (fun hc9 => ?_) (fun hc9 => ?_)
   ·skip
    refine CW_sr ?_
    refine RW_m ?_
    refine RW_n ?_
    refine RW_f fo_93_4 ?_
    refine RW_h (Yh_ld (v := nv (p)) sc_2) ?_
    refine RW_m ?_
    refine RW_l (Yl_add (c := ((p + (tot l2 x + (N - (l2.getD x default).1)) : Nat) : Int)) rfl rfl (by rw [wi64 om_ om_]; omega)) ?_
    refine RW_n ?_
    refine RW_f fo_93_4 ?_
    refine RW_fx0 rfl rfl (Fx_store (v := nv (p + (tot l2 x + (N - (l2.getD x default).1)))) rfl rfl sz_2 rfl rep_ (by simp [fiF])) ?_
    rintro _ _ rfl
    refine RW_lv [9,10,15] ?_
    refine CW_sr ?_
    refine RW_m ?_
    refine RW_m ?_
    refine RW_fx rfl rfl rfl (Fx_invokeQ (T := 181) (v := .pointer (some ⟨bE.b, bE.o, none⟩)) (vs := []) (R := fun v => v = .string (bar [69, 79, 70])) rfl mt_181 pt_181 ok_114 rfl (pick_mid S.G [_, _, _, _, _] F) hR.er) ?_
    rintro _ _ ⟨rfl, rfl⟩
    refine RW_l (Yl_concatB (a := [117, 110, 100, 101, 114, 108, 121, 105, 110, 103, 32, 114, 101, 97, 100, 101, 114, 32, 102, 97, 105, 108, 32, 40]) (b := [69, 79, 70]) rfl rfl (by simp)) ?_
    refine RW_l (Yl_concatB (a := [117, 110, 100, 101, 114, 108, 121, 105, 110, 103, 32, 114, 101, 97, 100, 101, 114, 32, 102, 97, 105, 108, 32, 40] ++ [69, 79, 70]) (b := [41]) rfl rfl (by simp)) ?_
    refine RW_m ?_
    refine RW_l (Yl_build (cs := [nv 1, .string (bar (([117, 110, 100, 101, 114, 108, 121, 105, 110, 103, 32, 114, 101, 97, 100, 101, 114, 32, 102, 97, 105, 108, 32, 40] ++ [69, 79, 70]) ++ [41])), nv (tot l2 x)]) pl_123 ze_123 rfl rfl) ?_
    refine RW_l (Yl_iface rfl co_123) ?_
    refine RW_a ?_
    refine RW_a ?_
    refine RW_lv [4,5] ?_
    refine CW_ret ?_
    refine QW_ret_then ?_
    refine QW_ret_block ?_
    refine QW_ret_then ?_
    refine QW_ret_then ?_
    refine QW_ret_block ?_
    refine QW_ret_then ?_
    first
     | (refine QW_dropB (e := (g, _)) (by repeat (first | exact Rem.here _ _ | apply Rem.there)) ?_; exact QW_ret2 rfl rfl rfl (_ :: S.rb :: (bb, blk (spl o (bys ((D.drop p).take (m))) lb) Tb) :: S.G) ⟨m, _, _, Nat.le_refl _, rfl, rfl, CodeT.eof _ _ _ _⟩ (Prm.nil _))
     | (refine QW_dropB (e := (b12, _)) (by repeat (first | exact Rem.here _ _ | apply Rem.there)) ?_; refine QW_dropB (e := (g, _)) (by repeat (first | exact Rem.here _ _ | apply Rem.there)) ?_; exact QW_ret2 rfl rfl rfl (_ :: S.rb :: (bb, blk (spl o (bys ((D.drop p).take (tot l2 x + (N - (l2.getD x default).1)))) lb) Tb) :: S.G) ⟨tot l2 x + (N - (l2.getD x default).1), _, _, by omega, rfl, rfl, CodeT.err ⟨1, _, _, by omega, rfl⟩ (.inr ⟨p + tot l2 x + ((l2.getD x default).2 - 1), by omega, by rw [hg2 _ (by omega)]; omega⟩)⟩ (Prm.nil _))
     | (exact QW_ret2 rfl rfl rfl ((S.bf, y) :: S.rb :: (bb, blk lb Tb) :: S.G) ⟨0, y, _, Nat.zero_le _, by rw [spl_none], rfl, CodeT.err ⟨ty, em, ex, hty, rfl⟩ (.inl hbad)⟩ (Prm.nil _))
   skip
   exact absurd hc9 (by decide)
  refine CW_exit ?_
  refine QW_exit_then ?_
  refine QW_exit_then ?_
  refine QW_exit_block ?_
  refine (QW_lv [0,1,6,8,10] ?_)
  refine CW_seq ?_
  have hxl : x = l2.length := by omega
  subst hxl
  have hall := hrun.all
  have htm : tot l2 l2.length = m := by omega
  rw [htm]
  refine CW_region ?_
  refine RW_m ?_
  refine RW_n ?_
  refine RW_f fo_93_4 ?_
  refine RW_h (Yh_ld (v := nv (p)) sc_2) ?_
  refine RW_m ?_
  refine RW_l (Yl_add (c := ((p + m : Nat) : Int)) rfl rfl (by rw [wi64 om_ om_]; omega)) ?_
  refine RW_n ?_
  refine RW_f fo_93_4 ?_
  refine RW_fx0 rfl rfl (Fx_store (v := nv (p + m)) rfl rfl sz_2 rfl rep_ (by simp [fiF])) ?_
  rintro _ _ rfl
  refine RW_lv [1,6,8,10] ?_
  refine CW_cut (σ := Unit) (fun _ => [(8, if n ≤ S.size - p then .nilIface else .iface 181 (.pointer (some ⟨bE.b, bE.o, none⟩))), (10, nv m)]) (fun _ => (g, blk (prs l2 ++ r2) 128) :: S.fb (p + m) (k') (r') :: S.rb :: (bb, blk (spl o (bys ((D.drop p).take (m))) lb) Tb) :: (S.G ++ F)) (fun _ => True) ?_ ?_
  ·skip
   refine CW_sr ?_
   refine RW_m ?_
   refine RW_m ?_
   refine RW_l (Yl_neq rfl rfl) ?_
   refine RW_lv [1,8,10,137] ?_
   refine CW_cd rfl (fun hc10 => ?_) (fun hc10 => ?_)
   ·exfalso; omega
   refine CW_sr ?_
   refine RW_m ?_
   refine RW_m ?_
   refine RW_l (Yl_len rfl sl_23) ?_
   refine RW_l (Yl_lss rfl rfl) ?_
   refine RW_lv [8,10,144] ?_
   refine CW_cd rfl (fun hc11 => ?_) (fun hc11 => ?_)
   ·refine CW_region ?_
    refine RW_h (Yh_load (v := .iface 181 (.pointer (some ⟨bE.b, bE.o, none⟩))) rfl sc_105 (by repeat (first | exact List.mem_append_left _ hE0 | apply List.Mem.tail)) rfl) ?_
    refine RW_a ?_
    refine RW_nil ?_
    first
     | exact QW_cut () trivial (by repeat (first | exact Prm.nil _ | exact Rem.here _ _ | apply Rem.there | apply Prm.cons)) (.cons (by rw [if_pos (by omega)]; rfl) (.cons rfl .nil))
     | exact QW_cut () trivial (by repeat (first | exact Prm.nil _ | exact Rem.here _ _ | apply Rem.there | apply Prm.cons)) (.cons (by rw [if_neg (by omega)]; rfl) (.cons rfl .nil))
   refine CW_skip ?_
   first
    | exact QW_cut () trivial (by repeat (first | exact Prm.nil _ | exact Rem.here _ _ | apply Rem.there | apply Prm.cons)) (.cons (by rw [if_pos (by omega)]; rfl) (.cons rfl .nil))
    | exact QW_cut () trivial (by repeat (first | exact Prm.nil _ | exact Rem.here _ _ | apply Rem.there | apply Prm.cons)) (.cons (by rw [if_neg (by omega)]; rfl) (.cons rfl .nil))
  rintro ⟨⟩ -
  refine CW_sr ?_
  refine RW_m ?_
  refine RW_m ?_
  refine RW_a ?_
  refine RW_a ?_
  refine RW_lv [4,5] ?_
  refine CW_ret ?_
  first
   | (refine QW_dropB (e := (g, _)) (by repeat (first | exact Rem.here _ _ | apply Rem.there)) ?_; exact QW_ret2 rfl rfl rfl (_ :: S.rb :: (bb, blk (spl o (bys ((D.drop p).take (m))) lb) Tb) :: S.G) ⟨m, _, _, Nat.le_refl _, rfl, rfl, CodeT.eof _ _ _ _⟩ (Prm.nil _))
   | (refine QW_dropB (e := (b12, _)) (by repeat (first | exact Rem.here _ _ | apply Rem.there)) ?_; refine QW_dropB (e := (g, _)) (by repeat (first | exact Rem.here _ _ | apply Rem.there)) ?_; exact QW_ret2 rfl rfl rfl (_ :: S.rb :: (bb, blk (spl o (bys ((D.drop p).take (tot l2 x + (N - (l2.getD x default).1)))) lb) Tb) :: S.G) ⟨tot l2 x + (N - (l2.getD x default).1), _, _, by omega, rfl, rfl, CodeT.err ⟨1, _, _, by omega, rfl⟩ (.inr ⟨p + tot l2 x + ((l2.getD x default).2 - 1), by omega, by rw [hg2 _ (by omega)]; omega⟩)⟩ (Prm.nil _))
   | (exact QW_ret2 rfl rfl rfl ((S.bf, y) :: S.rb :: (bb, blk lb Tb) :: S.G) ⟨0, y, _, Nat.zero_le _, by rw [spl_none], rfl, CodeT.err ⟨ty, em, ex, hty, rfl⟩ (.inl hbad)⟩ (Prm.nil _))
 skip
 simp only [List.cons_append, List.nil_append]
 refine RW_heap (p_rd5' _ _ _ _ _) ?_
 refine RW_m ?_
 refine RW_l (Yl_extract (v := .slice none 0 0) rfl rfl) ?_
 refine RW_l (Yl_extract (v := .iface 123 (.agg #[nv ty, .string (bar em), .int .i64 ex])) rfl rfl) ?_
 refine RW_a ?_
 refine RW_a ?_
 refine RW_lv [0,1,6,7,8] ?_
 refine CW_seq ?_
 refine CW_sr ?_
 refine RW_m ?_
 refine RW_l (Yl_ifNe rfl if_105) ?_
 refine RW_lv [0,1,6,7,8,62] ?_
 refine CW_cond rfl (fun hc12 => ?_) (fun hc12 => ?_)
 ·skip
  refine CW_sr ?_
  refine RW_m ?_
  refine RW_a ?_
  refine RW_a ?_
  refine RW_lv [4,5] ?_
  refine CW_ret ?_
  refine QW_ret_then ?_
  first
   | (refine QW_dropB (e := (g, _)) (by repeat (first | exact Rem.here _ _ | apply Rem.there)) ?_; exact QW_ret2 rfl rfl rfl (_ :: S.rb :: (bb, blk (spl o (bys ((D.drop p).take (m))) lb) Tb) :: S.G) ⟨m, _, _, Nat.le_refl _, rfl, rfl, CodeT.eof _ _ _ _⟩ (Prm.nil _))
   | (refine QW_dropB (e := (b12, _)) (by repeat (first | exact Rem.here _ _ | apply Rem.there)) ?_; refine QW_dropB (e := (g, _)) (by repeat (first | exact Rem.here _ _ | apply Rem.there)) ?_; exact QW_ret2 rfl rfl rfl (_ :: S.rb :: (bb, blk (spl o (bys ((D.drop p).take (tot l2 x + (N - (l2.getD x default).1)))) lb) Tb) :: S.G) ⟨tot l2 x + (N - (l2.getD x default).1), _, _, by omega, rfl, rfl, CodeT.err ⟨1, _, _, by omega, rfl⟩ (.inr ⟨p + tot l2 x + ((l2.getD x default).2 - 1), by omega, by rw [hg2 _ (by omega)]; omega⟩)⟩ (Prm.nil _))
   | (exact QW_ret2 rfl rfl rfl ((S.bf, y) :: S.rb :: (bb, blk lb Tb) :: S.G) ⟨0, y, _, Nat.zero_le _, by rw [spl_none], rfl, CodeT.err ⟨ty, em, ex, hty, rfl⟩ (.inl hbad)⟩ (Prm.nil _))
 skip
 exact absurd hc12 (by decide)

theorem p_on3 (a b c x y : Nat × Obj) (G F : Heap) : (a :: b :: c :: (G ++ (x :: y :: F))).Perm (x :: y :: a :: b :: c :: (G ++ F)) := perm_front (a :: b :: c :: G) [x, y] F
theorem p_fw (x b4 b3 a b c : Nat × Obj) (G F : Heap) : (x :: b4 :: b3 :: a :: b :: c :: (G ++ F)).Perm (((a :: b :: ([x] ++ G)) ++ F) ++ [b4, b3, c]) := perm_c fun i w => by simp only [List.count_append, List.count_cons, List.count_nil]; omega
theorem p_fw2 (b4 b3 a b c : Nat × Obj) (G F : Heap) : (b4 :: b3 :: a :: b :: c :: (G ++ F)).Perm (((a :: b :: ([] ++ G)) ++ F) ++ [b4, b3, c]) := perm_c fun i w => by simp only [List.count_append, List.count_cons, List.count_nil]; omega
theorem oneTry_ct (S : Src) (ft : Nat → Prop) (h : S.Try ft) (bs N : Nat) (B : List UInt8) (bE : EofB) (hR : S.RdT bs N B bE) (hN9 : N ≤ 1000000000) (D : List UInt8) (hD : DatT S.ad B D) (hDl : D.length = S.size) (p k n m : Nat) (hp : k * S.u = p) (hlt : p < S.size) (hn : 0 < n) (hm : m = min n (S.size - p)) (hn2 : n ≤ 65536) :
  Ct Tryd.prog 37 [pv S.bf, .agg [nv 0, nv n, .int .i64 0, nv 0, .slice none 0 0].toArray] (S.fb (p) (k) (0) :: S.rb :: S.G)
   (fun v q => ∃ (t : Nat) (y : Obj) (dv : Value) (c : Nat) (RB : Heap), t ≤ m ∧ Sl RB dv ((D.drop p).take t) ∧ (t = m ∨ (1 ≤ c ∧ S.Bad ft N)) ∧ v = .tuple #[.agg [dv, nv t, nv c].toArray, .bool true] ∧ q = (S.bf, y) :: S.rb :: (RB ++ S.G)) := by
 have hsz1 := h.sz
 refine Ct_of Tryd.func37 rfl Tryd.ntmps37 rfl ?_
 intro E F
 simp only [numL, List.nil_append, List.cons_append]
 refine CW_sr ?_
 refine RW_fx rfl rfl rfl (Fx_box (zs := [nv 0, nv n, .int .i64 0, nv 0, .slice none 0 0]) rfl rfl) ?_
 rintro _ _ ⟨b3, rfl, rfl⟩
 refine RW_fx rfl rfl rfl (Fx_alloc (zs := zs_58) ze_58 rfl) ?_
 rintro _ _ ⟨b4, rfl, rfl⟩
 refine RW_a ?_
 refine RW_lv [0,3,4] ?_
 refine CW_seq ?_
 refine CW_sr ?_
 refine RW_f fo_53_1 ?_
 refine RW_h (Yh_ld (v := nv n) sc_3) ?_
 refine RW_l (Yl_lssB false rfl rfl (decide_eq_false om_)) ?_
 refine RW_m ?_
 refine RW_gy rfl rfl rfl (Yl.h (Yl_field rfl fo_53_1)) ?_
 refine RW_gy rfl rfl rfl (Yh_ld (v := nv n) sc_3) ?_
 refine RW_gy rfl rfl rfl (Yl.h (Yl_gtrB false rfl rfl (decide_eq_false om_))) ?_
 refine RW_l (Yl_pick_f rfl rfl) ?_
 refine RW_m ?_
 refine RW_gy rfl rfl rfl (Yl.h (Yl_field rfl fo_53_4)) ?_
 refine RW_gy rfl rfl rfl (Yh_ld (v := .slice none 0 0) sc_23) ?_
 refine RW_gy rfl rfl rfl (Yl.h (Yl_len rfl sl_23)) ?_
 refine RW_gy rfl rfl rfl (Yl.h (Yl_gtrB false rfl rfl (decide_eq_false om_))) ?_
 refine RW_l (Yl_pick_f rfl rfl) ?_
 refine RW_lv [0,3,4,24] ?_
 refine CW_false rfl ?_
 refine (CW_skip (QW_lv [0,3,4] ?_))
 refine CW_sr ?_
 refine RW_f fo_53_1 ?_
 refine RW_h (Yh_ld (v := nv n) sc_3) ?_
 refine RW_fx rfl rfl rfl (Fx_makeU8 n rfl rfl om_) ?_
 rintro _ _ ⟨b28, rfl, rfl⟩
 refine RW_a ?_
 refine RW_lv [0,3,4,6] ?_
 refine CW_sr ?_
 refine RW_a ?_
 refine RW_lv [0,3,4,6] ?_
 refine CW_sr ?_
 refine RW_a ?_
 refine RW_lv [0,3,4,6] ?_
 refine CW_seq ?_
 refine CW_sr ?_
 refine RW_f fo_53_0 ?_
 refine RW_h (Yh_ld (v := nv 0) sc_3) ?_
 refine RW_lv [0,3,4,6,30] ?_
 refine CW_block ?_
 refine CW_sr ?_
 refine RW_l (Yl_eqlB true rfl rfl (decide_eq_true om_)) ?_
 refine RW_a ?_
 refine RW_lv [0,3,4,6,30,32] ?_
 refine CW_true rfl ?_
 refine CW_region ?_
 refine RW_m ?_
 refine RW_m ?_
 refine RW_fx rfl rfl rfl (Fx_call ok_41 (vs := [pv S.bf, .slice (some ⟨b28, 0, none⟩) n n]) rfl (Pick.cons (.there _ (.there _ (.there _ (.here _ _)))) (Pick.cons (.there _ (.there _ (.there _ (.here _ _)))) (Pick.cons (.here _ _) (pick_mid S.G [_, _] F)))) (ReadTry_ct S ft h bs N B bE hR hN9 D hD hDl p k n m hp hlt hn hm b28 0 n (bys (List.replicate n 0)) 5 (Nat.le_refl _) om_ (by simp))) ?_
 rintro _ _ ⟨_, ⟨t, y, e, ht, rfl, rfl, hcd⟩, rfl⟩
 simp only [List.cons_append, List.nil_append]
 refine RW_heap (p_on3 _ _ _ _ _ _ _) ?_
 rw [spl_front (by simp; omega)]
 refine RW_m ?_
 refine RW_l (Yl_extract (v := nv t) rfl rfl) ?_
 refine RW_l (Yl_extract (v := e) rfl rfl) ?_
 refine RW_a ?_
 refine RW_a ?_
 refine RW_nil ?_
 refine QW_normal_block ?_
 refine (QW_lv [4,6,7,8] ?_)
 refine CW_seq ?_
 obtain ⟨rz, hrz⟩ : ∃ rz, rz = (bys (List.replicate n 0)).drop (bys ((D.drop p).take t)).length := ⟨_, rfl⟩
 rw [← hrz]
 by_cases hm0 : 0 < t
 ·skip
  refine CW_region ?_
  refine RW_m ?_
  refine RW_m ?_
  refine RW_l (Yl_cutHN (h := t) rfl rfl sl_23 om_) ?_
  refine RW_fx rfl rfl rfl (Fx_append_nil (z0 := .int .u8 0) (q := 1) (lx := bys ((D.drop p).take t) ++ rz) (offx := 0) rfl rfl sl_23 by_5 ze_5 rfl rfl mem_ (by rw [List.length_append, List.length_map]; simp; omega) hm0 om_ om_) ?_
  rintro _ _ ⟨b98, l2, cap, rfl, hq3, hq4, hq5, rfl⟩
  refine RW_m ?_
  refine RW_m ?_
  refine RW_fx rfl rfl rfl (Fx_callQ ok_40 (vs := [e]) (R := fun v => ∃ c, c ≤ 11 ∧ (t = m ∨ (1 ≤ c ∧ S.Bad ft N)) ∧ v = nv c) rfl (Pick.nil _) hcd) ?_
  rintro _ _ ⟨⟨cc, hq1, hq2, rfl⟩, rfl⟩
  refine RW_l (Yl_build (cs := [.slice (some ⟨b98, 0, none⟩) t cap, nv t, nv cc]) pl_58 ze_58 rfl rfl) ?_
  refine RW_fx0 rfl rfl (Fx_storeA (b := b4) (off := 0) (l := zs_58) (T := 58) (cs := [.slice (some ⟨b98, 0, none⟩) t cap, nv t, nv cc]) rfl rfl sz_58 (by intro u hu; simp only [List.mem_cons, List.not_mem_nil, or_false] at hu; rcases hu with hu | hu | hu <;> rw [hu] <;> rfl) rep_ (Nat.le_refl 3)) ?_
  rintro _ _ rfl
  refine RW_a ?_
  refine RW_lv [4,5] ?_
  refine CW_ret ?_
  first
   | (have e2 : l2 = bys ((D.drop p).take t) ++ l2.drop t := app_eq (by simp; omega) hq5; rw [e2]; refine QW_retCt rfl rfl rfl (b := b4) (T := 58) (cs := [.slice (some ⟨b98, 0, none⟩) t cap, nv t, nv cc]) (by repeat (first | exact List.Mem.head _ | apply List.Mem.tail)) ag_58 ((S.bf, y) :: S.rb :: ([(b98, blk (bys ((D.drop p).take t) ++ l2.drop t) 5)] ++ S.G)) ⟨t, y, .slice (some ⟨b98, 0, none⟩) t cap, cc, [(b98, blk (bys ((D.drop p).take t) ++ l2.drop t) 5)], ht, (by first | exact .inr ⟨b98, cap, l2.drop t, by simp; omega, List.mem_cons_self ..⟩ | (refine .inr ⟨b98, cap, l2.drop t, ?_, List.mem_cons_self ..⟩; congr 1; simp; omega)), hq2, rfl, rfl⟩ (fun w h => ?_); exact (h.perm (p_fw _ _ _ _ _ _ _ _)).sub (List.sublist_append_left _ _))
   | (refine QW_retCt rfl rfl rfl (b := b4) (T := 58) (cs := [.slice none 0 0, nv t, nv cc]) (by repeat (first | exact List.Mem.head _ | apply List.Mem.tail)) ag_58 ((S.bf, y) :: S.rb :: ([] ++ S.G)) ⟨t, y, .slice none 0 0, cc, [], ht, .inl ⟨by rw [show t = 0 by omega]; simp, rfl⟩, hq2, rfl, rfl⟩ (fun w h => ?_); exact (h.perm (p_fw2 _ _ _ _ _ _ _)).sub (List.sublist_append_left _ _))
 skip
 refine CW_region ?_
 refine RW_m ?_
 refine RW_m ?_
 refine RW_l (Yl_cutHN (h := t) rfl rfl sl_23 om_) ?_
 refine RW_l (Yl_append0 rfl (congrArg (fun k => some (Value.slice (some ⟨b28, 0, none⟩) k n)) (show t = 0 by omega)) sl_23 (Nat.le_refl _)) ?_
 refine RW_m ?_
 refine RW_m ?_
 refine RW_fx rfl rfl rfl (Fx_callQ ok_40 (vs := [e]) (R := fun v => ∃ c, c ≤ 11 ∧ (t = m ∨ (1 ≤ c ∧ S.Bad ft N)) ∧ v = nv c) rfl (Pick.nil _) hcd) ?_
 rintro _ _ ⟨⟨cc, hq1, hq2, rfl⟩, rfl⟩
 refine RW_l (Yl_build (cs := [.slice none 0 0, nv t, nv cc]) pl_58 ze_58 rfl rfl) ?_
 refine RW_fx0 rfl rfl (Fx_storeA (b := b4) (off := 0) (l := zs_58) (T := 58) (cs := [.slice none 0 0, nv t, nv cc]) rfl rfl sz_58 (by intro u hu; simp only [List.mem_cons, List.not_mem_nil, or_false] at hu; rcases hu with hu | hu | hu <;> rw [hu] <;> rfl) rep_ (Nat.le_refl 3)) ?_
 rintro _ _ rfl
 refine RW_a ?_
 refine RW_lv [4,5] ?_
 refine CW_ret ?_
 first
  | (have e2 : l2 = bys ((D.drop p).take t) ++ l2.drop t := app_eq (by simp; omega) hq5; rw [e2]; refine QW_retCt rfl rfl rfl (b := b4) (T := 58) (cs := [.slice (some ⟨b98, 0, none⟩) t cap, nv t, nv cc]) (by repeat (first | exact List.Mem.head _ | apply List.Mem.tail)) ag_58 ((S.bf, y) :: S.rb :: ([(b98, blk (bys ((D.drop p).take t) ++ l2.drop t) 5)] ++ S.G)) ⟨t, y, .slice (some ⟨b98, 0, none⟩) t cap, cc, [(b98, blk (bys ((D.drop p).take t) ++ l2.drop t) 5)], ht, (by first | exact .inr ⟨b98, cap, l2.drop t, by simp; omega, List.mem_cons_self ..⟩ | (refine .inr ⟨b98, cap, l2.drop t, ?_, List.mem_cons_self ..⟩; congr 1; simp; omega)), hq2, rfl, rfl⟩ (fun w h => ?_); exact (h.perm (p_fw _ _ _ _ _ _ _ _)).sub (List.sublist_append_left _ _))
  | (refine QW_retCt rfl rfl rfl (b := b4) (T := 58) (cs := [.slice none 0 0, nv t, nv cc]) (by repeat (first | exact List.Mem.head _ | apply List.Mem.tail)) ag_58 ((S.bf, y) :: S.rb :: ([] ++ S.G)) ⟨t, y, .slice none 0 0, cc, [], ht, .inl ⟨by rw [show t = 0 by omega]; simp, rfl⟩, hq2, rfl, rfl⟩ (fun w h => ?_); exact (h.perm (p_fw2 _ _ _ _ _ _ _)).sub (List.sublist_append_left _ _))

section
variable {B : List UInt8} {N n ss : Nat} {hc : List Value}
theorem cut_take {o l : Nat} (h : o + l ≤ n) : ((B.take n).drop o).take l = (B.drop o).take l := by
  rw [List.drop_take, List.take_take, Nat.min_eq_left om_]
noncomputable def wordAt (hc : List Value) (ss : Nat) (sns : List Nat) (j : Nat) : Nat := (Classical.epsilon fun s => hc[45 + snx sns j / (ss / 4)]? = some (uv s)) * ss + ss + snx sns j % (ss / 4) * 4
theorem uv_inj {a b : Nat} (h : some (uv a) = some (uv b)) : a = b := by
  have h1 : uv a = uv b := Option.some.inj h
  have h2 : ((a : Nat) : Int) = (b : Int) := by unfold uv at h1; injection h1
  omega
theorem ChOk.cut {sns : List Nat} (h : ChOk B N ss hc sns) (hB : B.length = N) (hN : N ≤ 131072) (hss : 512 ≤ ss) (hn : n ≤ N) : ChTry (B.take n) n ss hc sns (wordAt hc ss sns) := by
  have mul : ∀ a : Nat, (a + 1) * ss ≤ 200000 → a ≤ 100000 := fun a ha => by
    have := Nat.mul_le_mul_left (a + 1) hss
    omega
  refine ⟨h.nodup, fun j hj => ?_, fun j hj => ?_, fun j hj => ?_⟩
  · have := h.fit j hj
    exact mul _ om_
  · have := h.fit j hj
    omega
  obtain ⟨sect, o, h1, h2, h3, h4, h5, h6⟩ := h.next j hj
  have e1 : Classical.epsilon (fun s => hc[45 + snx sns j / (ss / 4)]? = some (uv s)) = sect := by
    have := Classical.epsilon_spec (p := fun s => hc[45 + snx sns j / (ss / 4)]? = some (uv s)) ⟨sect, h1⟩
    exact uv_inj (this.symm.trans h1)
  have e2 : wordAt hc ss sns j = (sect + 1) * ss + snx sns j % (ss / 4) * 4 := by
    unfold wordAt
    rw [e1, Nat.succ_mul]
  refine ⟨sect, h1, h2, mul _ om_, e2, by omega, fun h7 => ?_⟩
  rw [cut_take h7, e2, ← h4]
  exact h6
theorem ChOk.word {sns : List Nat} (h : ChOk B N ss hc sns) {j : Nat} (hj : j < sns.length) : wordAt hc ss sns j + 4 ≤ N := by
  obtain ⟨sect, o, h1, h2, h3, h4, h5, h6⟩ := h.next j hj
  have e1 : Classical.epsilon (fun s => hc[45 + snx sns j / (ss / 4)]? = some (uv s)) = sect := by
    have := Classical.epsilon_spec (p := fun s => hc[45 + snx sns j / (ss / 4)]? = some (uv s)) ⟨sect, h1⟩
    exact uv_inj (this.symm.trans h1)
  have e2 : wordAt hc ss sns j = (sect + 1) * ss + snx sns j % (ss / 4) * 4 := by
    unfold wordAt
    rw [e1, Nat.succ_mul]
  rw [e2, ← h4]
  exact h5
theorem FileIn.cut {ps : List Value} {ver sh nd nf dl ml nm num_ : Nat} {sns : List Nat} {es : List En} {tn : List Tn} {mi : Option (List Nat × List Nat)} (h : FileIn ps B N ss ver sh nd nf dl ml nm num_ sns es tn mi) (hN : N ≤ 131072) (hn : n ≤ N) (hn5 : 512 ≤ n) :
    FileTry ps (B.take n) n ss ver sh nd nf dl ml nm num_ sns es tn mi (wordAt (hcF ((B.drop 0).take 512) 109) ss sns) (wordAt (hcF ((B.drop 0).take 512) 109) ss ((mi.getD ([], [])).1)) (wordAt (hcF ((B.drop 0).take 512) 109) ss ((mi.getD ([], [])).2)) := by
  have hB := h.hB
  have hs := h.ss2
  have e0 : ((B.take n).drop 0).take 512 = (B.drop 0).take 512 := cut_take om_
  obtain ⟨st0, e0', he1, he2, hmi⟩ := h.mini
  refine ⟨by rw [e0]; exact h.hd, h.hsh, h.hss, h.ss2, h.m1, h.m2, h.m3, by rw [e0]; exact h.ch.cut hB hN hs.1 hn, h.K, h.hdl, h.ver4, h.nd4, h.num, h.len, h.len2, fun j hj hf i hi => by rw [cut_take om_]; exact h.ent j hj i hi, ⟨st0, e0', he1, he2, ?_⟩, h.link, by simp; omega, by omega, hn5⟩
  rw [e0]
  cases mi with
  | none => exact hmi
  | some s =>
    obtain ⟨h1, h2, h3, h4, h5, h6, h7, h8, h9⟩ := hmi
    exact ⟨h1.cut hB hN hs.1 hn, h2.cut hB hN hs.1 hn, h3, h4, h5, h6, h7, h8, h9⟩
end

theorem Ct.within {P : Program} {f : FuncId} {args : List Value} {pre H G : Heap} {R : Value → Prop} (h : Ct P f args pre (fun v q => R v ∧ q = pre)) (hp : H.Perm (pre ++ G)) : Ct P f args H (fun v q => R v ∧ q = H) :=
  h.conseq hp (by rintro v post ⟨hR, rfl⟩; exact ⟨H, ⟨hR, rfl⟩, hp.symm⟩)
structure Rdr.OfC (R : Rdr) (v st : Nat) (xs : List Nd) (n : Nat) : Prop where
  ok : Cfb.Ok xs
  nm : ∀ x ∈ xs, x.name.length ≤ 31
  B : R.B = (writeF v st xs).take n
  N : R.N = n
  n1 : n ≤ NF v xs
  n5 : 512 ≤ n
  N1 : NF v xs ≤ 131072
  cN : R.N ≤ R.cN
  ss : R.ss = sizeF v
  mi : MiniOk (miniF v st xs) R.m1 R.m2 R.X
  hc : R.hc = hcF ((R.B.drop 0).take 512) 109
section
variable {R : Rdr} {f : Fil} {Z : Heap} {v st : Nat} {xs : List Nd} {k n : Nat} {lp : List Value} {Tp : TypeId} {fp : Nat × Nat} {bE : EofB} {T0 TE : TypeId} {fz0 fzE : Nat × Nat}
noncomputable def woF (v st : Nat) (xs : List Nd) (k j : Nat) : Nat :=
  if (dtF xs k).length < 4096 then (snx (snF v st xs 1) (snx (mnF st xs k) j / (sizeF v / 4)) + 1) * sizeF v + snx (mnF st xs k) j % (sizeF v / 4) * 4
  else wordAt (hcF (((writeF v st xs).drop 0).take 512) 109) (sizeF v) (snF v st xs (3 + k)) j
def CutBad (v st : Nat) (xs : List Nd) (k n : Nat) : Prop :=
  (∃ j, j * uF v xs k < (dtF xs k).length ∧ ¬ woF v st xs k j + 4 ≤ n) ∨ ∃ i, i < (dtF xs k).length ∧ n ≤ adF v st xs k i
theorem CutBad.no (h : Cfb.Ok xs) (hn : ∀ x ∈ xs, x.name.length ≤ 31) (hk : k < xs.length) (hk0 : k ≠ 0) (hs : (xs.getD k default).stream = true) : ¬ CutBad v st xs k (NF v xs) := by
  have hu := uF_or (v := v) (xs := xs) (k := k)
  have hlc := length_cnF (v := v) (st := st) hk hs
  have inC : ∀ j, j * uF v xs k < (dtF xs k).length → j < (cnF v st xs k).length := fun j hj => by rw [hlc]; exact in_part om_ hj
  rintro (⟨j, hj, hw⟩ | ⟨i, hi, hw⟩)
  · apply hw
    unfold woF
    have hc := inC j hj
    by_cases hl : (dtF xs k).length < 4096
    · rw [if_pos hl]
      have ec : cnF v st xs k = mnF st xs k := by unfold cnF; rw [if_pos hl]
      rw [ec, length_mnF] at hc
      exact (mini_next (v := v) (st := st) h hn hk hc rfl).2.1
    rw [if_neg hl]
    have ec : cnF v st xs k = snF v st xs (3 + k) := by unfold cnF; rw [if_neg hl]
    rw [ec] at hc
    exact (chainOk (st := st) h hn (show 3 + k < xs.length + 3 by omega) (v := v)).word hc
  have hd := dat (v := v) (st := st) h hn hk hk0 hs i hi
  have hW : (writeF v st xs).length = NF v xs := length_writeF h hn
  rw [List.getElem?_eq_none om_, List.getElem?_eq_getElem hi] at hd
  cases hd
theorem src_try (h : R.OfC v st xs n) (hk : k < xs.length) (hk0 : k ≠ 0) (hs : (xs.getD k default).stream = true) (hpos : 0 < (dtF xs k).length) : (R.src f ((5, Obj.cells lp.toArray Tp fp) :: (0, Obj.cells [.iface 181 (.pointer (some ⟨bE.b, bE.o, none⟩))].toArray T0 fz0) :: (bE.b, Obj.cells bE.l.toArray TE fzE) :: Z) v st xs k).Try (fun j => woF v st xs k j + 4 ≤ n) := by
  have hB := h.B
  have hN := h.N
  have hcN := h.cN
  have hss := h.ss
  have hz := size_ge v
  have hn1 := h.n1
  have hN1 := h.N1
  have hW : (writeF v st xs).length = NF v xs := length_writeF h.ok h.nm
  have hlen : R.B.length = n := by rw [hB]; simp; omega
  have e512 : (R.B.drop 0).take 512 = ((writeF v st xs).drop 0).take 512 := by rw [hB]; exact cut_take (by have := h.n5; omega)
  have h9 : (dtF xs k).length ≤ 9000 := small_at h.ok hk
  have hu := uF_or (v := v) (xs := xs) (k := k)
  have rd1 : R.cells[1]? = some (uv (sizeF v)) := by rw [← hss]; rfl
  have hlc := length_cnF (v := v) (st := st) hk hs
  have inC : ∀ j, j * uF v xs k < (dtF xs k).length → j < (cnF v st xs k).length := fun j hj => by rw [hlc]; exact in_part om_ hj
  have mul : ∀ a : Nat, (a + 1) * sizeF v ≤ 200000 → a ≤ 100000 := fun a ha => by
    have := Nat.mul_le_mul_left (a + 1) hz.1
    omega
  by_cases hl : (dtF xs k).length < 4096
  · have eu : uF v xs k = 64 := by unfold uF; rw [if_pos hl]
    have ec : cnF v st xs k = mnF st xs k := by unfold cnF; rw [if_pos hl]
    have inM : ∀ j, j * uF v xs k < (dtF xs k).length → j < (smF xs).getD k 0 := fun j hj => by have := inC j hj; rwa [ec, length_mnF] at this
    have hm0 : miF xs ≠ 0 := by
      have h1 := inM 0 om_
      have h2 := sum_take_succ (smF xs) k (by simpa [smF] using hk)
      unfold miF; omega
    have hmi := h.mi
    unfold miniF at hmi
    rw [if_neg hm0] at hmi
    obtain ⟨bm1, Tl, g2, cap2, r2, t1, t2, t3, t4, t5, t6⟩ := hmi
    have ht1 : ∀ q, q < (snF v st xs 1).length → Tl[q]? = some (uv (snx (snF v st xs 1) q)) := t2
    have c1 := chainOk (st := st) h.ok h.nm (show 1 < xs.length + 3 by omega) (v := v)
    have c2 := chainOk (st := st) h.ok h.nm (show 2 < xs.length + 3 by omega) (v := v)
    have hmi2 := miF_le h.ok
    have ew : ∀ j, woF v st xs k j = (snx (snF v st xs 1) (snx (mnF st xs k) j / (sizeF v / 4)) + 1) * sizeF v + snx (mnF st xs k) j % (sizeF v / 4) * 4 := fun j => by unfold woF; rw [if_pos hl]
    have hl1 : (snF v st xs 1).length ≤ 10 := by rw [length_snF, cs_1]; exact (mfF_le (v := v) h.ok).1
    refine ⟨.inl ⟨by simp [Rdr.src, hl], hl, eu⟩, rd1, hz, by show (dtF xs k).length ≤ _; omega, fun j hj => ?_, fun j hj => ?_, fun j hj hft => ?_, fun j hj hft => ?_, fun j hj => ?_⟩
    · show snx (cnF v st xs k) j ≤ _
      rw [ec]
      have := mn_lt (st := st) h.ok hk (inM j hj)
      omega
    · show ofF v st xs k j ≤ _
      unfold ofF
      rw [if_pos hl]
      have h1 := mini_sec (v := v) (st := st) h.ok hk (inM j hj)
      have h2 := c2.small (snx (mnF st xs k) j / (sizeF v / 64)) (by rw [length_snF]; exact h1)
      have h3 := c2.fit (snx (mnF st xs k) j / (sizeF v / 64)) (by rw [length_snF]; exact h1)
      have h4 := Nat.mod_lt (snx (mnF st xs k) j) (show 0 < sizeF v / 64 by omega)
      omega
    · have hj' := inM j hj
      obtain ⟨n1, n2, n3⟩ := mini_next (v := v) (st := st) h.ok h.nm hk hj' rfl
      have n4 := c1.small _ n1
      have hml := mn_lt (st := st) h.ok hk hj'
      rw [ew] at hft
      have hct := findNextM_ct R.br R.bh bm1 R.bs R.bB (sizeF v) (snx (mnF st xs k) j) (snx (snF v st xs 1) (snx (mnF st xs k) j / (sizeF v / 4))) 0 (snF v st xs 1).length (snF v st xs 1).length _ R.N R.cN R.B R.rB R.cells R.hcells Tl 67 rd1 rfl rfl (by rw [← t4]; rfl)
        (by rw [Nat.zero_add]; exact ht1 _ n1) n1 om_ hz om_ n4 rfl (by rw [hN]; exact hft) (by rw [hN]; exact hlen) hcN om_
      rw [show ∀ o, o + 4 ≤ n → (R.B.drop o).take 4 = ((writeF v st xs).drop o).take 4 from fun o ho => by rw [hB]; exact cut_take ho] at hct
      · rw [n3] at hct
        show Ct Tryd.prog 60 [pv R.br, uv (snx (cnF v st xs k) j), .bool (decide ((dtF xs k).length < 4096))] _ (fun v' q => v' = .tuple #[uv (snx (cnF v st xs k) (j + 1)), .nilIface] ∧ _)
        rw [ec, decide_eq_true hl]
        refine Ct.within (G := (R.bhf, blk R.hc 142) :: (f.bd, blk f.en.dc 112) :: (g2, blk (u32s (snF v st xs 2) ++ r2) 67) :: ((5, Obj.cells lp.toArray Tp fp) :: (0, Obj.cells [.iface 181 (.pointer (some ⟨bE.b, bE.o, none⟩))].toArray T0 fz0) :: (bE.b, Obj.cells bE.l.toArray TE fzE) :: Z)) hct ?_
        show ((R.br, blk R.cells 89) :: (R.bh, blk R.hcells 137) :: (R.bhf, blk R.hc 142) :: (R.bs, blk [.slice (some ⟨R.bB, 0, none⟩) R.N R.cN] 103) :: (R.bB, blk (bys R.B ++ R.rB) 5) :: (f.bd, blk f.en.dc 112) :: (R.X ++ ((5, Obj.cells lp.toArray Tp fp) :: (0, Obj.cells [.iface 181 (.pointer (some ⟨bE.b, bE.o, none⟩))].toArray T0 fz0) :: (bE.b, Obj.cells bE.l.toArray TE fzE) :: Z))).Perm _
        rw [t6]
        exact perm_c fun i w => by simp only [List.count_append, List.count_cons, List.count_nil]; omega
      exact hft
    · have hj' := inM j hj
      obtain ⟨n1, n2, n3⟩ := mini_next (v := v) (st := st) h.ok h.nm hk hj' rfl
      have hml := mn_lt (st := st) h.ok hk hj'
      rw [ew] at hft
      have hct := findNextMShort_ct R.br R.bh bm1 R.bs R.bB (sizeF v) (snx (mnF st xs k) j) (snx (snF v st xs 1) (snx (mnF st xs k) j / (sizeF v / 4))) 0 (snF v st xs 1).length (snF v st xs 1).length _ R.N R.cN R.B R.rB R.cells R.hcells Tl 67 bE T0 TE fz0 fzE rd1 rfl rfl (by rw [← t4]; rfl)
        (by rw [Nat.zero_add]; exact ht1 _ n1) n1 om_ hz om_ (mul _ om_) rfl (by rw [hN]; omega) (by rw [hN]; exact hlen) hcN om_
      show Ct Tryd.prog 60 [pv R.br, uv (snx (cnF v st xs k) j), .bool (decide ((dtF xs k).length < 4096))] _ _
      rw [ec, decide_eq_true hl]
      have hct2 := hct.mono (R' := fun v q => (∃ (ty : Nat) (m : List UInt8) (x : Int), ty ≤ 10 ∧ v = .tuple #[uv 0, .iface 123 (.agg #[nv ty, .string (bar m), .int .i64 x])]) ∧ q = _) (by rintro u q ⟨rfl, rfl⟩; exact ⟨⟨1, _, _, by omega, rfl⟩, rfl⟩)
      refine Ct.within (G := (R.bhf, blk R.hc 142) :: (f.bd, blk f.en.dc 112) :: (g2, blk (u32s (snF v st xs 2) ++ r2) 67) :: (5, Obj.cells lp.toArray Tp fp) :: Z) hct2 ?_
      show ((R.br, blk R.cells 89) :: (R.bh, blk R.hcells 137) :: (R.bhf, blk R.hc 142) :: (R.bs, blk [.slice (some ⟨R.bB, 0, none⟩) R.N R.cN] 103) :: (R.bB, blk (bys R.B ++ R.rB) 5) :: (f.bd, blk f.en.dc 112) :: (R.X ++ ((5, Obj.cells lp.toArray Tp fp) :: (0, Obj.cells [.iface 181 (.pointer (some ⟨bE.b, bE.o, none⟩))].toArray T0 fz0) :: (bE.b, Obj.cells bE.l.toArray TE fzE) :: Z))).Perm _
      rw [t6]
      exact perm_c fun i w => by simp only [List.count_append, List.count_cons, List.count_nil]; omega
    have hj' := inM j hj
    have h1 := mini_sec (v := v) (st := st) h.ok hk hj'
    have h2 := c2.small (snx (mnF st xs k) j / (sizeF v / 64)) (by rw [length_snF]; exact h1)
    have hml := mn_lt (st := st) h.ok hk hj'
    have hl2 : (snF v st xs 2).length ≤ 160 := by rw [length_snF, cs_2]; exact cs2_le (v := v) h.ok
    have hat : (u32s (snF v st xs 2) ++ r2)[snx (mnF st xs k) j / (sizeF v / 64)]? = some (uv (snx (snF v st xs 2) (snx (mnF st xs k) j / (sizeF v / 64)))) := by
      rw [List.getElem?_append_left (by simp [length_snF]; exact h1), snx_in (snF v st xs 2) (by rw [length_snF]; exact h1)]
      exact at_u32s (by rw [length_snF]; exact h1) rfl
    have hct := getOffsetM_ct R.br R.bh g2 (sizeF v) (snx (mnF st xs k) j) (snx (snF v st xs 2) (snx (mnF st xs k) j / (sizeF v / 64))) (snF v st xs 2).length cap2 R.cells R.hcells (u32s (snF v st xs 2) ++ r2) 67 rd1 rfl (by rw [← t5]; rfl) hat
      (by rw [length_snF]; exact h1) om_ hz om_ h2
    show Ct Tryd.prog 62 [pv R.br, uv (snx (cnF v st xs k) j), .bool (decide ((dtF xs k).length < 4096))] _ (fun v' q => v' = .tuple #[nv (ofF v st xs k j), .nilIface] ∧ _)
    unfold ofF
    rw [ec, decide_eq_true hl, if_pos hl]
    refine Ct.within (G := (R.bhf, blk R.hc 142) :: (R.bs, blk [.slice (some ⟨R.bB, 0, none⟩) R.N R.cN] 103) :: (R.bB, blk (bys R.B ++ R.rB) 5) :: (f.bd, blk f.en.dc 112) :: (bm1, blk Tl 67) :: ((5, Obj.cells lp.toArray Tp fp) :: (0, Obj.cells [.iface 181 (.pointer (some ⟨bE.b, bE.o, none⟩))].toArray T0 fz0) :: (bE.b, Obj.cells bE.l.toArray TE fzE) :: Z)) hct ?_
    show ((R.br, blk R.cells 89) :: (R.bh, blk R.hcells 137) :: (R.bhf, blk R.hc 142) :: (R.bs, blk [.slice (some ⟨R.bB, 0, none⟩) R.N R.cN] 103) :: (R.bB, blk (bys R.B ++ R.rB) 5) :: (f.bd, blk f.en.dc 112) :: (R.X ++ ((5, Obj.cells lp.toArray Tp fp) :: (0, Obj.cells [.iface 181 (.pointer (some ⟨bE.b, bE.o, none⟩))].toArray T0 fz0) :: (bE.b, Obj.cells bE.l.toArray TE fzE) :: Z))).Perm _
    rw [t6]
    exact perm_c fun i w => by simp only [List.count_append, List.count_cons, List.count_nil]; omega
  have eu : uF v xs k = sizeF v := by unfold uF; rw [if_neg hl]
  have ec : cnF v st xs k = snF v st xs (3 + k) := by unfold cnF; rw [if_neg hl]
  have inL : ∀ j, j * uF v xs k < (dtF xs k).length → j < (snF v st xs (3 + k)).length := fun j hj => by have := inC j hj; rwa [ec] at this
  have c3 := chainOk (st := st) h.ok h.nm (show 3 + k < xs.length + 3 by omega) (v := v)
  have c4 := c3.cut hW hN1 hz.1 hn1
  have ew : ∀ j, woF v st xs k j = wordAt (hcF (((writeF v st xs).drop 0).take 512) 109) (sizeF v) (snF v st xs (3 + k)) j := fun j => by unfold woF; rw [if_neg hl]
  refine ⟨.inr ⟨by simp [Rdr.src, hl], by show 4096 ≤ (dtF xs k).length; omega, eu⟩, rd1, hz, by show (dtF xs k).length ≤ _; omega, fun j hj => ?_, fun j hj => ?_, fun j hj hft => ?_, fun j hj hft => ?_, fun j hj => ?_⟩
  · show snx (cnF v st xs k) j ≤ _
    rw [ec]; exact c3.small j (inL j hj)
  · show ofF v st xs k j ≤ _
    unfold ofF
    rw [if_neg hl]
    have := c3.fit j (inL j hj)
    omega
  · obtain ⟨sect, n1, n2, n3, n4, n5, n6⟩ := c4.next j (inL j hj)
    have n7 := c4.small j (inL j hj)
    rw [ew] at hft
    have hct := findNext_ct R.br R.bh R.bhf R.bs R.bB (sizeF v) (snx (snF v st xs (3 + k)) j) sect 45 109 109 _ R.N R.cN R.B R.rB R.cells R.hcells R.hc 142 rd1 rfl rfl rfl (by rw [h.hc, e512]; exact n1) n2 om_ hz om_ om_ n4 (by rw [hN]; exact hft) (by rw [hN]; exact hlen) hcN om_
    rw [hB, n6 hft] at hct
    show Ct Tryd.prog 60 [pv R.br, uv (snx (cnF v st xs k) j), .bool (decide ((dtF xs k).length < 4096))] _ (fun v' q => v' = .tuple #[uv (snx (cnF v st xs k) (j + 1)), .nilIface] ∧ _)
    rw [ec, decide_eq_false hl]
    refine Ct.within (G := (f.bd, blk f.en.dc 112) :: (R.X ++ ((5, Obj.cells lp.toArray Tp fp) :: (0, Obj.cells [.iface 181 (.pointer (some ⟨bE.b, bE.o, none⟩))].toArray T0 fz0) :: (bE.b, Obj.cells bE.l.toArray TE fzE) :: Z))) hct ?_
    show ((R.br, blk R.cells 89) :: (R.bh, blk R.hcells 137) :: (R.bhf, blk R.hc 142) :: (R.bs, blk [.slice (some ⟨R.bB, 0, none⟩) R.N R.cN] 103) :: (R.bB, blk (bys R.B ++ R.rB) 5) :: (f.bd, blk f.en.dc 112) :: (R.X ++ ((5, Obj.cells lp.toArray Tp fp) :: (0, Obj.cells [.iface 181 (.pointer (some ⟨bE.b, bE.o, none⟩))].toArray T0 fz0) :: (bE.b, Obj.cells bE.l.toArray TE fzE) :: Z))).Perm _
    rw [hB]
    exact perm_c fun i w => by simp only [List.count_append, List.count_cons, List.count_nil]; omega
  · obtain ⟨sect, n1, n2, n3, n4, n5, n6⟩ := c4.next j (inL j hj)
    have n7 := c4.small j (inL j hj)
    rw [ew] at hft
    have hct := findNextShort_ct R.br R.bh R.bhf R.bs R.bB (sizeF v) (snx (snF v st xs (3 + k)) j) sect 45 109 109 _ R.N R.cN R.B R.rB R.cells R.hcells R.hc 142 bE T0 TE fz0 fzE rd1 rfl rfl rfl (by rw [h.hc, e512]; exact n1) n2 om_ hz om_ n3 n4 (by rw [hN]; omega) (by rw [hN]; exact hlen) hcN om_
    show Ct Tryd.prog 60 [pv R.br, uv (snx (cnF v st xs k) j), .bool (decide ((dtF xs k).length < 4096))] _ _
    rw [ec, decide_eq_false hl]
    have hct2 := hct.mono (R' := fun v q => (∃ (ty : Nat) (m : List UInt8) (x : Int), ty ≤ 10 ∧ v = .tuple #[uv 0, .iface 123 (.agg #[nv ty, .string (bar m), .int .i64 x])]) ∧ q = _) (by rintro u q ⟨rfl, rfl⟩; exact ⟨⟨1, _, _, by omega, rfl⟩, rfl⟩)
    refine Ct.within (G := (f.bd, blk f.en.dc 112) :: (R.X ++ ((5, Obj.cells lp.toArray Tp fp) :: Z))) hct2 ?_
    show ((R.br, blk R.cells 89) :: (R.bh, blk R.hcells 137) :: (R.bhf, blk R.hc 142) :: (R.bs, blk [.slice (some ⟨R.bB, 0, none⟩) R.N R.cN] 103) :: (R.bB, blk (bys R.B ++ R.rB) 5) :: (f.bd, blk f.en.dc 112) :: (R.X ++ ((5, Obj.cells lp.toArray Tp fp) :: (0, Obj.cells [.iface 181 (.pointer (some ⟨bE.b, bE.o, none⟩))].toArray T0 fz0) :: (bE.b, Obj.cells bE.l.toArray TE fzE) :: Z))).Perm _
    exact perm_c fun i w => by simp only [List.count_append, List.count_cons, List.count_nil]; omega
  have n7 := c3.small j (inL j hj)
  have hct := getOffsetL_ct R.br (sizeF v) (snx (snF v st xs (3 + k)) j) R.cells rd1 hz n7
  show Ct Tryd.prog 62 [pv R.br, uv (snx (cnF v st xs k) j), .bool (decide ((dtF xs k).length < 4096))] _ (fun v' q => v' = .tuple #[nv (ofF v st xs k j), .nilIface] ∧ _)
  unfold ofF
  rw [ec, decide_eq_false hl, if_neg hl]
  exact Ct.inside hct ⟨_, Pick.cons (.here _ _) (Pick.nil _)⟩
theorem src_rdT (h : R.OfC v st xs n) : (R.src f ((5, Obj.cells lp.toArray Tp fp) :: (0, Obj.cells [.iface 181 (.pointer (some ⟨bE.b, bE.o, none⟩))].toArray T0 fz0) :: (bE.b, Obj.cells bE.l.toArray TE fzE) :: Z) v st xs k).RdT R.bs n ((writeF v st xs).take n) bE := by
  have hB := h.B
  have hN := h.N
  have hn1 := h.n1
  have hN1 := h.N1
  have hW : (writeF v st xs).length = NF v xs := length_writeF h.ok h.nm
  have hlen : R.B.length = n := by rw [hB]; simp; omega
  refine ⟨rfl, by simp; omega, ⟨T0, fz0, List.mem_cons_of_mem _ (List.mem_cons_of_mem _ (List.mem_cons_of_mem _ (List.mem_cons_of_mem _ (List.mem_cons_of_mem _ (List.mem_append_right _ (List.mem_cons_of_mem _ (List.mem_cons_self ..)))))))⟩, fun bp o m c off lq T h0 h1 h2 => ?_, fun bp o m c off lq T h0 h1 h2 h3 => ?_, ?_⟩
  · have hct := storeReadAt_ct R.bs R.bB bp o m c R.N R.cN off R.B R.rB lq T (by rw [hN]; exact hlen) h.cN om_ h0 om_ h2
    have P1 : ∀ (x a b c d e : Nat × Obj) (H : Heap), (x :: a :: b :: c :: d :: e :: H).Perm ([c, d, x] ++ (a :: b :: e :: H)) := fun x a b c d e H => perm_c fun i w => by simp only [List.count_append, List.count_cons, List.count_nil]; omega
    refine hct.conseq (P1 _ _ _ _ _ _ _) ?_
    rintro v' post ⟨rfl, rfl⟩
    rw [← hB]
    exact ⟨_, ⟨rfl, rfl⟩, (P1 _ _ _ _ _ _ _).symm⟩
  · have hct := storeShort_ct R.bs R.bB bp o m c R.N R.cN off R.B R.rB lq T bE T0 TE fz0 fzE (by rw [hN]; exact hlen) h.cN om_ om_ h1 h2 h3
    have P2 : ∀ (x : Nat × Obj), (x :: (R.bh, blk R.hcells 137) :: (R.bhf, blk R.hc 142) :: (R.bs, blk [.slice (some ⟨R.bB, 0, none⟩) R.N R.cN] 103) :: (R.bB, blk (bys R.B ++ R.rB) 5) :: (f.bd, blk f.en.dc 112) :: (R.X ++ ((5, Obj.cells lp.toArray Tp fp) :: (0, Obj.cells [.iface 181 (.pointer (some ⟨bE.b, bE.o, none⟩))].toArray T0 fz0) :: (bE.b, Obj.cells bE.l.toArray TE fzE) :: Z))).Perm ([(R.bs, blk [.slice (some ⟨R.bB, 0, none⟩) R.N R.cN] 103), (R.bB, blk (bys R.B ++ R.rB) 5), x, (0, Obj.cells [.iface 181 (.pointer (some ⟨bE.b, bE.o, none⟩))].toArray T0 fz0)] ++ ((R.bh, blk R.hcells 137) :: (R.bhf, blk R.hc 142) :: (f.bd, blk f.en.dc 112) :: (R.X ++ ((5, Obj.cells lp.toArray Tp fp) :: (bE.b, Obj.cells bE.l.toArray TE fzE) :: Z)))) := fun x => perm_c fun i w => by simp only [List.count_append, List.count_cons, List.count_nil]; omega
    refine hct.conseq (P2 _) ?_
    rintro v' post ⟨rfl, rfl⟩
    rw [← hB, ← hN]
    exact ⟨_, ⟨rfl, rfl⟩, (P2 _).symm⟩
  refine Ct.within (G := (R.bh, blk R.hcells 137) :: (R.bhf, blk R.hc 142) :: (R.bs, blk [.slice (some ⟨R.bB, 0, none⟩) R.N R.cN] 103) :: (R.bB, blk (bys R.B ++ R.rB) 5) :: (f.bd, blk f.en.dc 112) :: (R.X ++ ((5, Obj.cells lp.toArray Tp fp) :: (0, Obj.cells [.iface 181 (.pointer (some ⟨bE.b, bE.o, none⟩))].toArray T0 fz0) :: Z))) (eofError_ct bE TE fzE) ?_
  show ((R.bh, blk R.hcells 137) :: (R.bhf, blk R.hc 142) :: (R.bs, blk [.slice (some ⟨R.bB, 0, none⟩) R.N R.cN] 103) :: (R.bB, blk (bys R.B ++ R.rB) 5) :: (f.bd, blk f.en.dc 112) :: (R.X ++ ((5, Obj.cells lp.toArray Tp fp) :: (0, Obj.cells [.iface 181 (.pointer (some ⟨bE.b, bE.o, none⟩))].toArray T0 fz0) :: (bE.b, Obj.cells bE.l.toArray TE fzE) :: Z))).Perm _
  exact perm_c fun i w => by simp only [List.count_append, List.count_cons, List.count_nil]; omega
theorem dat_cut (h : R.OfC v st xs n) (hk : k < xs.length) (hk0 : k ≠ 0) (hs : (xs.getD k default).stream = true) : DatT (adF v st xs k) ((writeF v st xs).take n) (dtF xs k) := by
  intro i hi hlt
  have hd := dat (v := v) (st := st) h.ok h.nm hk hk0 hs i hi
  have : adF v st xs k i < n := by simp at hlt; omega
  rw [List.getElem?_take_of_lt this]
  exact hd
end

section
variable {R : Rdr} {f : Fil} {Z : Heap} {v st : Nat} {xs : List Nd} {k n : Nat} {lp : List Value} {Tp : TypeId} {fp : Nat × Nat} {bE : EofB} {T0 TE : TypeId} {fz0 fzE : Nat × Nat}
theorem one_cut (h : R.OfC v st xs n) (hk : k < xs.length) (hk0 : k ≠ 0) (hs : (xs.getD k default).stream = true) (s : Nat) (hds : (dtF xs k).length ≤ s) (hs6 : s ≤ 65536) :
    Ct Tryd.prog 37 [pv f.bf, .agg (stpR s).toArray] ((R.src f ((5, Obj.cells lp.toArray Tp fp) :: (0, Obj.cells [Value.iface 181 (Value.pointer (some ⟨bE.b, bE.o, none⟩))].toArray T0 fz0) :: (bE.b, Obj.cells bE.l.toArray TE fzE) :: Z) v st xs k).fb 0 0 0 :: (R.src f ((5, Obj.cells lp.toArray Tp fp) :: (0, Obj.cells [Value.iface 181 (Value.pointer (some ⟨bE.b, bE.o, none⟩))].toArray T0 fz0) :: (bE.b, Obj.cells bE.l.toArray TE fzE) :: Z) v st xs k).rb :: (R.src f ((5, Obj.cells lp.toArray Tp fp) :: (0, Obj.cells [Value.iface 181 (Value.pointer (some ⟨bE.b, bE.o, none⟩))].toArray T0 fz0) :: (bE.b, Obj.cells bE.l.toArray TE fzE) :: Z) v st xs k).G)
      (fun u q => ∃ (m : Nat) (y : Obj) (dv : Value) (c : Nat) (RB : Heap), m ≤ (dtF xs k).length ∧ Sl RB dv ((dtF xs k).take m) ∧ (m = (dtF xs k).length ∨ (1 ≤ c ∧ CutBad v st xs k n)) ∧ u = .tuple #[.agg [dv, nv m, nv c].toArray, .bool true] ∧ q = (f.bf, y) :: (R.src f ((5, Obj.cells lp.toArray Tp fp) :: (0, Obj.cells [Value.iface 181 (Value.pointer (some ⟨bE.b, bE.o, none⟩))].toArray T0 fz0) :: (bE.b, Obj.cells bE.l.toArray TE fzE) :: Z) v st xs k).rb :: (RB ++ (R.src f ((5, Obj.cells lp.toArray Tp fp) :: (0, Obj.cells [Value.iface 181 (Value.pointer (some ⟨bE.b, bE.o, none⟩))].toArray T0 fz0) :: (bE.b, Obj.cells bE.l.toArray TE fzE) :: Z) v st xs k).G)) := by
  have h9 : (dtF xs k).length ≤ 9000 := small_at h.ok hk
  have hn1 := h.n1
  have hN1 := h.N1
  by_cases hpos : 0 < (dtF xs k).length
  · have hT := src_try (f := f) (Z := Z) (lp := lp) (Tp := Tp) (fp := fp) (bE := bE) (T0 := T0) (TE := TE) (fz0 := fz0) (fzE := fzE) h hk hk0 hs hpos
    have hR := src_rdT (f := f) (Z := Z) (k := k) (lp := lp) (Tp := Tp) (fp := fp) (bE := bE) (T0 := T0) (TE := TE) (fz0 := fz0) (fzE := fzE) h
    have hD := dat_cut h hk hk0 hs
    refine (oneTry_ct _ _ hT R.bs n _ bE hR om_ (dtF xs k) hD rfl 0 0 s (dtF xs k).length (by simp) hpos om_ (by show (dtF xs k).length = min s ((dtF xs k).length - 0); omega) hs6).mono ?_
    rintro u q ⟨m, y, dv, c, RB, h1, h2, h3, rfl, rfl⟩
    exact ⟨m, y, dv, c, RB, h1, by rw [List.drop_zero] at h2; exact h2, h3, rfl, rfl⟩
  have h0 : (dtF xs k).length = 0 := by omega
  have hE := one_end (R.src f ((5, Obj.cells lp.toArray Tp fp) :: (0, Obj.cells [Value.iface 181 (Value.pointer (some ⟨bE.b, bE.o, none⟩))].toArray T0 fz0) :: (bE.b, Obj.cells bE.l.toArray TE fzE) :: Z) v st xs k) 0 0 0 s (by show (dtF xs k).length ≤ 0; omega) hs6 181 (.pointer (some ⟨bE.b, bE.o, none⟩)) T0 fz0 rfl
  obtain ⟨W, hW⟩ : ∃ W, (R.src f ((5, Obj.cells lp.toArray Tp fp) :: (0, Obj.cells [Value.iface 181 (Value.pointer (some ⟨bE.b, bE.o, none⟩))].toArray T0 fz0) :: (bE.b, Obj.cells bE.l.toArray TE fzE) :: Z) v st xs k).G.Perm ((0, Obj.cells [Value.iface 181 (Value.pointer (some ⟨bE.b, bE.o, none⟩))].toArray T0 fz0) :: W) := by
    have hm : (0, Obj.cells [Value.iface 181 (Value.pointer (some ⟨bE.b, bE.o, none⟩))].toArray T0 fz0) ∈ (R.src f ((5, Obj.cells lp.toArray Tp fp) :: (0, Obj.cells [Value.iface 181 (Value.pointer (some ⟨bE.b, bE.o, none⟩))].toArray T0 fz0) :: (bE.b, Obj.cells bE.l.toArray TE fzE) :: Z) v st xs k).G := by
      unfold Rdr.src
      exact List.mem_cons_of_mem _ (List.mem_cons_of_mem _ (List.mem_cons_of_mem _ (List.mem_cons_of_mem _ (List.mem_cons_of_mem _ (List.mem_append_right _ (List.mem_cons_of_mem _ (List.mem_cons_self ..)))))))
    obtain ⟨A, C, hA⟩ := List.append_of_mem hm
    exact ⟨A ++ C, by rw [hA]; exact List.perm_middle⟩
  have hp1 : ((R.src f ((5, Obj.cells lp.toArray Tp fp) :: (0, Obj.cells [Value.iface 181 (Value.pointer (some ⟨bE.b, bE.o, none⟩))].toArray T0 fz0) :: (bE.b, Obj.cells bE.l.toArray TE fzE) :: Z) v st xs k).fb 0 0 0 :: (R.src f ((5, Obj.cells lp.toArray Tp fp) :: (0, Obj.cells [Value.iface 181 (Value.pointer (some ⟨bE.b, bE.o, none⟩))].toArray T0 fz0) :: (bE.b, Obj.cells bE.l.toArray TE fzE) :: Z) v st xs k).rb :: (R.src f ((5, Obj.cells lp.toArray Tp fp) :: (0, Obj.cells [Value.iface 181 (Value.pointer (some ⟨bE.b, bE.o, none⟩))].toArray T0 fz0) :: (bE.b, Obj.cells bE.l.toArray TE fzE) :: Z) v st xs k).G).Perm ([(R.src f ((5, Obj.cells lp.toArray Tp fp) :: (0, Obj.cells [Value.iface 181 (Value.pointer (some ⟨bE.b, bE.o, none⟩))].toArray T0 fz0) :: (bE.b, Obj.cells bE.l.toArray TE fzE) :: Z) v st xs k).fb 0 0 0, (0, Obj.cells [Value.iface 181 (Value.pointer (some ⟨bE.b, bE.o, none⟩))].toArray T0 fz0)] ++ ((R.src f ((5, Obj.cells lp.toArray Tp fp) :: (0, Obj.cells [Value.iface 181 (Value.pointer (some ⟨bE.b, bE.o, none⟩))].toArray T0 fz0) :: (bE.b, Obj.cells bE.l.toArray TE fzE) :: Z) v st xs k).rb :: W)) :=
    (((hW.cons _).trans (List.Perm.swap _ _ _)).cons _)
  refine hE.conseq hp1 ?_
  rintro u post ⟨rfl, rfl⟩
  exact ⟨_, ⟨0, _, .slice none 0 0, 6, [], Nat.zero_le _, .inl ⟨by simp, rfl⟩, .inl h0.symm, rfl, rfl⟩, hp1.symm⟩
end
section
variable {ps : List Value} {T : TypeId} {four : Bool} {st : Nat} {ns : List Nm} {o : List (Nat × List (List UInt8))}
theorem cut_open (hp : PsOk ps) (h : NodesOk ns) (hb : (STv (tnsF (verF four) (ns.map Nm.nd) (nmOf ns))).bad = false) (hN : nmF4 four ns ≤ 131072) (n : Nat) (hn1 : n ≤ nmF4 four ns) (hn5 : 512 ≤ n) (gI cI : Nat) (rI : List Value) (lp : List Value) (Tp : TypeId) (fp : Nat × Nat) (hlp : ∀ i, i < 20 → ∃ z : Int, lp[i]? = some (.int .u64 z)) (bE : EofB) (T0 TE : TypeId) (fz0 fzE : Nat × Nat) (hof : OpenFit n (sizeF (verF four)) (snF (verF four) st (ns.map Nm.nd) 0) (miniF (verF four) st (ns.map Nm.nd)) (wordAt (hcF (((wrF4 four st ns).drop 0).take 512) 109) (sizeF (verF four)) (snF (verF four) st (ns.map Nm.nd) 0)) (wordAt (hcF (((wrF4 four st ns).drop 0).take 512) 109) (sizeF (verF four)) (((miniF (verF four) st (ns.map Nm.nd)).getD ([], [])).1)) (wordAt (hcF (((wrF4 four st ns).drop 0).take 512) 109) (sizeF (verF four)) (((miniF (verF four) st (ns.map Nm.nd)).getD ([], [])).2))) :
    Ct Tryd.prog 31 [.slice (some ⟨gI, 0, none⟩) n cI] ((gI, blk (bys ((wrF4 four st ns).take n) ++ rI) 5) :: (2, blk ps T) :: [(5, Obj.cells lp.toArray Tp fp), (0, Obj.cells [Value.iface 181 (Value.pointer (some ⟨bE.b, bE.o, none⟩))].toArray T0 fz0), (bE.b, Obj.cells bE.l.toArray TE fzE)]) (fun v q => ∃ (R : Rdr) (er : Value), R.Ok (esF (verF four) st (ns.map Nm.nd) (nmOf ns)) (STv (tnsF (verF four) (ns.map Nm.nd) (nmOf ns))) (miniF (verF four) st (ns.map Nm.nd)) er ∧ R.B = ((wrF4 four st ns).take n) ∧ R.N = n ∧ R.ss = (sizeF (verF four)) ∧ R.ps = ps ∧ R.T = T ∧ n ≤ R.cN ∧ (bys R.B ++ R.rB).length = R.cN ∧ v = .tuple #[if (STv (tnsF (verF four) (ns.map Nm.nd) (nmOf ns))).bad = true then .pointer none else pv R.br, pv R.bs, nv (if (STv (tnsF (verF four) (ns.map Nm.nd) (nmOf ns))).bad = true then 5 else 0)] ∧ q = (gI, blk (bys ((wrF4 four st ns).take n) ++ rI) 5) :: ([(5, Obj.cells lp.toArray Tp fp), (0, Obj.cells [Value.iface 181 (Value.pointer (some ⟨bE.b, bE.o, none⟩))].toArray T0 fz0), (bE.b, Obj.cells bE.l.toArray TE fzE)] ++ R.H)) := by
  have hf := (fileIn (v := verF four) (st := st) ps h.xs (verF_or four) (h.names hp) h.lnks).cut (n := n) hN hn1 hn5
  have := openedTry_ct gI cI rI _ _ _ _ _ _ _ _ _ _ _ ps T _ _ _ _ _ _ _ lp Tp fp hlp bE T0 TE fz0 fzE hf om_
  refine this.mono ?_
  rintro v q (⟨_, R, er, h1, h2, h3, h4, h5, h6, h7, h8, rfl, rfl⟩ | ⟨hbad, _⟩)
  · exact ⟨R, er, h1, h2, h3, h4, h5, h6, h7, h8, rfl, rfl⟩
  exact absurd hof hbad
theorem cut_shut (hp : PsOk ps) (h : NodesOk ns) (hb : (STv (tnsF (verF four) (ns.map Nm.nd) (nmOf ns))).bad = false) (hN : nmF4 four ns ≤ 131072) (n : Nat) (hn1 : n ≤ nmF4 four ns) (hn5 : 512 ≤ n) (gI cI : Nat) (rI : List Value) (lp : List Value) (Tp : TypeId) (fp : Nat × Nat) (hlp : ∀ i, i < 20 → ∃ z : Int, lp[i]? = some (.int .u64 z)) (bE : EofB) (T0 TE : TypeId) (fz0 fzE : Nat × Nat) (hof : ¬ OpenFit n (sizeF (verF four)) (snF (verF four) st (ns.map Nm.nd) 0) (miniF (verF four) st (ns.map Nm.nd)) (wordAt (hcF (((wrF4 four st ns).drop 0).take 512) 109) (sizeF (verF four)) (snF (verF four) st (ns.map Nm.nd) 0)) (wordAt (hcF (((wrF4 four st ns).drop 0).take 512) 109) (sizeF (verF four)) (((miniF (verF four) st (ns.map Nm.nd)).getD ([], [])).1)) (wordAt (hcF (((wrF4 four st ns).drop 0).take 512) 109) (sizeF (verF four)) (((miniF (verF four) st (ns.map Nm.nd)).getD ([], [])).2))) :
    Ct Tryd.prog 31 [.slice (some ⟨gI, 0, none⟩) n cI] ((gI, blk (bys ((wrF4 four st ns).take n) ++ rI) 5) :: (2, blk ps T) :: [(5, Obj.cells lp.toArray Tp fp), (0, Obj.cells [Value.iface 181 (Value.pointer (some ⟨bE.b, bE.o, none⟩))].toArray T0 fz0), (bE.b, Obj.cells bE.l.toArray TE fzE)]) (fun v q => ∃ (x y : Value) (c : Nat), 1 ≤ c ∧ c ≤ 11 ∧ v = .tuple #[x, y, nv c] ∧ q = (gI, blk (bys ((wrF4 four st ns).take n) ++ rI) 5) :: (2, blk ps T) :: [(5, Obj.cells lp.toArray Tp fp), (0, Obj.cells [Value.iface 181 (Value.pointer (some ⟨bE.b, bE.o, none⟩))].toArray T0 fz0), (bE.b, Obj.cells bE.l.toArray TE fzE)]) := by
  have hf := (fileIn (v := verF four) (st := st) ps h.xs (verF_or four) (h.names hp) h.lnks).cut (n := n) hN hn1 hn5
  have := openedTry_ct gI cI rI _ _ _ _ _ _ _ _ _ _ _ ps T _ _ _ _ _ _ _ lp Tp fp hlp bE T0 TE fz0 fzE hf om_
  refine this.mono ?_
  rintro v q (⟨hgood, _⟩ | ⟨_, hr⟩)
  · exact absurd hgood hof
  exact hr
theorem whole_fit (hp : PsOk ps) (h : NodesOk ns) : OpenFit (nmF4 four ns) (sizeF (verF four)) (snF (verF four) st (ns.map Nm.nd) 0) (miniF (verF four) st (ns.map Nm.nd)) (wordAt (hcF (((wrF4 four st ns).drop 0).take 512) 109) (sizeF (verF four)) (snF (verF four) st (ns.map Nm.nd) 0)) (wordAt (hcF (((wrF4 four st ns).drop 0).take 512) 109) (sizeF (verF four)) (((miniF (verF four) st (ns.map Nm.nd)).getD ([], [])).1)) (wordAt (hcF (((wrF4 four st ns).drop 0).take 512) 109) (sizeF (verF four)) (((miniF (verF four) st (ns.map Nm.nd)).getD ([], [])).2)) := by
  have hnm : ∀ x ∈ ns.map Nm.nd, x.name.length ≤ 31 := nds_at ps h.xs (h.names hp)
  have hc := fun i (hi : i < (ns.map Nm.nd).length + 3) => chainOk (v := verF four) (st := st) h.xs hnm hi
  refine ⟨fun j hj => ⟨(hc 0 om_).fit j hj, (hc 0 om_).word hj⟩, fun s hs => ?_⟩
  have e : s = (snF (verF four) st (ns.map Nm.nd) 1, snF (verF four) st (ns.map Nm.nd) 2) := by
    unfold miniF at hs
    split at hs
    · cases hs
    cases hs; rfl
  rw [hs, e]
  exact ⟨fun j hj => (hc 1 om_).word (by have h1 : j < (snF (verF four) st (ns.map Nm.nd) 1).length - 1 := hj; omega), fun j hj => (hc 2 om_).word hj⟩
end

section
variable {ps : List Value} {T : TypeId} {four : Bool} {st : Nat} {ns : List Nm} {o : List (Nat × List (List UInt8))}
theorem ROk.ofC {R : Rdr} {es : List En} {tn : List Tn} {n : Nat} {v : Nat} {xs : List Nd} (hx : Cfb.Ok xs) (hnm : ∀ x ∈ xs, x.name.length ≤ 31) (hN : NF v xs ≤ 131072) (hn1 : n ≤ NF v xs) (hn5 : 512 ≤ n) (hr : ROk R ps T ((writeF v st xs).take n) n (sizeF v) es tn (miniF v st xs)) : R.OfC v st xs n := by
  obtain ⟨er, hok⟩ := hr.ok
  exact ⟨hx, hnm, hr.hB, hr.hN, hn1, hn5, hN, by rw [hr.hN]; exact hr.hcN, hr.hss, hok.mini, hok.hc⟩
theorem Steps_cut (hp : PsOk ps) (h : NodesOk ns) (hb : (STv (tnsF (verF four) (ns.map Nm.nd) (nmOf ns))).bad = false) (hN : nmF4 four ns ≤ 131072) (n : Nat) (hn1 : n ≤ nmF4 four ns) (hn5 : 512 ≤ n) (gI cI : Nat) (rI : List Value) (lp : List Value) (Tp : TypeId) (fp : Nat × Nat) (hlp : ∀ i, i < 20 → ∃ z : Int, lp[i]? = some (.int .u64 z)) (bE : EofB) (T0 TE : TypeId) (fz0 fzE : Nat × Nat) (hof : OpenFit n (sizeF (verF four)) (snF (verF four) st (ns.map Nm.nd) 0) (miniF (verF four) st (ns.map Nm.nd)) (wordAt (hcF (((wrF4 four st ns).drop 0).take 512) 109) (sizeF (verF four)) (snF (verF four) st (ns.map Nm.nd) 0)) (wordAt (hcF (((wrF4 four st ns).drop 0).take 512) 109) (sizeF (verF four)) (((miniF (verF four) st (ns.map Nm.nd)).getD ([], [])).1)) (wordAt (hcF (((wrF4 four st ns).drop 0).take 512) 109) (sizeF (verF four)) (((miniF (verF four) st (ns.map Nm.nd)).getD ([], [])).2))) (hk : ∀ k, k ∈ o.map Prod.fst ↔ k < ns.length) (ho : (STv (tnsF (verF four) (ns.map Nm.nd) (nmOf ns))).out = o.map Prod.fst) (hol : o.length ≤ 1000)
    (bst cst i kk : Nat) (rst : List Value) (hi : i < o.length) (hkk : (o.getD i default).1 = kk) (hkk0 : kk ≠ 0) (hstr : (ns.getD kk default).nd.stream = true) (s : Nat) (hds : (ns.getD kk default).nd.data.length ≤ s) (hs6 : s ≤ 65536) :
    Ct Tryd.prog 20 [.slice (some ⟨gI, 0, none⟩) n cI, nv i, .slice (some ⟨bst, 0, none⟩) 1 cst] ((gI, blk (bys ((wrF4 four st ns).take n) ++ rI) 5) :: (2, blk ps T) :: (bst, blk (stpR s ++ rst) 53) :: [(5, Obj.cells lp.toArray Tp fp), (0, Obj.cells [Value.iface 181 (Value.pointer (some ⟨bE.b, bE.o, none⟩))].toArray T0 fz0), (bE.b, Obj.cells bE.l.toArray TE fzE)])
      (fun v q => ∃ (g : Option Nat) (cap : Nat) (r row : List Value) (b2 cap2 : Nat) (r2 : List Value) (m c : Nat) (dv : Value) (RB : Heap), v = .tuple #[osl g 1 cap, .slice (some ⟨b2, 0, none⟩) n cap2, .bool true] ∧ oOk g row r 1 cap 3 ∧ row = [dv, nv m, nv c] ∧ m ≤ (ns.getD kk default).nd.data.length ∧ Sl RB dv ((ns.getD kk default).nd.data.take m) ∧ (m = (ns.getD kk default).nd.data.length ∨ (1 ≤ c ∧ CutBad (verF four) st (ns.map Nm.nd) kk n)) ∧
        q = (b2, blk (bys ((wrF4 four st ns).take n) ++ r2) 5) :: (2, blk ps T) :: (5, Obj.cells lp.toArray Tp fp) :: (0, Obj.cells [Value.iface 181 (Value.pointer (some ⟨bE.b, bE.o, none⟩))].toArray T0 fz0) :: (bE.b, Obj.cells bE.l.toArray TE fzE) :: (gI, blk (bys ((wrF4 four st ns).take n) ++ rI) 5) :: (bst, blk (stpR s ++ rst) 53) :: (oH g (row ++ r) 58 ++ RB)) := by
  have hnm : ∀ x ∈ ns.map Nm.nd, x.name.length ≤ 31 := nds_at ps h.xs (h.names hp)
  have hkl : kk < ns.length := by
    have hoi : o.getD i default ∈ o := by rw [List.getD_eq_getElem?_getD, List.getElem?_eq_getElem hi]; exact List.getElem_mem _
    rw [← hkk]; exact (hk _).1 (List.mem_map.2 ⟨_, hoi, rfl⟩)
  have hxl : kk < (ns.map Nm.nd).length := by simpa using hkl
  have hnd : (ns.map Nm.nd).getD kk default = (ns.getD kk default).nd := nd_at ns kk hkl
  have hdt : dtF (ns.map Nm.nd) kk = (ns.getD kk default).nd.data := by unfold dtF; rw [hnd]
  have hstr' : ((ns.map Nm.nd).getD kk default).stream = true := by rw [hnd]; exact hstr
  have hW : (wrF4 four st ns).length = nmF4 four ns := length_writeF h.xs hnm
  have hoo : (STv (tnsF (verF four) (ns.map Nm.nd) (nmOf ns))).out.length = o.length := by rw [ho]; simp
  have hop := cut_open (st := st) hp h hb hN n hn1 hn5 gI cI rI lp Tp fp hlp bE T0 TE fz0 fzE hof (T := T)
  have hs := StepsX_ct gI cI rI n (sizeF (verF four)) ((wrF4 four st ns).take n) ps T (esF (verF four) st (ns.map Nm.nd) (nmOf ns)) (tnsF (verF four) (ns.map Nm.nd) (nmOf ns)) (miniF (verF four) st (ns.map Nm.nd)) [(5, Obj.cells lp.toArray Tp fp), (0, Obj.cells [Value.iface 181 (Value.pointer (some ⟨bE.b, bE.o, none⟩))].toArray T0 fz0), (bE.b, Obj.cells bE.l.toArray TE fzE)] hop hn5 om_ (by simp; omega) hb bst 1 cst [stpR s] rst [] i rfl om_ (fun x hx => by rw [List.mem_singleton.1 hx]; rfl) (fun x hx u hu => by rw [List.mem_singleton.1 hx] at hu; exact List.all_eq_true.1 (show (stpR s).all Value.oneCell' = true from rfl) u hu) om_ om_
    (fun R j rs B2 H => ∃ f Z, R.bfs.getD (R.out.getD i 0) 0 = f.bf ∧ (2, blk R.ps R.T) ∈ Z ∧ (R.bo, blk (outs R.bfs R.out ++ R.ro) 90) ∈ Z ∧ B2 = ((wrF4 four st ns).take n) ∧
      ((j = 0 ∧ rs = [] ∧ H.Perm ((R.src f ((5, Obj.cells lp.toArray Tp fp) :: (0, Obj.cells [Value.iface 181 (Value.pointer (some ⟨bE.b, bE.o, none⟩))].toArray T0 fz0) :: (bE.b, Obj.cells bE.l.toArray TE fzE) :: Z) (verF four) st (ns.map Nm.nd) kk).fb 0 0 0 :: (R.src f ((5, Obj.cells lp.toArray Tp fp) :: (0, Obj.cells [Value.iface 181 (Value.pointer (some ⟨bE.b, bE.o, none⟩))].toArray T0 fz0) :: (bE.b, Obj.cells bE.l.toArray TE fzE) :: Z) (verF four) st (ns.map Nm.nd) kk).rb :: (R.src f ((5, Obj.cells lp.toArray Tp fp) :: (0, Obj.cells [Value.iface 181 (Value.pointer (some ⟨bE.b, bE.o, none⟩))].toArray T0 fz0) :: (bE.b, Obj.cells bE.l.toArray TE fzE) :: Z) (verF four) st (ns.map Nm.nd) kk).G)) ∨
       (j = 1 ∧ ∃ (m : Nat) (y : Obj) (dv : Value) (c : Nat) (RB : Heap), m ≤ (ns.getD kk default).nd.data.length ∧ Sl RB dv ((ns.getD kk default).nd.data.take m) ∧ (m = (ns.getD kk default).nd.data.length ∨ (1 ≤ c ∧ CutBad (verF four) st (ns.map Nm.nd) kk n)) ∧ rs = [[dv, nv m, nv c]] ∧ H.Perm ((f.bf, y) :: (R.src f ((5, Obj.cells lp.toArray Tp fp) :: (0, Obj.cells [Value.iface 181 (Value.pointer (some ⟨bE.b, bE.o, none⟩))].toArray T0 fz0) :: (bE.b, Obj.cells bE.l.toArray TE fzE) :: Z) (verF four) st (ns.map Nm.nd) kk).rb :: (RB ++ (R.src f ((5, Obj.cells lp.toArray Tp fp) :: (0, Obj.cells [Value.iface 181 (Value.pointer (some ⟨bE.b, bE.o, none⟩))].toArray T0 fz0) :: (bE.b, Obj.cells bE.l.toArray TE fzE) :: Z) (verF four) st (ns.map Nm.nd) kk).G))))) ?_ ?_
  · refine Ct.cutP (R := _) (by simpa only [List.flatten_cons, List.flatten_nil, List.append_nil] using hs) ?_
    rintro v post ⟨R, g, cap, r, rs, b2, cap2, r2, B2, H, hro, rfl, ⟨f, Z, hf1, hz1, hz2, rfl, hst⟩, hrl, hoo2, hB2, hBm, rfl⟩
    rcases hst with ⟨h0, -, -⟩ | ⟨-, m, y, dv, c, RB, h1, h2, h3, rfl, hpH⟩
    · exact absurd h0 om_
    have e1 := hro.hps
    have e2 := hro.hT
    rw [e1, e2] at hz1
    obtain ⟨Za, Zb, hZ⟩ := List.append_of_mem hz1
    refine ⟨_, (f.bf, y) :: (R.src f ((5, Obj.cells lp.toArray Tp fp) :: (0, Obj.cells [Value.iface 181 (Value.pointer (some ⟨bE.b, bE.o, none⟩))].toArray T0 fz0) :: (bE.b, Obj.cells bE.l.toArray TE fzE) :: Z) (verF four) st (ns.map Nm.nd) kk).rb :: ((R.bh, blk R.hcells 137) :: (R.bhf, blk R.hc 142) :: (R.bs, blk [.slice (some ⟨R.bB, 0, none⟩) R.N R.cN] 103) :: (R.bB, blk (bys R.B ++ R.rB) 5) :: (f.bd, blk f.en.dc 112) :: (R.X ++ (Za ++ Zb))), ⟨g, cap, r, [dv, nv m, nv c], b2, cap2, r2, m, c, dv, RB, rfl, by simpa using hoo2, rfl, h1, h2, h3, rfl⟩, ?_⟩
    have hG : (R.src f ((5, Obj.cells lp.toArray Tp fp) :: (0, Obj.cells [Value.iface 181 (Value.pointer (some ⟨bE.b, bE.o, none⟩))].toArray T0 fz0) :: (bE.b, Obj.cells bE.l.toArray TE fzE) :: Z) (verF four) st (ns.map Nm.nd) kk).G = (R.bh, blk R.hcells 137) :: (R.bhf, blk R.hc 142) :: (R.bs, blk [.slice (some ⟨R.bB, 0, none⟩) R.N R.cN] 103) :: (R.bB, blk (bys R.B ++ R.rB) 5) :: (f.bd, blk f.en.dc 112) :: (R.X ++ ((5, Obj.cells lp.toArray Tp fp) :: (0, Obj.cells [Value.iface 181 (Value.pointer (some ⟨bE.b, bE.o, none⟩))].toArray T0 fz0) :: (bE.b, Obj.cells bE.l.toArray TE fzE) :: (Za ++ (2, blk ps T) :: Zb))) := by unfold Rdr.src; rw [hZ]
    rw [hG] at hpH
    simp only [List.flatten_cons, List.flatten_nil, List.append_nil]
    exact perm_c fun w a => by
      have := @List.Perm.count_eq _ (@instBEqOfDecidableEq _ w) _ _ hpH a
      simp only [List.count_append, List.count_cons, List.count_nil] at this ⊢
      omega
  · intro R hro
    obtain ⟨f, h1, h2, h3, h4⟩ := ROk.file (st := st) h hk ho hro hi
    rw [hkk] at h1 h4
    obtain ⟨Z, hz1, hz2, hZ⟩ := src_split h1
    obtain ⟨g1, g2⟩ := src_file (R := R) (Z := (5, Obj.cells lp.toArray Tp fp) :: (0, Obj.cells [Value.iface 181 (Value.pointer (some ⟨bE.b, bE.o, none⟩))].toArray T0 fz0) :: (bE.b, Obj.cells bE.l.toArray TE fzE) :: Z) (v := verF four) (st := st) h.xs hxl hkk0 hstr' h4 hnm
    refine ⟨f, Z, h2, hz1, hz2, rfl, .inl ⟨rfl, rfl, ?_⟩⟩
    have h5 := hZ (verF four) st (ns.map Nm.nd) kk
    rw [g1] at h5
    have h6 : R.H.Perm ((R.src f ((5, Obj.cells lp.toArray Tp fp) :: (0, Obj.cells [Value.iface 181 (Value.pointer (some ⟨bE.b, bE.o, none⟩))].toArray T0 fz0) :: (bE.b, Obj.cells bE.l.toArray TE fzE) :: Z) (verF four) st (ns.map Nm.nd) kk).fb 0 0 0 :: (R.src f ((5, Obj.cells lp.toArray Tp fp) :: (0, Obj.cells [Value.iface 181 (Value.pointer (some ⟨bE.b, bE.o, none⟩))].toArray T0 fz0) :: (bE.b, Obj.cells bE.l.toArray TE fzE) :: Z) (verF four) st (ns.map Nm.nd) kk).rb :: ((R.bh, blk R.hcells 137) :: (R.bhf, blk R.hc 142) :: (R.bs, blk [.slice (some ⟨R.bB, 0, none⟩) R.N R.cN] 103) :: (R.bB, blk (bys R.B ++ R.rB) 5) :: (f.bd, blk f.en.dc 112) :: (R.X ++ Z))) := h5
    show (R.H ++ ([(5, Obj.cells lp.toArray Tp fp), (0, Obj.cells [Value.iface 181 (Value.pointer (some ⟨bE.b, bE.o, none⟩))].toArray T0 fz0), (bE.b, Obj.cells bE.l.toArray TE fzE)] ++ [])).Perm ((R.src f ((5, Obj.cells lp.toArray Tp fp) :: (0, Obj.cells [Value.iface 181 (Value.pointer (some ⟨bE.b, bE.o, none⟩))].toArray T0 fz0) :: (bE.b, Obj.cells bE.l.toArray TE fzE) :: Z) (verF four) st (ns.map Nm.nd) kk).fb 0 0 0 :: (R.src f ((5, Obj.cells lp.toArray Tp fp) :: (0, Obj.cells [Value.iface 181 (Value.pointer (some ⟨bE.b, bE.o, none⟩))].toArray T0 fz0) :: (bE.b, Obj.cells bE.l.toArray TE fzE) :: Z) (verF four) st (ns.map Nm.nd) kk).rb :: ((R.bh, blk R.hcells 137) :: (R.bhf, blk R.hc 142) :: (R.bs, blk [.slice (some ⟨R.bB, 0, none⟩) R.N R.cN] 103) :: (R.bB, blk (bys R.B ++ R.rB) 5) :: (f.bd, blk f.en.dc 112) :: (R.X ++ ((5, Obj.cells lp.toArray Tp fp) :: (0, Obj.cells [Value.iface 181 (Value.pointer (some ⟨bE.b, bE.o, none⟩))].toArray T0 fz0) :: (bE.b, Obj.cells bE.l.toArray TE fzE) :: Z))))
    exact perm_c fun w a => by
      have := @List.Perm.count_eq _ (@instBEqOfDecidableEq _ w) _ _ h6 a
      simp only [List.count_append, List.count_cons, List.count_nil] at this ⊢
      omega
  intro R hro
  have hOC := ROk.ofC h.xs hnm hN hn1 hn5 hro
  refine ⟨?_, ?_⟩
  · rintro j rs B H ⟨f, Z, hf1, hz1, hz2, rfl, hst⟩
    have mem : ∀ x, x ∈ (R.src f ((5, Obj.cells lp.toArray Tp fp) :: (0, Obj.cells [Value.iface 181 (Value.pointer (some ⟨bE.b, bE.o, none⟩))].toArray T0 fz0) :: (bE.b, Obj.cells bE.l.toArray TE fzE) :: Z) (verF four) st (ns.map Nm.nd) kk).rb :: (R.src f ((5, Obj.cells lp.toArray Tp fp) :: (0, Obj.cells [Value.iface 181 (Value.pointer (some ⟨bE.b, bE.o, none⟩))].toArray T0 fz0) :: (bE.b, Obj.cells bE.l.toArray TE fzE) :: Z) (verF four) st (ns.map Nm.nd) kk).G → x ∈ H := fun x hx => by
      rcases hst with ⟨-, -, hpH⟩ | ⟨-, m, y, dv, c, RB, -, -, -, -, hpH⟩
      · exact hpH.mem_iff.2 (List.mem_cons_of_mem _ hx)
      refine hpH.mem_iff.2 (List.mem_cons_of_mem _ ?_)
      rcases List.mem_cons.1 hx with rfl | hx
      · exact List.mem_cons_self ..
      exact List.mem_cons_of_mem _ (List.mem_append_right _ hx)
    have hRB : R.B = ((wrF4 four st ns).take n) := hro.hB
    have inZ : ∀ x, x ∈ Z → x ∈ (R.src f ((5, Obj.cells lp.toArray Tp fp) :: (0, Obj.cells [Value.iface 181 (Value.pointer (some ⟨bE.b, bE.o, none⟩))].toArray T0 fz0) :: (bE.b, Obj.cells bE.l.toArray TE fzE) :: Z) (verF four) st (ns.map Nm.nd) kk).G := fun x hx => List.mem_cons_of_mem _ (List.mem_cons_of_mem _ (List.mem_cons_of_mem _ (List.mem_cons_of_mem _ (List.mem_cons_of_mem _ (List.mem_append_right _ (List.mem_cons_of_mem _ (List.mem_cons_of_mem _ (List.mem_cons_of_mem _ hx))))))))
    refine ⟨⟨R.wa, mem _ (List.mem_cons_self ..)⟩, mem _ (List.mem_cons_of_mem _ (inZ _ hz2)), mem _ ?_, by rw [hro.hN]; simp; omega, mem _ ?_⟩
    · exact List.mem_cons_of_mem _ (List.mem_cons_of_mem _ (List.mem_cons_of_mem _ (List.mem_cons_self ..)))
    rw [← hRB]
    exact List.mem_cons_of_mem _ (List.mem_cons_of_mem _ (List.mem_cons_of_mem _ (List.mem_cons_of_mem _ (List.mem_cons_self ..))))
  rintro j rs B H ⟨f, Z, hf1, hz1, hz2, rfl, hst⟩ hj
  obtain rfl : j = 0 := by omega
  rcases hst with ⟨-, rfl, hpH⟩ | ⟨hj1, -⟩
  · rw [hf1]
    have h1 := one_cut (f := f) (Z := Z) (lp := lp) (Tp := Tp) (fp := fp) (bE := bE) (T0 := T0) (TE := TE) (fz0 := fz0) (fzE := fzE) hOC hxl hkk0 hstr' s (by rw [hdt]; exact hds) hs6
    rw [hdt] at h1
    refine h1.conseq (G := []) (by rw [List.append_nil]; exact hpH) ?_
    rintro v post ⟨m, y, dv, c, RB, h1, h2, h3, rfl, rfl⟩
    refine ⟨(f.bf, y) :: (R.src f ((5, Obj.cells lp.toArray Tp fp) :: (0, Obj.cells [Value.iface 181 (Value.pointer (some ⟨bE.b, bE.o, none⟩))].toArray T0 fz0) :: (bE.b, Obj.cells bE.l.toArray TE fzE) :: Z) (verF four) st (ns.map Nm.nd) kk).rb :: (RB ++ (R.src f ((5, Obj.cells lp.toArray Tp fp) :: (0, Obj.cells [Value.iface 181 (Value.pointer (some ⟨bE.b, bE.o, none⟩))].toArray T0 fz0) :: (bE.b, Obj.cells bE.l.toArray TE fzE) :: Z) (verF four) st (ns.map Nm.nd) kk).G), ⟨[dv, nv m, nv c], ((wrF4 four st ns).take n), rfl, rfl, ?_, f, Z, rfl, hz1, hz2, rfl, .inr ⟨rfl, m, y, dv, c, RB, h1, h2, h3, rfl, List.Perm.refl _⟩⟩, ?_⟩
    · intro u hu
      simp only [List.mem_cons, List.not_mem_nil, or_false] at hu
      rcases hu with rfl | rfl | rfl
      · exact h2.one
      · rfl
      rfl
    rw [List.append_nil]
  exact absurd hj1 om_
end

theorem es_dc {ps : List Value} {four : Bool} {st : Nat} {xs : List Nd} {nmF : Nat → List UInt8} (hx : Ok xs) (hnm : ∀ k, k < xs.length → NmOk ps (xs.getD k default) (nmF k)) : ∀ e ∈ esF (verF four) st xs nmF, DcOk e := by
  have hd := dsF_le (v := verF four) hx
  have hs := size_ge (verF four)
  have hz : sizeF (verF four) / 128 * 128 = sizeF (verF four) := by rcases sizeF_or (verF four) with e | e <;> rw [e]
  intro e he
  obtain ⟨k, hk, rfl⟩ := List.mem_map.1 he
  have hk' := List.mem_range.1 hk
  have hpos : 0 < sizeF (verF four) / 128 := by omega
  have hj : k / (sizeF (verF four) / 128) < dsF (verF four) xs := (Nat.div_lt_iff_lt_mul hpos).2 hk'
  have hi : k % (sizeF (verF four) / 128) < sizeF (verF four) / 128 := Nat.mod_lt _ hpos
  have hkk : k / (sizeF (verF four) / 128) * (sizeF (verF four) / 128) + k % (sizeF (verF four) / 128) = k := by rw [Nat.mul_comm]; exact Nat.div_add_mod _ _
  have h1 := enF_ok (st := st) ps hx hnm hj hi
  rw [hkk] at h1
  refine h1.dcOk ?_ ?_
  · have hl := (nTo_len (v := verF four) (st := st) hx (nds_at ps hx hnm) (Nat.le_refl _)).1
    rw [nTo_all] at hl
    have hle : k / (sizeF (verF four) / 128) * sizeF (verF four) + sizeF (verF four) ≤ dsF (verF four) xs * sizeF (verF four) := by rw [← Nat.succ_mul]; exact Nat.mul_le_mul_right _ hj
    unfold dsecF
    simp [hl]; omega
  unfold enF
  split
  · have := ((xs.getD k default).name.getD 0 0).toNat_lt
    simp only; omega
  simp
section
variable {ps : List Value} {T : TypeId} {four : Bool} {st : Nat} {ns : List Nm} {o : List (Nat × List (List UInt8))}
theorem Entries_cut (hp : PsOk ps) (h : NodesOk ns) (hb : (STv (tnsF (verF four) (ns.map Nm.nd) (nmOf ns))).bad = false) (hN : nmF4 four ns ≤ 131072) (n : Nat) (hn1 : n ≤ nmF4 four ns) (hn5 : 512 ≤ n) (gI cI : Nat) (rI : List Value) (lp : List Value) (Tp : TypeId) (fp : Nat × Nat) (hlp : ∀ i, i < 20 → ∃ z : Int, lp[i]? = some (.int .u64 z)) (bE : EofB) (T0 TE : TypeId) (fz0 fzE : Nat × Nat) (hof : OpenFit n (sizeF (verF four)) (snF (verF four) st (ns.map Nm.nd) 0) (miniF (verF four) st (ns.map Nm.nd)) (wordAt (hcF (((wrF4 four st ns).drop 0).take 512) 109) (sizeF (verF four)) (snF (verF four) st (ns.map Nm.nd) 0)) (wordAt (hcF (((wrF4 four st ns).drop 0).take 512) 109) (sizeF (verF four)) (((miniF (verF four) st (ns.map Nm.nd)).getD ([], [])).1)) (wordAt (hcF (((wrF4 four st ns).drop 0).take 512) 109) (sizeF (verF four)) (((miniF (verF four) st (ns.map Nm.nd)).getD ([], [])).2))) (ho : (STv (tnsF (verF four) (ns.map Nm.nd) (nmOf ns))).out = o.map Prod.fst) :
    Ct Tryd.prog 18 [.slice (some ⟨gI, 0, none⟩) n cI] ((gI, blk (bys ((wrF4 four st ns).take n) ++ rI) 5) :: (2, blk ps T) :: [(5, Obj.cells lp.toArray Tp fp), (0, Obj.cells [Value.iface 181 (Value.pointer (some ⟨bE.b, bE.o, none⟩))].toArray T0 fz0), (bE.b, Obj.cells bE.l.toArray TE fzE)]) (fun v q => ∃ (g : Option Nat) (cap : Nat) (r xs : List Value), oOk g xs r o.length cap 27 ∧ v = .tuple #[osl g o.length cap, nv 0] ∧ q = (gI, blk (bys ((wrF4 four st ns).take n) ++ rI) 5) :: (2, blk ps T) :: [(5, Obj.cells lp.toArray Tp fp), (0, Obj.cells [Value.iface 181 (Value.pointer (some ⟨bE.b, bE.o, none⟩))].toArray T0 fz0), (bE.b, Obj.cells bE.l.toArray TE fzE)]) := by
  have hs := size_ge (verF four)
  have hd := dsF_le (v := verF four) h.xs
  have hcn : (tnsF (verF four) (ns.map Nm.nd) (nmOf ns)).length ≤ 100000 := by
    have : dsF (verF four) (ns.map Nm.nd) * (sizeF (verF four) / 128) ≤ 5 * 32 := Nat.mul_le_mul hd.2.1 om_
    simp [tnsF, cntF]; omega
  have hop := cut_open (st := st) hp h hb hN n hn1 hn5 gI cI rI lp Tp fp hlp bE T0 TE fz0 fzE hof (T := T)
  have hl : (esF (verF four) st (ns.map Nm.nd) (nmOf ns)).length = (tnsF (verF four) (ns.map Nm.nd) (nmOf ns)).length := by simp [esF, tnsF]
  have := EntriesX_ct gI cI rI n (sizeF (verF four)) ((wrF4 four st ns).take n) ps T _ _ _ [(5, Obj.cells lp.toArray Tp fp), (0, Obj.cells [Value.iface 181 (Value.pointer (some ⟨bE.b, bE.o, none⟩))].toArray T0 fz0), (bE.b, Obj.cells bE.l.toArray TE fzE)] hop hl hb (es_dc (ps := ps) h.xs (h.names hp)) (pth_small _ hcn) (out_small _ hcn)
  rw [show (STv (tnsF (verF four) (ns.map Nm.nd) (nmOf ns))).out.length = o.length by rw [ho]; simp] at this
  exact this
theorem Entries_shut (hp : PsOk ps) (h : NodesOk ns) (hb : (STv (tnsF (verF four) (ns.map Nm.nd) (nmOf ns))).bad = false) (hN : nmF4 four ns ≤ 131072) (n : Nat) (hn1 : n ≤ nmF4 four ns) (hn5 : 512 ≤ n) (gI cI : Nat) (rI : List Value) (lp : List Value) (Tp : TypeId) (fp : Nat × Nat) (hlp : ∀ i, i < 20 → ∃ z : Int, lp[i]? = some (.int .u64 z)) (bE : EofB) (T0 TE : TypeId) (fz0 fzE : Nat × Nat) (hof : ¬ OpenFit n (sizeF (verF four)) (snF (verF four) st (ns.map Nm.nd) 0) (miniF (verF four) st (ns.map Nm.nd)) (wordAt (hcF (((wrF4 four st ns).drop 0).take 512) 109) (sizeF (verF four)) (snF (verF four) st (ns.map Nm.nd) 0)) (wordAt (hcF (((wrF4 four st ns).drop 0).take 512) 109) (sizeF (verF four)) (((miniF (verF four) st (ns.map Nm.nd)).getD ([], [])).1)) (wordAt (hcF (((wrF4 four st ns).drop 0).take 512) 109) (sizeF (verF four)) (((miniF (verF four) st (ns.map Nm.nd)).getD ([], [])).2))) :
    Ct Tryd.prog 18 [.slice (some ⟨gI, 0, none⟩) n cI] ((gI, blk (bys ((wrF4 four st ns).take n) ++ rI) 5) :: (2, blk ps T) :: [(5, Obj.cells lp.toArray Tp fp), (0, Obj.cells [Value.iface 181 (Value.pointer (some ⟨bE.b, bE.o, none⟩))].toArray T0 fz0), (bE.b, Obj.cells bE.l.toArray TE fzE)]) (fun v q => ∃ c : Nat, 1 ≤ c ∧ c ≤ 11 ∧ v = .tuple #[.slice none 0 0, nv c] ∧ q = (gI, blk (bys ((wrF4 four st ns).take n) ++ rI) 5) :: (2, blk ps T) :: [(5, Obj.cells lp.toArray Tp fp), (0, Obj.cells [Value.iface 181 (Value.pointer (some ⟨bE.b, bE.o, none⟩))].toArray T0 fz0), (bE.b, Obj.cells bE.l.toArray TE fzE)]) :=
  EntriesNo_ct gI cI n rI ((wrF4 four st ns).take n) ps T [(5, Obj.cells lp.toArray Tp fp), (0, Obj.cells [Value.iface 181 (Value.pointer (some ⟨bE.b, bE.o, none⟩))].toArray T0 fz0), (bE.b, Obj.cells bE.l.toArray TE fzE)] (cut_shut (st := st) hp h hb hN n hn1 hn5 gI cI rI lp Tp fp hlp bE T0 TE fz0 fzE hof)
theorem Steps_shut (hp : PsOk ps) (h : NodesOk ns) (hb : (STv (tnsF (verF four) (ns.map Nm.nd) (nmOf ns))).bad = false) (hN : nmF4 four ns ≤ 131072) (n : Nat) (hn1 : n ≤ nmF4 four ns) (hn5 : 512 ≤ n) (gI cI : Nat) (rI : List Value) (lp : List Value) (Tp : TypeId) (fp : Nat × Nat) (hlp : ∀ i, i < 20 → ∃ z : Int, lp[i]? = some (.int .u64 z)) (bE : EofB) (T0 TE : TypeId) (fz0 fzE : Nat × Nat) (hof : ¬ OpenFit n (sizeF (verF four)) (snF (verF four) st (ns.map Nm.nd) 0) (miniF (verF four) st (ns.map Nm.nd)) (wordAt (hcF (((wrF4 four st ns).drop 0).take 512) 109) (sizeF (verF four)) (snF (verF four) st (ns.map Nm.nd) 0)) (wordAt (hcF (((wrF4 four st ns).drop 0).take 512) 109) (sizeF (verF four)) (((miniF (verF four) st (ns.map Nm.nd)).getD ([], [])).1)) (wordAt (hcF (((wrF4 four st ns).drop 0).take 512) 109) (sizeF (verF four)) (((miniF (verF four) st (ns.map Nm.nd)).getD ([], [])).2))) (i bst m cst : Nat) (sts : List (List Value)) (rst : List Value) :
    Ct Tryd.prog 20 [.slice (some ⟨gI, 0, none⟩) n cI, nv i, .slice (some ⟨bst, 0, none⟩) m cst] ((gI, blk (bys ((wrF4 four st ns).take n) ++ rI) 5) :: (2, blk ps T) :: (bst, blk (sts.flatten ++ rst) 53) :: [(5, Obj.cells lp.toArray Tp fp), (0, Obj.cells [Value.iface 181 (Value.pointer (some ⟨bE.b, bE.o, none⟩))].toArray T0 fz0), (bE.b, Obj.cells bE.l.toArray TE fzE)]) (fun v q => v = .tuple #[.slice none 0 0, .slice none 0 0, .bool false] ∧ q = (gI, blk (bys ((wrF4 four st ns).take n) ++ rI) 5) :: (2, blk ps T) :: (bst, blk (sts.flatten ++ rst) 53) :: [(5, Obj.cells lp.toArray Tp fp), (0, Obj.cells [Value.iface 181 (Value.pointer (some ⟨bE.b, bE.o, none⟩))].toArray T0 fz0), (bE.b, Obj.cells bE.l.toArray TE fzE)]) :=
  StepsNo_ct gI cI n i bst m cst rI rst sts ((wrF4 four st ns).take n) ps T [(5, Obj.cells lp.toArray Tp fp), (0, Obj.cells [Value.iface 181 (Value.pointer (some ⟨bE.b, bE.o, none⟩))].toArray T0 fz0), (bE.b, Obj.cells bE.l.toArray TE fzE)] (cut_shut (st := st) hp h hb hN n hn1 hn5 gI cI rI lp Tp fp hlp bE T0 TE fz0 fzE hof)
end

theorem streamOf_ct (ns : List Nm) (g cap tn : Nat) (rn : List Value) (o : List (Nat × List (List UInt8))) (htn : tn ≤ 255) (hk2 : ns.length ≤ 1000) (hol : o.length ≤ 1000) (ho : OT (lfF ns) (rtF ns) (chdF ns) (nmOf ns) ((0 : Nat) : Int) [] o) (hk : ∀ k ∈ o.map Prod.fst, k < ns.length) :
  Ct Tryd.prog 19 [.slice (some ⟨g, 0, none⟩) ns.length cap, .int .u8 (tn : Int)] [(g, blk (nms ns ++ rn) 43)] (fun v q => ∃ e k b, v = .tuple #[nv e, nv k, .bool b] ∧ (b = true → e < o.length ∧ (o.getD e default).1 = k ∧ (ns.getD k default).nd.stream = true) ∧ q = [(g, blk (nms ns ++ rn) 43)]) := by
 refine Ct_of Tryd.func19 rfl Tryd.ntmps19 rfl ?_
 intro E F
 simp only [numL, List.nil_append, List.cons_append]
 refine CW_sr ?_
 refine RW_a ?_
 refine RW_a ?_
 refine RW_a ?_
 refine RW_lv [0,1] ?_
 refine CW_sr ?_
 refine RW_m ?_
 refine RW_fx rfl rfl rfl (Fx_call ok_17 (vs := [.slice (some ⟨g, 0, none⟩) ns.length cap]) rfl (Pick.cons (.here _ _) (Pick.nil _)) (Order_ct ns g cap rn o hk2 hol ho hk)) ?_
 rintro _ _ ⟨_, ⟨vs, oO, co, ro, oP, cp, rp, ppO, rfl, hvs, hro, hrp, rfl⟩, rfl⟩
 simp only [List.cons_append]
 refine RW_m ?_
 refine RW_l (Yl_extract (v := .slice (some ⟨oO, 0, none⟩) o.length co) rfl rfl) ?_
 refine RW_l (Yl_extract (v := .slice (some ⟨oP, 0, none⟩) o.length cp) rfl rfl) ?_
 refine RW_a ?_
 refine RW_a ?_
 refine RW_lv [0,1,7] ?_
 refine CW_seq ?_
 refine CW_seq ?_
 refine CW_drop (H' := (g, blk (nms ns ++ rn) 43) :: (oO, blk (nats (o.map Prod.fst) ++ ro) 3) :: F) (.cons_cons _ (.cons_cons _ (.cons _ (List.sublist_append_right _ _)))) ?_
 refine CW_region ?_
 refine RW_m ?_
 refine RW_l (Yl_len rfl sl_29) ?_
 refine RW_m ?_
 refine RW_lv [0,1,7,17,18] ?_
 refine CW_block ?_
 refine CW_lp (σ := Nat) (fun x => [(0, .slice (some ⟨g, 0, none⟩) ns.length cap), (1, .int .u8 (tn : Int)), (7, .slice (some ⟨oO, 0, none⟩) o.length co), (17, nv o.length), (18, nv x)]) (fun _ => (g, blk (nms ns ++ rn) 43) :: (oO, blk (nats (o.map Prod.fst) ++ ro) 3) :: F) (fun x => x ≤ o.length) (fun x => o.length - x) 0 (Nat.zero_le _) ?_
 rintro x hx
 refine CW_sr ?_
 refine RW_l (Yl_lss rfl rfl) ?_
 refine RW_lv [0,1,7,17,18,19] ?_
 refine CW_seq ?_
 refine CW_cd rfl (fun hc1 => ?_) (fun hc1 => ?_)
 ·refine (CW_skip (QW_lv [0,1,7,17,18] ?_))
  refine CW_seq ?_
  refine CW_block ?_
  refine CW_sr ?_
  refine RW_m ?_
  refine RW_a ?_
  refine RW_lv [0,1,7,9,17,18] ?_
  refine CW_sr ?_
  refine RW_m ?_
  refine RW_l (Yl_conv (c := (tn : Int)) rfl in_5 in_3 (wi64 om_ om_)) ?_
  refine RW_m ?_
  refine RW_l (Yl_add (c := ((tn + x : Nat) : Int)) rfl rfl (wi64 om_ om_)) ?_
  refine RW_m ?_
  refine RW_l (Yl_len rfl sl_29) ?_
  refine RW_l (Yl_rem (c := (((tn + x) % o.length : Nat) : Int)) rfl rfl om_ (remN (tn + x) o.length)) ?_
  refine RW_a ?_
  refine RW_lv [0,1,7,10,17,18] ?_
  refine CW_seq ?_
  obtain ⟨ix, hixe⟩ : ∃ ix, ix = (tn + x) % o.length := ⟨_, rfl⟩
  have hix : ix < o.length := by rw [hixe]; exact Nat.mod_lt _ om_
  rw [← hixe]
  obtain ⟨k, hk1⟩ : ∃ k, (o.getD ix default).1 = k := ⟨_, rfl⟩
  have hkn : k < ns.length := by
   have hoi : o.getD ix default ∈ o := by rw [List.getD_eq_getElem?_getD, List.getElem?_eq_getElem hix]; exact List.getElem_mem _
   rw [← hk1]; exact hk _ (List.mem_map.2 ⟨_, hoi, rfl⟩)
  refine CW_region ?_
  refine RW_m ?_
  refine RW_m ?_
  refine RW_m ?_
  refine RW_l (Yl_indexN (b := oO) (off := 0) (i := ix) (o' := ix) rfl rfl sl_29 om_ om_) ?_
  refine RW_h (Yh_lh (v := nv k) sc_3 (fst_at hix hk1)) ?_
  refine RW_l (Yl_indexN (b := g) (off := 0) (i := k) (o' := k * 28) rfl rfl sl_25 hkn om_) ?_
  refine RW_f fo_43_1 ?_
  refine RW_h (Yh_load (v := .bool (ns.getD k default).nd.stream) rfl sc_4 mem_ (by rw [nms_cell _ _ _ 1 hkn om_]; rfl)) ?_
  refine RW_lv [0,1,7,10,17,18,35] ?_
  refine CW_cond rfl (fun hc2 => ?_) (fun hc2 => ?_)
  ·skip
   have hstr : (ns.getD k default).nd.stream = true := hc2
   refine CW_seq ?_
   refine CW_draw [] _ mixed (Sub.refl _) ?_
   refine RD_m 0 ?_
   refine RD_m 1 ?_
   refine RD_m 2 ?_
   refine RD_l 3 rfl (Yl_indexN (b := oO) (off := 0) (i := ix) (o' := ix) rfl rfl sl_29 om_ om_) ?_
   refine RD_a 5 ?_
   refine RD_h (i := 4) #[true, true, true, true, false, true, false, false] rfl rfl rfl rfl kr_ (fun _ _ _ h => h) (Yh_lh (v := nv k) sc_3 (fst_at hix hk1)) ?_
   refine RD_a 6 ?_
   refine RD_a 7 ?_
   refine (RD_done kr_ (QW_lv [4,5,6] ?_))
   refine CW_ret ?_
   refine QW_ret_block ?_
   refine QW_ret_then ?_
   refine QW_ret_then ?_
   refine QW_ret_block ?_
   refine QW_ret_then ?_
   refine QW_dropB (e := (oO, _)) rem_ ?_
   first
    | exact QW_ret3 rfl rfl rfl rfl [(g, blk (nms ns ++ rn) 43)] ⟨ix, k, true, rfl, fun _ => ⟨hix, hk1, hstr⟩, rfl⟩ (Prm.nil _)
    | exact QW_ret3 rfl rfl rfl rfl [(g, blk (nms ns ++ rn) 43)] ⟨0, 0, false, rfl, fun h => (by cases h), rfl⟩ (Prm.nil _)
  skip
  refine CW_skip ?_
  refine QW_normal_block ?_
  refine (QW_lv [0,1,7,17,18] ?_)
  refine CW_region ?_
  refine RW_l (Yl_add (c := ((x + 1 : Nat) : Int)) rfl rfl (wi64 om_ om_)) ?_
  refine RW_m ?_
  refine RW_nil ?_
  exact QW_rn (x + 1) om_ om_
 refine CW_exit ?_
 refine QW_exit_then ?_
 refine QW_exit_then ?_
 refine QW_exit_block ?_
 refine (QW_lv [] ?_)
 refine CW_sr ?_
 refine RW_a ?_
 refine RW_a ?_
 refine RW_a ?_
 refine RW_lv [4,5,6] ?_
 refine CW_ret ?_
 refine QW_dropB (e := (oO, _)) rem_ ?_
 first
  | exact QW_ret3 rfl rfl rfl rfl [(g, blk (nms ns ++ rn) 43)] ⟨ix, k, true, rfl, fun _ => ⟨hix, hk1, hstr⟩, rfl⟩ (Prm.nil _)
  | exact QW_ret3 rfl rfl rfl rfl [(g, blk (nms ns ++ rn) 43)] ⟨0, 0, false, rfl, fun h => (by cases h), rfl⟩ (Prm.nil _)
theorem same_by (H : Heap) (v1 v2 : Value) (d : List UInt8) (h1 : By H v1 d) (h2 : By H v2 d) : Ct Tryd.prog 21 [v1, v2] H (fun v q => v = .bool true ∧ q = H) := by
 refine Ct_of Tryd.func21 rfl Tryd.ntmps21 rfl ?_
 intro E F
 simp only [numL, List.nil_append, List.cons_append]
 refine CW_sr ?_
 refine RW_a ?_
 refine RW_lv [0,1] ?_
 refine CW_sr ?_
 refine RW_m ?_
 refine RW_h (Yh_by rfl (h1.more fun x hx => List.mem_append_left _ hx)) ?_
 refine RW_m ?_
 refine RW_h (Yh_by rfl (h2.more fun x hx => List.mem_append_left _ hx)) ?_
 refine RW_l (Yl_strEqT rfl rfl) ?_
 refine RW_a ?_
 refine RW_lv [4] ?_
 refine CW_ret ?_
 exact QW_ret1 rfl rfl H ⟨rfl, rfl⟩ (Prm.nil _)

theorem NodesOk.notroot {ns : List Nm} (h : NodesOk ns) {k : Nat} (hs : (ns.getD k default).nd.stream = true) : k ≠ 0 := by
  rintro rfl
  obtain ⟨c, e⟩ := h.root
  rw [e] at hs
  exact Bool.noConfusion (show false = true from hs)
@[reducible] def Nm.cut (x : Nm) (a z : Nat) : Value := .slice (cutAt (x.b.map fun b => ⟨b, 0, none⟩) x.cap a 1) (z - a) (x.cap - a)
theorem Nm.cut_by {x : Nm} (h : x.ok) {H : Heap} (hm : ∀ e ∈ x.heap, e ∈ H) {a z : Nat} (ha : a ≤ z) (hz : z ≤ x.nd.data.length) : By H (x.cut a z) ((x.nd.data.drop a).take (z - a)) := by
  by_cases h0 : z - a = 0
  · exact ⟨_, _, _, rfl, by simp; omega, .inl h0⟩
  obtain ⟨e1, e2⟩ := Nm.data_ok h om_
  unfold Nm.cut
  have hf := h.fit
  rw [e1, cutAt_some om_]
  have hmm := hm _ (by rw [e2]; exact List.mem_cons_self ..)
  exact By.part (d := x.nd.data) hmm (by rw [List.drop_zero, List.take_append_of_le_length (by simp), List.take_of_length_le (by simp)]) ha hz rfl om_
theorem nmsH_mem {ns : List Nm} {k : Nat} (hk : k < ns.length) : ∀ e ∈ (ns.getD k default).heap, e ∈ nmsH ns := by
  intro e he
  refine List.mem_flatMap.2 ⟨_, ?_, he⟩
  rw [List.getD_eq_getElem?_getD, List.getElem?_eq_getElem hk]; exact List.getElem_mem _

theorem Nm.cutH_by {x : Nm} (h : x.ok) {H : Heap} (hm : ∀ e ∈ x.heap, e ∈ H) {z : Nat} (hz : z ≤ x.nd.data.length) : By H (.slice (cutAt (x.b.map fun b => ⟨b, 0, none⟩) x.cap 0 1) z x.cap) ((x.nd.data.drop 0).take z) := by
  have := Nm.cut_by h hm (Nat.zero_le z) hz
  obtain ⟨p, n, c, h1, h2, h3⟩ := this
  cases h1
  exact ⟨_, _, _, rfl, h2, h3⟩
theorem Yl_cutHG {P : Program} {L : Fra} {dst : Option Tmp} {ty : TypeId} {pos : String} {aft : Array Edge} {gd : Option (Nat × Bool)} {x z : Operand} {t e : TypeId} {sz m c h : Nat} {p : Option Addr} (hx : ev L x = some (.slice p m c)) (hz : ev L z = some (.int .i64 (h : Int)))
    (ht : slOf P t = some (e, sz)) (h2 : h ≤ c) : Yl P L ⟨dst, .slice t x none (some z) none, ty, pos, aft, gd⟩ (.slice (cutAt p c 0 sz) h c) := by
  have := Yl_cutH (P := P) (dst := dst) (ty := ty) (pos := pos) (aft := aft) (gd := gd) hx hz ht om_ om_
  simpa only [Int.toNat_natCast] using this

section
variable {P : Program} {L : Fra} {dst : Option Tmp} {ty : TypeId} {pos : String} {aft : Array Edge} {gd : Option (Nat × Bool)}
theorem Yl_lenO {x : Operand} {t e : TypeId} {sz s n cap : Nat} {o : Option Nat} {xs r : List Value} (hx : ev L x = some (osl o n cap)) (ho : oOk o xs r n cap s) (ht : slOf P t = some (e, sz)) : Yl P L ⟨dst, .call ⟨.builtin .len, #[x], #[t]⟩, ty, pos, aft, gd⟩ (nv n) := by
  cases o with
  | none => obtain ⟨rfl, rfl⟩ := ho; exact Yl_len hx ht
  | some g => exact Yl_len hx ht
end

theorem len_of_mem {l : List Nat} : ∀ n, (∀ k, k < n → k ∈ l) → n ≤ l.length := by
  intro n
  induction n generalizing l with
  | zero => intro _; omega
  | succ n ih =>
    intro h
    have h1 : n ∈ l := h n om_
    have h2 := ih (l := l.erase n) (fun k hk => (List.mem_erase_of_ne om_).2 (h k om_))
    rw [List.length_erase_of_mem h1] at h2
    have : 0 < l.length := List.length_pos_of_mem h1
    omega
theorem cut_at (four : Bool) (ns : List Nm) (x ss tq n : Nat) (hss : ss = sizeF (verF four)) (htq : tq = nmF4 four ns / ss) (hn : n = ss * (1 + x % tq)) : 0 < tq ∧ 512 ≤ n ∧ n ≤ nmF4 four ns ∧ tq ≤ nmF4 four ns ∧ x % tq < tq := by
  have hz := size_ge (verF four)
  have e1 : nmF4 four ns = ss * (1 + TF (verF four) (ns.map Nm.nd)) := by rw [hss]; rfl
  have e2 : tq = 1 + TF (verF four) (ns.map Nm.nd) := by rw [htq, e1]; exact Nat.mul_div_cancel_left _ om_
  have h1 : 0 < tq := by omega
  have h2 := Nat.mod_lt x h1
  have h3 : ss * (1 + x % tq) ≤ ss * tq := Nat.mul_le_mul_left _ om_
  have h4 : ss * 1 ≤ ss * (1 + x % tq) := Nat.mul_le_mul_left _ om_
  have h5 : 1 * tq ≤ ss * tq := Nat.mul_le_mul_right _ om_
  rw [e1, ← e2]
  refine ⟨h1, by omega, by omega, by omega, h2⟩
section
variable {ps : List Value} {T : TypeId} {four : Bool} {st : Nat} {ns : List Nm} {o : List (Nat × List (List UInt8))}
theorem Steps_whole (hp : PsOk ps) (h : NodesOk ns) (hb : (STv (tnsF (verF four) (ns.map Nm.nd) (nmOf ns))).bad = false) (hN : nmF4 four ns ≤ 131072) (gI : Nat) (lp : List Value) (Tp : TypeId) (fp : Nat × Nat) (hlp : ∀ i, i < 20 → ∃ z : Int, lp[i]? = some (.int .u64 z)) (bE : EofB) (T0 TE : TypeId) (fz0 fzE : Nat × Nat)
    (hk : ∀ k, k ∈ o.map Prod.fst ↔ k < ns.length) (ho : (STv (tnsF (verF four) (ns.map Nm.nd) (nmOf ns))).out = o.map Prod.fst) (hol : o.length ≤ 1000) (bst cst i kk : Nat) (rst : List Value) (hi : i < o.length) (hkk : (o.getD i default).1 = kk) (hkk0 : kk ≠ 0) (hstr : (ns.getD kk default).nd.stream = true) (h9 : (ns.getD kk default).nd.data.length ≤ 9000) :
    Ct Tryd.prog 20 [.slice (some ⟨gI, 0, none⟩) (nmF4 four ns) (nmF4 four ns), nv i, .slice (some ⟨bst, 0, none⟩) 1 cst] ((gI, blk (bys (wrF4 four st ns)) 5) :: (2, blk ps T) :: (bst, blk (stpR ((ns.getD kk default).nd.data.length + 1) ++ rst) 53) :: [(5, Obj.cells lp.toArray Tp fp), (0, Obj.cells [Value.iface 181 (Value.pointer (some ⟨bE.b, bE.o, none⟩))].toArray T0 fz0), (bE.b, Obj.cells bE.l.toArray TE fzE)])
      (fun v q => ∃ (g : Option Nat) (cap : Nat) (r row : List Value) (b2 cap2 : Nat) (r2 : List Value) (m c : Nat) (dv : Value) (RB : Heap), v = .tuple #[osl g 1 cap, .slice (some ⟨b2, 0, none⟩) (nmF4 four ns) cap2, .bool true] ∧ oOk g row r 1 cap 3 ∧ row = [dv, nv m, nv c] ∧ Sl RB dv (ns.getD kk default).nd.data ∧
        q = (b2, blk (bys (wrF4 four st ns) ++ r2) 5) :: (2, blk ps T) :: (5, Obj.cells lp.toArray Tp fp) :: (0, Obj.cells [Value.iface 181 (Value.pointer (some ⟨bE.b, bE.o, none⟩))].toArray T0 fz0) :: (bE.b, Obj.cells bE.l.toArray TE fzE) :: (gI, blk (bys (wrF4 four st ns)) 5) :: (bst, blk (stpR ((ns.getD kk default).nd.data.length + 1) ++ rst) 53) :: (oH g (row ++ r) 58 ++ RB)) := by
  have hnm : ∀ x ∈ ns.map Nm.nd, x.name.length ≤ 31 := nds_at ps h.xs (h.names hp)
  have hkl : kk < ns.length := by
    have hoi : o.getD i default ∈ o := by rw [List.getD_eq_getElem?_getD, List.getElem?_eq_getElem hi]; exact List.getElem_mem _
    rw [← hkk]; exact (hk _).1 (List.mem_map.2 ⟨_, hoi, rfl⟩)
  have hW : (wrF4 four st ns).length = nmF4 four ns := length_writeF h.xs hnm
  have h5 : 512 ≤ nmF4 four ns := Nat.le_trans (cut_at four ns 0 _ _ _ rfl rfl rfl).2.1 (cut_at four ns 0 _ _ _ rfl rfl rfl).2.2.1
  have hs := Steps_cut (T := T) (four := four) (st := st) hp h hb hN (nmF4 four ns) (Nat.le_refl _) h5 gI (nmF4 four ns) [] lp Tp fp hlp bE T0 TE fz0 fzE (whole_fit hp h) hk ho hol bst cst i kk rst hi hkk hkk0 hstr ((ns.getD kk default).nd.data.length + 1) om_ om_
  rw [List.take_of_length_le om_, List.append_nil] at hs
  refine hs.mono ?_
  rintro v q ⟨g, cap, r, row, b2, cap2, r2, m, c, dv, RB, rfl, h1, h2, -, h4, h6, rfl⟩
  have hm : m = (ns.getD kk default).nd.data.length := h6.elim id fun h7 => absurd h7.2 (CutBad.no h.xs hnm (by simpa using hkl) hkk0 (by rw [nd_at ns kk hkl]; exact hstr))
  rw [hm, List.take_length] at h4
  exact ⟨g, cap, r, row, b2, cap2, r2, m, c, dv, RB, rfl, h1, h2, h4, rfl⟩
end
theorem Nm.by_all {x : Nm} (h : x.ok) {H : Heap} (hm : ∀ e ∈ x.heap, e ∈ H) : By H x.slice x.nd.data := by
  by_cases h0 : x.nd.data.length = 0
  · exact ⟨_, _, _, rfl, rfl, .inl h0⟩
  obtain ⟨e1, e2⟩ := Nm.data_ok h om_
  unfold Nm.slice
  rw [e1]
  have hmm := hm _ (by rw [e2]; exact List.mem_cons_self ..)
  exact ⟨_, _, _, rfl, rfl, .inr ⟨_, 0, _, _, _, rfl, hmm, by rw [List.drop_zero, List.take_append_of_le_length (by simp), List.take_of_length_le (by simp)]⟩⟩
theorem Sl.sl {H : Heap} {v : Value} {d : List UInt8} {m : Nat} (h : Sl H v d) (hm : d.length = m) : ∃ p c, v = .slice p m c := by
  subst hm
  rcases h with ⟨rfl, rfl⟩ | ⟨b, cap, rx, rfl, -⟩
  · exact ⟨none, 0, rfl⟩
  exact ⟨_, _, rfl⟩

theorem by_blk {H : Heap} {b n cap : Nat} {d : List UInt8} {r : List Value} (hl : d.length = n) (hm : (b, blk (bys d ++ r) 5) ∈ H) : By H (.slice (some ⟨b, 0, none⟩) n cap) d := by
  refine ⟨_, _, _, rfl, hl, .inr ⟨b, 0, bys d ++ r, 5, _, rfl, hm, ?_⟩⟩
  rw [List.drop_zero, List.take_append_of_le_length (by simp [hl]), List.take_of_length_le (by simp [hl])]

theorem FnCut_ct (bE : EofB) (nN cN nD cD st tn : Nat) (pN pD : Option Addr) (four : Bool) (hst : st ≤ 255) (htn : tn ≤ 255) (x : Nat) (hx16 : x ≤ 65535) (ps : List Value) (T : TypeId) (hp : PsOk ps) (T0 : TypeId) (fz0 : Nat × Nat) (D : Heap) (hN : NumOk ((2, blk ps T) :: (0, Obj.cells [Value.iface 181 (Value.pointer (some ⟨bE.b, bE.o, none⟩))].toArray T0 fz0) :: D) pN nN) (hD : BytOk ((2, blk ps T) :: (0, Obj.cells [Value.iface 181 (Value.pointer (some ⟨bE.b, bE.o, none⟩))].toArray T0 fz0) :: D) pD nD) (hcN : nN ≤ cN) (lp : List Value) (Tp : TypeId) (fp : Nat × Nat) (hlp : ∀ i, i < 20 → ∃ z : Int, lp[i]? = some (.int .u64 z)) (TE : TypeId) (fzE : Nat × Nat) (D2 : Heap) (hDp : D.Perm ((5, Obj.cells lp.toArray Tp fp) :: (bE.b, Obj.cells bE.l.toArray TE fzE) :: D2)) :
  Ct Tryd.prog 11 [.slice pN nN cN, .slice pD nD cD, .bool four, .int .u8 (st : Int), .int .u8 (tn : Int), .int .u16 (x : Int)] ((2, blk ps T) :: (0, Obj.cells [Value.iface 181 (Value.pointer (some ⟨bE.b, bE.o, none⟩))].toArray T0 fz0) :: D) (fun v q => v = .bool true ∧ q = (2, blk ps T) :: (0, Obj.cells [Value.iface 181 (Value.pointer (some ⟨bE.b, bE.o, none⟩))].toArray T0 fz0) :: D) := by
 refine Ct_of Tryd.func11 rfl Tryd.ntmps11 rfl ?_
 intro E F
 simp only [numL, List.nil_append, List.cons_append]
 refine CW_sr ?_
 refine RW_a ?_
 refine RW_lv [0,1,2,3,4,5] ?_
 refine CW_seq ?_
 refine CW_sr ?_
 refine RW_m ?_
 refine RW_l (Yl_len rfl sl_22) ?_
 refine RW_l (Yl_gtr rfl rfl) ?_
 refine RW_m ?_
 refine RW_bool 32 rfl (fun hg1 => ?_) (fun hg1 => ?_)
 ·replace hg1 := of_decide_eq_true hg1
  refine RW_skip rfl rfl rfl ?_
  refine RW_skip rfl rfl rfl ?_
  refine RW_skip rfl rfl rfl ?_
  refine RW_l (Yl_pick_t rfl rfl) ?_
  refine RW_lv [0,1,2,3,4,5,36] ?_
  refine CW_true rfl ?_
  refine CW_sr ?_
  refine RW_a ?_
  refine RW_lv [12] ?_
  refine CW_ret ?_
  refine QW_ret_then ?_
  first
   | exact QW_ret1 rfl rfl ((2, blk ps T) :: (0, Obj.cells [Value.iface 181 (Value.pointer (some ⟨bE.b, bE.o, none⟩))].toArray T0 fz0) :: D) ⟨rfl, rfl⟩ (Prm.nil _)
   | (refine QW_sub (H' := (2, blk ps T) :: (0, Obj.cells [Value.iface 181 (Value.pointer (some ⟨bE.b, bE.o, none⟩))].toArray T0 fz0) :: (D ++ F)) (.cons _ (.cons_cons _ (.cons_cons _ (.cons _ (List.sublist_append_right _ _))))) ?_; exact QW_ret1 rfl rfl ((2, blk ps T) :: (0, Obj.cells [Value.iface 181 (Value.pointer (some ⟨bE.b, bE.o, none⟩))].toArray T0 fz0) :: D) ⟨rfl, rfl⟩ (Prm.nil _))
   | (refine QW_dropB (e := (gI, _)) (by repeat (first | exact Rem.here _ _ | apply Rem.there)) ?_; refine QW_dropB (e := (b121, _)) (by repeat (first | exact Rem.here _ _ | apply Rem.there)) ?_; refine QW_sub (H' := (2, blk ps T) :: (5, Obj.cells lp.toArray Tp fp) :: (0, Obj.cells [Value.iface 181 (Value.pointer (some ⟨bE.b, bE.o, none⟩))].toArray T0 fz0) :: (bE.b, Obj.cells bE.l.toArray TE fzE) :: (D2 ++ F)) (.cons_cons _ (.cons_cons _ (.cons_cons _ (.cons_cons _ (.cons _ (List.sublist_append_right _ _)))))) ?_; refine QW_heap (perm_c (B := ((2, blk ps T) :: (0, Obj.cells [Value.iface 181 (Value.pointer (some ⟨bE.b, bE.o, none⟩))].toArray T0 fz0) :: D) ++ F) fun w a => by have := @List.Perm.count_eq _ (@instBEqOfDecidableEq _ w) _ _ hDp a; simp only [List.count_append, List.count_cons, List.count_nil] at this ⊢; omega) ?_; exact QW_ret1 rfl rfl ((2, blk ps T) :: (0, Obj.cells [Value.iface 181 (Value.pointer (some ⟨bE.b, bE.o, none⟩))].toArray T0 fz0) :: D) ⟨rfl, rfl⟩ (Prm.nil _))
   | (refine QW_dropB (e := (b3, _)) (by repeat (first | exact Rem.here _ _ | apply Rem.there)) ?_; refine QW_dropB (e := (gI, _)) (by repeat (first | exact Rem.here _ _ | apply Rem.there)) ?_; refine QW_dropB (e := (b121, _)) (by repeat (first | exact Rem.here _ _ | apply Rem.there)) ?_; refine QW_dropB (e := (gB, _)) (by repeat (first | exact Rem.here _ _ | apply Rem.there)) ?_; refine QW_sub (H' := (2, blk ps T) :: (5, Obj.cells lp.toArray Tp fp) :: (0, Obj.cells [Value.iface 181 (Value.pointer (some ⟨bE.b, bE.o, none⟩))].toArray T0 fz0) :: (bE.b, Obj.cells bE.l.toArray TE fzE) :: (D2 ++ F)) (.cons_cons _ (.cons_cons _ (.cons_cons _ (.cons_cons _ (List.Sublist.trans (.cons _ (List.sublist_append_right _ _)) (List.sublist_append_right _ _)))))) ?_; refine QW_heap (perm_c (B := ((2, blk ps T) :: (0, Obj.cells [Value.iface 181 (Value.pointer (some ⟨bE.b, bE.o, none⟩))].toArray T0 fz0) :: D) ++ F) fun w a => by have := @List.Perm.count_eq _ (@instBEqOfDecidableEq _ w) _ _ hDp a; simp only [List.count_append, List.count_cons, List.count_nil] at this ⊢; omega) ?_; exact QW_ret1 rfl rfl ((2, blk ps T) :: (0, Obj.cells [Value.iface 181 (Value.pointer (some ⟨bE.b, bE.o, none⟩))].toArray T0 fz0) :: D) ⟨rfl, rfl⟩ (Prm.nil _))
 replace hg1 := of_decide_eq_false hg1
 refine RW_gy rfl rfl rfl (Yl.h (Yl_move rfl)) ?_
 refine RW_gy rfl rfl rfl (Yl.h (Yl_len rfl sl_23)) ?_
 refine RW_gy rfl rfl rfl (Yl.h (Yl_gtr rfl rfl)) ?_
 refine RW_l (Yl_pick_f rfl rfl) ?_
 refine RW_lv [0,1,2,3,4,5,36] ?_
 refine CW_cd rfl (fun hc2 => ?_) (fun hc2 => ?_)
 ·refine CW_sr ?_
  refine RW_a ?_
  refine RW_lv [12] ?_
  refine CW_ret ?_
  refine QW_ret_then ?_
  first
   | exact QW_ret1 rfl rfl ((2, blk ps T) :: (0, Obj.cells [Value.iface 181 (Value.pointer (some ⟨bE.b, bE.o, none⟩))].toArray T0 fz0) :: D) ⟨rfl, rfl⟩ (Prm.nil _)
   | (refine QW_sub (H' := (2, blk ps T) :: (0, Obj.cells [Value.iface 181 (Value.pointer (some ⟨bE.b, bE.o, none⟩))].toArray T0 fz0) :: (D ++ F)) (.cons _ (.cons_cons _ (.cons_cons _ (.cons _ (List.sublist_append_right _ _))))) ?_; exact QW_ret1 rfl rfl ((2, blk ps T) :: (0, Obj.cells [Value.iface 181 (Value.pointer (some ⟨bE.b, bE.o, none⟩))].toArray T0 fz0) :: D) ⟨rfl, rfl⟩ (Prm.nil _))
   | (refine QW_dropB (e := (gI, _)) (by repeat (first | exact Rem.here _ _ | apply Rem.there)) ?_; refine QW_dropB (e := (b121, _)) (by repeat (first | exact Rem.here _ _ | apply Rem.there)) ?_; refine QW_sub (H' := (2, blk ps T) :: (5, Obj.cells lp.toArray Tp fp) :: (0, Obj.cells [Value.iface 181 (Value.pointer (some ⟨bE.b, bE.o, none⟩))].toArray T0 fz0) :: (bE.b, Obj.cells bE.l.toArray TE fzE) :: (D2 ++ F)) (.cons_cons _ (.cons_cons _ (.cons_cons _ (.cons_cons _ (.cons _ (List.sublist_append_right _ _)))))) ?_; refine QW_heap (perm_c (B := ((2, blk ps T) :: (0, Obj.cells [Value.iface 181 (Value.pointer (some ⟨bE.b, bE.o, none⟩))].toArray T0 fz0) :: D) ++ F) fun w a => by have := @List.Perm.count_eq _ (@instBEqOfDecidableEq _ w) _ _ hDp a; simp only [List.count_append, List.count_cons, List.count_nil] at this ⊢; omega) ?_; exact QW_ret1 rfl rfl ((2, blk ps T) :: (0, Obj.cells [Value.iface 181 (Value.pointer (some ⟨bE.b, bE.o, none⟩))].toArray T0 fz0) :: D) ⟨rfl, rfl⟩ (Prm.nil _))
   | (refine QW_dropB (e := (b3, _)) (by repeat (first | exact Rem.here _ _ | apply Rem.there)) ?_; refine QW_dropB (e := (gI, _)) (by repeat (first | exact Rem.here _ _ | apply Rem.there)) ?_; refine QW_dropB (e := (b121, _)) (by repeat (first | exact Rem.here _ _ | apply Rem.there)) ?_; refine QW_dropB (e := (gB, _)) (by repeat (first | exact Rem.here _ _ | apply Rem.there)) ?_; refine QW_sub (H' := (2, blk ps T) :: (5, Obj.cells lp.toArray Tp fp) :: (0, Obj.cells [Value.iface 181 (Value.pointer (some ⟨bE.b, bE.o, none⟩))].toArray T0 fz0) :: (bE.b, Obj.cells bE.l.toArray TE fzE) :: (D2 ++ F)) (.cons_cons _ (.cons_cons _ (.cons_cons _ (.cons_cons _ (List.Sublist.trans (.cons _ (List.sublist_append_right _ _)) (List.sublist_append_right _ _)))))) ?_; refine QW_heap (perm_c (B := ((2, blk ps T) :: (0, Obj.cells [Value.iface 181 (Value.pointer (some ⟨bE.b, bE.o, none⟩))].toArray T0 fz0) :: D) ++ F) fun w a => by have := @List.Perm.count_eq _ (@instBEqOfDecidableEq _ w) _ _ hDp a; simp only [List.count_append, List.count_cons, List.count_nil] at this ⊢; omega) ?_; exact QW_ret1 rfl rfl ((2, blk ps T) :: (0, Obj.cells [Value.iface 181 (Value.pointer (some ⟨bE.b, bE.o, none⟩))].toArray T0 fz0) :: D) ⟨rfl, rfl⟩ (Prm.nil _))
 refine (CW_skip (QW_lv [0,1,2,3,4,5] ?_))
 refine CW_seq ?_
 refine CW_sr ?_
 refine RW_m ?_
 refine RW_m ?_
 refine RW_fx rfl rfl rfl (Fx_callQ ok_13 (vs := [.slice pN nN cN, .slice pD nD cD]) (R := fun v => v = .bool (decide (nN ≤ 100 ∧ nD ≤ 1000))) rfl (Pick.nil _) (few_ct pN pD nN cN nD cD)) ?_
 rintro _ _ ⟨rfl, rfl⟩
 refine RW_l (Yl_not rfl) ?_
 refine RW_lv [0,1,2,3,4,5,40] ?_
 refine CW_cond rfl (fun hc3 => ?_) (fun hc3 => ?_)
 ·skip
  refine CW_sr ?_
  refine RW_a ?_
  refine RW_lv [12] ?_
  refine CW_ret ?_
  refine QW_ret_then ?_
  first
   | exact QW_ret1 rfl rfl ((2, blk ps T) :: (0, Obj.cells [Value.iface 181 (Value.pointer (some ⟨bE.b, bE.o, none⟩))].toArray T0 fz0) :: D) ⟨rfl, rfl⟩ (Prm.nil _)
   | (refine QW_sub (H' := (2, blk ps T) :: (0, Obj.cells [Value.iface 181 (Value.pointer (some ⟨bE.b, bE.o, none⟩))].toArray T0 fz0) :: (D ++ F)) (.cons _ (.cons_cons _ (.cons_cons _ (.cons _ (List.sublist_append_right _ _))))) ?_; exact QW_ret1 rfl rfl ((2, blk ps T) :: (0, Obj.cells [Value.iface 181 (Value.pointer (some ⟨bE.b, bE.o, none⟩))].toArray T0 fz0) :: D) ⟨rfl, rfl⟩ (Prm.nil _))
   | (refine QW_dropB (e := (gI, _)) (by repeat (first | exact Rem.here _ _ | apply Rem.there)) ?_; refine QW_dropB (e := (b121, _)) (by repeat (first | exact Rem.here _ _ | apply Rem.there)) ?_; refine QW_sub (H' := (2, blk ps T) :: (5, Obj.cells lp.toArray Tp fp) :: (0, Obj.cells [Value.iface 181 (Value.pointer (some ⟨bE.b, bE.o, none⟩))].toArray T0 fz0) :: (bE.b, Obj.cells bE.l.toArray TE fzE) :: (D2 ++ F)) (.cons_cons _ (.cons_cons _ (.cons_cons _ (.cons_cons _ (.cons _ (List.sublist_append_right _ _)))))) ?_; refine QW_heap (perm_c (B := ((2, blk ps T) :: (0, Obj.cells [Value.iface 181 (Value.pointer (some ⟨bE.b, bE.o, none⟩))].toArray T0 fz0) :: D) ++ F) fun w a => by have := @List.Perm.count_eq _ (@instBEqOfDecidableEq _ w) _ _ hDp a; simp only [List.count_append, List.count_cons, List.count_nil] at this ⊢; omega) ?_; exact QW_ret1 rfl rfl ((2, blk ps T) :: (0, Obj.cells [Value.iface 181 (Value.pointer (some ⟨bE.b, bE.o, none⟩))].toArray T0 fz0) :: D) ⟨rfl, rfl⟩ (Prm.nil _))
   | (refine QW_dropB (e := (b3, _)) (by repeat (first | exact Rem.here _ _ | apply Rem.there)) ?_; refine QW_dropB (e := (gI, _)) (by repeat (first | exact Rem.here _ _ | apply Rem.there)) ?_; refine QW_dropB (e := (b121, _)) (by repeat (first | exact Rem.here _ _ | apply Rem.there)) ?_; refine QW_dropB (e := (gB, _)) (by repeat (first | exact Rem.here _ _ | apply Rem.there)) ?_; refine QW_sub (H' := (2, blk ps T) :: (5, Obj.cells lp.toArray Tp fp) :: (0, Obj.cells [Value.iface 181 (Value.pointer (some ⟨bE.b, bE.o, none⟩))].toArray T0 fz0) :: (bE.b, Obj.cells bE.l.toArray TE fzE) :: (D2 ++ F)) (.cons_cons _ (.cons_cons _ (.cons_cons _ (.cons_cons _ (List.Sublist.trans (.cons _ (List.sublist_append_right _ _)) (List.sublist_append_right _ _)))))) ?_; refine QW_heap (perm_c (B := ((2, blk ps T) :: (0, Obj.cells [Value.iface 181 (Value.pointer (some ⟨bE.b, bE.o, none⟩))].toArray T0 fz0) :: D) ++ F) fun w a => by have := @List.Perm.count_eq _ (@instBEqOfDecidableEq _ w) _ _ hDp a; simp only [List.count_append, List.count_cons, List.count_nil] at this ⊢; omega) ?_; exact QW_ret1 rfl rfl ((2, blk ps T) :: (0, Obj.cells [Value.iface 181 (Value.pointer (some ⟨bE.b, bE.o, none⟩))].toArray T0 fz0) :: D) ⟨rfl, rfl⟩ (Prm.nil _))
 skip
 have hfew : nN ≤ 100 ∧ nD ≤ 1000 := by simpa using hc3
 refine (CW_skip (QW_lv [0,1,2,3,4,5] ?_))
 refine CW_seq ?_
 have hnodes := nodesOf_ct nN cN nD cD pN pD ((2, blk ps T) :: (0, Obj.cells [Value.iface 181 (Value.pointer (some ⟨bE.b, bE.o, none⟩))].toArray T0 fz0) :: D) hN hD om_ hcN om_
 refine CW_region ?_
 refine RW_m ?_
 refine RW_m ?_
 refine RW_fx rfl rfl rfl (Fx_call ok_14 (vs := [.slice pN nN cN, .slice pD nD cD]) rfl (Pick.cons rem_ (Pick.cons rem_ (pick_app D F))) hnodes) ?_
 rintro _ _ ⟨_, ⟨ns, g, cap, rn, rfl, hno, hfit, rfl⟩, rfl⟩
 simp only [List.cons_append, List.append_assoc]
 refine RW_a ?_
 refine RW_lv [2,3,4,5,13] ?_
 refine CW_seq ?_
 have hxs := hno.xs
 have hw := write_ct g cap (verF four) st ns rn _ rfl hxs hno.ok (by rcases verF_or four with e | e <;> omega) om_
 refine CW_region ?_
 refine RW_m ?_
 refine RW_m ?_
 refine RW_fx rfl rfl rfl (Fx_callQ ok_16 (vs := [.bool four]) (R := fun v => v = nv (verF four)) rfl (Pick.nil _) (versionOf_ct four)) ?_
 rintro _ _ ⟨rfl, rfl⟩
 refine RW_m ?_
 refine RW_l (Yl_conv (c := (st : Int)) rfl in_5 in_3 (wi64 om_ om_)) ?_
 refine RW_fx rfl rfl rfl (Fx_call ok_15 (vs := [.slice (some ⟨g, 0, none⟩) ns.length cap, nv (verF four), nv st]) rfl (Pick.cons rem_ (pick_app (nmsH ns) _)) hw) ?_
 rintro _ _ ⟨_, ⟨gI, rfl, rfl⟩, rfl⟩
 simp only [List.cons_append]
 refine RW_a ?_
 refine RW_lv [2,4,5,13,14] ?_
 refine CW_seq ?_
 refine CW_heap (perm_front ((gI, blk (bys (writeF (verF four) st (ns.map Nm.nd))) 5) :: (g, blk (nms ns ++ rn) 43) :: nmsH ns) [(2, blk ps T), (0, Obj.cells [Value.iface 181 (Value.pointer (some ⟨bE.b, bE.o, none⟩))].toArray T0 fz0)] (D ++ F)) ?_
 simp only [List.cons_append, List.nil_append]
 obtain ⟨o, ho, hok, hond, hol, hbad, hout, hpth⟩ := hno.travs (verF four)
 have hnl := hno.len
 have hsto := streamOf_ct ns g cap tn rn o htn om_ om_ ho (fun k hk => (hok k).1 hk)
 refine CW_region ?_
 refine RW_m ?_
 refine RW_m ?_
 refine RW_fx rfl rfl rfl (Fx_call ok_19 (vs := [.slice (some ⟨g, 0, none⟩) ns.length cap, .int .u8 (tn : Int)]) rfl (Pick.cons rem_ (Pick.nil _)) hsto) ?_
 rintro _ _ ⟨_, ⟨en, kk, bs, rfl, hfound, rfl⟩, rfl⟩
 simp only [List.cons_append, List.nil_append]
 refine RW_m ?_
 refine RW_l (Yl_extract (v := nv en) rfl rfl) ?_
 refine RW_l (Yl_extract (v := nv kk) rfl rfl) ?_
 refine RW_l (Yl_extract (v := .bool bs) rfl rfl) ?_
 refine RW_a ?_
 refine RW_a ?_
 refine RW_a ?_
 refine RW_lv [2,5,13,14,15,16,17] ?_
 refine CW_seq ?_
 refine CW_sr ?_
 refine RW_m ?_
 refine RW_l (Yl_not rfl) ?_
 refine RW_m ?_
 refine RW_bool 59 rfl (fun hg4 => ?_) (fun hg4 => ?_)
 ·skip
  refine RW_skip rfl rfl rfl ?_
  refine RW_skip rfl rfl rfl ?_
  refine RW_skip rfl rfl rfl ?_
  refine RW_l (Yl_pick_t rfl rfl) ?_
  refine RW_lv [2,5,13,14,15,16,63] ?_
  refine CW_true rfl ?_
  refine CW_sr ?_
  refine RW_a ?_
  refine RW_lv [12] ?_
  refine CW_ret ?_
  refine QW_ret_then ?_
  first
   | exact QW_ret1 rfl rfl ((2, blk ps T) :: (0, Obj.cells [Value.iface 181 (Value.pointer (some ⟨bE.b, bE.o, none⟩))].toArray T0 fz0) :: D) ⟨rfl, rfl⟩ (Prm.nil _)
   | (refine QW_sub (H' := (2, blk ps T) :: (0, Obj.cells [Value.iface 181 (Value.pointer (some ⟨bE.b, bE.o, none⟩))].toArray T0 fz0) :: (D ++ F)) (.cons _ (.cons_cons _ (.cons_cons _ (.cons _ (List.sublist_append_right _ _))))) ?_; exact QW_ret1 rfl rfl ((2, blk ps T) :: (0, Obj.cells [Value.iface 181 (Value.pointer (some ⟨bE.b, bE.o, none⟩))].toArray T0 fz0) :: D) ⟨rfl, rfl⟩ (Prm.nil _))
   | (refine QW_dropB (e := (gI, _)) (by repeat (first | exact Rem.here _ _ | apply Rem.there)) ?_; refine QW_dropB (e := (b121, _)) (by repeat (first | exact Rem.here _ _ | apply Rem.there)) ?_; refine QW_sub (H' := (2, blk ps T) :: (5, Obj.cells lp.toArray Tp fp) :: (0, Obj.cells [Value.iface 181 (Value.pointer (some ⟨bE.b, bE.o, none⟩))].toArray T0 fz0) :: (bE.b, Obj.cells bE.l.toArray TE fzE) :: (D2 ++ F)) (.cons_cons _ (.cons_cons _ (.cons_cons _ (.cons_cons _ (.cons _ (List.sublist_append_right _ _)))))) ?_; refine QW_heap (perm_c (B := ((2, blk ps T) :: (0, Obj.cells [Value.iface 181 (Value.pointer (some ⟨bE.b, bE.o, none⟩))].toArray T0 fz0) :: D) ++ F) fun w a => by have := @List.Perm.count_eq _ (@instBEqOfDecidableEq _ w) _ _ hDp a; simp only [List.count_append, List.count_cons, List.count_nil] at this ⊢; omega) ?_; exact QW_ret1 rfl rfl ((2, blk ps T) :: (0, Obj.cells [Value.iface 181 (Value.pointer (some ⟨bE.b, bE.o, none⟩))].toArray T0 fz0) :: D) ⟨rfl, rfl⟩ (Prm.nil _))
   | (refine QW_dropB (e := (b3, _)) (by repeat (first | exact Rem.here _ _ | apply Rem.there)) ?_; refine QW_dropB (e := (gI, _)) (by repeat (first | exact Rem.here _ _ | apply Rem.there)) ?_; refine QW_dropB (e := (b121, _)) (by repeat (first | exact Rem.here _ _ | apply Rem.there)) ?_; refine QW_dropB (e := (gB, _)) (by repeat (first | exact Rem.here _ _ | apply Rem.there)) ?_; refine QW_sub (H' := (2, blk ps T) :: (5, Obj.cells lp.toArray Tp fp) :: (0, Obj.cells [Value.iface 181 (Value.pointer (some ⟨bE.b, bE.o, none⟩))].toArray T0 fz0) :: (bE.b, Obj.cells bE.l.toArray TE fzE) :: (D2 ++ F)) (.cons_cons _ (.cons_cons _ (.cons_cons _ (.cons_cons _ (List.Sublist.trans (.cons _ (List.sublist_append_right _ _)) (List.sublist_append_right _ _)))))) ?_; refine QW_heap (perm_c (B := ((2, blk ps T) :: (0, Obj.cells [Value.iface 181 (Value.pointer (some ⟨bE.b, bE.o, none⟩))].toArray T0 fz0) :: D) ++ F) fun w a => by have := @List.Perm.count_eq _ (@instBEqOfDecidableEq _ w) _ _ hDp a; simp only [List.count_append, List.count_cons, List.count_nil] at this ⊢; omega) ?_; exact QW_ret1 rfl rfl ((2, blk ps T) :: (0, Obj.cells [Value.iface 181 (Value.pointer (some ⟨bE.b, bE.o, none⟩))].toArray T0 fz0) :: D) ⟨rfl, rfl⟩ (Prm.nil _))
 skip
 have hb1 : bs = true := by simpa using hg4
 refine RW_gy rfl rfl rfl (Yl.h (Yl_move rfl)) ?_
 refine RW_gy rfl rfl rfl (Yl.h (Yl_len rfl sl_23)) ?_
 refine RW_gy rfl rfl rfl (Yl.h (Yl_gtr rfl rfl)) ?_
 refine RW_l (Yl_pick_f rfl rfl) ?_
 refine RW_lv [2,5,13,14,15,16,63] ?_
 refine CW_cd rfl (fun hc5 => ?_) (fun hc5 => ?_)
 ·refine CW_sr ?_
  refine RW_a ?_
  refine RW_lv [12] ?_
  refine CW_ret ?_
  refine QW_ret_then ?_
  first
   | exact QW_ret1 rfl rfl ((2, blk ps T) :: (0, Obj.cells [Value.iface 181 (Value.pointer (some ⟨bE.b, bE.o, none⟩))].toArray T0 fz0) :: D) ⟨rfl, rfl⟩ (Prm.nil _)
   | (refine QW_sub (H' := (2, blk ps T) :: (0, Obj.cells [Value.iface 181 (Value.pointer (some ⟨bE.b, bE.o, none⟩))].toArray T0 fz0) :: (D ++ F)) (.cons _ (.cons_cons _ (.cons_cons _ (.cons _ (List.sublist_append_right _ _))))) ?_; exact QW_ret1 rfl rfl ((2, blk ps T) :: (0, Obj.cells [Value.iface 181 (Value.pointer (some ⟨bE.b, bE.o, none⟩))].toArray T0 fz0) :: D) ⟨rfl, rfl⟩ (Prm.nil _))
   | (refine QW_dropB (e := (gI, _)) (by repeat (first | exact Rem.here _ _ | apply Rem.there)) ?_; refine QW_dropB (e := (b121, _)) (by repeat (first | exact Rem.here _ _ | apply Rem.there)) ?_; refine QW_sub (H' := (2, blk ps T) :: (5, Obj.cells lp.toArray Tp fp) :: (0, Obj.cells [Value.iface 181 (Value.pointer (some ⟨bE.b, bE.o, none⟩))].toArray T0 fz0) :: (bE.b, Obj.cells bE.l.toArray TE fzE) :: (D2 ++ F)) (.cons_cons _ (.cons_cons _ (.cons_cons _ (.cons_cons _ (.cons _ (List.sublist_append_right _ _)))))) ?_; refine QW_heap (perm_c (B := ((2, blk ps T) :: (0, Obj.cells [Value.iface 181 (Value.pointer (some ⟨bE.b, bE.o, none⟩))].toArray T0 fz0) :: D) ++ F) fun w a => by have := @List.Perm.count_eq _ (@instBEqOfDecidableEq _ w) _ _ hDp a; simp only [List.count_append, List.count_cons, List.count_nil] at this ⊢; omega) ?_; exact QW_ret1 rfl rfl ((2, blk ps T) :: (0, Obj.cells [Value.iface 181 (Value.pointer (some ⟨bE.b, bE.o, none⟩))].toArray T0 fz0) :: D) ⟨rfl, rfl⟩ (Prm.nil _))
   | (refine QW_dropB (e := (b3, _)) (by repeat (first | exact Rem.here _ _ | apply Rem.there)) ?_; refine QW_dropB (e := (gI, _)) (by repeat (first | exact Rem.here _ _ | apply Rem.there)) ?_; refine QW_dropB (e := (b121, _)) (by repeat (first | exact Rem.here _ _ | apply Rem.there)) ?_; refine QW_dropB (e := (gB, _)) (by repeat (first | exact Rem.here _ _ | apply Rem.there)) ?_; refine QW_sub (H' := (2, blk ps T) :: (5, Obj.cells lp.toArray Tp fp) :: (0, Obj.cells [Value.iface 181 (Value.pointer (some ⟨bE.b, bE.o, none⟩))].toArray T0 fz0) :: (bE.b, Obj.cells bE.l.toArray TE fzE) :: (D2 ++ F)) (.cons_cons _ (.cons_cons _ (.cons_cons _ (.cons_cons _ (List.Sublist.trans (.cons _ (List.sublist_append_right _ _)) (List.sublist_append_right _ _)))))) ?_; refine QW_heap (perm_c (B := ((2, blk ps T) :: (0, Obj.cells [Value.iface 181 (Value.pointer (some ⟨bE.b, bE.o, none⟩))].toArray T0 fz0) :: D) ++ F) fun w a => by have := @List.Perm.count_eq _ (@instBEqOfDecidableEq _ w) _ _ hDp a; simp only [List.count_append, List.count_cons, List.count_nil] at this ⊢; omega) ?_; exact QW_ret1 rfl rfl ((2, blk ps T) :: (0, Obj.cells [Value.iface 181 (Value.pointer (some ⟨bE.b, bE.o, none⟩))].toArray T0 fz0) :: D) ⟨rfl, rfl⟩ (Prm.nil _))
 obtain ⟨he1, he2, he3⟩ := hfound hb1
 have hkk0 := hno.notroot he3
 have hkn : kk < ns.length := by
  have hoi : o.getD en default ∈ o := by rw [List.getD_eq_getElem?_getD, List.getElem?_eq_getElem he1]; exact List.getElem_mem _
  rw [← he2]; exact (hok _).1 (List.mem_map.2 ⟨_, hoi, rfl⟩)
 obtain ⟨x1, hx⟩ : ∃ x, ns.getD kk default = x := ⟨_, rfl⟩
 have hx1 : x1.ok := by rw [← hx]; exact hno.ok_at hkn
 have hxm := nmsH_mem hkn
 rw [hx] at hxm
 have hx9 := hx1.small
 have hxf := hx1.fit
 have hN1 : (nmF4 four ns) ≤ 131072 := by show NF (verF four) (ns.map Nm.nd) ≤ 131072; omega
 refine (CW_skip (QW_lv [2,5,13,14,15,16] ?_))
 refine CW_sr ?_
 refine RW_a ?_
 refine RW_lv [2,5,13,14,15,16,18] ?_
 refine CW_cut (σ := Unit) (fun _ => [(5, .int .u16 (x : Int)), (13, .slice (some ⟨g, 0, none⟩) ns.length cap), (14, .slice (some ⟨gI, 0, none⟩) (nmF4 four ns) (nmF4 four ns)), (15, nv en), (16, nv kk), (18, nv (sizeF (verF four)))]) (fun _ => (g, blk (nms ns ++ rn) 43) :: (2, blk ps T) :: (0, Obj.cells [Value.iface 181 (Value.pointer (some ⟨bE.b, bE.o, none⟩))].toArray T0 fz0) :: (gI, blk (bys (wrF4 four st ns)) 5) :: (nmsH ns ++ (D ++ F))) (fun _ => True) ?_ ?_
 ·skip
  refine CW_sr ?_
  refine RW_m ?_
  refine RW_lv [5,13,14,15,16,18,64] ?_
  refine CW_cond rfl (fun hc6 => ?_) (fun hc6 => ?_)
  ·skip
   obtain rfl : four = true := hc6
   refine CW_region ?_
   refine RW_a ?_
   refine RW_nil ?_
   exact QW_cu () trivial
  skip
  obtain rfl : four = false := hc6
  refine CW_skip ?_
  exact QW_cu () trivial
 rintro ⟨⟩ -
 refine CW_seq ?_
 have hz := size_ge (verF four)
 have hzo := sizeF_or (verF four)
 refine CW_heap (perm_c (A := (g, blk (nms ns ++ rn) 43) :: (2, blk ps T) :: (0, Obj.cells [Value.iface 181 (Value.pointer (some ⟨bE.b, bE.o, none⟩))].toArray T0 fz0) :: (gI, blk (bys (wrF4 four st ns)) 5) :: (nmsH ns ++ (D ++ F))) (B := (g, blk (nms ns ++ rn) 43) :: (2, blk ps T) :: (0, Obj.cells [Value.iface 181 (Value.pointer (some ⟨bE.b, bE.o, none⟩))].toArray T0 fz0) :: (gI, blk (bys (wrF4 four st ns)) 5) :: (5, Obj.cells lp.toArray Tp fp) :: (bE.b, Obj.cells bE.l.toArray TE fzE) :: (nmsH ns ++ (D2 ++ F))) fun w a => by have := @List.Perm.count_eq _ (@instBEqOfDecidableEq _ w) _ _ hDp a; simp only [List.count_append, List.count_cons, List.count_nil] at this ⊢; omega) ?_
 obtain ⟨ss, hss⟩ : ∃ s, s = sizeF (verF four) := ⟨_, rfl⟩
 rw [← hss] at hz hzo ⊢
 obtain ⟨tq, htq⟩ : ∃ t, t = (nmF4 four ns) / ss := ⟨_, rfl⟩
 obtain ⟨n, hn⟩ : ∃ n, n = ss * (1 + x % tq) := ⟨_, rfl⟩
 have hcutn := cut_at four ns x ss tq n hss htq hn
 refine CW_region ?_
 refine RW_m ?_
 refine RW_m ?_
 refine RW_m ?_
 refine RW_l (Yl_conv (c := (x : Int)) rfl in_47 in_3 (wi64 om_ om_)) ?_
 refine RW_m ?_
 refine RW_l (Yl_len rfl sl_23) ?_
 refine RW_m ?_
 refine RW_l (Yl_quo (c := (tq : Int)) rfl rfl om_ (by rw [htq]; exact quoN (b := ss) om_)) ?_
 refine RW_l (Yl_rem (c := ((x % tq : Nat) : Int)) rfl rfl om_ (remN x tq)) ?_
 refine RW_l (Yl_add (c := ((1 + x % tq : Nat) : Int)) rfl rfl (wi64 om_ om_)) ?_
 refine RW_l (Yl_mul (c := (n : Int)) rfl rfl (by rw [hn]; exact mulN (a := ss) (b := 1 + x % tq) om_)) ?_
 refine RW_l (Yl_cutHN (h := n) rfl rfl sl_23 om_) ?_
 refine RW_a ?_
 refine RW_lv [13,14,15,16,19] ?_
 refine CW_sr ?_
 refine RW_m ?_
 refine RW_m ?_
 refine RW_l (Yl_indexN (b := g) (off := 0) (i := kk) (o' := kk * 28) rfl rfl sl_25 om_ om_) ?_
 refine RW_f fo_43_2 ?_
 refine RW_h (Yh_load (v := x1.slice) rfl sc_23 mem_ (by rw [nms_cell _ _ _ 2 hkn om_, hx]; rfl)) ?_
 refine RW_a ?_
 refine RW_lv [13,14,15,19,20] ?_
 refine CW_seq ?_
 have hst1 := fun b => Steps_whole (T := T) (four := four) (st := st) hp hno hbad hN1 gI lp Tp fp hlp bE T0 TE fz0 fzE hok hout om_ b 1 en kk [] he1 he2 hkk0 he3 (by rw [hx]; exact hx9)
 refine CW_region ?_
 refine RW_m ?_
 refine RW_m ?_
 refine RW_m ?_
 refine RW_l (Yl_len rfl sl_23) ?_
 refine RW_l (Yl_add (c := ((x1.nd.data.length + 1 : Nat) : Int)) rfl rfl (wi64 om_ om_)) ?_
 refine RW_l (Yl_build (cs := stpR (x1.nd.data.length + 1)) pl_53 ze_53 rfl rfl) ?_
 refine RW_fx rfl rfl rfl (Fx_lit (vs := [.agg (stpR (x1.nd.data.length + 1)).toArray]) (css := [stpR (x1.nd.data.length + 1)]) (cs := stpR (x1.nd.data.length + 1)) sl_51 ze_53 rfl rfl rfl rfl rfl (by intro c hc; rw [List.mem_singleton.1 hc]; rfl) (by simp)) ?_
 rintro _ _ ⟨b89, rfl, rfl⟩
 have hst89 := hst1 b89
 rw [hx] at hst89
 rw [← List.append_nil (stpR (x1.nd.data.length + 1))]
 refine RW_fx rfl rfl rfl (Fx_call ok_20 (vs := [.slice (some ⟨gI, 0, none⟩) (nmF4 four ns) (nmF4 four ns), nv en, .slice (some ⟨b89, 0, none⟩) 1 1]) rfl (Pick.cons rem_ (Pick.cons rem_ (Pick.cons rem_ (Pick.cons rem_ (Pick.cons rem_ (Pick.cons rem_ (Pick.nil _))))))) hst89) ?_
 rintro _ _ ⟨_, ⟨gA, cA, rA, rowA, b2, cap2, r2, mA, cdA, dvA, RA, rfl, hoA, rfl, hslA, rfl⟩, rfl⟩
 rcases gA with _ | gA
 ·exact absurd hoA.1 om_
 simp only [List.cons_append, List.append_assoc, List.nil_append]
 refine RW_m ?_
 refine RW_l (Yl_extract (v := .slice (some ⟨gA, 0, none⟩) 1 cA) rfl rfl) ?_
 refine RW_l (Yl_extract (v := .slice (some ⟨b2, 0, none⟩) (nmF4 four ns) cap2) rfl rfl) ?_
 refine RW_l (Yl_extract (v := .bool true) rfl rfl) ?_
 refine RW_a ?_
 refine RW_a ?_
 refine RW_a ?_
 refine RW_lv [13,15,19,20,21,23] ?_
 refine CW_seq ?_
 refine CW_sr ?_
 refine RW_m ?_
 refine RW_l (Yl_not rfl) ?_
 refine RW_m ?_
 refine RW_gy rfl rfl rfl (Yl.h (Yl_move rfl)) ?_
 refine RW_gy rfl rfl rfl (Yl.h (Yl_len rfl sl_54)) ?_
 refine RW_gy rfl rfl rfl (Yl.h (Yl_neqB false rfl rfl (decide_eq_false (fun h => h rfl)))) ?_
 refine RW_l (Yl_pick_f rfl rfl) ?_
 refine RW_m ?_
 refine RW_gy rfl rfl rfl (Yl.h (Yl_move rfl)) ?_
 refine RW_gy rfl rfl rfl (Yl.h (Yl_indexN (b := gA) (off := 0) (i := 0) (o' := 0) rfl rfl sl_54 om_ om_)) ?_
 refine RW_gy rfl rfl rfl (Yl.h (Yl_field rfl fo_58_0)) ?_
 refine RW_gy rfl rfl rfl (Yh_ld (v := dvA) sc_23) ?_
 refine RW_gy rfl rfl rfl (Yl.h (Yl_move rfl)) ?_
 refine RW_gfx rfl rfl rfl (Fx_callQ ok_21 (vs := [dvA, x1.slice]) (R := fun v => v = .bool true) rfl (pick_all _) (same_by _ dvA x1.slice x1.nd.data (hslA.by.more fun e he => (by repeat (first | exact List.mem_append_left _ he | apply List.mem_cons_of_mem))) (Nm.by_all hx1 (fun e he => (by have := hxm e he; repeat (first | exact List.mem_append_right _ (List.mem_append_left _ this) | exact List.mem_append_left _ this | apply List.mem_cons_of_mem | apply List.mem_append_right)))))) ?_
 rintro _ _ ⟨rfl, rfl⟩
 refine RW_gy rfl rfl rfl (Yl.h (Yl_not rfl)) ?_
 refine RW_l (Yl_pick_f rfl rfl) ?_
 refine RW_lv [13,15,19,20,109] ?_
 refine CW_false rfl ?_
 refine (CW_skip (QW_lv [13,15,19,20] ?_))
 refine CW_seq ?_
 refine CW_heap (perm_c (B := ((gI, blk (bys (wrF4 four st ns)) 5) :: (2, blk ps T) :: (5, Obj.cells lp.toArray Tp fp) :: (0, Obj.cells [Value.iface 181 (Value.pointer (some ⟨bE.b, bE.o, none⟩))].toArray T0 fz0) :: (bE.b, Obj.cells bE.l.toArray TE fzE) :: (g, blk (nms ns ++ rn) 43) :: (nmsH ns ++ (D2 ++ F))) ++ ((b2, blk (bys (wrF4 four st ns) ++ r2) 5) :: (b89, blk (stpR (x1.nd.data.length + 1) ++ []) 53) :: (gA, blk (dvA :: nv mA :: nv cdA :: rA) 58) :: RA)) fun w a => by simp only [List.count_append, List.count_cons, List.count_nil]; omega) ?_
 refine CW_drop (List.sublist_append_left _ _) ?_
 obtain ⟨rI, hrI⟩ : ∃ r, r = bys ((wrF4 four st ns).drop n) := ⟨_, rfl⟩
 have hwr : bys (wrF4 four st ns) = bys ((wrF4 four st ns).take n) ++ rI := by rw [hrI]; simp only [bys, ← List.map_append, List.take_append_drop]
 rw [hwr]
 by_cases hof : OpenFit n (sizeF (verF four)) (snF (verF four) st (ns.map Nm.nd) 0) (miniF (verF four) st (ns.map Nm.nd)) (wordAt (hcF (((wrF4 four st ns).drop 0).take 512) 109) (sizeF (verF four)) (snF (verF four) st (ns.map Nm.nd) 0)) (wordAt (hcF (((wrF4 four st ns).drop 0).take 512) 109) (sizeF (verF four)) (((miniF (verF four) st (ns.map Nm.nd)).getD ([], [])).1)) (wordAt (hcF (((wrF4 four st ns).drop 0).take 512) 109) (sizeF (verF four)) (((miniF (verF four) st (ns.map Nm.nd)).getD ([], [])).2))
 ·skip
  refine CW_region ?_
  refine RW_m ?_
  refine RW_fx rfl rfl rfl (Fx_call ok_18 (vs := [.slice (some ⟨gI, 0, none⟩) n (nmF4 four ns)]) rfl pk_ (Entries_cut (T := T) (st := st) hp hno hbad hN1 n hcutn.2.2.1 hcutn.2.1 gI (nmF4 four ns) rI lp Tp fp hlp bE T0 TE fz0 fzE hof hout)) ?_
  rintro _ _ ⟨_, ⟨gL, cL, rL, xL, hoL, rfl, rfl⟩, rfl⟩
  simp only [List.cons_append, List.nil_append]
  refine RW_m ?_
  refine RW_l (Yl_extract (v := osl gL o.length cL) rfl rfl) ?_
  refine RW_l (Yl_extract (v := nv 0) rfl rfl) ?_
  refine RW_a ?_
  refine RW_a ?_
  refine RW_lv [13,15,19,20,24,25] ?_
  refine CW_sr ?_
  refine RW_m ?_
  refine RW_m ?_
  refine RW_m ?_
  refine RW_l (Yl_len rfl sl_23) ?_
  refine RW_l (Yl_build (cs := stpR (x1.nd.data.length)) pl_53 ze_53 rfl rfl) ?_
  refine RW_fx rfl rfl rfl (Fx_lit (vs := [.agg (stpR (x1.nd.data.length)).toArray]) (css := [stpR (x1.nd.data.length)]) (cs := stpR (x1.nd.data.length)) sl_51 ze_53 rfl rfl rfl rfl rfl (by intro c hc; rw [List.mem_singleton.1 hc]; rfl) (by simp)) ?_
  rintro _ _ ⟨b121, rfl, rfl⟩
  have hst121 := Steps_cut (T := T) (st := st) hp hno hbad hN1 n hcutn.2.2.1 hcutn.2.1 gI (nmF4 four ns) rI lp Tp fp hlp bE T0 TE fz0 fzE hof hok hout om_ b121 1 en kk [] he1 he2 hkk0 he3 (ns.getD kk default).nd.data.length (Nat.le_refl _) (by rw [hx]; omega)
  rw [hx] at hst121
  rw [← List.append_nil (stpR x1.nd.data.length)]
  refine RW_fx rfl rfl rfl (Fx_call ok_20 (vs := [.slice (some ⟨gI, 0, none⟩) n (nmF4 four ns), nv en, .slice (some ⟨b121, 0, none⟩) 1 1]) rfl pk_ hst121) ?_
  rintro _ _ ⟨_, ⟨gB, cB, rB, rowB, b3, cap3, r3, m, c, dvB, RB, rfl, hoB, rfl, hmB, hslB, hfinB, rfl⟩, rfl⟩
  rcases gB with _ | gB
  ·exact absurd hoB.1 om_
  simp only [List.cons_append, List.append_assoc, List.nil_append]
  refine RW_m ?_
  refine RW_l (Yl_extract (v := .slice (some ⟨gB, 0, none⟩) 1 cB) rfl rfl) ?_
  refine RW_l (Yl_extract (v := .slice (some ⟨b3, 0, none⟩) n cap3) rfl rfl) ?_
  refine RW_l (Yl_extract (v := .bool true) rfl rfl) ?_
  refine RW_a ?_
  refine RW_a ?_
  refine RW_a ?_
  refine RW_lv [13,19,20,24,25,26,27,28] ?_
  refine CW_seq ?_
  refine CW_sr ?_
  refine RW_m ?_
  refine RW_l (Yl_neq rfl rfl) ?_
  refine RW_lv [13,19,20,24,26,27,28,127] ?_
  refine CW_cd rfl (fun hc7 => ?_) (fun hc7 => ?_)
  ·exact absurd rfl hc7
  refine (CW_skip (QW_lv [13,19,20,24,26,27,28] ?_))
  refine CW_seq ?_
  refine CW_seq ?_
  have holen : o.length = ns.length := by
   have := len_of_mem (l := o.map Prod.fst) ns.length (fun k hk => (hok k).2 hk)
   rw [List.length_map] at this
   omega
  obtain ⟨pB, cpB, rfl⟩ := hslB.sl (m := m) (by simp; omega)
  have hwl : ((wrF4 four st ns).take n).length = n := by rw [List.length_take, length_writeF hxs (nds_at ps hxs (hno.names hp))]; have := hcutn.2.2.1; show min n (nmF4 four ns) = n; omega
  have hslB0 : Sl RB (.slice pB m cpB) ((x1.nd.data.drop 0).take m) := by rw [List.drop_zero]; exact hslB
  refine CW_region ?_
  refine RW_m ?_
  refine RW_l (Yl_not rfl) ?_
  refine RW_m ?_
  refine RW_gy rfl rfl rfl (Yl.h (Yl_move rfl)) ?_
  refine RW_gy rfl rfl rfl (Yl.h (Yl_lenO rfl hoL sl_33)) ?_
  refine RW_gy rfl rfl rfl (Yl.h (Yl_move rfl)) ?_
  refine RW_gy rfl rfl rfl (Yl.h (Yl_len rfl sl_25)) ?_
  refine RW_gy rfl rfl rfl (Yl.h (Yl_neqB false rfl rfl (decide_eq_false (fun h => h (by rw [holen]))))) ?_
  refine RW_l (Yl_pick_f rfl rfl) ?_
  refine RW_m ?_
  refine RW_gy rfl rfl rfl (Yl.h (Yl_move rfl)) ?_
  refine RW_gy rfl rfl rfl (Yl.h (Yl_len rfl sl_54)) ?_
  refine RW_gy rfl rfl rfl (Yl.h (Yl_neqB false rfl rfl (decide_eq_false (fun h => h rfl)))) ?_
  refine RW_l (Yl_pick_f rfl rfl) ?_
  refine RW_m ?_
  refine RW_gy rfl rfl rfl (Yl.h (Yl_move rfl)) ?_
  refine RW_gy rfl rfl rfl (Yl.h (Yl_move rfl)) ?_
  refine RW_gfx rfl rfl rfl (Fx_callQ ok_21 (vs := [.slice (some ⟨b3, 0, none⟩) n cap3, .slice (some ⟨gI, 0, none⟩) n (nmF4 four ns)]) (R := fun v => v = .bool true) rfl (pick_all _) (same_by _ _ _ ((wrF4 four st ns).take n) (by_blk hwl mem_) (by_blk hwl mem_))) ?_
  rintro _ _ ⟨rfl, rfl⟩
  refine RW_gy rfl rfl rfl (Yl.h (Yl_not rfl)) ?_
  refine RW_l (Yl_pick_f rfl rfl) ?_
  refine RW_m ?_
  refine RW_gy rfl rfl rfl (Yl.h (Yl_move rfl)) ?_
  refine RW_gy rfl rfl rfl (Yl.h (Yl_indexN (b := gB) (off := 0) (i := 0) (o' := 0) rfl rfl sl_54 om_ om_)) ?_
  refine RW_gy rfl rfl rfl (Yl.h (Yl_field rfl fo_58_0)) ?_
  refine RW_gy rfl rfl rfl (Yh_ld (v := .slice pB m cpB) sc_23) ?_
  refine RW_gy rfl rfl rfl (Yl.h (Yl_len rfl sl_23)) ?_
  refine RW_gy rfl rfl rfl (Yl.h (Yl_move rfl)) ?_
  refine RW_gy rfl rfl rfl (Yl.h (Yl_len rfl sl_23)) ?_
  refine RW_gy rfl rfl rfl (Yl.h (Yl_gtrB false rfl rfl (decide_eq_false om_))) ?_
  refine RW_l (Yl_pick_f rfl rfl) ?_
  refine RW_lv [20,26,159] ?_
  refine CW_false rfl ?_
  refine (CW_skip (QW_lv [20,26] ?_))
  refine CW_seq ?_
  refine CW_draw [] _ mixed (Sub.refl _) ?_
  refine RD_m 0 ?_
  refine RD_l 1 rfl (Yl_indexN (b := gB) (off := 0) (i := 0) (o' := 0) rfl rfl sl_54 om_ om_) ?_
  refine RD_f 2 fo_58_0 ?_
  refine RD_m 4 ?_
  refine RD_m 5 ?_
  refine RD_l 6 rfl (Yl_indexN (b := gB) (off := 0) (i := 0) (o' := 0) rfl rfl sl_54 om_ om_) ?_
  refine RD_f 7 fo_58_0 ?_
  refine RD_h (i := 3) #[true, true, true, false, true, true, true, true, true, true, true, false, false, false, false, false, false, false, false, false, false, false, false, false, false, false, false, false, false, false] rfl rfl rfl rfl kr_ (fun _ _ _ h => h) (Yh_ld (v := .slice pB m cpB) sc_23) ?_
  refine RD_h (i := 8) #[true, true, true, true, true, true, true, true, false, false, false, false, false, false, false, false, false, false, false, false, false, false, false, false, false, false, false, false, false, false] rfl rfl rfl rfl kr_ (fun _ _ _ h => h) (Yh_ld (v := .slice pB m cpB) sc_23) ?_
  refine RD_l 9 rfl (Yl_len rfl sl_23) ?_
  refine RD_l 10 rfl (Yl_cutHG (h := m) rfl rfl sl_23 om_) ?_
  refine RD_o 11 ?_
  refine RO_fx rfl rfl rfl rfl (Fx_callQ ok_21 (vs := [(.slice pB m cpB), .slice (cutAt (x1.b.map fun b => ⟨b, 0, none⟩) x1.cap 0 1) m x1.cap]) (R := fun v => v = .bool true) rfl (pick_all _) (same_by _ (.slice pB m cpB) (.slice (cutAt (x1.b.map fun b => ⟨b, 0, none⟩) x1.cap 0 1) m x1.cap) ((x1.nd.data.drop 0).take m) (hslB0.by.more fun e he => (by repeat (first | exact List.mem_append_left _ he | apply List.mem_cons_of_mem))) (By.more (Nm.cutH_by hx1 hxm om_) fun e he => (by repeat (first | exact List.mem_append_right _ (List.mem_cons_of_mem _ (List.mem_append_left _ he)) | apply List.mem_cons_of_mem))))) ?_
  rintro _ _ ⟨rfl, rfl⟩
  refine ⟨Or.inr (Sub.refl _), ?_⟩
  refine RD_m 12 ?_
  refine RD_bool 172 rfl (fun hg8 => ?_) (fun hg8 => ?_)
  ·skip
   refine RD_m 13 ?_
   refine RD_l 14 rfl (Yl_indexN (b := gB) (off := 0) (i := 0) (o' := 0) rfl rfl sl_54 om_ om_) ?_
   refine RD_f 15 fo_58_0 ?_
   refine RD_m 18 ?_
   refine RD_l 19 rfl (Yl_len rfl sl_23) ?_
   refine RD_h (i := 16) #[true, true, true, true, true, true, true, true, true, true, true, true, true, true, true, true, false, false, true, true, false, false, false, false, false, false, false, false, false, false] rfl rfl rfl rfl kr_ (fun _ _ _ h => h) (Yh_ld (v := .slice pB m cpB) sc_23) ?_
   refine RD_l 17 rfl (Yl_len rfl sl_23) ?_
   refine RD_l 20 rfl (Yl_eql rfl rfl) ?_
   refine RD_m 21 ?_
   refine RD_bool 181 rfl (fun hg9 => ?_) (fun hg9 => ?_)
   ·replace hg9 := of_decide_eq_true hg9
    refine RD_skip (i := 22) rfl rfl rfl rfl kr_ (fun _ _ _ h => h) ?_
    refine RD_skip (i := 23) rfl rfl rfl rfl kr_ (fun _ _ _ h => h) ?_
    refine RD_skip (i := 24) rfl rfl rfl rfl kr_ (fun _ _ _ h => h) ?_
    refine RD_skip (i := 25) rfl rfl rfl rfl kr_ (fun _ _ _ h => h) ?_
    refine RD_skip (i := 26) rfl rfl rfl rfl kr_ (fun _ _ _ h => h) ?_
    refine RD_l 27 rfl (Yl_pick_t rfl rfl) ?_
    refine RD_l 28 rfl (Yl_pick_t rfl rfl) ?_
    refine RD_a 29 ?_
    refine (RD_done kr_ (QW_lv [12] ?_))
    refine CW_ret ?_
    first
     | exact QW_ret1 rfl rfl ((2, blk ps T) :: (0, Obj.cells [Value.iface 181 (Value.pointer (some ⟨bE.b, bE.o, none⟩))].toArray T0 fz0) :: D) ⟨rfl, rfl⟩ (Prm.nil _)
     | (refine QW_sub (H' := (2, blk ps T) :: (0, Obj.cells [Value.iface 181 (Value.pointer (some ⟨bE.b, bE.o, none⟩))].toArray T0 fz0) :: (D ++ F)) (.cons _ (.cons_cons _ (.cons_cons _ (.cons _ (List.sublist_append_right _ _))))) ?_; exact QW_ret1 rfl rfl ((2, blk ps T) :: (0, Obj.cells [Value.iface 181 (Value.pointer (some ⟨bE.b, bE.o, none⟩))].toArray T0 fz0) :: D) ⟨rfl, rfl⟩ (Prm.nil _))
     | (refine QW_dropB (e := (gI, _)) (by repeat (first | exact Rem.here _ _ | apply Rem.there)) ?_; refine QW_dropB (e := (b121, _)) (by repeat (first | exact Rem.here _ _ | apply Rem.there)) ?_; refine QW_sub (H' := (2, blk ps T) :: (5, Obj.cells lp.toArray Tp fp) :: (0, Obj.cells [Value.iface 181 (Value.pointer (some ⟨bE.b, bE.o, none⟩))].toArray T0 fz0) :: (bE.b, Obj.cells bE.l.toArray TE fzE) :: (D2 ++ F)) (.cons_cons _ (.cons_cons _ (.cons_cons _ (.cons_cons _ (.cons _ (List.sublist_append_right _ _)))))) ?_; refine QW_heap (perm_c (B := ((2, blk ps T) :: (0, Obj.cells [Value.iface 181 (Value.pointer (some ⟨bE.b, bE.o, none⟩))].toArray T0 fz0) :: D) ++ F) fun w a => by have := @List.Perm.count_eq _ (@instBEqOfDecidableEq _ w) _ _ hDp a; simp only [List.count_append, List.count_cons, List.count_nil] at this ⊢; omega) ?_; exact QW_ret1 rfl rfl ((2, blk ps T) :: (0, Obj.cells [Value.iface 181 (Value.pointer (some ⟨bE.b, bE.o, none⟩))].toArray T0 fz0) :: D) ⟨rfl, rfl⟩ (Prm.nil _))
     | (refine QW_dropB (e := (b3, _)) (by repeat (first | exact Rem.here _ _ | apply Rem.there)) ?_; refine QW_dropB (e := (gI, _)) (by repeat (first | exact Rem.here _ _ | apply Rem.there)) ?_; refine QW_dropB (e := (b121, _)) (by repeat (first | exact Rem.here _ _ | apply Rem.there)) ?_; refine QW_dropB (e := (gB, _)) (by repeat (first | exact Rem.here _ _ | apply Rem.there)) ?_; refine QW_sub (H' := (2, blk ps T) :: (5, Obj.cells lp.toArray Tp fp) :: (0, Obj.cells [Value.iface 181 (Value.pointer (some ⟨bE.b, bE.o, none⟩))].toArray T0 fz0) :: (bE.b, Obj.cells bE.l.toArray TE fzE) :: (D2 ++ F)) (.cons_cons _ (.cons_cons _ (.cons_cons _ (.cons_cons _ (List.Sublist.trans (.cons _ (List.sublist_append_right _ _)) (List.sublist_append_right _ _)))))) ?_; refine QW_heap (perm_c (B := ((2, blk ps T) :: (0, Obj.cells [Value.iface 181 (Value.pointer (some ⟨bE.b, bE.o, none⟩))].toArray T0 fz0) :: D) ++ F) fun w a => by have := @List.Perm.count_eq _ (@instBEqOfDecidableEq _ w) _ _ hDp a; simp only [List.count_append, List.count_cons, List.count_nil] at this ⊢; omega) ?_; exact QW_ret1 rfl rfl ((2, blk ps T) :: (0, Obj.cells [Value.iface 181 (Value.pointer (some ⟨bE.b, bE.o, none⟩))].toArray T0 fz0) :: D) ⟨rfl, rfl⟩ (Prm.nil _))
   replace hg9 := of_decide_eq_false hg9
   have hc1 : 1 ≤ c := by rcases hfinB with h1 | ⟨h1, -⟩; exact absurd (by exact_mod_cast h1) hg9; exact h1
   refine RD_m 22 ?_
   refine RD_l 23 rfl (Yl_indexN (b := gB) (off := 0) (i := 0) (o' := 0) rfl rfl sl_54 om_ om_) ?_
   refine RD_f 24 fo_58_2 ?_
   refine RD_h (i := 25) #[true, true, true, true, true, true, true, true, true, true, true, true, true, true, true, true, true, true, true, true, true, true, true, true, true, false, false, false, false, false] rfl rfl rfl rfl kr_ (fun _ _ _ h => h) (Yh_ld (v := nv c) sc_3) ?_
   refine RD_l 26 rfl (Yl_neqB true rfl rfl (decide_eq_true om_)) ?_
   refine RD_l 27 rfl (Yl_pick_f rfl rfl) ?_
   refine RD_l 28 rfl (Yl_pick_t rfl rfl) ?_
   refine RD_a 29 ?_
   refine (RD_done kr_ (QW_lv [12] ?_))
   refine CW_ret ?_
   first
    | exact QW_ret1 rfl rfl ((2, blk ps T) :: (0, Obj.cells [Value.iface 181 (Value.pointer (some ⟨bE.b, bE.o, none⟩))].toArray T0 fz0) :: D) ⟨rfl, rfl⟩ (Prm.nil _)
    | (refine QW_sub (H' := (2, blk ps T) :: (0, Obj.cells [Value.iface 181 (Value.pointer (some ⟨bE.b, bE.o, none⟩))].toArray T0 fz0) :: (D ++ F)) (.cons _ (.cons_cons _ (.cons_cons _ (.cons _ (List.sublist_append_right _ _))))) ?_; exact QW_ret1 rfl rfl ((2, blk ps T) :: (0, Obj.cells [Value.iface 181 (Value.pointer (some ⟨bE.b, bE.o, none⟩))].toArray T0 fz0) :: D) ⟨rfl, rfl⟩ (Prm.nil _))
    | (refine QW_dropB (e := (gI, _)) (by repeat (first | exact Rem.here _ _ | apply Rem.there)) ?_; refine QW_dropB (e := (b121, _)) (by repeat (first | exact Rem.here _ _ | apply Rem.there)) ?_; refine QW_sub (H' := (2, blk ps T) :: (5, Obj.cells lp.toArray Tp fp) :: (0, Obj.cells [Value.iface 181 (Value.pointer (some ⟨bE.b, bE.o, none⟩))].toArray T0 fz0) :: (bE.b, Obj.cells bE.l.toArray TE fzE) :: (D2 ++ F)) (.cons_cons _ (.cons_cons _ (.cons_cons _ (.cons_cons _ (.cons _ (List.sublist_append_right _ _)))))) ?_; refine QW_heap (perm_c (B := ((2, blk ps T) :: (0, Obj.cells [Value.iface 181 (Value.pointer (some ⟨bE.b, bE.o, none⟩))].toArray T0 fz0) :: D) ++ F) fun w a => by have := @List.Perm.count_eq _ (@instBEqOfDecidableEq _ w) _ _ hDp a; simp only [List.count_append, List.count_cons, List.count_nil] at this ⊢; omega) ?_; exact QW_ret1 rfl rfl ((2, blk ps T) :: (0, Obj.cells [Value.iface 181 (Value.pointer (some ⟨bE.b, bE.o, none⟩))].toArray T0 fz0) :: D) ⟨rfl, rfl⟩ (Prm.nil _))
    | (refine QW_dropB (e := (b3, _)) (by repeat (first | exact Rem.here _ _ | apply Rem.there)) ?_; refine QW_dropB (e := (gI, _)) (by repeat (first | exact Rem.here _ _ | apply Rem.there)) ?_; refine QW_dropB (e := (b121, _)) (by repeat (first | exact Rem.here _ _ | apply Rem.there)) ?_; refine QW_dropB (e := (gB, _)) (by repeat (first | exact Rem.here _ _ | apply Rem.there)) ?_; refine QW_sub (H' := (2, blk ps T) :: (5, Obj.cells lp.toArray Tp fp) :: (0, Obj.cells [Value.iface 181 (Value.pointer (some ⟨bE.b, bE.o, none⟩))].toArray T0 fz0) :: (bE.b, Obj.cells bE.l.toArray TE fzE) :: (D2 ++ F)) (.cons_cons _ (.cons_cons _ (.cons_cons _ (.cons_cons _ (List.Sublist.trans (.cons _ (List.sublist_append_right _ _)) (List.sublist_append_right _ _)))))) ?_; refine QW_heap (perm_c (B := ((2, blk ps T) :: (0, Obj.cells [Value.iface 181 (Value.pointer (some ⟨bE.b, bE.o, none⟩))].toArray T0 fz0) :: D) ++ F) fun w a => by have := @List.Perm.count_eq _ (@instBEqOfDecidableEq _ w) _ _ hDp a; simp only [List.count_append, List.count_cons, List.count_nil] at this ⊢; omega) ?_; exact QW_ret1 rfl rfl ((2, blk ps T) :: (0, Obj.cells [Value.iface 181 (Value.pointer (some ⟨bE.b, bE.o, none⟩))].toArray T0 fz0) :: D) ⟨rfl, rfl⟩ (Prm.nil _))
  skip
  exact Bool.noConfusion hg8
 skip
 refine CW_region ?_
 refine RW_m ?_
 refine RW_fx rfl rfl rfl (Fx_call ok_18 (vs := [.slice (some ⟨gI, 0, none⟩) n (nmF4 four ns)]) rfl pk_ (Entries_shut (T := T) (st := st) hp hno hbad hN1 n hcutn.2.2.1 hcutn.2.1 gI (nmF4 four ns) rI lp Tp fp hlp bE T0 TE fz0 fzE hof)) ?_
 rintro _ _ ⟨_, ⟨cL, hcl1, hcl2, rfl, rfl⟩, rfl⟩
 simp only [List.cons_append, List.nil_append]
 refine RW_m ?_
 refine RW_l (Yl_extract (v := .slice none 0 0) rfl rfl) ?_
 refine RW_l (Yl_extract (v := nv cL) rfl rfl) ?_
 refine RW_a ?_
 refine RW_a ?_
 refine RW_lv [13,15,19,20,24,25] ?_
 refine CW_sr ?_
 refine RW_m ?_
 refine RW_m ?_
 refine RW_m ?_
 refine RW_l (Yl_len rfl sl_23) ?_
 refine RW_l (Yl_build (cs := stpR (x1.nd.data.length)) pl_53 ze_53 rfl rfl) ?_
 refine RW_fx rfl rfl rfl (Fx_lit (vs := [.agg (stpR (x1.nd.data.length)).toArray]) (css := [stpR (x1.nd.data.length)]) (cs := stpR (x1.nd.data.length)) sl_51 ze_53 rfl rfl rfl rfl rfl (by intro c hc; rw [List.mem_singleton.1 hc]; rfl) (by simp)) ?_
 rintro _ _ ⟨b121, rfl, rfl⟩
 have hst121 := Steps_shut (T := T) (st := st) hp hno hbad hN1 n hcutn.2.2.1 hcutn.2.1 gI (nmF4 four ns) rI lp Tp fp hlp bE T0 TE fz0 fzE hof en b121 1 1 [stpR x1.nd.data.length] []
 rw [show [stpR x1.nd.data.length].flatten ++ [] = stpR x1.nd.data.length from rfl] at hst121
 refine RW_fx rfl rfl rfl (Fx_call ok_20 (vs := [.slice (some ⟨gI, 0, none⟩) n (nmF4 four ns), nv en, .slice (some ⟨b121, 0, none⟩) 1 1]) rfl pk_ hst121) ?_
 rintro _ _ ⟨_, ⟨rfl, rfl⟩, rfl⟩
 simp only [List.cons_append, List.nil_append]
 refine RW_m ?_
 refine RW_l (Yl_extract (v := .slice none 0 0) rfl rfl) ?_
 refine RW_l (Yl_extract (v := .slice none 0 0) rfl rfl) ?_
 refine RW_l (Yl_extract (v := .bool false) rfl rfl) ?_
 refine RW_a ?_
 refine RW_a ?_
 refine RW_a ?_
 refine RW_lv [13,19,20,24,25,26,27,28] ?_
 refine CW_seq ?_
 refine CW_sr ?_
 refine RW_m ?_
 refine RW_l (Yl_neq rfl rfl) ?_
 refine RW_lv [13,19,20,24,26,27,28,127] ?_
 refine CW_cd rfl (fun hc10 => ?_) (fun hc10 => ?_)
 ·refine CW_sr ?_
  refine RW_m ?_
  refine RW_l (Yl_not rfl) ?_
  refine RW_a ?_
  refine RW_lv [12] ?_
  refine CW_ret ?_
  refine QW_ret_then ?_
  first
   | exact QW_ret1 rfl rfl ((2, blk ps T) :: (0, Obj.cells [Value.iface 181 (Value.pointer (some ⟨bE.b, bE.o, none⟩))].toArray T0 fz0) :: D) ⟨rfl, rfl⟩ (Prm.nil _)
   | (refine QW_sub (H' := (2, blk ps T) :: (0, Obj.cells [Value.iface 181 (Value.pointer (some ⟨bE.b, bE.o, none⟩))].toArray T0 fz0) :: (D ++ F)) (.cons _ (.cons_cons _ (.cons_cons _ (.cons _ (List.sublist_append_right _ _))))) ?_; exact QW_ret1 rfl rfl ((2, blk ps T) :: (0, Obj.cells [Value.iface 181 (Value.pointer (some ⟨bE.b, bE.o, none⟩))].toArray T0 fz0) :: D) ⟨rfl, rfl⟩ (Prm.nil _))
   | (refine QW_dropB (e := (gI, _)) (by repeat (first | exact Rem.here _ _ | apply Rem.there)) ?_; refine QW_dropB (e := (b121, _)) (by repeat (first | exact Rem.here _ _ | apply Rem.there)) ?_; refine QW_sub (H' := (2, blk ps T) :: (5, Obj.cells lp.toArray Tp fp) :: (0, Obj.cells [Value.iface 181 (Value.pointer (some ⟨bE.b, bE.o, none⟩))].toArray T0 fz0) :: (bE.b, Obj.cells bE.l.toArray TE fzE) :: (D2 ++ F)) (.cons_cons _ (.cons_cons _ (.cons_cons _ (.cons_cons _ (.cons _ (List.sublist_append_right _ _)))))) ?_; refine QW_heap (perm_c (B := ((2, blk ps T) :: (0, Obj.cells [Value.iface 181 (Value.pointer (some ⟨bE.b, bE.o, none⟩))].toArray T0 fz0) :: D) ++ F) fun w a => by have := @List.Perm.count_eq _ (@instBEqOfDecidableEq _ w) _ _ hDp a; simp only [List.count_append, List.count_cons, List.count_nil] at this ⊢; omega) ?_; exact QW_ret1 rfl rfl ((2, blk ps T) :: (0, Obj.cells [Value.iface 181 (Value.pointer (some ⟨bE.b, bE.o, none⟩))].toArray T0 fz0) :: D) ⟨rfl, rfl⟩ (Prm.nil _))
   | (refine QW_dropB (e := (b3, _)) (by repeat (first | exact Rem.here _ _ | apply Rem.there)) ?_; refine QW_dropB (e := (gI, _)) (by repeat (first | exact Rem.here _ _ | apply Rem.there)) ?_; refine QW_dropB (e := (b121, _)) (by repeat (first | exact Rem.here _ _ | apply Rem.there)) ?_; refine QW_dropB (e := (gB, _)) (by repeat (first | exact Rem.here _ _ | apply Rem.there)) ?_; refine QW_sub (H' := (2, blk ps T) :: (5, Obj.cells lp.toArray Tp fp) :: (0, Obj.cells [Value.iface 181 (Value.pointer (some ⟨bE.b, bE.o, none⟩))].toArray T0 fz0) :: (bE.b, Obj.cells bE.l.toArray TE fzE) :: (D2 ++ F)) (.cons_cons _ (.cons_cons _ (.cons_cons _ (.cons_cons _ (List.Sublist.trans (.cons _ (List.sublist_append_right _ _)) (List.sublist_append_right _ _)))))) ?_; refine QW_heap (perm_c (B := ((2, blk ps T) :: (0, Obj.cells [Value.iface 181 (Value.pointer (some ⟨bE.b, bE.o, none⟩))].toArray T0 fz0) :: D) ++ F) fun w a => by have := @List.Perm.count_eq _ (@instBEqOfDecidableEq _ w) _ _ hDp a; simp only [List.count_append, List.count_cons, List.count_nil] at this ⊢; omega) ?_; exact QW_ret1 rfl rfl ((2, blk ps T) :: (0, Obj.cells [Value.iface 181 (Value.pointer (some ⟨bE.b, bE.o, none⟩))].toArray T0 fz0) :: D) ⟨rfl, rfl⟩ (Prm.nil _))
 exact absurd hc10 om_

end Go.Proofs.YtgoddcicbpjknaaDoor

set_option maxRecDepth 100000
namespace Go.Proofs.YtgoddcicbpjknaaDoor.fnCut
open Go
open Cfb
open Go.ChangeShapes Go.WideShapes Go.ChangeAt Go.RowKit Go.Clock
theorem contract (H : Type) (enc : TypeId × Value → H) (W : World) (base : Nat) (args : Array Value) (ds gs : List (DataW H)) (before : List MemPlace)
    (hval : ∀ (j : Nat) t v, Tryd.f11.params[j]? = some t → args[j]? = some v → Value.okWide Tryd.prog W .any base t v)
    (hW : DataW.Whole enc Tryd.prog Tryd.f11.params.toList Rows.fnCutSpec.vars false W args.toList ds gs before) (hL : laidMetH Tryd.prog Rows.fnCutRow.laid W) (hS : W.ShapedOpen Tryd.prog) :
    Calls Tryd.prog 11 args W fun e W' => ∃ v, e = .returned v ∧ W'.os = W.os ∧ Rows.fnCutSpec.post enc Tryd.prog Tryd.f11 false true false false W args v W' := by
  have hW' := hW
  obtain ⟨p, q, hA0, hV, rfl, hfz, hnd⟩ := hW
  have hA : DataW.TrodAll enc Tryd.prog W 0 (fun _ => true) true Tryd.f11.params.toList args.toList ds p := hA0
  have hlt : ∀ x ∈ p, x.block < W.heap.size := fun x hx => by simpa using hW'.lt x (List.mem_append_left _ hx)
  have again := fun W' hb => trodAll_again (W' := W') hb _ _ _ _ hA (by rw [Tryd.params11]; kernel_rfl) hlt
  rw [Tryd.params11] at hA hval
  obtain ⟨v0, vs0, d0, ds0, p0, q0, hargs, rfl, rfl, h0, r0⟩ := trodAll_cons hA
  obtain ⟨v1, vs1, d1, ds1, p1, q1, rfl, rfl, rfl, h1, r1⟩ := trodAll_cons r0
  obtain ⟨v2, vs2, d2, ds2, p2, q2, rfl, rfl, rfl, h2, r2⟩ := trodAll_cons r1
  obtain ⟨v3, vs3, d3, ds3, p3, q3, rfl, rfl, rfl, h3, r3⟩ := trodAll_cons r2
  obtain ⟨v4, vs4, d4, ds4, p4, q4, rfl, rfl, rfl, h4, r4⟩ := trodAll_cons r3
  obtain ⟨v5, vs5, d5, ds5, p5, q5, rfl, rfl, rfl, h5, r5⟩ := trodAll_cons r4
  obtain ⟨rfl, rfl, rfl⟩ := trodAll_nil r5
  obtain rfl : args = #[v0, v1, v2, v3, v4, v5] := by cases args; simp_all
  obtain ⟨rfl, rfl⟩ := trodVars_none hV
  obtain ⟨a2, rfl, rfl, rfl⟩ := open_bool Tryd.underlying4 (hval 2 4 v2 rfl rfl) h2
  obtain ⟨a3, rfl, rfl, rfl, w3⟩ := open_int Tryd.underlying5 (hval 3 5 v3 rfl rfl) h3
  obtain ⟨a4, rfl, rfl, rfl, w4⟩ := open_int Tryd.underlying5 (hval 4 5 v4 rfl rfl) h4
  obtain ⟨a5, rfl, rfl, rfl, w5⟩ := open_int Tryd.underlying47 (hval 5 47 v5 rfl rfl) h5
  obtain ⟨bE, TE, fzE, T0, T, lp, Tp, fp, hlp, hm4, hn4⟩ := four_blocks hL hS
  obtain ⟨s0, n0, c0, rfl, hc0, hs0⟩ := open_nums un_22 un_67 cells67 (hval 0 22 v0 rfl rfl) h0
  obtain ⟨s1, n1, c1, rfl, hc1, hs1⟩ := open_bytes (hval 1 23 v1 rfl rfl) h1
  obtain ⟨x3, rfl, b3⟩ := u8_nat w3
  obtain ⟨x4, rfl, b4⟩ := u8_nat w4
  obtain ⟨x5, rfl, b5⟩ := u16_nat w5
  have fin : Calls Tryd.prog 11 #[.slice s0 n0 c0, .slice s1 n1 c1, .bool a2, .int .u8 (x3 : Int), .int .u8 (x4 : Int), .int .u16 (x5 : Int)] W fun e w' => e = .returned (.bool true) ∧ Grown W w' ∧ Below W.heap.size W w' := by
    obtain ⟨N1, y1, z1, k1⟩ := nums_end (W := W) (L := [(2, blk propsV T), (0, Obj.cells [Value.iface 181 (.pointer (some ⟨bE.b, bE.o, none⟩))].toArray T0 (0, 0)), (5, Obj.cells lp.toArray Tp fp), (bE.b, Obj.cells bE.l.toArray TE fzE)]) hm4 hn4 hs0
    obtain ⟨N2, y2, z2, k2⟩ := bytes_end y1 z1 hs1
    have e0 : ([(2, blk propsV T), (0, Obj.cells [Value.iface 181 (.pointer (some ⟨bE.b, bE.o, none⟩))].toArray T0 (0, 0)), (5, Obj.cells lp.toArray Tp fp), (bE.b, Obj.cells bE.l.toArray TE fzE)] ++ N1) ++ N2 = (2, blk propsV T) :: (0, Obj.cells [Value.iface 181 (.pointer (some ⟨bE.b, bE.o, none⟩))].toArray T0 (0, 0)) :: ((5, Obj.cells lp.toArray Tp fp) :: (bE.b, Obj.cells bE.l.toArray TE fzE) :: (N1 ++ N2)) := by simp
    have k1' := k1.mono (List.sublist_append_left _ N2)
    rw [e0] at y2 z2 k2 k1'
    exact (FnCut_ct bE n0 c0 n1 c1 x3 x4 s0 s1 a2 b3 b4 x5 b5 propsV T propsV_ok T0 (0, 0) ((5, Obj.cells lp.toArray Tp fp) :: (bE.b, Obj.cells bE.l.toArray TE fzE) :: (N1 ++ N2)) k1' k2 hc0 lp Tp fp hlp TE fzE (N1 ++ N2) (List.Perm.refl _)).rowB y2 z2
  refine fin.mono fun e W' ⟨he, hg, hb⟩ => ?_
  subst he
  exact ⟨_, rfl, hg.1.1, ⟨_, _, _, [], _, [], hW', trodAll_cons_mk (shut_bool Tryd.underlying4 _) trodAll_mk0, again W' hb, rfl, hg.frame _, fun h => by cases h⟩⟩
/-- A world for the witness. -/
noncomputable def laidWorld (os : Os) : World := World.laidAll Tryd.prog os Rows.fnCutRow.laid
theorem laid_met (os : Os) : laidMet Tryd.prog Rows.fnCutRow.laid ((laidWorld os).forCall (fun _ _ => 0) ⟨#[], #[.slice none 0 0, .slice none 0 0, .bool false, .int .u8 0, .int .u8 0, .int .u16 0], []⟩).memory := laidMet_laidAll _ kr_ kr_
theorem reads (os : Os) {H : Type} (enc : TypeId × Value → H) : ∃ places, DataW.whole enc Tryd.prog ((laidWorld os).forCall (fun _ _ => 0) ⟨#[], #[.slice none 0 0, .slice none 0 0, .bool false, .int .u8 0, .int .u8 0, .int .u16 0], []⟩).memory Tryd.f11.params.toList Rows.fnCutSpec.vars false (#[.slice none 0 0, .slice none 0 0, .bool false, .int .u8 0, .int .u8 0, .int .u16 0] : Array Value).toList 8 = some ([.nil, .nil, .lit (.bool false), .lit (.int .u8 0), .lit (.int .u8 0), .lit (.int .u16 0)], [], places) :=
  ⟨[], by kernel_rfl⟩
theorem lifted (os : Os) (started : os.Started) (H : Type) (enc : TypeId × Value → H) (F : Stop.Interp) :
    ReturnsInHanded {} Tryd.checked os 11 .any ((OpenSpec.ofChange Rows.fnCutSpec).preRow enc Tryd.prog Tryd.f11 Rows.fnCutRow.domain false Rows.fnCutRow.laid) (((OpenSpec.ofChange Rows.fnCutSpec).at F).post enc Tryd.prog Tryd.f11 false true false false) := by
  obtain ⟨places, hx⟩ := reads os enc
  refine returnsInHanded_of_row (C := Tryd.checked) (s := OpenSpec.ofChange Rows.fnCutSpec) own started kr_ Tryd.func11
    (witness_row_at (enc := enc) (C := Tryd.checked) false (laidWorld os) #[.slice none 0 0, .slice none 0 0, .bool false, .int .u8 0, .int .u8 0, .int .u16 0] (World.laidAll_os _ _ _) (by kernel_rfl) (by kernel_rfl) (by kernel_rfl)
      (OpenSpec.preRow_of_cond 8 hx kr_ (fun k hk => by cases hk) kr_ (laid_met os))) ?_
  intro W base args ds gs before hval hW _ _ _ hL hS _
  exact (contract H enc W base args ds gs before hval hW hL hS).mono fun _ _ ⟨v, he, _, hp⟩ => ⟨v, he, hp⟩
/-- The same, where the row lets time pass. -/
theorem liftedT (os : Os) (started : os.Started) (H : Type) (enc : TypeId × Value → H) (F : Stop.Interp) :
    ReturnsInHanded { calm := true } Tryd.checked os 11 .any (fun w args => (Rows.fnCutSpec.pre enc Tryd.prog Tryd.f11 [] false w args ∧ laidMetH Tryd.prog Rows.fnCutRow.laid w) ∧ sizedMet enc Tryd.prog Tryd.f11 (OpenSpec.ofChange Rows.fnCutSpec) false w args)
      ((OpenSpec.ofChange Rows.fnCutSpec).postWith enc Tryd.prog Tryd.f11 F (outsideKept [.timePasses]) false true false) := by
  refine returns_of_change (C := Tryd.checked) (X := fun w _ => laidMetH Tryd.prog Rows.fnCutRow.laid w) (fun _ _ _ hh h => h.of_heap hh) own started kr_ Tryd.func11
    (witness_at (enc := enc) (C := Tryd.checked) (X := fun w _ => laidMetH Tryd.prog Rows.fnCutRow.laid w) (World.laidAll Tryd.prog os Rows.fnCutRow.laid) #[.slice none 0 0, .slice none 0 0, .bool false, .int .u8 0, .int .u8 0, .int .u16 0] 8 (World.laidAll_os _ _ _) (World.shaped_of_ZipB (by kernel_rfl) (by kernel_rfl)) (by kernel_rfl) (by kernel_rfl) (by kernel_rfl)
      (by rw [MakeChecks.laidMetH_plain _ _ _ kr_]; exact laidMet_laidAll _ kr_ kr_)) ?_
  intro W base args ds gs before hval hW _ _ hL hS
  refine (contract H enc W base args ds gs before hval hW hL hS).mono ?_
  rintro e W' ⟨v, he, ho, hp⟩
  have hos : { W' with os := W.os } = W' := by rw [← ho]
  refine ⟨v, he, by rw [hos]; exact hp, by rw [ho]; exact Later.refl _⟩
theorem said : Rows.FnCutSaid := by
  first
    | exact OpenClaim.holds_of_cond 11 Tryd.f11 rfl rfl rfl rfl rfl rfl rfl ⟨rfl, rfl, rfl, rfl, rfl⟩ rfl rfl rfl rfl rfl (by kernel_rfl) Tryd.func11 (by kernel_rfl)
        (of_decide_eq_true kr_) (by unfold Func.isWrapper; first | (rw [if_pos (by decide +kernel)]; kernel_rfl) | (rw [if_neg (by decide +kernel)]; exact ⟨rfl, rfl⟩))
        (fun os started H enc _ F => by rw [OpenClaim.pre_eq_preRow]; exact lifted os started H enc F)
    | exact holds_of_wide_time 11 Tryd.f11 rfl rfl rfl rfl rfl rfl rfl ⟨rfl, rfl, rfl, rfl, rfl⟩ rfl rfl rfl rfl rfl (by kernel_rfl) Tryd.func11 (by kernel_rfl)
        (of_decide_eq_true kr_) (by unfold Func.isWrapper; first | (rw [if_pos (by decide +kernel)]; kernel_rfl) | (rw [if_neg (by decide +kernel)]; exact ⟨rfl, rfl⟩))
        (fun os started H enc _ F => liftedT os started H enc F)
theorem plain (f : FuncId) (fn : Func) (hf : Tryd.pinned.checked.prog.funcNamed "loop.example/pub-g03453/laws.FnCut" = some f) (hfn : Tryd.pinned.checked.prog.funcs[f]? = some fn) :
    true = Tryd.pinned.checked.prog.looks [] ∧ ∀ (j : Nat) t, fn.params[j]? = some t → Tryd.pinned.checked.prog.wantsStandIn t = false := by
  obtain rfl : f = 11 := Option.some.inj ((show Tryd.prog.funcNamed "loop.example/pub-g03453/laws.FnCut" = some 11 by kernel_rfl).symm.trans hf) |>.symm
  obtain rfl : fn = Tryd.f11 := (Option.some.inj (Tryd.func11.symm.trans hfn)).symm
  refine ⟨by kernel_rfl, fun j t ht => ?_⟩
  rw [Tryd.params11] at ht
  have hm : t ∈ [22, 23, 4, 5, 5, 47] := by simpa using Array.mem_of_getElem? ht
  have hall : ([22, 23, 4, 5, 5, 47].all fun u => !Tryd.prog.wantsStandIn u) = true := by kernel_rfl
  exact (show Tryd.prog.wantsStandIn t = false by simpa using List.all_eq_true.1 hall t hm)
theorem card : Rows.FnCutCardSaid :=
  Claim7.holds_tied_plain_at .later [] _ _ _ _ said (fun _ h => by cases h) kr_ (fun _ h => by cases h) fnCut_row_tie rfl ⟨rfl, rfl⟩ kr_ rfl plain kr_
#print axioms card
end Go.Proofs.YtgoddcicbpjknaaDoor.fnCut
