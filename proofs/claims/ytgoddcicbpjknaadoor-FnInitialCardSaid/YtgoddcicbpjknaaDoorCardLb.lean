/- FnInitial, as its card states it: whatever the sign, the bytes and the choice, the call returns true and leaves all that was there as it was. -/
import Derived.Test.YtgoddcicbpjknaaDoorPartC
import Derived.WalkKit
import Derived.ProofKit
import Derived.OpenShut
import Derived.Deep.DeepHandedRow
import Derived.Lib.LaidTab
import Derived.Test.YtgoddcicbpjknaaDoorCards
import Derived.Test.YtgoddcicbpjknaaDoorTie
import Derived.Carry
import Derived.Clock
import Derived.Lay
set_option maxRecDepth 20000
set_option maxHeartbeats 4000000

namespace Go.Proofs.YtgoddcicbpjknaaDoor
open Go
open Cfb

theorem write_M {E : World} {Q : Exit → Act → World → Prop} {F : Heap} (hQ : QP Q) (b7 g29 stl c29 bf b25 b34 b35 bo b44 b45 size N T W D : Nat) (sts fat : List Nat) (r29 : List Value) (dl wl ol : List UInt8)  (hsz : 512 ≤ size ∧ size ≤ 4096) (hsl : stl = sts.length) (hsl3 : 3 ≤ sts.length) (hsb : ∀ y ∈ sts, y ≤ 4294967295) (hfb : ∀ y ∈ fat, y < 4294967296) (hT : T ≤ 100000) (hTf : T ≤ fat.length) (hN : size * (1 + T) = N) (hol : ol.length = N) (hwl : wl.length = W) (hdl : dl.length = D) (hW2 : W ≤ 100000000) (hDb : D ≤ 1000000) (hcW : ∀ j, j * size < W → walkP fat (sts.getD 2 0) j < T) (hcD : ∀ j, j * size < D → walkP fat (sts.getD 0 0) j < T)
  (hk : QW E 514 [(6, .slice (some ⟨bo, 0, none⟩) N N)] ((bo, blk (bys (fillF fat size dl (sts.getD 0 0) (fillF fat size wl (sts.getD 2 0) ol))) 5) :: F) .ret Q) :
  CW Tryd.prog E 514 [(29, .slice (some ⟨g29, 0, none⟩) stl c29), (34, .pointer (some ⟨b34, 0, none⟩)), (36, .func (.func 28) #[] #[.pointer (some ⟨b25, 0, none⟩), .pointer (some ⟨b35, 0, none⟩)]), (44, .slice (some ⟨b44, 0, none⟩) W W), (45, .slice (some ⟨b45, 0, none⟩) D D)] ((b45, blk (bys dl) 5) :: (b44, blk (bys wl) 5) :: (bo, blk (bys ol) 5) :: (g29, blk (nats sts ++ r29) 3) :: (b35, blk [.func (.func 27) #[] #[.pointer (some ⟨b34, 0, none⟩), .pointer (some ⟨b7, 0, none⟩)]] 73) :: (b34, blk [.slice (some ⟨bo, 0, none⟩) N N] 23) :: (bf, blk (u32s fat) 67) :: (b25, blk [.slice (some ⟨bf, 0, none⟩) fat.length fat.length] 22) :: (b7, blk [nv size] 3) :: F) (dig [1, 1, 1, 1, 1, 1, 1, 1, 1, 1, 1, 1, 1, 1, 1, 1, 1, 1, 1, 1, 1, 1, 1, 1, 1, 1, 1, 1, 1, 1, 1, 1, 1, 1, 1, 1, 1, 1, 1, 1, 1, 1, 1, 1, 1, 1, 1, 1] (bodyOf Tryd.f15)) Q := by
 have hNb : N ≤ 1000000000 := by
  have h1 : size * (1 + T) ≤ 4096 * 100001 := Nat.mul_le_mul hsz.2 om_
  omega
 have hl1 : (fillF fat size wl (sts.getD 2 0) ol).length = N := by
  rw [length_fillF om_ (fun j hj => by have h1 := hcW j om_; have h2 := sector_le2 (size := size) h1; omega)]; exact hol
 rw [show (b44, blk (bys wl) 5) = (b44, blk (bys wl ++ []) 5) by rw [List.append_nil], show (b45, blk (bys dl) 5) = (b45, blk (bys dl ++ []) 5) by rw [List.append_nil]]
 have hf1 := fill_ct b25 bf b35 b34 b7 bo b44 fat.length N W size (sts.getD 2 0) N fat wl ol [] (by omega) hol.symm (by omega) (by omega) (by omega) (by omega) (le_getD hsb (by omega)) hfb (fun j hj => by
  have h1 := hcW j om_
  have h2 := sector_le2 (size := size) h1
  omega)
 rw [hwl] at hf1
 have hf2 := fill_ct b25 bf b35 b34 b7 bo b45 fat.length N D size (sts.getD 0 0) N fat dl (fillF fat size wl (sts.getD 2 0) ol) [] (by omega) hl1.symm (by omega) (by omega) (by omega) (by omega) (le_getD hsb (by omega)) hfb (fun j hj => by
  have h1 := hcD j om_
  have h2 := sector_le2 (size := size) h1
  omega)
 rw [hdl] at hf2
 refine CW_sr ?_
 refine RW_m ?_
 refine RW_m ?_
 refine RW_l (Yl_index rfl rfl sl_29 om_ om_) ?_
 refine RW_h (Yh_load (v := nv (sts.getD 2 0)) rfl sc_3 mem_ (at_nats om_ om_)) ?_
 refine RW_m ?_
 refine RW_fx rfl rfl rfl (Fx_callV ok_28 (fs := []) (vs := [nv (sts.getD 2 0), .slice (some ⟨b44, 0, none⟩) W W]) (cs := [.pointer (some ⟨b25, 0, none⟩), .pointer (some ⟨b35, 0, none⟩)]) rfl rfl pk_ hf1) ?_
 rintro _ _ ⟨_, ⟨rfl, rfl⟩, rfl⟩
 refine RW_lv [29,34,36,45] ?_
 refine CW_sr ?_
 refine RW_m ?_
 refine RW_m ?_
 refine RW_l (Yl_index rfl rfl sl_29 om_ om_) ?_
 refine RW_h (Yh_load (v := nv (sts.getD 0 0)) rfl sc_3 mem_ (at_nats om_ om_)) ?_
 refine RW_m ?_
 refine RW_fx rfl rfl rfl (Fx_callV ok_28 (fs := []) (vs := [nv (sts.getD 0 0), .slice (some ⟨b45, 0, none⟩) D D]) (cs := [.pointer (some ⟨b25, 0, none⟩), .pointer (some ⟨b35, 0, none⟩)]) rfl rfl pk_ hf2) ?_
 rintro _ _ ⟨_, ⟨rfl, rfl⟩, rfl⟩
 refine RW_lv [34] ?_
 refine CW_sr ?_
 refine RW_h (Yh_ld (v := .slice (some ⟨bo, 0, none⟩) N N) sc_23) ?_
 refine RW_a ?_
 refine RW_lv [6] ?_
 refine CW_ret ?_
 refine QW_dropB (e := (b45, _)) rem_ ?_
 refine QW_dropB (e := (b44, _)) rem_ ?_
 refine QW_dropB (e := (g29, _)) rem_ ?_
 refine QW_dropB (e := (b35, _)) rem_ ?_
 refine QW_dropB (e := (b34, _)) rem_ ?_
 refine QW_dropB (e := (bf, _)) rem_ ?_
 refine QW_dropB (e := (b25, _)) rem_ ?_
 refine QW_dropB (e := (b7, _)) rem_ ?_
 exact QW_live (.cons rfl .nil) hk

theorem write_ct (bl cl v st : Nat) (ns : List Nm) (rl : List Value) (xs : List Nd) (hxe : xs = ns.map Nm.nd) (hxs : Ok xs) (hok : ∀ x ∈ ns, x.ok) (hv : v ≤ 4) (hst : st ≤ 1000) :
  Ct Tryd.prog 15 [.slice (some ⟨bl, 0, none⟩) ns.length cl, nv v, nv st] ((bl, blk (nms ns ++ rl) 43) :: nmsH ns)
   (fun u p => ∃ g, u = .slice (some ⟨g, 0, none⟩) (NF v xs) (NF v xs) ∧ p = (g, blk (bys (writeF v st xs)) 5) :: (bl, blk (nms ns ++ rl) 43) :: nmsH ns) := by
 refine Ct_of (c := bodyOf Tryd.f15) Tryd.func15 rfl Tryd.ntmps15 rfl ?_
 intro E F
 simp only [numL, List.cons_append]
 have hlen : xs.length = ns.length := by rw [hxe]; simp
 have hsm : (ns.map fun x => smallF x.nd) = smF xs := by rw [hxe]; simp [smF, Function.comp_def]
 have hlg : (ns.map fun x => largeF (sizeF v) x.nd) = lgF v xs := by rw [hxe]; simp [lgF, Function.comp_def]
 have hsz : 512 ≤ sizeF v ∧ sizeF v ≤ 4096 := by rcases sizeF_or v with e | e <;> omega
 have hper : 4 * perF v = sizeF v := by unfold perF; rcases sizeF_or v with e | e <;> omega
 have hn1 := hxs.len
 have hmi := miF_le hxs
 have hcsl := cs_sum_le (v := v) hxs
 have hft := ftF_ok (v := v) hxs
 have hmf := mfF_le (v := v) hxs
 have hds := dsF_le (v := v) hxs
 have hNF := NF_le (v := v) hxs
 have hchl := length_ch (v := v) (st := st) hxs
 have hmchl := length_mch (v := v) (st := st) hxs
 have hchm := ch_mem (v := v) (st := st) hxs
 have hmchm := mch_mem (v := v) (st := st) hxs
 have hsb : ∀ y ∈ (chF v st xs).outs, y ≤ 4294967295 := fun y hy => by have := hchm.2 y hy; omega
 have hmsb : ∀ y ∈ (mchF v st xs).outs, y ≤ 4294967295 := fun y hy => by have := hmchm.2 y hy; omega
 have hcse : countsF ns.length (smF xs).sum (sizeF v) (lgF v xs) = csF v xs := by rw [← hlen]; rfl
 have hdse : partsF ns.length (sizeF v / 128) = dsF v xs := by rw [← hlen]; rfl
 refine write_A (by intro _ _ _ _ _ h; exact h) v st bl cl ns rl om_ hok hv ?_
 intro b7 g8 g9 c8 c9 r8 r9 hl8 hl9
 rw [hsm] at hl8 ⊢
 rw [hlg] at hl9 ⊢
 refine write_B (by intro _ _ _ _ _ h; exact h) v st bl cl ns.length g8 g9 c8 c9 b7 (sizeF v) (smF xs) (lgF v xs) r8 r9 om_ (by rw [← hlen]; simp [smF]) (by rw [← hlen]; simp [lgF]) hsz (show miF xs ≤ 100000 by omega) (by rw [hcse]; omega) ?_
 intro g19 c19 r19 hl19
 rw [hcse] at hl19 ⊢
 rw [hdse]
 refine CW_heap (Prm.perm (T := (g8, blk (nats (smF xs) ++ r8) 3) :: (g19, blk (nats (csF v xs) ++ r19) 3) :: (b7, blk [nv (sizeF v)] 3) :: (bl, blk (nms ns ++ rl) 43) :: (nmsH ns ++ F)) prm_) ?_
 refine write_C (F := (b7, blk [nv (sizeF v)] 3) :: (bl, blk (nms ns ++ rl) 43) :: (nmsH ns ++ F)) (by intro _ _ _ _ _ h; exact h) st b7 g8 c8 g19 c19 (perF v) (ftF v xs) (mfF v xs) ns.length (ns.length + 3) (smF xs) (csF v xs) r8 r19 (by rw [← hlen]; simp [smF]) (by rw [length_csF, hlen]) rfl hst om_ hft.1 (by rw [length_csF]; omega) (by rw [length_csF]; omega) (by simp [smF]; omega) (show miF xs ≤ 100000 by omega) om_ hft.2.2.1 hmf.2.1 om_ ?_
 intro g24 c24 r24 b25 bf g29 c29 r29 b30 g33 c33 r33 hl24 hl29 hl33
 refine CW_heap (Prm.perm (T := (g19, blk (nats (csF v xs) ++ r19) 3) :: (g29, blk (nats (chF v st xs).outs ++ r29) 3) :: (b7, blk [nv (sizeF v)] 3) :: (g33, blk (nats (mchF v st xs).outs ++ r33) 3) :: (b30, blk (u32s (mchF v st xs).table) 67) :: (bf, blk (u32s (chF v st xs).table) 67) :: (b25, blk [.slice (some ⟨bf, 0, none⟩) (ftF v xs * perF v) (ftF v xs * perF v)] 22) :: (g24, blk (nats (plF v st xs) ++ r24) 3) :: (bl, blk (nms ns ++ rl) 43) :: (nmsH ns ++ F)) prm_) ?_
 refine write_D (by intro _ _ _ _ _ h; exact h) v b7 g19 (ns.length + 3) c19 g29 (ns.length + 3) c29 (sizeF v) (dsF v xs) (csF v xs).sum (ftF v xs) (NF v xs) (csF v xs) (chF v st xs).outs r19 r29 (sizeF_or v) (by rw [length_csF, hlen]) (by rw [length_csF]; omega) om_ om_ (by rw [cs_1]; omega) (le_getD hsb om_) (le_getD hsb om_) om_ om_ hv om_ (by unfold NF TF; rw [Nat.add_assoc]) hNF.1 om_ ?_
 intro bo b34 b35
 refine CW_heap (Prm.perm (T := (bo, blk (bys (out0F v st xs)) 5) :: (b35, blk [.func (.func 27) #[] #[.pointer (some ⟨b34, 0, none⟩), .pointer (some ⟨b7, 0, none⟩)]] 73) :: (b34, blk [.slice (some ⟨bo, 0, none⟩) (NF v xs) (NF v xs)] 23) :: (bf, blk (u32s (chF v st xs).table) 67) :: (b25, blk [.slice (some ⟨bf, 0, none⟩) (ftF v xs * perF v) (ftF v xs * perF v)] 22) :: (g24, blk (nats (plF v st xs) ++ r24) 3) :: (b7, blk [nv (sizeF v)] 3) :: (g29, blk (nats (chF v st xs).outs ++ r29) 3) :: (g33, blk (nats (mchF v st xs).outs ++ r33) 3) :: (b30, blk (u32s (mchF v st xs).table) 67) :: (bl, blk (nms ns ++ rl) 43) :: (nmsH ns ++ F)) prm_) ?_
 rw [← hchl.1, show (csF v xs).sum + ftF v xs = (plF v st xs).length from (length_plF hxs).symm]
 refine write_E (by intro _ _ _ _ _ h; exact h) b7 g24 c24 bf b25 b34 b35 bo (sizeF v) (perF v) (ftF v xs) (NF v xs) (TF v xs) (plF v st xs) (chF v st xs).table r24 (out0F v st xs) hsz hper (pl_lt hxs) hl24 (by rw [length_plF hxs]; unfold TF; omega) om_ (by rw [hchl.1]; omega) hchm.1 om_ rfl hNF.1 (length_out0F hxs) ?_
 refine CW_heap (Prm.perm (T := (bo, blk (bys (out1F v st xs)) 5) :: (b35, blk [.func (.func 27) #[] #[.pointer (some ⟨b34, 0, none⟩), .pointer (some ⟨b7, 0, none⟩)]] 73) :: (b34, blk [.slice (some ⟨bo, 0, none⟩) (NF v xs) (NF v xs)] 23) :: (bf, blk (u32s (chF v st xs).table) 67) :: (b25, blk [.slice (some ⟨bf, 0, none⟩) (chF v st xs).table.length (chF v st xs).table.length] 22) :: (b30, blk (u32s (mchF v st xs).table) 67) :: (g29, blk (nats (chF v st xs).outs ++ r29) 3) :: (b7, blk [nv (sizeF v)] 3) :: (g24, blk (nats (plF v st xs) ++ r24) 3) :: (g33, blk (nats (mchF v st xs).outs ++ r33) 3) :: (bl, blk (nms ns ++ rl) 43) :: (nmsH ns ++ F)) prm_) ?_
 rw [← hmchl.1]
 refine write_F (by intro _ _ _ _ _ h; exact h) b7 g29 (ns.length + 3) c29 b30 bf b25 b34 b35 bo (sizeF v) (NF v xs) (TF v xs) (chF v st xs).outs (mchF v st xs).table (chF v st xs).table r29 (out1F v st xs) hsz om_ om_ (le_getD hsb om_) om_ hmchm.1 hchm.1 om_ (by rw [hchl.1]; omega) rfl (length_out1F hxs) (fun k hk => fill1_ok hxs (by rw [length_tabF]; exact hk)) ?_
 refine CW_heap (Prm.perm (T := (b7, blk [nv (sizeF v)] 3) :: (bo, blk (bys (out2F v st xs)) 5) :: (b35, blk [.func (.func 27) #[] #[.pointer (some ⟨b34, 0, none⟩), .pointer (some ⟨b7, 0, none⟩)]] 73) :: (b34, blk [.slice (some ⟨bo, 0, none⟩) (NF v xs) (NF v xs)] 23) :: (bf, blk (u32s (chF v st xs).table) 67) :: (b25, blk [.slice (some ⟨bf, 0, none⟩) (chF v st xs).table.length (chF v st xs).table.length] 22) :: (b30, blk (u32s (mchF v st xs).table) 67) :: (g29, blk (nats (chF v st xs).outs ++ r29) 3) :: (g24, blk (nats (plF v st xs) ++ r24) 3) :: (g33, blk (nats (mchF v st xs).outs ++ r33) 3) :: (bl, blk (nms ns ++ rl) 43) :: (nmsH ns ++ F)) prm_) ?_
 refine write_G (by intro _ _ _ _ _ h; exact h) b7 (sizeF v) (miF xs) (dsF v xs) hsz om_ om_ ?_
 intro b44 b45
 refine CW_heap (Prm.perm (T := (b45, blk (bys (dirTo (dsF v xs * sizeF v / 128) (List.replicate (dsF v xs * sizeF v) 0))) 5) :: (b44, blk (bys (List.replicate (64 * miF xs) 0)) 5) :: (bo, blk (bys (out2F v st xs)) 5) :: (g29, blk (nats (chF v st xs).outs ++ r29) 3) :: (g33, blk (nats (mchF v st xs).outs ++ r33) 3) :: (b35, blk [.func (.func 27) #[] #[.pointer (some ⟨b34, 0, none⟩), .pointer (some ⟨b7, 0, none⟩)]] 73) :: (b34, blk [.slice (some ⟨bo, 0, none⟩) (NF v xs) (NF v xs)] 23) :: (bf, blk (u32s (chF v st xs).table) 67) :: (b25, blk [.slice (some ⟨bf, 0, none⟩) (chF v st xs).table.length (chF v st xs).table.length] 22) :: (b7, blk [nv (sizeF v)] 3) :: (b30, blk (u32s (mchF v st xs).table) 67) :: (bl, blk (nms ns ++ rl) 43) :: ((g24, blk (nats (plF v st xs) ++ r24) 3) :: (nmsH ns ++ F))) prm_) ?_
 refine CW_heap (perm_in2 [(b45, _), (b44, _), (bo, _), (g29, _), (g33, _), (b35, _), (b34, _), (bf, _), (b25, _), (b7, _), (b30, _), (bl, _)] (g24, blk (nats (plF v st xs) ++ r24) 3) (nmsH ns) F) ?_
 have hxk : ∀ k, k < ns.length → xs.getD k default = (ns.getD k default).nd := fun k hk => by rw [hxe]; exact nd_at ns k hk
 refine write_L (F := (g24, blk (nats (plF v st xs) ++ r24) 3) :: F) (by intro _ _ _ _ _ h; exact h) b7 g29 (ns.length + 3) c29 b30 bf b25 b34 b35 bo g33 ns.length c33 b44 b45 bl cl (sizeF v) (NF v xs) (TF v xs) (miF xs) (64 * miF xs) (dsF v xs * sizeF v) ns rl (chF v st xs).outs (mchF v st xs).outs (mchF v st xs).table (chF v st xs).table r29 r33 (dirTo (dsF v xs * sizeF v / 128) (List.replicate (dsF v xs * sizeF v) 0)) (List.replicate (64 * miF xs) 0) (out2F v st xs)
  hok om_ hsz om_ om_ om_ om_ hsb hmsb om_ hmchm.1 hchm.1 om_ (by rw [hchl.1]; omega) rfl (length_out2F hxs) rfl om_ (by simp) (by rw [hmchl.1]; omega) (by rw [length_dirTo _ _ (by simp; omega)]; simp) om_ om_
  (fun k hk _ hs hl j hj => by rw [← hxk k hk] at hs hl hj; exact node1_ok hxs om_ hs hl hj) (fun k hk _ hs hl j hj => by rw [← hxk k hk] at hs hl hj; exact node2_ok hxs om_ hs hl hj) ?_
 rw [← hxe, ← hlen]
 have hnm : ∀ x ∈ xs, x.name.length ≤ 31 := by
  intro x hx
  rw [hxe] at hx
  obtain ⟨y, hy, rfl⟩ := List.mem_map.1 hx
  exact (hok y hy).name
 obtain ⟨hq1, hq2, hq3⟩ := nodesTo_len (v := v) (st := st) hxs hnm xs.length (Nat.le_refl _) (ndsF v st xs) rfl
 refine CW_heap (Prm.perm (T := (b45, blk (bys (ndsF v st xs).1) 5) :: (b44, blk (bys (ndsF v st xs).2.1) 5) :: (bo, blk (bys (ndsF v st xs).2.2) 5) :: (g29, blk (nats (chF v st xs).outs ++ r29) 3) :: (b35, blk [.func (.func 27) #[] #[.pointer (some ⟨b34, 0, none⟩), .pointer (some ⟨b7, 0, none⟩)]] 73) :: (b34, blk [.slice (some ⟨bo, 0, none⟩) (NF v xs) (NF v xs)] 23) :: (bf, blk (u32s (chF v st xs).table) 67) :: (b25, blk [.slice (some ⟨bf, 0, none⟩) (chF v st xs).table.length (chF v st xs).table.length] 22) :: (b7, blk [nv (sizeF v)] 3) :: (g33, blk (nats (mchF v st xs).outs ++ r33) 3) :: (b30, blk (u32s (mchF v st xs).table) 67) :: (bl, blk (nms ns ++ rl) 43) :: (nmsH ns ++ ((g24, blk (nats (plF v st xs) ++ r24) 3) :: F))) prm_) ?_
 refine write_M (by intro _ _ _ _ _ h; exact h) b7 g29 (xs.length + 3) c29 bf b25 b34 b35 bo b44 b45 (sizeF v) (NF v xs) (TF v xs) (64 * miF xs) (dsF v xs * sizeF v) (chF v st xs).outs (chF v st xs).table r29 (ndsF v st xs).1 (ndsF v st xs).2.1 (ndsF v st xs).2.2 hsz om_ om_ hsb hchm.1 om_ (by rw [hchl.1]; omega) rfl hq3 hq2 hq1 om_ om_
  (fun j hj => ch_walk_lt hxs om_ (by rw [cs_2, lt_partsF om_]; omega)) (fun j hj => ch_walk_lt hxs om_ (by rw [cs_0]; exact Nat.lt_of_mul_lt_mul_right hj)) ?_
 refine QW_dropB (e := (g33, _)) rem_ ?_
 refine QW_dropB (e := (b30, _)) rem_ ?_
 refine QW_heap (perm_in2 [(bo, _), (bl, _)] (g24, blk (nats (plF v st xs) ++ r24) 3) (nmsH ns) F).symm ?_
 refine QW_dropB (e := (g24, _)) rem_ ?_
 exact QW_ret1 rfl rfl ((bo, blk (bys (writeF v st xs)) 5) :: (bl, blk (nms ns ++ rl) 43) :: nmsH ns) ⟨bo, rfl, rfl⟩ (Prm.nil _)

section
variable {P : Program} {L : Fra} {dst : Option Tmp} {ty : TypeId} {pos : String} {aft : Array Edge} {gd : Option (Nat × Bool)}
theorem Yl_rune {x : Operand} {n : Nat} {t u : TypeId} (hx : ev L x = some (.int .i32 (n : Int))) (ht : inOf P t = some .i32) (hu : isStr P u = true) (hn : n < 128) :
    Yl P L ⟨dst, .convert t u x, ty, pos, aft, gd⟩ (.string (bar [UInt8.ofNat n])) := by
  intro _ a w hf
  have h1 := inOf_u ht
  have h2 := isStr_u hu
  have h3 := encode_small n hn
  simp only [Int.ofNat_eq_natCast] at h3
  simp [execOp, hf.eval hx, convert, underlying, h1, h2, Conv.intToString, h3]
  rfl
theorem Yl_concatB {x y : Operand} {a b : List UInt8} {t u : TypeId} (hx : ev L x = some (.string (bar a))) (hy : ev L y = some (.string (bar b))) (hs : a.length + b.length ≤ 1000000) :
    Yl P L ⟨dst, .binOp .add t x y u, ty, pos, aft, gd⟩ (.string (bar (a ++ b))) := by
  have h := Yl_concat (P := P) (dst := dst) (ty := ty) (pos := pos) (aft := aft) (gd := gd) (t := t) (u := u) hx hy (by simp [bar, ByteArray.size]; omega)
  have e : bar a ++ bar b = bar (a ++ b) := by
    apply ByteArray.ext
    simp [bar]
  rw [e] at h; exact h
end
structure PsOk (ps : List Value) : Prop where
  cap : ∀ c, 65 ≤ c → c ≤ 90 → ps[c]? = some (.int .u8 160)
  ctl : ∀ c, 1 ≤ c → c ≤ 31 → ps[c]? = some (.int .u8 1)
theorem and_160 : ∀ w, (Op.intBits .and .u8 160 128).run Tryd.prog w = .ok (.int .u8 128) w := by
  intro w
  simp [Op.intBits]
  rfl
theorem and_1 : ∀ w, (Op.intBits .and .u8 1 128).run Tryd.prog w = .ok (.int .u8 0) w := by
  intro w
  simp [Op.intBits]
  rfl
theorem nmOk_cap {ps : List Value} (hp : PsOk ps) {x : Nd} (h1 : 1 ≤ x.name.length) (h2 : x.name.length ≤ 31) (h3 : ∀ c ∈ x.name, c.toNat < 128) (h4 : 65 ≤ (x.name.getD 0 0).toNat ∧ (x.name.getD 0 0).toNat ≤ 90) : NmOk ps x x.name :=
  ⟨h1, h2, h3, 160, 128, hp.cap _ h4.1 h4.2, and_160, by simp⟩
theorem nmOk_ctl {ps : List Value} (hp : PsOk ps) {x : Nd} (h1 : 1 ≤ x.name.length) (h2 : x.name.length ≤ 31) (h3 : ∀ c ∈ x.name, c.toNat < 128) (h4 : 1 ≤ (x.name.getD 0 0).toNat ∧ (x.name.getD 0 0).toNat ≤ 31) : NmOk ps x (x.name.drop 1) :=
  ⟨h1, h2, h3, 1, 0, hp.ctl _ h4.1 h4.2, and_1, by simp⟩
def plainNd (name : List UInt8) (l r c : Int) : Nd := ⟨name, false, [], l, r, c, List.replicate 16 0, List.replicate 4 0, 0, 0, by simp, by simp⟩
def plainNm (name : List UInt8) (l r c : Int) : Nm := ⟨plainNd name l r c, none, 0, []⟩
theorem plainNm_ok {name : List UInt8} {l r c : Int} (hn : name.length ≤ 31) (hl : -1 ≤ l ∧ l ≤ 100000) (hr : -1 ≤ r ∧ r ≤ 100000) (hc : -1 ≤ c ∧ c ≤ 100000) : (plainNm name l r c).ok :=
  ⟨fun _ => rfl, by simp [plainNm, plainNd], by simp [plainNm, plainNd], hn, hl, hr, hc, by simp [plainNm, plainNd], by simp [plainNm, plainNd]⟩
def verF (four : Bool) : Nat := if four = true then 4 else 3
theorem verF_or (four : Bool) : verF four = 3 ∨ verF four = 4 := by cases four <;> simp [verF]
theorem Entries_good {ps : List Value} {T : TypeId} {four : Bool} {st : Nat} {xs : List Nd} {nmF : Nat → List UInt8} (hx : Ok xs) (hnm : ∀ k, k < xs.length → NmOk ps (xs.getD k default) (nmF k)) (hlk : ∀ x ∈ xs, x.left ≤ 4294967295 ∧ x.right ≤ 4294967295 ∧ x.child ≤ 4294967295) (hN : NF (verF four) xs ≤ 131072) (gI : Nat) (hg : 2 ≠ gI)
    (hb : (STv (tnsF (verF four) xs nmF)).bad = false) :
    Ct Tryd.prog 18 [.slice (some ⟨gI, 0, none⟩) (NF (verF four) xs) (NF (verF four) xs)] [(gI, blk (bys (writeF (verF four) st xs)) 5), (2, blk ps T)] (fun v q => ∃ (fs : List Fil) (pth : Nat → List (List UInt8)) (out : List Nat) (g : Option Nat) (cap : Nat) (r : List Value) (rows : List (List Value)) (pp : Heap), pth = (STv (tnsF (verF four) xs nmF)).pth ∧ out = (STv (tnsF (verF four) xs nmF)).out ∧ fs.map (fun f => f.en.noPath) = (esF (verF four) st xs nmF).map En.noPath ∧ RowsOk fs pth pp out rows ∧ oOk g rows.flatten r out.length cap 27 ∧ v = .tuple #[osl g out.length cap, nv 0] ∧ q = (gI, blk (bys (writeF (verF four) st xs)) 5) :: (2, blk ps T) :: (oH g (rows.flatten ++ r) 41 ++ pp)) := by
  have hf := fileIn (v := verF four) (st := st) ps hx (verF_or four) hnm hlk
  have hd := dsF_le (v := verF four) hx
  have hs := size_ge (verF four)
  have hz : sizeF (verF four) / 128 * 128 = sizeF (verF four) := by rcases sizeF_or (verF four) with e | e <;> rw [e]
  have hcn : (tnsF (verF four) xs nmF).length ≤ 100000 := by
    have : dsF (verF four) xs * (sizeF (verF four) / 128) ≤ 5 * 32 := Nat.mul_le_mul hd.2.1 om_
    simp [tnsF, cntF]; omega
  have h := Entries_ok gI (NF (verF four) xs) [] _ _ _ _ _ _ _ _ _ _ _ ps T _ _ _ _ hf hN hg hb ?_ (pth_small _ hcn) (out_small _ hcn)
  · rw [List.append_nil] at h; exact h
  intro e he
  obtain ⟨k, hk, rfl⟩ := List.mem_map.1 he
  have hk' := List.mem_range.1 hk
  have hpos : 0 < sizeF (verF four) / 128 := by omega
  have hj : k / (sizeF (verF four) / 128) < dsF (verF four) xs := (Nat.div_lt_iff_lt_mul hpos).2 hk'
  have hi : k % (sizeF (verF four) / 128) < sizeF (verF four) / 128 := Nat.mod_lt _ hpos
  have hkk : k / (sizeF (verF four) / 128) * (sizeF (verF four) / 128) + k % (sizeF (verF four) / 128) = k := by rw [Nat.mul_comm]; exact Nat.div_add_mod _ _
  have h1 := enF_ok (st := st) ps hx hnm hj hi
  rw [hkk] at h1
  refine h1.dcOk ?_ ?_
  · have hl := (nTo_len (v := verF four) (st := st) hx (nds_at ps hx hnm) (Nat.le_refl _)).1
    rw [nTo_all] at hl
    have hle : k / (sizeF (verF four) / 128) * sizeF (verF four) + sizeF (verF four) ≤ dsF (verF four) xs * sizeF (verF four) := by rw [← Nat.succ_mul]; exact Nat.mul_le_mul_right _ hj
    unfold dsecF
    simp [hl]; omega
  unfold enF
  split
  · have := ((xs.getD k default).name.getD 0 0).toNat_lt
    simp only; omega
  simp

theorem Ct.ne {P : Program} {f : FuncId} {args : List Value} {a b : Nat} {x y : Obj} {r : Heap} {R : Value → Heap → Prop} (h : b ≠ a → Ct P f args ((a, x) :: (b, y) :: r) R) : Ct P f args ((a, x) :: (b, y) :: r) R := by
  intro E F w hh
  refine h ?_ E F w hh
  have := hh.nodup
  simp only [List.cons_append, List.map_cons, List.nodup_cons, List.mem_cons] at this
  intro e
  exact this.1 (.inl e.symm)
theorem Ct.less {P : Program} {f : FuncId} {args : List Value} {pre : Heap} {R R' : Value → Heap → Prop} (h : Ct P f args pre R) (hr : ∀ v post, R v post → ∃ post', R' v post' ∧ post'.Sublist post) : Ct P f args pre R' := by
  intro E F w hh
  refine (h E F w hh).mono ?_
  rintro e w' ⟨v, post, he, hR, ha⟩
  obtain ⟨post', h1, h2⟩ := hr v post hR
  exact ⟨v, post', he, h1, ha.sub (h2.append_right F)⟩
theorem NF_few {v : Nat} {xs : List Nd} (h : Ok xs) : NF v xs ≤ 4096 * (2 + 2 * (csF v xs).sum) := by
  have hf : ftF v xs ≤ (csF v xs).sum + 1 := (fatsF_ok (sum := (csF v xs).sum) (per := perF v) (by have := per4 v; have := size_ge v; omega)).2.2
  have hs := size_ge v
  unfold NF TF
  exact Nat.mul_le_mul hs.2 om_
theorem cnt_le {v : Nat} {xs : List Nd} (h : Ok xs) : xs.length ≤ cntF v xs ∧ cntF v xs ≤ 32 := by
  have hl := h.len
  have hd := dsF_le (v := v) h
  unfold cntF dsF partsF
  rcases sizeF_or v with e | e <;> rw [e] <;> omega
/-! ### FnLoop -/
theorem tns_len (v : Nat) (xs : List Nd) (nmF : Nat → List UInt8) : (tnsF v xs nmF).length = cntF v xs := by simp [tnsF]

end Go.Proofs.YtgoddcicbpjknaaDoor

set_option maxRecDepth 100000
namespace Go.Proofs.YtgoddcicbpjknaaDoor
open Go
open Cfb
open Go.RowKit
def others (W : World) (ks : List Nat) : Heap := (List.range W.heap.size).filterMap fun i => if ks.contains i then none else (W.heap[i]?).map fun o => (i, o)
theorem others_mem {W : World} {ks : List Nat} {p : Nat × Obj} (h : p ∈ others W ks) : p.1 ∉ ks ∧ W.heap[p.1]? = some p.2 := by
  unfold others at h
  obtain ⟨i, _, hi⟩ := List.mem_filterMap.1 h
  split at hi
  · cases hi
  rename_i hc
  simp only [Option.map_eq_some_iff] at hi
  obtain ⟨o, ho, rfl⟩ := hi
  exact ⟨by simpa using hc, ho⟩
theorem others_has {W : World} {ks : List Nat} {i : Nat} {o : Obj} (hk : i ∉ ks) (ho : W.heap[i]? = some o) : (i, o) ∈ others W ks := by
  unfold others
  refine List.mem_filterMap.2 ⟨i, List.mem_range.2 ?_, ?_⟩
  · rcases Nat.lt_or_ge i W.heap.size with h | h
    · exact h
    rw [Array.getElem?_eq_none h] at ho; cases ho
  rw [if_neg (by simpa using hk), ho]; rfl
theorem others_sub (W : World) (ks : List Nat) : ∀ l : List Nat, ((l.filterMap fun i => if ks.contains i then none else (W.heap[i]?).map fun o => (i, o)).map Prod.fst).Sublist l := by
  intro l
  induction l with
  | nil => exact .slnil
  | cons i r ih =>
    rw [List.filterMap_cons]
    split
    · exact ih.cons i
    rename_i p hp
    have hpi : p.1 = i := by
      split at hp
      · cases hp
      simp only [Option.map_eq_some_iff] at hp
      obtain ⟨o, _, rfl⟩ := hp
      rfl
    rw [List.map_cons, hpi]
    exact ih.cons_cons i
theorem others_nodup (W : World) (ks : List Nat) : ((others W ks).map Prod.fst).Nodup := List.nodup_range.sublist (others_sub W ks _)
theorem HA.start {W : World} {pre : Heap} (hm : ∀ p ∈ pre, W.heap[p.1]? = some p.2) (hn : (pre.map Prod.fst).Nodup) : HA W W (pre ++ others W (pre.map Prod.fst)) := by
  refine ⟨rfl, rfl, rfl, ?_, ?_, Nat.le_refl _, ?_⟩
  · rw [List.map_append, List.nodup_append]
    refine ⟨hn, others_nodup _ _, ?_⟩
    intro a ha b hb e
    subst e
    obtain ⟨p, hp, rfl⟩ := List.mem_map.1 hb
    exact (others_mem hp).1 ha
  · intro p hp
    rcases List.mem_append.1 hp with h | h
    · exact hm p h
    exact (others_mem h).2
  intro b o hb ho
  rw [Array.getElem?_eq_none hb] at ho; cases ho
theorem HA.old {W w' : World} {pre : Heap} (hm : ∀ p ∈ pre, W.heap[p.1]? = some p.2) (h : HA W w' (pre ++ others W (pre.map Prod.fst))) {i : Nat} (hi : i < W.heap.size) : w'.heap[i]? = W.heap[i]? := by
  have ho : W.heap[i]? = some W.heap[i] := Array.getElem?_eq_getElem hi
  by_cases hk : i ∈ pre.map Prod.fst
  · obtain ⟨p, hp, rfl⟩ := List.mem_map.1 hk
    rw [h.mem p (List.mem_append_left _ hp), hm p hp]
  have := h.mem (i, W.heap[i]) (List.mem_append_right _ (others_has hk ho))
  rw [this, ho]
theorem HA.grown {W w' : World} {pre : Heap} (hm : ∀ p ∈ pre, W.heap[p.1]? = some p.2) (h : HA W w' (pre ++ others W (pre.map Prod.fst))) : Grown W w' := by
  refine ⟨⟨h.os, h.output, fun i hi => ?_⟩, fun a => ?_, h.size⟩
  · rw [h.old hm hi]
    cases hq : W.heap[i]? with
    | none => rfl
    | some o => cases o <;> first | exact ⟨rfl, rfl, rfl, fun _ _ => rfl⟩ | exact Or.inr ⟨rfl, rfl⟩ | rfl
  unfold World.frozen?
  rcases Nat.lt_or_ge a.block W.heap.size with hl | hl
  · rw [h.old hm hl]
  rw [Array.getElem?_eq_none hl]
  cases hq : w'.heap[a.block]? with
  | none => rfl
  | some o =>
    have hf := h.fresh _ _ hl hq
    cases o with
    | cells cs T fz =>
      obtain ⟨lo, hi⟩ := fz
      simp only [freeO, Bool.and_eq_true] at hf
      have e1 := Nat.eq_of_beq_eq_true hf.1
      have e2 := Nat.eq_of_beq_eq_true hf.2
      subst e1; subst e2
      simp
    | _ => rfl
theorem own : ownKnob Tryd.prog.godebug = none := by kernel_rfl
theorem gProps : Tryd.prog.globalNamed "unicode.properties" = some 2 := by kernel_rfl
theorem gPropsT : (Tryd.prog.globals[2]?).map (·.type) = some 162 := by kernel_rfl
theorem cells5 : Tryd.prog.cellsOf 5 = 1 := by kernel_rfl
theorem cells162 : Tryd.prog.cellsOf 162 = 256 := by kernel_rfl
end Go.Proofs.YtgoddcicbpjknaaDoor

set_option maxRecDepth 100000
namespace Go.Proofs.YtgoddcicbpjknaaDoor
open Go
open Cfb
open Go.ChangeShapes Go.WideShapes Go.ChangeAt Go.RowKit
def propOf : DataW Unit → Int
  | .lit (.int _ n) => n
  | _ => 0
def propsOf : DataW Unit → List Int
  | .agg l => l.map propOf
  | _ => []
def props : List Int := propsOf Rows.laid_unicode_properties
theorem props_eq : (Rows.laid_unicode_properties : DataW Unit) = Lib.tabData .u8 props := by kernel_rfl
abbrev propsV : List Value := props.map fun z => Value.int .u8 z
theorem props_cap : ((List.range 26).all fun i => decide (props[65 + i]? = some 160)) = true := by kernel_rfl
theorem props_ctl : ((List.range 31).all fun i => decide (props[1 + i]? = some 1)) = true := by kernel_rfl
theorem propsV_ok : PsOk propsV := by
  refine ⟨fun c h1 h2 => ?_, fun c h1 h2 => ?_⟩
  · have := List.all_eq_true.1 props_cap (c - 65) (List.mem_range.2 om_)
    rw [show 65 + (c - 65) = c by omega] at this
    rw [List.getElem?_map, of_decide_eq_true this]; rfl
  have := List.all_eq_true.1 props_ctl (c - 1) (List.mem_range.2 om_)
  rw [show 1 + (c - 1) = c by omega] at this
  rw [List.getElem?_map, of_decide_eq_true this]; rfl
theorem row2 : (((begin Tryd.prog (fun _ _ => 0) default).world.heap[2]?).bind Obj.row?).isSome = true := by kernel_rfl
theorem two_lt : 2 < Tryd.prog.globals.size := by
  have : Nat.blt 2 Tryd.prog.globals.size = true := by kernel_rfl
  exact Nat.le_of_ble_eq_true this
theorem props_tab {W : World} (h : laidMetH Tryd.prog [("unicode.properties", Rows.laid_unicode_properties)] W) : Lib.TabIs Tryd.prog W "unicode.properties" .u8 props := by
  have h1 : laidMet Tryd.prog [("unicode.properties", Rows.laid_unicode_properties)] W := h
  rw [props_eq] at h1
  have hu : Tryd.prog.underlying 162 = some (.array 256 5) := by kernel_rfl
  exact Lib.tabIs_of_head (rest := []) gProps gPropsT hu (inOf_u in_5) cells5 cells162 h1
theorem tab_block {W : World} (h : Lib.TabIs Tryd.prog W "unicode.properties" .u8 props) (hS : W.ShapedOpen Tryd.prog) : ∃ T, W.heap[2]? = some (blk propsV T) := by
  obtain ⟨⟨zero, t⟩, hr⟩ := Option.isSome_iff_exists.1 row2
  obtain ⟨cs, hc, _, _⟩ := hS.1 2 zero t two_lt hr
  refine ⟨t, ?_⟩
  rw [hc]
  have : cs = propsV.toArray := by
    apply Array.ext_getElem?
    intro i
    have h1 := World.var?_cell gProps h i
    have h2 : W.cell? ⟨2, i, none⟩ = cs[i]? := by simp [World.cell?, hc]
    rw [← h2, h1]
  rw [this]
end Go.Proofs.YtgoddcicbpjknaaDoor

set_option maxRecDepth 100000
namespace Go.Proofs.YtgoddcicbpjknaaDoor
open Go
open Cfb
open Go.ChangeShapes Go.WideShapes Go.ChangeAt Go.RowKit
theorem laidOut : laidOutB Tryd.prog = true := by kernel_rfl
theorem HA.below {W w' : World} {pre : Heap} (hm : ∀ p ∈ pre, W.heap[p.1]? = some p.2) (h : HA W w' (pre ++ others W (pre.map Prod.fst))) : Below W.heap.size W w' := ⟨h.os, h.tape, h.output, h.size, fun _ hk => h.old hm hk⟩
theorem Ct.rowB {P : Program} {f : FuncId} {args : List Value} {pre : Heap} {v : Value} (h : Ct P f args pre (fun u q => u = v ∧ q = pre)) {W : World} (hm : ∀ p ∈ pre, W.heap[p.1]? = some p.2) (hn : (pre.map Prod.fst).Nodup) :
    Calls P f args.toArray W fun e w' => e = .returned v ∧ Grown W w' ∧ Below W.heap.size W w' := by
  refine (h W _ W (HA.start hm hn)).mono ?_
  rintro e w' ⟨u, post, he, ⟨rfl, rfl⟩, ha⟩
  exact ⟨he, ha.grown hm, ha.below hm⟩
theorem trodAll_again {H : Type} {enc : TypeId × Value → H} {W W' : World} (hb : Below W.heap.size W W') : ∀ (ts : List TypeId) (vs : List Value) (ds : List (DataW H)) (ps : List MemPlace), DataW.TrodAll enc Tryd.prog W 0 (fun _ => true) true ts vs ds ps →
    (ts.all fun t => Tryd.prog.readableRec t && Nat.blt t Tryd.prog.types.size) = true → (∀ x ∈ ps, x.block < W.heap.size) → DataW.TrodAll enc Tryd.prog W' 0 (fun b => decide (b < W.heap.size)) true ts vs ds ps := by
  intro ts
  induction ts with
  | nil =>
    intro vs ds ps h _ _
    obtain ⟨rfl, rfl, rfl⟩ := trodAll_nil h
    exact trodAll_mk0
  | cons t r ih =>
    intro vs ds ps h hc hl
    obtain ⟨v0, vs0, d0, ds0, p0, q0, rfl, rfl, rfl, h0, r0⟩ := trodAll_cons h
    simp only [List.all_cons, Bool.and_eq_true] at hc
    obtain ⟨⟨c1, c2⟩, c3⟩ := hc
    exact trodAll_cons_mk (Below.trod laidOut c1 (by simpa [Nat.blt_eq] using c2) h0 hb (fun x hx => hl x (List.mem_append_left _ hx))) (ih vs0 ds0 q0 r0 c3 (fun x hx => hl x (List.mem_append_right _ hx)))
theorem open_bytes {H : Type} {enc : TypeId × Value → H} {W : World} {base : Nat} {v : Value} {d : DataW H} {ps : List MemPlace} (hval : Value.okWide Tryd.prog W .any base 23 v) (h : DataW.Trod enc Tryd.prog W 0 (fun _ => true) true 23 v d ps) :
    ∃ p n c, v = .slice p n c ∧ n ≤ c ∧ (n = 0 ∨ ∃ b off l T fz, ∃ bs : List UInt8, p = some ⟨b, off, none⟩ ∧ W.heap[b]? = some (Obj.cells l T fz) ∧ bs.length = n ∧ ∀ i, i < n → l[off + i]? = some (bv (bs.getD i 0))) := by
  obtain ⟨fuel, hf⟩ := h
  obtain ⟨a0, n, c, rfl⟩ := okWide_slice (e := 5) (slOf_u sl_23).choose_spec.1 hval
  have hu23 : Tryd.prog.underlying 23 = some (.slice 5) := (slOf_u sl_23).choose_spec.1
  rcases open_ints hu23 (inOf_u in_5) cells5 hf with ⟨hcs, hx⟩ | ⟨a, len', cap', zs, hcs, _, hl, hm, hz, hx, hcell, hwz⟩
  · simp [Value.cells] at hcs
    obtain ⟨rfl, rfl, rfl⟩ := hcs
    exact ⟨_, _, _, rfl, Nat.le_refl _, .inl rfl⟩
  simp [Value.cells] at hcs
  obtain ⟨rfl, rfl, rfl⟩ := hcs
  refine ⟨_, _, _, rfl, hl, ?_⟩
  simp only [if_true] at hz
  rcases Nat.eq_zero_or_pos n with h0 | h0
  · exact .inl h0
  right
  have hzn : n ≤ zs.length := by omega
  have h1 := hcell 0 om_
  obtain ⟨b, off, x⟩ := a
  cases x with
  | some y =>
    exfalso
    simp [World.cell?, Addr.add] at h1
    split at h1 <;> cases h1
  | none =>
    have key : ∀ i, i < zs.length → W.cell? ⟨b, off + i, none⟩ = some (.int .u8 (zs.getD i 0)) := fun i hi => by have := hcell i hi; rw [Addr_add] at this; exact this
    have k0 := key 0 om_
    cases hq : W.heap[b]? with
    | none => simp [World.cell?, hq] at k0
    | some o =>
      cases o with
      | cells l T fz =>
        refine ⟨b, off, l, T, fz, (zs.take n).map fun z => UInt8.ofNat z.toNat, rfl, hq, by simp; omega, ?_⟩
        intro i hi
        have h2 := key i om_
        have h3 : l[off + i]? = some (.int .u8 (zs.getD i 0)) := by simpa [World.cell?, hq] using h2
        rw [h3]
        have hz1 : zs.getD i 0 ∈ zs := by rw [List.getD_eq_getElem?_getD, List.getElem?_eq_getElem om_]; exact List.getElem_mem _
        have hw := hwz _ hz1
        have hb : 0 ≤ zs.getD i 0 ∧ zs.getD i 0 ≤ 255 := by simpa [Lit.wf, IntKind.min, IntKind.max, IntKind.signed, IntKind.bits] using hw
        have e1 : ((zs.take n).map fun z => UInt8.ofNat z.toNat).getD i 0 = UInt8.ofNat (zs.getD i 0).toNat := by
          simp [List.getD_eq_getElem?_getD, List.getElem?_take, hi, show i < zs.length by omega]
        rw [e1]
        unfold bv
        rw [UInt8.toNat_ofNat', Nat.mod_eq_of_lt om_]
        congr 2
        omega
      | _ => simp [World.cell?, hq] at k0
theorem u8_nat {a : Int} (w : (Lit.int .u8 a).wf = true) : ∃ n : Nat, a = (n : Int) ∧ n ≤ 255 := by
  have h : 0 ≤ a ∧ a ≤ 255 := by simpa [Lit.wf, IntKind.min, IntKind.max, IntKind.signed, IntKind.bits] using w
  exact ⟨a.toNat, by omega, by omega⟩
end Go.Proofs.YtgoddcicbpjknaaDoor

namespace Go.Proofs.YtgoddcicbpjknaaDoor
open Go
open Cfb

def txt (l : List UInt8) : List UInt8 := l.map fun b => UInt8.ofNat (65 + b.toNat % 26)
theorem txt_succ {l : List UInt8} {i : Nat} (h : i < l.length) : txt (l.take (i + 1)) = txt (l.take i) ++ [UInt8.ofNat (65 + (l.getD i 0).toNat % 26)] := by
  have e : l.getD i 0 = l[i] := by simp [List.getD_eq_getElem?_getD, h]
  rw [List.take_succ_eq_append_getElem h, e]
  unfold txt
  rw [List.map_append]
  rfl
def rootName : List UInt8 := [82, 111, 111, 116, 32, 69, 110, 116, 114, 121]
def inNd (fst : Nat) (t : List UInt8) : Nd := ⟨[UInt8.ofNat fst] ++ t, true, [1, 2, 3], -1, -1, -1, List.replicate 16 0, List.replicate 4 0, 0, 0, by simp, by simp⟩
def inNm (fst : Nat) (t : List UInt8) (b : Nat) : Nm := ⟨inNd fst t, some b, 3, []⟩
def inNs (fst : Nat) (t : List UInt8) (b : Nat) : List Nm := [plainNm rootName (-1) (-1) 1, inNm fst t b]
def inXs (fst : Nat) (t : List UInt8) : List Nd := [plainNd rootName (-1) (-1) 1, inNd fst t]
def inNames (t : List UInt8) (k : Nat) : List UInt8 := if k = 0 then rootName else t
section
variable {fst : Nat} {t : List UInt8} {b : Nat}
theorem inXs_ok : Ok (inXs fst t) := by
  refine ⟨by simp [inXs], ?_⟩
  intro x hx
  simp only [inXs, List.mem_cons, List.not_mem_nil, or_false] at hx
  rcases hx with rfl | rfl
  · simp [plainNd]
  simp [inNd]
theorem inNs_ok (ht : t.length ≤ 10) : ∀ x ∈ inNs fst t b, x.ok := by
  intro x hx
  simp only [inNs, List.mem_cons, List.not_mem_nil, or_false] at hx
  rcases hx with rfl | rfl
  · exact plainNm_ok (by simp [rootName]) om_ om_ om_
  exact ⟨fun h => (by cases h), by simp [inNm, inNd], by simp [inNm, inNd], by simp [inNm, inNd]; omega, by simp [inNm, inNd], by simp [inNm, inNd], by simp [inNm, inNd], by simp [inNm, inNd], by simp [inNm, inNd]⟩
theorem inNames_ok {ps : List Value} (hp : PsOk ps) (hf : 1 ≤ fst ∧ fst ≤ 31) (ht : t.length ≤ 10) (ht2 : ∀ c ∈ t, c.toNat < 128) : ∀ k, k < (inXs fst t).length → NmOk ps ((inXs fst t).getD k default) (inNames t k) := by
  intro k hk
  have hk2 : k < 2 := by simpa [inXs] using hk
  rcases Nat.lt_or_ge k 1 with h | h
  · obtain rfl : k = 0 := by omega
    refine nmOk_cap (x := plainNd rootName (-1) (-1) 1) hp (by simp [plainNd, rootName]) (by simp [plainNd, rootName]) ?_ (by simp [plainNd, rootName])
    intro c hc
    have : (rootName.all fun c => decide (c.toNat < 128)) = true := by decide
    simpa using List.all_eq_true.1 this c hc
  obtain rfl : k = 1 := by omega
  have e1 : (UInt8.ofNat fst).toNat = fst := by rw [UInt8.toNat_ofNat']; omega
  have := nmOk_ctl (x := inNd fst t) hp (by simp [inNd]) (by simp [inNd]; omega) ?_ (by simp [inNd, e1]; omega)
  · exact this
  intro c hc
  simp only [inNd, List.mem_append, List.mem_singleton] at hc
  rcases hc with rfl | hc
  · rw [e1]; omega
  exact ht2 c hc
theorem inXs_lnk : ∀ x ∈ inXs fst t, x.left ≤ 4294967295 ∧ x.right ≤ 4294967295 ∧ x.child ≤ 4294967295 := by
  intro x hx
  simp only [inXs, List.mem_cons, List.not_mem_nil, or_false] at hx
  rcases hx with rfl | rfl <;> simp [plainNd, inNd]
theorem inXs_size (v : Nat) : NF v (inXs fst t) ≤ 131072 := by
  have h := inXs_ok (fst := fst) (t := t)
  have h1 := NF_few (v := v) h
  have hz := size_ge v
  have hp := per4 v
  have e1 : miF (inXs fst t) = 1 := by
    have : smallF (inNd fst t) = 1 := by unfold smallF; rw [if_pos ⟨rfl, by simp [inNd]⟩]; show partsF 3 64 = 1; decide
    have h0 : smallF (plainNd rootName (-1) (-1) 1) = 0 := by unfold smallF; rw [if_neg (by simp [plainNd])]
    simp [miF, smF, inXs, this, h0]
  have e2 : (lgF v (inXs fst t)).sum = 0 := by
    have : largeF (sizeF v) (inNd fst t) = 0 := by unfold largeF; rw [if_neg (by simp [inNd])]
    have h0 : largeF (sizeF v) (plainNd rootName (-1) (-1) 1) = 0 := by unfold largeF; rw [if_neg (by simp [plainNd])]
    simp [lgF, inXs, this, h0]
  have e3 : ∀ n p, n ≤ p → partsF n p ≤ 1 := fun n p hn => by
    unfold partsF
    rcases Nat.eq_zero_or_pos p with rfl | hp
    · simp
    have : (n + p - 1) / p < 2 := (Nat.div_lt_iff_lt_mul hp).2 om_
    omega
  have e4 := cs_sum (v := v) h
  have e5 : dsF v (inXs fst t) ≤ 1 := e3 _ _ (by simp [inXs]; omega)
  have e6 : mfF v (inXs fst t) ≤ 1 := by unfold mfF; rw [e1]; exact e3 _ _ om_
  have e7 := e3 (miF (inXs fst t) * 64) (sizeF v) (by rw [e1]; omega)
  have := Nat.mul_le_mul_left 4096 (show 2 + 2 * (csF v (inXs fst t)).sum ≤ 8 by omega)
  omega
theorem inTn (v : Nat) {k : Nat} (hk : k < 2) : (tnsF v (inXs fst t) (inNames t)).getD k default = ⟨inNames t k, FREE, if k = 0 then 1 else FREE, FREE⟩ := by
  have hc := cnt_le (v := v) (inXs_ok (fst := fst) (t := t))
  have hl : (inXs fst t).length = 2 := rfl
  rw [show (tnsF v (inXs fst t) (inNames t)).getD k default = tnF (inXs fst t) (inNames t) k from range_getD _ om_]
  unfold tnF
  rw [if_pos om_]
  rcases Nat.lt_or_ge k 1 with h | h
  · obtain rfl : k = 0 := by omega
    rfl
  obtain rfl : k = 1 := by omega
  rfl
theorem inTrav (v : Nat) : (STv (tnsF v (inXs fst t) (inNames t))).bad = false ∧ (STv (tnsF v (inXs fst t) (inNames t))).out = [0, 1] := by
  have hc := cnt_le (v := v) (inXs_ok (fst := fst) (t := t))
  have hl : (inXs fst t).length = 2 := rfl
  have ht := tns_len v (inXs fst t) (inNames t)
  have t0 := inTn (fst := fst) (t := t) v (show 0 < 2 by omega)
  have t1 := inTn (fst := fst) (t := t) v (show 1 < 2 by omega)
  unfold STv
  obtain ⟨m, hm⟩ : ∃ m, (tnsF v (inXs fst t) (inNames t)).length + 1 = m + 2 := ⟨(tnsF v (inXs fst t) (inNames t)).length - 1, by omega⟩
  rw [hm]
  generalize tnsF v (inXs fst t) (inNames t) = es at *
  have n1 : ¬ (1 : Nat) = FREE := by decide
  rw [trav, if_neg (by show ¬ es.length < 0 + 1; omega), if_neg om_]
  unfold travS
  simp only [t0, if_true, if_neg n1]
  rw [trav, if_neg (by show ¬ es.length < 1 + 1; omega), if_neg om_]
  unfold travS
  simp only [t1, if_true, if_neg (show ¬ (1 : Nat) = 0 by omega)]
  exact ⟨rfl, rfl⟩
end
theorem RowsOk.two {fs : List Fil} {pth : Nat → List (List UInt8)} {pp : Heap} {a b : Nat} {rows : List (List Value)} (h : RowsOk fs pth pp [a, b] rows) : ∃ f0 f1 v0 v1, rows = [entC f0.en v0, entC f1.en v1] ∧ fs[a]? = some f0 ∧ fs[b]? = some f1 ∧ DcOk f0.en ∧ DcOk f1.en := by
  generalize ho : [a, b] = o at h
  cases h with
  | nil => cases ho
  | snoc h hf hd hp =>
    rename_i o' rows' k f v
    have e1 : [a] ++ [b] = o' ++ [k] := ho
    obtain ⟨h1, h2⟩ := List.append_inj' e1 rfl
    have e2 : b = k := by simpa using h2
    subst e2
    subst h1
    generalize ho2 : [a] = o2 at h
    cases h with
    | nil => cases ho2
    | snoc h2 hf2 hd2 hp2 =>
      rename_i o3 rows3 k3 f3 v3
      have e3 : [] ++ [a] = o3 ++ [k3] := ho2
      obtain ⟨h3, h4⟩ := List.append_inj' e3 rfl
      have e4 : a = k3 := by simpa using h4
      subst e4
      subst h3
      obtain rfl : rows3 = [] := List.eq_nil_of_length_eq_zero (by have := h2.len.2; simpa using this)
      exact ⟨f3, f, v3, v, rfl, hf2, hf, hd2, hd⟩
theorem Initial_entries {ps : List Value} {T : TypeId} {four : Bool} {fst : Nat} {t : List UInt8} (hp : PsOk ps) (hf : 1 ≤ fst ∧ fst ≤ 31) (ht : t.length ≤ 10) (ht2 : ∀ c ∈ t, c.toNat < 128) (gI : Nat) :
    Ct Tryd.prog 18 [.slice (some ⟨gI, 0, none⟩) (NF (verF four) (inXs fst t)) (NF (verF four) (inXs fst t))] [(gI, blk (bys (writeF (verF four) 0 (inXs fst t))) 5), (2, blk ps T)]
      (fun v q => ∃ go cap l, v = .tuple #[.slice (some ⟨go, 0, none⟩) 2 cap, nv 0] ∧ l[27]? = some (.string (bar t)) ∧ l[30]? = some (.int .i64 3) ∧ l[31]? = some (.int .i64 (fst : Int)) ∧ q = [(gI, blk (bys (writeF (verF four) 0 (inXs fst t))) 5), (2, blk ps T), (go, blk l 41)]) := by
  obtain ⟨b1, b2⟩ := inTrav (fst := fst) (t := t) (verF four)
  refine Ct.ne fun hg => (Entries_good inXs_ok (inNames_ok hp hf ht ht2) inXs_lnk (inXs_size _) gI hg b1).less ?_
  rintro v post ⟨fs, pth, out, g, cap, r, rows, pp, -, ho, hes, hr, hok, rfl, rfl⟩
  rw [b2] at ho
  subst ho
  obtain ⟨f0, f1, v0, v1, rfl, h0, h1, d0, d1⟩ := hr.two
  cases g with
  | none => exact absurd hok.1 (by simp)
  | some go =>
    refine ⟨_, ⟨go, cap, _, rfl, ?_, ?_, ?_, rfl⟩, .cons_cons _ (.cons_cons _ (.cons_cons _ (List.nil_sublist _)))⟩
    all_goals
      have hcn := cnt_le (v := verF four) (inXs_ok (fst := fst) (t := t))
      have hl : (inXs fst t).length = 2 := rfl
      have e1 : (esF (verF four) 0 (inXs fst t) (inNames t))[1]? = some (enF (verF four) 0 (inXs fst t) (inNames t) 1) := by
        unfold esF
        rw [List.getElem?_map, List.getElem?_range om_]; rfl
      have e2 := congrArg (fun l => l[1]?) hes
      simp only [List.getElem?_map, h1, e1, Option.map_some, Option.some.injEq] at e2
      have e3 : enF (verF four) 0 (inXs fst t) (inNames t) 1 = ⟨t, fst, .slice none 0 0, 3, 0, (enF (verF four) 0 (inXs fst t) (inNames t) 1).cur, 0, (enF (verF four) 0 (inXs fst t) (inNames t) 1).dc⟩ := by
        unfold enF
        rw [if_pos om_]
        have q1 : (((inXs fst t).getD 1 default).name.getD 0 0).toNat = fst := by
          show (UInt8.ofNat fst).toNat = fst
          rw [UInt8.toNat_ofNat']; omega
        have q2 : szOfN (inXs fst t) 1 = 3 := rfl
        rw [q1, q2]
        rfl
      have n1 : f1.en.nm = t := by have := congrArg En.nm e2; rw [e3] at this; exact this
      have n2 : f1.en.ini = fst := by have := congrArg En.ini e2; rw [e3] at this; exact this
      have n3 : f1.en.size = 3 := by have := congrArg En.size e2; rw [e3] at this; exact this
      have lr := length_entC d0 v0
      rw [List.flatten_cons, List.flatten_cons, List.flatten_nil, List.append_nil, List.append_assoc, List.getElem?_append_right om_, lr]
    · show (entC f1.en v1 ++ r)[0]? = _
      rw [← n1]; rfl
    · show (entC f1.en v1 ++ r)[3]? = _
      rw [← n3]; rfl
    show (entC f1.en v1 ++ r)[4]? = _
    rw [← n2]; rfl

theorem FnInitial_early (sg n cn : Nat) (p : Option Addr) (four : Bool) (hn : n = 0 ∨ 10 < n) :
  Ct Tryd.prog 4 [.int .u8 (sg : Int), .slice p n cn, .bool four] [] (fun v q => v = .bool true ∧ q = []) := by
 refine Ct_of Tryd.func4 rfl Tryd.ntmps4 rfl ?_
 intro E F
 simp only [numL, List.nil_append, List.cons_append]
 refine CW_sr ?_
 refine RW_a ?_
 refine RW_lv [0,1,2] ?_
 refine CW_seq ?_
 refine CW_sr ?_
 refine RW_m ?_
 refine RW_l (Yl_len rfl sl_23) ?_
 refine RW_l (Yl_gtr rfl rfl) ?_
 refine RW_lv [0,1,2,16] ?_
 refine CW_cd rfl (fun hc1 => ?_) (fun hc1 => ?_)
 ·refine CW_sr ?_
  refine RW_a ?_
  refine RW_lv [6] ?_
  refine CW_ret ?_
  refine QW_ret_then ?_
  exact QW_ret1 rfl rfl [] ⟨rfl, rfl⟩ (Prm.nil _)
 refine (CW_skip (QW_lv [0,1,2] ?_))
 refine CW_seq ?_
 refine CW_sr ?_
 refine RW_m ?_
 refine RW_l (Yl_len rfl sl_23) ?_
 refine RW_l (Yl_eql rfl rfl) ?_
 refine RW_m ?_
 refine RW_bool 20 rfl (fun hg2 => ?_) (fun hg2 => ?_)
 ·replace hg2 := of_decide_eq_true hg2
  refine RW_skip rfl rfl rfl ?_
  refine RW_skip rfl rfl rfl ?_
  refine RW_skip rfl rfl rfl ?_
  refine RW_l (Yl_pick_t rfl rfl) ?_
  refine RW_lv [0,1,2,24] ?_
  refine CW_true rfl ?_
  refine CW_sr ?_
  refine RW_a ?_
  refine RW_lv [6] ?_
  refine CW_ret ?_
  refine QW_ret_then ?_
  exact QW_ret1 rfl rfl [] ⟨rfl, rfl⟩ (Prm.nil _)
 replace hg2 := of_decide_eq_false hg2
 refine RW_gy rfl rfl rfl (Yl.h (Yl_move rfl)) ?_
 refine RW_gy rfl rfl rfl (Yl.h (Yl_len rfl sl_23)) ?_
 refine RW_gy rfl rfl rfl (Yl.h (Yl_gtr rfl rfl)) ?_
 refine RW_l (Yl_pick_f rfl rfl) ?_
 refine RW_lv [0,1,2,24] ?_
 refine CW_cd rfl (fun hc3 => ?_) (fun hc3 => ?_)
 ·refine CW_sr ?_
  refine RW_a ?_
  refine RW_lv [6] ?_
  refine CW_ret ?_
  refine QW_ret_then ?_
  exact QW_ret1 rfl rfl [] ⟨rfl, rfl⟩ (Prm.nil _)
 exfalso
 omega
theorem FnInitial_main (sg n cn bn on : Nat) (nm : List UInt8) (ln : List Value) (Tn : TypeId) (fz : Nat × Nat) (four : Bool) (hsg : sg ≤ 255) (hn : 1 ≤ n ∧ n ≤ 10) (hnl : n = nm.length) (hln : ∀ i, i < n → ln[on + i]? = some (bv (nm.getD i 0))) (ps : List Value) (T : TypeId) (hp : PsOk ps) (D : Heap) (hmem : (bn, Obj.cells ln.toArray Tn fz) ∈ (2, blk ps T) :: D) :
  Ct Tryd.prog 4 [.int .u8 (sg : Int), .slice (some ⟨bn, on, none⟩) n cn, .bool four] ((2, blk ps T) :: D) (fun v q => v = .bool true ∧ q = (2, blk ps T) :: D) := by
 refine Ct_of Tryd.func4 rfl Tryd.ntmps4 rfl ?_
 intro E F
 simp only [numL, List.nil_append, List.cons_append]
 refine CW_sr ?_
 refine RW_a ?_
 refine RW_lv [0,1,2] ?_
 refine CW_seq ?_
 refine CW_sr ?_
 refine RW_m ?_
 refine RW_l (Yl_len rfl sl_23) ?_
 refine RW_l (Yl_gtr rfl rfl) ?_
 refine RW_lv [0,1,2,16] ?_
 refine CW_cd rfl (fun hc1 => ?_) (fun hc1 => ?_)
 ·exfalso; omega
 refine (CW_skip (QW_lv [0,1,2] ?_))
 refine CW_seq ?_
 refine CW_sr ?_
 refine RW_m ?_
 refine RW_l (Yl_len rfl sl_23) ?_
 refine RW_l (Yl_eql rfl rfl) ?_
 refine RW_m ?_
 refine RW_bool 20 rfl (fun hg2 => ?_) (fun hg2 => ?_)
 ·replace hg2 := of_decide_eq_true hg2
  exfalso
  omega
 replace hg2 := of_decide_eq_false hg2
 refine RW_gy rfl rfl rfl (Yl.h (Yl_move rfl)) ?_
 refine RW_gy rfl rfl rfl (Yl.h (Yl_len rfl sl_23)) ?_
 refine RW_gy rfl rfl rfl (Yl.h (Yl_gtr rfl rfl)) ?_
 refine RW_l (Yl_pick_f rfl rfl) ?_
 refine RW_lv [0,1,2,24] ?_
 refine CW_cd rfl (fun hc3 => ?_) (fun hc3 => ?_)
 ·exfalso
  omega
 refine (CW_skip (QW_lv [0,1,2] ?_))
 refine CW_sr ?_
 refine RW_a ?_
 refine RW_lv [0,1,2,7] ?_
 refine CW_seq ?_
 refine CW_sr ?_
 refine RW_m ?_
 refine RW_l (Yl_len rfl sl_23) ?_
 refine RW_m ?_
 refine RW_lv [0,2,7,25,26,27] ?_
 refine CW_block ?_
 refine CW_lp (σ := Nat) (fun q => [(0, .int .u8 (sg : Int)), (2, .bool four), (7, .string (bar (txt (nm.take q)))), (25, .slice (some ⟨bn, on, none⟩) n cn), (26, nv n), (27, nv q)]) (fun q => (2, blk ps T) :: (D ++ F)) (fun q => q ≤ n) (fun q => n - q) 0 (Nat.zero_le _) ?_
 rintro i hi
 refine CW_sr ?_
 refine RW_l (Yl_lss rfl rfl) ?_
 refine RW_lv [0,2,7,25,26,27,28] ?_
 refine CW_seq ?_
 refine CW_cd rfl (fun hc4 => ?_) (fun hc4 => ?_)
 ·refine (CW_skip (QW_lv [0,2,7,25,26,27] ?_))
  refine CW_seq ?_
  refine CW_block ?_
  refine CW_seq ?_
  have hx255 := (nm.getD i 0).toNat_lt
  refine CW_region ?_
  refine RW_l (Yl_indexN (b := bn) (off := on) (i := i) (o' := on + i) rfl rfl sl_23 om_ om_) ?_
  refine RW_h (Yh_load (v := bv (nm.getD i 0)) rfl sc_5 ((show List.Sublist ((2, blk ps T) :: D) _ by repeat (first | exact .cons_cons _ (List.sublist_append_left _ _) | apply List.Sublist.cons)).subset hmem) (hln i om_)) ?_
  refine RW_a ?_
  refine RW_lv [0,2,7,9,25,26,27] ?_
  refine CW_region ?_
  refine RW_m ?_
  refine RW_m ?_
  refine RW_l (Yl_rem (c := (((nm.getD i 0).toNat % 26 : Nat) : Int)) rfl rfl om_ (remN (nm.getD i 0).toNat 26)) ?_
  refine RW_l (Yl_add (c := ((65 + (nm.getD i 0).toNat % 26 : Nat) : Int)) rfl rfl (wu8 om_ om_)) ?_
  refine RW_l (Yl_conv (c := ((65 + (nm.getD i 0).toNat % 26 : Nat) : Int)) rfl in_5 in_21 (wi32 om_ om_)) ?_
  refine RW_l (Yl_rune (n := 65 + (nm.getD i 0).toNat % 26) rfl in_21 st_9 om_) ?_
  refine RW_l (Yl_concatB (a := (txt (nm.take i))) (b := [UInt8.ofNat (65 + (nm.getD i 0).toNat % 26)]) rfl rfl (by simp [txt]; omega)) ?_
  refine RW_a ?_
  refine RW_nil ?_
  refine QW_normal_block ?_
  refine (QW_lv [0,2,7,25,26,27] ?_)
  refine CW_region ?_
  refine RW_l (Yl_add (c := ((i + 1 : Nat) : Int)) rfl rfl (wi64 om_ om_)) ?_
  refine RW_m ?_
  refine RW_nil ?_
  have hsx := txt_succ (l := nm) (i := i) om_
  rw [← hsx]
  exact QW_rn (i + 1) om_ om_
 refine CW_exit ?_
 refine QW_exit_then ?_
 refine QW_exit_then ?_
 refine QW_exit_block ?_
 refine (QW_lv [0,2,7] ?_)
 refine CW_seq ?_
 have hin : i = n := by omega
 rw [hin, hnl, List.take_length]
 obtain ⟨fst, hfst⟩ : ∃ x, x = 1 + sg % 31 := ⟨_, rfl⟩
 have htx : ∀ c ∈ txt nm, c.toNat < 128 := by
  intro c hc
  obtain ⟨x, _, rfl⟩ := List.mem_map.1 hc
  rw [UInt8.toNat_ofNat']; omega
 refine CW_region ?_
 refine RW_m ?_
 refine RW_l (Yl_rem (c := ((sg % 31 : Nat) : Int)) rfl rfl om_ (remN sg 31)) ?_
 refine RW_l (Yl_add (c := (fst : Int)) rfl rfl (by rw [hfst]; exact wu8 om_ om_)) ?_
 refine RW_a ?_
 refine RW_lv [2,7,10] ?_
 refine CW_sr ?_
 refine RW_l (Yl_build (cs := (plainNm rootName (-1) (-1) 1).cells) pl_43 ze_43 rfl rfl) ?_
 refine RW_m ?_
 refine RW_l (Yl_conv (c := (fst : Int)) rfl in_5 in_21 (wi32 om_ om_)) ?_
 refine RW_l (Yl_rune (n := fst) rfl in_21 st_9 om_) ?_
 refine RW_m ?_
 refine RW_l (Yl_concatB (a := [UInt8.ofNat fst]) (b := txt nm) rfl rfl (by simp [txt]; omega)) ?_
 refine RW_fx rfl rfl rfl (Fx_litS (vs := bys [1, 2, 3]) sl_23 ze_5 rfl rfl rfl rfl rfl) ?_
 rintro _ _ ⟨b48, rfl, rfl⟩
 refine RW_l (Yl_build (cs := (inNm fst (txt nm) b48).cells) pl_43 ze_43 rfl rfl) ?_
 refine RW_fx rfl rfl rfl (Fx_lit (vs := [.agg (plainNm rootName (-1) (-1) 1).cells.toArray, .agg (inNm fst (txt nm) b48).cells.toArray]) (css := [(plainNm rootName (-1) (-1) 1).cells, (inNm fst (txt nm) b48).cells]) (cs := nms (inNs fst (txt nm) b48)) sl_25 ze_43 rfl rfl rfl rfl rfl (by intro c hc; simp only [List.mem_cons, List.not_mem_nil, or_false] at hc; rcases hc with rfl | rfl <;> exact Nm.length_cells _) (by simp [inNs, nms])) ?_
 rintro _ _ ⟨g, rfl, rfl⟩
 refine RW_a ?_
 refine RW_lv [2,7,10,11] ?_
 refine CW_seq ?_
 have hw := write_ct g 2 (verF four) 0 (inNs fst (txt nm) b48) [] (inXs fst (txt nm)) rfl inXs_ok (inNs_ok (by simp [txt]; omega)) (by rcases verF_or four with e | e <;> omega) om_
 rw [List.append_nil] at hw
 have hnh : nmsH (inNs fst (txt nm) b48) = [(b48, blk (bys [1, 2, 3]) 5)] := rfl
 rw [hnh] at hw
 change Ct Tryd.prog 15 [.slice (some ⟨g, 0, none⟩) 2 2, _, _] _ _ at hw
 refine CW_region ?_
 refine RW_m ?_
 refine RW_m ?_
 refine RW_fx rfl rfl rfl (Fx_callQ ok_16 (vs := [.bool four]) (R := fun v => v = nv (verF four)) rfl (Pick.nil _) (versionOf_ct four)) ?_
 rintro _ _ ⟨rfl, rfl⟩
 refine RW_fx rfl rfl rfl (Fx_call ok_15 (vs := [.slice (some ⟨g, 0, none⟩) 2 2, nv (verF four), nv 0]) rfl (Pick.cons rem_ (Pick.cons rem_ (Pick.nil _))) hw) ?_
 rintro _ _ ⟨_, ⟨g1, rfl, rfl⟩, rfl⟩
 simp only [List.cons_append, List.nil_append]
 refine RW_fx rfl rfl rfl (Fx_call ok_18 (vs := [.slice (some ⟨g1, 0, none⟩) (NF (verF four) (inXs fst (txt nm))) (NF (verF four) (inXs fst (txt nm)))]) rfl (Pick.cons rem_ (Pick.cons rem_ (Pick.nil _))) (Initial_entries (T := T) (four := four) hp om_ (by simp [txt]; omega) htx g1)) ?_
 rintro _ _ ⟨_, ⟨go, cap, l, rfl, hl27, hl30, hl31, rfl⟩, rfl⟩
 simp only [List.cons_append, List.nil_append]
 refine RW_m ?_
 refine RW_l (Yl_extract (v := .slice (some ⟨go, 0, none⟩) 2 cap) rfl rfl) ?_
 refine RW_l (Yl_extract (v := nv 0) rfl rfl) ?_
 refine RW_a ?_
 refine RW_a ?_
 refine RW_lv [7,10,12,13] ?_
 refine CW_sr ?_
 refine RW_m ?_
 refine RW_l (Yl_eql rfl rfl) ?_
 refine RW_m ?_
 refine RW_bool 61 rfl (fun hg5 => ?_) (fun hg5 => ?_)
 ·replace hg5 := of_decide_eq_true hg5
  refine RW_gy rfl rfl rfl (Yl.h (Yl_move rfl)) ?_
  refine RW_gy rfl rfl rfl (Yl.h (Yl_len rfl sl_33)) ?_
  refine RW_gy rfl rfl rfl (Yl.h (Yl_eql rfl rfl)) ?_
  refine RW_l (Yl_pick_t rfl rfl) ?_
  refine RW_m ?_
  refine RW_bool 66 rfl (fun hg6 => ?_) (fun hg6 => ?_)
  ·replace hg6 := of_decide_eq_true hg6
   refine RW_gy rfl rfl rfl (Yl.h (Yl_move rfl)) ?_
   refine RW_gy rfl rfl rfl (Yl.h (Yl_indexN (b := go) (off := 0) (i := 1) (o' := 27) rfl rfl sl_33 om_ om_)) ?_
   refine RW_gy rfl rfl rfl (Yl.h (Yl_field rfl fo_41_0)) ?_
   refine RW_gy rfl rfl rfl (Yh_lh (v := .string (bar (txt nm))) sc_9 hl27) ?_
   refine RW_gy rfl rfl rfl (Yl.h (Yl_move rfl)) ?_
   refine RW_gy rfl rfl rfl (Yl.h (Yl_strEq (s := bar (txt nm)) (r := bar (txt nm)) rfl rfl)) ?_
   refine RW_l (Yl_pick_t rfl rfl) ?_
   refine RW_m ?_
   refine RW_bool 74 rfl (fun hg7 => ?_) (fun hg7 => ?_)
   ·skip
    refine RW_gy rfl rfl rfl (Yl.h (Yl_move rfl)) ?_
    refine RW_gy rfl rfl rfl (Yl.h (Yl_indexN (b := go) (off := 0) (i := 1) (o' := 27) rfl rfl sl_33 om_ om_)) ?_
    refine RW_gy rfl rfl rfl (Yl.h (Yl_field rfl fo_41_4)) ?_
    refine RW_gy rfl rfl rfl (Yh_lh (v := .int .i64 (fst : Int)) sc_3 hl31) ?_
    refine RW_gy rfl rfl rfl (Yl.h (Yl_move rfl)) ?_
    refine RW_gy rfl rfl rfl (Yl.h (Yl_conv (c := (fst : Int)) rfl in_5 in_3 (wi64 om_ om_))) ?_
    refine RW_gy rfl rfl rfl (Yl.h (Yl_eql rfl rfl)) ?_
    refine RW_l (Yl_pick_t rfl rfl) ?_
    refine RW_m ?_
    refine RW_bool 83 rfl (fun hg8 => ?_) (fun hg8 => ?_)
    ·replace hg8 := of_decide_eq_true hg8
     refine RW_gy rfl rfl rfl (Yl.h (Yl_move rfl)) ?_
     refine RW_gy rfl rfl rfl (Yl.h (Yl_indexN (b := go) (off := 0) (i := 1) (o' := 27) rfl rfl sl_33 om_ om_)) ?_
     refine RW_gy rfl rfl rfl (Yl.h (Yl_field rfl fo_41_3)) ?_
     refine RW_gy rfl rfl rfl (Yh_lh (v := .int .i64 3) sc_2 hl30) ?_
     refine RW_gy rfl rfl rfl (Yl.h (Yl_eql rfl rfl)) ?_
     refine RW_l (Yl_pick_t rfl rfl) ?_
     refine RW_a ?_
     refine RW_lv [6] ?_
     refine CW_ret ?_
     refine QW_dropB (e := (go, _)) rem_ ?_
     refine QW_dropB (e := (g1, _)) rem_ ?_
     refine QW_dropB (e := (g, _)) rem_ ?_
     refine QW_dropB (e := (b48, _)) rem_ ?_
     exact QW_ret1 rfl rfl (_ :: D) ⟨rfl, rfl⟩ prm_
    replace hg8 := of_decide_eq_false hg8
    exact absurd rfl hg8
   skip
   simp at hg7
  replace hg6 := of_decide_eq_false hg6
  exact absurd rfl hg6
 replace hg5 := of_decide_eq_false hg5
 exact absurd rfl hg5

end Go.Proofs.YtgoddcicbpjknaaDoor

set_option maxRecDepth 100000
namespace Go.Proofs.YtgoddcicbpjknaaDoor.fnInitial
open Go
open Cfb
open Go.ChangeShapes Go.WideShapes Go.ChangeAt Go.RowKit Go.Clock
theorem contract (H : Type) (enc : TypeId × Value → H) (W : World) (base : Nat) (args : Array Value) (ds gs : List (DataW H)) (before : List MemPlace)
    (hval : ∀ (j : Nat) t v, Tryd.f4.params[j]? = some t → args[j]? = some v → Value.okWide Tryd.prog W .any base t v)
    (hW : DataW.Whole enc Tryd.prog Tryd.f4.params.toList Rows.fnInitialSpec.vars false W args.toList ds gs before) (hL : laidMetH Tryd.prog Rows.fnInitialRow.laid W) (hS : W.ShapedOpen Tryd.prog) :
    Calls Tryd.prog 4 args W fun e W' => ∃ v, e = .returned v ∧ W'.os = W.os ∧ Rows.fnInitialSpec.post enc Tryd.prog Tryd.f4 false true false false W args v W' := by
  have hW' := hW
  obtain ⟨p, q, hA0, hV, rfl, hfz, hnd⟩ := hW
  have hA : DataW.TrodAll enc Tryd.prog W 0 (fun _ => true) true Tryd.f4.params.toList args.toList ds p := hA0
  have hlt : ∀ x ∈ p, x.block < W.heap.size := fun x hx => by simpa using hW'.lt x (List.mem_append_left _ hx)
  have again := fun W' hb => trodAll_again (W' := W') hb _ _ _ _ hA (by rw [Tryd.params4]; kernel_rfl) hlt
  rw [Tryd.params4] at hA hval
  obtain ⟨v0, vs0, d0, ds0, p0, q0, hargs, rfl, rfl, h0, r0⟩ := trodAll_cons hA
  obtain ⟨v1, vs1, d1, ds1, p1, q1, rfl, rfl, rfl, h1, r1⟩ := trodAll_cons r0
  obtain ⟨v2, vs2, d2, ds2, p2, q2, rfl, rfl, rfl, h2, r2⟩ := trodAll_cons r1
  obtain ⟨rfl, rfl, rfl⟩ := trodAll_nil r2
  obtain rfl : args = #[v0, v1, v2] := by cases args; simp_all
  obtain ⟨rfl, rfl⟩ := trodVars_none hV
  obtain ⟨a0, rfl, rfl, rfl, w0⟩ := open_int Tryd.underlying5 (hval 0 5 v0 rfl rfl) h0
  obtain ⟨a2, rfl, rfl, rfl⟩ := open_bool Tryd.underlying4 (hval 2 4 v2 rfl rfl) h2
  obtain ⟨T, hT⟩ := tab_block (props_tab hL) hS
  obtain ⟨x0, rfl, b0⟩ := u8_nat w0
  obtain ⟨s1, n1, c1, rfl, hc1, hs1⟩ := open_bytes (hval 1 23 v1 rfl rfl) h1
  have fin : Calls Tryd.prog 4 #[.int .u8 (x0 : Int), .slice s1 n1 c1, .bool a2] W fun e w' => e = .returned (.bool true) ∧ Grown W w' ∧ Below W.heap.size W w' := by
    by_cases hn : n1 = 0 ∨ 10 < n1
    · exact (FnInitial_early x0 n1 c1 s1 a2 hn).rowB (W := W) (by intro p hp; cases hp) (by simp)
    · rcases hs1 with h | ⟨b, off, l, T1, fz, bs, rfl, hb, hbl, hbs⟩
      · exact absurd (.inl h) hn
      · obtain ⟨l⟩ := l
        have main := fun D hmem => FnInitial_main x0 n1 c1 b off bs l T1 fz a2 b0 om_ hbl.symm (fun i hi => by simpa using hbs i hi) propsV T propsV_ok D hmem
        by_cases e2 : b = 2
        · have e3 : (b, Obj.cells l.toArray T1 fz) = (2, blk propsV T) := by
            subst e2
            rw [hT] at hb
            rw [Option.some.inj hb]
          exact (main [] (by rw [e3]; exact List.Mem.head _)).rowB (W := W) (by intro p hp; rw [List.mem_singleton.1 hp]; exact hT) (by simp)
        · exact (main [(b, Obj.cells l.toArray T1 fz)] (List.Mem.tail _ (List.Mem.head _))).rowB (W := W)
            (by intro p hp; simp only [List.mem_cons, List.not_mem_nil, or_false] at hp; rcases hp with rfl | rfl; exact hT; exact hb) (by simp; exact fun e => e2 e.symm)
  refine fin.mono fun e W' ⟨he, hg, hb⟩ => ?_
  subst he
  exact ⟨_, rfl, hg.1.1, ⟨_, _, _, [], _, [], hW', trodAll_cons_mk (shut_bool Tryd.underlying4 _) trodAll_mk0, again W' hb, rfl, hg.frame _, fun h => by cases h⟩⟩
/-- A world for the witness. -/
noncomputable def laidWorld (os : Os) : World := World.laidAll Tryd.prog os Rows.fnInitialRow.laid
theorem laid_met (os : Os) : laidMet Tryd.prog Rows.fnInitialRow.laid ((laidWorld os).forCall (fun _ _ => 0) ⟨#[], #[.int .u8 0, .slice none 0 0, .bool false], []⟩).memory := laidMet_laidAll _ kr_ kr_
theorem reads (os : Os) {H : Type} (enc : TypeId × Value → H) : ∃ places, DataW.whole enc Tryd.prog ((laidWorld os).forCall (fun _ _ => 0) ⟨#[], #[.int .u8 0, .slice none 0 0, .bool false], []⟩).memory Tryd.f4.params.toList Rows.fnInitialSpec.vars false (#[.int .u8 0, .slice none 0 0, .bool false] : Array Value).toList 8 = some ([.lit (.int .u8 0), .nil, .lit (.bool false)], [], places) :=
  ⟨[], by kernel_rfl⟩
theorem lifted (os : Os) (started : os.Started) (H : Type) (enc : TypeId × Value → H) (F : Stop.Interp) :
    ReturnsInHanded {} Tryd.checked os 4 .any ((OpenSpec.ofChange Rows.fnInitialSpec).preRow enc Tryd.prog Tryd.f4 Rows.fnInitialRow.domain false Rows.fnInitialRow.laid) (((OpenSpec.ofChange Rows.fnInitialSpec).at F).post enc Tryd.prog Tryd.f4 false true false false) := by
  obtain ⟨places, hx⟩ := reads os enc
  refine returnsInHanded_of_row (C := Tryd.checked) (s := OpenSpec.ofChange Rows.fnInitialSpec) own started kr_ Tryd.func4
    (witness_row_at (enc := enc) (C := Tryd.checked) false (laidWorld os) #[.int .u8 0, .slice none 0 0, .bool false] (World.laidAll_os _ _ _) (by kernel_rfl) (by kernel_rfl) (by kernel_rfl)
      (OpenSpec.preRow_of_cond 8 hx kr_ (fun k hk => by cases hk) kr_ (laid_met os))) ?_
  intro W base args ds gs before hval hW _ _ _ hL hS _
  exact (contract H enc W base args ds gs before hval hW hL hS).mono fun _ _ ⟨v, he, _, hp⟩ => ⟨v, he, hp⟩
/-- The same, where the row lets time pass. -/
theorem liftedT (os : Os) (started : os.Started) (H : Type) (enc : TypeId × Value → H) (F : Stop.Interp) :
    ReturnsInHanded { calm := true } Tryd.checked os 4 .any (fun w args => (Rows.fnInitialSpec.pre enc Tryd.prog Tryd.f4 [] false w args ∧ laidMetH Tryd.prog Rows.fnInitialRow.laid w) ∧ sizedMet enc Tryd.prog Tryd.f4 (OpenSpec.ofChange Rows.fnInitialSpec) false w args)
      ((OpenSpec.ofChange Rows.fnInitialSpec).postWith enc Tryd.prog Tryd.f4 F (outsideKept [.timePasses]) false true false) := by
  refine returns_of_change (C := Tryd.checked) (X := fun w _ => laidMetH Tryd.prog Rows.fnInitialRow.laid w) (fun _ _ _ hh h => h.of_heap hh) own started kr_ Tryd.func4
    (witness_at (enc := enc) (C := Tryd.checked) (X := fun w _ => laidMetH Tryd.prog Rows.fnInitialRow.laid w) (World.laidAll Tryd.prog os Rows.fnInitialRow.laid) #[.int .u8 0, .slice none 0 0, .bool false] 8 (World.laidAll_os _ _ _) (World.shaped_of_ZipB (by kernel_rfl) (by kernel_rfl)) (by kernel_rfl) (by kernel_rfl) (by kernel_rfl)
      (by rw [MakeChecks.laidMetH_plain _ _ _ kr_]; exact laidMet_laidAll _ kr_ kr_)) ?_
  intro W base args ds gs before hval hW _ _ hL hS
  refine (contract H enc W base args ds gs before hval hW hL hS).mono ?_
  rintro e W' ⟨v, he, ho, hp⟩
  have hos : { W' with os := W.os } = W' := by rw [← ho]
  refine ⟨v, he, by rw [hos]; exact hp, by rw [ho]; exact Later.refl _⟩
theorem said : Rows.FnInitialSaid := by
  first
    | exact OpenClaim.holds_of_cond 4 Tryd.f4 rfl rfl rfl rfl rfl rfl rfl ⟨rfl, rfl, rfl, rfl, rfl⟩ rfl rfl rfl rfl rfl (by kernel_rfl) Tryd.func4 (by kernel_rfl)
        (of_decide_eq_true kr_) (by unfold Func.isWrapper; first | (rw [if_pos (by decide +kernel)]; kernel_rfl) | (rw [if_neg (by decide +kernel)]; exact ⟨rfl, rfl⟩))
        (fun os started H enc _ F => by rw [OpenClaim.pre_eq_preRow]; exact lifted os started H enc F)
    | exact holds_of_wide_time 4 Tryd.f4 rfl rfl rfl rfl rfl rfl rfl ⟨rfl, rfl, rfl, rfl, rfl⟩ rfl rfl rfl rfl rfl (by kernel_rfl) Tryd.func4 (by kernel_rfl)
        (of_decide_eq_true kr_) (by unfold Func.isWrapper; first | (rw [if_pos (by decide +kernel)]; kernel_rfl) | (rw [if_neg (by decide +kernel)]; exact ⟨rfl, rfl⟩))
        (fun os started H enc _ F => liftedT os started H enc F)
theorem plain (f : FuncId) (fn : Func) (hf : Tryd.pinned.checked.prog.funcNamed "loop.example/pub-g03453/laws.FnInitial" = some f) (hfn : Tryd.pinned.checked.prog.funcs[f]? = some fn) :
    true = Tryd.pinned.checked.prog.looks [] ∧ ∀ (j : Nat) t, fn.params[j]? = some t → Tryd.pinned.checked.prog.wantsStandIn t = false := by
  obtain rfl : f = 4 := Option.some.inj ((show Tryd.prog.funcNamed "loop.example/pub-g03453/laws.FnInitial" = some 4 by kernel_rfl).symm.trans hf) |>.symm
  obtain rfl : fn = Tryd.f4 := (Option.some.inj (Tryd.func4.symm.trans hfn)).symm
  refine ⟨by kernel_rfl, fun j t ht => ?_⟩
  rw [Tryd.params4] at ht
  have hm : t ∈ [5, 23, 4] := by simpa using Array.mem_of_getElem? ht
  have hall : ([5, 23, 4].all fun u => !Tryd.prog.wantsStandIn u) = true := by kernel_rfl
  exact (show Tryd.prog.wantsStandIn t = false by simpa using List.all_eq_true.1 hall t hm)
theorem card : Rows.FnInitialCardSaid :=
  Claim7.holds_tied_plain_at .later [] _ _ _ _ said (fun _ h => by cases h) kr_ (fun _ h => by cases h) fnInitial_row_tie rfl ⟨rfl, rfl⟩ kr_ rfl plain kr_
#print axioms card
end Go.Proofs.YtgoddcicbpjknaaDoor.fnInitial
