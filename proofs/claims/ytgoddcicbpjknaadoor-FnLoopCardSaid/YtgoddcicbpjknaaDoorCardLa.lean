/- FnLoop, as its card states it: whatever five arguments, the call returns true and leaves all that was there as it was. -/
import Derived.Test.YtgoddcicbpjknaaDoorPartC
import Derived.WalkKit
import Derived.ProofKit
import Derived.OpenShut
import Derived.Deep.DeepHandedRow
import Derived.Lib.LaidTab
import Derived.Test.YtgoddcicbpjknaaDoorCards
import Derived.Test.YtgoddcicbpjknaaDoorTie
import Derived.Carry
import Derived.Clock
import Derived.Lay
set_option maxRecDepth 20000
set_option maxHeartbeats 4000000

namespace Go.Proofs.YtgoddcicbpjknaaDoor
open Go
open Cfb

theorem write_L {E : World} {Q : Exit → Act → World → Prop} {F : Heap} (hQ : QP Q) (b7 g29 stl c29 b30 bf b25 b34 b35 bo g33 msl c33 b44 b45 bl cl size N T minis W D : Nat) (ns : List Nm) (rl : List Value) (sts mst mt fat : List Nat) (r29 r33 : List Value) (dl wl ol : List UInt8) {v34 : Value} (hok : ∀ x ∈ ns, x.ok) (hns : ns.length ≤ 20) (hsz : 512 ≤ size ∧ size ≤ 4096) (hsl : stl = sts.length) (hks : 3 + ns.length ≤ sts.length) (hml : msl = mst.length) (hkm : ns.length ≤ mst.length) (hsb : ∀ y ∈ sts, y ≤ 4294967295) (hmsb : ∀ y ∈ mst, y ≤ 4294967295) (hmt : mt.length ≤ 1000000) (hmb : ∀ y ∈ mt, y < 4294967296) (hfb : ∀ y ∈ fat, y < 4294967296) (hT : T ≤ 100000) (hTf : T ≤ fat.length) (hN : size * (1 + T) = N) (hol : ol.length = N) (hW : 64 * minis = W) (hW2 : W ≤ 100000000) (hwl : wl.length = W) (hmm : minis ≤ mt.length) (hdl : dl.length = D) (hDn : 128 * ns.length ≤ D) (hDb : D ≤ 1000000)
  (hch1 : ∀ k, k < ns.length → k ≠ 0 → (ns.getD k default).nd.stream = true → (ns.getD k default).nd.data.length < 4096 → ∀ j, j * 64 < (ns.getD k default).nd.data.length → walkP mt (mst.getD k 0) j < minis)
  (hch2 : ∀ k, k < ns.length → k ≠ 0 → (ns.getD k default).nd.stream = true → ¬ (ns.getD k default).nd.data.length < 4096 → ∀ j, j * size < (ns.getD k default).nd.data.length → walkP fat (sts.getD (3 + k) 0) j < T)
  (hk : CW Tryd.prog E 514 [(29, .slice (some ⟨g29, 0, none⟩) stl c29), (34, v34), (36, .func (.func 28) #[] #[.pointer (some ⟨b25, 0, none⟩), .pointer (some ⟨b35, 0, none⟩)]), (44, .slice (some ⟨b44, 0, none⟩) W W), (45, .slice (some ⟨b45, 0, none⟩) D D)] ((b45, blk (bys (nodesTo minis size sts mst fat mt (ns.map Nm.nd) ns.length (dl, wl, ol)).1) 5) :: (b44, blk (bys (nodesTo minis size sts mst fat mt (ns.map Nm.nd) ns.length (dl, wl, ol)).2.1) 5) :: (bo, blk (bys (nodesTo minis size sts mst fat mt (ns.map Nm.nd) ns.length (dl, wl, ol)).2.2) 5) :: (g29, blk (nats sts ++ r29) 3) :: (g33, blk (nats mst ++ r33) 3) :: (b35, blk [.func (.func 27) #[] #[.pointer (some ⟨b34, 0, none⟩), .pointer (some ⟨b7, 0, none⟩)]] 73) :: (b34, blk [.slice (some ⟨bo, 0, none⟩) N N] 23) :: (bf, blk (u32s fat) 67) :: (b25, blk [.slice (some ⟨bf, 0, none⟩) fat.length fat.length] 22) :: (b7, blk [nv size] 3) :: (b30, blk (u32s mt) 67) :: (bl, blk (nms ns ++ rl) 43) :: (nmsH ns ++ F)) (dig [1, 1, 1, 1, 1, 1, 1, 1, 1, 1, 1, 1, 1, 1, 1, 1, 1, 1, 1, 1, 1, 1, 1, 1, 1, 1, 1, 1, 1, 1, 1, 1, 1, 1, 1, 1, 1, 1, 1, 1, 1, 1, 1, 1, 1, 1, 1, 1] (bodyOf Tryd.f15)) Q) :
  CW Tryd.prog E 514 [(0, .slice (some ⟨bl, 0, none⟩) ns.length cl), (14, nv minis), (29, .slice (some ⟨g29, 0, none⟩) stl c29), (30, .slice (some ⟨b30, 0, none⟩) mt.length mt.length), (33, .slice (some ⟨g33, 0, none⟩) msl c33), (34, v34), (36, .func (.func 28) #[] #[.pointer (some ⟨b25, 0, none⟩), .pointer (some ⟨b35, 0, none⟩)]), (44, .slice (some ⟨b44, 0, none⟩) W W), (45, .slice (some ⟨b45, 0, none⟩) D D)] ((b45, blk (bys dl) 5) :: (b44, blk (bys wl) 5) :: (bo, blk (bys ol) 5) :: (g29, blk (nats sts ++ r29) 3) :: (g33, blk (nats mst ++ r33) 3) :: (b35, blk [.func (.func 27) #[] #[.pointer (some ⟨b34, 0, none⟩), .pointer (some ⟨b7, 0, none⟩)]] 73) :: (b34, blk [.slice (some ⟨bo, 0, none⟩) N N] 23) :: (bf, blk (u32s fat) 67) :: (b25, blk [.slice (some ⟨bf, 0, none⟩) fat.length fat.length] 22) :: (b7, blk [nv size] 3) :: (b30, blk (u32s mt) 67) :: (bl, blk (nms ns ++ rl) 43) :: (nmsH ns ++ F)) (dig [1, 1, 1, 1, 1, 1, 1, 1, 1, 1, 1, 1, 1, 1, 1, 1, 1, 1, 1, 1, 1, 1, 1, 1, 1, 1, 1, 1, 1, 1, 1, 1, 1, 1, 1, 1, 1, 1, 1, 1, 1, 1, 1, 1, 1, 1, 1] (bodyOf Tryd.f15)) Q := by
 refine CW_seq ?_
 refine CW_sr ?_
 refine RW_m ?_
 refine RW_l (Yl_len rfl sl_25) ?_
 refine RW_m ?_
 refine RW_lv [14,29,30,33,34,36,44,45,359,360,361] ?_
 refine CW_block ?_
 refine CW_loop (σ := Nat) (fun k => [(14, nv minis), (29, .slice (some ⟨g29, 0, none⟩) stl c29), (30, .slice (some ⟨b30, 0, none⟩) mt.length mt.length), (33, .slice (some ⟨g33, 0, none⟩) msl c33), (34, v34), (36, .func (.func 28) #[] #[.pointer (some ⟨b25, 0, none⟩), .pointer (some ⟨b35, 0, none⟩)]), (44, .slice (some ⟨b44, 0, none⟩) W W), (45, .slice (some ⟨b45, 0, none⟩) D D), (359, .slice (some ⟨bl, 0, none⟩) ns.length cl), (360, nv ns.length), (361, nv k)]) (fun k => (b45, blk (bys (nodesTo minis size sts mst fat mt (ns.map Nm.nd) k (dl, wl, ol)).1) 5) :: (b44, blk (bys (nodesTo minis size sts mst fat mt (ns.map Nm.nd) k (dl, wl, ol)).2.1) 5) :: (bo, blk (bys (nodesTo minis size sts mst fat mt (ns.map Nm.nd) k (dl, wl, ol)).2.2) 5) :: (g29, blk (nats sts ++ r29) 3) :: (g33, blk (nats mst ++ r33) 3) :: (b35, blk [.func (.func 27) #[] #[.pointer (some ⟨b34, 0, none⟩), .pointer (some ⟨b7, 0, none⟩)]] 73) :: (b34, blk [.slice (some ⟨bo, 0, none⟩) N N] 23) :: (bf, blk (u32s fat) 67) :: (b25, blk [.slice (some ⟨bf, 0, none⟩) fat.length fat.length] 22) :: (b7, blk [nv size] 3) :: (b30, blk (u32s mt) 67) :: (bl, blk (nms ns ++ rl) 43) :: (nmsH ns ++ F)) (fun k => k ≤ ns.length ∧ (nodesTo minis size sts mst fat mt (ns.map Nm.nd) k (dl, wl, ol)).1.length = D ∧ (nodesTo minis size sts mst fat mt (ns.map Nm.nd) k (dl, wl, ol)).2.1.length = W ∧ (nodesTo minis size sts mst fat mt (ns.map Nm.nd) k (dl, wl, ol)).2.2.length = N) (fun k => ns.length - k) 0 ⟨by omega, hdl, hwl, hol⟩ (Prm.nil _) kp_ ?_
 rintro k ⟨hkn, hq1, hq2, hq3⟩
 obtain ⟨q, hqe⟩ : ∃ q, q = (nodesTo minis size sts mst fat mt (ns.map Nm.nd) k (dl, wl, ol)) := ⟨_, rfl⟩
 rw [← hqe] at hq1 hq2 hq3
 simp only [← hqe]
 refine CW_sr ?_
 refine RW_l (Yl_lss rfl rfl) ?_
 refine RW_lv [14,29,30,33,34,36,44,45,359,360,361,362] ?_
 refine CW_seq ?_
 refine CW_cd rfl (fun hc1 => ?_) (fun hc1 => ?_)
 ·refine (CW_skip (QW_lv [14,29,30,33,34,36,44,45,359,360,361] ?_))
  refine CW_seq ?_
  refine CW_block ?_
  refine CW_seq ?_
  have hx : (ns.getD k default).ok := ok_at hok om_
  refine CW_region ?_
  refine RW_m ?_
  refine RW_l (Yl_index rfl rfl sl_25 om_ om_) ?_
  refine RW_h (Yh_loadNm (k := k) rfl (show 0 + (k : Int).toNat * 28 = k * 28 by omega) mem_ om_) ?_
  refine RW_fx rfl rfl rfl (Fx_alloc (zs := zs_43) ze_43 rfl) ?_
  rintro _ _ ⟨b49, rfl, rfl⟩
  refine RW_a ?_
  refine RW_fx0 rfl rfl (Fx_storeNm rfl rfl rep_ rfl) ?_
  rintro _ _ rfl
  refine RW_lv [14,29,30,33,34,36,44,45,48,49,359,360,361] ?_
  refine CW_heap (Prm.perm (T := (b45, blk (bys q.1) 5) :: (b49, blk (ns.getD k default).cells 43) :: (b44, blk (bys q.2.1) 5) :: (bo, blk (bys q.2.2) 5) :: (g29, blk (nats sts ++ r29) 3) :: (g33, blk (nats mst ++ r33) 3) :: (b35, blk [.func (.func 27) #[] #[.pointer (some ⟨b34, 0, none⟩), .pointer (some ⟨b7, 0, none⟩)]] 73) :: (b34, blk [.slice (some ⟨bo, 0, none⟩) N N] 23) :: (bf, blk (u32s fat) 67) :: (b25, blk [.slice (some ⟨bf, 0, none⟩) fat.length fat.length] 22) :: (b7, blk [nv size] 3) :: (b30, blk (u32s mt) 67) :: (bl, blk (nms ns ++ rl) 43) :: (nmsH ns ++ F)) prm_) ?_
  refine write_H (F := [(b44, blk (bys q.2.1) 5), (bo, blk (bys q.2.2) 5), (g29, blk (nats sts ++ r29) 3), (g33, blk (nats mst ++ r33) 3), (b35, blk [.func (.func 27) #[] #[.pointer (some ⟨b34, 0, none⟩), .pointer (some ⟨b7, 0, none⟩)]] 73), (b34, blk [.slice (some ⟨bo, 0, none⟩) N N] 23), (bf, blk (u32s fat) 67), (b25, blk [.slice (some ⟨bf, 0, none⟩) fat.length fat.length] 22), (b7, blk [nv size] 3), (b30, blk (u32s mt) 67), (bl, blk (nms ns ++ rl) 43)] ++ (nmsH ns ++ F)) (by intro _ _ _ _ _ h; exact hQ _ _ _ _ _ h) b45 b49 k D (128 * k) (D - 128 * k) (ns.getD k default) q.1 rfl om_ rfl hDb hq1 hx.name ?_
  refine CW_heap (Prm.perm (T := (b44, blk (bys q.2.1) 5) :: (b30, blk (u32s mt) 67) :: (g29, blk (nats sts ++ r29) 3) :: (g33, blk (nats mst ++ r33) 3) :: (b49, blk (ns.getD k default).cells 43) :: (bo, blk (bys q.2.2) 5) :: (b35, blk [.func (.func 27) #[] #[.pointer (some ⟨b34, 0, none⟩), .pointer (some ⟨b7, 0, none⟩)]] 73) :: (b34, blk [.slice (some ⟨bo, 0, none⟩) N N] 23) :: (bf, blk (u32s fat) 67) :: (b25, blk [.slice (some ⟨bf, 0, none⟩) fat.length fat.length] 22) :: (b7, blk [nv size] 3) :: (b45, blk (bys (nameF (128 * k) (ns.getD k default).nd q.1)) 5) :: (bl, blk (nms ns ++ rl) 43) :: (nmsH ns ++ F)) prm_) ?_
  refine CW_heap (perm_in [(b44, blk (bys q.2.1) 5), (b30, blk (u32s mt) 67), (g29, blk (nats sts ++ r29) 3), (g33, blk (nats mst ++ r33) 3), (b49, blk (ns.getD k default).cells 43), (bo, blk (bys q.2.2) 5), (b35, blk [.func (.func 27) #[] #[.pointer (some ⟨b34, 0, none⟩), .pointer (some ⟨b7, 0, none⟩)]] 73), (b34, blk [.slice (some ⟨bo, 0, none⟩) N N] 23), (bf, blk (u32s fat) 67), (b25, blk [.slice (some ⟨bf, 0, none⟩) fat.length fat.length] 22), (b7, blk [nv size] 3)] [(b45, blk (bys (nameF (128 * k) (ns.getD k default).nd q.1)) 5), (bl, blk (nms ns ++ rl) 43)] F (nmsH_perm ns k om_)) ?_
  refine write_J (F := [(b45, blk (bys (nameF (128 * k) (ns.getD k default).nd q.1)) 5), (bl, blk (nms ns ++ rl) 43)] ++ (nmsH (ns.eraseIdx k) ++ F)) (by intro _ _ _ _ _ h; exact hQ _ _ _ _ _ h) b7 g29 stl c29 b30 bf b25 b34 b35 bo g33 msl c33 b44 b49 k size N T minis W sts mst mt fat r29 r33 q.2.1 q.2.2 (ns.getD k default) hx hsz hsl om_ hml om_ hsb hmsb hmt hmb hfb hT hTf hN hq3 hW hW2 hq2 hmm om_ (hch1 k om_) (hch2 k om_) ?_
  intro kd st ln wl' ol' hsw
  refine CW_heap (perm_in [(b44, blk (bys wl') 5), (b30, blk (u32s mt) 67), (g29, blk (nats sts ++ r29) 3), (g33, blk (nats mst ++ r33) 3), (b49, blk (ns.getD k default).cells 43), (bo, blk (bys ol') 5), (b35, blk [.func (.func 27) #[] #[.pointer (some ⟨b34, 0, none⟩), .pointer (some ⟨b7, 0, none⟩)]] 73), (b34, blk [.slice (some ⟨bo, 0, none⟩) N N] 23), (bf, blk (u32s fat) 67), (b25, blk [.slice (some ⟨bf, 0, none⟩) fat.length fat.length] 22), (b7, blk [nv size] 3)] [(b45, blk (bys (nameF (128 * k) (ns.getD k default).nd q.1)) 5), (bl, blk (nms ns ++ rl) 43)] F (nmsH_perm ns k om_)).symm ?_
  have hfs := swF_facts (k := k) (minis := minis) (size := size) (wl := q.2.1) (ol := q.2.2) om_ hsb hmsb om_ om_ hN hq3 om_ om_ hx.small (hch1 k om_) (hch2 k om_)
  rw [hsw] at hfs
  simp only at hfs
  obtain ⟨hf1, hf2, hf3, hf4⟩ := hfs
  refine CW_heap (Prm.perm (T := (b45, blk (bys (nameF (128 * k) (ns.getD k default).nd q.1)) 5) :: (b49, blk (ns.getD k default).cells 43) :: (b44, blk (bys wl') 5) :: (bo, blk (bys ol') 5) :: (g29, blk (nats sts ++ r29) 3) :: (g33, blk (nats mst ++ r33) 3) :: (b35, blk [.func (.func 27) #[] #[.pointer (some ⟨b34, 0, none⟩), .pointer (some ⟨b7, 0, none⟩)]] 73) :: (b34, blk [.slice (some ⟨bo, 0, none⟩) N N] 23) :: (bf, blk (u32s fat) 67) :: (b25, blk [.slice (some ⟨bf, 0, none⟩) fat.length fat.length] 22) :: (b7, blk [nv size] 3) :: (b30, blk (u32s mt) 67) :: (bl, blk (nms ns ++ rl) 43) :: (nmsH ns ++ F)) prm_) ?_
  refine write_K (F := [(b44, blk (bys wl') 5), (bo, blk (bys ol') 5), (g29, blk (nats sts ++ r29) 3), (g33, blk (nats mst ++ r33) 3), (b35, blk [.func (.func 27) #[] #[.pointer (some ⟨b34, 0, none⟩), .pointer (some ⟨b7, 0, none⟩)]] 73), (b34, blk [.slice (some ⟨bo, 0, none⟩) N N] 23), (bf, blk (u32s fat) 67), (b25, blk [.slice (some ⟨bf, 0, none⟩) fat.length fat.length] 22), (b7, blk [nv size] 3), (b30, blk (u32s mt) 67), (bl, blk (nms ns ++ rl) 43)] ++ (nmsH ns ++ F)) (by intro _ _ _ _ _ h; exact hQ _ _ _ _ _ h) b45 b49 D (128 * k) (D - 128 * k) st ln kd (ns.getD k default) (nameF (128 * k) (ns.getD k default).nd q.1) hx om_ rfl hDb (by rw [length_nameF _ _ _ om_ hx.name]; exact hq1) hf1 hf2 hx.created hx.modified ?_
  refine QW_normal_block ?_
  refine (QW_lv [14,29,30,33,34,36,44,45,359,360,361] ?_)
  refine CW_region ?_
  refine RW_l (Yl_add rfl rfl (wi64 om_ om_)) ?_
  refine RW_m ?_
  refine RW_nil ?_
  have hsuc : nodesTo minis size sts mst fat mt (ns.map Nm.nd) (k + 1) (dl, wl, ol) = (entF (128 * k) (ns.getD k default).nd kd st ln (nameF (128 * k) (ns.getD k default).nd q.1), wl', ol') := by
   show nodeF minis size sts mst fat mt (ns.map Nm.nd) k (nodesTo minis size sts mst fat mt (ns.map Nm.nd) k (dl, wl, ol)) = _
   rw [← hqe]; unfold nodeF; rw [nd_at ns k om_, hsw]
  refine QW_round (k + 1) ?_ om_ ?_ kp_
  ·rw [hsuc]; exact ⟨by omega, by rw [length_entF _ _ _ _ _ _ (by rw [length_nameF _ _ _ om_ hx.name]; omega), length_nameF _ _ _ om_ hx.name]; exact hq1, hf3.trans hW, hf4⟩
  rw [hsuc]; exact prm_
 refine CW_exit ?_
 refine QW_exit_then ?_
 refine QW_exit_then ?_
 refine QW_exit_block ?_
 refine (QW_lv [29,34,36,44,45] ?_)
 obtain rfl : k = ns.length := by omega
 refine CW_heap (Prm.perm (T := (b45, blk (bys q.1) 5) :: (b44, blk (bys q.2.1) 5) :: (bo, blk (bys q.2.2) 5) :: (g29, blk (nats sts ++ r29) 3) :: (g33, blk (nats mst ++ r33) 3) :: (b35, blk [.func (.func 27) #[] #[.pointer (some ⟨b34, 0, none⟩), .pointer (some ⟨b7, 0, none⟩)]] 73) :: (b34, blk [.slice (some ⟨bo, 0, none⟩) N N] 23) :: (bf, blk (u32s fat) 67) :: (b25, blk [.slice (some ⟨bf, 0, none⟩) fat.length fat.length] 22) :: (b7, blk [nv size] 3) :: (b30, blk (u32s mt) 67) :: (bl, blk (nms ns ++ rl) 43) :: (nmsH ns ++ F)) prm_) ?_
 rw [hqe]
 exact hk

theorem write_M {E : World} {Q : Exit → Act → World → Prop} {F : Heap} (hQ : QP Q) (b7 g29 stl c29 bf b25 b34 b35 bo b44 b45 size N T W D : Nat) (sts fat : List Nat) (r29 : List Value) (dl wl ol : List UInt8)  (hsz : 512 ≤ size ∧ size ≤ 4096) (hsl : stl = sts.length) (hsl3 : 3 ≤ sts.length) (hsb : ∀ y ∈ sts, y ≤ 4294967295) (hfb : ∀ y ∈ fat, y < 4294967296) (hT : T ≤ 100000) (hTf : T ≤ fat.length) (hN : size * (1 + T) = N) (hol : ol.length = N) (hwl : wl.length = W) (hdl : dl.length = D) (hW2 : W ≤ 100000000) (hDb : D ≤ 1000000) (hcW : ∀ j, j * size < W → walkP fat (sts.getD 2 0) j < T) (hcD : ∀ j, j * size < D → walkP fat (sts.getD 0 0) j < T)
  (hk : QW E 514 [(6, .slice (some ⟨bo, 0, none⟩) N N)] ((bo, blk (bys (fillF fat size dl (sts.getD 0 0) (fillF fat size wl (sts.getD 2 0) ol))) 5) :: F) .ret Q) :
  CW Tryd.prog E 514 [(29, .slice (some ⟨g29, 0, none⟩) stl c29), (34, .pointer (some ⟨b34, 0, none⟩)), (36, .func (.func 28) #[] #[.pointer (some ⟨b25, 0, none⟩), .pointer (some ⟨b35, 0, none⟩)]), (44, .slice (some ⟨b44, 0, none⟩) W W), (45, .slice (some ⟨b45, 0, none⟩) D D)] ((b45, blk (bys dl) 5) :: (b44, blk (bys wl) 5) :: (bo, blk (bys ol) 5) :: (g29, blk (nats sts ++ r29) 3) :: (b35, blk [.func (.func 27) #[] #[.pointer (some ⟨b34, 0, none⟩), .pointer (some ⟨b7, 0, none⟩)]] 73) :: (b34, blk [.slice (some ⟨bo, 0, none⟩) N N] 23) :: (bf, blk (u32s fat) 67) :: (b25, blk [.slice (some ⟨bf, 0, none⟩) fat.length fat.length] 22) :: (b7, blk [nv size] 3) :: F) (dig [1, 1, 1, 1, 1, 1, 1, 1, 1, 1, 1, 1, 1, 1, 1, 1, 1, 1, 1, 1, 1, 1, 1, 1, 1, 1, 1, 1, 1, 1, 1, 1, 1, 1, 1, 1, 1, 1, 1, 1, 1, 1, 1, 1, 1, 1, 1, 1] (bodyOf Tryd.f15)) Q := by
 have hNb : N ≤ 1000000000 := by
  have h1 : size * (1 + T) ≤ 4096 * 100001 := Nat.mul_le_mul hsz.2 om_
  omega
 have hl1 : (fillF fat size wl (sts.getD 2 0) ol).length = N := by
  rw [length_fillF om_ (fun j hj => by have h1 := hcW j om_; have h2 := sector_le2 (size := size) h1; omega)]; exact hol
 rw [show (b44, blk (bys wl) 5) = (b44, blk (bys wl ++ []) 5) by rw [List.append_nil], show (b45, blk (bys dl) 5) = (b45, blk (bys dl ++ []) 5) by rw [List.append_nil]]
 have hf1 := fill_ct b25 bf b35 b34 b7 bo b44 fat.length N W size (sts.getD 2 0) N fat wl ol [] (by omega) hol.symm (by omega) (by omega) (by omega) (by omega) (le_getD hsb (by omega)) hfb (fun j hj => by
  have h1 := hcW j om_
  have h2 := sector_le2 (size := size) h1
  omega)
 rw [hwl] at hf1
 have hf2 := fill_ct b25 bf b35 b34 b7 bo b45 fat.length N D size (sts.getD 0 0) N fat dl (fillF fat size wl (sts.getD 2 0) ol) [] (by omega) hl1.symm (by omega) (by omega) (by omega) (by omega) (le_getD hsb (by omega)) hfb (fun j hj => by
  have h1 := hcD j om_
  have h2 := sector_le2 (size := size) h1
  omega)
 rw [hdl] at hf2
 refine CW_sr ?_
 refine RW_m ?_
 refine RW_m ?_
 refine RW_l (Yl_index rfl rfl sl_29 om_ om_) ?_
 refine RW_h (Yh_load (v := nv (sts.getD 2 0)) rfl sc_3 mem_ (at_nats om_ om_)) ?_
 refine RW_m ?_
 refine RW_fx rfl rfl rfl (Fx_callV ok_28 (fs := []) (vs := [nv (sts.getD 2 0), .slice (some ⟨b44, 0, none⟩) W W]) (cs := [.pointer (some ⟨b25, 0, none⟩), .pointer (some ⟨b35, 0, none⟩)]) rfl rfl pk_ hf1) ?_
 rintro _ _ ⟨_, ⟨rfl, rfl⟩, rfl⟩
 refine RW_lv [29,34,36,45] ?_
 refine CW_sr ?_
 refine RW_m ?_
 refine RW_m ?_
 refine RW_l (Yl_index rfl rfl sl_29 om_ om_) ?_
 refine RW_h (Yh_load (v := nv (sts.getD 0 0)) rfl sc_3 mem_ (at_nats om_ om_)) ?_
 refine RW_m ?_
 refine RW_fx rfl rfl rfl (Fx_callV ok_28 (fs := []) (vs := [nv (sts.getD 0 0), .slice (some ⟨b45, 0, none⟩) D D]) (cs := [.pointer (some ⟨b25, 0, none⟩), .pointer (some ⟨b35, 0, none⟩)]) rfl rfl pk_ hf2) ?_
 rintro _ _ ⟨_, ⟨rfl, rfl⟩, rfl⟩
 refine RW_lv [34] ?_
 refine CW_sr ?_
 refine RW_h (Yh_ld (v := .slice (some ⟨bo, 0, none⟩) N N) sc_23) ?_
 refine RW_a ?_
 refine RW_lv [6] ?_
 refine CW_ret ?_
 refine QW_dropB (e := (b45, _)) rem_ ?_
 refine QW_dropB (e := (b44, _)) rem_ ?_
 refine QW_dropB (e := (g29, _)) rem_ ?_
 refine QW_dropB (e := (b35, _)) rem_ ?_
 refine QW_dropB (e := (b34, _)) rem_ ?_
 refine QW_dropB (e := (bf, _)) rem_ ?_
 refine QW_dropB (e := (b25, _)) rem_ ?_
 refine QW_dropB (e := (b7, _)) rem_ ?_
 exact QW_live (.cons rfl .nil) hk

theorem write_ct (bl cl v st : Nat) (ns : List Nm) (rl : List Value) (xs : List Nd) (hxe : xs = ns.map Nm.nd) (hxs : Ok xs) (hok : ∀ x ∈ ns, x.ok) (hv : v ≤ 4) (hst : st ≤ 1000) :
  Ct Tryd.prog 15 [.slice (some ⟨bl, 0, none⟩) ns.length cl, nv v, nv st] ((bl, blk (nms ns ++ rl) 43) :: nmsH ns)
   (fun u p => ∃ g, u = .slice (some ⟨g, 0, none⟩) (NF v xs) (NF v xs) ∧ p = (g, blk (bys (writeF v st xs)) 5) :: (bl, blk (nms ns ++ rl) 43) :: nmsH ns) := by
 refine Ct_of (c := bodyOf Tryd.f15) Tryd.func15 rfl Tryd.ntmps15 rfl ?_
 intro E F
 simp only [numL, List.cons_append]
 have hlen : xs.length = ns.length := by rw [hxe]; simp
 have hsm : (ns.map fun x => smallF x.nd) = smF xs := by rw [hxe]; simp [smF, Function.comp_def]
 have hlg : (ns.map fun x => largeF (sizeF v) x.nd) = lgF v xs := by rw [hxe]; simp [lgF, Function.comp_def]
 have hsz : 512 ≤ sizeF v ∧ sizeF v ≤ 4096 := by rcases sizeF_or v with e | e <;> omega
 have hper : 4 * perF v = sizeF v := by unfold perF; rcases sizeF_or v with e | e <;> omega
 have hn1 := hxs.len
 have hmi := miF_le hxs
 have hcsl := cs_sum_le (v := v) hxs
 have hft := ftF_ok (v := v) hxs
 have hmf := mfF_le (v := v) hxs
 have hds := dsF_le (v := v) hxs
 have hNF := NF_le (v := v) hxs
 have hchl := length_ch (v := v) (st := st) hxs
 have hmchl := length_mch (v := v) (st := st) hxs
 have hchm := ch_mem (v := v) (st := st) hxs
 have hmchm := mch_mem (v := v) (st := st) hxs
 have hsb : ∀ y ∈ (chF v st xs).outs, y ≤ 4294967295 := fun y hy => by have := hchm.2 y hy; omega
 have hmsb : ∀ y ∈ (mchF v st xs).outs, y ≤ 4294967295 := fun y hy => by have := hmchm.2 y hy; omega
 have hcse : countsF ns.length (smF xs).sum (sizeF v) (lgF v xs) = csF v xs := by rw [← hlen]; rfl
 have hdse : partsF ns.length (sizeF v / 128) = dsF v xs := by rw [← hlen]; rfl
 refine write_A (by intro _ _ _ _ _ h; exact h) v st bl cl ns rl om_ hok hv ?_
 intro b7 g8 g9 c8 c9 r8 r9 hl8 hl9
 rw [hsm] at hl8 ⊢
 rw [hlg] at hl9 ⊢
 refine write_B (by intro _ _ _ _ _ h; exact h) v st bl cl ns.length g8 g9 c8 c9 b7 (sizeF v) (smF xs) (lgF v xs) r8 r9 om_ (by rw [← hlen]; simp [smF]) (by rw [← hlen]; simp [lgF]) hsz (show miF xs ≤ 100000 by omega) (by rw [hcse]; omega) ?_
 intro g19 c19 r19 hl19
 rw [hcse] at hl19 ⊢
 rw [hdse]
 refine CW_heap (Prm.perm (T := (g8, blk (nats (smF xs) ++ r8) 3) :: (g19, blk (nats (csF v xs) ++ r19) 3) :: (b7, blk [nv (sizeF v)] 3) :: (bl, blk (nms ns ++ rl) 43) :: (nmsH ns ++ F)) prm_) ?_
 refine write_C (F := (b7, blk [nv (sizeF v)] 3) :: (bl, blk (nms ns ++ rl) 43) :: (nmsH ns ++ F)) (by intro _ _ _ _ _ h; exact h) st b7 g8 c8 g19 c19 (perF v) (ftF v xs) (mfF v xs) ns.length (ns.length + 3) (smF xs) (csF v xs) r8 r19 (by rw [← hlen]; simp [smF]) (by rw [length_csF, hlen]) rfl hst om_ hft.1 (by rw [length_csF]; omega) (by rw [length_csF]; omega) (by simp [smF]; omega) (show miF xs ≤ 100000 by omega) om_ hft.2.2.1 hmf.2.1 om_ ?_
 intro g24 c24 r24 b25 bf g29 c29 r29 b30 g33 c33 r33 hl24 hl29 hl33
 refine CW_heap (Prm.perm (T := (g19, blk (nats (csF v xs) ++ r19) 3) :: (g29, blk (nats (chF v st xs).outs ++ r29) 3) :: (b7, blk [nv (sizeF v)] 3) :: (g33, blk (nats (mchF v st xs).outs ++ r33) 3) :: (b30, blk (u32s (mchF v st xs).table) 67) :: (bf, blk (u32s (chF v st xs).table) 67) :: (b25, blk [.slice (some ⟨bf, 0, none⟩) (ftF v xs * perF v) (ftF v xs * perF v)] 22) :: (g24, blk (nats (plF v st xs) ++ r24) 3) :: (bl, blk (nms ns ++ rl) 43) :: (nmsH ns ++ F)) prm_) ?_
 refine write_D (by intro _ _ _ _ _ h; exact h) v b7 g19 (ns.length + 3) c19 g29 (ns.length + 3) c29 (sizeF v) (dsF v xs) (csF v xs).sum (ftF v xs) (NF v xs) (csF v xs) (chF v st xs).outs r19 r29 (sizeF_or v) (by rw [length_csF, hlen]) (by rw [length_csF]; omega) om_ om_ (by rw [cs_1]; omega) (le_getD hsb om_) (le_getD hsb om_) om_ om_ hv om_ (by unfold NF TF; rw [Nat.add_assoc]) hNF.1 om_ ?_
 intro bo b34 b35
 refine CW_heap (Prm.perm (T := (bo, blk (bys (out0F v st xs)) 5) :: (b35, blk [.func (.func 27) #[] #[.pointer (some ⟨b34, 0, none⟩), .pointer (some ⟨b7, 0, none⟩)]] 73) :: (b34, blk [.slice (some ⟨bo, 0, none⟩) (NF v xs) (NF v xs)] 23) :: (bf, blk (u32s (chF v st xs).table) 67) :: (b25, blk [.slice (some ⟨bf, 0, none⟩) (ftF v xs * perF v) (ftF v xs * perF v)] 22) :: (g24, blk (nats (plF v st xs) ++ r24) 3) :: (b7, blk [nv (sizeF v)] 3) :: (g29, blk (nats (chF v st xs).outs ++ r29) 3) :: (g33, blk (nats (mchF v st xs).outs ++ r33) 3) :: (b30, blk (u32s (mchF v st xs).table) 67) :: (bl, blk (nms ns ++ rl) 43) :: (nmsH ns ++ F)) prm_) ?_
 rw [← hchl.1, show (csF v xs).sum + ftF v xs = (plF v st xs).length from (length_plF hxs).symm]
 refine write_E (by intro _ _ _ _ _ h; exact h) b7 g24 c24 bf b25 b34 b35 bo (sizeF v) (perF v) (ftF v xs) (NF v xs) (TF v xs) (plF v st xs) (chF v st xs).table r24 (out0F v st xs) hsz hper (pl_lt hxs) hl24 (by rw [length_plF hxs]; unfold TF; omega) om_ (by rw [hchl.1]; omega) hchm.1 om_ rfl hNF.1 (length_out0F hxs) ?_
 refine CW_heap (Prm.perm (T := (bo, blk (bys (out1F v st xs)) 5) :: (b35, blk [.func (.func 27) #[] #[.pointer (some ⟨b34, 0, none⟩), .pointer (some ⟨b7, 0, none⟩)]] 73) :: (b34, blk [.slice (some ⟨bo, 0, none⟩) (NF v xs) (NF v xs)] 23) :: (bf, blk (u32s (chF v st xs).table) 67) :: (b25, blk [.slice (some ⟨bf, 0, none⟩) (chF v st xs).table.length (chF v st xs).table.length] 22) :: (b30, blk (u32s (mchF v st xs).table) 67) :: (g29, blk (nats (chF v st xs).outs ++ r29) 3) :: (b7, blk [nv (sizeF v)] 3) :: (g24, blk (nats (plF v st xs) ++ r24) 3) :: (g33, blk (nats (mchF v st xs).outs ++ r33) 3) :: (bl, blk (nms ns ++ rl) 43) :: (nmsH ns ++ F)) prm_) ?_
 rw [← hmchl.1]
 refine write_F (by intro _ _ _ _ _ h; exact h) b7 g29 (ns.length + 3) c29 b30 bf b25 b34 b35 bo (sizeF v) (NF v xs) (TF v xs) (chF v st xs).outs (mchF v st xs).table (chF v st xs).table r29 (out1F v st xs) hsz om_ om_ (le_getD hsb om_) om_ hmchm.1 hchm.1 om_ (by rw [hchl.1]; omega) rfl (length_out1F hxs) (fun k hk => fill1_ok hxs (by rw [length_tabF]; exact hk)) ?_
 refine CW_heap (Prm.perm (T := (b7, blk [nv (sizeF v)] 3) :: (bo, blk (bys (out2F v st xs)) 5) :: (b35, blk [.func (.func 27) #[] #[.pointer (some ⟨b34, 0, none⟩), .pointer (some ⟨b7, 0, none⟩)]] 73) :: (b34, blk [.slice (some ⟨bo, 0, none⟩) (NF v xs) (NF v xs)] 23) :: (bf, blk (u32s (chF v st xs).table) 67) :: (b25, blk [.slice (some ⟨bf, 0, none⟩) (chF v st xs).table.length (chF v st xs).table.length] 22) :: (b30, blk (u32s (mchF v st xs).table) 67) :: (g29, blk (nats (chF v st xs).outs ++ r29) 3) :: (g24, blk (nats (plF v st xs) ++ r24) 3) :: (g33, blk (nats (mchF v st xs).outs ++ r33) 3) :: (bl, blk (nms ns ++ rl) 43) :: (nmsH ns ++ F)) prm_) ?_
 refine write_G (by intro _ _ _ _ _ h; exact h) b7 (sizeF v) (miF xs) (dsF v xs) hsz om_ om_ ?_
 intro b44 b45
 refine CW_heap (Prm.perm (T := (b45, blk (bys (dirTo (dsF v xs * sizeF v / 128) (List.replicate (dsF v xs * sizeF v) 0))) 5) :: (b44, blk (bys (List.replicate (64 * miF xs) 0)) 5) :: (bo, blk (bys (out2F v st xs)) 5) :: (g29, blk (nats (chF v st xs).outs ++ r29) 3) :: (g33, blk (nats (mchF v st xs).outs ++ r33) 3) :: (b35, blk [.func (.func 27) #[] #[.pointer (some ⟨b34, 0, none⟩), .pointer (some ⟨b7, 0, none⟩)]] 73) :: (b34, blk [.slice (some ⟨bo, 0, none⟩) (NF v xs) (NF v xs)] 23) :: (bf, blk (u32s (chF v st xs).table) 67) :: (b25, blk [.slice (some ⟨bf, 0, none⟩) (chF v st xs).table.length (chF v st xs).table.length] 22) :: (b7, blk [nv (sizeF v)] 3) :: (b30, blk (u32s (mchF v st xs).table) 67) :: (bl, blk (nms ns ++ rl) 43) :: ((g24, blk (nats (plF v st xs) ++ r24) 3) :: (nmsH ns ++ F))) prm_) ?_
 refine CW_heap (perm_in2 [(b45, _), (b44, _), (bo, _), (g29, _), (g33, _), (b35, _), (b34, _), (bf, _), (b25, _), (b7, _), (b30, _), (bl, _)] (g24, blk (nats (plF v st xs) ++ r24) 3) (nmsH ns) F) ?_
 have hxk : ∀ k, k < ns.length → xs.getD k default = (ns.getD k default).nd := fun k hk => by rw [hxe]; exact nd_at ns k hk
 refine write_L (F := (g24, blk (nats (plF v st xs) ++ r24) 3) :: F) (by intro _ _ _ _ _ h; exact h) b7 g29 (ns.length + 3) c29 b30 bf b25 b34 b35 bo g33 ns.length c33 b44 b45 bl cl (sizeF v) (NF v xs) (TF v xs) (miF xs) (64 * miF xs) (dsF v xs * sizeF v) ns rl (chF v st xs).outs (mchF v st xs).outs (mchF v st xs).table (chF v st xs).table r29 r33 (dirTo (dsF v xs * sizeF v / 128) (List.replicate (dsF v xs * sizeF v) 0)) (List.replicate (64 * miF xs) 0) (out2F v st xs)
  hok om_ hsz om_ om_ om_ om_ hsb hmsb om_ hmchm.1 hchm.1 om_ (by rw [hchl.1]; omega) rfl (length_out2F hxs) rfl om_ (by simp) (by rw [hmchl.1]; omega) (by rw [length_dirTo _ _ (by simp; omega)]; simp) om_ om_
  (fun k hk _ hs hl j hj => by rw [← hxk k hk] at hs hl hj; exact node1_ok hxs om_ hs hl hj) (fun k hk _ hs hl j hj => by rw [← hxk k hk] at hs hl hj; exact node2_ok hxs om_ hs hl hj) ?_
 rw [← hxe, ← hlen]
 have hnm : ∀ x ∈ xs, x.name.length ≤ 31 := by
  intro x hx
  rw [hxe] at hx
  obtain ⟨y, hy, rfl⟩ := List.mem_map.1 hx
  exact (hok y hy).name
 obtain ⟨hq1, hq2, hq3⟩ := nodesTo_len (v := v) (st := st) hxs hnm xs.length (Nat.le_refl _) (ndsF v st xs) rfl
 refine CW_heap (Prm.perm (T := (b45, blk (bys (ndsF v st xs).1) 5) :: (b44, blk (bys (ndsF v st xs).2.1) 5) :: (bo, blk (bys (ndsF v st xs).2.2) 5) :: (g29, blk (nats (chF v st xs).outs ++ r29) 3) :: (b35, blk [.func (.func 27) #[] #[.pointer (some ⟨b34, 0, none⟩), .pointer (some ⟨b7, 0, none⟩)]] 73) :: (b34, blk [.slice (some ⟨bo, 0, none⟩) (NF v xs) (NF v xs)] 23) :: (bf, blk (u32s (chF v st xs).table) 67) :: (b25, blk [.slice (some ⟨bf, 0, none⟩) (chF v st xs).table.length (chF v st xs).table.length] 22) :: (b7, blk [nv (sizeF v)] 3) :: (g33, blk (nats (mchF v st xs).outs ++ r33) 3) :: (b30, blk (u32s (mchF v st xs).table) 67) :: (bl, blk (nms ns ++ rl) 43) :: (nmsH ns ++ ((g24, blk (nats (plF v st xs) ++ r24) 3) :: F))) prm_) ?_
 refine write_M (by intro _ _ _ _ _ h; exact h) b7 g29 (xs.length + 3) c29 bf b25 b34 b35 bo b44 b45 (sizeF v) (NF v xs) (TF v xs) (64 * miF xs) (dsF v xs * sizeF v) (chF v st xs).outs (chF v st xs).table r29 (ndsF v st xs).1 (ndsF v st xs).2.1 (ndsF v st xs).2.2 hsz om_ om_ hsb hchm.1 om_ (by rw [hchl.1]; omega) rfl hq3 hq2 hq1 om_ om_
  (fun j hj => ch_walk_lt hxs om_ (by rw [cs_2, lt_partsF om_]; omega)) (fun j hj => ch_walk_lt hxs om_ (by rw [cs_0]; exact Nat.lt_of_mul_lt_mul_right hj)) ?_
 refine QW_dropB (e := (g33, _)) rem_ ?_
 refine QW_dropB (e := (b30, _)) rem_ ?_
 refine QW_heap (perm_in2 [(bo, _), (bl, _)] (g24, blk (nats (plF v st xs) ++ r24) 3) (nmsH ns) F).symm ?_
 refine QW_dropB (e := (g24, _)) rem_ ?_
 exact QW_ret1 rfl rfl ((bo, blk (bys (writeF v st xs)) 5) :: (bl, blk (nms ns ++ rl) 43) :: nmsH ns) ⟨bo, rfl, rfl⟩ (Prm.nil _)

section
variable {P : Program} {L : Fra} {dst : Option Tmp} {ty : TypeId} {pos : String} {aft : Array Edge} {gd : Option (Nat × Bool)}
theorem Yl_rune {x : Operand} {n : Nat} {t u : TypeId} (hx : ev L x = some (.int .i32 (n : Int))) (ht : inOf P t = some .i32) (hu : isStr P u = true) (hn : n < 128) :
    Yl P L ⟨dst, .convert t u x, ty, pos, aft, gd⟩ (.string (bar [UInt8.ofNat n])) := by
  intro _ a w hf
  have h1 := inOf_u ht
  have h2 := isStr_u hu
  have h3 := encode_small n hn
  simp only [Int.ofNat_eq_natCast] at h3
  simp [execOp, hf.eval hx, convert, underlying, h1, h2, Conv.intToString, h3]
  rfl
theorem Yl_concatB {x y : Operand} {a b : List UInt8} {t u : TypeId} (hx : ev L x = some (.string (bar a))) (hy : ev L y = some (.string (bar b))) (hs : a.length + b.length ≤ 1000000) :
    Yl P L ⟨dst, .binOp .add t x y u, ty, pos, aft, gd⟩ (.string (bar (a ++ b))) := by
  have h := Yl_concat (P := P) (dst := dst) (ty := ty) (pos := pos) (aft := aft) (gd := gd) (t := t) (u := u) hx hy (by simp [bar, ByteArray.size]; omega)
  have e : bar a ++ bar b = bar (a ++ b) := by
    apply ByteArray.ext
    simp [bar]
  rw [e] at h; exact h
end
structure PsOk (ps : List Value) : Prop where
  cap : ∀ c, 65 ≤ c → c ≤ 90 → ps[c]? = some (.int .u8 160)
  ctl : ∀ c, 1 ≤ c → c ≤ 31 → ps[c]? = some (.int .u8 1)
theorem and_160 : ∀ w, (Op.intBits .and .u8 160 128).run Tryd.prog w = .ok (.int .u8 128) w := by
  intro w
  simp [Op.intBits]
  rfl
theorem nmOk_cap {ps : List Value} (hp : PsOk ps) {x : Nd} (h1 : 1 ≤ x.name.length) (h2 : x.name.length ≤ 31) (h3 : ∀ c ∈ x.name, c.toNat < 128) (h4 : 65 ≤ (x.name.getD 0 0).toNat ∧ (x.name.getD 0 0).toNat ≤ 90) : NmOk ps x x.name :=
  ⟨h1, h2, h3, 160, 128, hp.cap _ h4.1 h4.2, and_160, by simp⟩
theorem nms_set (ns : List Nm) (k j : Nat) (v : Value) (x : Nm) (r : List Value) (hk : k < ns.length) (hj : j < 28) (hx : x.cells = (ns.getD k default).cells.set j v) : (nms ns ++ r).set (k * 28 + j) v = nms (ns.set k x) ++ r := by
  induction ns generalizing k with
  | nil => simp at hk
  | cons y t ih =>
    cases k with
    | zero =>
      have hy : (List.getD (y :: t) 0 default) = y := rfl
      rw [hy] at hx
      simp only [List.flatMap_cons, List.set_cons_zero, hx, Nat.zero_mul, Nat.zero_add]
      rw [List.append_assoc, List.set_append_left _ _ (by rw [Nm.length_cells]; exact hj), List.append_assoc]
    | succ k =>
      have hy : (List.getD (y :: t) (k + 1) default) = t.getD k default := by simp [List.getD_eq_getElem?_getD]
      rw [hy] at hx
      have hi := ih k (by simpa using hk) hx
      simp only [List.flatMap_cons, List.set_cons_succ]
      rw [List.append_assoc, List.set_append_right _ _ (by rw [Nm.length_cells, Nat.add_mul]; omega), Nm.length_cells, show (k + 1) * 28 + j - 28 = k * 28 + j by rw [Nat.add_mul]; omega, hi, List.append_assoc]
def plainNd (name : List UInt8) (l r c : Int) : Nd := ⟨name, false, [], l, r, c, List.replicate 16 0, List.replicate 4 0, 0, 0, by simp, by simp⟩
def plainNm (name : List UInt8) (l r c : Int) : Nm := ⟨plainNd name l r c, none, 0, []⟩
theorem plainNm_ok {name : List UInt8} {l r c : Int} (hn : name.length ≤ 31) (hl : -1 ≤ l ∧ l ≤ 100000) (hr : -1 ≤ r ∧ r ≤ 100000) (hc : -1 ≤ c ∧ c ≤ 100000) : (plainNm name l r c).ok :=
  ⟨fun _ => rfl, by simp [plainNm, plainNd], by simp [plainNm, plainNd], hn, hl, hr, hc, by simp [plainNm, plainNd], by simp [plainNm, plainNd]⟩
def verF (four : Bool) : Nat := if four = true then 4 else 3
theorem verF_or (four : Bool) : verF four = 3 ∨ verF four = 4 := by cases four <;> simp [verF]
theorem Entries_good {ps : List Value} {T : TypeId} {four : Bool} {st : Nat} {xs : List Nd} {nmF : Nat → List UInt8} (hx : Ok xs) (hnm : ∀ k, k < xs.length → NmOk ps (xs.getD k default) (nmF k)) (hlk : ∀ x ∈ xs, x.left ≤ 4294967295 ∧ x.right ≤ 4294967295 ∧ x.child ≤ 4294967295) (hN : NF (verF four) xs ≤ 131072) (gI : Nat) (hg : 2 ≠ gI)
    (hb : (STv (tnsF (verF four) xs nmF)).bad = false) :
    Ct Tryd.prog 18 [.slice (some ⟨gI, 0, none⟩) (NF (verF four) xs) (NF (verF four) xs)] [(gI, blk (bys (writeF (verF four) st xs)) 5), (2, blk ps T)] (fun v q => ∃ (fs : List Fil) (pth : Nat → List (List UInt8)) (out : List Nat) (g : Option Nat) (cap : Nat) (r : List Value) (rows : List (List Value)) (pp : Heap), pth = (STv (tnsF (verF four) xs nmF)).pth ∧ out = (STv (tnsF (verF four) xs nmF)).out ∧ fs.map (fun f => f.en.noPath) = (esF (verF four) st xs nmF).map En.noPath ∧ RowsOk fs pth pp out rows ∧ oOk g rows.flatten r out.length cap 27 ∧ v = .tuple #[osl g out.length cap, nv 0] ∧ q = (gI, blk (bys (writeF (verF four) st xs)) 5) :: (2, blk ps T) :: (oH g (rows.flatten ++ r) 41 ++ pp)) := by
  have hf := fileIn (v := verF four) (st := st) ps hx (verF_or four) hnm hlk
  have hd := dsF_le (v := verF four) hx
  have hs := size_ge (verF four)
  have hz : sizeF (verF four) / 128 * 128 = sizeF (verF four) := by rcases sizeF_or (verF four) with e | e <;> rw [e]
  have hcn : (tnsF (verF four) xs nmF).length ≤ 100000 := by
    have : dsF (verF four) xs * (sizeF (verF four) / 128) ≤ 5 * 32 := Nat.mul_le_mul hd.2.1 om_
    simp [tnsF, cntF]; omega
  have h := Entries_ok gI (NF (verF four) xs) [] _ _ _ _ _ _ _ _ _ _ _ ps T _ _ _ _ hf hN hg hb ?_ (pth_small _ hcn) (out_small _ hcn)
  · rw [List.append_nil] at h; exact h
  intro e he
  obtain ⟨k, hk, rfl⟩ := List.mem_map.1 he
  have hk' := List.mem_range.1 hk
  have hpos : 0 < sizeF (verF four) / 128 := by omega
  have hj : k / (sizeF (verF four) / 128) < dsF (verF four) xs := (Nat.div_lt_iff_lt_mul hpos).2 hk'
  have hi : k % (sizeF (verF four) / 128) < sizeF (verF four) / 128 := Nat.mod_lt _ hpos
  have hkk : k / (sizeF (verF four) / 128) * (sizeF (verF four) / 128) + k % (sizeF (verF four) / 128) = k := by rw [Nat.mul_comm]; exact Nat.div_add_mod _ _
  have h1 := enF_ok (st := st) ps hx hnm hj hi
  rw [hkk] at h1
  refine h1.dcOk ?_ ?_
  · have hl := (nTo_len (v := verF four) (st := st) hx (nds_at ps hx hnm) (Nat.le_refl _)).1
    rw [nTo_all] at hl
    have hle : k / (sizeF (verF four) / 128) * sizeF (verF four) + sizeF (verF four) ≤ dsF (verF four) xs * sizeF (verF four) := by rw [← Nat.succ_mul]; exact Nat.mul_le_mul_right _ hj
    unfold dsecF
    simp [hl]; omega
  unfold enF
  split
  · have := ((xs.getD k default).name.getD 0 0).toNat_lt
    simp only; omega
  simp
theorem Entries_wrong {ps : List Value} {T : TypeId} {four : Bool} {st : Nat} {xs : List Nd} {nmF : Nat → List UInt8} (hx : Ok xs) (hnm : ∀ k, k < xs.length → NmOk ps (xs.getD k default) (nmF k)) (hlk : ∀ x ∈ xs, x.left ≤ 4294967295 ∧ x.right ≤ 4294967295 ∧ x.child ≤ 4294967295) (hN : NF (verF four) xs ≤ 131072) (gI : Nat) (hg : 2 ≠ gI)
    (hb : (STv (tnsF (verF four) xs nmF)).bad = true) :
    Ct Tryd.prog 18 [.slice (some ⟨gI, 0, none⟩) (NF (verF four) xs) (NF (verF four) xs)] [(gI, blk (bys (writeF (verF four) st xs)) 5), (2, blk ps T)] (fun v q => v = .tuple #[.slice none 0 0, nv 5] ∧ q = [(gI, blk (bys (writeF (verF four) st xs)) 5), (2, blk ps T)]) := by
  have hf := fileIn (v := verF four) (st := st) ps hx (verF_or four) hnm hlk
  have h := Entries_bad gI (NF (verF four) xs) [] _ _ _ _ _ _ _ _ _ _ _ ps T _ _ _ _ hf hN hg hb
  rw [List.append_nil] at h; exact h

theorem Ct.ne {P : Program} {f : FuncId} {args : List Value} {a b : Nat} {x y : Obj} {r : Heap} {R : Value → Heap → Prop} (h : b ≠ a → Ct P f args ((a, x) :: (b, y) :: r) R) : Ct P f args ((a, x) :: (b, y) :: r) R := by
  intro E F w hh
  refine h ?_ E F w hh
  have := hh.nodup
  simp only [List.cons_append, List.map_cons, List.nodup_cons, List.mem_cons] at this
  intro e
  exact this.1 (.inl e.symm)
theorem Ct.less {P : Program} {f : FuncId} {args : List Value} {pre : Heap} {R R' : Value → Heap → Prop} (h : Ct P f args pre R) (hr : ∀ v post, R v post → ∃ post', R' v post' ∧ post'.Sublist post) : Ct P f args pre R' := by
  intro E F w hh
  refine (h E F w hh).mono ?_
  rintro e w' ⟨v, post, he, hR, ha⟩
  obtain ⟨post', h1, h2⟩ := hr v post hR
  exact ⟨v, post', he, h1, ha.sub (h2.append_right F)⟩
theorem Entries_code0 {ps : List Value} {T : TypeId} {four : Bool} {st : Nat} {xs : List Nd} {nmF : Nat → List UInt8} (hx : Ok xs) (hnm : ∀ k, k < xs.length → NmOk ps (xs.getD k default) (nmF k)) (hlk : ∀ x ∈ xs, x.left ≤ 4294967295 ∧ x.right ≤ 4294967295 ∧ x.child ≤ 4294967295) (hN : NF (verF four) xs ≤ 131072) (gI : Nat)
    (hb : (STv (tnsF (verF four) xs nmF)).bad = false) :
    Ct Tryd.prog 18 [.slice (some ⟨gI, 0, none⟩) (NF (verF four) xs) (NF (verF four) xs)] [(gI, blk (bys (writeF (verF four) st xs)) 5), (2, blk ps T)] (fun v q => ∃ e, e = v ∧ (∃ u, e = .tuple #[u, nv 0]) ∧ q = [(gI, blk (bys (writeF (verF four) st xs)) 5), (2, blk ps T)]) := by
  refine Ct.ne fun hg => (Entries_good hx hnm hlk hN gI hg hb).less ?_
  rintro v post ⟨fs, pth, out, g, cap, r, rows, pp, _, _, _, _, _, rfl, rfl⟩
  exact ⟨_, ⟨_, rfl, ⟨_, rfl⟩, rfl⟩, .cons_cons _ (.cons_cons _ (List.nil_sublist _))⟩
theorem Entries_code5 {ps : List Value} {T : TypeId} {four : Bool} {st : Nat} {xs : List Nd} {nmF : Nat → List UInt8} (hx : Ok xs) (hnm : ∀ k, k < xs.length → NmOk ps (xs.getD k default) (nmF k)) (hlk : ∀ x ∈ xs, x.left ≤ 4294967295 ∧ x.right ≤ 4294967295 ∧ x.child ≤ 4294967295) (hN : NF (verF four) xs ≤ 131072) (gI : Nat)
    (hb : (STv (tnsF (verF four) xs nmF)).bad = true) :
    Ct Tryd.prog 18 [.slice (some ⟨gI, 0, none⟩) (NF (verF four) xs) (NF (verF four) xs)] [(gI, blk (bys (writeF (verF four) st xs)) 5), (2, blk ps T)] (fun v q => v = .tuple #[.slice none 0 0, nv 5] ∧ q = [(gI, blk (bys (writeF (verF four) st xs)) 5), (2, blk ps T)]) :=
  Ct.ne fun hg => Entries_wrong hx hnm hlk hN gI hg hb
theorem NF_few {v : Nat} {xs : List Nd} (h : Ok xs) : NF v xs ≤ 4096 * (2 + 2 * (csF v xs).sum) := by
  have hf : ftF v xs ≤ (csF v xs).sum + 1 := (fatsF_ok (sum := (csF v xs).sum) (per := perF v) (by have := per4 v; have := size_ge v; omega)).2.2
  have hs := size_ge v
  unfold NF TF
  exact Nat.mul_le_mul hs.2 om_
theorem cnt_le {v : Nat} {xs : List Nd} (h : Ok xs) : xs.length ≤ cntF v xs ∧ cntF v xs ≤ 32 := by
  have hl := h.len
  have hd := dsF_le (v := v) h
  unfold cntF dsF partsF
  rcases sizeF_or v with e | e <;> rw [e] <;> omega
theorem no_streams {v : Nat} {xs : List Nd} (h : Ok xs) (hs : ∀ x ∈ xs, x.stream = false) : (csF v xs).sum ≤ 5 := by
  have h1 : ∀ x ∈ smF xs, x ≤ 0 := by
    intro y hy; obtain ⟨x, hx, rfl⟩ := List.mem_map.1 hy; unfold smallF; rw [if_neg (by rw [hs x hx]; simp)]; omega
  have h2 : ∀ x ∈ lgF v xs, x ≤ 0 := by
    intro y hy; obtain ⟨x, hx, rfl⟩ := List.mem_map.1 hy; unfold largeF; rw [if_neg (by rw [hs x hx]; simp)]; omega
  have h3 := sum_le h1
  have h4 := sum_le h2
  have h5 : miF xs = 0 := by unfold miF; omega
  have hd := dsF_le (v := v) h
  have hz := size_ge v
  have hp := per4 v
  have e0 : ∀ p, 0 < p → partsF 0 p = 0 := fun p hp => by unfold partsF; rw [Nat.div_eq_of_lt om_]
  rw [cs_sum h, h5]
  have : mfF v xs = 0 := by unfold mfF; rw [h5]; exact e0 _ om_
  rw [this, Nat.zero_mul, e0 _ om_]
  omega
/-! ### FnLoop -/
def lnName (k : Nat) : List UInt8 := [83] ++ [UInt8.ofNat (65 + k)]
def lnNm (n k : Nat) : Nm := plainNm (lnName k) (-1) (-1) (if k + 1 < n then ((k + 1 : Nat) : Int) else -1)
def lns (n i : Nat) : List Nm := (List.range i).map (lnNm n)
theorem lns_len (n i : Nat) : (lns n i).length = i := by simp [lns]
theorem lns_at {n i k : Nat} (h : k < i) : (lns n i).getD k default = lnNm n k := range_getD _ h
theorem lns_succ (n i : Nat) : lns n (i + 1) = lns n i ++ [lnNm n i] := by simp [lns, List.range_succ]
theorem nms_append (a b : List Nm) : nms (a ++ b) = nms a ++ nms b := by simp [nms]
structure LnOk (n : Nat) (ns : List Nm) : Prop where
  len : ns.length = n
  is : ∀ k, k < n → ∃ l r c : Int, ns.getD k default = plainNm (lnName k) l r c ∧ (-1 ≤ l ∧ l ≤ 1000) ∧ (-1 ≤ r ∧ r ≤ 1000) ∧ (-1 ≤ c ∧ c ≤ 1000)
theorem LnOk.mem {n : Nat} {ns : List Nm} (h : LnOk n ns) {x : Nm} (hx : x ∈ ns) : ∃ k l r c, k < n ∧ x = plainNm (lnName k) l r c ∧ (-1 ≤ l ∧ l ≤ 1000) ∧ (-1 ≤ r ∧ r ≤ 1000) ∧ (-1 ≤ c ∧ c ≤ 1000) := by
  obtain ⟨k, hk, rfl⟩ := List.mem_iff_getElem.1 hx
  rw [h.len] at hk
  obtain ⟨l, r, c, h1, h2⟩ := h.is k hk
  refine ⟨k, l, r, c, hk, ?_, h2⟩
  rw [← h1]; simp [List.getD_eq_getElem?_getD, h.len, hk]
theorem LnOk.heap {n : Nat} {ns : List Nm} (h : LnOk n ns) : nmsH ns = [] := by
  rw [List.flatMap_eq_nil_iff]
  intro x hx
  obtain ⟨k, l, r, c, _, rfl, _⟩ := h.mem hx
  rfl
theorem LnOk.ok {n : Nat} {ns : List Nm} (h : LnOk n ns) : ∀ x ∈ ns, x.ok := by
  intro x hx
  obtain ⟨k, l, r, c, _, rfl, h1, h2, h3⟩ := h.mem hx
  exact plainNm_ok (by simp [lnName]) om_ om_ om_
theorem LnOk.xs {n : Nat} {ns : List Nm} (h : LnOk n ns) (hn : 1 ≤ n ∧ n ≤ 20) : Ok (ns.map Nm.nd) := by
  refine ⟨by simp [h.len]; exact hn, ?_⟩
  intro x hx
  obtain ⟨y, hy, rfl⟩ := List.mem_map.1 hx
  exact (h.ok y hy).small
theorem LnOk.at {n : Nat} {ns : List Nm} (h : LnOk n ns) {k : Nat} (hk : k < n) : (ns.map Nm.nd).getD k default = (ns.getD k default).nd := by
  have := h.len
  simp [List.getD_eq_getElem?_getD, show k < ns.length by omega]
theorem LnOk.names {ps : List Value} (hp : PsOk ps) {n : Nat} {ns : List Nm} (h : LnOk n ns) (hn : n ≤ 20) : ∀ k, k < (ns.map Nm.nd).length → NmOk ps ((ns.map Nm.nd).getD k default) (lnName k) := by
  intro k hk
  have hk' : k < n := by simpa [h.len] using hk
  obtain ⟨l, r, c, h1, _⟩ := h.is k hk'
  rw [h.at hk', h1]
  refine nmOk_cap (x := plainNd (lnName k) l r c) hp (by simp [plainNd, lnName]) (by simp [plainNd, lnName]) ?_ (by simp [plainNd, lnName])
  intro y hy
  simp only [plainNd, lnName, List.mem_append, List.mem_singleton] at hy
  rcases hy with rfl | rfl
  · decide
  rw [UInt8.toNat_ofNat']; omega
theorem LnOk.lnk {n : Nat} {ns : List Nm} (h : LnOk n ns) : ∀ x ∈ ns.map Nm.nd, x.left ≤ 4294967295 ∧ x.right ≤ 4294967295 ∧ x.child ≤ 4294967295 := by
  intro x hx
  obtain ⟨y, hy, rfl⟩ := List.mem_map.1 hx
  obtain ⟨k, l, r, c, _, rfl, h1, h2, h3⟩ := h.mem hy
  simp only [plainNm, plainNd]
  omega
theorem LnOk.size {n : Nat} {ns : List Nm} (h : LnOk n ns) (hn : 1 ≤ n ∧ n ≤ 20) (v : Nat) : NF v (ns.map Nm.nd) ≤ 131072 := by
  have h1 := NF_few (v := v) (h.xs hn)
  have h2 := no_streams (v := v) (h.xs hn) (by
    intro x hx
    obtain ⟨y, hy, rfl⟩ := List.mem_map.1 hx
    obtain ⟨k, l, r, c, _, rfl, _⟩ := h.mem hy
    rfl)
  have := Nat.mul_le_mul_left 4096 (show 2 + 2 * (csF v (ns.map Nm.nd)).sum ≤ 12 by omega)
  omega
theorem LnOk.tn {n : Nat} {ns : List Nm} (h : LnOk n ns) (hn : 1 ≤ n ∧ n ≤ 20) (v : Nat) {k : Nat} (hk : k < n) : (tnsF v (ns.map Nm.nd) lnName).getD k default = ⟨lnName k, lnkF (ns.getD k default).nd.left, lnkF (ns.getD k default).nd.child, lnkF (ns.getD k default).nd.right⟩ := by
  have hc := cnt_le (v := v) (h.xs hn)
  have hl : (ns.map Nm.nd).length = n := by simp [h.len]
  rw [show (tnsF v (ns.map Nm.nd) lnName).getD k default = tnF (ns.map Nm.nd) lnName k from range_getD _ om_]
  unfold tnF
  rw [if_pos om_, h.at hk]
theorem tns_len (v : Nat) (xs : List Nd) (nmF : Nat → List UInt8) : (tnsF v xs nmF).length = cntF v xs := by simp [tnsF]
theorem lnkF_nat (k : Nat) : lnkF (k : Int) = k := by unfold lnkF; rw [if_pos om_]; simp
theorem lns_ok (n : Nat) (hn : n ≤ 20) : LnOk n (lns n n) := by
  refine ⟨lns_len _ _, fun k hk => ?_⟩
  rw [lns_at hk]
  exact ⟨-1, -1, _, rfl, by omega, by omega, by split <;> omega⟩
theorem loop_good (n v : Nat) (hn : 1 ≤ n ∧ n ≤ 20) : (STv (tnsF v ((lns n n).map Nm.nd) lnName)).bad = false := by
  have h := lns_ok n hn.2
  have hc := cnt_le (v := v) (h.xs hn)
  have hl : ((lns n n).map Nm.nd).length = n := by simp [h.len]
  refine trav_chain _ n (by rw [tns_len]; omega) ?_ (by rw [tns_len]; omega) _ 0 [] S0 om_ rfl (by rw [tns_len]; omega) rfl
  intro i hi
  rw [h.tn hn v hi, lns_at hi]
  refine ⟨rfl, rfl, ?_⟩
  by_cases h1 : i + 1 < n
  · left
    refine ⟨h1, ?_⟩
    show lnkF (if i + 1 < n then ((i + 1 : Nat) : Int) else -1) = i + 1
    rw [if_pos h1, lnkF_nat]
  right
  refine ⟨h1, ?_⟩
  show lnkF (if i + 1 < n then ((i + 1 : Nat) : Int) else -1) = FREE
  rw [if_neg h1]; rfl
theorem turn_ok {n k t : Nat} (hn : 1 ≤ n ∧ n ≤ 20) (hk : k < n) {l r : Int} (hl : -1 ≤ l ∧ l ≤ 1000) (hr : -1 ≤ r ∧ r ≤ 1000) : LnOk n ((lns n n).set k (plainNm (lnName k) l r (if k + 1 < n then ((k + 1 : Nat) : Int) else -1))) := by
  refine ⟨by simp [lns_len], fun j hj => ?_⟩
  by_cases e : k = j
  · subst e
    rw [List.getD_eq_getElem?_getD, List.getElem?_set_self (by rw [lns_len]; exact hk)]
    exact ⟨l, r, _, rfl, hl, hr, by split <;> omega⟩
  rw [List.getD_eq_getElem?_getD, List.getElem?_set_ne e, ← List.getD_eq_getElem?_getD, lns_at hj]
  exact ⟨-1, -1, _, rfl, by omega, by omega, by split <;> omega⟩
theorem loop_bad {n k t : Nat} (v : Nat) (hn : 1 ≤ n ∧ n ≤ 20) (hk : k < n) (ht : t ≤ k ∨ 100 ≤ t) (ht2 : t ≤ 1000) {l r : Int} (hlr : (l = (t : Int) ∧ r = -1) ∨ (l = -1 ∧ r = (t : Int))) :
    (STv (tnsF v (((lns n n).set k (plainNm (lnName k) l r (if k + 1 < n then ((k + 1 : Nat) : Int) else -1))).map Nm.nd) lnName)).bad = true := by
  have h := turn_ok (t := t) hn hk (l := l) (r := r) om_ om_
  have hc := cnt_le (v := v) (h.xs hn)
  obtain ⟨ns, hns⟩ : ∃ ns, ns = (lns n n).set k (plainNm (lnName k) l r (if k + 1 < n then ((k + 1 : Nat) : Int) else -1)) := ⟨_, rfl⟩
  rw [← hns] at h hc ⊢
  have hl : (ns.map Nm.nd).length = n := by simp [h.len]
  refine trav_ring _ k (by rw [tns_len]; omega) ?_ _ 0 [] S0 om_ (by show _ ≤ 0 + _; omega)
  intro i hi
  rw [tns_len]
  by_cases e : i = k
  · subst e
    have e1 : ns.getD i default = plainNm (lnName i) l r (if i + 1 < n then ((i + 1 : Nat) : Int) else -1) := by
      rw [hns, List.getD_eq_getElem?_getD, List.getElem?_set_self (by rw [lns_len]; exact hk)]; rfl
    refine ⟨t, by omega, by show t ≠ 4294967295; omega, ?_⟩
    rw [h.tn hn v hk, e1]
    rcases hlr with ⟨rfl, rfl⟩ | ⟨rfl, rfl⟩
    · left; exact lnkF_nat t
    right; right; exact lnkF_nat t
  have hik : i < n := by omega
  have e1 : ns.getD i default = lnNm n i := by
    rw [hns, List.getD_eq_getElem?_getD, List.getElem?_set_ne om_, ← List.getD_eq_getElem?_getD, lns_at hik]
  refine ⟨i + 1, by omega, by show i + 1 ≠ 4294967295; omega, .inr (.inl ?_)⟩
  rw [h.tn hn v hik, e1]
  show lnkF (if i + 1 < n then ((i + 1 : Nat) : Int) else -1) = i + 1
  rw [if_pos om_, lnkF_nat]

end Go.Proofs.YtgoddcicbpjknaaDoor

set_option maxRecDepth 100000
namespace Go.Proofs.YtgoddcicbpjknaaDoor
open Go
open Cfb
open Go.RowKit
def others (W : World) (ks : List Nat) : Heap := (List.range W.heap.size).filterMap fun i => if ks.contains i then none else (W.heap[i]?).map fun o => (i, o)
theorem others_mem {W : World} {ks : List Nat} {p : Nat × Obj} (h : p ∈ others W ks) : p.1 ∉ ks ∧ W.heap[p.1]? = some p.2 := by
  unfold others at h
  obtain ⟨i, _, hi⟩ := List.mem_filterMap.1 h
  split at hi
  · cases hi
  rename_i hc
  simp only [Option.map_eq_some_iff] at hi
  obtain ⟨o, ho, rfl⟩ := hi
  exact ⟨by simpa using hc, ho⟩
theorem others_has {W : World} {ks : List Nat} {i : Nat} {o : Obj} (hk : i ∉ ks) (ho : W.heap[i]? = some o) : (i, o) ∈ others W ks := by
  unfold others
  refine List.mem_filterMap.2 ⟨i, List.mem_range.2 ?_, ?_⟩
  · rcases Nat.lt_or_ge i W.heap.size with h | h
    · exact h
    rw [Array.getElem?_eq_none h] at ho; cases ho
  rw [if_neg (by simpa using hk), ho]; rfl
theorem others_sub (W : World) (ks : List Nat) : ∀ l : List Nat, ((l.filterMap fun i => if ks.contains i then none else (W.heap[i]?).map fun o => (i, o)).map Prod.fst).Sublist l := by
  intro l
  induction l with
  | nil => exact .slnil
  | cons i r ih =>
    rw [List.filterMap_cons]
    split
    · exact ih.cons i
    rename_i p hp
    have hpi : p.1 = i := by
      split at hp
      · cases hp
      simp only [Option.map_eq_some_iff] at hp
      obtain ⟨o, _, rfl⟩ := hp
      rfl
    rw [List.map_cons, hpi]
    exact ih.cons_cons i
theorem others_nodup (W : World) (ks : List Nat) : ((others W ks).map Prod.fst).Nodup := List.nodup_range.sublist (others_sub W ks _)
theorem HA.start {W : World} {pre : Heap} (hm : ∀ p ∈ pre, W.heap[p.1]? = some p.2) (hn : (pre.map Prod.fst).Nodup) : HA W W (pre ++ others W (pre.map Prod.fst)) := by
  refine ⟨rfl, rfl, rfl, ?_, ?_, Nat.le_refl _, ?_⟩
  · rw [List.map_append, List.nodup_append]
    refine ⟨hn, others_nodup _ _, ?_⟩
    intro a ha b hb e
    subst e
    obtain ⟨p, hp, rfl⟩ := List.mem_map.1 hb
    exact (others_mem hp).1 ha
  · intro p hp
    rcases List.mem_append.1 hp with h | h
    · exact hm p h
    exact (others_mem h).2
  intro b o hb ho
  rw [Array.getElem?_eq_none hb] at ho; cases ho
theorem HA.old {W w' : World} {pre : Heap} (hm : ∀ p ∈ pre, W.heap[p.1]? = some p.2) (h : HA W w' (pre ++ others W (pre.map Prod.fst))) {i : Nat} (hi : i < W.heap.size) : w'.heap[i]? = W.heap[i]? := by
  have ho : W.heap[i]? = some W.heap[i] := Array.getElem?_eq_getElem hi
  by_cases hk : i ∈ pre.map Prod.fst
  · obtain ⟨p, hp, rfl⟩ := List.mem_map.1 hk
    rw [h.mem p (List.mem_append_left _ hp), hm p hp]
  have := h.mem (i, W.heap[i]) (List.mem_append_right _ (others_has hk ho))
  rw [this, ho]
theorem HA.grown {W w' : World} {pre : Heap} (hm : ∀ p ∈ pre, W.heap[p.1]? = some p.2) (h : HA W w' (pre ++ others W (pre.map Prod.fst))) : Grown W w' := by
  refine ⟨⟨h.os, h.output, fun i hi => ?_⟩, fun a => ?_, h.size⟩
  · rw [h.old hm hi]
    cases hq : W.heap[i]? with
    | none => rfl
    | some o => cases o <;> first | exact ⟨rfl, rfl, rfl, fun _ _ => rfl⟩ | exact Or.inr ⟨rfl, rfl⟩ | rfl
  unfold World.frozen?
  rcases Nat.lt_or_ge a.block W.heap.size with hl | hl
  · rw [h.old hm hl]
  rw [Array.getElem?_eq_none hl]
  cases hq : w'.heap[a.block]? with
  | none => rfl
  | some o =>
    have hf := h.fresh _ _ hl hq
    cases o with
    | cells cs T fz =>
      obtain ⟨lo, hi⟩ := fz
      simp only [freeO, Bool.and_eq_true] at hf
      have e1 := Nat.eq_of_beq_eq_true hf.1
      have e2 := Nat.eq_of_beq_eq_true hf.2
      subst e1; subst e2
      simp
    | _ => rfl
theorem own : ownKnob Tryd.prog.godebug = none := by kernel_rfl
theorem gProps : Tryd.prog.globalNamed "unicode.properties" = some 2 := by kernel_rfl
theorem gPropsT : (Tryd.prog.globals[2]?).map (·.type) = some 162 := by kernel_rfl
theorem cells5 : Tryd.prog.cellsOf 5 = 1 := by kernel_rfl
theorem cells162 : Tryd.prog.cellsOf 162 = 256 := by kernel_rfl
end Go.Proofs.YtgoddcicbpjknaaDoor

set_option maxRecDepth 100000
namespace Go.Proofs.YtgoddcicbpjknaaDoor
open Go
open Cfb
open Go.ChangeShapes Go.WideShapes Go.ChangeAt Go.RowKit
def propOf : DataW Unit → Int
  | .lit (.int _ n) => n
  | _ => 0
def propsOf : DataW Unit → List Int
  | .agg l => l.map propOf
  | _ => []
def props : List Int := propsOf Rows.laid_unicode_properties
theorem props_eq : (Rows.laid_unicode_properties : DataW Unit) = Lib.tabData .u8 props := by kernel_rfl
abbrev propsV : List Value := props.map fun z => Value.int .u8 z
theorem props_cap : ((List.range 26).all fun i => decide (props[65 + i]? = some 160)) = true := by kernel_rfl
theorem props_ctl : ((List.range 31).all fun i => decide (props[1 + i]? = some 1)) = true := by kernel_rfl
theorem propsV_ok : PsOk propsV := by
  refine ⟨fun c h1 h2 => ?_, fun c h1 h2 => ?_⟩
  · have := List.all_eq_true.1 props_cap (c - 65) (List.mem_range.2 om_)
    rw [show 65 + (c - 65) = c by omega] at this
    rw [List.getElem?_map, of_decide_eq_true this]; rfl
  have := List.all_eq_true.1 props_ctl (c - 1) (List.mem_range.2 om_)
  rw [show 1 + (c - 1) = c by omega] at this
  rw [List.getElem?_map, of_decide_eq_true this]; rfl
theorem row2 : (((begin Tryd.prog (fun _ _ => 0) default).world.heap[2]?).bind Obj.row?).isSome = true := by kernel_rfl
theorem two_lt : 2 < Tryd.prog.globals.size := by
  have : Nat.blt 2 Tryd.prog.globals.size = true := by kernel_rfl
  exact Nat.le_of_ble_eq_true this
theorem props_tab {W : World} (h : laidMetH Tryd.prog [("unicode.properties", Rows.laid_unicode_properties)] W) : Lib.TabIs Tryd.prog W "unicode.properties" .u8 props := by
  have h1 : laidMet Tryd.prog [("unicode.properties", Rows.laid_unicode_properties)] W := h
  rw [props_eq] at h1
  have hu : Tryd.prog.underlying 162 = some (.array 256 5) := by kernel_rfl
  exact Lib.tabIs_of_head (rest := []) gProps gPropsT hu (inOf_u in_5) cells5 cells162 h1
theorem tab_block {W : World} (h : Lib.TabIs Tryd.prog W "unicode.properties" .u8 props) (hS : W.ShapedOpen Tryd.prog) : ∃ T, W.heap[2]? = some (blk propsV T) := by
  obtain ⟨⟨zero, t⟩, hr⟩ := Option.isSome_iff_exists.1 row2
  obtain ⟨cs, hc, _, _⟩ := hS.1 2 zero t two_lt hr
  refine ⟨t, ?_⟩
  rw [hc]
  have : cs = propsV.toArray := by
    apply Array.ext_getElem?
    intro i
    have h1 := World.var?_cell gProps h i
    have h2 : W.cell? ⟨2, i, none⟩ = cs[i]? := by simp [World.cell?, hc]
    rw [← h2, h1]
  rw [this]
end Go.Proofs.YtgoddcicbpjknaaDoor

set_option maxRecDepth 100000
namespace Go.Proofs.YtgoddcicbpjknaaDoor
open Go
open Cfb
open Go.ChangeShapes Go.WideShapes Go.ChangeAt Go.RowKit
theorem laidOut : laidOutB Tryd.prog = true := by kernel_rfl
theorem HA.below {W w' : World} {pre : Heap} (hm : ∀ p ∈ pre, W.heap[p.1]? = some p.2) (h : HA W w' (pre ++ others W (pre.map Prod.fst))) : Below W.heap.size W w' := ⟨h.os, h.tape, h.output, h.size, fun _ hk => h.old hm hk⟩
theorem Ct.rowB {P : Program} {f : FuncId} {args : List Value} {pre : Heap} {v : Value} (h : Ct P f args pre (fun u q => u = v ∧ q = pre)) {W : World} (hm : ∀ p ∈ pre, W.heap[p.1]? = some p.2) (hn : (pre.map Prod.fst).Nodup) :
    Calls P f args.toArray W fun e w' => e = .returned v ∧ Grown W w' ∧ Below W.heap.size W w' := by
  refine (h W _ W (HA.start hm hn)).mono ?_
  rintro e w' ⟨u, post, he, ⟨rfl, rfl⟩, ha⟩
  exact ⟨he, ha.grown hm, ha.below hm⟩
theorem trodAll_again {H : Type} {enc : TypeId × Value → H} {W W' : World} (hb : Below W.heap.size W W') : ∀ (ts : List TypeId) (vs : List Value) (ds : List (DataW H)) (ps : List MemPlace), DataW.TrodAll enc Tryd.prog W 0 (fun _ => true) true ts vs ds ps →
    (ts.all fun t => Tryd.prog.readableRec t && Nat.blt t Tryd.prog.types.size) = true → (∀ x ∈ ps, x.block < W.heap.size) → DataW.TrodAll enc Tryd.prog W' 0 (fun b => decide (b < W.heap.size)) true ts vs ds ps := by
  intro ts
  induction ts with
  | nil =>
    intro vs ds ps h _ _
    obtain ⟨rfl, rfl, rfl⟩ := trodAll_nil h
    exact trodAll_mk0
  | cons t r ih =>
    intro vs ds ps h hc hl
    obtain ⟨v0, vs0, d0, ds0, p0, q0, rfl, rfl, rfl, h0, r0⟩ := trodAll_cons h
    simp only [List.all_cons, Bool.and_eq_true] at hc
    obtain ⟨⟨c1, c2⟩, c3⟩ := hc
    exact trodAll_cons_mk (Below.trod laidOut c1 (by simpa [Nat.blt_eq] using c2) h0 hb (fun x hx => hl x (List.mem_append_left _ hx))) (ih vs0 ds0 q0 r0 c3 (fun x hx => hl x (List.mem_append_right _ hx)))
theorem u8_nat {a : Int} (w : (Lit.int .u8 a).wf = true) : ∃ n : Nat, a = (n : Int) ∧ n ≤ 255 := by
  have h : 0 ≤ a ∧ a ≤ 255 := by simpa [Lit.wf, IntKind.min, IntKind.max, IntKind.signed, IntKind.bits] using w
  exact ⟨a.toNat, by omega, by omega⟩
end Go.Proofs.YtgoddcicbpjknaaDoor

namespace Go.Proofs.YtgoddcicbpjknaaDoor
open Go
open Cfb

theorem FnLoop_ct (c f t s : Nat) (four : Bool) (hc : c ≤ 255) (hf : f ≤ 255) (ht : t ≤ 255) (hs : s ≤ 255) (ps : List Value) (T : TypeId) (hp : PsOk ps) :
  Ct Tryd.prog 5 [.int .u8 (c : Int), .int .u8 (f : Int), .int .u8 (t : Int), .int .u8 (s : Int), .bool four] [(2, blk ps T)] (fun v q => v = .bool true ∧ q = [(2, blk ps T)]) := by
 refine Ct_of Tryd.func5 rfl Tryd.ntmps5 rfl ?_
 intro E F
 simp only [numL, List.nil_append, List.cons_append]
 refine CW_sr ?_
 refine RW_a ?_
 refine RW_lv [0,1,2,3,4] ?_
 refine CW_seq ?_
 obtain ⟨n, hn⟩ : ∃ n, n = 2 + c % 18 := ⟨_, rfl⟩
 have hn2 : 1 ≤ n ∧ n ≤ 20 := by omega
 refine CW_region ?_
 refine RW_m ?_
 refine RW_l (Yl_rem (c := ((c % 18 : Nat) : Int)) rfl rfl om_ (remN c 18)) ?_
 refine RW_l (Yl_conv (c := ((c % 18 : Nat) : Int)) rfl in_5 in_3 (wi64 om_ om_)) ?_
 refine RW_l (Yl_add (c := (n : Int)) rfl rfl (by rw [hn]; exact wi64 om_ om_)) ?_
 refine RW_a ?_
 refine RW_lv [1,2,3,4,11] ?_
 refine CW_sr ?_
 refine RW_fx rfl rfl rfl (Fx_buildSlice0 sl_25) ?_
 rintro _ _ ⟨g0, rfl, rfl⟩
 refine RW_a ?_
 refine RW_lv [1,2,3,4,11,12] ?_
 refine CW_seq ?_
 refine CW_sr ?_
 refine RW_m ?_
 refine RW_m ?_
 refine RW_lv [1,2,3,4,11,12,26,27] ?_
 refine CW_block ?_
 refine CW_lp (σ := Nat × Nat × Nat × List Value) (fun q => [(1, .int .u8 (f : Int)), (2, .int .u8 (t : Int)), (3, .int .u8 (s : Int)), (4, .bool four), (11, nv n), (12, .slice (some ⟨q.2.1, 0, none⟩) q.1 q.2.2.1), (26, nv n), (27, nv q.1)]) (fun q => (q.2.1, blk (nms (lns n q.1) ++ q.2.2.2) 43) :: (2, blk ps T) :: F) (fun q => q.1 ≤ n ∧ (nms (lns n q.1) ++ q.2.2.2).length = q.2.2.1 * 28) (fun q => n - q.1) (0, g0, 0, []) ⟨by simp, by simp [lns]⟩ ?_
 rintro ⟨k, g, cap, r⟩ ⟨hk, hl⟩
 simp only at hk hl ⊢
 refine CW_sr ?_
 refine RW_l (Yl_lss rfl rfl) ?_
 refine RW_lv [1,2,3,4,11,12,26,27,28] ?_
 refine CW_seq ?_
 refine CW_cd rfl (fun hc1 => ?_) (fun hc1 => ?_)
 ·refine (CW_skip (QW_lv [1,2,3,4,11,12,26,27] ?_))
  refine CW_seq ?_
  refine CW_block ?_
  refine CW_sr ?_
  refine RW_m ?_
  refine RW_a ?_
  refine RW_lv [1,2,3,4,11,12,13,26,27] ?_
  refine CW_sr ?_
  refine RW_m ?_
  refine RW_l (Yl_add (c := ((65 + k : Nat) : Int)) rfl rfl (wi64 om_ om_)) ?_
  refine RW_l (Yl_conv (c := ((65 + k : Nat) : Int)) rfl in_3 in_21 (wi32 om_ om_)) ?_
  refine RW_l (Yl_rune (n := 65 + k) rfl in_21 st_9 om_) ?_
  refine RW_l (Yl_concatB (a := [83]) (b := [UInt8.ofNat (65 + k)]) rfl rfl (by simp)) ?_
  refine RW_l (Yl_build (cs := (plainNm (lnName k) (-1) (-1) (-1)).cells) pl_43 ze_43 rfl rfl) ?_
  refine RW_fx rfl rfl rfl (Fx_alloc (zs := zs_43) ze_43 rfl) ?_
  rintro _ _ ⟨b14, rfl, rfl⟩
  refine RW_fx0 rfl rfl (Fx_storeA (b := b14) (off := 0) (l := zs_43) (T := 43) (cs := (plainNm (lnName k) (-1) (-1) (-1)).cells) rfl rfl sz_43 (Nm.one_cells _) rep_ (Nat.le_refl 28)) ?_
  rintro _ _ rfl
  refine RW_lv [1,2,3,4,11,12,13,14,26,27] ?_
  refine CW_cut (σ := Unit) (fun _ => [(1, .int .u8 (f : Int)), (2, .int .u8 (t : Int)), (3, .int .u8 (s : Int)), (4, .bool four), (11, nv n), (12, .slice (some ⟨g, 0, none⟩) k cap), (14, pv b14), (26, nv n), (27, nv k)]) (fun _ => (b14, blk (lnNm n k).cells 43) :: (g, blk (nms (lns n k) ++ r) 43) :: (2, blk ps T) :: F) (fun _ => True) ?_ ?_
  ·skip
   refine CW_seq ?_
   rw [spl_full _ _ (by rw [Nm.length_cells]; rfl)]
   refine CW_region ?_
   refine RW_m ?_
   refine RW_l (Yl_add (c := ((k + 1 : Nat) : Int)) rfl rfl (wi64 om_ om_)) ?_
   refine RW_m ?_
   refine RW_l (Yl_lss rfl rfl) ?_
   refine RW_lv [1,2,3,4,11,12,13,14,26,27,39] ?_
   refine CW_cd rfl (fun hc2 => ?_) (fun hc2 => ?_)
   ·refine CW_region ?_
    refine RW_m ?_
    refine RW_l (Yl_add (c := ((k + 1 : Nat) : Int)) rfl rfl (wi64 om_ om_)) ?_
    refine RW_f fo_43_5 ?_
    refine RW_fx0 rfl rfl (Fx_store (v := nv (k + 1)) (b := b14) (off := 5) rfl rfl sz_3 rfl rep_ (by rw [Nm.length_cells]; omega)) ?_
    rintro _ _ rfl
    refine RW_nil ?_
    first
     | (have hk1 : k + 1 < n := (by omega); have e1 : (lnNm n k).cells = (plainNm (lnName k) (-1) (-1) (-1)).cells.set 5 (nv (k + 1)) := (by unfold lnNm; rw [if_pos hk1]; rfl); rw [e1]; exact QW_cut () trivial (by repeat (first | exact Prm.nil _ | exact Rem.here _ _ | apply Rem.there | apply Prm.cons)) (.cons rfl (.cons rfl (.cons rfl (.cons rfl (.cons rfl (.cons rfl (.cons rfl (.cons rfl (.cons rfl .nil))))))))))
     | (have hk1 : ¬ k + 1 < n := (by omega); have e1 : (lnNm n k).cells = (plainNm (lnName k) (-1) (-1) (-1)).cells := (by unfold lnNm; rw [if_neg hk1]); rw [e1]; exact QW_cut () trivial (by repeat (first | exact Prm.nil _ | exact Rem.here _ _ | apply Rem.there | apply Prm.cons)) (.cons rfl (.cons rfl (.cons rfl (.cons rfl (.cons rfl (.cons rfl (.cons rfl (.cons rfl (.cons rfl .nil))))))))))
   refine CW_skip ?_
   first
    | (have hk1 : k + 1 < n := (by omega); have e1 : (lnNm n k).cells = (plainNm (lnName k) (-1) (-1) (-1)).cells.set 5 (nv (k + 1)) := (by unfold lnNm; rw [if_pos hk1]; rfl); rw [e1]; exact QW_cut () trivial (by repeat (first | exact Prm.nil _ | exact Rem.here _ _ | apply Rem.there | apply Prm.cons)) (.cons rfl (.cons rfl (.cons rfl (.cons rfl (.cons rfl (.cons rfl (.cons rfl (.cons rfl (.cons rfl .nil))))))))))
    | (have hk1 : ¬ k + 1 < n := (by omega); have e1 : (lnNm n k).cells = (plainNm (lnName k) (-1) (-1) (-1)).cells := (by unfold lnNm; rw [if_neg hk1]); rw [e1]; exact QW_cut () trivial (by repeat (first | exact Prm.nil _ | exact Rem.here _ _ | apply Rem.there | apply Prm.cons)) (.cons rfl (.cons rfl (.cons rfl (.cons rfl (.cons rfl (.cons rfl (.cons rfl (.cons rfl (.cons rfl .nil))))))))))
  rintro ⟨⟩ -
  refine CW_region ?_
  refine RW_m ?_
  refine RW_h (Yh_loadAll (b := b14) (k := 28) (T := 43) (fz := (0, 0)) (l := (lnNm n k).cells) rfl ag_43 mem_ (Nm.length_cells _)) ?_
  refine RW_fx rfl rfl rfl (Fx_lit (vs := [.agg (lnNm n k).cells.toArray]) (css := [(lnNm n k).cells]) (cs := (lnNm n k).cells) sl_25 ze_43 rfl rfl rfl rfl rfl (by intro c hc; rw [List.mem_singleton.1 hc]; exact Nm.length_cells _) (by simp)) ?_
  rintro _ _ ⟨b45, rfl, rfl⟩
  refine RW_fx rfl rfl rfl (Fx_appTG (xs := nms (lns n k)) (r := r) (news := (lnNm n k).cells) (n := k) (cap := cap) (m := 1) (c := 1) rfl rfl sl_25 by_43 ze_43 rfl rem_ rem_ hl (by rw [length_nms, lns_len]) (by rw [Nm.length_cells]) (Nm.one_cells _) om_ om_ om_) ?_
  rintro _ _ ⟨g', cap', r', rfl, hl', rfl⟩
  refine RW_a ?_
  refine RW_nil ?_
  refine QW_normal_block ?_
  refine (QW_lv [1,2,3,4,11,12,26,27] ?_)
  refine CW_region ?_
  refine RW_l (Yl_add (c := ((k + 1 : Nat) : Int)) rfl rfl (wi64 om_ om_)) ?_
  refine RW_m ?_
  refine RW_nil ?_
  refine QW_dropB (e := (b14, _)) rem_ ?_
  refine QW_round (k + 1, g', cap', r') ⟨by simp only; omega, ?_⟩ (by simp only; omega) ?_ kp_
  ·simp only [lns_succ, nms_append]; simpa [nms] using hl'
  simp only [lns_succ, nms_append, List.flatMap_cons, List.flatMap_nil, List.append_nil]; exact prm_
 refine CW_exit ?_
 refine QW_exit_then ?_
 refine QW_exit_then ?_
 refine QW_exit_block ?_
 refine (QW_lv [1,2,3,4,11,12] ?_)
 refine CW_seq ?_
 have hkn : k = n := by omega
 rw [hkn] at hl ⊢
 have hL := lns_ok n hn2.2
 have hw1 := write_ct g cap (verF four) 0 (lns n n) r _ rfl (hL.xs hn2) hL.ok (by rcases verF_or four with e | e <;> omega) om_
 rw [hL.heap, lns_len] at hw1
 have he1 := fun gI => Entries_code0 (T := T) (four := four) (st := 0) (hL.xs hn2) (hL.names hp hn2.2) hL.lnk (hL.size hn2 _) gI (loop_good n _ hn2)
 refine CW_region ?_
 refine RW_m ?_
 refine RW_m ?_
 refine RW_fx rfl rfl rfl (Fx_callQ ok_16 (vs := [.bool four]) (R := fun v => v = nv (verF four)) rfl (Pick.nil _) (versionOf_ct four)) ?_
 rintro _ _ ⟨rfl, rfl⟩
 refine RW_fx rfl rfl rfl (Fx_call ok_15 (vs := [.slice (some ⟨g, 0, none⟩) n cap, nv (verF four), nv 0]) rfl (Pick.cons rem_ (Pick.nil _)) hw1) ?_
 rintro _ _ ⟨_, ⟨g1, rfl, rfl⟩, rfl⟩
 simp only [List.cons_append, List.nil_append]
 refine RW_fx rfl rfl rfl (Fx_call ok_18 (vs := [.slice (some ⟨g1, 0, none⟩) (NF (verF four) ((lns n n).map Nm.nd)) (NF (verF four) ((lns n n).map Nm.nd))]) rfl (Pick.cons rem_ (Pick.cons rem_ (Pick.nil _))) (he1 g1)) ?_
 rintro _ _ ⟨_, ⟨_, rfl, ⟨eu, rfl⟩, rfl⟩, rfl⟩
 simp only [List.cons_append, List.nil_append]
 refine RW_m ?_
 refine RW_l (Yl_extract (v := eu) rfl rfl) ?_
 refine RW_l (Yl_extract (v := nv 0) rfl rfl) ?_
 refine RW_a ?_
 refine RW_a ?_
 refine RW_lv [1,2,3,4,11,12,16] ?_
 refine CW_seq ?_
 obtain ⟨k, hk⟩ : ∃ k, k = 1 + f % (n - 1) := ⟨_, rfl⟩
 have hkn2 : k < n := by have := Nat.mod_lt f (show 0 < n - 1 by omega); omega
 refine CW_region ?_
 refine RW_m ?_
 refine RW_l (Yl_conv (c := (f : Int)) rfl in_5 in_3 (wi64 om_ om_)) ?_
 refine RW_m ?_
 refine RW_l (Yl_sub (c := ((n - 1 : Nat) : Int)) rfl rfl (by rw [wi64 om_ om_]; omega)) ?_
 refine RW_l (Yl_rem (c := ((f % (n - 1) : Nat) : Int)) rfl rfl om_ (remN f (n - 1))) ?_
 refine RW_l (Yl_add (c := (k : Int)) rfl rfl (by rw [hk]; exact wi64 om_ om_)) ?_
 refine RW_a ?_
 refine RW_lv [2,3,4,12,16,17] ?_
 refine CW_sr ?_
 refine RW_m ?_
 refine RW_l (Yl_conv (c := (t : Int)) rfl in_5 in_3 (wi64 om_ om_)) ?_
 refine RW_m ?_
 refine RW_l (Yl_add (c := ((k + 1 : Nat) : Int)) rfl rfl (wi64 om_ om_)) ?_
 refine RW_l (Yl_rem (c := ((t % (k + 1) : Nat) : Int)) rfl rfl om_ (remN t (k + 1))) ?_
 refine RW_a ?_
 refine RW_lv [2,3,4,12,16,17,18] ?_
 refine CW_cut (σ := Nat) (fun q => [(3, .int .u8 (s : Int)), (4, .bool four), (12, .slice (some ⟨g, 0, none⟩) n cap), (16, nv 0), (17, nv k), (18, nv q)]) (fun _ => (g1, blk (bys (writeF (verF four) 0 ((lns n n).map Nm.nd))) 5) :: (2, blk ps T) :: (g, blk (nms (lns n n) ++ r) 43) :: F) (fun q => (q ≤ k ∨ 100 ≤ q) ∧ q ≤ 1000) ?_ ?_
 ·skip
  refine CW_sr ?_
  refine RW_m ?_
  refine RW_l (Yl_rem (c := ((s % 4 : Nat) : Int)) rfl rfl om_ (remN s 4)) ?_
  refine RW_l (Yl_eql rfl rfl) ?_
  refine RW_lv [2,3,4,12,16,17,18,69] ?_
  refine CW_cd rfl (fun hc3 => ?_) (fun hc3 => ?_)
  ·refine CW_region ?_
   refine RW_m ?_
   refine RW_l (Yl_conv (c := (t : Int)) rfl in_5 in_3 (wi64 om_ om_)) ?_
   refine RW_l (Yl_add (c := ((100 + t : Nat) : Int)) rfl rfl (wi64 om_ om_)) ?_
   refine RW_a ?_
   refine RW_nil ?_
   first
    | exact QW_cut (100 + t) ⟨.inr (by omega), by omega⟩ (by repeat (first | exact Prm.nil _ | exact Rem.here _ _ | apply Rem.there | apply Prm.cons)) (.cons rfl (.cons rfl (.cons rfl (.cons rfl (.cons rfl (.cons rfl .nil))))))
    | exact QW_cut (t % (k + 1)) ⟨.inl (by have := Nat.mod_lt t (show 0 < k + 1 by omega); omega), by have := Nat.mod_lt t (show 0 < k + 1 by omega); omega⟩ (by repeat (first | exact Prm.nil _ | exact Rem.here _ _ | apply Rem.there | apply Prm.cons)) (.cons rfl (.cons rfl (.cons rfl (.cons rfl (.cons rfl (.cons rfl .nil))))))
  refine CW_skip ?_
  first
   | exact QW_cut (100 + t) ⟨.inr (by omega), by omega⟩ (by repeat (first | exact Prm.nil _ | exact Rem.here _ _ | apply Rem.there | apply Prm.cons)) (.cons rfl (.cons rfl (.cons rfl (.cons rfl (.cons rfl (.cons rfl .nil))))))
   | exact QW_cut (t % (k + 1)) ⟨.inl (by have := Nat.mod_lt t (show 0 < k + 1 by omega); omega), by have := Nat.mod_lt t (show 0 < k + 1 by omega); omega⟩ (by repeat (first | exact Prm.nil _ | exact Rem.here _ _ | apply Rem.there | apply Prm.cons)) (.cons rfl (.cons rfl (.cons rfl (.cons rfl (.cons rfl (.cons rfl .nil))))))
 rintro tg ⟨htg, htg2⟩
 refine CW_cut (σ := Int × Int) (fun q => [(4, .bool four), (12, .slice (some ⟨g, 0, none⟩) n cap), (16, nv 0)]) (fun q => (g1, blk (bys (writeF (verF four) 0 ((lns n n).map Nm.nd))) 5) :: (2, blk ps T) :: (g, blk (nms ((lns n n).set k (plainNm (lnName k) q.1 q.2 (if k + 1 < n then ((k + 1 : Nat) : Int) else -1))) ++ r) 43) :: F) (fun q => (q.1 = (tg : Int) ∧ q.2 = -1) ∨ (q.1 = -1 ∧ q.2 = (tg : Int))) ?_ ?_
 ·skip
  refine CW_sr ?_
  refine RW_m ?_
  refine RW_l (Yl_rem (c := ((s % 2 : Nat) : Int)) rfl rfl om_ (remN s 2)) ?_
  refine RW_lv [4,12,16,17,18,74] ?_
  refine CW_block ?_
  refine CW_sr ?_
  refine RW_l (Yl_eql rfl rfl) ?_
  refine RW_a ?_
  refine RW_lv [4,12,16,17,18,80] ?_
  refine CW_cd rfl (fun hc4 => ?_) (fun hc4 => ?_)
  ·refine CW_region ?_
   refine RW_m ?_
   refine RW_m ?_
   refine RW_m ?_
   refine RW_l (Yl_indexN (b := g) (off := 0) (i := k) (o' := k * 28) rfl rfl sl_25 om_ om_) ?_
   refine RW_f fo_43_3 ?_
   refine RW_fx0 rfl rfl (Fx_store (v := nv tg) (b := g) (off := k * 28 + 3) rfl rfl sz_3 rfl rep_ (by rw [List.length_append, length_nms, lns_len]; omega)) ?_
   rintro _ _ rfl
   refine RW_nil ?_
   refine QW_normal_block ?_
   first
    | (have e1 := nms_set (lns n n) k 3 (nv tg) (plainNm (lnName k) (tg : Int) (-1) (if k + 1 < n then ((k + 1 : Nat) : Int) else -1)) r (by rw [lns_len]; omega) (by omega) (by rw [lns_at (by omega)]; rfl); rw [e1]; exact QW_cut ((tg : Int), -1) (.inl ⟨rfl, rfl⟩) (by repeat (first | exact Prm.nil _ | exact Rem.here _ _ | apply Rem.there | apply Prm.cons)) (.cons rfl (.cons rfl (.cons rfl .nil))))
    | (have e1 := nms_set (lns n n) k 4 (nv tg) (plainNm (lnName k) (-1) (tg : Int) (if k + 1 < n then ((k + 1 : Nat) : Int) else -1)) r (by rw [lns_len]; omega) (by omega) (by rw [lns_at (by omega)]; rfl); rw [e1]; exact QW_cut (-1, (tg : Int)) (.inr ⟨rfl, rfl⟩) (by repeat (first | exact Prm.nil _ | exact Rem.here _ _ | apply Rem.there | apply Prm.cons)) (.cons rfl (.cons rfl (.cons rfl .nil))))
  refine CW_region ?_
  refine RW_m ?_
  refine RW_m ?_
  refine RW_m ?_
  refine RW_l (Yl_indexN (b := g) (off := 0) (i := k) (o' := k * 28) rfl rfl sl_25 om_ om_) ?_
  refine RW_f fo_43_4 ?_
  refine RW_fx0 rfl rfl (Fx_store (v := nv tg) (b := g) (off := k * 28 + 4) rfl rfl sz_3 rfl rep_ (by rw [List.length_append, length_nms, lns_len]; omega)) ?_
  rintro _ _ rfl
  refine RW_nil ?_
  refine QW_normal_block ?_
  first
   | (have e1 := nms_set (lns n n) k 3 (nv tg) (plainNm (lnName k) (tg : Int) (-1) (if k + 1 < n then ((k + 1 : Nat) : Int) else -1)) r (by rw [lns_len]; omega) (by omega) (by rw [lns_at (by omega)]; rfl); rw [e1]; exact QW_cut ((tg : Int), -1) (.inl ⟨rfl, rfl⟩) (by repeat (first | exact Prm.nil _ | exact Rem.here _ _ | apply Rem.there | apply Prm.cons)) (.cons rfl (.cons rfl (.cons rfl .nil))))
   | (have e1 := nms_set (lns n n) k 4 (nv tg) (plainNm (lnName k) (-1) (tg : Int) (if k + 1 < n then ((k + 1 : Nat) : Int) else -1)) r (by rw [lns_len]; omega) (by omega) (by rw [lns_at (by omega)]; rfl); rw [e1]; exact QW_cut (-1, (tg : Int)) (.inr ⟨rfl, rfl⟩) (by repeat (first | exact Prm.nil _ | exact Rem.here _ _ | apply Rem.there | apply Prm.cons)) (.cons rfl (.cons rfl (.cons rfl .nil))))
 rintro ⟨l, rr⟩ hlr
 simp only at hlr ⊢
 refine CW_seq ?_
 obtain ⟨ns2, hns2⟩ : ∃ x, x = (lns n n).set k (plainNm (lnName k) l rr (if k + 1 < n then ((k + 1 : Nat) : Int) else -1)) := ⟨_, rfl⟩
 have hL2 := turn_ok (t := tg) hn2 hkn2 (l := l) (r := rr) om_ om_
 have hbd := loop_bad (verF four) hn2 hkn2 htg htg2 hlr
 rw [← hns2] at hL2 hbd ⊢
 have hw2 := write_ct g cap (verF four) 0 ns2 r _ rfl (hL2.xs hn2) hL2.ok (by rcases verF_or four with e | e <;> omega) om_
 rw [hL2.heap, hL2.len] at hw2
 have he2 := fun gI => Entries_code5 (T := T) (four := four) (st := 0) (hL2.xs hn2) (hL2.names hp hn2.2) hL2.lnk (hL2.size hn2 _) gI hbd
 refine CW_region ?_
 refine RW_m ?_
 refine RW_m ?_
 refine RW_fx rfl rfl rfl (Fx_callQ ok_16 (vs := [.bool four]) (R := fun v => v = nv (verF four)) rfl (Pick.nil _) (versionOf_ct four)) ?_
 rintro _ _ ⟨rfl, rfl⟩
 refine RW_fx rfl rfl rfl (Fx_call ok_15 (vs := [.slice (some ⟨g, 0, none⟩) n cap, nv (verF four), nv 0]) rfl (Pick.cons rem_ (Pick.nil _)) hw2) ?_
 rintro _ _ ⟨_, ⟨g2, rfl, rfl⟩, rfl⟩
 simp only [List.cons_append, List.nil_append]
 refine RW_fx rfl rfl rfl (Fx_call ok_18 (vs := [.slice (some ⟨g2, 0, none⟩) (NF (verF four) (ns2.map Nm.nd)) (NF (verF four) (ns2.map Nm.nd))]) rfl (Pick.cons rem_ (Pick.cons rem_ (Pick.nil _))) (he2 g2)) ?_
 rintro _ _ ⟨_, ⟨rfl, rfl⟩, rfl⟩
 simp only [List.cons_append, List.nil_append]
 refine RW_m ?_
 refine RW_l (Yl_extract (v := .slice none 0 0) rfl rfl) ?_
 refine RW_l (Yl_extract (v := nv 5) rfl rfl) ?_
 refine RW_a ?_
 refine RW_a ?_
 refine RW_lv [16,20] ?_
 refine CW_sr ?_
 refine RW_m ?_
 refine RW_l (Yl_eql rfl rfl) ?_
 refine RW_m ?_
 refine RW_bool 97 rfl (fun hg5 => ?_) (fun hg5 => ?_)
 ·replace hg5 := of_decide_eq_true hg5
  refine RW_gy rfl rfl rfl (Yl.h (Yl_move rfl)) ?_
  refine RW_gy rfl rfl rfl (Yl.h (Yl_neq rfl rfl)) ?_
  refine RW_l (Yl_pick_t rfl rfl) ?_
  refine RW_a ?_
  refine RW_lv [10] ?_
  refine CW_ret ?_
  refine QW_dropB (e := (g2, _)) rem_ ?_
  refine QW_dropB (e := (g1, _)) rem_ ?_
  refine QW_dropB (e := (g, _)) rem_ ?_
  exact QW_ret1 rfl rfl [_] ⟨rfl, rfl⟩ prm_
 replace hg5 := of_decide_eq_false hg5
 exact absurd rfl hg5

end Go.Proofs.YtgoddcicbpjknaaDoor

set_option maxRecDepth 100000
namespace Go.Proofs.YtgoddcicbpjknaaDoor.fnLoop
open Go
open Cfb
open Go.ChangeShapes Go.WideShapes Go.ChangeAt Go.RowKit Go.Clock
theorem contract (H : Type) (enc : TypeId × Value → H) (W : World) (base : Nat) (args : Array Value) (ds gs : List (DataW H)) (before : List MemPlace)
    (hval : ∀ (j : Nat) t v, Tryd.f5.params[j]? = some t → args[j]? = some v → Value.okWide Tryd.prog W .any base t v)
    (hW : DataW.Whole enc Tryd.prog Tryd.f5.params.toList Rows.fnLoopSpec.vars false W args.toList ds gs before) (hL : laidMetH Tryd.prog Rows.fnLoopRow.laid W) (hS : W.ShapedOpen Tryd.prog) :
    Calls Tryd.prog 5 args W fun e W' => ∃ v, e = .returned v ∧ W'.os = W.os ∧ Rows.fnLoopSpec.post enc Tryd.prog Tryd.f5 false true false false W args v W' := by
  have hW' := hW
  obtain ⟨p, q, hA0, hV, rfl, hfz, hnd⟩ := hW
  have hA : DataW.TrodAll enc Tryd.prog W 0 (fun _ => true) true Tryd.f5.params.toList args.toList ds p := hA0
  have hlt : ∀ x ∈ p, x.block < W.heap.size := fun x hx => by simpa using hW'.lt x (List.mem_append_left _ hx)
  have again := fun W' hb => trodAll_again (W' := W') hb _ _ _ _ hA (by rw [Tryd.params5]; kernel_rfl) hlt
  rw [Tryd.params5] at hA hval
  obtain ⟨v0, vs0, d0, ds0, p0, q0, hargs, rfl, rfl, h0, r0⟩ := trodAll_cons hA
  obtain ⟨v1, vs1, d1, ds1, p1, q1, rfl, rfl, rfl, h1, r1⟩ := trodAll_cons r0
  obtain ⟨v2, vs2, d2, ds2, p2, q2, rfl, rfl, rfl, h2, r2⟩ := trodAll_cons r1
  obtain ⟨v3, vs3, d3, ds3, p3, q3, rfl, rfl, rfl, h3, r3⟩ := trodAll_cons r2
  obtain ⟨v4, vs4, d4, ds4, p4, q4, rfl, rfl, rfl, h4, r4⟩ := trodAll_cons r3
  obtain ⟨rfl, rfl, rfl⟩ := trodAll_nil r4
  obtain rfl : args = #[v0, v1, v2, v3, v4] := by cases args; simp_all
  obtain ⟨rfl, rfl⟩ := trodVars_none hV
  obtain ⟨a0, rfl, rfl, rfl, w0⟩ := open_int Tryd.underlying5 (hval 0 5 v0 rfl rfl) h0
  obtain ⟨a1, rfl, rfl, rfl, w1⟩ := open_int Tryd.underlying5 (hval 1 5 v1 rfl rfl) h1
  obtain ⟨a2, rfl, rfl, rfl, w2⟩ := open_int Tryd.underlying5 (hval 2 5 v2 rfl rfl) h2
  obtain ⟨a3, rfl, rfl, rfl, w3⟩ := open_int Tryd.underlying5 (hval 3 5 v3 rfl rfl) h3
  obtain ⟨a4, rfl, rfl, rfl⟩ := open_bool Tryd.underlying4 (hval 4 4 v4 rfl rfl) h4
  obtain ⟨T, hT⟩ := tab_block (props_tab hL) hS
  obtain ⟨x0, rfl, b0⟩ := u8_nat w0
  obtain ⟨x1, rfl, b1⟩ := u8_nat w1
  obtain ⟨x2, rfl, b2⟩ := u8_nat w2
  obtain ⟨x3, rfl, b3⟩ := u8_nat w3
  have fin : Calls Tryd.prog 5 #[.int .u8 (x0 : Int), .int .u8 (x1 : Int), .int .u8 (x2 : Int), .int .u8 (x3 : Int), .bool a4] W fun e w' => e = .returned (.bool true) ∧ Grown W w' ∧ Below W.heap.size W w' := by
    exact (FnLoop_ct x0 x1 x2 x3 a4 b0 b1 b2 b3 propsV T propsV_ok).rowB (W := W) (by intro p hp; rw [List.mem_singleton.1 hp]; exact hT) (by simp)
  refine fin.mono fun e W' ⟨he, hg, hb⟩ => ?_
  subst he
  exact ⟨_, rfl, hg.1.1, ⟨_, _, _, [], _, [], hW', trodAll_cons_mk (shut_bool Tryd.underlying4 _) trodAll_mk0, again W' hb, rfl, hg.frame _, fun h => by cases h⟩⟩
/-- A world for the witness. -/
noncomputable def laidWorld (os : Os) : World := World.laidAll Tryd.prog os Rows.fnLoopRow.laid
theorem laid_met (os : Os) : laidMet Tryd.prog Rows.fnLoopRow.laid ((laidWorld os).forCall (fun _ _ => 0) ⟨#[], #[.int .u8 0, .int .u8 0, .int .u8 0, .int .u8 0, .bool false], []⟩).memory := laidMet_laidAll _ kr_ kr_
theorem reads (os : Os) {H : Type} (enc : TypeId × Value → H) : ∃ places, DataW.whole enc Tryd.prog ((laidWorld os).forCall (fun _ _ => 0) ⟨#[], #[.int .u8 0, .int .u8 0, .int .u8 0, .int .u8 0, .bool false], []⟩).memory Tryd.f5.params.toList Rows.fnLoopSpec.vars false (#[.int .u8 0, .int .u8 0, .int .u8 0, .int .u8 0, .bool false] : Array Value).toList 8 = some ([.lit (.int .u8 0), .lit (.int .u8 0), .lit (.int .u8 0), .lit (.int .u8 0), .lit (.bool false)], [], places) :=
  ⟨[], by kernel_rfl⟩
theorem lifted (os : Os) (started : os.Started) (H : Type) (enc : TypeId × Value → H) (F : Stop.Interp) :
    ReturnsInHanded {} Tryd.checked os 5 .any ((OpenSpec.ofChange Rows.fnLoopSpec).preRow enc Tryd.prog Tryd.f5 Rows.fnLoopRow.domain false Rows.fnLoopRow.laid) (((OpenSpec.ofChange Rows.fnLoopSpec).at F).post enc Tryd.prog Tryd.f5 false true false false) := by
  obtain ⟨places, hx⟩ := reads os enc
  refine returnsInHanded_of_row (C := Tryd.checked) (s := OpenSpec.ofChange Rows.fnLoopSpec) own started kr_ Tryd.func5
    (witness_row_at (enc := enc) (C := Tryd.checked) false (laidWorld os) #[.int .u8 0, .int .u8 0, .int .u8 0, .int .u8 0, .bool false] (World.laidAll_os _ _ _) (by kernel_rfl) (by kernel_rfl) (by kernel_rfl)
      (OpenSpec.preRow_of_cond 8 hx kr_ (fun k hk => by cases hk) kr_ (laid_met os))) ?_
  intro W base args ds gs before hval hW _ _ _ hL hS _
  exact (contract H enc W base args ds gs before hval hW hL hS).mono fun _ _ ⟨v, he, _, hp⟩ => ⟨v, he, hp⟩
/-- The same, where the row lets time pass. -/
theorem liftedT (os : Os) (started : os.Started) (H : Type) (enc : TypeId × Value → H) (F : Stop.Interp) :
    ReturnsInHanded { calm := true } Tryd.checked os 5 .any (fun w args => (Rows.fnLoopSpec.pre enc Tryd.prog Tryd.f5 [] false w args ∧ laidMetH Tryd.prog Rows.fnLoopRow.laid w) ∧ sizedMet enc Tryd.prog Tryd.f5 (OpenSpec.ofChange Rows.fnLoopSpec) false w args)
      ((OpenSpec.ofChange Rows.fnLoopSpec).postWith enc Tryd.prog Tryd.f5 F (outsideKept [.timePasses]) false true false) := by
  refine returns_of_change (C := Tryd.checked) (X := fun w _ => laidMetH Tryd.prog Rows.fnLoopRow.laid w) (fun _ _ _ hh h => h.of_heap hh) own started kr_ Tryd.func5
    (witness_at (enc := enc) (C := Tryd.checked) (X := fun w _ => laidMetH Tryd.prog Rows.fnLoopRow.laid w) (World.laidAll Tryd.prog os Rows.fnLoopRow.laid) #[.int .u8 0, .int .u8 0, .int .u8 0, .int .u8 0, .bool false] 8 (World.laidAll_os _ _ _) (World.shaped_of_ZipB (by kernel_rfl) (by kernel_rfl)) (by kernel_rfl) (by kernel_rfl) (by kernel_rfl)
      (by rw [MakeChecks.laidMetH_plain _ _ _ kr_]; exact laidMet_laidAll _ kr_ kr_)) ?_
  intro W base args ds gs before hval hW _ _ hL hS
  refine (contract H enc W base args ds gs before hval hW hL hS).mono ?_
  rintro e W' ⟨v, he, ho, hp⟩
  have hos : { W' with os := W.os } = W' := by rw [← ho]
  refine ⟨v, he, by rw [hos]; exact hp, by rw [ho]; exact Later.refl _⟩
theorem said : Rows.FnLoopSaid := by
  first
    | exact OpenClaim.holds_of_cond 5 Tryd.f5 rfl rfl rfl rfl rfl rfl rfl ⟨rfl, rfl, rfl, rfl, rfl⟩ rfl rfl rfl rfl rfl (by kernel_rfl) Tryd.func5 (by kernel_rfl)
        (of_decide_eq_true kr_) (by unfold Func.isWrapper; first | (rw [if_pos (by decide +kernel)]; kernel_rfl) | (rw [if_neg (by decide +kernel)]; exact ⟨rfl, rfl⟩))
        (fun os started H enc _ F => by rw [OpenClaim.pre_eq_preRow]; exact lifted os started H enc F)
    | exact holds_of_wide_time 5 Tryd.f5 rfl rfl rfl rfl rfl rfl rfl ⟨rfl, rfl, rfl, rfl, rfl⟩ rfl rfl rfl rfl rfl (by kernel_rfl) Tryd.func5 (by kernel_rfl)
        (of_decide_eq_true kr_) (by unfold Func.isWrapper; first | (rw [if_pos (by decide +kernel)]; kernel_rfl) | (rw [if_neg (by decide +kernel)]; exact ⟨rfl, rfl⟩))
        (fun os started H enc _ F => liftedT os started H enc F)
theorem plain (f : FuncId) (fn : Func) (hf : Tryd.pinned.checked.prog.funcNamed "loop.example/pub-g03453/laws.FnLoop" = some f) (hfn : Tryd.pinned.checked.prog.funcs[f]? = some fn) :
    true = Tryd.pinned.checked.prog.looks [] ∧ ∀ (j : Nat) t, fn.params[j]? = some t → Tryd.pinned.checked.prog.wantsStandIn t = false := by
  obtain rfl : f = 5 := Option.some.inj ((show Tryd.prog.funcNamed "loop.example/pub-g03453/laws.FnLoop" = some 5 by kernel_rfl).symm.trans hf) |>.symm
  obtain rfl : fn = Tryd.f5 := (Option.some.inj (Tryd.func5.symm.trans hfn)).symm
  refine ⟨by kernel_rfl, fun j t ht => ?_⟩
  rw [Tryd.params5] at ht
  have hm : t ∈ [5, 5, 5, 5, 4] := by simpa using Array.mem_of_getElem? ht
  have hall : ([5, 5, 5, 5, 4].all fun u => !Tryd.prog.wantsStandIn u) = true := by kernel_rfl
  exact (show Tryd.prog.wantsStandIn t = false by simpa using List.all_eq_true.1 hall t hm)
theorem card : Rows.FnLoopCardSaid :=
  Claim7.holds_tied_plain_at .later [] _ _ _ _ said (fun _ h => by cases h) kr_ (fun _ h => by cases h) fnLoop_row_tie rfl ⟨rfl, rfl⟩ kr_ rfl plain kr_
#print axioms card
end Go.Proofs.YtgoddcicbpjknaaDoor.fnLoop
