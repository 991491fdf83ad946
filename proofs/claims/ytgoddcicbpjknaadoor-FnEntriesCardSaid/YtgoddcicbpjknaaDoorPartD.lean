/- What the card leans on: walks of the program's functions, and plain facts on files (part 4). -/
import Derived.Test.YtgoddcicbpjknaaDoorPartC
import Derived.WalkKit
import Derived.ProofKit
import Derived.OpenShut
import Derived.Deep.DeepHandedRow
import Derived.Lib.LaidTab
import Derived.Test.YtgoddcicbpjknaaDoorCards
import Derived.Test.YtgoddcicbpjknaaDoorTie
import Derived.Carry
import Derived.ChangeKeysEq
set_option maxRecDepth 20000
set_option maxHeartbeats 4000000

namespace Go.Proofs.YtgoddcicbpjknaaDoor
open Go
open Cfb

theorem write_L {E : World} {Q : Exit → Act → World → Prop} {F : Heap} (hQ : QP Q) (b7 g29 stl c29 b30 bf b25 b34 b35 bo g33 msl c33 b44 b45 bl cl size N T minis W D : Nat) (ns : List Nm) (rl : List Value) (sts mst mt fat : List Nat) (r29 r33 : List Value) (dl wl ol : List UInt8) {v34 : Value} (hok : ∀ x ∈ ns, x.ok) (hns : ns.length ≤ 20) (hsz : 512 ≤ size ∧ size ≤ 4096) (hsl : stl = sts.length) (hks : 3 + ns.length ≤ sts.length) (hml : msl = mst.length) (hkm : ns.length ≤ mst.length) (hsb : ∀ y ∈ sts, y ≤ 4294967295) (hmsb : ∀ y ∈ mst, y ≤ 4294967295) (hmt : mt.length ≤ 1000000) (hmb : ∀ y ∈ mt, y < 4294967296) (hfb : ∀ y ∈ fat, y < 4294967296) (hT : T ≤ 100000) (hTf : T ≤ fat.length) (hN : size * (1 + T) = N) (hol : ol.length = N) (hW : 64 * minis = W) (hW2 : W ≤ 100000000) (hwl : wl.length = W) (hmm : minis ≤ mt.length) (hdl : dl.length = D) (hDn : 128 * ns.length ≤ D) (hDb : D ≤ 1000000)
  (hch1 : ∀ k, k < ns.length → k ≠ 0 → (ns.getD k default).nd.stream = true → (ns.getD k default).nd.data.length < 4096 → ∀ j, j * 64 < (ns.getD k default).nd.data.length → walkP mt (mst.getD k 0) j < minis)
  (hch2 : ∀ k, k < ns.length → k ≠ 0 → (ns.getD k default).nd.stream = true → ¬ (ns.getD k default).nd.data.length < 4096 → ∀ j, j * size < (ns.getD k default).nd.data.length → walkP fat (sts.getD (3 + k) 0) j < T)
  (hk : CW Tryd.prog E 514 [(29, .slice (some ⟨g29, 0, none⟩) stl c29), (34, v34), (36, .func (.func 28) #[] #[.pointer (some ⟨b25, 0, none⟩), .pointer (some ⟨b35, 0, none⟩)]), (44, .slice (some ⟨b44, 0, none⟩) W W), (45, .slice (some ⟨b45, 0, none⟩) D D)] ((b45, blk (bys (nodesTo minis size sts mst fat mt (ns.map Nm.nd) ns.length (dl, wl, ol)).1) 5) :: (b44, blk (bys (nodesTo minis size sts mst fat mt (ns.map Nm.nd) ns.length (dl, wl, ol)).2.1) 5) :: (bo, blk (bys (nodesTo minis size sts mst fat mt (ns.map Nm.nd) ns.length (dl, wl, ol)).2.2) 5) :: (g29, blk (nats sts ++ r29) 3) :: (g33, blk (nats mst ++ r33) 3) :: (b35, blk [.func (.func 27) #[] #[.pointer (some ⟨b34, 0, none⟩), .pointer (some ⟨b7, 0, none⟩)]] 73) :: (b34, blk [.slice (some ⟨bo, 0, none⟩) N N] 23) :: (bf, blk (u32s fat) 67) :: (b25, blk [.slice (some ⟨bf, 0, none⟩) fat.length fat.length] 22) :: (b7, blk [nv size] 3) :: (b30, blk (u32s mt) 67) :: (bl, blk (nms ns ++ rl) 43) :: (nmsH ns ++ F)) (dig [1, 1, 1, 1, 1, 1, 1, 1, 1, 1, 1, 1, 1, 1, 1, 1, 1, 1, 1, 1, 1, 1, 1, 1, 1, 1, 1, 1, 1, 1, 1, 1, 1, 1, 1, 1, 1, 1, 1, 1, 1, 1, 1, 1, 1, 1, 1, 1] (bodyOf Tryd.f15)) Q) :
  CW Tryd.prog E 514 [(0, .slice (some ⟨bl, 0, none⟩) ns.length cl), (14, nv minis), (29, .slice (some ⟨g29, 0, none⟩) stl c29), (30, .slice (some ⟨b30, 0, none⟩) mt.length mt.length), (33, .slice (some ⟨g33, 0, none⟩) msl c33), (34, v34), (36, .func (.func 28) #[] #[.pointer (some ⟨b25, 0, none⟩), .pointer (some ⟨b35, 0, none⟩)]), (44, .slice (some ⟨b44, 0, none⟩) W W), (45, .slice (some ⟨b45, 0, none⟩) D D)] ((b45, blk (bys dl) 5) :: (b44, blk (bys wl) 5) :: (bo, blk (bys ol) 5) :: (g29, blk (nats sts ++ r29) 3) :: (g33, blk (nats mst ++ r33) 3) :: (b35, blk [.func (.func 27) #[] #[.pointer (some ⟨b34, 0, none⟩), .pointer (some ⟨b7, 0, none⟩)]] 73) :: (b34, blk [.slice (some ⟨bo, 0, none⟩) N N] 23) :: (bf, blk (u32s fat) 67) :: (b25, blk [.slice (some ⟨bf, 0, none⟩) fat.length fat.length] 22) :: (b7, blk [nv size] 3) :: (b30, blk (u32s mt) 67) :: (bl, blk (nms ns ++ rl) 43) :: (nmsH ns ++ F)) (dig [1, 1, 1, 1, 1, 1, 1, 1, 1, 1, 1, 1, 1, 1, 1, 1, 1, 1, 1, 1, 1, 1, 1, 1, 1, 1, 1, 1, 1, 1, 1, 1, 1, 1, 1, 1, 1, 1, 1, 1, 1, 1, 1, 1, 1, 1, 1] (bodyOf Tryd.f15)) Q := by
 refine CW_seq ?_
 refine CW_sr ?_
 refine RW_m ?_
 refine RW_l (Yl_len rfl sl_25) ?_
 refine RW_m ?_
 refine RW_lv [14,29,30,33,34,36,44,45,359,360,361] ?_
 refine CW_block ?_
 refine CW_loop (σ := Nat) (fun k => [(14, nv minis), (29, .slice (some ⟨g29, 0, none⟩) stl c29), (30, .slice (some ⟨b30, 0, none⟩) mt.length mt.length), (33, .slice (some ⟨g33, 0, none⟩) msl c33), (34, v34), (36, .func (.func 28) #[] #[.pointer (some ⟨b25, 0, none⟩), .pointer (some ⟨b35, 0, none⟩)]), (44, .slice (some ⟨b44, 0, none⟩) W W), (45, .slice (some ⟨b45, 0, none⟩) D D), (359, .slice (some ⟨bl, 0, none⟩) ns.length cl), (360, nv ns.length), (361, nv k)]) (fun k => (b45, blk (bys (nodesTo minis size sts mst fat mt (ns.map Nm.nd) k (dl, wl, ol)).1) 5) :: (b44, blk (bys (nodesTo minis size sts mst fat mt (ns.map Nm.nd) k (dl, wl, ol)).2.1) 5) :: (bo, blk (bys (nodesTo minis size sts mst fat mt (ns.map Nm.nd) k (dl, wl, ol)).2.2) 5) :: (g29, blk (nats sts ++ r29) 3) :: (g33, blk (nats mst ++ r33) 3) :: (b35, blk [.func (.func 27) #[] #[.pointer (some ⟨b34, 0, none⟩), .pointer (some ⟨b7, 0, none⟩)]] 73) :: (b34, blk [.slice (some ⟨bo, 0, none⟩) N N] 23) :: (bf, blk (u32s fat) 67) :: (b25, blk [.slice (some ⟨bf, 0, none⟩) fat.length fat.length] 22) :: (b7, blk [nv size] 3) :: (b30, blk (u32s mt) 67) :: (bl, blk (nms ns ++ rl) 43) :: (nmsH ns ++ F)) (fun k => k ≤ ns.length ∧ (nodesTo minis size sts mst fat mt (ns.map Nm.nd) k (dl, wl, ol)).1.length = D ∧ (nodesTo minis size sts mst fat mt (ns.map Nm.nd) k (dl, wl, ol)).2.1.length = W ∧ (nodesTo minis size sts mst fat mt (ns.map Nm.nd) k (dl, wl, ol)).2.2.length = N) (fun k => ns.length - k) 0 ⟨by omega, hdl, hwl, hol⟩ (Prm.nil _) kp_ ?_
 rintro k ⟨hkn, hq1, hq2, hq3⟩
 obtain ⟨q, hqe⟩ : ∃ q, q = (nodesTo minis size sts mst fat mt (ns.map Nm.nd) k (dl, wl, ol)) := ⟨_, rfl⟩
 rw [← hqe] at hq1 hq2 hq3
 simp only [← hqe]
 refine CW_sr ?_
 refine RW_l (Yl_lss rfl rfl) ?_
 refine RW_lv [14,29,30,33,34,36,44,45,359,360,361,362] ?_
 refine CW_seq ?_
 refine CW_cd rfl (fun hc1 => ?_) (fun hc1 => ?_)
 ·refine (CW_skip (QW_lv [14,29,30,33,34,36,44,45,359,360,361] ?_))
  refine CW_seq ?_
  refine CW_block ?_
  refine CW_seq ?_
  have hx : (ns.getD k default).ok := ok_at hok om_
  refine CW_region ?_
  refine RW_m ?_
  refine RW_l (Yl_index rfl rfl sl_25 om_ om_) ?_
  refine RW_h (Yh_loadNm (k := k) rfl (show 0 + (k : Int).toNat * 28 = k * 28 by omega) mem_ om_) ?_
  refine RW_fx rfl rfl rfl (Fx_alloc (zs := zs_43) ze_43 rfl) ?_
  rintro _ _ ⟨b49, rfl, rfl⟩
  refine RW_a ?_
  refine RW_fx0 rfl rfl (Fx_storeNm rfl rfl rep_ rfl) ?_
  rintro _ _ rfl
  refine RW_lv [14,29,30,33,34,36,44,45,48,49,359,360,361] ?_
  refine CW_heap (Prm.perm (T := (b45, blk (bys q.1) 5) :: (b49, blk (ns.getD k default).cells 43) :: (b44, blk (bys q.2.1) 5) :: (bo, blk (bys q.2.2) 5) :: (g29, blk (nats sts ++ r29) 3) :: (g33, blk (nats mst ++ r33) 3) :: (b35, blk [.func (.func 27) #[] #[.pointer (some ⟨b34, 0, none⟩), .pointer (some ⟨b7, 0, none⟩)]] 73) :: (b34, blk [.slice (some ⟨bo, 0, none⟩) N N] 23) :: (bf, blk (u32s fat) 67) :: (b25, blk [.slice (some ⟨bf, 0, none⟩) fat.length fat.length] 22) :: (b7, blk [nv size] 3) :: (b30, blk (u32s mt) 67) :: (bl, blk (nms ns ++ rl) 43) :: (nmsH ns ++ F)) prm_) ?_
  refine write_H (F := [(b44, blk (bys q.2.1) 5), (bo, blk (bys q.2.2) 5), (g29, blk (nats sts ++ r29) 3), (g33, blk (nats mst ++ r33) 3), (b35, blk [.func (.func 27) #[] #[.pointer (some ⟨b34, 0, none⟩), .pointer (some ⟨b7, 0, none⟩)]] 73), (b34, blk [.slice (some ⟨bo, 0, none⟩) N N] 23), (bf, blk (u32s fat) 67), (b25, blk [.slice (some ⟨bf, 0, none⟩) fat.length fat.length] 22), (b7, blk [nv size] 3), (b30, blk (u32s mt) 67), (bl, blk (nms ns ++ rl) 43)] ++ (nmsH ns ++ F)) (by intro _ _ _ _ _ h; exact hQ _ _ _ _ _ h) b45 b49 k D (128 * k) (D - 128 * k) (ns.getD k default) q.1 rfl om_ rfl hDb hq1 hx.name ?_
  refine CW_heap (Prm.perm (T := (b44, blk (bys q.2.1) 5) :: (b30, blk (u32s mt) 67) :: (g29, blk (nats sts ++ r29) 3) :: (g33, blk (nats mst ++ r33) 3) :: (b49, blk (ns.getD k default).cells 43) :: (bo, blk (bys q.2.2) 5) :: (b35, blk [.func (.func 27) #[] #[.pointer (some ⟨b34, 0, none⟩), .pointer (some ⟨b7, 0, none⟩)]] 73) :: (b34, blk [.slice (some ⟨bo, 0, none⟩) N N] 23) :: (bf, blk (u32s fat) 67) :: (b25, blk [.slice (some ⟨bf, 0, none⟩) fat.length fat.length] 22) :: (b7, blk [nv size] 3) :: (b45, blk (bys (nameF (128 * k) (ns.getD k default).nd q.1)) 5) :: (bl, blk (nms ns ++ rl) 43) :: (nmsH ns ++ F)) prm_) ?_
  refine CW_heap (perm_in [(b44, blk (bys q.2.1) 5), (b30, blk (u32s mt) 67), (g29, blk (nats sts ++ r29) 3), (g33, blk (nats mst ++ r33) 3), (b49, blk (ns.getD k default).cells 43), (bo, blk (bys q.2.2) 5), (b35, blk [.func (.func 27) #[] #[.pointer (some ⟨b34, 0, none⟩), .pointer (some ⟨b7, 0, none⟩)]] 73), (b34, blk [.slice (some ⟨bo, 0, none⟩) N N] 23), (bf, blk (u32s fat) 67), (b25, blk [.slice (some ⟨bf, 0, none⟩) fat.length fat.length] 22), (b7, blk [nv size] 3)] [(b45, blk (bys (nameF (128 * k) (ns.getD k default).nd q.1)) 5), (bl, blk (nms ns ++ rl) 43)] F (nmsH_perm ns k om_)) ?_
  refine write_J (F := [(b45, blk (bys (nameF (128 * k) (ns.getD k default).nd q.1)) 5), (bl, blk (nms ns ++ rl) 43)] ++ (nmsH (ns.eraseIdx k) ++ F)) (by intro _ _ _ _ _ h; exact hQ _ _ _ _ _ h) b7 g29 stl c29 b30 bf b25 b34 b35 bo g33 msl c33 b44 b49 k size N T minis W sts mst mt fat r29 r33 q.2.1 q.2.2 (ns.getD k default) hx hsz hsl om_ hml om_ hsb hmsb hmt hmb hfb hT hTf hN hq3 hW hW2 hq2 hmm om_ (hch1 k om_) (hch2 k om_) ?_
  intro kd st ln wl' ol' hsw
  refine CW_heap (perm_in [(b44, blk (bys wl') 5), (b30, blk (u32s mt) 67), (g29, blk (nats sts ++ r29) 3), (g33, blk (nats mst ++ r33) 3), (b49, blk (ns.getD k default).cells 43), (bo, blk (bys ol') 5), (b35, blk [.func (.func 27) #[] #[.pointer (some ⟨b34, 0, none⟩), .pointer (some ⟨b7, 0, none⟩)]] 73), (b34, blk [.slice (some ⟨bo, 0, none⟩) N N] 23), (bf, blk (u32s fat) 67), (b25, blk [.slice (some ⟨bf, 0, none⟩) fat.length fat.length] 22), (b7, blk [nv size] 3)] [(b45, blk (bys (nameF (128 * k) (ns.getD k default).nd q.1)) 5), (bl, blk (nms ns ++ rl) 43)] F (nmsH_perm ns k om_)).symm ?_
  have hfs := swF_facts (k := k) (minis := minis) (size := size) (wl := q.2.1) (ol := q.2.2) om_ hsb hmsb om_ om_ hN hq3 om_ om_ hx.small (hch1 k om_) (hch2 k om_)
  rw [hsw] at hfs
  simp only at hfs
  obtain ⟨hf1, hf2, hf3, hf4⟩ := hfs
  refine CW_heap (Prm.perm (T := (b45, blk (bys (nameF (128 * k) (ns.getD k default).nd q.1)) 5) :: (b49, blk (ns.getD k default).cells 43) :: (b44, blk (bys wl') 5) :: (bo, blk (bys ol') 5) :: (g29, blk (nats sts ++ r29) 3) :: (g33, blk (nats mst ++ r33) 3) :: (b35, blk [.func (.func 27) #[] #[.pointer (some ⟨b34, 0, none⟩), .pointer (some ⟨b7, 0, none⟩)]] 73) :: (b34, blk [.slice (some ⟨bo, 0, none⟩) N N] 23) :: (bf, blk (u32s fat) 67) :: (b25, blk [.slice (some ⟨bf, 0, none⟩) fat.length fat.length] 22) :: (b7, blk [nv size] 3) :: (b30, blk (u32s mt) 67) :: (bl, blk (nms ns ++ rl) 43) :: (nmsH ns ++ F)) prm_) ?_
  refine write_K (F := [(b44, blk (bys wl') 5), (bo, blk (bys ol') 5), (g29, blk (nats sts ++ r29) 3), (g33, blk (nats mst ++ r33) 3), (b35, blk [.func (.func 27) #[] #[.pointer (some ⟨b34, 0, none⟩), .pointer (some ⟨b7, 0, none⟩)]] 73), (b34, blk [.slice (some ⟨bo, 0, none⟩) N N] 23), (bf, blk (u32s fat) 67), (b25, blk [.slice (some ⟨bf, 0, none⟩) fat.length fat.length] 22), (b7, blk [nv size] 3), (b30, blk (u32s mt) 67), (bl, blk (nms ns ++ rl) 43)] ++ (nmsH ns ++ F)) (by intro _ _ _ _ _ h; exact hQ _ _ _ _ _ h) b45 b49 D (128 * k) (D - 128 * k) st ln kd (ns.getD k default) (nameF (128 * k) (ns.getD k default).nd q.1) hx om_ rfl hDb (by rw [length_nameF _ _ _ om_ hx.name]; exact hq1) hf1 hf2 hx.created hx.modified ?_
  refine QW_normal_block ?_
  refine (QW_lv [14,29,30,33,34,36,44,45,359,360,361] ?_)
  refine CW_region ?_
  refine RW_l (Yl_add rfl rfl (wi64 om_ om_)) ?_
  refine RW_m ?_
  refine RW_nil ?_
  have hsuc : nodesTo minis size sts mst fat mt (ns.map Nm.nd) (k + 1) (dl, wl, ol) = (entF (128 * k) (ns.getD k default).nd kd st ln (nameF (128 * k) (ns.getD k default).nd q.1), wl', ol') := by
   show nodeF minis size sts mst fat mt (ns.map Nm.nd) k (nodesTo minis size sts mst fat mt (ns.map Nm.nd) k (dl, wl, ol)) = _
   rw [← hqe]; unfold nodeF; rw [nd_at ns k om_, hsw]
  refine QW_round (k + 1) ?_ om_ ?_ kp_
  ·rw [hsuc]; exact ⟨by omega, by rw [length_entF _ _ _ _ _ _ (by rw [length_nameF _ _ _ om_ hx.name]; omega), length_nameF _ _ _ om_ hx.name]; exact hq1, hf3.trans hW, hf4⟩
  rw [hsuc]; exact prm_
 refine CW_exit ?_
 refine QW_exit_then ?_
 refine QW_exit_then ?_
 refine QW_exit_block ?_
 refine (QW_lv [29,34,36,44,45] ?_)
 obtain rfl : k = ns.length := by omega
 refine CW_heap (Prm.perm (T := (b45, blk (bys q.1) 5) :: (b44, blk (bys q.2.1) 5) :: (bo, blk (bys q.2.2) 5) :: (g29, blk (nats sts ++ r29) 3) :: (g33, blk (nats mst ++ r33) 3) :: (b35, blk [.func (.func 27) #[] #[.pointer (some ⟨b34, 0, none⟩), .pointer (some ⟨b7, 0, none⟩)]] 73) :: (b34, blk [.slice (some ⟨bo, 0, none⟩) N N] 23) :: (bf, blk (u32s fat) 67) :: (b25, blk [.slice (some ⟨bf, 0, none⟩) fat.length fat.length] 22) :: (b7, blk [nv size] 3) :: (b30, blk (u32s mt) 67) :: (bl, blk (nms ns ++ rl) 43) :: (nmsH ns ++ F)) prm_) ?_
 rw [hqe]
 exact hk

theorem write_M {E : World} {Q : Exit → Act → World → Prop} {F : Heap} (hQ : QP Q) (b7 g29 stl c29 bf b25 b34 b35 bo b44 b45 size N T W D : Nat) (sts fat : List Nat) (r29 : List Value) (dl wl ol : List UInt8)  (hsz : 512 ≤ size ∧ size ≤ 4096) (hsl : stl = sts.length) (hsl3 : 3 ≤ sts.length) (hsb : ∀ y ∈ sts, y ≤ 4294967295) (hfb : ∀ y ∈ fat, y < 4294967296) (hT : T ≤ 100000) (hTf : T ≤ fat.length) (hN : size * (1 + T) = N) (hol : ol.length = N) (hwl : wl.length = W) (hdl : dl.length = D) (hW2 : W ≤ 100000000) (hDb : D ≤ 1000000) (hcW : ∀ j, j * size < W → walkP fat (sts.getD 2 0) j < T) (hcD : ∀ j, j * size < D → walkP fat (sts.getD 0 0) j < T)
  (hk : QW E 514 [(6, .slice (some ⟨bo, 0, none⟩) N N)] ((bo, blk (bys (fillF fat size dl (sts.getD 0 0) (fillF fat size wl (sts.getD 2 0) ol))) 5) :: F) .ret Q) :
  CW Tryd.prog E 514 [(29, .slice (some ⟨g29, 0, none⟩) stl c29), (34, .pointer (some ⟨b34, 0, none⟩)), (36, .func (.func 28) #[] #[.pointer (some ⟨b25, 0, none⟩), .pointer (some ⟨b35, 0, none⟩)]), (44, .slice (some ⟨b44, 0, none⟩) W W), (45, .slice (some ⟨b45, 0, none⟩) D D)] ((b45, blk (bys dl) 5) :: (b44, blk (bys wl) 5) :: (bo, blk (bys ol) 5) :: (g29, blk (nats sts ++ r29) 3) :: (b35, blk [.func (.func 27) #[] #[.pointer (some ⟨b34, 0, none⟩), .pointer (some ⟨b7, 0, none⟩)]] 73) :: (b34, blk [.slice (some ⟨bo, 0, none⟩) N N] 23) :: (bf, blk (u32s fat) 67) :: (b25, blk [.slice (some ⟨bf, 0, none⟩) fat.length fat.length] 22) :: (b7, blk [nv size] 3) :: F) (dig [1, 1, 1, 1, 1, 1, 1, 1, 1, 1, 1, 1, 1, 1, 1, 1, 1, 1, 1, 1, 1, 1, 1, 1, 1, 1, 1, 1, 1, 1, 1, 1, 1, 1, 1, 1, 1, 1, 1, 1, 1, 1, 1, 1, 1, 1, 1, 1] (bodyOf Tryd.f15)) Q := by
 have hNb : N ≤ 1000000000 := by
  have h1 : size * (1 + T) ≤ 4096 * 100001 := Nat.mul_le_mul hsz.2 om_
  omega
 have hl1 : (fillF fat size wl (sts.getD 2 0) ol).length = N := by
  rw [length_fillF om_ (fun j hj => by have h1 := hcW j om_; have h2 := sector_le2 (size := size) h1; omega)]; exact hol
 rw [show (b44, blk (bys wl) 5) = (b44, blk (bys wl ++ []) 5) by rw [List.append_nil], show (b45, blk (bys dl) 5) = (b45, blk (bys dl ++ []) 5) by rw [List.append_nil]]
 have hf1 := fill_ct b25 bf b35 b34 b7 bo b44 fat.length N W size (sts.getD 2 0) N fat wl ol [] (by omega) hol.symm (by omega) (by omega) (by omega) (by omega) (le_getD hsb (by omega)) hfb (fun j hj => by
  have h1 := hcW j om_
  have h2 := sector_le2 (size := size) h1
  omega)
 rw [hwl] at hf1
 have hf2 := fill_ct b25 bf b35 b34 b7 bo b45 fat.length N D size (sts.getD 0 0) N fat dl (fillF fat size wl (sts.getD 2 0) ol) [] (by omega) hl1.symm (by omega) (by omega) (by omega) (by omega) (le_getD hsb (by omega)) hfb (fun j hj => by
  have h1 := hcD j om_
  have h2 := sector_le2 (size := size) h1
  omega)
 rw [hdl] at hf2
 refine CW_sr ?_
 refine RW_m ?_
 refine RW_m ?_
 refine RW_l (Yl_index rfl rfl sl_29 om_ om_) ?_
 refine RW_h (Yh_load (v := nv (sts.getD 2 0)) rfl sc_3 mem_ (at_nats om_ om_)) ?_
 refine RW_m ?_
 refine RW_fx rfl rfl rfl (Fx_callV ok_28 (fs := []) (vs := [nv (sts.getD 2 0), .slice (some ⟨b44, 0, none⟩) W W]) (cs := [.pointer (some ⟨b25, 0, none⟩), .pointer (some ⟨b35, 0, none⟩)]) rfl rfl pk_ hf1) ?_
 rintro _ _ ⟨_, ⟨rfl, rfl⟩, rfl⟩
 refine RW_lv [29,34,36,45] ?_
 refine CW_sr ?_
 refine RW_m ?_
 refine RW_m ?_
 refine RW_l (Yl_index rfl rfl sl_29 om_ om_) ?_
 refine RW_h (Yh_load (v := nv (sts.getD 0 0)) rfl sc_3 mem_ (at_nats om_ om_)) ?_
 refine RW_m ?_
 refine RW_fx rfl rfl rfl (Fx_callV ok_28 (fs := []) (vs := [nv (sts.getD 0 0), .slice (some ⟨b45, 0, none⟩) D D]) (cs := [.pointer (some ⟨b25, 0, none⟩), .pointer (some ⟨b35, 0, none⟩)]) rfl rfl pk_ hf2) ?_
 rintro _ _ ⟨_, ⟨rfl, rfl⟩, rfl⟩
 refine RW_lv [34] ?_
 refine CW_sr ?_
 refine RW_h (Yh_ld (v := .slice (some ⟨bo, 0, none⟩) N N) sc_23) ?_
 refine RW_a ?_
 refine RW_lv [6] ?_
 refine CW_ret ?_
 refine QW_dropB (e := (b45, _)) rem_ ?_
 refine QW_dropB (e := (b44, _)) rem_ ?_
 refine QW_dropB (e := (g29, _)) rem_ ?_
 refine QW_dropB (e := (b35, _)) rem_ ?_
 refine QW_dropB (e := (b34, _)) rem_ ?_
 refine QW_dropB (e := (bf, _)) rem_ ?_
 refine QW_dropB (e := (b25, _)) rem_ ?_
 refine QW_dropB (e := (b7, _)) rem_ ?_
 exact QW_live (.cons rfl .nil) hk

theorem write_ct (bl cl v st : Nat) (ns : List Nm) (rl : List Value) (xs : List Nd) (hxe : xs = ns.map Nm.nd) (hxs : Ok xs) (hok : ∀ x ∈ ns, x.ok) (hv : v ≤ 4) (hst : st ≤ 1000) :
  Ct Tryd.prog 15 [.slice (some ⟨bl, 0, none⟩) ns.length cl, nv v, nv st] ((bl, blk (nms ns ++ rl) 43) :: nmsH ns)
   (fun u p => ∃ g, u = .slice (some ⟨g, 0, none⟩) (NF v xs) (NF v xs) ∧ p = (g, blk (bys (writeF v st xs)) 5) :: (bl, blk (nms ns ++ rl) 43) :: nmsH ns) := by
 refine Ct_of (c := bodyOf Tryd.f15) Tryd.func15 rfl Tryd.ntmps15 rfl ?_
 intro E F
 simp only [numL, List.cons_append]
 have hlen : xs.length = ns.length := by rw [hxe]; simp
 have hsm : (ns.map fun x => smallF x.nd) = smF xs := by rw [hxe]; simp [smF, Function.comp_def]
 have hlg : (ns.map fun x => largeF (sizeF v) x.nd) = lgF v xs := by rw [hxe]; simp [lgF, Function.comp_def]
 have hsz : 512 ≤ sizeF v ∧ sizeF v ≤ 4096 := by rcases sizeF_or v with e | e <;> omega
 have hper : 4 * perF v = sizeF v := by unfold perF; rcases sizeF_or v with e | e <;> omega
 have hn1 := hxs.len
 have hmi := miF_le hxs
 have hcsl := cs_sum_le (v := v) hxs
 have hft := ftF_ok (v := v) hxs
 have hmf := mfF_le (v := v) hxs
 have hds := dsF_le (v := v) hxs
 have hNF := NF_le (v := v) hxs
 have hchl := length_ch (v := v) (st := st) hxs
 have hmchl := length_mch (v := v) (st := st) hxs
 have hchm := ch_mem (v := v) (st := st) hxs
 have hmchm := mch_mem (v := v) (st := st) hxs
 have hsb : ∀ y ∈ (chF v st xs).outs, y ≤ 4294967295 := fun y hy => by have := hchm.2 y hy; omega
 have hmsb : ∀ y ∈ (mchF v st xs).outs, y ≤ 4294967295 := fun y hy => by have := hmchm.2 y hy; omega
 have hcse : countsF ns.length (smF xs).sum (sizeF v) (lgF v xs) = csF v xs := by rw [← hlen]; rfl
 have hdse : partsF ns.length (sizeF v / 128) = dsF v xs := by rw [← hlen]; rfl
 refine write_A (by intro _ _ _ _ _ h; exact h) v st bl cl ns rl om_ hok hv ?_
 intro b7 g8 g9 c8 c9 r8 r9 hl8 hl9
 rw [hsm] at hl8 ⊢
 rw [hlg] at hl9 ⊢
 refine write_B (by intro _ _ _ _ _ h; exact h) v st bl cl ns.length g8 g9 c8 c9 b7 (sizeF v) (smF xs) (lgF v xs) r8 r9 om_ (by rw [← hlen]; simp [smF]) (by rw [← hlen]; simp [lgF]) hsz (show miF xs ≤ 100000 by omega) (by rw [hcse]; omega) ?_
 intro g19 c19 r19 hl19
 rw [hcse] at hl19 ⊢
 rw [hdse]
 refine CW_heap (Prm.perm (T := (g8, blk (nats (smF xs) ++ r8) 3) :: (g19, blk (nats (csF v xs) ++ r19) 3) :: (b7, blk [nv (sizeF v)] 3) :: (bl, blk (nms ns ++ rl) 43) :: (nmsH ns ++ F)) prm_) ?_
 refine write_C (F := (b7, blk [nv (sizeF v)] 3) :: (bl, blk (nms ns ++ rl) 43) :: (nmsH ns ++ F)) (by intro _ _ _ _ _ h; exact h) st b7 g8 c8 g19 c19 (perF v) (ftF v xs) (mfF v xs) ns.length (ns.length + 3) (smF xs) (csF v xs) r8 r19 (by rw [← hlen]; simp [smF]) (by rw [length_csF, hlen]) rfl hst om_ hft.1 (by rw [length_csF]; omega) (by rw [length_csF]; omega) (by simp [smF]; omega) (show miF xs ≤ 100000 by omega) om_ hft.2.2.1 hmf.2.1 om_ ?_
 intro g24 c24 r24 b25 bf g29 c29 r29 b30 g33 c33 r33 hl24 hl29 hl33
 refine CW_heap (Prm.perm (T := (g19, blk (nats (csF v xs) ++ r19) 3) :: (g29, blk (nats (chF v st xs).outs ++ r29) 3) :: (b7, blk [nv (sizeF v)] 3) :: (g33, blk (nats (mchF v st xs).outs ++ r33) 3) :: (b30, blk (u32s (mchF v st xs).table) 67) :: (bf, blk (u32s (chF v st xs).table) 67) :: (b25, blk [.slice (some ⟨bf, 0, none⟩) (ftF v xs * perF v) (ftF v xs * perF v)] 22) :: (g24, blk (nats (plF v st xs) ++ r24) 3) :: (bl, blk (nms ns ++ rl) 43) :: (nmsH ns ++ F)) prm_) ?_
 refine write_D (by intro _ _ _ _ _ h; exact h) v b7 g19 (ns.length + 3) c19 g29 (ns.length + 3) c29 (sizeF v) (dsF v xs) (csF v xs).sum (ftF v xs) (NF v xs) (csF v xs) (chF v st xs).outs r19 r29 (sizeF_or v) (by rw [length_csF, hlen]) (by rw [length_csF]; omega) om_ om_ (by rw [cs_1]; omega) (le_getD hsb om_) (le_getD hsb om_) om_ om_ hv om_ (by unfold NF TF; rw [Nat.add_assoc]) hNF.1 om_ ?_
 intro bo b34 b35
 refine CW_heap (Prm.perm (T := (bo, blk (bys (out0F v st xs)) 5) :: (b35, blk [.func (.func 27) #[] #[.pointer (some ⟨b34, 0, none⟩), .pointer (some ⟨b7, 0, none⟩)]] 73) :: (b34, blk [.slice (some ⟨bo, 0, none⟩) (NF v xs) (NF v xs)] 23) :: (bf, blk (u32s (chF v st xs).table) 67) :: (b25, blk [.slice (some ⟨bf, 0, none⟩) (ftF v xs * perF v) (ftF v xs * perF v)] 22) :: (g24, blk (nats (plF v st xs) ++ r24) 3) :: (b7, blk [nv (sizeF v)] 3) :: (g29, blk (nats (chF v st xs).outs ++ r29) 3) :: (g33, blk (nats (mchF v st xs).outs ++ r33) 3) :: (b30, blk (u32s (mchF v st xs).table) 67) :: (bl, blk (nms ns ++ rl) 43) :: (nmsH ns ++ F)) prm_) ?_
 rw [← hchl.1, show (csF v xs).sum + ftF v xs = (plF v st xs).length from (length_plF hxs).symm]
 refine write_E (by intro _ _ _ _ _ h; exact h) b7 g24 c24 bf b25 b34 b35 bo (sizeF v) (perF v) (ftF v xs) (NF v xs) (TF v xs) (plF v st xs) (chF v st xs).table r24 (out0F v st xs) hsz hper (pl_lt hxs) hl24 (by rw [length_plF hxs]; unfold TF; omega) om_ (by rw [hchl.1]; omega) hchm.1 om_ rfl hNF.1 (length_out0F hxs) ?_
 refine CW_heap (Prm.perm (T := (bo, blk (bys (out1F v st xs)) 5) :: (b35, blk [.func (.func 27) #[] #[.pointer (some ⟨b34, 0, none⟩), .pointer (some ⟨b7, 0, none⟩)]] 73) :: (b34, blk [.slice (some ⟨bo, 0, none⟩) (NF v xs) (NF v xs)] 23) :: (bf, blk (u32s (chF v st xs).table) 67) :: (b25, blk [.slice (some ⟨bf, 0, none⟩) (chF v st xs).table.length (chF v st xs).table.length] 22) :: (b30, blk (u32s (mchF v st xs).table) 67) :: (g29, blk (nats (chF v st xs).outs ++ r29) 3) :: (b7, blk [nv (sizeF v)] 3) :: (g24, blk (nats (plF v st xs) ++ r24) 3) :: (g33, blk (nats (mchF v st xs).outs ++ r33) 3) :: (bl, blk (nms ns ++ rl) 43) :: (nmsH ns ++ F)) prm_) ?_
 rw [← hmchl.1]
 refine write_F (by intro _ _ _ _ _ h; exact h) b7 g29 (ns.length + 3) c29 b30 bf b25 b34 b35 bo (sizeF v) (NF v xs) (TF v xs) (chF v st xs).outs (mchF v st xs).table (chF v st xs).table r29 (out1F v st xs) hsz om_ om_ (le_getD hsb om_) om_ hmchm.1 hchm.1 om_ (by rw [hchl.1]; omega) rfl (length_out1F hxs) (fun k hk => fill1_ok hxs (by rw [length_tabF]; exact hk)) ?_
 refine CW_heap (Prm.perm (T := (b7, blk [nv (sizeF v)] 3) :: (bo, blk (bys (out2F v st xs)) 5) :: (b35, blk [.func (.func 27) #[] #[.pointer (some ⟨b34, 0, none⟩), .pointer (some ⟨b7, 0, none⟩)]] 73) :: (b34, blk [.slice (some ⟨bo, 0, none⟩) (NF v xs) (NF v xs)] 23) :: (bf, blk (u32s (chF v st xs).table) 67) :: (b25, blk [.slice (some ⟨bf, 0, none⟩) (chF v st xs).table.length (chF v st xs).table.length] 22) :: (b30, blk (u32s (mchF v st xs).table) 67) :: (g29, blk (nats (chF v st xs).outs ++ r29) 3) :: (g24, blk (nats (plF v st xs) ++ r24) 3) :: (g33, blk (nats (mchF v st xs).outs ++ r33) 3) :: (bl, blk (nms ns ++ rl) 43) :: (nmsH ns ++ F)) prm_) ?_
 refine write_G (by intro _ _ _ _ _ h; exact h) b7 (sizeF v) (miF xs) (dsF v xs) hsz om_ om_ ?_
 intro b44 b45
 refine CW_heap (Prm.perm (T := (b45, blk (bys (dirTo (dsF v xs * sizeF v / 128) (List.replicate (dsF v xs * sizeF v) 0))) 5) :: (b44, blk (bys (List.replicate (64 * miF xs) 0)) 5) :: (bo, blk (bys (out2F v st xs)) 5) :: (g29, blk (nats (chF v st xs).outs ++ r29) 3) :: (g33, blk (nats (mchF v st xs).outs ++ r33) 3) :: (b35, blk [.func (.func 27) #[] #[.pointer (some ⟨b34, 0, none⟩), .pointer (some ⟨b7, 0, none⟩)]] 73) :: (b34, blk [.slice (some ⟨bo, 0, none⟩) (NF v xs) (NF v xs)] 23) :: (bf, blk (u32s (chF v st xs).table) 67) :: (b25, blk [.slice (some ⟨bf, 0, none⟩) (chF v st xs).table.length (chF v st xs).table.length] 22) :: (b7, blk [nv (sizeF v)] 3) :: (b30, blk (u32s (mchF v st xs).table) 67) :: (bl, blk (nms ns ++ rl) 43) :: ((g24, blk (nats (plF v st xs) ++ r24) 3) :: (nmsH ns ++ F))) prm_) ?_
 refine CW_heap (perm_in2 [(b45, _), (b44, _), (bo, _), (g29, _), (g33, _), (b35, _), (b34, _), (bf, _), (b25, _), (b7, _), (b30, _), (bl, _)] (g24, blk (nats (plF v st xs) ++ r24) 3) (nmsH ns) F) ?_
 have hxk : ∀ k, k < ns.length → xs.getD k default = (ns.getD k default).nd := fun k hk => by rw [hxe]; exact nd_at ns k hk
 refine write_L (F := (g24, blk (nats (plF v st xs) ++ r24) 3) :: F) (by intro _ _ _ _ _ h; exact h) b7 g29 (ns.length + 3) c29 b30 bf b25 b34 b35 bo g33 ns.length c33 b44 b45 bl cl (sizeF v) (NF v xs) (TF v xs) (miF xs) (64 * miF xs) (dsF v xs * sizeF v) ns rl (chF v st xs).outs (mchF v st xs).outs (mchF v st xs).table (chF v st xs).table r29 r33 (dirTo (dsF v xs * sizeF v / 128) (List.replicate (dsF v xs * sizeF v) 0)) (List.replicate (64 * miF xs) 0) (out2F v st xs)
  hok om_ hsz om_ om_ om_ om_ hsb hmsb om_ hmchm.1 hchm.1 om_ (by rw [hchl.1]; omega) rfl (length_out2F hxs) rfl om_ (by simp) (by rw [hmchl.1]; omega) (by rw [length_dirTo _ _ (by simp; omega)]; simp) om_ om_
  (fun k hk _ hs hl j hj => by rw [← hxk k hk] at hs hl hj; exact node1_ok hxs om_ hs hl hj) (fun k hk _ hs hl j hj => by rw [← hxk k hk] at hs hl hj; exact node2_ok hxs om_ hs hl hj) ?_
 rw [← hxe, ← hlen]
 have hnm : ∀ x ∈ xs, x.name.length ≤ 31 := by
  intro x hx
  rw [hxe] at hx
  obtain ⟨y, hy, rfl⟩ := List.mem_map.1 hx
  exact (hok y hy).name
 obtain ⟨hq1, hq2, hq3⟩ := nodesTo_len (v := v) (st := st) hxs hnm xs.length (Nat.le_refl _) (ndsF v st xs) rfl
 refine CW_heap (Prm.perm (T := (b45, blk (bys (ndsF v st xs).1) 5) :: (b44, blk (bys (ndsF v st xs).2.1) 5) :: (bo, blk (bys (ndsF v st xs).2.2) 5) :: (g29, blk (nats (chF v st xs).outs ++ r29) 3) :: (b35, blk [.func (.func 27) #[] #[.pointer (some ⟨b34, 0, none⟩), .pointer (some ⟨b7, 0, none⟩)]] 73) :: (b34, blk [.slice (some ⟨bo, 0, none⟩) (NF v xs) (NF v xs)] 23) :: (bf, blk (u32s (chF v st xs).table) 67) :: (b25, blk [.slice (some ⟨bf, 0, none⟩) (chF v st xs).table.length (chF v st xs).table.length] 22) :: (b7, blk [nv (sizeF v)] 3) :: (g33, blk (nats (mchF v st xs).outs ++ r33) 3) :: (b30, blk (u32s (mchF v st xs).table) 67) :: (bl, blk (nms ns ++ rl) 43) :: (nmsH ns ++ ((g24, blk (nats (plF v st xs) ++ r24) 3) :: F))) prm_) ?_
 refine write_M (by intro _ _ _ _ _ h; exact h) b7 g29 (xs.length + 3) c29 bf b25 b34 b35 bo b44 b45 (sizeF v) (NF v xs) (TF v xs) (64 * miF xs) (dsF v xs * sizeF v) (chF v st xs).outs (chF v st xs).table r29 (ndsF v st xs).1 (ndsF v st xs).2.1 (ndsF v st xs).2.2 hsz om_ om_ hsb hchm.1 om_ (by rw [hchl.1]; omega) rfl hq3 hq2 hq1 om_ om_
  (fun j hj => ch_walk_lt hxs om_ (by rw [cs_2, lt_partsF om_]; omega)) (fun j hj => ch_walk_lt hxs om_ (by rw [cs_0]; exact Nat.lt_of_mul_lt_mul_right hj)) ?_
 refine QW_dropB (e := (g33, _)) rem_ ?_
 refine QW_dropB (e := (b30, _)) rem_ ?_
 refine QW_heap (perm_in2 [(bo, _), (bl, _)] (g24, blk (nats (plF v st xs) ++ r24) 3) (nmsH ns) F).symm ?_
 refine QW_dropB (e := (g24, _)) rem_ ?_
 exact QW_ret1 rfl rfl ((bo, blk (bys (writeF v st xs)) 5) :: (bl, blk (nms ns ++ rl) 43) :: nmsH ns) ⟨bo, rfl, rfl⟩ (Prm.nil _)

section
variable {P : Program} {L : Fra} {dst : Option Tmp} {ty : TypeId} {pos : String} {aft : Array Edge} {gd : Option (Nat × Bool)}
theorem Yl_rune {x : Operand} {n : Nat} {t u : TypeId} (hx : ev L x = some (.int .i32 (n : Int))) (ht : inOf P t = some .i32) (hu : isStr P u = true) (hn : n < 128) :
    Yl P L ⟨dst, .convert t u x, ty, pos, aft, gd⟩ (.string (bar [UInt8.ofNat n])) := by
  intro _ a w hf
  have h1 := inOf_u ht
  have h2 := isStr_u hu
  have h3 := encode_small n hn
  simp only [Int.ofNat_eq_natCast] at h3
  simp [execOp, hf.eval hx, convert, underlying, h1, h2, Conv.intToString, h3]
  rfl
theorem Yl_concatB {x y : Operand} {a b : List UInt8} {t u : TypeId} (hx : ev L x = some (.string (bar a))) (hy : ev L y = some (.string (bar b))) (hs : a.length + b.length ≤ 1000000) :
    Yl P L ⟨dst, .binOp .add t x y u, ty, pos, aft, gd⟩ (.string (bar (a ++ b))) := by
  have h := Yl_concat (P := P) (dst := dst) (ty := ty) (pos := pos) (aft := aft) (gd := gd) (t := t) (u := u) hx hy (by simp [bar, ByteArray.size]; omega)
  have e : bar a ++ bar b = bar (a ++ b) := by
    apply ByteArray.ext
    simp [bar]
  rw [e] at h; exact h
end
structure PsOk (ps : List Value) : Prop where
  cap : ∀ c, 65 ≤ c → c ≤ 90 → ps[c]? = some (.int .u8 160)
  ctl : ∀ c, 1 ≤ c → c ≤ 31 → ps[c]? = some (.int .u8 1)
theorem and_160 : ∀ w, (Op.intBits .and .u8 160 128).run Tryd.prog w = .ok (.int .u8 128) w := by
  intro w
  simp [Op.intBits]
  rfl
theorem nmOk_cap {ps : List Value} (hp : PsOk ps) {x : Nd} (h1 : 1 ≤ x.name.length) (h2 : x.name.length ≤ 31) (h3 : ∀ c ∈ x.name, c.toNat < 128) (h4 : 65 ≤ (x.name.getD 0 0).toNat ∧ (x.name.getD 0 0).toNat ≤ 90) : NmOk ps x x.name :=
  ⟨h1, h2, h3, 160, 128, hp.cap _ h4.1 h4.2, and_160, by simp⟩
theorem nms_set (ns : List Nm) (k j : Nat) (v : Value) (x : Nm) (r : List Value) (hk : k < ns.length) (hj : j < 28) (hx : x.cells = (ns.getD k default).cells.set j v) : (nms ns ++ r).set (k * 28 + j) v = nms (ns.set k x) ++ r := by
  induction ns generalizing k with
  | nil => simp at hk
  | cons y t ih =>
    cases k with
    | zero =>
      have hy : (List.getD (y :: t) 0 default) = y := rfl
      rw [hy] at hx
      simp only [List.flatMap_cons, List.set_cons_zero, hx, Nat.zero_mul, Nat.zero_add]
      rw [List.append_assoc, List.set_append_left _ _ (by rw [Nm.length_cells]; exact hj), List.append_assoc]
    | succ k =>
      have hy : (List.getD (y :: t) (k + 1) default) = t.getD k default := by simp [List.getD_eq_getElem?_getD]
      rw [hy] at hx
      have hi := ih k (by simpa using hk) hx
      simp only [List.flatMap_cons, List.set_cons_succ]
      rw [List.append_assoc, List.set_append_right _ _ (by rw [Nm.length_cells, Nat.add_mul]; omega), Nm.length_cells, show (k + 1) * 28 + j - 28 = k * 28 + j by rw [Nat.add_mul]; omega, hi, List.append_assoc]
def verF (four : Bool) : Nat := if four = true then 4 else 3
theorem verF_or (four : Bool) : verF four = 3 ∨ verF four = 4 := by cases four <;> simp [verF]
theorem Entries_good {ps : List Value} {T : TypeId} {four : Bool} {st : Nat} {xs : List Nd} {nmF : Nat → List UInt8} (hx : Ok xs) (hnm : ∀ k, k < xs.length → NmOk ps (xs.getD k default) (nmF k)) (hlk : ∀ x ∈ xs, x.left ≤ 4294967295 ∧ x.right ≤ 4294967295 ∧ x.child ≤ 4294967295) (hN : NF (verF four) xs ≤ 131072) (gI : Nat) (hg : 2 ≠ gI)
    (hb : (STv (tnsF (verF four) xs nmF)).bad = false) :
    Ct Tryd.prog 18 [.slice (some ⟨gI, 0, none⟩) (NF (verF four) xs) (NF (verF four) xs)] [(gI, blk (bys (writeF (verF four) st xs)) 5), (2, blk ps T)] (fun v q => ∃ (fs : List Fil) (pth : Nat → List (List UInt8)) (out : List Nat) (g : Option Nat) (cap : Nat) (r : List Value) (rows : List (List Value)) (pp : Heap), pth = (STv (tnsF (verF four) xs nmF)).pth ∧ out = (STv (tnsF (verF four) xs nmF)).out ∧ fs.map (fun f => f.en.noPath) = (esF (verF four) st xs nmF).map En.noPath ∧ RowsOk fs pth pp out rows ∧ oOk g rows.flatten r out.length cap 27 ∧ v = .tuple #[osl g out.length cap, nv 0] ∧ q = (gI, blk (bys (writeF (verF four) st xs)) 5) :: (2, blk ps T) :: (oH g (rows.flatten ++ r) 41 ++ pp)) := by
  have hf := fileIn (v := verF four) (st := st) ps hx (verF_or four) hnm hlk
  have hd := dsF_le (v := verF four) hx
  have hs := size_ge (verF four)
  have hz : sizeF (verF four) / 128 * 128 = sizeF (verF four) := by rcases sizeF_or (verF four) with e | e <;> rw [e]
  have hcn : (tnsF (verF four) xs nmF).length ≤ 100000 := by
    have : dsF (verF four) xs * (sizeF (verF four) / 128) ≤ 5 * 32 := Nat.mul_le_mul hd.2.1 om_
    simp [tnsF, cntF]; omega
  have h := Entries_ok gI (NF (verF four) xs) [] _ _ _ _ _ _ _ _ _ _ _ ps T _ _ _ _ hf hN hg hb ?_ (pth_small _ hcn) (out_small _ hcn)
  · rw [List.append_nil] at h; exact h
  intro e he
  obtain ⟨k, hk, rfl⟩ := List.mem_map.1 he
  have hk' := List.mem_range.1 hk
  have hpos : 0 < sizeF (verF four) / 128 := by omega
  have hj : k / (sizeF (verF four) / 128) < dsF (verF four) xs := (Nat.div_lt_iff_lt_mul hpos).2 hk'
  have hi : k % (sizeF (verF four) / 128) < sizeF (verF four) / 128 := Nat.mod_lt _ hpos
  have hkk : k / (sizeF (verF four) / 128) * (sizeF (verF four) / 128) + k % (sizeF (verF four) / 128) = k := by rw [Nat.mul_comm]; exact Nat.div_add_mod _ _
  have h1 := enF_ok (st := st) ps hx hnm hj hi
  rw [hkk] at h1
  refine h1.dcOk ?_ ?_
  · have hl := (nTo_len (v := verF four) (st := st) hx (nds_at ps hx hnm) (Nat.le_refl _)).1
    rw [nTo_all] at hl
    have hle : k / (sizeF (verF four) / 128) * sizeF (verF four) + sizeF (verF four) ≤ dsF (verF four) xs * sizeF (verF four) := by rw [← Nat.succ_mul]; exact Nat.mul_le_mul_right _ hj
    unfold dsecF
    simp [hl]; omega
  unfold enF
  split
  · have := ((xs.getD k default).name.getD 0 0).toNat_lt
    simp only; omega
  simp

theorem Ct.ne {P : Program} {f : FuncId} {args : List Value} {a b : Nat} {x y : Obj} {r : Heap} {R : Value → Heap → Prop} (h : b ≠ a → Ct P f args ((a, x) :: (b, y) :: r) R) : Ct P f args ((a, x) :: (b, y) :: r) R := by
  intro E F w hh
  refine h ?_ E F w hh
  have := hh.nodup
  simp only [List.cons_append, List.map_cons, List.nodup_cons, List.mem_cons] at this
  intro e
  exact this.1 (.inl e.symm)
theorem cnt_le {v : Nat} {xs : List Nd} (h : Ok xs) : xs.length ≤ cntF v xs ∧ cntF v xs ≤ 32 := by
  have hl := h.len
  have hd := dsF_le (v := v) h
  unfold cntF dsF partsF
  rcases sizeF_or v with e | e <;> rw [e] <;> omega
/-! ### FnLoop -/
theorem tns_len (v : Nat) (xs : List Nd) (nmF : Nat → List UInt8) : (tnsF v xs nmF).length = cntF v xs := by simp [tnsF]
theorem lnkF_nat (k : Nat) : lnkF (k : Int) = k := by unfold lnkF; rw [if_pos om_]; simp
theorem lnkF_none : lnkF (-1) = FREE := rfl

end Go.Proofs.YtgoddcicbpjknaaDoor

set_option maxRecDepth 100000
namespace Go.Proofs.YtgoddcicbpjknaaDoor
open Go
open Cfb
open Go.RowKit
def others (W : World) (ks : List Nat) : Heap := (List.range W.heap.size).filterMap fun i => if ks.contains i then none else (W.heap[i]?).map fun o => (i, o)
theorem others_mem {W : World} {ks : List Nat} {p : Nat × Obj} (h : p ∈ others W ks) : p.1 ∉ ks ∧ W.heap[p.1]? = some p.2 := by
  unfold others at h
  obtain ⟨i, _, hi⟩ := List.mem_filterMap.1 h
  split at hi
  · cases hi
  rename_i hc
  simp only [Option.map_eq_some_iff] at hi
  obtain ⟨o, ho, rfl⟩ := hi
  exact ⟨by simpa using hc, ho⟩
theorem others_has {W : World} {ks : List Nat} {i : Nat} {o : Obj} (hk : i ∉ ks) (ho : W.heap[i]? = some o) : (i, o) ∈ others W ks := by
  unfold others
  refine List.mem_filterMap.2 ⟨i, List.mem_range.2 ?_, ?_⟩
  · rcases Nat.lt_or_ge i W.heap.size with h | h
    · exact h
    rw [Array.getElem?_eq_none h] at ho; cases ho
  rw [if_neg (by simpa using hk), ho]; rfl
theorem others_sub (W : World) (ks : List Nat) : ∀ l : List Nat, ((l.filterMap fun i => if ks.contains i then none else (W.heap[i]?).map fun o => (i, o)).map Prod.fst).Sublist l := by
  intro l
  induction l with
  | nil => exact .slnil
  | cons i r ih =>
    rw [List.filterMap_cons]
    split
    · exact ih.cons i
    rename_i p hp
    have hpi : p.1 = i := by
      split at hp
      · cases hp
      simp only [Option.map_eq_some_iff] at hp
      obtain ⟨o, _, rfl⟩ := hp
      rfl
    rw [List.map_cons, hpi]
    exact ih.cons_cons i
theorem others_nodup (W : World) (ks : List Nat) : ((others W ks).map Prod.fst).Nodup := List.nodup_range.sublist (others_sub W ks _)
theorem HA.start {W : World} {pre : Heap} (hm : ∀ p ∈ pre, W.heap[p.1]? = some p.2) (hn : (pre.map Prod.fst).Nodup) : HA W W (pre ++ others W (pre.map Prod.fst)) := by
  refine ⟨rfl, rfl, rfl, ?_, ?_, Nat.le_refl _, ?_⟩
  · rw [List.map_append, List.nodup_append]
    refine ⟨hn, others_nodup _ _, ?_⟩
    intro a ha b hb e
    subst e
    obtain ⟨p, hp, rfl⟩ := List.mem_map.1 hb
    exact (others_mem hp).1 ha
  · intro p hp
    rcases List.mem_append.1 hp with h | h
    · exact hm p h
    exact (others_mem h).2
  intro b o hb ho
  rw [Array.getElem?_eq_none hb] at ho; cases ho
theorem HA.old {W w' : World} {pre : Heap} (hm : ∀ p ∈ pre, W.heap[p.1]? = some p.2) (h : HA W w' (pre ++ others W (pre.map Prod.fst))) {i : Nat} (hi : i < W.heap.size) : w'.heap[i]? = W.heap[i]? := by
  have ho : W.heap[i]? = some W.heap[i] := Array.getElem?_eq_getElem hi
  by_cases hk : i ∈ pre.map Prod.fst
  · obtain ⟨p, hp, rfl⟩ := List.mem_map.1 hk
    rw [h.mem p (List.mem_append_left _ hp), hm p hp]
  have := h.mem (i, W.heap[i]) (List.mem_append_right _ (others_has hk ho))
  rw [this, ho]
theorem HA.grown {W w' : World} {pre : Heap} (hm : ∀ p ∈ pre, W.heap[p.1]? = some p.2) (h : HA W w' (pre ++ others W (pre.map Prod.fst))) : Grown W w' := by
  refine ⟨⟨h.os, h.output, fun i hi => ?_⟩, fun a => ?_, h.size⟩
  · rw [h.old hm hi]
    cases hq : W.heap[i]? with
    | none => rfl
    | some o => cases o <;> first | exact ⟨rfl, rfl, rfl, fun _ _ => rfl⟩ | exact Or.inr ⟨rfl, rfl⟩ | rfl
  unfold World.frozen?
  rcases Nat.lt_or_ge a.block W.heap.size with hl | hl
  · rw [h.old hm hl]
  rw [Array.getElem?_eq_none hl]
  cases hq : w'.heap[a.block]? with
  | none => rfl
  | some o =>
    have hf := h.fresh _ _ hl hq
    cases o with
    | cells cs T fz =>
      obtain ⟨lo, hi⟩ := fz
      simp only [freeO, Bool.and_eq_true] at hf
      have e1 := Nat.eq_of_beq_eq_true hf.1
      have e2 := Nat.eq_of_beq_eq_true hf.2
      subst e1; subst e2
      simp
    | _ => rfl
theorem own : ownKnob Tryd.prog.godebug = none := by kernel_rfl
theorem gProps : Tryd.prog.globalNamed "unicode.properties" = some 2 := by kernel_rfl
theorem gPropsT : (Tryd.prog.globals[2]?).map (·.type) = some 162 := by kernel_rfl
theorem cells5 : Tryd.prog.cellsOf 5 = 1 := by kernel_rfl
theorem cells162 : Tryd.prog.cellsOf 162 = 256 := by kernel_rfl
end Go.Proofs.YtgoddcicbpjknaaDoor

set_option maxRecDepth 100000
namespace Go.Proofs.YtgoddcicbpjknaaDoor
open Go
open Cfb
open Go.ChangeShapes Go.WideShapes Go.ChangeAt Go.RowKit
def propOf : DataW Unit → Int
  | .lit (.int _ n) => n
  | _ => 0
def propsOf : DataW Unit → List Int
  | .agg l => l.map propOf
  | _ => []
def props : List Int := propsOf Rows.laid_unicode_properties
theorem props_eq : (Rows.laid_unicode_properties : DataW Unit) = Lib.tabData .u8 props := by kernel_rfl
abbrev propsV : List Value := props.map fun z => Value.int .u8 z
theorem props_cap : ((List.range 26).all fun i => decide (props[65 + i]? = some 160)) = true := by kernel_rfl
theorem props_ctl : ((List.range 31).all fun i => decide (props[1 + i]? = some 1)) = true := by kernel_rfl
theorem propsV_ok : PsOk propsV := by
  refine ⟨fun c h1 h2 => ?_, fun c h1 h2 => ?_⟩
  · have := List.all_eq_true.1 props_cap (c - 65) (List.mem_range.2 om_)
    rw [show 65 + (c - 65) = c by omega] at this
    rw [List.getElem?_map, of_decide_eq_true this]; rfl
  have := List.all_eq_true.1 props_ctl (c - 1) (List.mem_range.2 om_)
  rw [show 1 + (c - 1) = c by omega] at this
  rw [List.getElem?_map, of_decide_eq_true this]; rfl
theorem row2 : (((begin Tryd.prog (fun _ _ => 0) default).world.heap[2]?).bind Obj.row?).isSome = true := by kernel_rfl
theorem two_lt : 2 < Tryd.prog.globals.size := by
  have : Nat.blt 2 Tryd.prog.globals.size = true := by kernel_rfl
  exact Nat.le_of_ble_eq_true this
theorem props_tab {W : World} (h : laidMetH Tryd.prog [("unicode.properties", Rows.laid_unicode_properties)] W) : Lib.TabIs Tryd.prog W "unicode.properties" .u8 props := by
  have h1 : laidMet Tryd.prog [("unicode.properties", Rows.laid_unicode_properties)] W := h
  rw [props_eq] at h1
  have hu : Tryd.prog.underlying 162 = some (.array 256 5) := by kernel_rfl
  exact Lib.tabIs_of_head (rest := []) gProps gPropsT hu (inOf_u in_5) cells5 cells162 h1
theorem tab_block {W : World} (h : Lib.TabIs Tryd.prog W "unicode.properties" .u8 props) (hS : W.ShapedOpen Tryd.prog) : ∃ T, W.heap[2]? = some (blk propsV T) := by
  obtain ⟨⟨zero, t⟩, hr⟩ := Option.isSome_iff_exists.1 row2
  obtain ⟨cs, hc, _, _⟩ := hS.1 2 zero t two_lt hr
  refine ⟨t, ?_⟩
  rw [hc]
  have : cs = propsV.toArray := by
    apply Array.ext_getElem?
    intro i
    have h1 := World.var?_cell gProps h i
    have h2 : W.cell? ⟨2, i, none⟩ = cs[i]? := by simp [World.cell?, hc]
    rw [← h2, h1]
  rw [this]
end Go.Proofs.YtgoddcicbpjknaaDoor

set_option maxRecDepth 100000
namespace Go.Proofs.YtgoddcicbpjknaaDoor
open Go
open Cfb
open Go.ChangeShapes Go.WideShapes Go.ChangeAt Go.RowKit
theorem laidOut : laidOutB Tryd.prog = true := by kernel_rfl
theorem HA.below {W w' : World} {pre : Heap} (hm : ∀ p ∈ pre, W.heap[p.1]? = some p.2) (h : HA W w' (pre ++ others W (pre.map Prod.fst))) : Below W.heap.size W w' := ⟨h.os, h.tape, h.output, h.size, fun _ hk => h.old hm hk⟩
theorem Ct.rowB {P : Program} {f : FuncId} {args : List Value} {pre : Heap} {v : Value} (h : Ct P f args pre (fun u q => u = v ∧ q = pre)) {W : World} (hm : ∀ p ∈ pre, W.heap[p.1]? = some p.2) (hn : (pre.map Prod.fst).Nodup) :
    Calls P f args.toArray W fun e w' => e = .returned v ∧ Grown W w' ∧ Below W.heap.size W w' := by
  refine (h W _ W (HA.start hm hn)).mono ?_
  rintro e w' ⟨u, post, he, ⟨rfl, rfl⟩, ha⟩
  exact ⟨he, ha.grown hm, ha.below hm⟩
theorem trodAll_again {H : Type} {enc : TypeId × Value → H} {W W' : World} (hb : Below W.heap.size W W') : ∀ (ts : List TypeId) (vs : List Value) (ds : List (DataW H)) (ps : List MemPlace), DataW.TrodAll enc Tryd.prog W 0 (fun _ => true) true ts vs ds ps →
    (ts.all fun t => Tryd.prog.readableRec t && Nat.blt t Tryd.prog.types.size) = true → (∀ x ∈ ps, x.block < W.heap.size) → DataW.TrodAll enc Tryd.prog W' 0 (fun b => decide (b < W.heap.size)) true ts vs ds ps := by
  intro ts
  induction ts with
  | nil =>
    intro vs ds ps h _ _
    obtain ⟨rfl, rfl, rfl⟩ := trodAll_nil h
    exact trodAll_mk0
  | cons t r ih =>
    intro vs ds ps h hc hl
    obtain ⟨v0, vs0, d0, ds0, p0, q0, rfl, rfl, rfl, h0, r0⟩ := trodAll_cons h
    simp only [List.all_cons, Bool.and_eq_true] at hc
    obtain ⟨⟨c1, c2⟩, c3⟩ := hc
    exact trodAll_cons_mk (Below.trod laidOut c1 (by simpa [Nat.blt_eq] using c2) h0 hb (fun x hx => hl x (List.mem_append_left _ hx))) (ih vs0 ds0 q0 r0 c3 (fun x hx => hl x (List.mem_append_right _ hx)))
theorem open_bytes {H : Type} {enc : TypeId × Value → H} {W : World} {base : Nat} {v : Value} {d : DataW H} {ps : List MemPlace} (hval : Value.okWide Tryd.prog W .any base 23 v) (h : DataW.Trod enc Tryd.prog W 0 (fun _ => true) true 23 v d ps) :
    ∃ p n c, v = .slice p n c ∧ n ≤ c ∧ (n = 0 ∨ ∃ b off l T fz, ∃ bs : List UInt8, p = some ⟨b, off, none⟩ ∧ W.heap[b]? = some (Obj.cells l T fz) ∧ bs.length = n ∧ ∀ i, i < n → l[off + i]? = some (bv (bs.getD i 0))) := by
  obtain ⟨fuel, hf⟩ := h
  obtain ⟨a0, n, c, rfl⟩ := okWide_slice (e := 5) (slOf_u sl_23).choose_spec.1 hval
  have hu23 : Tryd.prog.underlying 23 = some (.slice 5) := (slOf_u sl_23).choose_spec.1
  rcases open_ints hu23 (inOf_u in_5) cells5 hf with ⟨hcs, hx⟩ | ⟨a, len', cap', zs, hcs, _, hl, hm, hz, hx, hcell, hwz⟩
  · simp [Value.cells] at hcs
    obtain ⟨rfl, rfl, rfl⟩ := hcs
    exact ⟨_, _, _, rfl, Nat.le_refl _, .inl rfl⟩
  simp [Value.cells] at hcs
  obtain ⟨rfl, rfl, rfl⟩ := hcs
  refine ⟨_, _, _, rfl, hl, ?_⟩
  simp only [if_true] at hz
  rcases Nat.eq_zero_or_pos n with h0 | h0
  · exact .inl h0
  right
  have hzn : n ≤ zs.length := by omega
  have h1 := hcell 0 om_
  obtain ⟨b, off, x⟩ := a
  cases x with
  | some y =>
    exfalso
    simp [World.cell?, Addr.add] at h1
    split at h1 <;> cases h1
  | none =>
    have key : ∀ i, i < zs.length → W.cell? ⟨b, off + i, none⟩ = some (.int .u8 (zs.getD i 0)) := fun i hi => by have := hcell i hi; rw [Addr_add] at this; exact this
    have k0 := key 0 om_
    cases hq : W.heap[b]? with
    | none => simp [World.cell?, hq] at k0
    | some o =>
      cases o with
      | cells l T fz =>
        refine ⟨b, off, l, T, fz, (zs.take n).map fun z => UInt8.ofNat z.toNat, rfl, hq, by simp; omega, ?_⟩
        intro i hi
        have h2 := key i om_
        have h3 : l[off + i]? = some (.int .u8 (zs.getD i 0)) := by simpa [World.cell?, hq] using h2
        rw [h3]
        have hz1 : zs.getD i 0 ∈ zs := by rw [List.getD_eq_getElem?_getD, List.getElem?_eq_getElem om_]; exact List.getElem_mem _
        have hw := hwz _ hz1
        have hb : 0 ≤ zs.getD i 0 ∧ zs.getD i 0 ≤ 255 := by simpa [Lit.wf, IntKind.min, IntKind.max, IntKind.signed, IntKind.bits] using hw
        have e1 : ((zs.take n).map fun z => UInt8.ofNat z.toNat).getD i 0 = UInt8.ofNat (zs.getD i 0).toNat := by
          simp [List.getD_eq_getElem?_getD, List.getElem?_take, hi, show i < zs.length by omega]
        rw [e1]
        unfold bv
        rw [UInt8.toNat_ofNat', Nat.mod_eq_of_lt om_]
        congr 2
        omega
      | _ => simp [World.cell?, hq] at k0
theorem u8_nat {a : Int} (w : (Lit.int .u8 a).wf = true) : ∃ n : Nat, a = (n : Int) ∧ n ≤ 255 := by
  have h : 0 ≤ a ∧ a ≤ 255 := by simpa [Lit.wf, IntKind.min, IntKind.max, IntKind.signed, IntKind.bits] using w
  exact ⟨a.toNat, by omega, by omega⟩
end Go.Proofs.YtgoddcicbpjknaaDoor

namespace Cfb

inductive STree (L R : Nat → Int) : List Nat → Int → Prop
  | nil : STree L R [] (-1)
  | node {a b : List Nat} {m : Nat} (ha : STree L R a (L m)) (hb : STree L R b (R m)) : STree L R (a ++ m :: b) (m : Int)
theorem STree.congr {L R L' R' : Nat → Int} {pl : List Nat} {t : Int} (h : STree L R pl t) (hl : ∀ m ∈ pl, L' m = L m) (hr : ∀ m ∈ pl, R' m = R m) : STree L' R' pl t := by
  induction h with
  | nil => exact .nil
  | node ha hb iha ihb =>
    rename_i a b m
    have em : m ∈ a ++ m :: b := by simp
    have e1 := hl m em
    have e2 := hr m em
    have h1 := iha (fun x hx => hl x (by simp [hx])) (fun x hx => hr x (by simp [hx]))
    have h2 := ihb (fun x hx => hl x (by simp [hx])) (fun x hx => hr x (by simp [hx]))
    rw [← e1] at h1
    rw [← e2] at h2
    exact .node h1 h2
theorem STree.top {L R : Nat → Int} {pl : List Nat} {t : Int} (h : STree L R pl t) : (pl = [] ∧ t = -1) ∨ (∃ m ∈ pl, t = (m : Int)) := by
  cases h with
  | nil => exact .inl ⟨rfl, rfl⟩
  | node ha hb => exact .inr ⟨_, by simp, rfl⟩

end Cfb

namespace Go.Proofs.YtgoddcicbpjknaaDoor
open Go
open Cfb

def Nm.turn (x : Nm) (l r c : Int) : Nm := { x with nd := { x.nd with left := l, right := r, child := c } }
def lfF (ns : List Nm) (k : Nat) : Int := (ns.getD k default).nd.left
def rtF (ns : List Nm) (k : Nat) : Int := (ns.getD k default).nd.right
def chdF (ns : List Nm) (k : Nat) : Int := (ns.getD k default).nd.child
structure Shp (ns ns' : List Nm) (pl : List Nat) (top : Int) : Prop where
  len : ns'.length = ns.length
  off : ∀ k, k ∉ pl → ns'.getD k default = ns.getD k default
  on : ∀ k, k ∈ pl → ∃ l r, ns'.getD k default = (ns.getD k default).turn l r (chdF ns k)
  tree : STree (lfF ns') (rtF ns') pl top
theorem Shp.nil (ns : List Nm) : Shp ns ns [] (-1) := ⟨rfl, fun _ _ => rfl, fun _ h => (by cases h), .nil⟩
theorem getD_setN (ns : List Nm) (k j : Nat) (x : Nm) (hk : k < ns.length) : (ns.set k x).getD j default = if k = j then x else ns.getD j default := by
  simp only [List.getD_eq_getElem?_getD, List.getElem?_set]
  split
  · simp [hk]
  rfl
theorem Shp.join {n0 n1 n2 : List Nm} {a b : List Nat} {m : Nat} {ta tb : Int} (hm : m < n0.length) (ha : Shp n0 n1 a ta) (hb : Shp (n1.set m ((n1.getD m default).turn ta (rtF n1 m) (chdF n1 m))) n2 b tb)
    (hma : m ∉ a) (hmb : m ∉ b) (hab : ∀ x ∈ a, x ∉ b) : Shp n0 (n2.set m ((n2.getD m default).turn (lfF n2 m) tb (chdF n2 m))) (a ++ m :: b) (m : Int) := by
  obtain ⟨n1', e1'⟩ : ∃ x, x = n1.set m ((n1.getD m default).turn ta (rtF n1 m) (chdF n1 m)) := ⟨_, rfl⟩
  rw [← e1'] at hb
  have l1 : m < n1.length := by rw [ha.len]; exact hm
  have l1' : n1'.length = n0.length := by rw [e1', List.length_set, ha.len]
  have l2 : n2.length = n0.length := by rw [hb.len, l1']
  have g1 : ∀ j, n1'.getD j default = if m = j then (n1.getD m default).turn ta (rtF n1 m) (chdF n1 m) else n1.getD j default := fun j => by rw [e1']; exact getD_setN _ _ _ _ l1
  obtain ⟨n3, e3'⟩ : ∃ x, x = n2.set m ((n2.getD m default).turn (lfF n2 m) tb (chdF n2 m)) := ⟨_, rfl⟩
  have g2 : ∀ j, n3.getD j default = if m = j then (n2.getD m default).turn (lfF n2 m) tb (chdF n2 m) else n2.getD j default := fun j => by rw [e3']; exact getD_setN _ _ _ _ om_
  have l3 : n3.length = n0.length := by rw [e3', List.length_set]; exact l2
  rw [← e3']
  have em : n2.getD m default = (n1.getD m default).turn ta (rtF n1 m) (chdF n1 m) := by rw [hb.off m hmb, g1, if_pos rfl]
  refine ⟨l3, ?_, ?_, ?_⟩
  · intro k hk
    have hk1 : k ≠ m := fun e => hk (by simp [e])
    have hka : k ∉ a := fun e => hk (by simp [e])
    have hkb : k ∉ b := fun e => hk (by simp [e])
    rw [g2, if_neg (fun e => hk1 e.symm), hb.off k hkb, g1, if_neg (fun e => hk1 e.symm), ha.off k hka]
  · intro k hk
    by_cases e : m = k
    · subst e
      rw [g2, if_pos rfl, em, ha.off m hma]
      refine ⟨ta, tb, ?_⟩
      simp only [Nm.turn, lfF, chdF, em]
      rw [ha.off m hma]
    rw [g2, if_neg e]
    simp only [List.mem_append, List.mem_cons] at hk
    rcases hk with hk | hk | hk
    · obtain ⟨l, r, h1⟩ := ha.on k hk
      rw [hb.off k (hab k hk), g1, if_neg e, h1]
      exact ⟨l, r, rfl⟩
    · exact absurd hk.symm e
    obtain ⟨l, r, h1⟩ := hb.on k hk
    have hka : k ∉ a := fun hx => hab k hx hk
    have e3 : n1'.getD k default = n0.getD k default := by rw [g1, if_neg e, ha.off k hka]
    refine ⟨l, r, ?_⟩
    rw [h1, e3]
    simp only [chdF, e3]
  have eL : ∀ j, j ≠ m → lfF n3 j = lfF n2 j := fun j hj => by unfold lfF; rw [g2, if_neg (fun e => hj e.symm)]
  have eR : ∀ j, j ≠ m → rtF n3 j = rtF n2 j := fun j hj => by unfold rtF; rw [g2, if_neg (fun e => hj e.symm)]
  have eLm : lfF n3 m = ta := by
    unfold lfF; rw [g2, if_pos rfl]; show (n2.getD m default).nd.left = ta; rw [em]; rfl
  have eRm : rtF n3 m = tb := by
    unfold rtF; rw [g2, if_pos rfl]; rfl
  refine .node ?_ ?_
  · rw [eLm]
    refine ha.tree.congr (fun x hx => ?_) (fun x hx => ?_)
    · have hxm : x ≠ m := fun e => hma (e ▸ hx)
      rw [eL x hxm]; unfold lfF; rw [hb.off x (hab x hx), g1, if_neg (fun e => hxm e.symm)]
    have hxm : x ≠ m := fun e => hma (e ▸ hx)
    rw [eR x hxm]; unfold rtF; rw [hb.off x (hab x hx), g1, if_neg (fun e => hxm e.symm)]
  rw [eRm]
  refine hb.tree.congr (fun x hx => ?_) (fun x hx => ?_)
  · exact eL x (fun e => hmb (e ▸ hx))
  exact eR x (fun e => hmb (e ▸ hx))
def NumOk (D : Heap) (p : Option Addr) (n : Nat) : Prop := n = 0 ∨ ∃ (b o : Nat) (l : List Value) (T : TypeId) (fz : Nat × Nat), p = some ⟨b, o, none⟩ ∧ (b, Obj.cells l.toArray T fz) ∈ D ∧ ∀ i, i < n → ∃ x : Nat, x ≤ 4294967295 ∧ l[o + i]? = some (uv x)
theorem wrap_nat (x : Int) : ∃ m : Nat, IntKind.u32.wrap x = (m : Int) ∧ m ≤ 4294967295 := by
  have h : IntKind.u32.wrap x = x % 4294967296 := by simp [IntKind.wrap, IntKind.signed, IntKind.bits]
  refine ⟨(IntKind.u32.wrap x).toNat, ?_, ?_⟩ <;> omega

theorem few_ct (p q : Option Addr) (n c m d : Nat) : Ct Tryd.prog 13 [.slice p n c, .slice q m d] [] (fun v h => v = .bool (decide (n ≤ 100 ∧ m ≤ 1000)) ∧ h = []) := by
 refine Ct_of Tryd.func13 rfl Tryd.ntmps13 rfl ?_
 intro E F
 simp only [numL, List.nil_append, List.cons_append]
 refine CW_sr ?_
 refine RW_a ?_
 refine RW_lv [0,1] ?_
 refine CW_sr ?_
 refine RW_m ?_
 refine RW_l (Yl_len rfl sl_22) ?_
 refine RW_l (Yl_leq rfl rfl) ?_
 refine RW_m ?_
 refine RW_bool 8 rfl (fun hg1 => ?_) (fun hg1 => ?_)
 ·replace hg1 := of_decide_eq_true hg1
  refine RW_gy rfl rfl rfl (Yl.h (Yl_move rfl)) ?_
  refine RW_gy rfl rfl rfl (Yl.h (Yl_len rfl sl_23)) ?_
  refine RW_gy rfl rfl rfl (Yl.h (Yl_leq rfl rfl)) ?_
  refine RW_l (Yl_pick_t rfl rfl) ?_
  refine RW_a ?_
  refine RW_lv [4] ?_
  refine CW_ret ?_
  exact QW_ret1 rfl rfl [] ⟨by congr 1; apply Bool.eq_iff_iff.2; simp only [decide_eq_true_eq]; first | (constructor <;> intro h <;> omega) | (simp; omega), rfl⟩ (Prm.nil _)
 replace hg1 := of_decide_eq_false hg1
 refine RW_skip rfl rfl rfl ?_
 refine RW_skip rfl rfl rfl ?_
 refine RW_skip rfl rfl rfl ?_
 refine RW_l (Yl_pick_f rfl rfl) ?_
 refine RW_a ?_
 refine RW_lv [4] ?_
 refine CW_ret ?_
 exact QW_ret1 rfl rfl [] ⟨by congr 1; apply Bool.eq_iff_iff.2; simp only [decide_eq_true_eq]; first | (constructor <;> intro h <;> omega) | (simp; omega), rfl⟩ (Prm.nil _)
theorem less_ct (s r : ByteArray) : Ct Tryd.prog 22 [.string s, .string r] [] (fun v h => (∃ b, v = .bool b) ∧ h = []) := by
 refine Ct_of Tryd.func22 rfl Tryd.ntmps22 rfl ?_
 intro E F
 simp only [numL, List.nil_append, List.cons_append]
 refine CW_sr ?_
 refine RW_a ?_
 refine RW_lv [0,1] ?_
 refine CW_seq ?_
 refine CW_sr ?_
 refine RW_m ?_
 refine RW_l (Yl_lenS rfl st_9) ?_
 refine RW_m ?_
 refine RW_l (Yl_lenS rfl st_9) ?_
 refine RW_l (Yl_neq rfl rfl) ?_
 refine RW_lv [0,1,9] ?_
 refine CW_cd rfl (fun hc1 => ?_) (fun hc1 => ?_)
 ·refine CW_sr ?_
  refine RW_m ?_
  refine RW_l (Yl_lenS rfl st_9) ?_
  refine RW_m ?_
  refine RW_l (Yl_lenS rfl st_9) ?_
  refine RW_l (Yl_lss rfl rfl) ?_
  refine RW_a ?_
  refine RW_lv [4] ?_
  refine CW_ret ?_
  refine QW_ret_then ?_
  exact QW_ret1 rfl rfl [] ⟨⟨_, rfl⟩, rfl⟩ (Prm.nil _)
 refine (CW_skip (QW_lv [0,1] ?_))
 refine CW_sr ?_
 refine RW_m ?_
 refine RW_m ?_
 refine RW_l (Yl_strLess rfl rfl) ?_
 refine RW_a ?_
 refine RW_lv [4] ?_
 refine CW_ret ?_
 exact QW_ret1 rfl rfl [] ⟨⟨_, rfl⟩, rfl⟩ (Prm.nil _)
theorem shaped0_ct (v0 : Value) (p : Option Addr) (c : Nat) (at_ : Int) (nu : Value) : Ct Tryd.prog 23 [v0, .slice p 0 c, nu, .int .i64 at_] [] (fun v h => v = iv (-1) ∧ h = []) := by
 refine Ct_of Tryd.func23 rfl Tryd.ntmps23 rfl ?_
 intro E F
 simp only [numL, List.nil_append, List.cons_append]
 refine CW_sr ?_
 refine RW_a ?_
 refine RW_lv [0,1,2,3] ?_
 refine CW_seq ?_
 refine CW_sr ?_
 refine RW_m ?_
 refine RW_l (Yl_len rfl sl_29) ?_
 refine RW_l (Yl_eql rfl rfl) ?_
 refine RW_lv [0,1,2,3,13] ?_
 refine CW_cd rfl (fun hc1 => ?_) (fun hc1 => ?_)
 ·refine CW_sr ?_
  refine RW_a ?_
  refine RW_lv [8] ?_
  refine CW_ret ?_
  refine QW_ret_then ?_
  exact QW_ret1 rfl rfl [] ⟨rfl, rfl⟩ (Prm.nil _)
 exact absurd rfl hc1
def SCt (g cl bp nN cN : Nat) (pN : Option Addr) (r lp : List Value) (D : Heap) (n : Nat) : Prop :=
 ∀ (ns : List Nm) (pl : List Nat) (p : Option Addr) (m c : Nat) (at_ : Nat), pl.length = m → m ≤ n → m ≤ c → pl.Nodup → (∀ k ∈ pl, k < ns.length) → ns.length ≤ 100 → (at_ + 2) * 2 ^ n ≤ 1000000000000 → (m = 0 ∨ ∃ o, p = some ⟨bp, o, none⟩ ∧ ∀ i, i < m → lp[o + i]? = some (nv (pl.getD i 0))) →
  Ct Tryd.prog 23 [.slice (some ⟨g, 0, none⟩) ns.length cl, .slice p m c, .slice pN nN cN, nv at_] ((g, blk (nms ns ++ r) 43) :: (bp, blk lp 3) :: D) (fun v q => ∃ ns' top, v = iv top ∧ Shp ns ns' pl top ∧ q = (g, blk (nms ns' ++ r) 43) :: (bp, blk lp 3) :: D)
theorem shaped_step (g cl bp nN cN : Nat) (pN : Option Addr) (r lp : List Value) (D : Heap) (hnum : NumOk D pN nN) (hnN : nN ≤ 1000000000) (n : Nat) (ih : SCt g cl bp nN cN pN r lp D n)
  (ns : List Nm) (pl : List Nat) (o m c : Nat) (at_ : Nat) (hlm : pl.length = m) (hmn : m ≤ n + 1) (hmc : m ≤ c) (hnd : pl.Nodup) (hpl : ∀ k ∈ pl, k < ns.length) (hns : ns.length ≤ 100) (hat : (at_ + 2) * 2 ^ (n + 1) ≤ 1000000000000) (hm0 : 1 ≤ m) (hmb : m ≤ 100) (hatb : at_ ≤ 1000000000000) (hlp : ∀ i, i < m → lp[o + i]? = some (nv (pl.getD i 0))) :
  Ct Tryd.prog 23 [.slice (some ⟨g, 0, none⟩) ns.length cl, .slice (some ⟨bp, o, none⟩) m c, .slice pN nN cN, nv at_] ((g, blk (nms ns ++ r) 43) :: (bp, blk lp 3) :: D) (fun v q => ∃ ns' top, v = iv top ∧ Shp ns ns' pl top ∧ q = (g, blk (nms ns' ++ r) 43) :: (bp, blk lp 3) :: D) := by
 refine Ct_of Tryd.func23 rfl Tryd.ntmps23 rfl ?_
 intro E F
 simp only [numL, List.nil_append, List.cons_append]
 refine CW_sr ?_
 refine RW_a ?_
 refine RW_lv [0,1,2,3] ?_
 refine CW_seq ?_
 refine CW_sr ?_
 refine RW_m ?_
 refine RW_l (Yl_len rfl sl_29) ?_
 refine RW_l (Yl_eql rfl rfl) ?_
 refine RW_lv [0,1,2,3,13] ?_
 refine CW_cd rfl (fun hc1 => ?_) (fun hc1 => ?_)
 ·exfalso
  omega
 refine (CW_skip (QW_lv [0,1,2,3] ?_))
 refine CW_seq ?_
 obtain ⟨y0, hy0, hy0b⟩ := wrap_nat (IntKind.u32.wrap (at_ : Int) * 2654435761)
 refine CW_region ?_
 refine RW_m ?_
 refine RW_l (Yl_conv (c := IntKind.u32.wrap (at_ : Int)) rfl in_3 in_67 rfl) ?_
 refine RW_l (Yl_mul (c := (y0 : Int)) rfl rfl hy0) ?_
 refine RW_l (Yl_shr (c := ((y0 / 128 : Nat) : Int)) rfl rfl om_ (by show (y0 : Int).fdiv 128 = _; rw [Int.fdiv_eq_ediv_of_nonneg _ om_]; omega)) ?_
 refine RW_a ?_
 refine RW_lv [0,1,2,3,9] ?_
 refine CW_cut (σ := Nat) (fun q => [(0, .slice (some ⟨g, 0, none⟩) ns.length cl), (1, .slice (some ⟨bp, o, none⟩) m c), (2, .slice pN nN cN), (3, nv at_), (9, uv q)]) (fun _ => (g, blk (nms ns ++ r) 43) :: (bp, blk lp 3) :: (D ++ F)) (fun q => q ≤ 4294967295) ?_ ?_
 ·skip
  refine CW_seq ?_
  obtain ⟨z0, hz0⟩ : ∃ z0, z0 = y0 / 128 := ⟨_, rfl⟩
  rw [← hz0]
  have hz0b : z0 ≤ 4294967295 := by omega
  refine CW_region ?_
  refine RW_m ?_
  refine RW_l (Yl_len rfl sl_22) ?_
  refine RW_l (Yl_gtr rfl rfl) ?_
  refine RW_lv [0,1,2,3,9,20] ?_
  refine CW_cd rfl (fun hc2 => ?_) (fun hc2 => ?_)
  ·rcases hnum with h0 | ⟨bn, on, lN, Tn, fzn, rfl, hmN, hxN⟩
   ·exfalso; omega
   have hatn : at_ % nN < nN := Nat.mod_lt _ om_
   obtain ⟨xq, hxq1, hxq⟩ := hxN (at_ % nN) hatn
   obtain ⟨z2, hz2, hz2b⟩ := wrap_nat ((z0 : Int) + (xq : Int))
   refine CW_region ?_
   refine RW_m ?_
   refine RW_m ?_
   refine RW_m ?_
   refine RW_m ?_
   refine RW_l (Yl_len rfl sl_22) ?_
   refine RW_l (Yl_rem (c := ((at_ % nN : Nat) : Int)) rfl rfl om_ (remN at_ nN)) ?_
   refine RW_l (Yl_indexN (b := bn) (off := on) (i := at_ % nN) (o' := on + at_ % nN) rfl rfl sl_22 hatn om_) ?_
   refine RW_h (Yh_load (v := uv xq) rfl sc_67 ((show List.Sublist D _ by repeat (first | exact List.sublist_append_left _ _ | apply List.Sublist.cons)).subset hmN) hxq) ?_
   refine RW_l (Yl_add (c := (z2 : Int)) rfl rfl hz2) ?_
   refine RW_a ?_
   refine RW_nil ?_
   first
    | exact QW_cut z2 hz2b (by repeat (first | exact Prm.nil _ | exact Rem.here _ _ | apply Rem.there | apply Prm.cons)) (.cons rfl (.cons rfl (.cons rfl (.cons rfl (.cons rfl .nil)))))
    | exact QW_cut z0 hz0b (by repeat (first | exact Prm.nil _ | exact Rem.here _ _ | apply Rem.there | apply Prm.cons)) (.cons rfl (.cons rfl (.cons rfl (.cons rfl (.cons rfl .nil)))))
  refine CW_skip ?_
  first
   | exact QW_cut z2 hz2b (by repeat (first | exact Prm.nil _ | exact Rem.here _ _ | apply Rem.there | apply Prm.cons)) (.cons rfl (.cons rfl (.cons rfl (.cons rfl (.cons rfl .nil)))))
   | exact QW_cut z0 hz0b (by repeat (first | exact Prm.nil _ | exact Rem.here _ _ | apply Rem.there | apply Prm.cons)) (.cons rfl (.cons rfl (.cons rfl (.cons rfl (.cons rfl .nil)))))
 rintro z hz
 refine CW_seq ?_
 obtain ⟨k, hk⟩ : ∃ k, k = z % m := ⟨_, rfl⟩
 have hkm : k < m := by rw [hk]; exact Nat.mod_lt _ om_
 have hB2 : (2 * at_ + 2 + 2) * 2 ^ n ≤ 1000000000000 := by
  rw [show 2 * at_ + 2 + 2 = (at_ + 2) * 2 by omega, Nat.mul_assoc, Nat.mul_comm 2, ← Nat.pow_succ]; exact hat
 have hA2 : (2 * at_ + 1 + 2) * 2 ^ n ≤ 1000000000000 := Nat.le_trans (Nat.mul_le_mul_right _ om_) hB2
 refine CW_region ?_
 refine RW_m ?_
 refine RW_m ?_
 refine RW_l (Yl_len rfl sl_29) ?_
 refine RW_l (Yl_conv (c := (m : Int)) rfl in_3 in_67 (wu32 om_ om_)) ?_
 refine RW_l (Yl_rem (c := (k : Int)) rfl rfl om_ (by rw [hk]; exact remN z m)) ?_
 refine RW_l (Yl_conv (c := (k : Int)) rfl in_67 in_3 (wi64 om_ om_)) ?_
 refine RW_a ?_
 refine RW_lv [0,1,2,3,10] ?_
 refine CW_seq ?_
 obtain ⟨j, hjj⟩ : ∃ j, j = pl.getD k 0 := ⟨_, rfl⟩
 have hj : lp[o + k]? = some (nv j) := by rw [hjj]; exact hlp k hkm
 have hsp : pl = pl.take k ++ j :: pl.drop (k + 1) := by
  have e := List.take_append_drop k pl
  rw [List.drop_eq_getElem_cons om_] at e
  rw [hjj, List.getD_eq_getElem?_getD, List.getElem?_eq_getElem om_]; exact e.symm
 have hjm : j ∈ pl := by rw [hsp]; simp
 have hjn := hpl j hjm
 rw [hsp] at hnd
 have hnd2 := List.nodup_append.1 hnd
 have hnd3 := List.nodup_cons.1 hnd2.2.1
 have hja : j ∉ pl.take k := fun hx => hnd2.2.2 j hx j (by simp) rfl
 have hjb : j ∉ pl.drop (k + 1) := hnd3.1
 have hab : ∀ x ∈ pl.take k, x ∉ pl.drop (k + 1) := fun x hx hy => hnd2.2.2 x hx x (by simp [hy]) rfl
 have hA := ih ns (pl.take k) (some ⟨bp, o, none⟩) k c (2 * at_ + 1) (by simp; omega) om_ om_ hnd2.1 (fun x hx => hpl x (List.mem_of_mem_take hx)) hns hA2 (.inr ⟨o, rfl, fun i hi => by rw [hlp i om_]; simp [List.getD_eq_getElem?_getD, List.getElem?_take, hi]⟩)
 refine CW_draw [16] [(bp, blk lp 3)] mixed sub_ ?_
 refine RD_m 0 ?_
 refine RD_m 1 ?_
 refine RD_m 2 ?_
 refine RD_l 3 rfl (Yl_indexN (b := bp) (off := o) (i := k) (o' := o + k) rfl rfl sl_29 om_ om_) ?_
 refine RD_m 5 ?_
 refine RD_m 6 ?_
 refine RD_m 7 ?_
 refine RD_l 8 rfl (Yl_cutHN (h := k) rfl rfl sl_29 om_) ?_
 refine RD_m 9 ?_
 refine RD_m 10 ?_
 refine RD_l 11 rfl (Yl_mul (c := ((2 * at_ : Nat) : Int)) rfl rfl (mulN (a := 2) (b := at_) om_)) ?_
 refine RD_l 12 rfl (Yl_add (c := ((2 * at_ + 1 : Nat) : Int)) rfl rfl (wi64 om_ om_)) ?_
 refine RD_h (i := 4) #[true, true, true, true, false, true, true, true, true, true, true, true, true, true, false, false, false] rfl rfl rfl rfl kr_ (fun _ _ _ h => h) (Yh_lh (v := nv j) sc_3 hj) ?_
 refine RD_o 13 ?_
 refine RO_fx rfl rfl rfl rfl (Fx_call ok_23 (vs := [.slice (some ⟨g, 0, none⟩) ns.length cl, .slice (some ⟨bp, o, none⟩) k c, .slice pN nN cN, nv (2 * at_ + 1)]) rfl (Pick.cons rem_ (Pick.cons rem_ (pick_app D F))) hA) ?_
 rintro _ _ ⟨_, ⟨n1, ta, rfl, hSa, rfl⟩, rfl⟩
 simp only [List.cons_append]
 have hla := hSa.len
 refine ⟨Or.inr sub_, ?_⟩
 refine RD_l 14 rfl (Yl_indexN (b := g) (off := 0) (i := j) (o' := j * 28) rfl rfl sl_25 om_ om_) ?_
 refine RD_f 15 fo_43_3 ?_
 refine RD_o 16 ?_
 refine RO_fx0 rfl rfl rfl (Fx_store (v := iv ta) (b := g) (off := j * 28 + 3) rfl rfl sz_3 rfl rep_ (by rw [List.length_append, length_nms]; omega)) ?_
 rintro _ _ rfl
 refine ⟨Or.inl kr_, ?_⟩
 refine (RD_done kr_ (QW_lv [0,1,2,3,10] ?_))
 refine CW_seq ?_
 have hset1 := nms_set n1 j 3 (iv ta) ((n1.getD j default).turn ta (rtF n1 j) (chdF n1 j)) r (by rw [hSa.len]; exact hjn) om_ rfl
 rw [hset1]
 have hl1 : ns.length = (n1.set j ((n1.getD j default).turn ta (rtF n1 j) (chdF n1 j))).length := by rw [List.length_set]; exact hSa.len.symm
 have hBc := ih (n1.set j ((n1.getD j default).turn ta (rtF n1 j) (chdF n1 j))) (pl.drop (k + 1)) (some ⟨bp, if c = k + 1 then o else o + (k + 1) * 1, none⟩) (m - (k + 1)) (c - (k + 1)) (2 * at_ + 2) (by simp; omega) om_ om_ hnd3.2 (fun x hx => by rw [← hl1]; exact hpl x (List.mem_of_mem_drop hx)) om_ hB2 (by rcases Nat.eq_zero_or_pos (m - (k + 1)) with h0 | h0; exact .inl h0; exact .inr ⟨o + (k + 1), by rw [if_neg om_, Nat.mul_one], fun i hi => by rw [show o + (k + 1) + i = o + (k + 1 + i) by omega, hlp (k + 1 + i) om_]; simp [List.getD_eq_getElem?_getD, List.getElem?_drop]⟩)
 rw [← hl1] at hBc
 refine CW_draw [17] [(bp, blk lp 3)] mixed sub_ ?_
 refine RD_m 0 ?_
 refine RD_m 1 ?_
 refine RD_m 2 ?_
 refine RD_l 3 rfl (Yl_indexN (b := bp) (off := o) (i := k) (o' := o + k) rfl rfl sl_29 om_ om_) ?_
 refine RD_m 5 ?_
 refine RD_m 6 ?_
 refine RD_m 7 ?_
 refine RD_l 8 rfl (Yl_add (c := ((k + 1 : Nat) : Int)) rfl rfl (wi64 om_ om_)) ?_
 refine RD_l 9 rfl (Yl_cutLN (l := k + 1) rfl rfl sl_29 om_) ?_
 refine RD_m 10 ?_
 refine RD_m 11 ?_
 refine RD_l 12 rfl (Yl_mul (c := ((2 * at_ : Nat) : Int)) rfl rfl (mulN (a := 2) (b := at_) om_)) ?_
 refine RD_l 13 rfl (Yl_add (c := ((2 * at_ + 2 : Nat) : Int)) rfl rfl (wi64 om_ om_)) ?_
 refine RD_h (i := 4) #[true, true, true, true, false, true, true, true, true, true, true, true, true, true, true, false, false, false] rfl rfl rfl rfl kr_ (fun _ _ _ h => h) (Yh_lh (v := nv j) sc_3 hj) ?_
 refine RD_o 14 ?_
 refine RO_fx rfl rfl rfl rfl (Fx_call ok_23 (vs := [.slice (some ⟨g, 0, none⟩) ns.length cl, .slice (some ⟨bp, if c = k + 1 then o else o + (k + 1) * 1, none⟩) (m - (k + 1)) (c - (k + 1)), .slice pN nN cN, nv (2 * at_ + 2)]) rfl (Pick.cons rem_ (Pick.cons rem_ (pick_app D F))) hBc) ?_
 rintro _ _ ⟨_, ⟨n2, tb, rfl, hSb, rfl⟩, rfl⟩
 simp only [List.cons_append]
 have hlb := hSb.len
 rw [List.length_set] at hlb
 refine ⟨Or.inr sub_, ?_⟩
 refine RD_l 15 rfl (Yl_indexN (b := g) (off := 0) (i := j) (o' := j * 28) rfl rfl sl_25 om_ om_) ?_
 refine RD_f 16 fo_43_4 ?_
 refine RD_o 17 ?_
 refine RO_fx0 rfl rfl rfl (Fx_store (v := iv tb) (b := g) (off := j * 28 + 4) rfl rfl sz_3 rfl rep_ (by rw [List.length_append, length_nms]; omega)) ?_
 rintro _ _ rfl
 refine ⟨Or.inl kr_, ?_⟩
 refine (RD_done kr_ (QW_lv [1,10] ?_))
 refine CW_seq ?_
 have hset2 := nms_set n2 j 4 (iv tb) ((n2.getD j default).turn (lfF n2 j) tb (chdF n2 j)) r (by rw [hSb.len, ← hl1]; exact hjn) om_ rfl
 rw [hset2]
 have hfin := Shp.join hjn hSa hSb hja hjb hab
 rw [← hsp] at hfin
 refine CW_region ?_
 refine RW_m ?_
 refine RW_m ?_
 refine RW_l (Yl_indexN (b := bp) (off := o) (i := k) (o' := o + k) rfl rfl sl_29 om_ om_) ?_
 refine RW_h (Yh_lh (v := nv j) sc_3 hj) ?_
 refine RW_a ?_
 refine RW_lv [8] ?_
 refine CW_ret ?_
 exact QW_ret1 rfl rfl (_ :: _ :: D) ⟨_, _, rfl, hfin, rfl⟩ (Prm.nil _)
theorem shaped_ct (g cl bp nN cN : Nat) (pN : Option Addr) (r lp : List Value) (D : Heap) (hnum : NumOk D pN nN) (hnN : nN ≤ 1000000000) : ∀ n, SCt g cl bp nN cN pN r lp D n := by
 have z : ∀ (ns : List Nm) (pl : List Nat) (p : Option Addr) (c at_ : Nat), pl.length = 0 → Ct Tryd.prog 23 [.slice (some ⟨g, 0, none⟩) ns.length cl, .slice p 0 c, .slice pN nN cN, nv at_] ((g, blk (nms ns ++ r) 43) :: (bp, blk lp 3) :: D) (fun v q => ∃ ns' top, v = iv top ∧ Shp ns ns' pl top ∧ q = (g, blk (nms ns' ++ r) 43) :: (bp, blk lp 3) :: D) := by
  intro ns pl p c at_ h
  obtain rfl := List.eq_nil_of_length_eq_zero h
  refine ((shaped0_ct (.slice (some ⟨g, 0, none⟩) ns.length cl) p c at_ (.slice pN nN cN)).frame (G := (g, blk (nms ns ++ r) 43) :: (bp, blk lp 3) :: D)).mono ?_
  rintro v q ⟨post, ⟨rfl, rfl⟩, rfl⟩
  exact ⟨ns, -1, rfl, Shp.nil ns, rfl⟩
 intro n
 induction n with
 | zero =>
  intro ns pl p m c at_ h1 h2 _ _ _ _ _ _
  obtain rfl : m = 0 := by omega
  exact z ns pl p c at_ h1
 | succ n ih =>
  intro ns pl p m c at_ h1 h2 h3 h4 h5 h6 h7 h8
  rcases h8 with rfl | ⟨o, rfl, h8⟩
  ·exact z ns pl p c at_ h1
  rcases Nat.eq_zero_or_pos m with rfl | hm
  ·exact z ns pl _ c at_ h1
  have hmb : pl.length ≤ 100 := by
   have := List.Nodup.length_le_of_subset h4 (l₂ := List.range ns.length) (fun x hx => List.mem_range.2 (h5 x hx))
   simp at this; omega
  refine shaped_step g cl bp nN cN pN r lp D hnum hnN n ih ns pl o m c at_ h1 h2 h3 h4 h5 h6 h7 hm om_ ?_ h8
  have h9 : 1 ≤ 2 ^ (n + 1) := Nat.one_le_two_pow
  have := Nat.mul_le_mul_left (at_ + 2) h9
  omega

def Nm.setCls (x : Nm) (j : Nat) (y : UInt8) : Nm := { x with nd := { x.nd with cls := x.nd.cls.set j y, h16 := by simp [x.nd.h16] } }
def Nm.setSt (x : Nm) (j : Nat) (y : UInt8) : Nm := { x with nd := { x.nd with state := x.nd.state.set j y, h4 := by simp [x.nd.h4] } }
def Nm.setData (x : Nm) (d : List UInt8) (o : Option Nat) (cap : Nat) (r : List Value) : Nm := { nd := { x.nd with data := d }, b := o, cap := cap, rest := r }
theorem cells_setCls (x : Nm) {j : Nat} (hj : j < 16) (y : UInt8) : x.cells.set (6 + j) (bv y) = (x.setCls j y).cells := by
  unfold Nm.cells
  rw [show 6 + j = j + 1 + 1 + 1 + 1 + 1 + 1 by omega]
  simp only [List.set_cons_succ]
  rw [List.set_append_left _ _ (by simp [x.nd.h16]; exact hj), bys_set]
  rfl
theorem cells_setSt (x : Nm) {j : Nat} (hj : j < 4) (y : UInt8) : x.cells.set (22 + j) (bv y) = (x.setSt j y).cells := by
  unfold Nm.cells
  rw [show 22 + j = (16 + j) + 1 + 1 + 1 + 1 + 1 + 1 by omega]
  simp only [List.set_cons_succ]
  rw [List.set_append_right _ _ (by simp [x.nd.h16]), show 16 + j - (bys x.nd.cls).length = j by simp [x.nd.h16], List.set_append_left _ _ (by simp [x.nd.h4]; exact hj), bys_set]
  rfl
theorem xor_u8 (a b : UInt8) : ∃ y : UInt8, ∀ w, (Op.intBits .xor .u8 (a.toNat : Int) (b.toNat : Int)).run Tryd.prog w = .ok (bv y) w := by
  refine ⟨UInt8.ofNat (IntKind.u8.wrap (((BitVec.ofInt IntKind.u8.bits (a.toNat : Int)) ^^^ (BitVec.ofInt IntKind.u8.bits (b.toNat : Int))).toNat : Int)).toNat, fun w => ?_⟩
  have h : ∀ z : Int, IntKind.u8.wrap z = z % 256 := fun z => by simp [IntKind.wrap, IntKind.signed, IntKind.bits]
  simp only [Op.intBits]
  simp only [bv, UInt8.toNat_ofNat']
  generalize ((BitVec.ofInt IntKind.u8.bits (a.toNat : Int)) ^^^ (BitVec.ofInt IntKind.u8.bits (b.toNat : Int))).toNat = z
  have e : ((IntKind.u8.wrap (z : Int)).toNat % 2 ^ 8 : Nat) = (IntKind.u8.wrap (z : Int)).toNat := by rw [h]; omega
  rw [e]
  have e2 : ((IntKind.u8.wrap (z : Int)).toNat : Int) = IntKind.u8.wrap (z : Int) := by rw [h]; omega
  rw [e2]
  rfl
theorem wrap_byte (z : Int) : ∃ y : UInt8, IntKind.u8.wrap z = (y.toNat : Int) := by
  have h : IntKind.u8.wrap z = z % 256 := by simp [IntKind.wrap, IntKind.signed, IntKind.bits]
  refine ⟨UInt8.ofNat (z % 256).toNat, ?_⟩
  rw [h, UInt8.toNat_ofNat']
  omega
def BytOk (D : Heap) (p : Option Addr) (n : Nat) : Prop := n = 0 ∨ ∃ (b o : Nat) (l : List Value) (T : TypeId) (fz : Nat × Nat), p = some ⟨b, o, none⟩ ∧ (b, Obj.cells l.toArray T fz) ∈ D ∧ ∀ i, i < n → ∃ x : UInt8, l[o + i]? = some (bv x)
structure Bl where
  l : List Nat
  o : Option Nat
  cap : Nat
  rest : List Value
instance : Inhabited Bl := ⟨⟨[], none, 0, []⟩⟩
def Bl.val (b : Bl) : Value := osl b.o b.l.length b.cap
def Bl.heap (b : Bl) : Heap := oH b.o (nats b.l ++ b.rest) 3
def Bl.ok (b : Bl) : Prop := oOk b.o (nats b.l) b.rest b.l.length b.cap 1
abbrev blsH (bs : List Bl) : Heap := bs.flatMap Bl.heap
theorem blsH_perm : ∀ (bs : List Bl) (k : Nat), k < bs.length → (blsH bs).Perm ((bs.getD k default).heap ++ blsH (bs.eraseIdx k)) := by
  intro bs
  induction bs with
  | nil => intro k h; simp at h
  | cons b r ih =>
    intro k h
    cases k with
    | zero => exact .refl _
    | succ k =>
      have e : (List.getD (b :: r) (k + 1) default) = r.getD k default := by simp [List.getD_eq_getElem?_getD]
      rw [e]
      simp only [List.flatMap_cons, List.eraseIdx_cons_succ]
      refine ((ih k (by simpa using h)).append_left _).trans ?_
      exact perm_front _ _ _
theorem blsH_set (bs : List Bl) (k : Nat) (b : Bl) (h : k < bs.length) : (b.heap ++ blsH (bs.eraseIdx k)).Perm (blsH (bs.set k b)) := by
  have h1 := blsH_perm (bs.set k b) k (by simpa using h)
  have e1 : (bs.set k b).getD k default = b := by simp [List.getD_eq_getElem?_getD, h]
  have e2 : (bs.set k b).eraseIdx k = bs.eraseIdx k := by
    rw [List.eraseIdx_set_eq]
  rw [e1, e2] at h1
  exact h1.symm
structure NdOk (x : Nm) : Prop where
  ok : x.ok
  nm : 2 ≤ x.nd.name.length ∧ x.nd.name.length ≤ 20
  cap : ∀ c ∈ x.nd.name, 65 ≤ c.toNat ∧ c.toNat ≤ 90
theorem NdOk.setCls {x : Nm} (h : NdOk x) (j : Nat) (y : UInt8) : NdOk (x.setCls j y) := ⟨⟨h.ok.none, h.ok.fit, h.ok.small, h.ok.name, h.ok.left, h.ok.right, h.ok.child, h.ok.created, h.ok.modified⟩, h.nm, h.cap⟩
theorem NdOk.setSt {x : Nm} (h : NdOk x) (j : Nat) (y : UInt8) : NdOk (x.setSt j y) := ⟨⟨h.ok.none, h.ok.fit, h.ok.small, h.ok.name, h.ok.left, h.ok.right, h.ok.child, h.ok.created, h.ok.modified⟩, h.nm, h.cap⟩
theorem NdOk.turn {x : Nm} (h : NdOk x) {l r c : Int} (hl : -1 ≤ l ∧ l ≤ 100000) (hr : -1 ≤ r ∧ r ≤ 100000) (hc : -1 ≤ c ∧ c ≤ 100000) : NdOk (x.turn l r c) := ⟨⟨h.ok.none, h.ok.fit, h.ok.small, h.ok.name, hl, hr, hc, h.ok.created, h.ok.modified⟩, h.nm, h.cap⟩

structure Mk (x : Nm) (sb : Bool) : Prop where
  nd : NdOk x
  data : x.nd.data = []
  b : x.b = none
  cap : x.cap = 0
  left : x.nd.left = -1
  right : x.nd.right = -1
  child : x.nd.child = -1
  stream : x.nd.stream = sb
theorem Mk.setCls {x : Nm} {sb : Bool} (h : Mk x sb) (j : Nat) (y : UInt8) : Mk (x.setCls j y) sb := ⟨h.nd.setCls j y, h.data, h.b, h.cap, h.left, h.right, h.child, h.stream⟩
theorem Mk.setSt {x : Nm} {sb : Bool} (h : Mk x sb) (j : Nat) (y : UInt8) : Mk (x.setSt j y) sb := ⟨h.nd.setSt j y, h.data, h.b, h.cap, h.left, h.right, h.child, h.stream⟩
theorem Mk.same {x : Nm} {sb : Bool} (h : Mk x sb) : x.setData [] none 0 x.rest = x := by
  cases x with
  | mk nd b cap rest =>
    have h1 := h.data
    have h2 := h.b
    have h3 := h.cap
    simp only at h1 h2 h3
    subst h2; subst h3
    cases nd
    simp only at h1
    subst h1
    rfl
structure Made (x : Nm) : Prop where
  nd : NdOk x
  left : x.nd.left = -1
  right : x.nd.right = -1
  child : x.nd.child = -1
  data : x.nd.stream = false → x.nd.data = []
theorem Mk.made {x : Nm} {sb : Bool} (h : Mk x sb) : Made x := ⟨h.nd, h.left, h.right, h.child, fun _ => h.data⟩
def dOk (o : Option Nat) (d : List UInt8) (cap : Nat) (r : List Value) : Prop := oOk o (bys d) r d.length cap 1 ∧ (o = none → cap = 0)
theorem dOk.val {o : Option Nat} {d : List UInt8} {cap : Nat} {r : List Value} (h : dOk o d cap r) (x : Nm) : (x.setData d o cap r).cells[2]? = some (osl o d.length cap) := by
  cases o with
  | some g => rfl
  | none =>
    have h1 := h.1.1
    have h2 := h.2 rfl
    show some (Nm.slice _) = _
    simp only [Nm.slice, Nm.setData, Option.map_none, h1, h2]
theorem dOk.made {o : Option Nat} {d : List UInt8} {cap : Nat} {r : List Value} (h : dOk o d cap r) {x : Nm} (hx : Mk x true) (hd : d.length ≤ 9000) : Made (x.setData d o cap r) := by
  have hf : d.length ≤ cap := by
    cases o with
    | some g => have := h.1.1; rw [List.length_append] at this; simp at this; omega
    | none => have := h.1.1; omega
  have hn : o = none → d = [] := fun e => by subst e; have := h.1.1; exact List.eq_nil_of_length_eq_zero this
  exact ⟨⟨⟨hn, hf, hd, hx.nd.ok.name, hx.nd.ok.left, hx.nd.ok.right, hx.nd.ok.child, hx.nd.ok.created, hx.nd.ok.modified⟩, hx.nd.nm, hx.nd.cap⟩, hx.left, hx.right, hx.child, fun e => by have h1 : x.nd.stream = false := e; rw [hx.stream] at h1; cases h1⟩
theorem dOk.heap {o : Option Nat} {d : List UInt8} {cap : Nat} {r : List Value} (x : Nm) : (x.setData d o cap r).heap = oH o (bys d ++ r) 5 := by
  cases o <;> rfl
theorem BytOk.mono {D D' : Heap} {p : Option Addr} {n : Nat} (h : BytOk D p n) (hs : D.Sublist D') : BytOk D' p n := by
  rcases h with h | ⟨b, o, l, T, fz, h1, h2, h3⟩
  · exact .inl h
  exact .inr ⟨b, o, l, T, fz, h1, hs.subset h2, h3⟩
theorem NumOk.mono {D D' : Heap} {p : Option Addr} {n : Nat} (h : NumOk D p n) (hs : D.Sublist D') : NumOk D' p n := by
  rcases h with h | ⟨b, o, l, T, fz, h1, h2, h3⟩
  · exact .inl h
  exact .inr ⟨b, o, l, T, fz, h1, hs.subset h2, h3⟩
theorem letters {m : Nat} (hm : m ≤ 10) : ((⟨#[65, 66, 67, 68, 69, 70, 71, 72, 73, 74]⟩ : ByteArray).extract 0 m) = bar (([65, 66, 67, 68, 69, 70, 71, 72, 73, 74] : List UInt8).take m) := by
  have : m = 0 ∨ m = 1 ∨ m = 2 ∨ m = 3 ∨ m = 4 ∨ m = 5 ∨ m = 6 ∨ m = 7 ∨ m = 8 ∨ m = 9 ∨ m = 10 := by omega
  rcases this with rfl | rfl | rfl | rfl | rfl | rfl | rfl | rfl | rfl | rfl | rfl <;> rfl
def mkNm (name : List UInt8) (sb : Bool) (cr mo : Nat) : Nm := ⟨⟨name, sb, [], -1, -1, -1, List.replicate 16 0, List.replicate 4 0, cr, mo, by simp, by simp⟩, none, 0, []⟩
theorem mkNm_mk {m k cr mo : Nat} {sb : Bool} (hm : 1 ≤ m ∧ m ≤ 7) (hk : k ≤ 25) (hcr : cr < 18446744073709551616) (hmo : mo < 18446744073709551616) : Mk (mkNm (([65, 66, 67, 68, 69, 70, 71, 72, 73, 74] : List UInt8).take m ++ [UInt8.ofNat (65 + k)]) sb cr mo) sb := by
  refine ⟨⟨⟨fun _ => rfl, by simp [mkNm], by simp [mkNm], by simp [mkNm]; omega, by simp [mkNm], by simp [mkNm], by simp [mkNm], hcr, hmo⟩, by simp [mkNm]; omega, ?_⟩, rfl, rfl, rfl, rfl, rfl, rfl, rfl⟩
  intro c hc
  simp only [mkNm, List.mem_append, List.mem_singleton] at hc
  rcases hc with hc | rfl
  · have h1 := List.mem_of_mem_take hc
    have : (([65, 66, 67, 68, 69, 70, 71, 72, 73, 74] : List UInt8).all fun c => decide (65 ≤ c.toNat ∧ c.toNat ≤ 90)) = true := by decide
    simpa using List.all_eq_true.1 this c h1
  rw [UInt8.toNat_ofNat']; omega

end Go.Proofs.YtgoddcicbpjknaaDoor

set_option maxRecDepth 100000
namespace Go.Proofs.YtgoddcicbpjknaaDoor
open Go
open Cfb
open Go.ChangeShapes Go.WideShapes Go.ChangeAt Go.RowKit
theorem open_nums {H : Type} {enc : TypeId × Value → H} {W : World} {base : Nat} {v : Value} {d : DataW H} {ps : List MemPlace} {t e : TypeId} {k : IntKind} (hu : Tryd.prog.underlying t = some (.slice e)) (he : Tryd.prog.underlying e = some (.int k)) (hce : Tryd.prog.cellsOf e = 1)
    (hval : Value.okWide Tryd.prog W .any base t v) (h : DataW.Trod enc Tryd.prog W 0 (fun _ => true) true t v d ps) :
    ∃ p n c, v = .slice p n c ∧ n ≤ c ∧ (n = 0 ∨ ∃ b off l T fz, ∃ zs : Nat → Int, p = some ⟨b, off, none⟩ ∧ W.heap[b]? = some (Obj.cells l T fz) ∧ ∀ i, i < n → l[off + i]? = some (.int k (zs i)) ∧ (Lit.int k (zs i)).wf = true) := by
  obtain ⟨fuel, hf⟩ := h
  obtain ⟨a0, n, c, rfl⟩ := okWide_slice (e := e) hu hval
  rcases open_ints hu he hce hf with ⟨hcs, hx⟩ | ⟨a, len', cap', zs, hcs, _, hl, hm, hz, hx, hcell, hwz⟩
  · simp [Value.cells] at hcs
    obtain ⟨rfl, rfl, rfl⟩ := hcs
    exact ⟨_, _, _, rfl, Nat.le_refl _, .inl rfl⟩
  simp [Value.cells] at hcs
  obtain ⟨rfl, rfl, rfl⟩ := hcs
  refine ⟨_, _, _, rfl, hl, ?_⟩
  simp only [if_true] at hz
  rcases Nat.eq_zero_or_pos n with h0 | h0
  · exact .inl h0
  right
  have hzn : n ≤ zs.length := by omega
  have h1 := hcell 0 om_
  obtain ⟨b, off, x⟩ := a
  cases x with
  | some y =>
    exfalso
    simp [World.cell?, Addr.add] at h1
    split at h1 <;> cases h1
  | none =>
    have key : ∀ i, i < zs.length → W.cell? ⟨b, off + i, none⟩ = some (.int k (zs.getD i 0)) := fun i hi => by have := hcell i hi; rw [Addr_add] at this; exact this
    have k0 := key 0 om_
    cases hq : W.heap[b]? with
    | none => simp [World.cell?, hq] at k0
    | some o =>
      cases o with
      | cells l T fz =>
        refine ⟨b, off, l, T, fz, fun i => zs.getD i 0, rfl, hq, ?_⟩
        intro i hi
        have h2 := key i om_
        refine ⟨by simpa [World.cell?, hq] using h2, ?_⟩
        have hz1 : zs.getD i 0 ∈ zs := by rw [List.getD_eq_getElem?_getD, List.getElem?_eq_getElem om_]; exact List.getElem_mem _
        exact hwz _ hz1
      | _ => simp [World.cell?, hq] at k0
theorem add_block {W : World} {e : Nat × Obj} {D : Heap} (hm : ∀ p ∈ e :: D, W.heap[p.1]? = some p.2) (hn : ((e :: D).map Prod.fst).Nodup) {b : Nat} {o : Obj} (hb : W.heap[b]? = some o) :
    ∃ D', (∀ p ∈ e :: D', W.heap[p.1]? = some p.2) ∧ ((e :: D').map Prod.fst).Nodup ∧ (b, o) ∈ e :: D' ∧ List.Sublist (e :: D) (e :: D') := by
  by_cases h : b ∈ (e :: D).map Prod.fst
  · obtain ⟨x, hx, rfl⟩ := List.mem_map.1 h
    have := hm x hx
    rw [hb] at this
    have e1 : x.2 = o := (Option.some.inj this).symm
    exact ⟨D, hm, hn, by rw [← e1]; exact hx, .refl _⟩
  refine ⟨(b, o) :: D, ?_, ?_, List.mem_cons_of_mem _ (List.mem_cons_self ..), .cons_cons _ (.cons _ (.refl _))⟩
  · intro p hp
    rcases List.mem_cons.1 hp with rfl | hp
    · exact hm _ (List.mem_cons_self ..)
    rcases List.mem_cons.1 hp with rfl | hp
    · exact hb
    exact hm _ (List.mem_cons_of_mem _ hp)
  simp only [List.map_cons, List.nodup_cons, List.mem_cons, not_or] at hn h ⊢
  exact ⟨⟨fun e => h.1 e.symm, hn.1⟩, h.2, hn.2⟩
theorem un_22 : Tryd.prog.underlying 22 = some (.slice 67) := by kernel_rfl
theorem un_67 : Tryd.prog.underlying 67 = some (.int .u32) := by kernel_rfl
theorem cells67 : Tryd.prog.cellsOf 67 = 1 := by kernel_rfl
theorem nums_in {W : World} {e : Nat × Obj} {D : Heap} {p : Option Addr} {n : Nat} (hm : ∀ p ∈ e :: D, W.heap[p.1]? = some p.2) (hn : ((e :: D).map Prod.fst).Nodup)
    (h : n = 0 ∨ ∃ b off l T fz, ∃ zs : Nat → Int, p = some ⟨b, off, none⟩ ∧ W.heap[b]? = some (Obj.cells l T fz) ∧ ∀ i, i < n → l[off + i]? = some (.int .u32 (zs i)) ∧ (Lit.int .u32 (zs i)).wf = true) :
    ∃ D', (∀ p ∈ e :: D', W.heap[p.1]? = some p.2) ∧ ((e :: D').map Prod.fst).Nodup ∧ NumOk (e :: D') p n ∧ List.Sublist (e :: D) (e :: D') := by
  rcases h with h | ⟨b, off, l, T, fz, zs, rfl, hb, hz⟩
  · exact ⟨D, hm, hn, .inl h, .refl _⟩
  obtain ⟨D', h1, h2, h3, h4⟩ := add_block hm hn hb
  obtain ⟨l⟩ := l
  refine ⟨D', h1, h2, .inr ⟨b, off, l, T, fz, rfl, h3, fun i hi => ?_⟩, h4⟩
  obtain ⟨h5, h6⟩ := hz i hi
  have h7 : 0 ≤ zs i ∧ zs i ≤ 4294967295 := by simpa [Lit.wf, IntKind.min, IntKind.max, IntKind.signed, IntKind.bits] using h6
  refine ⟨(zs i).toNat, by omega, ?_⟩
  have h8 : l[off + i]? = some (.int .u32 (zs i)) := by simpa using h5
  rw [h8]
  unfold uv
  congr 2
  omega
theorem bytes_in {W : World} {e : Nat × Obj} {D : Heap} {p : Option Addr} {n : Nat} (hm : ∀ p ∈ e :: D, W.heap[p.1]? = some p.2) (hn : ((e :: D).map Prod.fst).Nodup)
    (h : n = 0 ∨ ∃ b off l T fz, ∃ bs : List UInt8, p = some ⟨b, off, none⟩ ∧ W.heap[b]? = some (Obj.cells l T fz) ∧ bs.length = n ∧ ∀ i, i < n → l[off + i]? = some (bv (bs.getD i 0))) :
    ∃ D', (∀ p ∈ e :: D', W.heap[p.1]? = some p.2) ∧ ((e :: D').map Prod.fst).Nodup ∧ BytOk (e :: D') p n ∧ List.Sublist (e :: D) (e :: D') := by
  rcases h with h | ⟨b, off, l, T, fz, bs, rfl, hb, hbl, hz⟩
  · exact ⟨D, hm, hn, .inl h, .refl _⟩
  obtain ⟨D', h1, h2, h3, h4⟩ := add_block hm hn hb
  obtain ⟨l⟩ := l
  exact ⟨D', h1, h2, .inr ⟨b, off, l, T, fz, rfl, h3, fun i hi => ⟨_, by simpa using hz i hi⟩⟩, h4⟩
end Go.Proofs.YtgoddcicbpjknaaDoor

namespace Go.Proofs.YtgoddcicbpjknaaDoor
open Go
open Cfb

section
variable {P : Program} {E : World} {L : Fra} {dst : Option Tmp} {ty : TypeId} {pos : String} {aft : Array Edge} {gd : Option (Nat × Bool)}
theorem Yl_letters {x z : Operand} {t : TypeId} {j : IntKind} {m : Nat} (hx : ev L x = some (.string ⟨#[65, 66, 67, 68, 69, 70, 71, 72, 73, 74]⟩)) (hz : ev L z = some (.int j (m : Int)))
    (ht : isStr P t = true) (h : m ≤ 10) : Yl P L ⟨dst, .slice t x none (some z) none, ty, pos, aft, gd⟩ (.string (bar (([65, 66, 67, 68, 69, 70, 71, 72, 73, 74] : List UInt8).take m))) := by
  have := Yl_cutS (P := P) (dst := dst) (ty := ty) (pos := pos) (aft := aft) (gd := gd) hx hz ht om_ (by show (m : Int) ≤ ((10 : Nat) : Int); omega)
  rw [Int.toNat_natCast, letters h] at this
  exact this
theorem Yl_shrN {x y : Operand} {k j : IntKind} {m s c : Nat} {t u : TypeId} (hx : ev L x = some (.int k (m : Int))) (hy : ev L y = some (.int j (s : Int))) (hs : s ≤ k.bits) (hc : m / 2 ^ s = c) :
    Yl P L ⟨dst, .binOp .shr t x y u, ty, pos, aft, gd⟩ (.int k (c : Int)) := by
  refine Yl_shr hx hy om_ ?_
  have h1 : min ((s : Int)).toNat k.bits = s := by simp; omega
  rw [h1, ← hc, Int.fdiv_eq_ediv_of_nonneg _ (by exact_mod_cast Nat.zero_le _)]
  push_cast
  rfl
theorem Yl_shrB {x y : Operand} {j : IntKind} {m s : Nat} {t u : TypeId} (hx : ev L x = some (.int .u32 (m : Int))) (hy : ev L y = some (.int j (s : Int))) (hs : s ≤ 32) :
    Yl P L ⟨dst, .binOp .shr t x y u, ty, pos, aft, gd⟩ (.int .u32 ((m / 2 ^ s : Nat) : Int)) := Yl_shrN hx hy hs rfl
end
theorem Mk.heap {x : Nm} {sb : Bool} (h : Mk x sb) : x.heap = [] := by unfold Nm.heap; rw [h.b]
theorem nms_cell : ∀ (l : List Nm) (r : List Value) (k j : Nat), k < l.length → j < 28 → (nms l ++ r)[k * 28 + j]? = (l.getD k default).cells[j]? := by
  intro l r k j hk hj
  have h1 := nms_at l r k hk
  rw [← h1, List.getElem?_take_of_lt hj, List.getElem?_drop]
theorem at_stream {l : List Nm} {r : List Value} {k o : Nat} (hk : k < l.length) (ho : o = k * 28 + 1) : (nms l ++ r)[o]? = some (.bool (l.getD k default).nd.stream) := by
  rw [ho, nms_cell l r k 1 hk om_]; rfl
theorem at_name {l : List Nm} {r : List Value} {k o : Nat} (hk : k < l.length) (ho : o = k * 28) : (nms l ++ r)[o]? = some (.string (bar (l.getD k default).nd.name)) := by
  rw [ho, ← Nat.add_zero (k * 28), nms_cell l r k 0 hk om_]; rfl
theorem cells_dataG (x : Nm) (d : List UInt8) (o : Option Nat) (cap : Nat) (r : List Value) (y : UInt8) (g cap' : Nat) (r' : List Value) :
    (x.setData d o cap r).cells.set 2 (osl (some g) (d.length + 1) cap') = (x.setData (d ++ [y]) (some g) cap' r').cells := by
  simp [Nm.cells, Nm.slice, Nm.setData, osl]

theorem nodes_A {E : World} {Q : Exit → Act → World → Prop} {F : Heap} (hQ : QP Q) (at_ k n nD cD : Nat) (pD : Option Addr) {v0 v5 v6 v31 v32 v33 : Value} (hD : BytOk F pD nD) (hk25 : k ≤ 25) (hn : n ≤ 4294967295) (hat : at_ ≤ 1000000000) (hnD : nD ≤ 1000000000)
  (hk : ∀ x h b11 at2, (Made x) → (h ≤ 4294967295) → (at_ ≤ at2) → (at2 ≤ at_ + 9000) → CW Tryd.prog E 246 [(0, v0), (1, .slice pD nD cD), (5, v5), (6, v6), (7, nv at2), (10, uv h), (11, pv b11), (31, v31), (32, v32), (33, v33)] ((b11, blk x.cells 43) :: (x.heap ++ F)) (dig [1, 1, 1, 1, 0, 1, 2, 2, 1, 1, 0, 2, 1, 1, 1, 1, 1, 1] (bodyOf Tryd.f14)) Q) :
  CW Tryd.prog E 246 [(0, v0), (1, .slice pD nD cD), (5, v5), (6, v6), (7, nv at_), (8, nv k), (9, uv n), (31, v31), (32, v32), (33, v33)] (F) (dig [1, 1, 1, 1, 0, 1, 2, 2, 1, 1, 0, 2, 1] (bodyOf Tryd.f14)) Q := by
 refine CW_seq ?_
 obtain ⟨h, hh, hhb⟩ := wrap_nat ((n : Int) * 2654435761)
 obtain ⟨x0, hx0⟩ : ∃ x0, x0 = mkNm (([65, 66, 67, 68, 69, 70, 71, 72, 73, 74] : List UInt8).take (1 + n % 7) ++ [UInt8.ofNat (65 + k)]) (decide (((n / 2 ^ 3 % 3 : Nat) : Int) > 0)) (h * 77) (n * 2 ^ 20) := ⟨_, rfl⟩
 obtain ⟨sb, hsb⟩ : ∃ sb, sb = (decide (((n / 2 ^ 3 % 3 : Nat) : Int) > 0)) := ⟨_, rfl⟩
 have hm0 : Mk x0 sb := by rw [hx0, hsb]; exact mkNm_mk om_ hk25 om_ om_
 refine CW_region ?_
 refine RW_m ?_
 refine RW_l (Yl_mul (c := (h : Int)) rfl rfl hh) ?_
 refine RW_a ?_
 refine RW_lv [0,1,5,6,7,8,9,10,31,32,33] ?_
 refine CW_sr ?_
 refine RW_m ?_
 refine RW_l (Yl_rem (c := ((n % 7 : Nat) : Int)) rfl rfl om_ (remN n 7)) ?_
 refine RW_l (Yl_add (c := ((1 + n % 7 : Nat) : Int)) rfl rfl (wu32 om_ om_)) ?_
 refine RW_l (Yl_letters (m := 1 + n % 7) rfl rfl st_9 om_) ?_
 refine RW_m ?_
 refine RW_l (Yl_add (c := ((65 + k : Nat) : Int)) rfl rfl (wi64 om_ om_)) ?_
 refine RW_l (Yl_conv (c := ((65 + k : Nat) : Int)) rfl in_3 in_21 (wi32 om_ om_)) ?_
 refine RW_l (Yl_rune (n := 65 + k) rfl in_21 st_9 om_) ?_
 refine RW_l (Yl_concatB (a := ([65, 66, 67, 68, 69, 70, 71, 72, 73, 74] : List UInt8).take (1 + n % 7)) (b := [UInt8.ofNat (65 + k)]) rfl rfl (by simp; omega)) ?_
 refine RW_m ?_
 refine RW_l (Yl_shrN (m := n) (s := 3) (c := n / 2 ^ 3) rfl rfl (by decide) rfl) ?_
 refine RW_l (Yl_rem (c := ((n / 2 ^ 3 % 3 : Nat) : Int)) rfl rfl om_ (remN (n / 2 ^ 3) 3)) ?_
 refine RW_l (Yl_gtr rfl rfl) ?_
 refine RW_m ?_
 refine RW_l (Yl_conv (c := (h : Int)) rfl in_67 in_39 (wu64 om_ om_)) ?_
 refine RW_l (Yl_mul (c := ((h * 77 : Nat) : Int)) rfl rfl (by rw [wu64 om_ om_]; omega)) ?_
 refine RW_m ?_
 refine RW_l (Yl_conv (c := (n : Int)) rfl in_67 in_39 (wu64 om_ om_)) ?_
 refine RW_l (Yl_shl (c := ((n * 2 ^ 20 : Nat) : Int)) rfl rfl om_ (shl_val (k := .u64) (x := n) (s := 20) (Or.inr (Or.inr rfl)) (by decide) (show n * 2 ^ 20 < 2 ^ 64 by omega))) ?_
 refine RW_l (Yl_build (cs := x0.cells) pl_43 ze_43 rfl (by rw [hx0]; rfl)) ?_
 refine RW_fx rfl rfl rfl (Fx_alloc (zs := zs_43) ze_43 rfl) ?_
 rintro _ _ ⟨b11, rfl, rfl⟩
 refine RW_fx0 rfl rfl (Fx_storeA (b := b11) (off := 0) (l := zs_43) (T := 43) (cs := x0.cells) rfl rfl (by rw [Nm.length_cells]; exact sz_43) (Nm.one_cells _) rep_ (by rw [Nm.length_cells]; exact Nat.le_refl 28)) ?_
 rintro _ _ rfl
 refine RW_lv [0,1,5,6,7,9,10,11,31,32,33] ?_
 refine CW_seq ?_
 refine CW_seq ?_
 rw [spl_full _ _ (by rw [Nm.length_cells]; rfl)]
 refine CW_region ?_
 refine RW_m ?_
 refine RW_lv [0,1,5,6,7,9,10,11,31,32,33,60] ?_
 refine CW_block ?_
 refine CW_lp (σ := Nat × Nm) (fun q => [(0, v0), (1, .slice pD nD cD), (5, v5), (6, v6), (7, nv at_), (9, uv n), (10, uv h), (11, pv b11), (31, v31), (32, v32), (33, v33), (60, nv q.1)]) (fun q => (b11, blk q.2.cells 43) :: F) (fun q => q.1 ≤ 16 ∧ Mk q.2 sb) (fun q => 16 - q.1) (0, x0) ⟨by simp, hm0⟩ ?_
 rintro ⟨j, x⟩ ⟨hj, hx⟩
 simp only at hj hx ⊢
 refine CW_sr ?_
 refine RW_l (Yl_lss rfl rfl) ?_
 refine RW_lv [0,1,5,6,7,9,10,11,31,32,33,60,61] ?_
 refine CW_seq ?_
 refine CW_cd rfl (fun hc1 => ?_) (fun hc1 => ?_)
 ·refine (CW_skip (QW_lv [0,1,5,6,7,9,10,11,31,32,33,60] ?_))
  refine CW_seq ?_
  refine CW_block ?_
  refine CW_sr ?_
  refine RW_m ?_
  refine RW_a ?_
  refine RW_lv [0,1,5,6,7,9,10,11,12,31,32,33,60] ?_
  obtain ⟨yb, hyb⟩ := wrap_byte ((h / 2 ^ (j % 24) : Nat) : Int)
  refine CW_region ?_
  refine RW_m ?_
  refine RW_m ?_
  refine RW_m ?_
  refine RW_l (Yl_rem (c := ((j % 24 : Nat) : Int)) rfl rfl om_ (remN j 24)) ?_
  refine RW_l (Yl_shrB (m := h) (s := j % 24) rfl rfl om_) ?_
  refine RW_l (Yl_conv (c := (yb.toNat : Int)) rfl in_67 in_5 hyb) ?_
  refine RW_f fo_43_6 ?_
  refine RW_l (Yl_indexAN (b := b11) (off := 6) (i := j) (o' := 6 + j) rfl rfl ar_37 om_ om_) ?_
  refine RW_fx0 rfl rfl (Fx_store (v := bv yb) (b := b11) (off := 6 + j) rfl rfl sz_5 rfl rep_ (by rw [Nm.length_cells]; omega)) ?_
  rintro _ _ rfl
  refine RW_nil ?_
  refine QW_normal_block ?_
  refine (QW_lv [0,1,5,6,7,9,10,11,31,32,33,60] ?_)
  refine CW_region ?_
  refine RW_l (Yl_add (c := ((j + 1 : Nat) : Int)) rfl rfl (wi64 om_ om_)) ?_
  refine RW_m ?_
  refine RW_nil ?_
  rw [cells_setCls x om_ yb]
  exact QW_rn (j + 1, x.setCls j yb) ⟨by simp only; omega, hx.setCls j yb⟩ (by simp only; omega)
 refine CW_exit ?_
 refine QW_exit_then ?_
 refine QW_exit_then ?_
 refine QW_exit_block ?_
 refine (QW_lv [0,1,5,6,7,9,10,11,31,32,33] ?_)
 refine CW_seq ?_
 refine CW_sr ?_
 refine RW_m ?_
 refine RW_lv [0,1,5,6,7,9,10,11,31,32,33,72] ?_
 refine CW_block ?_
 refine CW_lp (σ := Nat × Nm) (fun q => [(0, v0), (1, .slice pD nD cD), (5, v5), (6, v6), (7, nv at_), (9, uv n), (10, uv h), (11, pv b11), (31, v31), (32, v32), (33, v33), (72, nv q.1)]) (fun q => (b11, blk q.2.cells 43) :: F) (fun q => q.1 ≤ 4 ∧ Mk q.2 sb) (fun q => 4 - q.1) (0, x) ⟨by simp, hx⟩ ?_
 rintro ⟨j, x⟩ ⟨hj, hx⟩
 simp only at hj hx ⊢
 refine CW_sr ?_
 refine RW_l (Yl_lss rfl rfl) ?_
 refine RW_lv [0,1,5,6,7,9,10,11,31,32,33,72,73] ?_
 refine CW_seq ?_
 refine CW_cd rfl (fun hc2 => ?_) (fun hc2 => ?_)
 ·refine (CW_skip (QW_lv [0,1,5,6,7,9,10,11,31,32,33,72] ?_))
  refine CW_seq ?_
  refine CW_block ?_
  refine CW_sr ?_
  refine RW_m ?_
  refine RW_a ?_
  refine RW_lv [0,1,5,6,7,9,10,11,13,31,32,33,72] ?_
  obtain ⟨yb, hyb⟩ := wrap_byte ((n / 2 ^ (6 * j) : Nat) : Int)
  refine CW_region ?_
  refine RW_m ?_
  refine RW_m ?_
  refine RW_m ?_
  refine RW_l (Yl_mul (c := ((6 * j : Nat) : Int)) rfl rfl (by rw [wi64 om_ om_]; omega)) ?_
  refine RW_l (Yl_shrB (m := n) (s := 6 * j) rfl rfl om_) ?_
  refine RW_l (Yl_conv (c := (yb.toNat : Int)) rfl in_67 in_5 hyb) ?_
  refine RW_f fo_43_7 ?_
  refine RW_l (Yl_indexAN (b := b11) (off := 22) (i := j) (o' := 22 + j) rfl rfl ar_38 om_ om_) ?_
  refine RW_fx0 rfl rfl (Fx_store (v := bv yb) (b := b11) (off := 22 + j) rfl rfl sz_5 rfl rep_ (by rw [Nm.length_cells]; omega)) ?_
  rintro _ _ rfl
  refine RW_nil ?_
  refine QW_normal_block ?_
  refine (QW_lv [0,1,5,6,7,9,10,11,31,32,33,72] ?_)
  refine CW_region ?_
  refine RW_l (Yl_add (c := ((j + 1 : Nat) : Int)) rfl rfl (wi64 om_ om_)) ?_
  refine RW_m ?_
  refine RW_nil ?_
  rw [cells_setSt x om_ yb]
  exact QW_rn (j + 1, x.setSt j yb) ⟨by simp only; omega, hx.setSt j yb⟩ (by simp only; omega)
 refine CW_exit ?_
 refine QW_exit_then ?_
 refine QW_exit_then ?_
 refine QW_exit_block ?_
 refine (QW_lv [0,1,5,6,7,9,10,11,31,32,33] ?_)
 refine CW_seq ?_
 refine CW_sr ?_
 refine RW_f fo_43_1 ?_
 refine RW_h (Yh_load (v := .bool sb) rfl sc_4 mem_ (by rw [← hx.stream]; rfl)) ?_
 refine RW_lv [0,1,5,6,7,9,10,11,31,32,33,85] ?_
 refine CW_cond rfl (fun hc3 => ?_) (fun hc3 => ?_)
 ·skip
  rw [show sb = true from hc3] at hx
  try clear hsb
  refine CW_sr ?_
  refine RW_m ?_
  refine RW_l (Yl_shrN (m := n) (s := 5) (c := n / 2 ^ 5) rfl rfl (by decide) rfl) ?_
  refine RW_l (Yl_rem (c := ((n / 2 ^ 5 % 300 : Nat) : Int)) rfl rfl om_ (remN (n / 2 ^ 5) 300)) ?_
  refine RW_l (Yl_conv (c := ((n / 2 ^ 5 % 300 : Nat) : Int)) rfl in_67 in_3 (wi64 om_ om_)) ?_
  refine RW_a ?_
  refine RW_lv [0,1,5,6,7,9,10,11,14,31,32,33] ?_
  refine CW_cut (σ := Nat) (fun q => [(0, v0), (1, .slice pD nD cD), (5, v5), (6, v6), (7, nv at_), (10, uv h), (11, pv b11), (14, nv q), (31, v31), (32, v32), (33, v33)]) (fun _ => (b11, blk x.cells 43) :: F) (fun q => q ≤ 9000) ?_ ?_
  ·skip
   refine CW_sr ?_
   refine RW_m ?_
   refine RW_l (Yl_shrN (m := n) (s := 14) (c := n / 2 ^ 14) rfl rfl (by decide) rfl) ?_
   refine RW_l (Yl_rem (c := ((n / 2 ^ 14 % 8 : Nat) : Int)) rfl rfl om_ (remN (n / 2 ^ 14) 8)) ?_
   refine RW_l (Yl_eql rfl rfl) ?_
   refine RW_lv [0,1,5,6,7,9,10,11,14,31,32,33,93] ?_
   refine CW_cd rfl (fun hc4 => ?_) (fun hc4 => ?_)
   ·refine CW_region ?_
    refine RW_m ?_
    refine RW_l (Yl_shrN (m := n) (s := 5) (c := n / 2 ^ 5) rfl rfl (by decide) rfl) ?_
    refine RW_l (Yl_rem (c := ((n / 2 ^ 5 % 9000 : Nat) : Int)) rfl rfl om_ (remN (n / 2 ^ 5) 9000)) ?_
    refine RW_l (Yl_conv (c := ((n / 2 ^ 5 % 9000 : Nat) : Int)) rfl in_67 in_3 (wi64 om_ om_)) ?_
    refine RW_a ?_
    refine RW_nil ?_
    first
     | exact QW_cut (n / 2 ^ 5 % 9000) (by omega) (by repeat (first | exact Prm.nil _ | exact Rem.here _ _ | apply Rem.there | apply Prm.cons)) (.cons rfl (.cons rfl (.cons rfl (.cons rfl (.cons rfl (.cons rfl (.cons rfl (.cons rfl (.cons rfl (.cons rfl (.cons rfl .nil)))))))))))
     | exact QW_cut (n / 2 ^ 5 % 300) (by omega) (by repeat (first | exact Prm.nil _ | exact Rem.here _ _ | apply Rem.there | apply Prm.cons)) (.cons rfl (.cons rfl (.cons rfl (.cons rfl (.cons rfl (.cons rfl (.cons rfl (.cons rfl (.cons rfl (.cons rfl (.cons rfl .nil)))))))))))
   refine CW_skip ?_
   first
    | exact QW_cut (n / 2 ^ 5 % 9000) (by omega) (by repeat (first | exact Prm.nil _ | exact Rem.here _ _ | apply Rem.there | apply Prm.cons)) (.cons rfl (.cons rfl (.cons rfl (.cons rfl (.cons rfl (.cons rfl (.cons rfl (.cons rfl (.cons rfl (.cons rfl (.cons rfl .nil)))))))))))
    | exact QW_cut (n / 2 ^ 5 % 300) (by omega) (by repeat (first | exact Prm.nil _ | exact Rem.here _ _ | apply Rem.there | apply Prm.cons)) (.cons rfl (.cons rfl (.cons rfl (.cons rfl (.cons rfl (.cons rfl (.cons rfl (.cons rfl (.cons rfl (.cons rfl (.cons rfl .nil)))))))))))
  rintro sz hsz
  refine CW_seq ?_
  refine CW_sr ?_
  refine RW_m ?_
  refine RW_m ?_
  refine RW_lv [0,1,5,6,7,10,11,14,31,32,33,98,99] ?_
  refine CW_block ?_
  refine CW_loop (σ := Nat × List UInt8 × Option Nat × Nat × List Value) (fun q => [(0, v0), (1, .slice pD nD cD), (5, v5), (6, v6), (7, nv at_), (10, uv h), (11, pv b11), (14, nv sz), (31, v31), (32, v32), (33, v33), (98, nv sz), (99, nv q.1)]) (fun q => (b11, blk (x.setData q.2.1 q.2.2.1 q.2.2.2.1 q.2.2.2.2).cells 43) :: (oH q.2.2.1 (bys q.2.1 ++ q.2.2.2.2) 5 ++ F)) (fun q => q.1 ≤ sz ∧ q.2.1.length = q.1 ∧ dOk q.2.2.1 q.2.1 q.2.2.2.1 q.2.2.2.2) (fun q => sz - q.1) (0, [], none, 0, x.rest) ⟨by simp, rfl, ⟨⟨rfl, rfl⟩, fun _ => rfl⟩⟩ (by rw [hx.same]; exact prm_) kp_ ?_
  rintro ⟨i, d, o, cap, r⟩ ⟨hi, hdl, hdo⟩
  simp only at hi hdl hdo ⊢
  refine CW_sr ?_
  refine RW_l (Yl_lss rfl rfl) ?_
  refine RW_lv [0,1,5,6,7,10,11,14,31,32,33,98,99,100] ?_
  refine CW_seq ?_
  refine CW_cd rfl (fun hc5 => ?_) (fun hc5 => ?_)
  ·refine (CW_skip (QW_lv [0,1,5,6,7,10,11,14,31,32,33,98,99] ?_))
   refine CW_seq ?_
   refine CW_block ?_
   refine CW_sr ?_
   refine RW_m ?_
   refine RW_a ?_
   refine RW_lv [0,1,5,6,7,10,11,14,15,31,32,33,98,99] ?_
   refine CW_seq ?_
   obtain ⟨y0, hy0⟩ := wrap_byte ((i * 7 + i / 2 ^ 8 + h / 2 ^ 9 : Nat) : Int)
   refine CW_region ?_
   refine RW_m ?_
   refine RW_l (Yl_mul (c := ((i * 7 : Nat) : Int)) rfl rfl (by rw [wi64 om_ om_]; omega)) ?_
   refine RW_m ?_
   refine RW_l (Yl_shrN (m := i) (s := 8) (c := i / 2 ^ 8) rfl rfl (by decide) rfl) ?_
   refine RW_l (Yl_add (c := ((i * 7 + i / 2 ^ 8 : Nat) : Int)) rfl rfl (wi64 om_ om_)) ?_
   refine RW_m ?_
   refine RW_l (Yl_shrN (m := h) (s := 9) (c := h / 2 ^ 9) rfl rfl (by decide) rfl) ?_
   refine RW_l (Yl_conv (c := ((h / 2 ^ 9 : Nat) : Int)) rfl in_67 in_3 (wi64 om_ om_)) ?_
   refine RW_l (Yl_add (c := ((i * 7 + i / 2 ^ 8 + h / 2 ^ 9 : Nat) : Int)) rfl rfl (wi64 om_ om_)) ?_
   refine RW_l (Yl_conv (c := (y0.toNat : Int)) rfl in_3 in_5 hy0) ?_
   refine RW_a ?_
   refine RW_lv [0,1,5,6,7,10,11,14,15,16,31,32,33,98,99] ?_
   refine CW_cut (σ := UInt8) (fun q => [(0, v0), (1, .slice pD nD cD), (5, v5), (6, v6), (7, nv at_), (10, uv h), (11, pv b11), (14, nv sz), (16, bv q), (31, v31), (32, v32), (33, v33), (98, nv sz), (99, nv i)]) (fun _ => (b11, blk (x.setData d o cap r).cells 43) :: (oH o (bys d ++ r) 5 ++ F)) (fun _ => True) ?_ ?_
   ·skip
    refine CW_sr ?_
    refine RW_m ?_
    refine RW_l (Yl_len rfl sl_23) ?_
    refine RW_l (Yl_gtr rfl rfl) ?_
    refine RW_lv [0,1,5,6,7,10,11,14,15,16,31,32,33,98,99,114] ?_
    refine CW_cd rfl (fun hc6 => ?_) (fun hc6 => ?_)
    ·rcases hD with h0 | ⟨bD, oD, lD, TD, fzD, rfl, hmD, hxD0⟩
     ·exfalso; omega
     have hatn : (at_ + i) % nD < nD := Nat.mod_lt _ om_
     obtain ⟨xD, hxD⟩ := hxD0 _ hatn
     obtain ⟨yx, hyx⟩ := xor_u8 y0 xD
     refine CW_region ?_
     refine RW_m ?_
     refine RW_m ?_
     refine RW_m ?_
     refine RW_m ?_
     refine RW_l (Yl_add (c := ((at_ + i : Nat) : Int)) rfl rfl (by rw [wi64 om_ om_]; omega)) ?_
     refine RW_m ?_
     refine RW_l (Yl_len rfl sl_23) ?_
     refine RW_l (Yl_rem (c := (((at_ + i) % nD : Nat) : Int)) rfl rfl om_ (remN (at_ + i) nD)) ?_
     refine RW_l (Yl_indexN (b := bD) (off := oD) (i := (at_ + i) % nD) (o' := oD + (at_ + i) % nD) rfl rfl sl_23 hatn om_) ?_
     refine RW_h (Yh_load (v := bv xD) rfl sc_5 ((show List.Sublist F _ by repeat (first | exact List.sublist_append_right _ _ | apply List.Sublist.cons | (refine List.Sublist.trans ?_ (List.sublist_append_right _ _)))).subset hmD) hxD) ?_
     refine RW_l (Yl_bits (c := (yx.toNat : Int)) rfl rfl (Or.inr (Or.inr rfl)) hyx) ?_
     refine RW_a ?_
     refine RW_nil ?_
     first
      | exact QW_cut yx trivial (by repeat (first | exact Prm.nil _ | exact Rem.here _ _ | apply Rem.there | apply Prm.cons)) (.cons rfl (.cons rfl (.cons rfl (.cons rfl (.cons rfl (.cons rfl (.cons rfl (.cons rfl (.cons rfl (.cons rfl (.cons rfl (.cons rfl (.cons rfl (.cons rfl .nil))))))))))))))
      | exact QW_cut y0 trivial (by repeat (first | exact Prm.nil _ | exact Rem.here _ _ | apply Rem.there | apply Prm.cons)) (.cons rfl (.cons rfl (.cons rfl (.cons rfl (.cons rfl (.cons rfl (.cons rfl (.cons rfl (.cons rfl (.cons rfl (.cons rfl (.cons rfl (.cons rfl (.cons rfl .nil))))))))))))))
    refine CW_skip ?_
    first
     | exact QW_cut yx trivial (by repeat (first | exact Prm.nil _ | exact Rem.here _ _ | apply Rem.there | apply Prm.cons)) (.cons rfl (.cons rfl (.cons rfl (.cons rfl (.cons rfl (.cons rfl (.cons rfl (.cons rfl (.cons rfl (.cons rfl (.cons rfl (.cons rfl (.cons rfl (.cons rfl .nil))))))))))))))
     | exact QW_cut y0 trivial (by repeat (first | exact Prm.nil _ | exact Rem.here _ _ | apply Rem.there | apply Prm.cons)) (.cons rfl (.cons rfl (.cons rfl (.cons rfl (.cons rfl (.cons rfl (.cons rfl (.cons rfl (.cons rfl (.cons rfl (.cons rfl (.cons rfl (.cons rfl (.cons rfl .nil))))))))))))))
   rintro y -
   refine CW_region ?_
   refine RW_f fo_43_2 ?_
   refine RW_h (Yh_lh (v := osl o d.length cap) sc_23 (hdo.val x)) ?_
   refine RW_m ?_
   refine RW_fx rfl rfl rfl (Fx_litS sl_23 ze_5 rfl rfl rfl rfl rfl) ?_
   rintro _ _ ⟨b129, rfl, rfl⟩
   refine RW_fx rfl rfl rfl (Fx_appO (xs := bys d) (r := r) (news := [bv y]) (o := o) (n := d.length) (cap := cap) (m := 1) (z0 := .int .u8 0) (q := 1) rfl rfl sl_23 by_5 ze_5 rfl rfl rem_ List.perm_middle.symm hdo.1 rfl (one_map one_bv [y]) om_ om_ om_ om_) ?_
   rintro _ _ ⟨g', cap', r', rfl, hdo', rfl⟩
   refine RW_f fo_43_2 ?_
   refine RW_fx0 rfl rfl (Fx_store (v := osl (some g') (d.length + 1) cap') (b := b11) (off := 2) rfl rfl sz_23 rfl rep_ (by rw [Nm.length_cells]; omega)) ?_
   rintro _ _ rfl
   refine RW_nil ?_
   refine QW_normal_block ?_
   refine (QW_lv [0,1,5,6,7,10,11,14,31,32,33,98,99] ?_)
   refine CW_region ?_
   refine RW_l (Yl_add (c := ((i + 1 : Nat) : Int)) rfl rfl (wi64 om_ om_)) ?_
   refine RW_m ?_
   refine RW_nil ?_
   rw [cells_dataG]
   refine QW_round (i + 1, d ++ [y], some g', cap', r') ⟨by simp only; omega, by simp [hdl], ⟨?_, fun e => nomatch e⟩⟩ (by simp only; omega) ?_ kp_
   ·simpa using hdo'
   simp only [List.map_append, List.map_cons, List.map_nil, List.cons_append, List.nil_append]; exact prm_
  refine CW_exit ?_
  refine QW_exit_then ?_
  refine QW_exit_then ?_
  refine QW_exit_block ?_
  refine (QW_lv [0,1,5,6,7,10,11,14,31,32,33] ?_)
  refine CW_region ?_
  refine RW_m ?_
  refine RW_m ?_
  refine RW_l (Yl_add (c := ((at_ + sz : Nat) : Int)) rfl rfl (wi64 om_ om_)) ?_
  refine RW_a ?_
  refine RW_lv [0,1,5,6,7,10,11,31,32,33] ?_
  first
   | (have hd2 : d.length ≤ 9000 := (by omega); have hz := hk (x.setData d o cap r) h b11 (at_ + sz) (hdo.made hx hd2) (by omega) (by omega) (by omega); rw [dOk.heap] at hz; exact hz)
   | (have hz := hk x h b11 at_ hx.made (by omega) (by omega) (by omega); rw [hx.heap] at hz; exact hz)
 skip
 refine (CW_skip (QW_lv [0,1,5,6,7,10,11,31,32,33] ?_))
 first
  | (have hd2 : d.length ≤ 9000 := (by omega); have hz := hk (x.setData d o cap r) h b11 (at_ + sz) (hdo.made hx hd2) (by omega) (by omega) (by omega); rw [dOk.heap] at hz; exact hz)
  | (have hz := hk x h b11 at_ hx.made (by omega) (by omega) (by omega); rw [hx.heap] at hz; exact hz)
theorem nodes_W {E : World} {Q : Exit → Act → World → Prop} {F : Heap} (hQ : QP Q) (g cap h : Nat) (ns : List Nm) (r : List Value) {v0 v1 v6 v7 v11 v31 v32 v33 : Value} (hg : (g, blk (nms ns ++ r) 43) ∈ F) (hn : 1 ≤ ns.length ∧ ns.length ≤ 100) (hh : h ≤ 4294967295)
  (hk : ∀ w, (w < ns.length) → CW Tryd.prog E 246 [(0, v0), (1, v1), (5, .slice (some ⟨g, 0, none⟩) ns.length cap), (6, v6), (7, v7), (11, v11), (17, nv w), (31, v31), (32, v32), (33, v33)] (F) (dig [1, 1, 1, 1, 0, 1, 2, 2, 1, 1, 0, 2, 1, 1, 1, 1, 1, 1, 1, 1] (bodyOf Tryd.f14)) Q) :
  CW Tryd.prog E 246 [(0, v0), (1, v1), (5, .slice (some ⟨g, 0, none⟩) ns.length cap), (6, v6), (7, v7), (10, uv h), (11, v11), (31, v31), (32, v32), (33, v33)] (F) (dig [1, 1, 1, 1, 0, 1, 2, 2, 1, 1, 0, 2, 1, 1, 1, 1, 1, 1] (bodyOf Tryd.f14)) Q := by
 refine CW_sr ?_
 refine RW_a ?_
 refine RW_lv [0,1,5,6,7,10,11,17,31,32,33] ?_
 refine CW_seq ?_
 refine CW_sr ?_
 refine RW_m ?_
 refine RW_l (Yl_len rfl sl_25) ?_
 refine RW_m ?_
 refine RW_lv [0,1,5,6,7,10,11,17,31,32,33,137,138] ?_
 refine CW_block ?_
 refine CW_lp (σ := Nat) (fun q => [(0, v0), (1, v1), (5, .slice (some ⟨g, 0, none⟩) ns.length cap), (6, v6), (7, v7), (10, uv h), (11, v11), (17, nv 0), (31, v31), (32, v32), (33, v33), (137, nv ns.length), (138, nv q)]) (fun _ => F) (fun q => q ≤ ns.length) (fun q => ns.length - q) 0 om_ ?_
 rintro j hj
 refine CW_sr ?_
 refine RW_l (Yl_lss rfl rfl) ?_
 refine RW_lv [0,1,5,6,7,10,11,17,31,32,33,137,138,139] ?_
 refine CW_seq ?_
 refine CW_cd rfl (fun hc1 => ?_) (fun hc1 => ?_)
 ·refine (CW_skip (QW_lv [0,1,5,6,7,10,11,17,31,32,33,137,138] ?_))
  refine CW_seq ?_
  refine CW_block ?_
  refine CW_sr ?_
  refine RW_m ?_
  refine RW_a ?_
  refine RW_lv [0,1,5,6,7,10,11,17,18,31,32,33,137,138] ?_
  refine CW_seq ?_
  have hq : (h / 2 ^ 20 + j) % ns.length < ns.length := Nat.mod_lt _ om_
  refine CW_region ?_
  refine RW_m ?_
  refine RW_l (Yl_shrN (m := h) (s := 20) (c := h / 2 ^ 20) rfl rfl (by decide) rfl) ?_
  refine RW_l (Yl_conv (c := ((h / 2 ^ 20 : Nat) : Int)) rfl in_67 in_3 (wi64 om_ om_)) ?_
  refine RW_m ?_
  refine RW_l (Yl_add (c := ((h / 2 ^ 20 + j : Nat) : Int)) rfl rfl (wi64 om_ om_)) ?_
  refine RW_m ?_
  refine RW_l (Yl_len rfl sl_25) ?_
  refine RW_l (Yl_rem (c := (((h / 2 ^ 20 + j) % ns.length : Nat) : Int)) rfl rfl om_ (remN (h / 2 ^ 20 + j) ns.length)) ?_
  refine RW_a ?_
  refine RW_lv [0,1,5,6,7,10,11,17,19,31,32,33,137,138] ?_
  refine CW_sr ?_
  refine RW_m ?_
  refine RW_l (Yl_eql rfl rfl) ?_
  refine RW_m ?_
  refine RW_bool 151 rfl (fun hg2 => ?_) (fun hg2 => ?_)
  ·replace hg2 := of_decide_eq_true hg2
   refine RW_skip rfl rfl rfl ?_
   refine RW_skip rfl rfl rfl ?_
   refine RW_skip rfl rfl rfl ?_
   refine RW_skip rfl rfl rfl ?_
   refine RW_skip rfl rfl rfl ?_
   refine RW_skip rfl rfl rfl ?_
   refine RW_l (Yl_pick_t rfl rfl) ?_
   refine RW_lv [0,1,5,6,7,10,11,17,19,31,32,33,137,138,158] ?_
   refine CW_true rfl ?_
   refine CW_sr ?_
   refine RW_m ?_
   refine RW_a ?_
   refine RW_lv [0,1,5,6,7,11,17,31,32,33] ?_
   refine CW_exit ?_
   refine QW_exit_past rfl ?_
   refine QW_exit_then ?_
   refine QW_exit_then ?_
   refine QW_exit_block ?_
   refine (QW_lv [0,1,5,6,7,11,17,31,32,33] ?_)
   first
    | exact hk ((h / 2 ^ 20 + j) % ns.length) hq
    | exact hk 0 (by omega)
  replace hg2 := of_decide_eq_false hg2
  refine RW_gy rfl rfl rfl (Yl.h (Yl_move rfl)) ?_
  refine RW_gy rfl rfl rfl (Yl.h (Yl_move rfl)) ?_
  refine RW_gy rfl rfl rfl (Yl.h (Yl_indexN (b := g) (off := 0) (i := (h / 2 ^ 20 + j) % ns.length) (o' := (h / 2 ^ 20 + j) % ns.length * 28) rfl rfl sl_25 hq om_)) ?_
  refine RW_gy rfl rfl rfl (Yl.h (Yl_field rfl fo_43_1)) ?_
  refine RW_gy rfl rfl rfl (Yh_load (v := .bool (ns.getD ((h / 2 ^ 20 + j) % ns.length) default).nd.stream) rfl sc_4 hg (at_stream hq rfl)) ?_
  refine RW_gy rfl rfl rfl (Yl.h (Yl_not rfl)) ?_
  refine RW_l (Yl_pick_f rfl rfl) ?_
  refine RW_lv [0,1,5,6,7,10,11,17,19,31,32,33,137,138,158] ?_
  refine CW_cond rfl (fun hc3 => ?_) (fun hc3 => ?_)
  ·skip
   refine CW_sr ?_
   refine RW_m ?_
   refine RW_a ?_
   refine RW_lv [0,1,5,6,7,11,17,31,32,33] ?_
   refine CW_exit ?_
   refine QW_exit_past rfl ?_
   refine QW_exit_then ?_
   refine QW_exit_then ?_
   refine QW_exit_block ?_
   refine (QW_lv [0,1,5,6,7,11,17,31,32,33] ?_)
   first
    | exact hk ((h / 2 ^ 20 + j) % ns.length) hq
    | exact hk 0 (by omega)
  skip
  refine CW_skip ?_
  refine QW_normal_block ?_
  refine (QW_lv [0,1,5,6,7,10,11,17,31,32,33,137,138] ?_)
  refine CW_region ?_
  refine RW_l (Yl_add (c := ((j + 1 : Nat) : Int)) rfl rfl (wi64 om_ om_)) ?_
  refine RW_m ?_
  refine RW_nil ?_
  exact QW_rn (j + 1) om_ om_
 refine CW_exit ?_
 refine QW_exit_then ?_
 refine QW_exit_then ?_
 refine QW_exit_block ?_
 refine (QW_lv [0,1,5,6,7,11,17,31,32,33] ?_)
 first
  | exact hk ((h / 2 ^ 20 + j) % ns.length) hq
  | exact hk 0 (by omega)

theorem nodup_len : ∀ (n : Nat) (l : List Nat), l.Nodup → (∀ x ∈ l, x < n) → l.length ≤ n := by
  intro n
  induction n with
  | zero =>
    intro l _ h
    cases l with
    | nil => exact Nat.le_refl 0
    | cons a r => exact absurd (h a (by simp)) (by omega)
  | succ n ih =>
    intro l hd h
    by_cases hm : n ∈ l
    · have h1 := ih (l.erase n) (hd.erase n) (fun x hx => by
        have h2 := (List.Nodup.mem_erase_iff hd).1 hx
        have := h x h2.2; omega)
      rw [List.length_erase_of_mem hm] at h1
      omega
    have := ih l hd (fun x hx => by
      have h2 := h x hx
      have h3 : x ≠ n := fun e => hm (e ▸ hx)
      omega)
    omega
structure PL (n : Nat) (ls : Nat → List Nat) (par : Nat → Nat) : Prop where
  mem : ∀ p j, j ∈ ls p ↔ 1 ≤ j ∧ j < n ∧ par j = p
  lt : ∀ j, 1 ≤ j → j < n → par j < j
  nd : ∀ p, (ls p).Nodup
theorem PL.add {n w : Nat} {ls ls' : Nat → List Nat} {par : Nat → Nat} (h : PL n ls par) (hn : 1 ≤ n) (hw : w < n) (hls : ∀ p, ls' p = if p = w then ls p ++ [n] else ls p) : PL (n + 1) ls' (fun j => if j = n then w else par j) := by
  refine ⟨?_, ?_, ?_⟩
  · intro p j
    rw [hls]
    by_cases hp : p = w
    · rw [if_pos hp, List.mem_append, h.mem, List.mem_singleton]
      by_cases hj : j = n
      · rw [if_pos hj]; omega
      rw [if_neg hj]; omega
    rw [if_neg hp, h.mem]
    by_cases hj : j = n
    · rw [if_pos hj]; omega
    rw [if_neg hj]; omega
  · intro j h1 h2
    by_cases hj : j = n
    · simp only [if_pos hj]; omega
    simp only [if_neg hj]; exact h.lt j h1 om_
  intro p
  rw [hls]
  by_cases hp : p = w
  · rw [if_pos hp]
    refine List.nodup_append.2 ⟨h.nd p, by simp, ?_⟩
    intro a ha b hb
    have h1 := (h.mem p a).1 ha
    rw [List.mem_singleton.1 hb]; omega
  rw [if_neg hp]; exact h.nd p
theorem PL.perm {n : Nat} {ls ls' : Nat → List Nat} {par : Nat → Nat} (h : PL n ls par) (hp : ∀ p, (ls' p).Perm (ls p)) : PL n ls' par :=
  ⟨fun p j => by rw [(hp p).mem_iff]; exact h.mem p j, h.lt, fun p => (hp p).nodup_iff.2 (h.nd p)⟩
theorem PL.len {n : Nat} {ls : Nat → List Nat} {par : Nat → Nat} (h : PL n ls par) (p : Nat) : (ls p).length ≤ n :=
  nodup_len n _ (h.nd p) (fun x hx => ((h.mem p x).1 hx).2.1)
theorem PL.one {ls : Nat → List Nat} (h : ∀ p, ls p = []) : PL 1 ls (fun _ => 0) :=
  ⟨fun p j => by rw [h]; simp; omega, fun j h1 h2 => by omega, fun p => by rw [h]; simp⟩
theorem bl_perm (A F : Heap) (bs : List Bl) (k : Nat) (h : k < bs.length) : (A ++ (blsH bs ++ F)).Perm ((bs.getD k default).heap ++ (A ++ (blsH (bs.eraseIdx k) ++ F))) := by
  refine (((blsH_perm bs k h).append_right F).append_left A).trans ?_
  rw [List.append_assoc]
  exact perm_front _ _ _
theorem bl_set (A F : Heap) (bs : List Bl) (k : Nat) (b : Bl) (h : k < bs.length) : (b.heap ++ (A ++ (blsH (bs.eraseIdx k) ++ F))).Perm (A ++ (blsH (bs.set k b) ++ F)) := by
  refine (perm_front _ _ _).trans ?_
  rw [← List.append_assoc b.heap]
  exact ((blsH_set bs k b h).append_right F).append_left A
theorem bls_val (bs : List Bl) (r : List Value) (k : Nat) (h : k < bs.length) : (bs.map Bl.val ++ r)[k]? = some (bs.getD k default).val := by
  rw [List.getElem?_append_left (by simpa using h)]
  simp [List.getD_eq_getElem?_getD, h]
theorem bls_set (bs : List Bl) (r : List Value) (k : Nat) (b : Bl) (h : k < bs.length) : (bs.map Bl.val ++ r).set k b.val = (bs.set k b).map Bl.val ++ r := by
  rw [List.set_append_left _ _ (by simpa using h), List.map_set]
theorem bl_getD_set (bs : List Bl) (k j : Nat) (b : Bl) (hk : k < bs.length) : (bs.set k b).getD j default = if k = j then b else bs.getD j default := by
  simp only [List.getD_eq_getElem?_getD, List.getElem?_set]
  split
  · simp [hk]
  rfl
theorem swap_perm (l : List Nat) {i j : Nat} (hi : i < l.length) (hj : j < l.length) : ((l.set i (l.getD j 0)).set j (l.getD i 0)).Perm l := by
  have h := List.set_set_perm hi hj
  simp only [List.getD_eq_getElem?_getD, List.getElem?_eq_getElem hi, List.getElem?_eq_getElem hj, Option.getD_some]
  exact h
theorem nats_set (l : List Nat) (r : List Value) (k x : Nat) (h : k < l.length) : (nats l ++ r).set k (nv x) = nats (l.set k x) ++ r := by
  rw [List.set_append_left _ _ (by simpa using h)]
  simp [nats, List.map_set]
theorem getD_mem {l : List Nat} {k : Nat} (h : k < l.length) : l.getD k 0 ∈ l := by
  rw [List.getD_eq_getElem?_getD, List.getElem?_eq_getElem h]; exact List.getElem_mem h

theorem nodes_P {E : World} {Q : Exit → Act → World → Prop} {F : Heap} (hQ : QP Q) (x : Nm) (b11 g cap gb capb w : Nat) (ns : List Nm) (bls : List Bl) (r rb : List Value) {v0 v1 v7 v31 v32 v33 : Value} (hl : (nms ns ++ r).length = cap * 28) (hlb : (bls.map Bl.val ++ rb).length = capb) (hw : w < bls.length) (hok : (bls.getD w default).ok) (hn : ns.length ≤ 100) (hbn : bls.length ≤ 100) (hbl : (bls.getD w default).l.length ≤ 100)
  (hk : ∀ g' cap' gb' capb' r' rb' nb, ((nms (ns ++ [x]) ++ r').length = cap' * 28) → ((((bls ++ [default]).set w nb).map Bl.val ++ rb').length = capb') → (nb.ok) → (nb.l = (bls.getD w default).l ++ [ns.length]) → QW E 246 [(0, v0), (1, v1), (5, .slice (some ⟨g', 0, none⟩) (ns.length + 1) cap'), (6, .slice (some ⟨gb', 0, none⟩) (bls.length + 1) capb'), (7, v7), (31, v31), (32, v32), (33, v33)] ((gb', blk (((bls ++ [default]).set w nb).map Bl.val ++ rb') 29) :: (g', blk (nms (ns ++ [x]) ++ r') 43) :: (blsH ((bls ++ [default]).set w nb) ++ F)) .normal Q) :
  CW Tryd.prog E 246 [(0, v0), (1, v1), (5, .slice (some ⟨g, 0, none⟩) ns.length cap), (6, .slice (some ⟨gb, 0, none⟩) bls.length capb), (7, v7), (11, pv b11), (17, nv w), (31, v31), (32, v32), (33, v33)] ((b11, blk x.cells 43) :: (g, blk (nms ns ++ r) 43) :: (gb, blk (bls.map Bl.val ++ rb) 29) :: (blsH bls ++ F)) (dig [1, 1, 1, 1, 0, 1, 2, 2, 1, 1, 0, 2, 1, 1, 1, 1, 1, 1, 1, 1] (bodyOf Tryd.f14)) Q := by
 refine CW_sr ?_
 refine RW_m ?_
 refine RW_h (Yh_loadAll (b := b11) (k := 28) (T := 43) (fz := (0, 0)) (l := x.cells) rfl ag_43 mem_ (Nm.length_cells _)) ?_
 refine RW_fx rfl rfl rfl (Fx_lit (vs := [.agg x.cells.toArray]) (css := [x.cells]) (cs := x.cells) sl_25 ze_43 rfl rfl rfl rfl rfl (by intro c hc; rw [List.mem_singleton.1 hc]; exact Nm.length_cells _) (by simp)) ?_
 rintro _ _ ⟨b45, rfl, rfl⟩
 refine RW_fx rfl rfl rfl (Fx_appTG (xs := nms ns) (r := r) (news := x.cells) (n := ns.length) (cap := cap) (m := 1) (c := 1) rfl rfl sl_25 by_43 ze_43 rfl rem_ rem_ hl (length_nms ns) (by rw [Nm.length_cells]) (Nm.one_cells _) om_ om_ om_) ?_
 rintro _ _ ⟨g', cap', r', rfl, hl', rfl⟩
 refine RW_a ?_
 refine RW_lv [0,1,5,6,7,17,31,32,33] ?_
 refine CW_sr ?_
 refine RW_m ?_
 refine RW_fx rfl rfl rfl (Fx_litS (vs := [.slice none 0 0]) sl_66 ze_29 rfl rfl rfl rfl rfl) ?_
 rintro _ _ ⟨b66, rfl, rfl⟩
 refine RW_fx rfl rfl rfl (Fx_appTG (xs := bls.map Bl.val) (r := rb) (news := [.slice none 0 0]) (n := bls.length) (cap := capb) (m := 1) (c := 1) rfl rfl sl_66 by_29 ze_29 rfl rem_ rem_ (by rw [hlb, Nat.mul_one]) (by simp) rfl (by intro u hu; rw [List.mem_singleton.1 hu]; rfl) om_ om_ om_) ?_
 rintro _ _ ⟨gb', capb', rb', rfl, hlb', rfl⟩
 refine RW_a ?_
 refine RW_lv [0,1,5,6,7,17,31,32,33] ?_
 obtain ⟨bls1, hb1⟩ : ∃ y, y = bls ++ [default] := ⟨_, rfl⟩
 have hb2 : bls.map Bl.val ++ [Value.slice none 0 0] = bls1.map Bl.val := by rw [hb1, List.map_append]; rfl
 have hb3 : blsH bls = blsH bls1 := by rw [hb1]; simp [blsH, List.flatMap_append, Bl.heap, default, instInhabitedBl]
 rw [hb2, hb3]
 rw [hb2] at hlb'
 have hlen1 : bls1.length = bls.length + 1 := by rw [hb1]; simp
 have hw1 : w < bls1.length := by omega
 have hg1 : bls1.getD w default = bls.getD w default := by rw [hb1]; simp [List.getD_eq_getElem?_getD, List.getElem?_append_left hw]
 have hok1 : (bls1.getD w default).ok := by rw [hg1]; exact hok
 have hbl1 : (bls1.getD w default).l.length ≤ 100 := by rw [hg1]; exact hbl
 have hns : nms ns ++ x.cells = nms (ns ++ [x]) := by simp [nms]
 rw [hns]
 rw [hns] at hl'
 refine CW_region ?_
 refine RW_m ?_
 refine RW_m ?_
 refine RW_m ?_
 refine RW_m ?_
 refine RW_l (Yl_indexN (b := gb') (off := 0) (i := w) (o' := w) rfl rfl sl_66 om_ om_) ?_
 refine RW_h (Yh_lh (v := (bls1.getD w default).val) sc_29 (bls_val bls1 _ w hw1)) ?_
 refine RW_m ?_
 refine RW_l (Yl_len rfl sl_25) ?_
 refine RW_l (Yl_sub (c := (ns.length : Int)) rfl rfl (by rw [wi64 om_ om_]; omega)) ?_
 refine RW_fx rfl rfl rfl (Fx_litS (vs := [nv ns.length]) sl_29 ze_3 rfl rfl rfl rfl rfl) ?_
 rintro _ _ ⟨b77, rfl, rfl⟩
 refine RW_heap ((bl_perm [(gb', blk (bls1.map Bl.val ++ rb') 29), (g', blk (nms (ns ++ [x]) ++ r') 43), (b11, blk x.cells 43)] F bls1 w hw1).cons _) ?_
 refine RW_fx (d := 178) rfl rfl rfl (Fx_appO (xs := nats (bls1.getD w default).l) (r := (bls1.getD w default).rest) (news := [nv ns.length]) (o := (bls1.getD w default).o) (n := (bls1.getD w default).l.length) (cap := (bls1.getD w default).cap) (m := 1) (c := 1) (z0 := .int .i64 0) (q := 1) rfl rfl sl_29 by_3 ze_3 rfl rfl (.here _ _) (.refl _) hok1 rfl (by intro u hu; rw [List.mem_singleton.1 hu]; rfl) om_ om_ om_ om_) ?_
 rintro _ _ ⟨g2, cap2, r2, rfl, ho2, rfl⟩
 simp only [List.cons_append, List.nil_append]
 refine RW_l (Yl_indexN (b := gb') (off := 0) (i := w) (o' := w) rfl rfl sl_66 om_ om_) ?_
 refine RW_fx0 rfl rfl (Fx_store (v := osl (some g2) ((bls1.getD w default).l.length + 1) cap2) (b := gb') (off := w) rfl rfl sz_29 rfl rep_ (by rw [List.length_append, List.length_map]; omega)) ?_
 rintro _ _ rfl
 refine RW_nil ?_
 obtain ⟨nb, hnb⟩ : ∃ y : Bl, y = ⟨(bls1.getD w default).l ++ [ns.length], some g2, cap2, r2⟩ := ⟨_, rfl⟩
 have hv : osl (some g2) ((bls1.getD w default).l.length + 1) cap2 = nb.val := by rw [hnb]; simp [Bl.val]
 rw [hv, bls_set bls1 _ w nb hw1]
 refine QW_dropB (e := (b11, _)) rem_ ?_
 have hh2 : [(g2, blk ((nats (bls1.getD w default).l ++ [nv ns.length]) ++ r2) 3)] = nb.heap := by rw [hnb]; simp [Bl.heap]
 refine QW_heap (H' := (gb', blk ((bls1.set w nb).map Bl.val ++ rb') 29) :: (g', blk (nms (ns ++ [x]) ++ r') 43) :: (blsH (bls1.set w nb) ++ F)) ?_ ?_
 ·have hp := bl_set [(gb', blk ((bls1.set w nb).map Bl.val ++ rb') 29), (g', blk (nms (ns ++ [x]) ++ r') 43)] F bls1 w nb hw1
  rw [← hh2] at hp
  exact hp
 have hz := hk g' cap' gb' capb' r' rb' nb hl'
 rw [← hb1] at hz
 refine QW_live (ks := [0, 1, 5, 6, 7, 31, 32, 33]) kp_ ?_
 exact hz (by rw [List.length_append, List.length_map, List.length_set]; rw [List.length_append, List.length_map, Nat.mul_one] at hlb'; exact hlb') (by rw [hnb]; exact ⟨by simpa using ho2.1, by simp⟩) (by rw [hnb, ← hg1])
theorem nodes_S {E : World} {Q : Exit → Act → World → Prop} {F : Heap} (hQ : QP Q) (o : Option Nat) (g cap m c N : Nat) (ns : List Nm) (r rest : List Value) (l : List Nat) {v0 v20 v181 v182 v183 : Value} (hN : ns.length = N) (hm : l.length = m) (hm1 : m ≤ 100) (ho : oOk o (nats l) rest m c 1) (hl : ∀ k ∈ l, k < N) (hns : N ≤ 100)
  (hk : ∀ l', (l'.Perm l) → CW Tryd.prog E 246 [(0, v0), (5, .slice (some ⟨g, 0, none⟩) N cap), (20, v20), (21, osl o m c), (181, v181), (182, v182), (183, v183)] (oH o (nats l' ++ rest) 3 ++ ((g, blk (nms ns ++ r) 43) :: F)) (dig [1, 1, 1, 1, 1, 0, 1, 2, 2, 1, 1, 0, 2, 1, 1] (bodyOf Tryd.f14)) Q) :
  CW Tryd.prog E 246 [(0, v0), (5, .slice (some ⟨g, 0, none⟩) N cap), (20, v20), (21, osl o m c), (181, v181), (182, v182), (183, v183)] (oH o (nats l ++ rest) 3 ++ ((g, blk (nms ns ++ r) 43) :: F)) (dig [1, 1, 1, 1, 1, 0, 1, 2, 2, 1, 1, 0, 2, 1] (bodyOf Tryd.f14)) Q := by
 refine CW_seq ?_
 refine CW_seq ?_
 obtain ⟨po, co, hpo⟩ : ∃ po co, osl o m c = .slice po m co := by
  cases o with
  | none => have h0 := ho.1; subst h0; exact ⟨none, 0, rfl⟩
  | some g => exact ⟨_, _, rfl⟩
 refine CW_region ?_
 refine RW_m ?_
 refine RW_l (Yl_len (congrArg some hpo) sl_29) ?_
 refine RW_m ?_
 refine RW_lv [0,5,20,21,181,182,183,189,190] ?_
 refine CW_block ?_
 refine CW_loop (σ := Nat × List Nat) (fun q => [(0, v0), (5, .slice (some ⟨g, 0, none⟩) N cap), (20, v20), (21, osl o m c), (181, v181), (182, v182), (183, v183), (189, nv m), (190, nv q.1)]) (fun q => oH o (nats q.2 ++ rest) 3 ++ ((g, blk (nms ns ++ r) 43) :: F)) (fun q => q.1 ≤ m ∧ q.2.Perm l) (fun q => m - q.1) (0, l) ⟨by simp, .refl _⟩ (Prm.nil _) kp_ ?_
 rintro ⟨j, l1⟩ ⟨hj, hp1⟩
 simp only at hj hp1 ⊢
 refine CW_sr ?_
 refine RW_l (Yl_lss rfl rfl) ?_
 refine RW_lv [0,5,20,21,181,182,183,189,190,191] ?_
 refine CW_seq ?_
 refine CW_cd rfl (fun hc1 => ?_) (fun hc1 => ?_)
 ·refine (CW_skip (QW_lv [0,5,20,21,181,182,183,189,190] ?_))
  refine CW_seq ?_
  refine CW_block ?_
  refine CW_sr ?_
  refine RW_m ?_
  refine RW_a ?_
  refine RW_lv [0,5,20,21,22,181,182,183,189,190] ?_
  refine CW_sr ?_
  refine RW_m ?_
  refine RW_a ?_
  refine RW_lv [0,5,20,21,23,181,182,183,189,190] ?_
  refine CW_block ?_
  obtain ⟨bo, rfl⟩ : ∃ bo, o = some bo := by
   cases o with
   | none => exact absurd ho.1 (by omega)
   | some bo => exact ⟨bo, rfl⟩
  refine CW_loop (σ := Nat × List Nat) (fun q => [(0, v0), (5, .slice (some ⟨g, 0, none⟩) N cap), (20, v20), (21, .slice (some ⟨bo, 0, none⟩) m c), (23, nv q.1), (181, v181), (182, v182), (183, v183), (189, nv m), (190, nv j)]) (fun q => (bo, blk (nats q.2 ++ rest) 3) :: (g, blk (nms ns ++ r) 43) :: F) (fun q => q.1 ≤ j ∧ q.2.Perm l) (fun q => q.1) (j, l1) ⟨Nat.le_refl _, hp1⟩ (Prm.nil _) kp_ ?_
  rintro ⟨q, l2⟩ ⟨hq, hp2⟩
  simp only at hq hp2 ⊢
  have hlen2 : l2.length = m := by rw [hp2.length_eq, hm]
  refine CW_seq ?_
  refine CW_seq ?_
  have hx1 : (l2.getD q 0) < N := hl _ (hp2.mem_iff.1 (getD_mem om_))
  have hy1 : (l2.getD q 0) < ns.length := by omega
  have hy2 : (l2.getD (q - 1) 0) < ns.length := by rw [hN]; exact hl _ (hp2.mem_iff.1 (getD_mem om_))
  have hx2 : (l2.getD (q - 1) 0) < N := hl _ (hp2.mem_iff.1 (getD_mem om_))
  refine CW_draw [] _ mixed (Sub.refl _) ?_
  refine RD_y (i := 0) rfl rfl rfl rfl kr_ (fun _ _ _ h => hQ _ _ _ _ _ h) (Yl_move rfl) ?_
  refine RD_y (i := 1) rfl rfl rfl rfl kr_ (fun _ _ _ h => hQ _ _ _ _ _ h) (Yl_gtr rfl rfl) ?_
  refine RD_y (i := 2) rfl rfl rfl rfl kr_ (fun _ _ _ h => hQ _ _ _ _ _ h) (Yl_move rfl) ?_
  refine RD_bool 196 rfl (fun hg2 => ?_) (fun hg2 => ?_)
  ·replace hg2 := of_decide_eq_true hg2
   refine RD_y (i := 3) rfl rfl rfl rfl kr_ (fun _ _ _ h => hQ _ _ _ _ _ h) (Yl_move rfl) ?_
   refine RD_y (i := 4) rfl rfl rfl rfl kr_ (fun _ _ _ h => hQ _ _ _ _ _ h) (Yl_move rfl) ?_
   refine RD_y (i := 5) rfl rfl rfl rfl kr_ (fun _ _ _ h => hQ _ _ _ _ _ h) (Yl_move rfl) ?_
   refine RD_y (i := 6) rfl rfl rfl rfl kr_ (fun _ _ _ h => hQ _ _ _ _ _ h) (Yl_indexN (b := bo) (off := 0) (i := q) (o' := q) rfl rfl sl_29 om_ om_) ?_
   refine RD_y (i := 11) rfl rfl rfl rfl kr_ (fun _ _ _ h => hQ _ _ _ _ _ h) (Yl_move rfl) ?_
   refine RD_y (i := 12) rfl rfl rfl rfl kr_ (fun _ _ _ h => hQ _ _ _ _ _ h) (Yl_move rfl) ?_
   refine RD_y (i := 13) rfl rfl rfl rfl kr_ (fun _ _ _ h => hQ _ _ _ _ _ h) (Yl_move rfl) ?_
   refine RD_y (i := 14) rfl rfl rfl rfl kr_ (fun _ _ _ h => hQ _ _ _ _ _ h) (Yl_sub (c := ((q - 1 : Nat) : Int)) rfl rfl (by rw [wi64 om_ om_]; omega)) ?_
   refine RD_y (i := 15) rfl rfl rfl rfl kr_ (fun _ _ _ h => hQ _ _ _ _ _ h) (Yl_indexN (b := bo) (off := 0) (i := (q - 1)) (o' := (q - 1)) rfl rfl sl_29 om_ om_) ?_
   refine RD_h (i := 7) #[true, true, true, true, true, true, true, false, false, false, false, true, true, true, true, true, true, true, true, true, false, false] rfl rfl rfl rfl kr_ (fun _ _ _ h => hQ _ _ _ _ _ h) (Yh_load (v := nv (l2.getD q 0)) rfl sc_3 mem_ (at_nats om_ rfl)) ?_
   refine RD_y (i := 8) rfl rfl rfl rfl kr_ (fun _ _ _ h => hQ _ _ _ _ _ h) (Yl_indexN (b := g) (off := 0) (i := (l2.getD q 0)) (o' := (l2.getD q 0) * 28) rfl rfl sl_25 hx1 om_) ?_
   refine RD_y (i := 9) rfl rfl rfl rfl kr_ (fun _ _ _ h => hQ _ _ _ _ _ h) (Yl_field rfl fo_43_0) ?_
   refine RD_h (i := 10) #[true, true, true, true, true, true, true, true, true, true, false, true, true, true, true, true, true, true, true, true, false, false] rfl rfl rfl rfl kr_ (fun _ _ _ h => hQ _ _ _ _ _ h) (Yh_lh (v := .string (bar (ns.getD (l2.getD q 0) default).nd.name)) sc_9 (at_name hy1 rfl)) ?_
   refine RD_h (i := 16) #[true, true, true, true, true, true, true, true, true, true, true, true, true, true, true, true, false, false, false, false, false, false] rfl rfl rfl rfl kr_ (fun _ _ _ h => hQ _ _ _ _ _ h) (Yh_load (v := nv (l2.getD (q - 1) 0)) rfl sc_3 mem_ (at_nats om_ rfl)) ?_
   refine RD_y (i := 17) rfl rfl rfl rfl kr_ (fun _ _ _ h => hQ _ _ _ _ _ h) (Yl_indexN (b := g) (off := 0) (i := (l2.getD (q - 1) 0)) (o' := (l2.getD (q - 1) 0) * 28) rfl rfl sl_25 hx2 om_) ?_
   refine RD_y (i := 18) rfl rfl rfl rfl kr_ (fun _ _ _ h => hQ _ _ _ _ _ h) (Yl_field rfl fo_43_0) ?_
   refine RD_h (i := 19) #[true, true, true, true, true, true, true, true, true, true, true, true, true, true, true, true, true, true, true, false, false, false] rfl rfl rfl rfl kr_ (fun _ _ _ h => hQ _ _ _ _ _ h) (Yh_lh (v := .string (bar (ns.getD (l2.getD (q - 1) 0) default).nd.name)) sc_9 (at_name hy2 rfl)) ?_
   refine RD_o 20 ?_
   refine RO_fx rfl rfl rfl rfl (Fx_callQ ok_22 (vs := [.string (bar (ns.getD (l2.getD q 0) default).nd.name), .string (bar (ns.getD (l2.getD (q - 1) 0) default).nd.name)]) (R := fun v => ∃ b, v = .bool b) rfl (Pick.nil _) (less_ct _ _)) ?_
   rintro _ _ ⟨⟨bb, rfl⟩, rfl⟩
   refine ⟨Or.inr (Sub.refl _), ?_⟩
   refine RD_y (i := 21) rfl rfl rfl rfl kr_ (fun _ _ _ h => hQ _ _ _ _ _ h) (Yl_pick_t rfl rfl) ?_
   refine (RD_done kr_ (QW_lv [0,5,20,21,23,181,182,183,189,190,215] ?_))
   refine CW_cond rfl (fun hc3 => ?_) (fun hc3 => ?_)
   ·skip
    refine (CW_skip (QW_lv [0,5,20,21,23,181,182,183,189,190] ?_))
    refine CW_seq ?_
    refine CW_block ?_
    have hpz := (swap_perm l2 (i := q) (j := q - 1) om_ om_).trans hp2
    refine CW_draw [15, 17] _ mixed (Sub.refl _) ?_
    refine RD_y (i := 0) rfl rfl rfl rfl kr_ (fun _ _ _ h => hQ _ _ _ _ _ h) (Yl_move rfl) ?_
    refine RD_y (i := 1) rfl rfl rfl rfl kr_ (fun _ _ _ h => hQ _ _ _ _ _ h) (Yl_move rfl) ?_
    refine RD_y (i := 2) rfl rfl rfl rfl kr_ (fun _ _ _ h => hQ _ _ _ _ _ h) (Yl_move rfl) ?_
    refine RD_y (i := 3) rfl rfl rfl rfl kr_ (fun _ _ _ h => hQ _ _ _ _ _ h) (Yl_move rfl) ?_
    refine RD_y (i := 4) rfl rfl rfl rfl kr_ (fun _ _ _ h => hQ _ _ _ _ _ h) (Yl_sub (c := ((q - 1 : Nat) : Int)) rfl rfl (by rw [wi64 om_ om_]; omega)) ?_
    refine RD_y (i := 5) rfl rfl rfl rfl kr_ (fun _ _ _ h => hQ _ _ _ _ _ h) (Yl_move rfl) ?_
    refine RD_y (i := 6) rfl rfl rfl rfl kr_ (fun _ _ _ h => hQ _ _ _ _ _ h) (Yl_move rfl) ?_
    refine RD_y (i := 7) rfl rfl rfl rfl kr_ (fun _ _ _ h => hQ _ _ _ _ _ h) (Yl_sub (c := ((q - 1 : Nat) : Int)) rfl rfl (by rw [wi64 om_ om_]; omega)) ?_
    refine RD_y (i := 8) rfl rfl rfl rfl kr_ (fun _ _ _ h => hQ _ _ _ _ _ h) (Yl_indexN (b := bo) (off := 0) (i := (q - 1)) (o' := (q - 1)) rfl rfl sl_29 om_ om_) ?_
    refine RD_y (i := 10) rfl rfl rfl rfl kr_ (fun _ _ _ h => hQ _ _ _ _ _ h) (Yl_move rfl) ?_
    refine RD_y (i := 11) rfl rfl rfl rfl kr_ (fun _ _ _ h => hQ _ _ _ _ _ h) (Yl_move rfl) ?_
    refine RD_y (i := 12) rfl rfl rfl rfl kr_ (fun _ _ _ h => hQ _ _ _ _ _ h) (Yl_indexN (b := bo) (off := 0) (i := q) (o' := q) rfl rfl sl_29 om_ om_) ?_
    refine RD_h (i := 9) #[true, true, true, true, true, true, true, true, true, false, true, true, true, true, false, false, false, false] rfl rfl rfl rfl kr_ (fun _ _ _ h => hQ _ _ _ _ _ h) (Yh_load (v := nv (l2.getD (q - 1) 0)) rfl sc_3 mem_ (at_nats om_ rfl)) ?_
    refine RD_h (i := 13) #[true, true, true, true, true, true, true, true, true, true, true, true, true, false, false, false, false, false] rfl rfl rfl rfl kr_ (fun _ _ _ h => hQ _ _ _ _ _ h) (Yh_load (v := nv (l2.getD q 0)) rfl sc_3 mem_ (at_nats om_ rfl)) ?_
    refine RD_y (i := 14) rfl rfl rfl rfl kr_ (fun _ _ _ h => hQ _ _ _ _ _ h) (Yl_indexN (b := bo) (off := 0) (i := q) (o' := q) rfl rfl sl_29 om_ om_) ?_
    refine RD_o 15 ?_
    refine RO_fx0 rfl rfl rfl (Fx_store (v := nv (l2.getD (q - 1) 0)) (b := bo) (off := q) rfl rfl sz_3 rfl rep_ (by simp; omega)) ?_
    rintro _ _ rfl
    refine ⟨Or.inl kr_, ?_⟩
    refine RD_y (i := 16) rfl rfl rfl rfl kr_ (fun _ _ _ h => hQ _ _ _ _ _ h) (Yl_indexN (b := bo) (off := 0) (i := (q - 1)) (o' := (q - 1)) rfl rfl sl_29 om_ om_) ?_
    refine RD_o 17 ?_
    refine RO_fx0 rfl rfl rfl (Fx_store (v := nv (l2.getD q 0)) (b := bo) (off := q - 1) rfl rfl sz_3 rfl rep_ (by simp; omega)) ?_
    rintro _ _ rfl
    refine ⟨Or.inl kr_, ?_⟩
    refine RD_done kr_ ?_
    refine QW_normal_block ?_
    refine (QW_lv [0,5,20,21,23,181,182,183,189,190] ?_)
    first
     | rw [nats_set l2 rest q (l2.getD (q - 1) 0) (by omega), nats_set (l2.set q (l2.getD (q - 1) 0)) rest (q - 1) (l2.getD q 0) (by rw [List.length_set]; omega)]
     | rw [nats_set l2 rest (q - 1) (l2.getD q 0) (by omega), nats_set (l2.set (q - 1) (l2.getD q 0)) rest q (l2.getD (q - 1) 0) (by rw [List.length_set]; omega), List.set_comm (l2.getD q 0) (l2.getD (q - 1) 0) (show q - 1 ≠ q by omega)]
    refine CW_region ?_
    refine RW_m ?_
    refine RW_l (Yl_sub (c := ((q - 1 : Nat) : Int)) rfl rfl (by rw [wi64 om_ om_]; omega)) ?_
    refine RW_a ?_
    refine RW_nil ?_
    first
     | exact QW_round (q - 1, (l2.set q (l2.getD (q - 1) 0)).set (q - 1) (l2.getD q 0)) ⟨by simp only; omega, hpz⟩ (by simp only; omega) (Prm.nil _) (.cons rfl (.cons rfl (.cons rfl (.cons rfl (.cons rfl (.cons rfl (.cons rfl (.cons rfl (.cons rfl (.cons rfl .nil))))))))))
     | (rw [List.set_comm (l2.getD q 0) (l2.getD (q - 1) 0) (show q - 1 ≠ q by omega)]; exact QW_round (q - 1, (l2.set q (l2.getD (q - 1) 0)).set (q - 1) (l2.getD q 0)) ⟨by simp only; omega, hpz⟩ (by simp only; omega) (Prm.nil _) (.cons rfl (.cons rfl (.cons rfl (.cons rfl (.cons rfl (.cons rfl (.cons rfl (.cons rfl (.cons rfl (.cons rfl .nil)))))))))))
   skip
   refine CW_exit ?_
   refine QW_exit_then ?_
   refine QW_exit_then ?_
   refine QW_exit_block ?_
   refine QW_normal_block ?_
   refine (QW_lv [0,5,20,21,181,182,183,189,190] ?_)
   refine CW_region ?_
   refine RW_l (Yl_add (c := ((j + 1 : Nat) : Int)) rfl rfl (wi64 om_ om_)) ?_
   refine RW_m ?_
   refine RW_nil ?_
   exact QW_round (j + 1, l2) ⟨by simp only; omega, hp2⟩ (by simp only; omega) (Prm.nil _) kp_
  replace hg2 := of_decide_eq_false hg2
  refine RD_skip (i := 3) rfl rfl rfl rfl kr_ (fun _ _ _ h => hQ _ _ _ _ _ h) ?_
  refine RD_skip (i := 4) rfl rfl rfl rfl kr_ (fun _ _ _ h => hQ _ _ _ _ _ h) ?_
  refine RD_skip (i := 5) rfl rfl rfl rfl kr_ (fun _ _ _ h => hQ _ _ _ _ _ h) ?_
  refine RD_skip (i := 6) rfl rfl rfl rfl kr_ (fun _ _ _ h => hQ _ _ _ _ _ h) ?_
  refine RD_skip (i := 7) rfl rfl rfl rfl kr_ (fun _ _ _ h => hQ _ _ _ _ _ h) ?_
  refine RD_skip (i := 8) rfl rfl rfl rfl kr_ (fun _ _ _ h => hQ _ _ _ _ _ h) ?_
  refine RD_skip (i := 9) rfl rfl rfl rfl kr_ (fun _ _ _ h => hQ _ _ _ _ _ h) ?_
  refine RD_skip (i := 10) rfl rfl rfl rfl kr_ (fun _ _ _ h => hQ _ _ _ _ _ h) ?_
  refine RD_skip (i := 11) rfl rfl rfl rfl kr_ (fun _ _ _ h => hQ _ _ _ _ _ h) ?_
  refine RD_skip (i := 12) rfl rfl rfl rfl kr_ (fun _ _ _ h => hQ _ _ _ _ _ h) ?_
  refine RD_skip (i := 13) rfl rfl rfl rfl kr_ (fun _ _ _ h => hQ _ _ _ _ _ h) ?_
  refine RD_skip (i := 14) rfl rfl rfl rfl kr_ (fun _ _ _ h => hQ _ _ _ _ _ h) ?_
  refine RD_skip (i := 15) rfl rfl rfl rfl kr_ (fun _ _ _ h => hQ _ _ _ _ _ h) ?_
  refine RD_skip (i := 16) rfl rfl rfl rfl kr_ (fun _ _ _ h => hQ _ _ _ _ _ h) ?_
  refine RD_skip (i := 17) rfl rfl rfl rfl kr_ (fun _ _ _ h => hQ _ _ _ _ _ h) ?_
  refine RD_skip (i := 18) rfl rfl rfl rfl kr_ (fun _ _ _ h => hQ _ _ _ _ _ h) ?_
  refine RD_skip (i := 19) rfl rfl rfl rfl kr_ (fun _ _ _ h => hQ _ _ _ _ _ h) ?_
  refine RD_skip (i := 20) rfl rfl rfl rfl kr_ (fun _ _ _ h => hQ _ _ _ _ _ h) ?_
  refine RD_y (i := 21) rfl rfl rfl rfl kr_ (fun _ _ _ h => hQ _ _ _ _ _ h) (Yl_pick_f rfl rfl) ?_
  refine (RD_done kr_ (QW_lv [0,5,20,21,23,181,182,183,189,190,215] ?_))
  refine CW_false rfl ?_
  refine CW_exit ?_
  refine QW_exit_then ?_
  refine QW_exit_then ?_
  refine QW_exit_block ?_
  refine QW_normal_block ?_
  refine (QW_lv [0,5,20,21,181,182,183,189,190] ?_)
  refine CW_region ?_
  refine RW_l (Yl_add (c := ((j + 1 : Nat) : Int)) rfl rfl (wi64 om_ om_)) ?_
  refine RW_m ?_
  refine RW_nil ?_
  exact QW_round (j + 1, l2) ⟨by simp only; omega, hp2⟩ (by simp only; omega) (Prm.nil _) kp_
 refine CW_exit ?_
 refine QW_exit_then ?_
 refine QW_exit_then ?_
 refine QW_exit_block ?_
 refine (QW_lv [0,5,20,21,181,182,183] ?_)
 exact hk l1 hp1

theorem list_set_self {α : Type} : ∀ (l : List α) (k : Nat) (x : α), l[k]? = some x → l.set k x = l := by
  intro l k x h
  apply List.ext_getElem?
  intro j
  rw [List.getElem?_set]
  split
  · rename_i e; subst e
    split
    · exact h.symm
    rename_i hz; rw [List.getElem?_eq_none om_] at h; cases h
  rfl
theorem Nm.turn_self (x : Nm) : x.turn x.nd.left x.nd.right x.nd.child = x := by cases x; rfl
theorem shape_any (g cl nN cN : Nat) (pN : Option Addr) (r rest : List Value) (D : Heap) (hnum : NumOk D pN nN) (hnN : nN ≤ 1000000000) (ns : List Nm) (l : List Nat) (o : Option Nat) (m c : Nat) (at_ : Nat)
    (hlm : l.length = m) (hm : m ≤ 20) (ho : oOk o (nats l) rest m c 1) (hnd : l.Nodup) (hl : ∀ k ∈ l, k < ns.length) (hns : ns.length ≤ 100) (hat : at_ ≤ 100) :
    Ct Tryd.prog 23 [.slice (some ⟨g, 0, none⟩) ns.length cl, osl o m c, .slice pN nN cN, nv at_] ((g, blk (nms ns ++ r) 43) :: (oH o (nats l ++ rest) 3 ++ D))
      (fun v q => ∃ ns' top, v = iv top ∧ Shp ns ns' l top ∧ q = (g, blk (nms ns' ++ r) 43) :: (oH o (nats l ++ rest) 3 ++ D)) := by
  cases o with
  | none =>
    have h0 := ho.1
    subst h0
    obtain rfl := List.eq_nil_of_length_eq_zero hlm
    refine ((shaped0_ct _ _ _ _ _).frame (G := (g, blk (nms ns ++ r) 43) :: D)).mono ?_
    rintro v q ⟨post, ⟨rfl, rfl⟩, rfl⟩
    exact ⟨ns, -1, rfl, Shp.nil ns, rfl⟩
  | some bp =>
    have h1 := ho.1
    rw [List.length_append, List.length_map, hlm, Nat.mul_one] at h1
    have hB : (at_ + 2) * 2 ^ m ≤ 1000000000000 := by
      have : 2 ^ m ≤ 2 ^ 20 := Nat.pow_le_pow_right om_ hm
      calc (at_ + 2) * 2 ^ m ≤ 102 * 2 ^ 20 := Nat.mul_le_mul om_ this
        _ ≤ 1000000000000 := by decide
    refine (shaped_ct g cl bp nN cN pN r (nats l ++ rest) D hnum hnN m ns l (some ⟨bp, 0, none⟩) m c at_ hlm (Nat.le_refl _) om_ hnd hl hns hB (.inr ⟨0, rfl, fun i hi => ?_⟩)).mono ?_
    · exact at_nats om_ om_
    rintro v q ⟨ns', top, rfl, hs, rfl⟩
    exact ⟨ns', top, rfl, hs, rfl⟩
structure LI (n : Nat) (ns : List Nm) (bls : List Bl) (par : Nat → Nat) (i : Nat) (ms : List Nm) (cs : List Bl) : Prop where
  ile : i ≤ n
  len : ms.length = n
  blen : cs.length = n
  ok : ∀ b ∈ cs, b.ok
  val : cs.map Bl.val = bls.map Bl.val
  pl : PL n (fun p => (cs.getD p default).l) par
  turned : ∀ k, ∃ l r c, ms.getD k default = (ns.getD k default).turn l r c
  tree : ∀ p, p < i → STree (lfF ms) (rtF ms) (cs.getD p default).l (chdF ms p)
  root : lfF ms 0 = -1 ∧ rtF ms 0 = -1
theorem LI.first {n : Nat} {ns : List Nm} {bls : List Bl} {par : Nat → Nat} (h1 : ns.length = n) (h2 : bls.length = n) (hok : ∀ b ∈ bls, b.ok) (hpl : PL n (fun p => (bls.getD p default).l) par) (hr : lfF ns 0 = -1 ∧ rtF ns 0 = -1) : LI n ns bls par 0 ns bls :=
  ⟨by omega, h1, h2, hok, rfl, hpl, fun k => ⟨_, _, _, (Nm.turn_self _).symm⟩, fun p hp => by omega, hr⟩
theorem LI.step {n i : Nat} {ns ms m2 : List Nm} {bls cs : List Bl} {par : Nat → Nat} {b : Bl} {l1 : List Nat} {top : Int} (h : LI n ns bls par i ms cs) (hi : i < n) (hb : cs.getD i default = b) (hp : l1.Perm b.l) (hs : Shp ms m2 l1 top) :
    LI n ns bls par (i + 1) (m2.set i ((m2.getD i default).turn (lfF m2 i) (rtF m2 i) top)) (cs.set i { b with l := l1 }) := by
  have hl2 : m2.length = n := by rw [hs.len, h.len]
  have hlen1 : l1.length = b.l.length := hp.length_eq
  have hbm : b ∈ cs := by
    rw [← hb, List.getD_eq_getElem?_getD, List.getElem?_eq_getElem (by rw [h.blen]; exact hi)]; exact List.getElem_mem _
  have hbok := h.ok b hbm
  obtain ⟨m3, e3⟩ : ∃ x, x = m2.set i ((m2.getD i default).turn (lfF m2 i) (rtF m2 i) top) := ⟨_, rfl⟩
  have g3 : ∀ k, m3.getD k default = if i = k then (m2.getD i default).turn (lfF m2 i) (rtF m2 i) top else m2.getD k default := fun k => by rw [e3]; exact getD_setN _ _ _ _ om_
  have gc : ∀ p, (cs.set i { b with l := l1 }).getD p default = if i = p then { b with l := l1 } else cs.getD p default := fun p => bl_getD_set _ _ _ _ (by rw [h.blen]; exact hi)
  have eL : ∀ k, lfF m3 k = lfF m2 k := by
    intro k; unfold lfF; rw [g3]; split
    · rename_i e; subst e; rfl
    rfl
  have eR : ∀ k, rtF m3 k = rtF m2 k := by
    intro k; unfold rtF; rw [g3]; split
    · rename_i e; subst e; rfl
    rfl
  have eC : ∀ k, i ≠ k → chdF m3 k = chdF m2 k := by
    intro k hk; unfold chdF; rw [g3, if_neg hk]
  have c2 : ∀ k, chdF m2 k = chdF ms k := by
    intro k
    by_cases hk : k ∈ l1
    · obtain ⟨l, r, e⟩ := hs.on k hk
      unfold chdF; rw [e]; rfl
    unfold chdF; rw [hs.off k hk]
  have hin : ∀ k, k ∈ l1 ↔ 1 ≤ k ∧ k < n ∧ par k = i := by
    intro k
    rw [hp.mem_iff, ← hb]; exact h.pl.mem i k
  have hval : Bl.val { b with l := l1 } = b.val := by
    unfold Bl.val; rw [hlen1]
  rw [← e3]
  refine ⟨by omega, by rw [e3, List.length_set]; exact hl2, by rw [List.length_set]; exact h.blen, ?_, ?_, ?_, ?_, ?_, ?_⟩
  · intro x hx
    rcases List.mem_or_eq_of_mem_set hx with hx | rfl
    · exact h.ok x hx
    unfold Bl.ok oOk at hbok ⊢
    simp only at hbok ⊢
    cases hbo : b.o with
    | none =>
      rw [hbo] at hbok
      simp only at hbok ⊢
      have h0 := hbok.1
      have : l1 = [] := List.eq_nil_of_length_eq_zero om_
      rw [this]; exact ⟨rfl, rfl⟩
    | some g =>
      rw [hbo] at hbok
      simp only [List.length_append, List.length_map] at hbok ⊢
      omega
  · rw [List.map_set, hval, ← h.val]
    have h1 : (cs.map Bl.val)[i]? = some b.val := by
      rw [List.getElem?_map, List.getElem?_eq_getElem (by rw [h.blen]; exact hi)]
      rw [← hb, List.getD_eq_getElem?_getD, List.getElem?_eq_getElem (by rw [h.blen]; exact hi)]; rfl
    exact list_set_self _ _ _ h1
  · refine h.pl.perm (fun p => ?_)
    show ((cs.set i { b with l := l1 }).getD p default).l.Perm _
    rw [gc]
    split
    · rename_i e; subst e; rw [hb]; exact hp
    exact .refl _
  · intro k
    obtain ⟨l, r, c, e⟩ := h.turned k
    have h2 : ∃ l r c, m2.getD k default = (ns.getD k default).turn l r c := by
      by_cases hk : k ∈ l1
      · obtain ⟨l2, r2, e2⟩ := hs.on k hk
        exact ⟨l2, r2, chdF ms k, by rw [e2, e]; rfl⟩
      exact ⟨l, r, c, by rw [hs.off k hk, e]⟩
    obtain ⟨l2, r2, c3, e2⟩ := h2
    by_cases hk : i = k
    · subst hk
      exact ⟨_, _, _, by rw [g3, if_pos rfl, e2]; rfl⟩
    exact ⟨l2, r2, c3, by rw [g3, if_neg hk, e2]⟩
  · intro p hpi
    show STree _ _ ((cs.set i { b with l := l1 }).getD p default).l _
    rw [gc]
    by_cases hpe : i = p
    · subst hpe
      rw [if_pos rfl]
      have e : chdF m3 i = top := by unfold chdF; rw [g3, if_pos rfl]; rfl
      rw [e]
      exact hs.tree.congr (fun k _ => eL k) (fun k _ => eR k)
    rw [if_neg hpe, eC p hpe, c2]
    refine (h.tree p om_).congr (fun k hk => ?_) (fun k hk => ?_)
    · have h1 := (h.pl.mem p k).1 hk
      have h2 : k ∉ l1 := fun hx => hpe (by have := (hin k).1 hx; omega)
      rw [eL]; unfold lfF; rw [hs.off k h2]
    have h1 := (h.pl.mem p k).1 hk
    have h2 : k ∉ l1 := fun hx => hpe (by have := (hin k).1 hx; omega)
    rw [eR]; unfold rtF; rw [hs.off k h2]
  have h0 : 0 ∉ l1 := fun hx => by have := (hin 0).1 hx; omega
  rw [eL, eR]
  unfold lfF rtF
  rw [hs.off 0 h0]
  exact h.root
structure Lnk (ns : List Nm) (ls : Nat → List Nat) (par : Nat → Nat) : Prop where
  pl : PL ns.length ls par
  tree : ∀ p, p < ns.length → STree (lfF ns) (rtF ns) (ls p) (chdF ns p)
  root : lfF ns 0 = -1 ∧ rtF ns 0 = -1
theorem LI.last {n : Nat} {ns ms : List Nm} {bls cs : List Bl} {par : Nat → Nat} (h : LI n ns bls par n ms cs) : Lnk ms (fun p => (cs.getD p default).l) par :=
  ⟨by rw [h.len]; exact h.pl, fun p hp => h.tree p (by rw [← h.len]; exact hp), h.root⟩
theorem oOk_same {o : Option Nat} {l l1 : List Nat} {r : List Value} {n c : Nat} (h : oOk o (nats l) r n c 1) (e : l1.length = l.length) : oOk o (nats l1) r n c 1 := by
  cases o with
  | none =>
    have h0 := h.1
    have h1 : l = [] := by have := h.2; cases l with
      | nil => rfl
      | cons a r => cases this
    subst h1
    have : l1 = [] := List.eq_nil_of_length_eq_zero e
    subst this
    exact h
  | some g =>
    have h1 := h.1
    have h2 := h.2
    refine ⟨?_, ?_⟩
    · simp only [List.length_append, List.length_map] at h1 ⊢; omega
    simp only [List.length_map] at h2 ⊢; omega
theorem Yl_minC {P : Program} {L : Fra} {dst : Option Tmp} {ty : TypeId} {pos : String} {aft : Array Edge} {gd : Option (Nat × Bool)} {x y : Operand} {k : IntKind} {m n c : Int} {ts : Array TypeId} (hx : ev L x = some (.int k m)) (hy : ev L y = some (.int k n)) (hc : (if n < m then n else m) = c) :
    Yl P L ⟨dst, .call ⟨.builtin .min, #[x, y], ts⟩, ty, pos, aft, gd⟩ (.int k c) := by rw [← hc]; exact Yl_min hx hy
theorem Yl_cutHP {P : Program} {L : Fra} {dst : Option Tmp} {ty : TypeId} {pos : String} {aft : Array Edge} {gd : Option (Nat × Bool)} {x z : Operand} {t e : TypeId} {sz m c h : Nat} {p : Option Addr} {j : IntKind} (hx : ev L x = some (.slice p m c)) (hz : ev L z = some (.int j (h : Int)))
    (ht : slOf P t = some (e, sz)) (h2 : h ≤ c) : Yl P L ⟨dst, .slice t x none (some z) none, ty, pos, aft, gd⟩ (.slice (cutAt p c 0 sz) h c) := by
  have := Yl_cutH (P := P) (dst := dst) (ty := ty) (pos := pos) (aft := aft) (gd := gd) hx hz ht om_ om_
  simp only [Int.toNat_natCast] at this
  exact this
def rootNm : Nm := mkNm [82, 111, 111, 116, 32, 69, 110, 116, 114, 121] false 0 0
structure NI (N k : Nat) (ns : List Nm) (cap : Nat) (r : List Value) (bls : List Bl) (capb : Nat) (rb : List Value) (at_ : Nat) : Prop where
  kle : k ≤ N
  len : ns.length = k + 1
  blen : bls.length = k + 1
  fit : (nms ns ++ r).length = cap * 28
  bfit : (bls.map Bl.val ++ rb).length = capb
  ok : ∀ b ∈ bls, b.ok
  pl : ∃ par, PL (k + 1) (fun p => (bls.getD p default).l) par
  root : ns.getD 0 default = rootNm
  made : ∀ j, 1 ≤ j → j < k + 1 → Made (ns.getD j default)
  at_ : at_ ≤ 9000 * k
theorem NI.first (N : Nat) : NI N 0 [rootNm] 1 [] [default] 1 [] 0 :=
  ⟨by omega, rfl, rfl, by rw [List.append_nil, length_nms]; rfl, rfl, by intro b hb; rw [List.mem_singleton.1 hb]; exact ⟨rfl, rfl⟩, ⟨_, PL.one (fun p => by cases p <;> rfl)⟩, rfl, fun j h1 h2 => by omega, by omega⟩
theorem NI.bl {N k : Nat} {ns : List Nm} {cap : Nat} {r : List Value} {bls : List Bl} {capb : Nat} {rb : List Value} {at_ : Nat} (h : NI N k ns cap r bls capb rb at_) (w : Nat) : (bls.getD w default).l.length ≤ k + 1 ∧ (w < bls.length → (bls.getD w default).ok) := by
  obtain ⟨par, hp⟩ := h.pl
  refine ⟨hp.len w, fun hw => h.ok _ ?_⟩
  rw [List.getD_eq_getElem?_getD, List.getElem?_eq_getElem hw]; exact List.getElem_mem _
theorem NI.add {N k : Nat} {ns : List Nm} {cap : Nat} {r : List Value} {bls : List Bl} {capb : Nat} {rb : List Value} {at_ cap' capb' at2 w : Nat} {r' rb' : List Value} {y : Nm} {nb : Bl} (h : NI N k ns cap r bls capb rb at_) (hk : k < N) (hw : w < ns.length) (hy : Made y)
    (hl : (nms (ns ++ [y]) ++ r').length = cap' * 28) (hb : (((bls ++ [default]).set w nb).map Bl.val ++ rb').length = capb') (hnb : nb.ok) (hnl : nb.l = (bls.getD w default).l ++ [ns.length]) (hat : at2 ≤ at_ + 9000) :
    NI N (k + 1) (ns ++ [y]) cap' r' ((bls ++ [default]).set w nb) capb' rb' at2 := by
  have hlen := h.len
  have hblen := h.blen
  have hg : ∀ p, (bls ++ [default]).getD p default = bls.getD p default := by
    intro p
    simp only [List.getD_eq_getElem?_getD, List.getElem?_append]
    split
    · rfl
    rename_i hp
    rw [List.getElem?_eq_none (show bls.length ≤ p by omega)]
    cases hpe : p - bls.length with
    | zero => rfl
    | succ n => rfl
  have hw2 : w < (bls ++ [default]).length := by simp; omega
  refine ⟨by omega, by simp [hlen], by simp [hblen], hl, hb, ?_, ?_, ?_, ?_, by have := h.at_; omega⟩
  · intro b hb
    rcases List.mem_or_eq_of_mem_set hb with hb | rfl
    · rcases List.mem_append.1 hb with hb | hb
      · exact h.ok b hb
      rw [List.mem_singleton.1 hb]; exact ⟨rfl, rfl⟩
    exact hnb
  · obtain ⟨par, hp⟩ := h.pl
    refine ⟨_, hp.add om_ (w := w) om_ (fun p => ?_)⟩
    rw [bl_getD_set _ _ _ _ hw2]
    by_cases e : p = w
    · subst e
      rw [if_pos rfl, if_pos rfl, hnl, hlen]
    rw [if_neg (fun x => e x.symm), if_neg e, hg]
  · rw [List.getD_eq_getElem?_getD, List.getElem?_append_left om_, ← List.getD_eq_getElem?_getD]; exact h.root
  intro j h1 h2
  by_cases hj : j = ns.length
  · subst hj
    simpa [List.getD_eq_getElem?_getD] using hy
  rw [List.getD_eq_getElem?_getD, List.getElem?_append_left om_, ← List.getD_eq_getElem?_getD]
  exact h.made j h1 om_
structure NodesOk (ns : List Nm) : Prop where
  len : 1 ≤ ns.length ∧ ns.length ≤ 20
  root : ∃ c, ns.getD 0 default = rootNm.turn (-1) (-1) c
  made : ∀ k, 1 ≤ k → k < ns.length → ∃ y l r c, Made y ∧ ns.getD k default = y.turn l r c
  lnk : ∃ ls par, Lnk ns ls par
theorem NI.first_link {N k : Nat} {ns : List Nm} {cap : Nat} {r : List Value} {bls : List Bl} {capb : Nat} {rb : List Value} {at_ : Nat} (h : NI N k ns cap r bls capb rb at_) : ∃ par, LI (k + 1) ns bls par 0 ns bls := by
  obtain ⟨par, hp⟩ := h.pl
  refine ⟨par, LI.first h.len h.blen h.ok hp ?_⟩
  unfold lfF rtF
  rw [h.root]
  exact ⟨rfl, rfl⟩
theorem NI.nodes {N k : Nat} {ns ms : List Nm} {cap : Nat} {r : List Value} {bls cs : List Bl} {capb : Nat} {rb : List Value} {at_ : Nat} {par : Nat → Nat} (h : NI N k ns cap r bls capb rb at_) (hN : N ≤ 19) (hL : LI (k + 1) ns bls par (k + 1) ms cs) : NodesOk ms := by
  have hlk := hL.last
  have hk := h.kle
  refine ⟨by rw [hL.len]; omega, ?_, ?_, _, _, hlk⟩
  · obtain ⟨l, r, c, e⟩ := hL.turned 0
    have h1 := hL.root
    unfold lfF rtF at h1
    rw [e] at h1
    rw [h.root] at e
    have h2 : l = -1 := h1.1
    have h3 : r = -1 := h1.2
    subst h2; subst h3
    exact ⟨c, e⟩
  intro j h1 h2
  obtain ⟨l, r, c, e⟩ := hL.turned j
  exact ⟨_, l, r, c, h.made j h1 (by rw [← hL.len]; exact h2), e⟩
theorem nmsH_congr : ∀ (a b : List Nm), a.length = b.length → (∀ k, (a.getD k default).heap = (b.getD k default).heap) → nmsH a = nmsH b := by
  intro a
  induction a with
  | nil =>
    intro b h _
    cases b with
    | nil => rfl
    | cons x r => simp at h
  | cons x r ih =>
    intro b h hk
    cases b with
    | nil => simp at h
    | cons y s =>
      have h0 := hk 0
      simp only [List.getD_cons_zero] at h0
      simp only [nmsH, List.flatMap_cons]
      rw [h0]
      congr 1
      exact ih s (by simpa using h) (fun k => by have := hk (k + 1); simpa using this)
theorem LI.heap {n i : Nat} {ns ms : List Nm} {bls cs : List Bl} {par : Nat → Nat} (h : LI n ns bls par i ms cs) (hn : ns.length = n) : nmsH ms = nmsH ns := by
  refine nmsH_congr _ _ (by rw [h.len, hn]) (fun k => ?_)
  obtain ⟨l, r, c, e⟩ := h.turned k
  rw [e]; rfl

theorem nodes_T {E : World} {Q : Exit → Act → World → Prop} {F : Heap} (hQ : QP Q) (g cap gb capb n nN cN : Nat) (pN : Option Addr) (ns : List Nm) (bls : List Bl) (r rb : List Value) (par : Nat → Nat)  (hN : NumOk F pN nN) (hnN : nN ≤ 1000000000) (hn : 1 ≤ n ∧ n ≤ 20) (h0 : LI n ns bls par 0 ns bls)
  (hk : ∀ ms cs, (LI n ns bls par n ms cs) → CW Tryd.prog E 246 [(5, .slice (some ⟨g, 0, none⟩) n cap)] ((g, blk (nms ms ++ r) 43) :: F) (dig [1, 1, 1, 1, 1, 1] (bodyOf Tryd.f14)) Q) :
  CW Tryd.prog E 246 [(0, .slice pN nN cN), (5, .slice (some ⟨g, 0, none⟩) n cap), (6, .slice (some ⟨gb, 0, none⟩) n capb)] ((g, blk (nms ns ++ r) 43) :: (gb, blk (bls.map Bl.val ++ rb) 29) :: (blsH bls ++ F)) (dig [1, 1, 1, 1, 1] (bodyOf Tryd.f14)) Q := by
 refine CW_seq ?_
 refine CW_sr ?_
 refine RW_m ?_
 refine RW_l (Yl_len rfl sl_66) ?_
 refine RW_m ?_
 refine RW_lv [0,5,181,182,183] ?_
 refine CW_block ?_
 refine CW_loop (σ := Nat × List Nm × List Bl) (fun q => [(0, .slice pN nN cN), (5, .slice (some ⟨g, 0, none⟩) n cap), (181, .slice (some ⟨gb, 0, none⟩) n capb), (182, nv n), (183, nv q.1)]) (fun q => (g, blk (nms q.2.1 ++ r) 43) :: (gb, blk (bls.map Bl.val ++ rb) 29) :: (blsH q.2.2 ++ F)) (fun q => LI n ns bls par q.1 q.2.1 q.2.2) (fun q => n - q.1) (0, ns, bls) h0 (Prm.nil _) kp_ ?_
 rintro ⟨i, ms, cs⟩ hI
 simp only at hI ⊢
 have hile := hI.ile
 have hmlen := hI.len
 have hclen := hI.blen
 refine CW_sr ?_
 refine RW_l (Yl_lss rfl rfl) ?_
 refine RW_lv [0,5,181,182,183,184] ?_
 refine CW_seq ?_
 refine CW_cd rfl (fun hc1 => ?_) (fun hc1 => ?_)
 ·refine (CW_skip (QW_lv [0,5,181,182,183] ?_))
  refine CW_seq ?_
  refine CW_block ?_
  refine CW_sr ?_
  refine RW_m ?_
  refine RW_l (Yl_indexN (b := gb) (off := 0) (i := i) (o' := i) rfl rfl sl_66 om_ om_) ?_
  refine RW_h (Yh_load (v := (cs.getD i default).val) rfl sc_29 mem_ (by rw [← hI.val]; exact bls_val cs rb i om_)) ?_
  refine RW_a ?_
  refine RW_a ?_
  refine RW_lv [0,5,20,21,181,182,183] ?_
  obtain ⟨b, hb⟩ : ∃ b, cs.getD i default = b := ⟨_, rfl⟩
  have hbm : b ∈ cs := by rw [← hb, List.getD_eq_getElem?_getD, List.getElem?_eq_getElem om_]; exact List.getElem_mem _
  have hbok : b.ok := hI.ok b hbm
  have hin : ∀ k, k ∈ b.l ↔ 1 ≤ k ∧ k < n ∧ par k = i := by intro k; rw [← hb]; exact hI.pl.mem i k
  have hnd : b.l.Nodup := by rw [← hb]; exact hI.pl.nd i
  have hblen : b.l.length ≤ n := by rw [← hb]; exact hI.pl.len i
  refine CW_heap (bl_perm [(g, blk (nms ms ++ r) 43), (gb, blk (bls.map Bl.val ++ rb) 29)] F cs i om_) ?_
  rw [hb]
  refine nodes_S (F := ((gb, blk (bls.map Bl.val ++ rb) 29) :: (blsH (cs.eraseIdx i) ++ F))) (by intro c a d v w h; exact hQ c a d v w h) b.o g cap b.l.length b.cap n ms r b.rest b.l hmlen rfl om_ hbok (fun k hk => ((hin k).1 hk).2.1) om_ ?_
  intro l1 hp1
  refine CW_heap List.perm_middle ?_
  have hct := shape_any g cap nN cN pN r b.rest ((gb, blk (bls.map Bl.val ++ rb) 29) :: (blsH (cs.eraseIdx i) ++ F)) (hN.mono (.cons _ (List.sublist_append_right _ _))) hnN ms l1 b.o b.l.length b.cap i hp1.length_eq om_ (oOk_same hbok hp1.length_eq) (hp1.nodup_iff.2 hnd) (fun k hk => by have := (hin k).1 (hp1.mem_iff.1 hk); omega) om_ om_
  rw [hmlen] at hct
  have hpk : Pick ((g, blk (nms ms ++ r) 43) :: (oH b.o (nats l1 ++ b.rest) 3 ++ ((gb, blk (bls.map Bl.val ++ rb) 29) :: (blsH (cs.eraseIdx i) ++ F)))) ((g, blk (nms ms ++ r) 43) :: (oH b.o (nats l1 ++ b.rest) 3 ++ ((gb, blk (bls.map Bl.val ++ rb) 29) :: (blsH (cs.eraseIdx i) ++ F)))) [] := by
   have hz := pick_app ((g, blk (nms ms ++ r) 43) :: (oH b.o (nats l1 ++ b.rest) 3 ++ ((gb, blk (bls.map Bl.val ++ rb) 29) :: (blsH (cs.eraseIdx i) ++ F)))) []
   rwa [List.append_nil] at hz
  refine CW_region ?_
  refine RW_m ?_
  refine RW_m ?_
  refine RW_m ?_
  refine RW_m ?_
  refine RW_m ?_
  refine RW_m ?_
  refine RW_fx rfl rfl rfl (Fx_call ok_23 (vs := [.slice (some ⟨g, 0, none⟩) n cap, osl b.o b.l.length b.cap, .slice pN nN cN, nv i]) rfl hpk hct) ?_
  rintro _ _ ⟨_, ⟨m2, top, rfl, hs, rfl⟩, rfl⟩
  simp only [List.append_nil]
  have hl2 : m2.length = n := by rw [hs.len, hmlen]
  refine RW_l (Yl_indexN (b := g) (off := 0) (i := i) (o' := i * 28) rfl rfl sl_25 om_ om_) ?_
  refine RW_f fo_43_5 ?_
  refine RW_fx0 rfl rfl (Fx_store (v := iv top) (b := g) (off := i * 28 + 5) rfl rfl sz_3 rfl (.here _ _ _) (by rw [List.length_append, length_nms]; omega)) ?_
  rintro _ _ rfl
  refine RW_nil ?_
  refine QW_normal_block ?_
  refine (QW_lv [0,5,181,182,183] ?_)
  refine CW_region ?_
  refine RW_l (Yl_add (c := ((i + 1 : Nat) : Int)) rfl rfl (wi64 om_ om_)) ?_
  refine RW_m ?_
  refine RW_nil ?_
  rw [nms_set m2 i 5 (iv top) ((m2.getD i default).turn (lfF m2 i) (rtF m2 i) top) r om_ om_ rfl]
  have hI2 := hI.step om_ hb hp1 hs
  refine QW_heap (H' := (g, blk (nms (m2.set i ((m2.getD i default).turn (lfF m2 i) (rtF m2 i) top)) ++ r) 43) :: (gb, blk (bls.map Bl.val ++ rb) 29) :: (blsH (cs.set i { b with l := l1 }) ++ F)) ?_ ?_
  ·exact (bl_set [(gb, blk (bls.map Bl.val ++ rb) 29)] F cs i { b with l := l1 } om_).cons _
  exact QW_round (i + 1, (m2.set i ((m2.getD i default).turn (lfF m2 i) (rtF m2 i) top)), cs.set i { b with l := l1 }) hI2 (by simp only; omega) (Prm.nil _) kp_
 refine CW_exit ?_
 refine QW_exit_then ?_
 refine QW_exit_then ?_
 refine QW_exit_block ?_
 refine (QW_lv [5] ?_)
 have hie : i = n := by omega
 rw [hie] at hI
 refine CW_drop (H' := (g, blk (nms ms ++ r) 43) :: F) (.cons_cons _ (.cons _ (List.sublist_append_right _ _))) ?_
 exact hk ms cs hI
structure NSt where
 k : Nat
 ns : List Nm
 g : Nat
 cap : Nat
 r : List Value
 bls : List Bl
 gb : Nat
 capb : Nat
 rb : List Value
 at_ : Nat
theorem nodesOf_ct (nN cN nD cD : Nat) (pN pD : Option Addr) (D : Heap) (hN : NumOk D pN nN) (hD : BytOk D pD nD) (hnN : nN ≤ 1000) (hcN : nN ≤ cN) (hnD : nD ≤ 10000) :
  Ct Tryd.prog 14 [.slice pN nN cN, .slice pD nD cD] D (fun v q => ∃ ns g cap r, v = .slice (some ⟨g, 0, none⟩) ns.length cap ∧ NodesOk ns ∧ (nms ns ++ r).length = cap * 28 ∧ q = (g, blk (nms ns ++ r) 43) :: (nmsH ns ++ D)) := by
 refine Ct_of Tryd.func14 rfl Tryd.ntmps14 rfl ?_
 intro E F
 simp only [numL, List.nil_append, List.cons_append]
 refine CW_sr ?_
 refine RW_a ?_
 refine RW_lv [0,1] ?_
 refine CW_sr ?_
 refine RW_l (Yl_build (cs := rootNm.cells) pl_43 ze_43 rfl rfl) ?_
 refine RW_fx rfl rfl rfl (Fx_lit (vs := [.agg rootNm.cells.toArray]) (css := [rootNm.cells]) (cs := rootNm.cells) sl_25 ze_43 rfl rfl rfl rfl rfl (by intro c hc; rw [List.mem_singleton.1 hc]; exact Nm.length_cells _) (by simp)) ?_
 rintro _ _ ⟨b25, rfl, rfl⟩
 refine RW_a ?_
 refine RW_lv [0,1,5] ?_
 refine CW_sr ?_
 refine RW_fx rfl rfl rfl (Fx_litS (vs := [.slice none 0 0]) sl_66 ze_29 rfl rfl rfl rfl rfl) ?_
 rintro _ _ ⟨b26, rfl, rfl⟩
 refine RW_a ?_
 refine RW_lv [0,1,5,6] ?_
 refine CW_sr ?_
 refine RW_a ?_
 refine RW_lv [0,1,5,6,7] ?_
 refine CW_seq ?_
 refine CW_seq ?_
 obtain ⟨N, hN1, hNn, hN19⟩ : ∃ N : Nat, (if (19 : Int) < (nN : Int) then (19 : Int) else (nN : Int)) = (N : Int) ∧ N ≤ nN ∧ N ≤ 19 := by
  by_cases h : (19 : Int) < (nN : Int)
  ·exact ⟨19, by rw [if_pos h]; rfl, by omega, by omega⟩
  exact ⟨nN, by rw [if_neg h], by omega, by omega⟩
 refine CW_region ?_
 refine RW_m ?_
 refine RW_m ?_
 refine RW_l (Yl_len rfl sl_22) ?_
 refine RW_l (Yl_minC (c := (N : Int)) rfl rfl hN1) ?_
 refine RW_l (Yl_cutHP (h := N) rfl rfl sl_22 om_) ?_
 refine RW_l (Yl_len rfl sl_22) ?_
 refine RW_m ?_
 refine RW_lv [0,1,5,6,7,31,32,33] ?_
 refine CW_block ?_
 refine CW_loop (σ := NSt) (fun s => [(0, .slice pN nN cN), (1, .slice pD nD cD), (5, .slice (some ⟨s.g, 0, none⟩) s.ns.length s.cap), (6, .slice (some ⟨s.gb, 0, none⟩) s.bls.length s.capb), (7, nv s.at_), (31, .slice (cutAt pN cN 0 1) N cN), (32, nv N), (33, nv s.k)]) (fun s => (s.g, blk (nms s.ns ++ s.r) 43) :: (s.gb, blk (s.bls.map Bl.val ++ s.rb) 29) :: (blsH s.bls ++ (nmsH s.ns ++ (D ++ F)))) (fun s => NI N s.k s.ns s.cap s.r s.bls s.capb s.rb s.at_) (fun s => N - s.k) ⟨0, [rootNm], b25, 1, [], [default], b26, 1, [], 0⟩ (NI.first N) (by rw [show nms [rootNm] ++ [] = rootNm.cells by simp [nms]]; exact prm_) kp_ ?_
 rintro ⟨k, ns, g, cap, r, bls, gb, capb, rb, at_⟩ hI
 simp only at hI ⊢
 have hkle := hI.kle
 have hlen := hI.len
 have hblen := hI.blen
 have hat := hI.at_
 refine CW_sr ?_
 refine RW_l (Yl_lss rfl rfl) ?_
 refine RW_lv [0,1,5,6,7,31,32,33,34] ?_
 refine CW_seq ?_
 refine CW_cd rfl (fun hc1 => ?_) (fun hc1 => ?_)
 ·refine (CW_skip (QW_lv [0,1,5,6,7,31,32,33] ?_))
  refine CW_seq ?_
  refine CW_block ?_
  refine CW_seq ?_
  rcases hN with h0 | ⟨bN, oN, lN, TN, fzN, rfl, hmN, hxN⟩
  ·exfalso; omega
  obtain ⟨x, hxb, hx⟩ := hxN k om_
  rw [cutAt_zero]
  refine CW_region ?_
  refine RW_m ?_
  refine RW_l (Yl_indexN (b := bN) (off := oN) (i := k) (o' := oN + k) rfl rfl sl_22 om_ om_) ?_
  refine RW_h (Yh_load (v := uv x) rfl sc_67 ((show List.Sublist D _ by repeat (first | exact List.sublist_append_left _ _ | apply List.Sublist.cons | refine List.Sublist.trans ?_ (List.sublist_append_right _ _))).subset hmN) hx) ?_
  refine RW_a ?_
  refine RW_a ?_
  refine RW_lv [0,1,5,6,7,8,9,31,32,33] ?_
  refine nodes_A (F := (g, blk (nms ns ++ r) 43) :: (gb, blk (bls.map Bl.val ++ rb) 29) :: (blsH bls ++ (nmsH ns ++ (D ++ F)))) (by intro c a d v w h; exact h) at_ k x nD cD pD (hD.mono (by repeat (first | exact List.sublist_append_left _ _ | apply List.Sublist.cons | refine List.Sublist.trans ?_ (List.sublist_append_right _ _)))) om_ hxb om_ om_ ?_
  intro y h b11 at2 hy hh hat1 hat2
  refine nodes_W (F := (b11, blk y.cells 43) :: (y.heap ++ ((g, blk (nms ns ++ r) 43) :: (gb, blk (bls.map Bl.val ++ rb) 29) :: (blsH bls ++ (nmsH ns ++ (D ++ F)))))) (by intro c a d v w h; exact h) g cap h ns r (List.Mem.tail _ (List.mem_append_right _ (List.Mem.head _))) ⟨by omega, by omega⟩ hh ?_
  intro w hw
  refine CW_heap ((perm_front y.heap ((g, blk (nms ns ++ r) 43) :: (gb, blk (bls.map Bl.val ++ rb) 29) :: blsH bls) (nmsH ns ++ (D ++ F))).cons _) ?_
  simp only [List.cons_append]
  refine nodes_P (F := y.heap ++ (nmsH ns ++ (D ++ F))) (by intro c a d v w h; exact h) y b11 g cap gb capb w ns bls r rb hI.fit hI.bfit om_ ((hI.bl w).2 om_) om_ om_ (by have := (hI.bl w).1; omega) ?_
  intro g2 cap2 gb2 capb2 r2 rb2 nb hl2 hlb2 hnb hnl
  refine QW_normal_block ?_
  refine (QW_lv [0,1,5,6,7,31,32,33] ?_)
  refine CW_region ?_
  refine RW_l (Yl_add (c := ((k + 1 : Nat) : Int)) rfl rfl (wi64 om_ om_)) ?_
  refine RW_m ?_
  refine RW_nil ?_
  have hI2 := hI.add om_ hw hy hl2 hlb2 hnb hnl om_
  rw [show ns.length + 1 = (ns ++ [y]).length by simp, show bls.length + 1 = ((bls ++ [default]).set w nb).length by simp]
  refine QW_heap (H' := (g2, blk (nms (ns ++ [y]) ++ r2) 43) :: (gb2, blk (((bls ++ [default]).set w nb).map Bl.val ++ rb2) 29) :: (blsH ((bls ++ [default]).set w nb) ++ (nmsH (ns ++ [y]) ++ (D ++ F)))) ?_ ?_
  ·refine (List.Perm.swap _ _ _).trans (((List.Perm.append_left _ ?_).cons _).cons _)
   rw [show nmsH (ns ++ [y]) = nmsH ns ++ y.heap by simp [nmsH], List.append_assoc]
   exact perm_front _ _ _
  exact QW_round ⟨k + 1, ns ++ [y], g2, cap2, r2, (bls ++ [default]).set w nb, gb2, capb2, rb2, at2⟩ hI2 (by simp only; omega) (Prm.nil _) kp_
 refine CW_exit ?_
 refine QW_exit_then ?_
 refine QW_exit_then ?_
 refine QW_exit_block ?_
 refine (QW_lv [0,5,6] ?_)
 obtain ⟨par, hL0⟩ := hI.first_link
 rw [hblen, hlen]
 refine nodes_T (F := (nmsH ns ++ (D ++ F))) (by intro c a d v w h; exact h) g cap gb capb (k + 1) nN cN pN ns bls r rb par (hN.mono (List.Sublist.trans (List.sublist_append_left _ _) (List.sublist_append_right _ _))) om_ ⟨by omega, by omega⟩ hL0 ?_
 intro ms cs hL
 refine CW_sr ?_
 refine RW_m ?_
 refine RW_a ?_
 refine RW_lv [4] ?_
 refine CW_ret ?_
 refine QW_ret1 rfl rfl ((g, blk (nms ms ++ r) 43) :: (nmsH ms ++ D)) ⟨ms, g, cap, r, by rw [hL.len], hI.nodes om_ hL, by rw [List.length_append, length_nms, hL.len, ← hI.fit, List.length_append, length_nms, hlen], rfl⟩ ?_
 rw [hL.heap hlen]
 simp only [List.cons_append, List.append_assoc]
 exact Prm.nil _

inductive FT (lf rt ch : Nat → Int) : Int → List Nat → Prop
  | nil : FT lf rt ch (-1) []
  | node {k : Nat} {a c b : List Nat} (ha : FT lf rt ch (lf k) a) (hc : FT lf rt ch (ch k) c) (hb : FT lf rt ch (rt k) b) : FT lf rt ch (k : Int) (a ++ k :: (c ++ b))
inductive OT (lf rt ch : Nat → Int) (nm : Nat → List UInt8) : Int → List (List UInt8) → List (Nat × List (List UInt8)) → Prop
  | nil {p : List (List UInt8)} : OT lf rt ch nm (-1) p []
  | node {k : Nat} {p : List (List UInt8)} {a c b : List (Nat × List (List UInt8))} (ha : OT lf rt ch nm (lf k) p a) (hc : OT lf rt ch nm (ch k) (if k = 0 then p else p ++ [nm k]) c) (hb : OT lf rt ch nm (rt k) p b) :
      OT lf rt ch nm (k : Int) p (a ++ (k, p) :: (c ++ b))
theorem FT.ot {lf rt ch : Nat → Int} {nm : Nat → List UInt8} {t : Int} {L : List Nat} (h : FT lf rt ch t L) : ∀ p, ∃ o, OT lf rt ch nm t p o ∧ o.map Prod.fst = L := by
  induction h with
  | nil => intro p; exact ⟨[], .nil, rfl⟩
  | node ha hc hb iha ihc ihb =>
    rename_i k a c b
    intro p
    obtain ⟨oa, h1, e1⟩ := iha p
    obtain ⟨oc, h2, e2⟩ := ihc (if k = 0 then p else p ++ [nm k])
    obtain ⟨ob, h3, e3⟩ := ihb p
    exact ⟨_, .node h1 h2 h3, by simp [e1, e2, e3]⟩
def below (ls : Nat → List Nat) : Nat → Nat → List Nat
  | 0, _ => []
  | f + 1, p => (ls p).flatMap fun j => j :: below ls f j
theorem FT.of_st {lf rt ch : Nat → Int} {D : Nat → List Nat} {pl : List Nat} {t : Int} (h : STree lf rt pl t) (hd : ∀ j ∈ pl, FT lf rt ch (ch j) (D j)) : FT lf rt ch t (pl.flatMap fun j => j :: D j) := by
  induction h with
  | nil => exact .nil
  | node ha hb iha ihb =>
    rename_i a b m
    have h1 := iha (fun j hj => hd j (by simp [hj]))
    have h2 := ihb (fun j hj => hd j (by simp [hj]))
    have h3 := hd m (by simp)
    have := FT.node h1 h3 h2
    simpa using this
section
variable {n : Nat} {ls : Nat → List Nat} {par : Nat → Nat} {lf rt ch : Nat → Int}
theorem below_ft (h : PL n ls par) (ht : ∀ p, p < n → STree lf rt (ls p) (ch p)) : ∀ f p, p < n → n ≤ p + f → FT lf rt ch (ch p) (below ls f p) := by
  intro f
  induction f with
  | zero => intro p h1 h2; omega
  | succ f ih =>
    intro p h1 h2
    refine FT.of_st (ht p h1) (fun j hj => ?_)
    have h3 := (h.mem p j).1 hj
    have h4 := h.lt j h3.1 h3.2.1
    exact ih j h3.2.1 om_
theorem below_mem (h : PL n ls par) : ∀ f p, p < n → ∀ x ∈ below ls f p, p < x ∧ x < n ∧ (par x = p ∨ par x ∈ below ls f p) := by
  intro f
  induction f with
  | zero => intro p _ x hx; cases hx
  | succ f ih =>
    intro p hp x hx
    obtain ⟨j, hj, hx⟩ := List.mem_flatMap.1 hx
    have h3 := (h.mem p j).1 hj
    have h4 := h.lt j h3.1 h3.2.1
    rcases List.mem_cons.1 hx with rfl | hx
    · exact ⟨by omega, h3.2.1, .inl h3.2.2⟩
    obtain ⟨h5, h6, h7⟩ := ih j h3.2.1 x hx
    refine ⟨by omega, h6, .inr (List.mem_flatMap.2 ⟨j, hj, ?_⟩)⟩
    rcases h7 with h7 | h7
    · rw [h7]; exact List.mem_cons_self ..
    exact List.mem_cons_of_mem _ h7
theorem below_nodup (h : PL n ls par) : ∀ f p, p < n → (below ls f p).Nodup := by
  intro f
  induction f with
  | zero => intro p _; exact List.nodup_nil
  | succ f ih =>
    intro p hp
    have key : ∀ x j i, j ∈ ls p → i ∈ ls p → x ∈ j :: below ls f j → x ∈ i :: below ls f i → j = i := by
      intro x
      induction x using Nat.strongRecOn with
      | _ x ihx =>
        intro j i hj hi hxj hxi
        have a1 := (h.mem p j).1 hj
        have b1 := (h.mem p i).1 hi
        have a2 := h.lt j a1.1 a1.2.1
        have b2 := h.lt i b1.1 b1.2.1
        rcases List.mem_cons.1 hxj with e1 | hxj
        · rcases List.mem_cons.1 hxi with e2 | hxi
          · omega
          have h5 := below_mem h f i b1.2.1 x hxi
          rcases h5.2.2 with h6 | h6
          · subst e1; omega
          have h7 := below_mem h f i b1.2.1 _ h6
          subst e1; omega
        rcases List.mem_cons.1 hxi with e2 | hxi
        · have h5 := below_mem h f j a1.2.1 x hxj
          rcases h5.2.2 with h6 | h6
          · subst e2; omega
          have h7 := below_mem h f j a1.2.1 _ h6
          subst e2; omega
        have h5 := below_mem h f j a1.2.1 x hxj
        have h6 := below_mem h f i b1.2.1 x hxi
        have h7 := h.lt x om_ h5.2.1
        refine ihx (par x) h7 j i hj hi ?_ ?_
        · rcases h5.2.2 with h8 | h8
          · rw [h8]; exact List.mem_cons_self ..
          exact List.mem_cons_of_mem _ h8
        rcases h6.2.2 with h8 | h8
        · rw [h8]; exact List.mem_cons_self ..
        exact List.mem_cons_of_mem _ h8
    refine List.pairwise_flatMap.2 ⟨fun j hj => ?_, ?_⟩
    · have a1 := (h.mem p j).1 hj
      refine List.nodup_cons.2 ⟨fun hx => ?_, ih j a1.2.1⟩
      have := below_mem h f j a1.2.1 j hx
      omega
    refine (h.nd p).imp_of_mem ?_
    intro j i hj hi hne x hx y hy e
    subst e
    exact hne (key x j i hj hi hx hy)
theorem below_all (h : PL n ls par) : ∀ f p q x, p < n → n ≤ p + f → q ∈ below ls f p → x ∈ ls q → x ∈ below ls f p := by
  intro f
  induction f with
  | zero => intro p q x h1 h2; omega
  | succ f ih =>
    intro p q x h1 h2 hq hx
    obtain ⟨j, hj, hq⟩ := List.mem_flatMap.1 hq
    have a1 := (h.mem p j).1 hj
    have a2 := h.lt j a1.1 a1.2.1
    refine List.mem_flatMap.2 ⟨j, hj, List.mem_cons_of_mem _ ?_⟩
    rcases List.mem_cons.1 hq with rfl | hq
    · cases f with
      | zero => omega
      | succ f => exact List.mem_flatMap.2 ⟨x, hx, List.mem_cons_self ..⟩
    exact ih j q x a1.2.1 om_ hq hx
theorem below_root (h : PL n ls par) (hn : 1 ≤ n) : ∀ x, 1 ≤ x → x < n → x ∈ below ls n 0 := by
  intro x
  induction x using Nat.strongRecOn with
  | _ x ih =>
    intro h1 h2
    have h3 := h.lt x h1 h2
    have hx : x ∈ ls (par x) := (h.mem _ x).2 ⟨h1, h2, rfl⟩
    rcases Nat.eq_zero_or_pos (par x) with h0 | h0
    · rw [h0] at hx
      cases n with
      | zero => omega
      | succ f => exact List.mem_flatMap.2 ⟨x, hx, List.mem_cons_self ..⟩
    exact below_all h n 0 (par x) x om_ om_ (ih _ h3 h0 om_) hx
end
theorem Lnk.order {ns : List Nm} {ls : Nat → List Nat} {par : Nat → Nat} (h : Lnk ns ls par) (hn : 1 ≤ ns.length) (nm : Nat → List UInt8) :
    ∃ o, OT (lfF ns) (rtF ns) (chdF ns) nm 0 [] o ∧ (o.map Prod.fst).Nodup ∧ (∀ k, k ∈ o.map Prod.fst ↔ k < ns.length) ∧ o.length ≤ ns.length := by
  have h1 := below_ft h.pl h.tree ns.length 0 om_ om_
  have h2 : FT (lfF ns) (rtF ns) (chdF ns) ((0 : Nat) : Int) ([] ++ 0 :: (below ls ns.length 0 ++ [])) := .node (by rw [h.root.1]; exact .nil) h1 (by rw [h.root.2]; exact .nil)
  obtain ⟨o, h3, h4⟩ := h2.ot (nm := nm) []
  simp only [List.nil_append, List.append_nil] at h4
  have h5 := below_mem h.pl ns.length 0 om_
  have h6 : (o.map Prod.fst).Nodup := by
    rw [h4]
    exact List.nodup_cons.2 ⟨fun hx => by have := h5 0 hx; omega, below_nodup h.pl ns.length 0 om_⟩
  have h7 : ∀ k, k ∈ o.map Prod.fst ↔ k < ns.length := by
    intro k
    rw [h4, List.mem_cons]
    constructor
    · rintro (rfl | hk)
      · omega
      exact (h5 k hk).2.1
    intro hk
    rcases Nat.eq_zero_or_pos k with h0 | h0
    · exact .inl h0
    exact .inr (below_root h.pl hn k h0 hk)
  refine ⟨o, h3, h6, h7, ?_⟩
  have := nodup_len ns.length _ h6 (fun x hx => (h7 x).1 hx)
  simpa using this
theorem trav_ot {es : List Tn} {lf rt ch : Nat → Int} {nm : Nat → List UInt8} (hN : es.length ≤ 100000) {t : Int} {p : List (List UInt8)} {o : List (Nat × List (List UInt8))} (h : OT lf rt ch nm t p o) :
    ∀ (f : Nat) (s : TS), s.bad = false → s.cnt + o.length ≤ es.length → o.length ≤ f → (∀ k ∈ o.map Prod.fst, k < es.length ∧ es.getD k default = ⟨nm k, lnkF (lf k), lnkF (ch k), lnkF (rt k)⟩) → (o.map Prod.fst).Nodup →
      ∃ s', s' = (if lnkF t = FREE then s else trav es f (lnkF t) p s) ∧ s'.bad = false ∧ s'.cnt = s.cnt + o.length ∧ s'.out = s.out ++ o.map Prod.fst ∧ (∀ k, k ∉ o.map Prod.fst → s'.pth k = s.pth k) ∧ ∀ x ∈ o, s'.pth x.1 = x.2 := by
  induction h with
  | nil =>
    intro f s hb _ _ _ _
    exact ⟨s, by rw [if_pos lnkF_none], hb, rfl, by simp, fun k _ => rfl, fun x hx => by cases hx⟩
  | node ha hc hb iha ihc ihb =>
    rename_i k p a c b
    intro f s hbad hcnt hf hk hnd
    have hlen : (a ++ (k, p) :: (c ++ b)).length = a.length + 1 + (c.length + b.length) := by simp; omega
    rw [hlen] at hcnt hf
    obtain ⟨hk1, hk2⟩ := hk k (by simp)
    have hnk : lnkF (k : Int) = k := lnkF_nat k
    cases f with
    | zero => omega
    | succ f =>
      have hmap : (a ++ (k, p) :: (c ++ b)).map Prod.fst = a.map Prod.fst ++ k :: (c.map Prod.fst ++ b.map Prod.fst) := by simp
      rw [hmap] at hnd hk
      have n1 := List.nodup_append.1 hnd
      have n2 := List.nodup_cons.1 n1.2.1
      have n3 := List.nodup_append.1 n2.2
      obtain ⟨s1, e1, b1, c1, o1, p1, q1⟩ := iha f s.call hbad (by show s.cnt + 1 + _ ≤ _; omega) om_ (fun x hx => hk x (List.mem_append_left _ hx)) n1.1
      obtain ⟨s3, e3, b3, c3, o3, p3, q3⟩ := ihc f (s1.visit k p) b1 (by show s1.cnt + _ ≤ _; rw [c1]; show s.cnt + 1 + _ + _ ≤ _; omega) om_ (fun x hx => hk x (List.mem_append_right _ (List.mem_cons_of_mem _ (List.mem_append_left _ hx)))) n3.1
      have cc3 : s3.cnt = s.cnt + 1 + a.length + c.length := by rw [c3]; show s1.cnt + _ = _; rw [c1]; rfl
      obtain ⟨s4, e4, b4, c4, o4, p4, q4⟩ := ihb f s3 b3 (by rw [cc3]; omega) om_ (fun x hx => hk x (List.mem_append_right _ (List.mem_cons_of_mem _ (List.mem_append_right _ hx)))) n3.2.1
      refine ⟨s4, ?_, b4, by rw [c4, cc3, hlen]; omega, ?_, ?_, ?_⟩
      · rw [hnk, if_neg (show ¬ k = 4294967295 by omega), trav, if_neg om_, if_neg om_]
        unfold travS
        simp only [hk2]
        rw [e4, e3, e1]
      · rw [o4, o3]
        show (s1.out ++ [k]) ++ _ ++ _ = _
        rw [o1, hmap]
        show (s.out ++ _ ++ [k]) ++ _ ++ _ = _
        simp
      · intro x hx
        rw [hmap] at hx
        simp only [List.mem_append, List.mem_cons, not_or] at hx
        rw [p4 x hx.2.2.2, p3 x hx.2.2.1]
        show (if x = k then p else s1.pth x) = _
        rw [if_neg hx.2.1, p1 x hx.1]
        rfl
      intro x hx
      simp only [List.mem_append, List.mem_cons] at hx
      have mem1 : ∀ {l : List (Nat × List (List UInt8))}, x ∈ l → x.1 ∈ l.map Prod.fst := fun h => List.mem_map.2 ⟨x, h, rfl⟩
      rcases hx with hx | hx | hx | hx
      · have m1 := mem1 hx
        have d1 : x.1 ∉ b.map Prod.fst := fun e => n1.2.2 _ m1 _ (List.mem_cons_of_mem _ (List.mem_append_right _ e)) rfl
        have d2 : x.1 ∉ c.map Prod.fst := fun e => n1.2.2 _ m1 _ (List.mem_cons_of_mem _ (List.mem_append_left _ e)) rfl
        have d3 : x.1 ≠ k := fun e => n1.2.2 _ m1 _ (List.mem_cons_self ..) e
        rw [p4 _ d1, p3 _ d2]
        show (if x.1 = k then p else s1.pth x.1) = _
        rw [if_neg d3]; exact q1 x hx
      · subst hx
        have d1 : k ∉ b.map Prod.fst := fun e => n2.1 (List.mem_append_right _ e)
        have d2 : k ∉ c.map Prod.fst := fun e => n2.1 (List.mem_append_left _ e)
        rw [p4 _ d1, p3 _ d2]
        show (if k = k then p else s1.pth k) = _
        rw [if_pos rfl]
      · have m1 := mem1 hx
        have d1 : x.1 ∉ b.map Prod.fst := fun e => n3.2.2 _ m1 _ e rfl
        rw [p4 _ d1]; exact q3 x hx
      exact q4 x hx

structure VsOk (pp : Heap) (vs : List Value) (ps : List (List (List UInt8))) : Prop where
  len : vs.length = ps.length
  get : ∀ i, i < ps.length → PathC pp (vs.getD i undef) (ps.getD i [])
theorem VsOk.nil (pp : Heap) : VsOk pp [] [] := ⟨rfl, fun i h => by simp at h⟩
theorem VsOk.more {pp qq : Heap} {vs : List Value} {ps : List (List (List UInt8))} (h : VsOk pp vs ps) (hs : ∀ x ∈ pp, x ∈ qq) : VsOk qq vs ps := ⟨h.len, fun i hi => (h.get i hi).more hs⟩
theorem VsOk.snoc {pp : Heap} {vs : List Value} {ps : List (List (List UInt8))} {v : Value} {p : List (List UInt8)} (h : VsOk pp vs ps) (hv : PathC pp v p) : VsOk pp (vs ++ [v]) (ps ++ [p]) := by
  have hl := h.len
  refine ⟨by simp [hl], fun i hi => ?_⟩
  simp only [List.getD_eq_getElem?_getD]
  rw [List.length_append, List.length_singleton] at hi
  by_cases e : i = ps.length
  · subst e
    rw [List.getElem?_append_right (Nat.le_refl _), List.getElem?_append_right om_, hl]
    simpa using hv
  have hi' : i < ps.length := by omega
  rw [List.getElem?_append_left hi', List.getElem?_append_left om_]
  have := h.get i hi'
  simpa only [List.getD_eq_getElem?_getD] using this
theorem take_strs (p : List (List UInt8)) (r : List Value) : (strs p ++ r).take p.length = strs p := by
  have h : p.length = (strs p).length := by simp
  rw [h, List.take_left]
theorem Fx_patha {E : World} {L : Fra} {H R : Heap} {dst : Option Tmp} {ty : TypeId} {pos : String} {aft : Array Edge} {gd : Option (Nat × Bool)} {x y : Operand} {g : Nat} {v : Value} {p : List (List UInt8)} {pp : Heap} (hx : ev L x = some (.slice (some ⟨g, 0, none⟩) 0 0)) (hy : ev L y = some v) (hg : Rem H (g, blk [] 9) R) (hp : PathC pp v p) (hs : ∀ x ∈ pp, x ∈ H) (hp1 : p.length ≤ 1000000) :
    Fx Tryd.prog E L H ⟨dst, .call ⟨.builtin .append, #[x, y], #[36, 36]⟩, ty, pos, aft, gd⟩ (fun u H'' => ∃ g' cap' r', u = .slice (some ⟨g', 0, none⟩) p.length cap' ∧ (strs p ++ r').length = cap' * 1 ∧ H'' = (g', blk (strs p ++ r') 9) :: R) := by
  intro n a w next Q hf hh k
  rcases hp with ⟨rfl, rfl⟩ | ⟨b, cap, r, hne, rfl, hm⟩
  · refine (Yl.h (Yl_append0 (P := Tryd.prog) hx hy sl_36 (Nat.le_refl _))).fx n a w next Q hf hh ?_
    rintro v w' H' ⟨rfl, rfl⟩ hh'
    exact k _ w' _ ⟨g, 0, [], rfl, rfl, rfl⟩ (hh'.perm hg.perm)
  refine Fx_appG (P := Tryd.prog) (xs := []) (r := []) (news := strs p) (cap := 0) hx hy sl_36 by_9 ze_9 rfl (hs _ hm) hg rfl rfl (by rw [List.drop_zero, Nat.mul_one]; exact take_strs p r) (by simp) (one_map (fun _ => rfl) p) om_ om_ om_ n a w next Q hf hh ?_
  rintro v w' H' ⟨g', cap', r', rfl, h1, rfl⟩ hh'
  rw [Nat.zero_add, List.nil_append] at *
  exact k _ w' _ ⟨g', cap', r', rfl, h1, rfl⟩ hh'
theorem strs_snoc (p : List (List UInt8)) (s : List UInt8) : strs p ++ [.string (bar s)] = strs (p ++ [s]) := by simp [strs]
theorem at_link {l : List Nm} {r : List Value} {k o : Nat} (hk : k < l.length) (ho : o = k * 28 + 3) : (nms l ++ r)[o]? = some (iv (lfF l k)) := by
  rw [ho, nms_cell l r k 3 hk om_]; rfl
theorem at_right {l : List Nm} {r : List Value} {k o : Nat} (hk : k < l.length) (ho : o = k * 28 + 4) : (nms l ++ r)[o]? = some (iv (rtF l k)) := by
  rw [ho, nms_cell l r k 4 hk om_]; rfl
theorem at_child {l : List Nm} {r : List Value} {k o : Nat} (hk : k < l.length) (ho : o = k * 28 + 5) : (nms l ++ r)[o]? = some (iv (chdF l k)) := by
  rw [ho, nms_cell l r k 5 hk om_]; rfl
def nmOf (l : List Nm) (k : Nat) : List UInt8 := (l.getD k default).nd.name
theorem at_nm {l : List Nm} {r : List Value} {k o : Nat} (hk : k < l.length) (ho : o = k * 28) : (nms l ++ r)[o]? = some (.string (bar (nmOf l k))) := at_name hk ho

def OCt (ns : List Nm) (g cap bF bn bo bp : Nat) (rn : List Value) (t : Int) (p : List (List UInt8)) (o : List (Nat × List (List UInt8))) : Prop :=
 ∀ (done : List (Nat × List (List UInt8))) (vs : List Value) (go co gp cp : Nat) (ro rp : List Value) (pp : Heap) (v : Value), PathC pp v p → VsOk pp vs (done.map Prod.snd) → (nats (done.map Prod.fst) ++ ro).length = co → (vs ++ rp).length = cp → done.length + o.length ≤ 1000 → p.length + o.length ≤ 1000 →
  Ct Tryd.prog 30 [iv t, v, pv bF, pv bn, pv bo, pv bp] ((bF, blk [.func (.func 30) #[] #[pv bF, pv bn, pv bo, pv bp]] 77) :: (bn, blk [.slice (some ⟨g, 0, none⟩) ns.length cap] 25) :: (g, blk (nms ns ++ rn) 43) :: (bo, blk [.slice (some ⟨go, 0, none⟩) done.length co] 29) :: (go, blk (nats (done.map Prod.fst) ++ ro) 3) :: (bp, blk [.slice (some ⟨gp, 0, none⟩) done.length cp] 30) :: (gp, blk (vs ++ rp) 36) :: pp)
   (fun u q => u = .tuple #[] ∧ ∃ vs' go' co' gp' cp' ro' rp' pp', VsOk pp' vs' ((done ++ o).map Prod.snd) ∧ (nats ((done ++ o).map Prod.fst) ++ ro').length = co' ∧ (vs' ++ rp').length = cp' ∧ (∀ x ∈ pp, x ∈ pp') ∧ q = (bF, blk [.func (.func 30) #[] #[pv bF, pv bn, pv bo, pv bp]] 77) :: (bn, blk [.slice (some ⟨g, 0, none⟩) ns.length cap] 25) :: (g, blk (nms ns ++ rn) 43) :: (bo, blk [.slice (some ⟨go', 0, none⟩) (done ++ o).length co'] 29) :: (go', blk (nats ((done ++ o).map Prod.fst) ++ ro') 3) :: (bp, blk [.slice (some ⟨gp', 0, none⟩) (done ++ o).length cp'] 30) :: (gp', blk (vs' ++ rp') 36) :: pp')
theorem order_nil (ns : List Nm) (g cap bF bn bo bp : Nat) (rn : List Value) (p : List (List UInt8)) : OCt ns g cap bF bn bo bp rn (-1) p [] := by
 unfold OCt
 intro done vs go co gp cp ro rp pp v hv hvs hro hrp hl hpl
 refine Ct_of Tryd.func30 rfl Tryd.ntmps30 rfl ?_
 intro E F
 simp only [numL, List.nil_append, List.cons_append]
 refine CW_seq ?_
 refine CW_sr ?_
 refine RW_m ?_
 refine RW_l (Yl_lss rfl rfl) ?_
 refine RW_lv [0,1,2,3,4,5,10] ?_
 refine CW_cd rfl (fun hc1 => ?_) (fun hc1 => ?_)
 ·refine CW_ret ?_
  refine QW_ret_then ?_
  refine QW_ret0 rfl ((bF, blk [.func (.func 30) #[] #[pv bF, pv bn, pv bo, pv bp]] 77) :: (bn, blk [.slice (some ⟨g, 0, none⟩) ns.length cap] 25) :: (g, blk (nms ns ++ rn) 43) :: (bo, blk [.slice (some ⟨go, 0, none⟩) done.length co] 29) :: (go, blk (nats (done.map Prod.fst) ++ ro) 3) :: (bp, blk [.slice (some ⟨gp, 0, none⟩) done.length cp] 30) :: (gp, blk (vs ++ rp) 36) :: pp) ⟨rfl, vs, go, co, gp, cp, ro, rp, pp, by simpa using hvs, by simpa using hro, hrp, fun _ h => h, by rw [List.append_nil]⟩ (Prm.nil _)
 exfalso; omega
theorem order_step (ns : List Nm) (g cap bF bn bo bp : Nat) (rn : List Value) (k : Nat) (hk : k < ns.length) (hk2 : ns.length ≤ 1000) (p : List (List UInt8)) (a c b : List (Nat × List (List UInt8))) (iha : OCt ns g cap bF bn bo bp rn (lfF ns k) p a) (ihc : OCt ns g cap bF bn bo bp rn (chdF ns k) (if k = 0 then p else p ++ [nmOf ns k]) c) (ihb : OCt ns g cap bF bn bo bp rn (rtF ns k) p b) : OCt ns g cap bF bn bo bp rn (k : Int) p (a ++ (k, p) :: (c ++ b)) := by
 unfold OCt at *
 intro done vs go co gp cp ro rp pp v hv hvs hro hrp hl hpl
 have hlen : (a ++ (k, p) :: (c ++ b)).length = a.length + 1 + (c.length + b.length) := by simp; omega
 rw [hlen] at hl hpl
 refine Ct_of Tryd.func30 rfl Tryd.ntmps30 rfl ?_
 intro E F
 simp only [numL, List.nil_append, List.cons_append]
 refine CW_seq ?_
 refine CW_sr ?_
 refine RW_m ?_
 refine RW_l (Yl_lss rfl rfl) ?_
 refine RW_lv [0,1,2,3,4,5,10] ?_
 refine CW_cd rfl (fun hc1 => ?_) (fun hc1 => ?_)
 ·exfalso; omega
 refine (CW_skip (QW_lv [0,1,2,3,4,5] ?_))
 refine CW_seq ?_
 have hih := iha done vs go co gp cp ro rp pp v hv hvs hro hrp om_ om_
 refine CW_draw [7] _ mixed (Sub.refl _) ?_
 refine RD_m 2 ?_
 refine RD_m 6 ?_
 refine RD_h (i := 0) #[false, true, true, true, true, true, true, false] rfl rfl rfl rfl kr_ (fun _ _ _ h => h) (Yh_ld (v := .func (.func 30) #[] #[pv bF, pv bn, pv bo, pv bp]) sc_77) ?_
 refine RD_h (i := 1) #[true, false, true, false, false, false, true, false] rfl rfl rfl rfl kr_ (fun _ _ _ h => h) (Yh_ld (v := .slice (some ⟨g, 0, none⟩) ns.length cap) sc_25) ?_
 refine RD_l 3 rfl (Yl_indexN (b := g) (off := 0) (i := k) (o' := k * 28) rfl rfl sl_25 hk om_) ?_
 refine RD_f 4 fo_43_3 ?_
 refine RD_h (i := 5) #[true, true, true, true, true, false, true, false] rfl rfl rfl rfl kr_ (fun _ _ _ h => h) (Yh_lh (v := iv (lfF ns k)) sc_3 (at_link hk rfl)) ?_
 refine RD_o 7 ?_
 refine RO_fx rfl rfl rfl rfl (Fx_callV ok_30 (fs := []) (cs := [pv bF, pv bn, pv bo, pv bp]) (vs := [iv (lfF ns k), v]) rfl rfl (by exact (Pick.cons rem_ (Pick.cons rem_ (Pick.cons rem_ (Pick.cons rem_ (Pick.cons rem_ (Pick.cons rem_ (Pick.cons rem_ (pick_app _ F))))))))) hih) ?_
 rintro _ _ ⟨_, ⟨rfl, vs1, go1, co1, gp1, cp1, ro1, rp1, pp1, hvs1, hro1, hrp1, hsub1, rfl⟩, rfl⟩
 simp only [List.cons_append]
 refine ⟨Or.inl kr_, ?_⟩
 refine (RD_done kr_ (QW_lv [0,1,2,3,4,5] ?_))
 obtain ⟨d1, hd1⟩ : ∃ d1, d1 = done ++ a := ⟨_, rfl⟩
 rw [← hd1] at hvs1 hro1
 rw [← hd1]
 replace hv := hv.more hsub1
 clear hih hvs
 have hdl : d1.length = done.length + a.length := by rw [hd1]; simp
 have hv1 := hv.one.1
 obtain ⟨d2, hd2⟩ : ∃ d2, d2 = d1 ++ [(k, p)] := ⟨_, rfl⟩
 have e1 : nats (d1.map Prod.fst) ++ [nv k] = nats (d2.map Prod.fst) := by rw [hd2]; simp
 have e2 : d1.length + 1 = d2.length := by rw [hd2]; simp
 have hvs2 := hvs1.snoc hv
 have e3 : d1.map Prod.snd ++ [p] = d2.map Prod.snd := by rw [hd2]; simp
 rw [e3] at hvs2
 obtain ⟨vs2, hvs2e⟩ : ∃ z, z = vs1 ++ [v] := ⟨_, rfl⟩
 rw [← hvs2e] at hvs2
 refine CW_cut (σ := Nat × Nat × Nat × Nat × List Value × List Value) (fun _ => [(0, nv k), (1, v), (2, pv bF), (3, pv bn)]) (fun q => (bF, blk [.func (.func 30) #[] #[pv bF, pv bn, pv bo, pv bp]] 77) :: (bn, blk [.slice (some ⟨g, 0, none⟩) ns.length cap] 25) :: (g, blk (nms ns ++ rn) 43) :: (bo, blk [.slice (some ⟨q.1, 0, none⟩) d2.length q.2.1] 29) :: (q.1, blk (nats (d2.map Prod.fst) ++ q.2.2.2.2.1) 3) :: (bp, blk [.slice (some ⟨q.2.2.1, 0, none⟩) d2.length q.2.2.2.1] 30) :: (q.2.2.1, blk (vs2 ++ q.2.2.2.2.2) 36) :: (pp1 ++ F)) (fun q => (nats (d2.map Prod.fst) ++ q.2.2.2.2.1).length = q.2.1 ∧ (vs2 ++ q.2.2.2.2.2).length = q.2.2.2.1) ?_ ?_
 ·skip
  refine CW_draw [8, 9] [(bo, blk [.slice (some ⟨go1, 0, none⟩) d1.length co1] 29), (bp, blk [.slice (some ⟨gp1, 0, none⟩) d1.length cp1] 30)] mixed sub_ ?_
  refine RD_m 1 ?_
  refine RD_m 5 ?_
  refine RD_h (i := 0) #[false, true, true, false, true, true, true, false, false, false] rfl rfl rfl rfl kr_ (fun _ _ _ h => h) (Yh_ld (v := .slice (some ⟨go1, 0, none⟩) d1.length co1) sc_29) ?_
  refine RD_h (i := 4) #[true, true, true, true, false, true, true, false, false, false] rfl rfl rfl rfl kr_ (fun _ _ _ h => h) (Yh_ld (v := .slice (some ⟨gp1, 0, none⟩) d1.length cp1) sc_30) ?_
  refine RD_two (i := 2) (j := 6) kr_ ?_ ?_
  ·skip
   refine RO_fx rfl rfl rfl rfl (Fx_litS (vs := [nv k]) sl_29 ze_3 rfl rfl rfl rfl rfl) ?_
   rintro _ _ ⟨b21, rfl, rfl⟩
   refine ⟨Or.inr sub_, ?_⟩
   refine RD_two (i := 3) (j := 6) kr_ ?_ ?_
   ·skip
    refine RO_fx rfl rfl rfl rfl (Fx_appTG (xs := nats (d1.map Prod.fst)) (r := ro1) (news := [nv k]) (n := d1.length) (cap := co1) (m := 1) (c := 1) rfl rfl sl_29 by_3 ze_3 rfl rem_ rem_ (by rw [hro1, Nat.mul_one]) (by simp) rfl (by intro u hu; rw [List.mem_singleton.1 hu]; rfl) om_ om_ om_) ?_
    rintro _ _ ⟨go2, co2, ro2, rfl, hro2, rfl⟩
    refine ⟨Or.inr sub_, ?_⟩
    refine RD_o 6 ?_
    refine RO_fx rfl rfl rfl rfl (Fx_litS (vs := [v]) sl_30 ze_36 rfl rfl rfl rfl (by simp [hv1])) ?_
    rintro _ _ ⟨b25, rfl, rfl⟩
    refine ⟨Or.inr sub_, ?_⟩
    refine RD_o 7 ?_
    refine RO_fx rfl rfl rfl rfl (Fx_appTG (xs := vs1) (r := rp1) (news := [v]) (n := d1.length) (cap := cp1) (m := 1) (c := 1) rfl rfl sl_30 by_36 ze_36 rfl rem_ rem_ (by rw [hrp1, Nat.mul_one]) (by rw [hvs1.len, List.length_map, Nat.mul_one]) rfl (by intro u hu; rw [List.mem_singleton.1 hu]; exact hv1) om_ om_ om_) ?_
    rintro _ _ ⟨gp2, cp2, rp2, rfl, hrp2, rfl⟩
    refine ⟨Or.inr sub_, ?_⟩
    refine RD_o 8 ?_
    refine RO_fx0 rfl rfl rfl (Fx_store (v := .slice (some ⟨go2, 0, none⟩) (d1.length + 1) co2) (b := bo) (off := 0) rfl rfl sz_29 rfl rep_ (by simp)) ?_
    rintro _ _ rfl
    refine ⟨Or.inl kr_, ?_⟩
    refine RD_o 9 ?_
    refine RO_fx0 rfl rfl rfl (Fx_store (v := .slice (some ⟨gp2, 0, none⟩) (d1.length + 1) cp2) (b := bp) (off := 0) rfl rfl sz_30 rfl rep_ (by simp)) ?_
    rintro _ _ rfl
    refine ⟨Or.inl kr_, ?_⟩
    refine RD_done kr_ ?_
    rw [e1] at hro2
    rw [← hvs2e] at hrp2
    rw [e1, e2, ← hvs2e]
    rw [Nat.mul_one] at hro2 hrp2
    exact QW_cu (go2, co2, gp2, cp2, ro2, rp2) ⟨hro2, hrp2⟩
   skip
   refine RO_fx rfl rfl rfl rfl (Fx_litS (vs := [v]) sl_30 ze_36 rfl rfl rfl rfl (by simp [hv1])) ?_
   rintro _ _ ⟨b25, rfl, rfl⟩
   refine ⟨Or.inr sub_, ?_⟩
   refine RD_o 3 ?_
   refine RO_fx rfl rfl rfl rfl (Fx_appTG (xs := nats (d1.map Prod.fst)) (r := ro1) (news := [nv k]) (n := d1.length) (cap := co1) (m := 1) (c := 1) rfl rfl sl_29 by_3 ze_3 rfl rem_ rem_ (by rw [hro1, Nat.mul_one]) (by simp) rfl (by intro u hu; rw [List.mem_singleton.1 hu]; rfl) om_ om_ om_) ?_
   rintro _ _ ⟨go2, co2, ro2, rfl, hro2, rfl⟩
   refine ⟨Or.inr sub_, ?_⟩
   refine RD_o 7 ?_
   refine RO_fx rfl rfl rfl rfl (Fx_appTG (xs := vs1) (r := rp1) (news := [v]) (n := d1.length) (cap := cp1) (m := 1) (c := 1) rfl rfl sl_30 by_36 ze_36 rfl rem_ rem_ (by rw [hrp1, Nat.mul_one]) (by rw [hvs1.len, List.length_map, Nat.mul_one]) rfl (by intro u hu; rw [List.mem_singleton.1 hu]; exact hv1) om_ om_ om_) ?_
   rintro _ _ ⟨gp2, cp2, rp2, rfl, hrp2, rfl⟩
   refine ⟨Or.inr sub_, ?_⟩
   refine RD_o 8 ?_
   refine RO_fx0 rfl rfl rfl (Fx_store (v := .slice (some ⟨go2, 0, none⟩) (d1.length + 1) co2) (b := bo) (off := 0) rfl rfl sz_29 rfl rep_ (by simp)) ?_
   rintro _ _ rfl
   refine ⟨Or.inl kr_, ?_⟩
   refine RD_o 9 ?_
   refine RO_fx0 rfl rfl rfl (Fx_store (v := .slice (some ⟨gp2, 0, none⟩) (d1.length + 1) cp2) (b := bp) (off := 0) rfl rfl sz_30 rfl rep_ (by simp)) ?_
   rintro _ _ rfl
   refine ⟨Or.inl kr_, ?_⟩
   refine RD_done kr_ ?_
   rw [e1] at hro2
   rw [← hvs2e] at hrp2
   rw [e1, e2, ← hvs2e]
   rw [Nat.mul_one] at hro2 hrp2
   exact QW_cu (go2, co2, gp2, cp2, ro2, rp2) ⟨hro2, hrp2⟩
  skip
  refine RO_fx rfl rfl rfl rfl (Fx_litS (vs := [v]) sl_30 ze_36 rfl rfl rfl rfl (by simp [hv1])) ?_
  rintro _ _ ⟨b25, rfl, rfl⟩
  refine ⟨Or.inr sub_, ?_⟩
  refine RD_o 2 ?_
  refine RO_fx rfl rfl rfl rfl (Fx_litS (vs := [nv k]) sl_29 ze_3 rfl rfl rfl rfl rfl) ?_
  rintro _ _ ⟨b21, rfl, rfl⟩
  refine ⟨Or.inr sub_, ?_⟩
  refine RD_o 3 ?_
  refine RO_fx rfl rfl rfl rfl (Fx_appTG (xs := nats (d1.map Prod.fst)) (r := ro1) (news := [nv k]) (n := d1.length) (cap := co1) (m := 1) (c := 1) rfl rfl sl_29 by_3 ze_3 rfl rem_ rem_ (by rw [hro1, Nat.mul_one]) (by simp) rfl (by intro u hu; rw [List.mem_singleton.1 hu]; rfl) om_ om_ om_) ?_
  rintro _ _ ⟨go2, co2, ro2, rfl, hro2, rfl⟩
  refine ⟨Or.inr sub_, ?_⟩
  refine RD_o 7 ?_
  refine RO_fx rfl rfl rfl rfl (Fx_appTG (xs := vs1) (r := rp1) (news := [v]) (n := d1.length) (cap := cp1) (m := 1) (c := 1) rfl rfl sl_30 by_36 ze_36 rfl rem_ rem_ (by rw [hrp1, Nat.mul_one]) (by rw [hvs1.len, List.length_map, Nat.mul_one]) rfl (by intro u hu; rw [List.mem_singleton.1 hu]; exact hv1) om_ om_ om_) ?_
  rintro _ _ ⟨gp2, cp2, rp2, rfl, hrp2, rfl⟩
  refine ⟨Or.inr sub_, ?_⟩
  refine RD_o 8 ?_
  refine RO_fx0 rfl rfl rfl (Fx_store (v := .slice (some ⟨go2, 0, none⟩) (d1.length + 1) co2) (b := bo) (off := 0) rfl rfl sz_29 rfl rep_ (by simp)) ?_
  rintro _ _ rfl
  refine ⟨Or.inl kr_, ?_⟩
  refine RD_o 9 ?_
  refine RO_fx0 rfl rfl rfl (Fx_store (v := .slice (some ⟨gp2, 0, none⟩) (d1.length + 1) cp2) (b := bp) (off := 0) rfl rfl sz_30 rfl rep_ (by simp)) ?_
  rintro _ _ rfl
  refine ⟨Or.inl kr_, ?_⟩
  refine RD_done kr_ ?_
  rw [e1] at hro2
  rw [← hvs2e] at hrp2
  rw [e1, e2, ← hvs2e]
  rw [Nat.mul_one] at hro2 hrp2
  exact QW_cu (go2, co2, gp2, cp2, ro2, rp2) ⟨hro2, hrp2⟩
 rintro ⟨go2, co2, gp2, cp2, ro2, rp2⟩ ⟨hro2, hrp2⟩
 simp only at hro2 hrp2 ⊢
 refine CW_sr ?_
 refine RW_m ?_
 refine RW_a ?_
 refine RW_lv [0,1,2,3,8] ?_
 refine CW_cut (σ := Heap × Value) (fun q => [(0, nv k), (1, v), (2, pv bF), (3, pv bn), (8, q.2)]) (fun q => (bF, blk [.func (.func 30) #[] #[pv bF, pv bn, pv bo, pv bp]] 77) :: (bn, blk [.slice (some ⟨g, 0, none⟩) ns.length cap] 25) :: (g, blk (nms ns ++ rn) 43) :: (bo, blk [.slice (some ⟨go2, 0, none⟩) d2.length co2] 29) :: (go2, blk (nats (d2.map Prod.fst) ++ ro2) 3) :: (bp, blk [.slice (some ⟨gp2, 0, none⟩) d2.length cp2] 30) :: (gp2, blk (vs2 ++ rp2) 36) :: (q.1 ++ F)) (fun q => (∀ x ∈ pp1, x ∈ q.1) ∧ PathC q.1 q.2 (if k = 0 then p else p ++ [nmOf ns k])) ?_ ?_
 ·skip
  refine CW_sr ?_
  refine RW_m ?_
  refine RW_l (Yl_gtr rfl rfl) ?_
  refine RW_lv [0,1,2,3,8,29] ?_
  refine CW_cd rfl (fun hc2 => ?_) (fun hc2 => ?_)
  ·refine CW_draw [] [(bn, blk [.slice (some ⟨g, 0, none⟩) ns.length cap] 25), (g, blk (nms ns ++ rn) 43)] mixed sub_ ?_
   refine RD_m 1 ?_
   refine RD_m 4 ?_
   refine RD_h (i := 3) #[true, true, true, false, true, false, false, false, false, false, false] rfl rfl rfl rfl kr_ (fun _ _ _ h => h) (Yh_ld (v := .slice (some ⟨g, 0, none⟩) ns.length cap) sc_25) ?_
   refine RD_l 5 rfl (Yl_indexN (b := g) (off := 0) (i := k) (o' := k * 28) rfl rfl sl_25 hk om_) ?_
   refine RD_f 6 fo_43_0 ?_
   refine RD_h (i := 7) #[true, true, true, true, true, true, true, false, false, false, false] rfl rfl rfl rfl kr_ (fun _ _ _ h => h) (Yh_lh (v := .string (bar (nmOf ns k))) sc_9 (at_nm hk rfl)) ?_
   refine RD_two (i := 0) (j := 8) kr_ ?_ ?_
   ·skip
    refine RO_fx rfl rfl rfl rfl (Fx_buildSlice0 sl_36) ?_
    rintro _ _ ⟨b30, rfl, rfl⟩
    refine ⟨Or.inr sub_, ?_⟩
    refine RD_two (i := 2) (j := 8) kr_ ?_ ?_
    ·skip
     refine RO_fx rfl rfl rfl rfl (Fx_patha (g := b30) (v := v) (p := p) (pp := pp1) rfl rfl rem_ hv (fun x hx => (by repeat (first | exact List.mem_append_left _ hx | apply List.Mem.tail))) om_) ?_
     rintro _ _ ⟨g32, c32, r32, rfl, hr32, rfl⟩
     refine ⟨Or.inr sub_, ?_⟩
     refine RD_o 8 ?_
     refine RO_fx rfl rfl rfl rfl (Fx_litS (vs := [.string (bar (nmOf ns k))]) sl_36 ze_9 rfl rfl rfl rfl rfl) ?_
     rintro _ _ ⟨b38, rfl, rfl⟩
     refine ⟨Or.inr sub_, ?_⟩
     refine RD_o 9 ?_
     refine RO_fx rfl rfl rfl rfl (Fx_appTG (xs := strs p) (r := r32) (news := [.string (bar (nmOf ns k))]) (n := p.length) (cap := c32) (m := 1) (c := 1) rfl rfl sl_36 by_9 ze_9 rfl rem_ rem_ hr32 (by simp) rfl (by intro u hu; rw [List.mem_singleton.1 hu]; rfl) om_ om_ om_) ?_
     rintro _ _ ⟨g39, c39, r39, rfl, hr39, rfl⟩
     refine ⟨Or.inr sub_, ?_⟩
     refine RD_a 10 ?_
     refine RD_done kr_ ?_
     first
      | (have hk0 : k = 0 := (by omega); rw [if_pos hk0]; exact QW_cut (pp1, v) ⟨fun _ h => h, hv⟩ (by repeat (first | exact Prm.nil _ | exact Rem.here _ _ | apply Rem.there | apply Prm.cons)) (.cons rfl (.cons rfl (.cons rfl (.cons rfl (.cons rfl .nil))))))
      | (have hk0 : ¬ k = 0 := (by omega); rw [if_neg hk0, strs_snoc] at *; exact QW_cut ((g39, blk (strs (p ++ [nmOf ns k]) ++ r39) 9) :: pp1, .slice (some ⟨g39, 0, none⟩) (p ++ [nmOf ns k]).length c39) ⟨fun x hx => List.Mem.tail _ hx, .inr ⟨g39, c39, r39, by simp, rfl, List.Mem.head _⟩⟩ (by simp only [List.cons_append]; repeat (first | exact Prm.nil _ | exact Rem.here _ _ | apply Rem.there | apply Prm.cons)) (.cons rfl (.cons rfl (.cons rfl (.cons rfl (.cons (by rw [List.length_append]; rfl) .nil))))))
    skip
    refine RO_fx rfl rfl rfl rfl (Fx_litS (vs := [.string (bar (nmOf ns k))]) sl_36 ze_9 rfl rfl rfl rfl rfl) ?_
    rintro _ _ ⟨b38, rfl, rfl⟩
    refine ⟨Or.inr sub_, ?_⟩
    refine RD_o 2 ?_
    refine RO_fx rfl rfl rfl rfl (Fx_patha (g := b30) (v := v) (p := p) (pp := pp1) rfl rfl rem_ hv (fun x hx => (by repeat (first | exact List.mem_append_left _ hx | apply List.Mem.tail))) om_) ?_
    rintro _ _ ⟨g32, c32, r32, rfl, hr32, rfl⟩
    refine ⟨Or.inr sub_, ?_⟩
    refine RD_o 9 ?_
    refine RO_fx rfl rfl rfl rfl (Fx_appTG (xs := strs p) (r := r32) (news := [.string (bar (nmOf ns k))]) (n := p.length) (cap := c32) (m := 1) (c := 1) rfl rfl sl_36 by_9 ze_9 rfl rem_ rem_ hr32 (by simp) rfl (by intro u hu; rw [List.mem_singleton.1 hu]; rfl) om_ om_ om_) ?_
    rintro _ _ ⟨g39, c39, r39, rfl, hr39, rfl⟩
    refine ⟨Or.inr sub_, ?_⟩
    refine RD_a 10 ?_
    refine RD_done kr_ ?_
    first
     | (have hk0 : k = 0 := (by omega); rw [if_pos hk0]; exact QW_cut (pp1, v) ⟨fun _ h => h, hv⟩ (by repeat (first | exact Prm.nil _ | exact Rem.here _ _ | apply Rem.there | apply Prm.cons)) (.cons rfl (.cons rfl (.cons rfl (.cons rfl (.cons rfl .nil))))))
     | (have hk0 : ¬ k = 0 := (by omega); rw [if_neg hk0, strs_snoc] at *; exact QW_cut ((g39, blk (strs (p ++ [nmOf ns k]) ++ r39) 9) :: pp1, .slice (some ⟨g39, 0, none⟩) (p ++ [nmOf ns k]).length c39) ⟨fun x hx => List.Mem.tail _ hx, .inr ⟨g39, c39, r39, by simp, rfl, List.Mem.head _⟩⟩ (by simp only [List.cons_append]; repeat (first | exact Prm.nil _ | exact Rem.here _ _ | apply Rem.there | apply Prm.cons)) (.cons rfl (.cons rfl (.cons rfl (.cons rfl (.cons (by rw [List.length_append]; rfl) .nil))))))
   skip
   refine RO_fx rfl rfl rfl rfl (Fx_litS (vs := [.string (bar (nmOf ns k))]) sl_36 ze_9 rfl rfl rfl rfl rfl) ?_
   rintro _ _ ⟨b38, rfl, rfl⟩
   refine ⟨Or.inr sub_, ?_⟩
   refine RD_o 0 ?_
   refine RO_fx rfl rfl rfl rfl (Fx_buildSlice0 sl_36) ?_
   rintro _ _ ⟨b30, rfl, rfl⟩
   refine ⟨Or.inr sub_, ?_⟩
   refine RD_o 2 ?_
   refine RO_fx rfl rfl rfl rfl (Fx_patha (g := b30) (v := v) (p := p) (pp := pp1) rfl rfl rem_ hv (fun x hx => (by repeat (first | exact List.mem_append_left _ hx | apply List.Mem.tail))) om_) ?_
   rintro _ _ ⟨g32, c32, r32, rfl, hr32, rfl⟩
   refine ⟨Or.inr sub_, ?_⟩
   refine RD_o 9 ?_
   refine RO_fx rfl rfl rfl rfl (Fx_appTG (xs := strs p) (r := r32) (news := [.string (bar (nmOf ns k))]) (n := p.length) (cap := c32) (m := 1) (c := 1) rfl rfl sl_36 by_9 ze_9 rfl rem_ rem_ hr32 (by simp) rfl (by intro u hu; rw [List.mem_singleton.1 hu]; rfl) om_ om_ om_) ?_
   rintro _ _ ⟨g39, c39, r39, rfl, hr39, rfl⟩
   refine ⟨Or.inr sub_, ?_⟩
   refine RD_a 10 ?_
   refine RD_done kr_ ?_
   first
    | (have hk0 : k = 0 := (by omega); rw [if_pos hk0]; exact QW_cut (pp1, v) ⟨fun _ h => h, hv⟩ (by repeat (first | exact Prm.nil _ | exact Rem.here _ _ | apply Rem.there | apply Prm.cons)) (.cons rfl (.cons rfl (.cons rfl (.cons rfl (.cons rfl .nil))))))
    | (have hk0 : ¬ k = 0 := (by omega); rw [if_neg hk0, strs_snoc] at *; exact QW_cut ((g39, blk (strs (p ++ [nmOf ns k]) ++ r39) 9) :: pp1, .slice (some ⟨g39, 0, none⟩) (p ++ [nmOf ns k]).length c39) ⟨fun x hx => List.Mem.tail _ hx, .inr ⟨g39, c39, r39, by simp, rfl, List.Mem.head _⟩⟩ (by simp only [List.cons_append]; repeat (first | exact Prm.nil _ | exact Rem.here _ _ | apply Rem.there | apply Prm.cons)) (.cons rfl (.cons rfl (.cons rfl (.cons rfl (.cons (by rw [List.length_append]; rfl) .nil))))))
  refine CW_skip ?_
  first
   | (have hk0 : k = 0 := (by omega); rw [if_pos hk0]; exact QW_cut (pp1, v) ⟨fun _ h => h, hv⟩ (by repeat (first | exact Prm.nil _ | exact Rem.here _ _ | apply Rem.there | apply Prm.cons)) (.cons rfl (.cons rfl (.cons rfl (.cons rfl (.cons rfl .nil))))))
   | (have hk0 : ¬ k = 0 := (by omega); rw [if_neg hk0, strs_snoc] at *; exact QW_cut ((g39, blk (strs (p ++ [nmOf ns k]) ++ r39) 9) :: pp1, .slice (some ⟨g39, 0, none⟩) (p ++ [nmOf ns k]).length c39) ⟨fun x hx => List.Mem.tail _ hx, .inr ⟨g39, c39, r39, by simp, rfl, List.Mem.head _⟩⟩ (by simp only [List.cons_append]; repeat (first | exact Prm.nil _ | exact Rem.here _ _ | apply Rem.there | apply Prm.cons)) (.cons rfl (.cons rfl (.cons rfl (.cons rfl (.cons (by rw [List.length_append]; rfl) .nil))))))
 rintro ⟨pp2, v2⟩ ⟨hs2, hv2⟩
 simp only at hs2 hv2 ⊢
 refine CW_seq ?_
 have hdl2 : d2.length = done.length + a.length + 1 := by rw [← e2, hdl]
 have hih := ihc d2 vs2 go2 co2 gp2 cp2 ro2 rp2 pp2 v2 hv2 (hvs2.more hs2) hro2 hrp2 om_ (by split <;> (try simp only [List.length_append, List.length_singleton]) <;> omega)
 refine CW_draw [7] _ mixed (Sub.refl _) ?_
 refine RD_m 2 ?_
 refine RD_m 6 ?_
 refine RD_h (i := 0) #[false, true, true, true, true, true, true, false] rfl rfl rfl rfl kr_ (fun _ _ _ h => h) (Yh_ld (v := .func (.func 30) #[] #[pv bF, pv bn, pv bo, pv bp]) sc_77) ?_
 refine RD_h (i := 1) #[true, false, true, false, false, false, true, false] rfl rfl rfl rfl kr_ (fun _ _ _ h => h) (Yh_ld (v := .slice (some ⟨g, 0, none⟩) ns.length cap) sc_25) ?_
 refine RD_l 3 rfl (Yl_indexN (b := g) (off := 0) (i := k) (o' := k * 28) rfl rfl sl_25 hk om_) ?_
 refine RD_f 4 fo_43_5 ?_
 refine RD_h (i := 5) #[true, true, true, true, true, false, true, false] rfl rfl rfl rfl kr_ (fun _ _ _ h => h) (Yh_lh (v := iv (chdF ns k)) sc_3 (at_child hk rfl)) ?_
 refine RD_o 7 ?_
 refine RO_fx rfl rfl rfl rfl (Fx_callV ok_30 (fs := []) (cs := [pv bF, pv bn, pv bo, pv bp]) (vs := [iv (chdF ns k), v2]) rfl rfl (by exact (Pick.cons rem_ (Pick.cons rem_ (Pick.cons rem_ (Pick.cons rem_ (Pick.cons rem_ (Pick.cons rem_ (Pick.cons rem_ (pick_app _ F))))))))) hih) ?_
 rintro _ _ ⟨_, ⟨rfl, vs4, go4, co4, gp4, cp4, ro4, rp4, pp4, hvs4, hro4, hrp4, hsub4, rfl⟩, rfl⟩
 simp only [List.cons_append]
 refine ⟨Or.inl kr_, ?_⟩
 refine (RD_done kr_ (QW_lv [0,1,2,3] ?_))
 obtain ⟨d3, hd3⟩ : ∃ d3, d3 = d2 ++ c := ⟨_, rfl⟩
 rw [← hd3] at hvs4 hro4
 rw [← hd3]
 clear hih
 have hdl3 : d3.length = d2.length + c.length := by rw [hd3]; simp
 have hih := ihb d3 vs4 go4 co4 gp4 cp4 ro4 rp4 pp4 v (hv.more fun x hx => hsub4 x (hs2 x hx)) hvs4 hro4 hrp4 om_ om_
 have hfin : done ++ (a ++ (k, p) :: (c ++ b)) = d3 ++ b := by rw [hd3, hd2, hd1]; simp
 refine CW_draw [7] _ mixed (Sub.refl _) ?_
 refine RD_m 2 ?_
 refine RD_m 6 ?_
 refine RD_h (i := 0) #[false, true, true, true, true, true, true, false] rfl rfl rfl rfl kr_ (fun _ _ _ h => h) (Yh_ld (v := .func (.func 30) #[] #[pv bF, pv bn, pv bo, pv bp]) sc_77) ?_
 refine RD_h (i := 1) #[true, false, true, false, false, false, true, false] rfl rfl rfl rfl kr_ (fun _ _ _ h => h) (Yh_ld (v := .slice (some ⟨g, 0, none⟩) ns.length cap) sc_25) ?_
 refine RD_l 3 rfl (Yl_indexN (b := g) (off := 0) (i := k) (o' := k * 28) rfl rfl sl_25 hk om_) ?_
 refine RD_f 4 fo_43_4 ?_
 refine RD_h (i := 5) #[true, true, true, true, true, false, true, false] rfl rfl rfl rfl kr_ (fun _ _ _ h => h) (Yh_lh (v := iv (rtF ns k)) sc_3 (at_right hk rfl)) ?_
 refine RD_o 7 ?_
 refine RO_fx rfl rfl rfl rfl (Fx_callV ok_30 (fs := []) (cs := [pv bF, pv bn, pv bo, pv bp]) (vs := [iv (rtF ns k), v]) rfl rfl (by exact (Pick.cons rem_ (Pick.cons rem_ (Pick.cons rem_ (Pick.cons rem_ (Pick.cons rem_ (Pick.cons rem_ (Pick.cons rem_ (pick_app _ F))))))))) hih) ?_
 rintro _ _ ⟨_, ⟨rfl, vs5, go5, co5, gp5, cp5, ro5, rp5, pp5, hvs5, hro5, hrp5, hsub5, rfl⟩, rfl⟩
 simp only [List.cons_append]
 refine ⟨Or.inl kr_, ?_⟩
 refine RD_done kr_ ?_
 refine QW_end0 rfl ((bF, blk [.func (.func 30) #[] #[pv bF, pv bn, pv bo, pv bp]] 77) :: (bn, blk [.slice (some ⟨g, 0, none⟩) ns.length cap] 25) :: (g, blk (nms ns ++ rn) 43) :: (bo, blk [.slice (some ⟨go5, 0, none⟩) (d3 ++ b).length co5] 29) :: (go5, blk (nats ((d3 ++ b).map Prod.fst) ++ ro5) 3) :: (bp, blk [.slice (some ⟨gp5, 0, none⟩) (d3 ++ b).length cp5] 30) :: (gp5, blk (vs5 ++ rp5) 36) :: pp5) ⟨rfl, vs5, go5, co5, gp5, cp5, ro5, rp5, pp5, ?_, ?_, hrp5, fun x hx => hsub5 x (hsub4 x (hs2 x (hsub1 x hx))), ?_⟩ (Prm.nil _)
 ·rw [hfin]; exact hvs5
 ·rw [hfin]; exact hro5
 rw [hfin]
theorem order_any (ns : List Nm) (g cap bF bn bo bp : Nat) (rn : List Value) (hk2 : ns.length ≤ 1000) {t : Int} {p : List (List UInt8)} {o : List (Nat × List (List UInt8))} (h : OT (lfF ns) (rtF ns) (chdF ns) (nmOf ns) t p o) : (∀ k ∈ o.map Prod.fst, k < ns.length) → OCt ns g cap bF bn bo bp rn t p o := by
 induction h with
 | nil => intro _; exact order_nil ns g cap bF bn bo bp rn _
 | node ha hc hb iha ihc ihb =>
  intro hk
  simp only [List.map_append, List.map_cons, List.mem_append, List.mem_cons] at hk
  exact order_step ns g cap bF bn bo bp rn _ (hk _ (.inr (.inl rfl))) hk2 _ _ _ _ (iha fun x hx => hk x (.inl hx)) (ihc fun x hx => hk x (.inr (.inr (.inl hx)))) (ihb fun x hx => hk x (.inr (.inr (.inr hx))))

theorem Order_ct (ns : List Nm) (g cap : Nat) (rn : List Value) (o : List (Nat × List (List UInt8))) (hk2 : ns.length ≤ 1000) (hol : o.length ≤ 1000) (ho : OT (lfF ns) (rtF ns) (chdF ns) (nmOf ns) ((0 : Nat) : Int) [] o) (hk : ∀ k ∈ o.map Prod.fst, k < ns.length) :
  Ct Tryd.prog 17 [.slice (some ⟨g, 0, none⟩) ns.length cap] [(g, blk (nms ns ++ rn) 43)] (fun v q => ∃ vs go co ro gp cp rp pp, v = .tuple #[.slice (some ⟨go, 0, none⟩) o.length co, .slice (some ⟨gp, 0, none⟩) o.length cp] ∧ VsOk pp vs (o.map Prod.snd) ∧ (nats (o.map Prod.fst) ++ ro).length = co ∧ (vs ++ rp).length = cp ∧ q = (g, blk (nms ns ++ rn) 43) :: (go, blk (nats (o.map Prod.fst) ++ ro) 3) :: (gp, blk (vs ++ rp) 36) :: pp) := by
 refine Ct_of Tryd.func17 rfl Tryd.ntmps17 rfl ?_
 intro E F
 simp only [numL, List.nil_append, List.cons_append]
 refine CW_sr ?_
 refine RW_fx rfl rfl rfl (Fx_box (zs := [.slice (some ⟨g, 0, none⟩) ns.length cap]) rfl rfl) ?_
 rintro _ _ ⟨bn, rfl, rfl⟩
 refine RW_a ?_
 refine RW_a ?_
 refine RW_lv [1] ?_
 refine CW_sr ?_
 refine RW_fx rfl rfl rfl (Fx_buildSlice0 sl_29) ?_
 rintro _ _ ⟨go, rfl, rfl⟩
 refine RW_fx rfl rfl rfl (Fx_buildSlice0 sl_30) ?_
 rintro _ _ ⟨gp, rfl, rfl⟩
 refine RW_fx rfl rfl rfl (Fx_alloc (zs := [.slice none 0 0]) ze_29 rfl) ?_
 rintro _ _ ⟨bo, rfl, rfl⟩
 refine RW_fx rfl rfl rfl (Fx_alloc (zs := [.slice none 0 0]) ze_30 rfl) ?_
 rintro _ _ ⟨bp, rfl, rfl⟩
 refine RW_fx0 rfl rfl (Fx_store (v := .slice (some ⟨go, 0, none⟩) 0 0) (b := bo) (off := 0) rfl rfl sz_29 rfl rep_ (by simp)) ?_
 rintro _ _ rfl
 refine RW_fx0 rfl rfl (Fx_store (v := .slice (some ⟨gp, 0, none⟩) 0 0) (b := bp) (off := 0) rfl rfl sz_30 rfl rep_ (by simp)) ?_
 rintro _ _ rfl
 refine RW_lv [1,4,5] ?_
 refine CW_sr ?_
 refine RW_fx rfl rfl rfl (Fx_alloc (zs := [.nilFunc]) ze_77 rfl) ?_
 rintro _ _ ⟨bF, rfl, rfl⟩
 refine RW_lv [1,4,5,6] ?_
 refine CW_sr ?_
 refine RW_l (Yl_makeFunc (us := []) (vs := [pv bF, pv bn, pv bo, pv bp]) rfl rfl) ?_
 refine RW_fx0 rfl rfl (Fx_store (v := .func (.func 30) #[] #[pv bF, pv bn, pv bo, pv bp]) (b := bF) (off := 0) rfl rfl sz_77 rfl rep_ (by simp)) ?_
 rintro _ _ rfl
 refine RW_lv [4,5,6] ?_
 refine CW_seq ?_
 have hih := order_any ns g cap bF bn bo bp rn hk2 ho hk [] [] go 0 gp 0 [] [] [] (.slice none 0 0) (.inl ⟨rfl, rfl⟩) (VsOk.nil _) rfl rfl (by simp; omega) (by simp; omega)
 refine CW_region ?_
 refine RW_h (Yh_ld (v := .func (.func 30) #[] #[pv bF, pv bn, pv bo, pv bp]) sc_77) ?_
 refine RW_fx rfl rfl rfl (Fx_callV ok_30 (fs := []) (cs := [pv bF, pv bn, pv bo, pv bp]) (vs := [iv ((0 : Nat) : Int), .slice none 0 0]) rfl rfl (by exact (Pick.cons rem_ (Pick.cons rem_ (Pick.cons rem_ (Pick.cons rem_ (Pick.cons rem_ (Pick.cons rem_ (Pick.cons rem_ (pick_app [] F))))))))) hih) ?_
 rintro _ _ ⟨_, ⟨rfl, vs1, go1, co1, gp1, cp1, ro1, rp1, pp1, hvs1, hro1, hrp1, hsub1, rfl⟩, rfl⟩
 simp only [List.cons_append, List.nil_append]
 rw [List.nil_append] at hvs1 hro1
 refine RW_lv [4,5] ?_
 refine CW_seq ?_
 refine CW_draw [] _ mixed (Sub.refl _) ?_
 refine RD_h (i := 0) #[false, true, false, false] rfl rfl rfl rfl kr_ (fun _ _ _ h => h) (Yh_ld (v := .slice (some ⟨go1, 0, none⟩) o.length co1) sc_29) ?_
 refine RD_a 2 ?_
 refine RD_h (i := 1) #[true, false, true, false] rfl rfl rfl rfl kr_ (fun _ _ _ h => h) (Yh_ld (v := .slice (some ⟨gp1, 0, none⟩) o.length cp1) sc_30) ?_
 refine RD_a 3 ?_
 refine (RD_done kr_ (QW_lv [2,3] ?_))
 refine CW_ret ?_
 refine QW_sub (H' := (g, blk (nms ns ++ rn) 43) :: (go1, blk (nats (o.map Prod.fst) ++ ro1) 3) :: (gp1, blk (vs1 ++ rp1) 36) :: (pp1 ++ F)) ?_ ?_
 ·exact .cons _ (.cons _ (.cons_cons _ (.cons _ (.cons_cons _ (.cons _ (.cons_cons _ (.refl _)))))))
 exact QW_ret2 rfl rfl rfl ((g, blk (nms ns ++ rn) 43) :: (go1, blk (nats (o.map Prod.fst) ++ ro1) 3) :: (gp1, blk (vs1 ++ rp1) 36) :: pp1) ⟨vs1, go1, co1, ro1, gp1, cp1, rp1, pp1, rfl, hvs1, hro1, hrp1, rfl⟩ (Prm.nil _)

theorem STree.links {L R : Nat → Int} {pl : List Nat} {t : Int} (h : STree L R pl t) : ∀ k ∈ pl, (L k = -1 ∨ ∃ j ∈ pl, L k = (j : Int)) ∧ (R k = -1 ∨ ∃ j ∈ pl, R k = (j : Int)) := by
  induction h with
  | nil => intro k hk; cases hk
  | node ha hb iha ihb =>
    rename_i a b m
    intro k hk
    have up : ∀ {q : List Nat} {z : Int}, (∀ x ∈ q, x ∈ a ++ m :: b) → (z = -1 ∨ ∃ j ∈ q, z = (j : Int)) → (z = -1 ∨ ∃ j ∈ a ++ m :: b, z = (j : Int)) := fun hs h => h.imp id fun ⟨j, h1, h2⟩ => ⟨j, hs j h1, h2⟩
    have sa : ∀ x ∈ a, x ∈ a ++ m :: b := fun x hx => List.mem_append_left _ hx
    have sb : ∀ x ∈ b, x ∈ a ++ m :: b := fun x hx => List.mem_append_right _ (List.mem_cons_of_mem _ hx)
    have top : ∀ {q : List Nat} {z : Int}, STree L R q z → (z = -1 ∨ ∃ j ∈ q, z = (j : Int)) := fun h => h.top.imp (fun h => h.2) id
    rcases List.mem_append.1 hk with hk | hk
    · exact ⟨up sa (iha k hk).1, up sa (iha k hk).2⟩
    rcases List.mem_cons.1 hk with rfl | hk
    · exact ⟨up sa (top ha), up sb (top hb)⟩
    exact ⟨up sb (ihb k hk).1, up sb (ihb k hk).2⟩
section
variable {ns : List Nm}
theorem Lnk.bound {ls : Nat → List Nat} {par : Nat → Nat} (h : Lnk ns ls par) {k : Nat} (hk : k < ns.length) (hn : ns.length ≤ 100000) : (-1 ≤ lfF ns k ∧ lfF ns k ≤ 100000) ∧ (-1 ≤ rtF ns k ∧ rtF ns k ≤ 100000) ∧ (-1 ≤ chdF ns k ∧ chdF ns k ≤ 100000) := by
  have b : ∀ {q : Nat} {z : Int}, (z = -1 ∨ ∃ j ∈ ls q, z = (j : Int)) → -1 ≤ z ∧ z ≤ 100000 := by
    intro q z hz
    rcases hz with hz | ⟨j, hj, hz⟩
    · omega
    have := (h.pl.mem q j).1 hj; omega
  have hc : chdF ns k = -1 ∨ ∃ j ∈ ls k, chdF ns k = (j : Int) := (h.tree k hk).top.imp (fun h => h.2) id
  rcases Nat.eq_zero_or_pos k with h0 | h0
  · subst h0
    have := h.root
    exact ⟨by omega, by omega, b hc⟩
  have hl := h.pl.lt k h0 hk
  have hm : k ∈ ls (par k) := (h.pl.mem _ k).2 ⟨h0, hk, rfl⟩
  have h1 := STree.links (h.tree (par k) om_) k hm
  exact ⟨b h1.1, b h1.2, b hc⟩
theorem root_ok {l r c : Int} (hl : -1 ≤ l ∧ l ≤ 100000) (hr : -1 ≤ r ∧ r ≤ 100000) (hc : -1 ≤ c ∧ c ≤ 100000) : (rootNm.turn l r c).ok :=
  ⟨fun _ => rfl, by simp [rootNm, mkNm, Nm.turn], by simp [rootNm, mkNm, Nm.turn], by simp [rootNm, mkNm, Nm.turn], hl, hr, hc, by simp [rootNm, mkNm, Nm.turn], by simp [rootNm, mkNm, Nm.turn]⟩
theorem NodesOk.ok_at (h : NodesOk ns) {k : Nat} (hk : k < ns.length) : (ns.getD k default).ok := by
  obtain ⟨ls, par, hL⟩ := h.lnk
  have hn := h.len
  have hb := hL.bound hk om_
  unfold lfF rtF chdF at hb
  rcases Nat.eq_zero_or_pos k with h0 | h0
  · subst h0
    obtain ⟨c, e⟩ := h.root
    rw [e] at hb ⊢
    exact root_ok om_ om_ hb.2.2
  obtain ⟨y, l, r, c, hy, e⟩ := h.made k h0 hk
  rw [e] at hb ⊢
  exact (hy.nd.turn hb.1 hb.2.1 hb.2.2).ok
theorem NodesOk.ok (h : NodesOk ns) : ∀ x ∈ ns, x.ok := by
  intro x hx
  obtain ⟨k, hk, rfl⟩ := List.mem_iff_getElem.1 hx
  have := h.ok_at hk
  rwa [List.getD_eq_getElem?_getD, List.getElem?_eq_getElem hk] at this
theorem NodesOk.xs (h : NodesOk ns) : Ok (ns.map Nm.nd) := by
  refine ⟨by simp; exact h.len, ?_⟩
  intro x hx
  obtain ⟨y, hy, rfl⟩ := List.mem_map.1 hx
  exact (h.ok y hy).small
theorem NodesOk.lnks (h : NodesOk ns) : ∀ x ∈ ns.map Nm.nd, x.left ≤ 4294967295 ∧ x.right ≤ 4294967295 ∧ x.child ≤ 4294967295 := by
  intro x hx
  obtain ⟨y, hy, rfl⟩ := List.mem_map.1 hx
  have := h.ok y hy
  have h1 := this.left
  have h2 := this.right
  have h3 := this.child
  omega
theorem NodesOk.name (h : NodesOk ns) {k : Nat} (hk : k < ns.length) : 1 ≤ (nmOf ns k).length ∧ (nmOf ns k).length ≤ 31 ∧ (∀ c ∈ nmOf ns k, c.toNat < 128) ∧ (65 ≤ ((nmOf ns k).getD 0 0).toNat ∧ ((nmOf ns k).getD 0 0).toNat ≤ 90) := by
  unfold nmOf
  rcases Nat.eq_zero_or_pos k with h0 | h0
  · subst h0
    obtain ⟨c, e⟩ := h.root
    rw [e]
    show 1 ≤ ([82, 111, 111, 116, 32, 69, 110, 116, 114, 121] : List UInt8).length ∧ ([82, 111, 111, 116, 32, 69, 110, 116, 114, 121] : List UInt8).length ≤ 31 ∧ (∀ c ∈ ([82, 111, 111, 116, 32, 69, 110, 116, 114, 121] : List UInt8), c.toNat < 128) ∧ (65 ≤ (([82, 111, 111, 116, 32, 69, 110, 116, 114, 121] : List UInt8).getD 0 0).toNat ∧ (([82, 111, 111, 116, 32, 69, 110, 116, 114, 121] : List UInt8).getD 0 0).toNat ≤ 90)
    exact ⟨by decide, by decide, by decide, by decide, by decide⟩
  obtain ⟨y, l, r, c, hy, e⟩ := h.made k h0 hk
  rw [e]
  show 1 ≤ y.nd.name.length ∧ _ ∧ (∀ c ∈ y.nd.name, _) ∧ (65 ≤ (y.nd.name.getD 0 0).toNat ∧ (y.nd.name.getD 0 0).toNat ≤ 90)
  have h1 := hy.nd.nm
  have h2 := hy.nd.cap
  refine ⟨by omega, by show y.nd.name.length ≤ 31; omega, fun c hc => by have := h2 c hc; omega, ?_⟩
  refine h2 _ ?_
  rw [List.getD_eq_getElem?_getD, List.getElem?_eq_getElem om_]
  exact List.getElem_mem _
theorem NodesOk.names {ps : List Value} (hp : PsOk ps) (h : NodesOk ns) : ∀ k, k < (ns.map Nm.nd).length → NmOk ps ((ns.map Nm.nd).getD k default) (nmOf ns k) := by
  intro k hk
  have hk' : k < ns.length := by simpa using hk
  obtain ⟨h1, h2, h3, h4⟩ := h.name hk'
  have e : (ns.map Nm.nd).getD k default = (ns.getD k default).nd := nd_at ns k hk'
  rw [e]
  exact nmOk_cap (x := (ns.getD k default).nd) hp h1 h2 h3 h4
theorem NodesOk.data (h : NodesOk ns) {k : Nat} (hk : k < ns.length) (hs : (ns.getD k default).nd.stream = false) : (ns.getD k default).nd.data = [] := by
  rcases Nat.eq_zero_or_pos k with h0 | h0
  · subst h0
    obtain ⟨c, e⟩ := h.root
    rw [e]; rfl
  obtain ⟨y, l, r, c, hy, e⟩ := h.made k h0 hk
  rw [e] at hs ⊢
  exact hy.data hs
theorem NodesOk.tn (h : NodesOk ns) (v : Nat) {k : Nat} (hk : k < ns.length) : k < (tnsF v (ns.map Nm.nd) (nmOf ns)).length ∧ (tnsF v (ns.map Nm.nd) (nmOf ns)).getD k default = ⟨nmOf ns k, lnkF (lfF ns k), lnkF (chdF ns k), lnkF (rtF ns k)⟩ := by
  have hc := cnt_le (v := v) h.xs
  have hl : (ns.map Nm.nd).length = ns.length := by simp
  refine ⟨by rw [tns_len]; omega, ?_⟩
  rw [show (tnsF v (ns.map Nm.nd) (nmOf ns)).getD k default = tnF (ns.map Nm.nd) (nmOf ns) k from range_getD _ om_]
  unfold tnF
  rw [if_pos om_, nd_at ns k hk]
  rfl
theorem NodesOk.travs (h : NodesOk ns) (v : Nat) : ∃ o, OT (lfF ns) (rtF ns) (chdF ns) (nmOf ns) ((0 : Nat) : Int) [] o ∧ (∀ k, k ∈ o.map Prod.fst ↔ k < ns.length) ∧ (o.map Prod.fst).Nodup ∧ o.length ≤ ns.length ∧
    (STv (tnsF v (ns.map Nm.nd) (nmOf ns))).bad = false ∧ (STv (tnsF v (ns.map Nm.nd) (nmOf ns))).out = o.map Prod.fst ∧ ∀ x ∈ o, (STv (tnsF v (ns.map Nm.nd) (nmOf ns))).pth x.1 = x.2 := by
  obtain ⟨ls, par, hL⟩ := h.lnk
  obtain ⟨o, h1, h2, h3, h4⟩ := hL.order h.len.1 (nmOf ns)
  have hc := cnt_le (v := v) h.xs
  have hl : (ns.map Nm.nd).length = ns.length := by simp
  have ht := tns_len v (ns.map Nm.nd) (nmOf ns)
  obtain ⟨s', e, b, _, ou, _, pt⟩ := trav_ot (es := tnsF v (ns.map Nm.nd) (nmOf ns)) (by rw [ht]; omega) h1 ((tnsF v (ns.map Nm.nd) (nmOf ns)).length + 1) S0 rfl (by rw [ht]; show 0 + _ ≤ _; omega) (by rw [ht]; omega) (fun k hk => h.tn v ((h3 k).1 hk)) h2
  have e0 : s' = STv (tnsF v (ns.map Nm.nd) (nmOf ns)) := by
    rw [e]
    show (if lnkF ((0 : Nat) : Int) = 4294967295 then _ else Cfb.trav _ _ (lnkF ((0 : Nat) : Int)) _ _) = _
    rw [lnkF_nat, if_neg om_]
  rw [e0] at b ou pt
  exact ⟨o, h1, h3, h2, h4, b, by rw [ou]; rfl, pt⟩
end
def rowF (x : Nd) (kd : Nat) (size : Int) (pvv : Value) : List Value :=
  .string (bar x.name) :: pvv :: nv kd :: .int .i64 size :: .int .i64 ((x.name.getD 0 0).toNat : Int) :: (bys x.cls ++ (bys x.state ++ [.int .u64 (x.created : Int), .int .u64 (x.modified : Int)]))
theorem length_rowF (x : Nd) (kd : Nat) (size : Int) (pvv : Value) : (rowF x kd size pvv).length = 27 := by simp [rowF, x.h16, x.h4]
theorem row_cls (x : Nd) (kd : Nat) (size : Int) (pvv : Value) : ((rowF x kd size pvv).drop 5).take 16 = bys x.cls := by
  unfold rowF
  simp only [List.drop_succ_cons, List.drop_zero]
  rw [List.take_append_of_le_length (by simp [x.h16]), List.take_of_length_le (by simp [x.h16])]
theorem row_state (x : Nd) (kd : Nat) (size : Int) (pvv : Value) : ((rowF x kd size pvv).drop 21).take 4 = bys x.state := by
  unfold rowF
  simp only [List.drop_succ_cons]
  rw [List.drop_append_of_le_length (by simp [x.h16]), List.drop_of_length_le (by simp [x.h16]), List.nil_append, List.take_append_of_le_length (by simp [x.h4]), List.take_of_length_le (by simp [x.h4])]
theorem row_cr (x : Nd) (kd : Nat) (size : Int) (pvv : Value) : (rowF x kd size pvv)[25]? = some (.int .u64 (x.created : Int)) := by
  unfold rowF
  simp only [List.getElem?_cons_succ]
  rw [List.getElem?_append_right (by simp [x.h16]), List.getElem?_append_right (by simp [x.h16, x.h4])]
  simp [x.h16, x.h4]
theorem row_mo (x : Nd) (kd : Nat) (size : Int) (pvv : Value) : (rowF x kd size pvv)[26]? = some (.int .u64 (x.modified : Int)) := by
  unfold rowF
  simp only [List.getElem?_cons_succ]
  rw [List.getElem?_append_right (by simp [x.h16]), List.getElem?_append_right (by simp [x.h16, x.h4])]
  simp [x.h16, x.h4]
theorem RowsOk.get {fs : List Fil} {pth : Nat → List (List UInt8)} {pp : Heap} {o : List Nat} {rows : List (List Value)} (h : RowsOk fs pth pp o rows) : ∀ i, i < o.length → ∃ f v, fs[o.getD i 0]? = some f ∧ DcOk f.en ∧ PathC pp v (pth (o.getD i 0)) ∧ rows.getD i [] = entC f.en v := by
  induction h with
  | nil => intro i hi; simp at hi
  | snoc h hf hd hp ih =>
    rename_i o rows k f v
    intro i hi
    have hl := h.len.2
    rw [List.length_append, List.length_singleton] at hi
    by_cases e : i = o.length
    · subst e
      refine ⟨f, v, ?_, hd, ?_, ?_⟩
      · simpa [List.getD_eq_getElem?_getD] using hf
      · simpa [List.getD_eq_getElem?_getD] using hp
      rw [List.getD_eq_getElem?_getD, List.getElem?_append_right om_, hl]; simp
    obtain ⟨f2, v2, h1, h2, h3, h4⟩ := ih i om_
    have e1 : (o ++ [k]).getD i 0 = o.getD i 0 := by rw [List.getD_eq_getElem?_getD, List.getElem?_append_left om_, ← List.getD_eq_getElem?_getD]
    have e2 : (rows ++ [entC f.en v]).getD i [] = rows.getD i [] := by rw [List.getD_eq_getElem?_getD, List.getElem?_append_left om_, ← List.getD_eq_getElem?_getD]
    rw [e1, e2]
    exact ⟨f2, v2, h1, h2, h3, h4⟩
theorem holds_bys {N o : Nat} {c l : List UInt8} (h : Holds N o c l) {j : Nat} (hj : j < c.length) : l.getD (o + j) 0 = c.getD j 0 := by
  simp only [List.getD_eq_getElem?_getD]; rw [h.at_ j hj]
theorem take_bys {L : List Value} {o n : Nat} {c : List UInt8} (hc : c.length = n) (hl : o + n ≤ L.length) (h : ∀ j, j < n → L[o + j]? = some (bv (c.getD j 0))) : (L.drop o).take n = bys c := by
  apply List.ext_getElem?
  intro j
  by_cases hj : j < n
  · rw [List.getElem?_take_of_lt hj, List.getElem?_drop, h j hj, List.getElem?_map, List.getElem?_eq_getElem om_]
    simp [List.getD_eq_getElem?_getD, show j < c.length by omega]
  rw [List.getElem?_eq_none (by simp; omega), List.getElem?_eq_none (by simp; omega)]
section
variable {v st : Nat} {xs : List Nd} {nmF : Nat → List UInt8}
theorem enF_row (ps : List Value) (h : Ok xs) (hnm : ∀ k, k < xs.length → NmOk ps (xs.getD k default) (nmF k)) {k : Nat} (hk : k < xs.length) (hcr : (xs.getD k default).created < 18446744073709551616) (hmo : (xs.getD k default).modified < 18446744073709551616) (hname : nmF k = (xs.getD k default).name)
    (e : En) (he : e.noPath = (enF v st xs nmF k).noPath) (pvv : Value) : entC e pvv = rowF (xs.getD k default) (kdF xs k).toNat (szOfN xs k : Int) pvv := by
  have hn := nds_at ps h hnm
  have hz : sizeF v / 128 * 128 = sizeF v := by rcases sizeF_or v with e | e <;> rw [e]
  have hpos : 0 < sizeF v / 128 := by rcases sizeF_or v with e | e <;> rw [e] <;> omega
  have hkc : k < cntF v xs := by have := cnt_le (v := v) h; omega
  have hj : k / (sizeF v / 128) < dsF v xs := (Nat.div_lt_iff_lt_mul hpos).2 hkc
  have hi : k % (sizeF v / 128) < sizeF v / 128 := Nat.mod_lt _ hpos
  have hkk : k = k / (sizeF v / 128) * (sizeF v / 128) + k % (sizeF v / 128) := by rw [Nat.mul_comm]; exact (Nat.div_add_mod _ _).symm
  have ha := ent_X (st := st) h hn hj hi hkk hk
  obtain ⟨X, hX0⟩ : ∃ X, X = dsecF v st xs (k / (sizeF v / 128)) := ⟨_, rfl⟩
  have ha' : EntAt (sizeF v) (k % (sizeF v / 128) * 128) (xs.getD k default) (kdF xs k) (stF v st xs k) (lnF xs k) X := by rw [hX0]; exact ha
  have hX : k % (sizeF v / 128) * 128 + 128 ≤ X.length := by rw [ha'.st.len]; omega
  have e1 : (enF v st xs nmF k).noPath = ⟨nmF k, ((xs.getD k default).name.getD 0 0).toNat, .nilIface, (szOfN xs k : Int), 0, stF v st xs k, 0, de12F X (k % (sizeF v / 128) * 128)⟩ := by
    unfold enF En.noPath
    rw [if_pos hk, hX0]
  rw [e1] at he
  have n1 : e.nm = nmF k := by have := congrArg En.nm he; exact this
  have n2 : e.ini = ((xs.getD k default).name.getD 0 0).toNat := by have := congrArg En.ini he; exact this
  have n3 : e.size = (szOfN xs k : Int) := by have := congrArg En.size he; exact this
  have n4 : e.dc = de12F X (k % (sizeF v / 128) * 128) := by have := congrArg En.dc he; exact this
  have h16 := (xs.getD k default).h16
  have h4 := (xs.getD k default).h4
  have hdl := length_de12F X (k % (sizeF v / 128) * 128)
  have c1 : (e.dc.drop 38).take 16 = bys (xs.getD k default).cls := by
    rw [n4]
    refine take_bys h16 (by rw [hdl]; omega) (fun j hj => ?_)
    rw [de_cls _ _ hX hj, holds_bys ha'.cls om_]
  have c2 : (e.dc.drop 54).take 4 = bys (xs.getD k default).state := by
    rw [n4]
    refine take_bys h4 (by rw [hdl]; omega) (fun j hj => ?_)
    rw [de_state _ _ hX hj, holds_bys ha'.state om_]
  have c3 : e.dc.getD 58 undef = .int .u64 ((xs.getD k default).created : Int) := by
    rw [n4, List.getD_eq_getElem?_getD, de_cr _ _ hX, ha'.cr.num (by have : (256 : Nat) ^ 8 = 18446744073709551616 := rfl
                                                                     omega)]
    rfl
  have c4 : e.dc.getD 59 undef = .int .u64 ((xs.getD k default).modified : Int) := by
    rw [n4, List.getD_eq_getElem?_getD, de_mo _ _ hX, ha'.mo.num (by have : (256 : Nat) ^ 8 = 18446744073709551616 := rfl
                                                                     omega)]
    rfl
  have c5 : otv e = (kdF xs k).toNat := by
    have : e.dc[33]? = some (bv (kdF xs k)) := by rw [n4, de_ot _ _ hX, ha'.kd.getD]
    exact otv_bv this
  unfold entC rowF
  rw [c1, c2, c3, c4, c5, n1, n2, n3, hname]
  simp
end

theorem un_37 : Tryd.prog.underlying 37 = some (.array 16 5) := by kernel_rfl
theorem un_38 : Tryd.prog.underlying 38 = some (.array 4 5) := by kernel_rfl
theorem un_5 : Tryd.prog.underlying 5 = some (.int .u8) := by kernel_rfl
theorem eg_37 : Tryd.prog.eqGuardType Tryd.prog.depth 37 = false := by kernel_rfl
theorem eg_38 : Tryd.prog.eqGuardType Tryd.prog.depth 38 = false := by kernel_rfl
theorem pk_5 : Tryd.prog.plainKey 5 = true := by kernel_rfl
theorem ce_5 : Tryd.prog.cellsOf 5 = 1 := by kernel_rfl
theorem items_same (d : Nat) (l : List UInt8) (w : World) : ∀ (is : List Nat), (∀ i ∈ is, i < l.length) → (Op.eqItems (d + 1) 5 1 (bys l).toArray (bys l).toArray is).run Tryd.prog w = .ok true w := by
  intro is
  induction is with
  | nil => intro _; simp [Op.eqItems]
  | cons i r ih =>
    intro h
    have hi := h i (by simp)
    have hx : (bys l).toArray[i * 1]? = some (bv l[i]) := by simp [hi]
    have hp := run_part_plain (P := Tryd.prog) w pk_5 hx
    have he := run_equalIn_int (P := Tryd.prog) w d 5 .u8 .u8 (l[i].toNat : Int) (l[i].toNat : Int) un_5
    simp only [Op.eqItems, Sem.run_bind, hp, Result.andThen_ok]
    have he2 : (Op.equalIn (d + 1) 5 (bv l[i]) (bv l[i])).run Tryd.prog w = .ok ((l[i].toNat : Int) == (l[i].toNat : Int)) w := he
    rw [he2]
    simp only [Result.andThen_ok, beq_self_eq_true, Bool.not_true, Bool.false_eq_true, if_false]
    exact ih (fun j hj => h j (by simp [hj]))
theorem run_same {t : TypeId} {n : Nat} (hu : Tryd.prog.underlying t = some (.array n 5)) (l : List UInt8) (hl : l.length = n) (w : World) : (binOp .neq t (.agg (bys l).toArray) (.agg (bys l).toArray)).run Tryd.prog w = .ok (.bool false) w := by
  obtain ⟨i, hi⟩ := info_of_underlying un_5
  rw [run_neq_struct, show (10000 : Nat) = 9998 + 1 + 1 from rfl, run_equalIn_array w (9998 + 1) _ _ hu hi, ce_5, items_same 9998 l w _ (fun i hi => by rw [hl]; exact List.mem_range.1 hi)]
  rfl
section
variable {E : World} {L : Fra} {H : Heap} {dst : Option Tmp} {ty : TypeId} {pos : String} {aft : Array Edge} {gd : Option (Nat × Bool)}
theorem Yl_arrNe {x y : Operand} {t u : TypeId} {n : Nat} {l : List UInt8} (hx : ev L x = some (.agg (bys l).toArray)) (hy : ev L y = some (.agg (bys l).toArray)) (hu : Tryd.prog.underlying t = some (.array n 5)) (hg : Tryd.prog.eqGuardType Tryd.prog.depth t = false) (hl : l.length = n) :
    Yl Tryd.prog L ⟨dst, .binOp .neq t x y u, ty, pos, aft, gd⟩ (.bool false) := by
  intro _ a w hf
  have h1 := run_same hu l hl w
  have h2 := run_eqGuard_agg (P := Tryd.prog) w .neq t x y (bys l).toArray (bys l).toArray hg
  simp only [execOp, hf.eval hx, hf.eval hy, Sem.run_bind, h2, Result.andThen_ok, h1]
  simp
theorem Yl_neqF {x y : Operand} {k : IntKind} {m n : Int} {t u : TypeId} (hx : ev L x = some (.int k m)) (hy : ev L y = some (.int k n)) (h : m = n) :
    Yl Tryd.prog L ⟨dst, .binOp .neq t x y u, ty, pos, aft, gd⟩ (.bool false) := by
  have := Yl_neq (P := Tryd.prog) (dst := dst) (ty := ty) (pos := pos) (aft := aft) (gd := gd) (t := t) (u := u) hx hy
  rw [h] at this
  simpa using this
theorem Yl_strNeF {x y : Operand} {s : ByteArray} {t u : TypeId} (hx : ev L x = some (.string s)) (hy : ev L y = some (.string s)) :
    Yl Tryd.prog L ⟨dst, .binOp .neq t x y u, ty, pos, aft, gd⟩ (.bool false) := by
  have := Yl_strNe (P := Tryd.prog) (dst := dst) (ty := ty) (pos := pos) (aft := aft) (gd := gd) (t := t) (u := u) hx hy
  simpa using this
theorem Yh_loadE {P : Program} {x : Operand} {t T : TypeId} {b off k : Nat} {l cs : List Value} {fz : Nat × Nat} (hx : ev L x = some (.pointer (some ⟨b, off, none⟩))) (ht : agOf P t = some k)
    (hm : (b, Obj.cells l.toArray T fz) ∈ H) (hv : off + k ≤ l.length) (hc : (l.drop off).take k = cs) : Yh P E L H ⟨dst, .load t x, ty, pos, aft, gd⟩ (.agg cs.toArray) := by
  subst hc
  exact Yh_loadA hx ht hm hv
end
theorem PathC.slice {pp : Heap} {v : Value} {p : List (List UInt8)} (h : PathC pp v p) : ∃ q c, v = .slice q p.length c := by
  rcases h with ⟨rfl, rfl⟩ | ⟨b, cap, r, _, rfl, _⟩
  · exact ⟨_, _, rfl⟩
  exact ⟨_, _, rfl⟩
theorem PathC.some {pp : Heap} {v : Value} {p : List (List UInt8)} (h : PathC pp v p) (hp : 0 < p.length) : ∃ b cap r, v = .slice (some ⟨b, 0, none⟩) p.length cap ∧ (b, blk (strs p ++ r) 9) ∈ pp := by
  rcases h with ⟨rfl, rfl⟩ | ⟨b, cap, r, _, rfl, hm⟩
  · simp at hp
  exact ⟨b, cap, r, rfl, hm⟩
theorem at_strs {p : List (List UInt8)} {r : List Value} {j : Nat} (h : j < p.length) : (strs p ++ r)[j]? = some (.string (bar (p.getD j []))) := by
  rw [List.getElem?_append_left (by simpa using h)]
  simp [List.getD_eq_getElem?_getD, h]
theorem rows_at : ∀ (rows : List (List Value)) (r : List Value) (k : Nat), (∀ x ∈ rows, x.length = 27) → k < rows.length → ((rows.flatten ++ r).drop (k * 27)).take 27 = rows.getD k [] := by
  intro rows
  induction rows with
  | nil => intro r k _ h; simp at h
  | cons x l ih =>
    intro r k hl h
    have hx := hl x (by simp)
    cases k with
    | zero =>
      simp only [List.flatten_cons, Nat.zero_mul, List.drop_zero, List.append_assoc, List.getD_cons_zero]
      rw [List.take_append_of_le_length om_, List.take_of_length_le om_]
    | succ k =>
      have h1 := ih r k (fun y hy => hl y (by simp [hy])) (by simpa using h)
      simp only [List.flatten_cons, List.append_assoc, List.getD_cons_succ]
      rw [show (k + 1) * 27 = x.length + k * 27 by omega, List.drop_append]
      simp only [Nat.add_sub_cancel_left]
      rw [List.drop_of_length_le om_, List.nil_append]
      exact h1
theorem rows_len : ∀ (rows : List (List Value)), (∀ x ∈ rows, x.length = 27) → rows.flatten.length = rows.length * 27 := by
  intro rows
  induction rows with
  | nil => intro _; rfl
  | cons x l ih =>
    intro h
    rw [List.flatten_cons, List.length_append, h x (by simp), ih (fun y hy => h y (by simp [hy])), List.length_cons, Nat.add_mul]; omega
def kdN (ns : List Nm) (k : Nat) : Nat := if k = 0 then 5 else if (ns.getD k default).nd.stream = true then 2 else 1
def szN (ns : List Nm) (k : Nat) : Nat := szOfN (ns.map Nm.nd) k
theorem NodesOk.size {ns : List Nm} (h : NodesOk ns) {k : Nat} (hk : k < ns.length) (h0 : k ≠ 0) : szN ns k = (ns.getD k default).nd.data.length := by
  have e : (ns.map Nm.nd).getD k default = (ns.getD k default).nd := nd_at ns k hk
  unfold szN szOfN kdF lnF
  rw [if_neg h0, if_neg h0, e]
  by_cases hs : (ns.getD k default).nd.stream = true
  · rw [if_pos hs, if_pos (show UInt8.toNat 2 = 2 from rfl), if_pos hs]
  rw [if_neg hs, if_neg (by decide), h.data hk (by simpa using hs)]; rfl
theorem kdF_N {ns : List Nm} {k : Nat} (hk : k < ns.length) : (kdF (ns.map Nm.nd) k).toNat = kdN ns k := by
  have e : (ns.map Nm.nd).getD k default = (ns.getD k default).nd := nd_at ns k hk
  unfold kdF kdN
  rw [e]
  split
  · rfl
  split <;> rfl
theorem Entries_nodes {ps : List Value} {T : TypeId} {four : Bool} {st : Nat} {ns : List Nm} {o : List (Nat × List (List UInt8))} (hp : PsOk ps) (h : NodesOk ns) (hk : ∀ k, k ∈ o.map Prod.fst ↔ k < ns.length)
    (hb : (STv (tnsF (verF four) (ns.map Nm.nd) (nmOf ns))).bad = false) (ho : (STv (tnsF (verF four) (ns.map Nm.nd) (nmOf ns))).out = o.map Prod.fst) (hpt : ∀ x ∈ o, (STv (tnsF (verF four) (ns.map Nm.nd) (nmOf ns))).pth x.1 = x.2)
    (hN : NF (verF four) (ns.map Nm.nd) ≤ 131072) (gI : Nat) :
    Ct Tryd.prog 18 [.slice (some ⟨gI, 0, none⟩) (NF (verF four) (ns.map Nm.nd)) (NF (verF four) (ns.map Nm.nd))] [(gI, blk (bys (writeF (verF four) st (ns.map Nm.nd))) 5), (2, blk ps T)]
      (fun v q => ∃ (go cap : Nat) (r : List Value) (rows : List (List Value)) (pp : Heap), v = .tuple #[.slice (some ⟨go, 0, none⟩) o.length cap, nv 0] ∧ rows.length = o.length ∧ (∀ x ∈ rows, x.length = 27) ∧
        (∀ i, i < o.length → ∃ pvv, PathC pp pvv (o.getD i default).2 ∧ rows.getD i [] = rowF (ns.getD (o.getD i default).1 default).nd (kdN ns (o.getD i default).1) (szN ns (o.getD i default).1 : Int) pvv) ∧
        q = (gI, blk (bys (writeF (verF four) st (ns.map Nm.nd))) 5) :: (2, blk ps T) :: (go, blk (rows.flatten ++ r) 41) :: pp) := by
  have hl := h.len
  refine Ct.ne fun hg => (Entries_good h.xs (h.names hp) h.lnks hN gI hg hb).mono ?_
  rintro v post ⟨fs, pth, out, g, cap, r, rows, pp, hpth, hout, hes, hr, hok, rfl, rfl⟩
  rw [ho] at hout
  have hol : out.length = o.length := by rw [hout]; simp
  have hrl := hr.len
  have hget := hr.get
  have hopos : 0 < o.length := by
    have := (hk 0).2 om_
    cases o with
    | nil => simp at this
    | cons a r => simp
  have key : ∀ i, i < o.length → ∃ pvv, PathC pp pvv (o.getD i default).2 ∧ rows.getD i [] = rowF (ns.getD (o.getD i default).1 default).nd (kdN ns (o.getD i default).1) (szN ns (o.getD i default).1 : Int) pvv := by
    intro i hi
    obtain ⟨f, v, h1, h2, h3, h4⟩ := hget i om_
    have hoi : o.getD i default ∈ o := by rw [List.getD_eq_getElem?_getD, List.getElem?_eq_getElem hi]; exact List.getElem_mem _
    have e1 : out.getD i 0 = (o.getD i default).1 := by
      rw [hout]; simp [List.getD_eq_getElem?_getD, hi]
    have hkk : (o.getD i default).1 < ns.length := (hk _).1 (List.mem_map.2 ⟨_, hoi, rfl⟩)
    rw [e1] at h1 h3
    refine ⟨v, ?_, ?_⟩
    · rw [hpth, hpt _ hoi] at h3; exact h3
    rw [h4]
    have hcn := cnt_le (v := verF four) h.xs
    have hxl : (ns.map Nm.nd).length = ns.length := by simp
    have e2 : (ns.map Nm.nd).getD (o.getD i default).1 default = (ns.getD (o.getD i default).1 default).nd := nd_at ns _ hkk
    have hox := h.ok_at hkk
    have e3 : f.en.noPath = (enF (verF four) st (ns.map Nm.nd) (nmOf ns) (o.getD i default).1).noPath := by
      have := congrArg (fun l => l[(o.getD i default).1]?) hes
      simp only [List.getElem?_map, h1, Option.map_some] at this
      unfold esF at this
      rw [List.getElem?_map, List.getElem?_range om_] at this
      exact Option.some.inj this
    rw [enF_row ps h.xs (h.names hp) om_ (by rw [e2]; exact hox.created) (by rw [e2]; exact hox.modified) (by rw [e2]; rfl) f.en e3 v, e2, kdF_N hkk]
    rfl
  have h27 : ∀ x ∈ rows, x.length = 27 := by
    intro x hx
    obtain ⟨i, hi, rfl⟩ := List.mem_iff_getElem.1 hx
    obtain ⟨pvv, _, h6⟩ := key i om_
    rw [List.getD_eq_getElem?_getD, List.getElem?_eq_getElem hi] at h6
    rw [show rows[i] = _ from h6]; exact length_rowF _ _ _ _
  cases g with
  | none => exact absurd hok.1 (by omega)
  | some go => exact ⟨go, cap, r, rows, pp, by rw [hol], by omega, h27, key, rfl⟩

theorem Yl_first {P : Program} {L : Fra} {dst : Option Tmp} {ty : TypeId} {pos : String} {aft : Array Edge} {gd : Option (Nat × Bool)} {x y : Operand} {t : TypeId} {l : List UInt8} {k : IntKind} (hx : ev L x = some (.string (bar l))) (hy : ev L y = some (.int k 0)) (ht : isStr P t = true) (h1 : 0 < l.length) :
    Yl P L ⟨dst, .index t x y, ty, pos, aft, gd⟩ (.int .u8 ((l.getD 0 0).toNat : Int)) := by
  have hs : (0 : Int).toNat < (bar l).size := by simpa using h1
  have h := Yl_indexS (P := P) (dst := dst) (ty := ty) (pos := pos) (aft := aft) (gd := gd) hx hy ht (Int.le_refl 0) hs
  have e : (bar l)[(0 : Int).toNat] = l.getD 0 0 := get_bar l 0 (by simpa using h1)
  rw [e] at h
  exact h
theorem kd_root (ns : List Nm) {k : Nat} (h : k = 0) : kdN ns k = 5 := by unfold kdN; rw [if_pos h]
theorem kd_str {ns : List Nm} {k : Nat} (h : k ≠ 0) (hs : (ns.getD k default).nd.stream = true) : kdN ns k = 2 := by unfold kdN; rw [if_neg h, if_pos hs]
theorem kd_sto {ns : List Nm} {k : Nat} (h : k ≠ 0) (hs : (ns.getD k default).nd.stream = false) : kdN ns k = 1 := by unfold kdN; rw [if_neg h, if_neg (by rw [hs]; decide)]
theorem kd_five {ns : List Nm} {k : Nat} (h : kdN ns k ≠ 5) : k ≠ 0 := fun e => h (kd_root ns e)
theorem kd_le (ns : List Nm) (k : Nat) : kdN ns k ≤ 5 := by unfold kdN; split <;> (try split) <;> omega
theorem at_vals {vs r : List Value} {i : Nat} {v : Value} (h : i < vs.length) (hv : vs.getD i undef = v) : (vs ++ r)[i]? = some v := by
  rw [List.getElem?_append_left h, ← hv]; simp [List.getD_eq_getElem?_getD, h]
theorem fst_at {o : List (Nat × List (List UInt8))} {r : List Value} {i k : Nat} (h : i < o.length) (hk : (o.getD i default).1 = k) : (nats (o.map Prod.fst) ++ r)[i]? = some (nv k) := by
  rw [List.getElem?_append_left (by simpa using h), ← hk]; simp [List.getD_eq_getElem?_getD, h]
theorem snd_at {o : List (Nat × List (List UInt8))} {i : Nat} (h : i < o.length) : (o.map Prod.snd).getD i [] = (o.getD i default).2 := by
  simp [List.getD_eq_getElem?_getD, h]

end Go.Proofs.YtgoddcicbpjknaaDoor
