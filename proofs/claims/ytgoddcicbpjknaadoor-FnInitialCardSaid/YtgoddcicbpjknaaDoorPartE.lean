/- Write, its fourth part: the file and its head. The walks of the two closures of Write. Write, its fifth part: the table is written. Write, its sixth part: the small table is laid. Write, its seventh part: the small stream and the directory, empty. Write, its eleventh part: a node's entry behind its name. Write, its ninth part: a small stream is laid. Write, its tenth part: what a node's bytes turn. Write, its eighth part: a node's name. Write, its twelfth part: the nodes, one after the other. Write, its last part: the small stream and the directory are laid. Write: its parts together. Values: nodes that are made and turned; signs as texts. The nodes of FnLoop, and what is known of their files. From a contract to a row: what stood there stands there still; the table of signs. The table of signs, as the rows lay it. From a contract to a row: the arguments, read again. The nodes of FnInitial, and what is told of them. -/
import Derived.Test.YtgoddcicbpjknaaDoorPartD
import Derived.WalkKit
import Derived.ProofKit
import Derived.OpenShut
import Derived.Deep.DeepHandedRow
import Derived.Lib.LaidTab
import Derived.Test.YtgoddcicbpjknaaDoorCards
import Derived.Test.YtgoddcicbpjknaaDoorTie
import Derived.Carry
/-! Write, its fourth part: the file and its head. -/
set_option maxRecDepth 20000
namespace Go.Proofs.YtgoddcicbpjknaaDoor
open Go
open Cfb
set_option maxHeartbeats 4000000 in
theorem write_D {E : World} {Q : Exit → Act → World → Prop} {F : Heap} (hQ : QP Q) (v b7 g19 csl c19 g29 stl c29 size dirs sum fats N : Nat) (cs sts : List Nat) (r19 r29 : List Value) {v0 v14 v17 v24 v25 v30 v33 : Value} (hsz : size = 512 ∨ size = 4096) (hcl : csl = cs.length) (hcl3 : 3 ≤ cs.length) (hsl : stl = sts.length) (hsl3 : 3 ≤ sts.length) (hc1 : cs.getD 1 0 ≤ 1000000) (hs0 : sts.getD 0 0 ≤ 4294967295) (hs1 : sts.getD 1 0 ≤ 4294967295) (hsum : sum ≤ 100000) (hfa : fats ≤ 100000) (hv : v ≤ 4) (hdirs : dirs ≤ 100000) (hN : size * (1 + sum + fats) = N) (hN1 : 512 ≤ N) (hN2 : N ≤ 1000000000)
    (hk : ∀ bo b34 b35, CW Tryd.prog E 514 [(0, v0), (7, .pointer (some ⟨b7, 0, none⟩)), (14, v14), (17, v17), (18, nv dirs), (23, nv fats), (24, v24), (25, v25), (29, .slice (some ⟨g29, 0, none⟩) stl c29), (30, v30), (33, v33), (34, .pointer (some ⟨b34, 0, none⟩)), (35, .pointer (some ⟨b35, 0, none⟩)), (36, .func (.func 28) #[] #[v25, .pointer (some ⟨b35, 0, none⟩)])] ((bo, blk (bys (freeTo 109 (headF size v dirs fats (sts.getD 0 0) (sts.getD 1 0) (cs.getD 1 0) (List.replicate N 0)))) 5) :: (b35, blk [.func (.func 27) #[] #[.pointer (some ⟨b34, 0, none⟩), .pointer (some ⟨b7, 0, none⟩)]] 73) :: (b34, blk [.slice (some ⟨bo, 0, none⟩) N N] 23) :: (g29, blk (nats sts ++ r29) 3) :: (b7, blk [nv size] 3) :: F) (dig [1, 1, 1, 1, 1, 1, 1, 1, 1, 1, 1, 1, 1, 1, 1, 1, 1, 1, 1, 1, 1, 1, 1, 1, 1, 1, 1, 1, 1, 1, 1, 1, 1, 1, 1, 1, 1, 1, 1, 1] (bodyOf Tryd.f15)) Q) :
    CW Tryd.prog E 514 [(0, v0), (1, nv v), (7, .pointer (some ⟨b7, 0, none⟩)), (14, v14), (17, v17), (18, nv dirs), (19, .slice (some ⟨g19, 0, none⟩) csl c19), (20, nv sum), (23, nv fats), (24, v24), (25, v25), (29, .slice (some ⟨g29, 0, none⟩) stl c29), (30, v30), (33, v33)] ((g19, blk (nats cs ++ r19) 3) :: (g29, blk (nats sts ++ r29) 3) :: (b7, blk [nv size] 3) :: F) (dig [1, 1, 1, 1, 1, 1, 1, 1, 1, 1, 1, 1, 1, 1, 1, 1, 1, 1, 1, 1, 1, 1, 1] (bodyOf Tryd.f15)) Q := by
  refine CW_seq ?_
  refine CW_region ?_
  refine RW_y rfl rfl rfl (Yh_load (v := nv size) rfl sc_3 (by repeat (first | exact List.Mem.head _ | apply List.Mem.tail)) rfl) ?_
  refine RW_y rfl rfl rfl (Yl.h (Yl_move rfl)) ?_
  refine RW_y rfl rfl rfl (Yl.h (Yl_add (c := ((1 + sum : Nat) : Int)) rfl rfl (wi64 (by omega) (by omega)))) ?_
  refine RW_y rfl rfl rfl (Yl.h (Yl_move rfl)) ?_
  refine RW_y rfl rfl rfl (Yl.h (Yl_add (c := ((1 + sum + fats : Nat) : Int)) rfl rfl (wi64 (by omega) (by omega)))) ?_
  refine RW_y rfl rfl rfl (Yl.h (Yl_mul (c := (N : Int)) rfl rfl (by rw [← hN]; exact mulN (a := size) (b := 1 + sum + fats) (by omega)))) ?_
  refine RW_fx rfl rfl rfl (Fx_makeU8 N rfl rfl (by omega)) ?_
  rintro _ _ ⟨b208, rfl, rfl⟩
  refine RW_fx rfl rfl rfl (Fx_alloc (zs := zs_23) ze_23 rfl) ?_
  rintro _ _ ⟨b34, rfl, rfl⟩
  refine RW_fx0 rfl rfl (Fx_store rfl rfl sz_23 rfl (by repeat (first | exact Rep.here _ _ _ | apply Rep.there)) (by simp)) ?_
  rintro _ _ rfl
  refine (RW_nil (QW_then (CW_live (ks := [0, 1, 7, 14, 17, 18, 19, 23, 24, 25, 29, 30, 33, 34]) (.cons rfl (.cons rfl (.cons rfl (.cons rfl (.cons rfl (.cons rfl (.cons rfl (.cons rfl (.cons rfl (.cons rfl (.cons rfl (.cons rfl (.cons rfl (.cons rfl .nil)))))))))))))) ?_)))
  refine CW_seq ?_
  refine CW_region ?_
  refine RW_y rfl rfl rfl (Yl.h (Yl_makeFunc (fs := []) (us := []) (cs := [.tmp 34, .tmp 7]) (vs := [.pointer (some ⟨b34, 0, none⟩), .pointer (some ⟨b7, 0, none⟩)]) rfl rfl)) ?_
  refine RW_fx rfl rfl rfl (Fx_alloc (zs := zs_73) ze_73 rfl) ?_
  rintro _ _ ⟨b35, rfl, rfl⟩
  refine RW_fx0 rfl rfl (Fx_store rfl rfl sz_73 rfl (by repeat (first | exact Rep.here _ _ _ | apply Rep.there)) (by simp)) ?_
  rintro _ _ rfl
  refine (RW_nil (QW_then (CW_live (ks := [0, 1, 7, 14, 17, 18, 19, 23, 24, 25, 29, 30, 33, 34, 35]) (.cons rfl (.cons rfl (.cons rfl (.cons rfl (.cons rfl (.cons rfl (.cons rfl (.cons rfl (.cons rfl (.cons rfl (.cons rfl (.cons rfl (.cons rfl (.cons rfl (.cons rfl .nil))))))))))))))) ?_)))
  refine CW_seq ?_
  refine CW_region ?_
  refine RW_y rfl rfl rfl (Yl.h (Yl_makeFunc (fs := []) (us := []) (cs := [.tmp 25, .tmp 35]) (vs := [v25, .pointer (some ⟨b35, 0, none⟩)]) rfl rfl)) ?_
  refine RW_y rfl rfl rfl (Yl.h (Yl_assign rfl)) ?_
  refine (RW_nil (QW_then (CW_live (ks := [0, 1, 7, 14, 17, 18, 19, 23, 24, 25, 29, 30, 33, 34, 35, 36]) (.cons rfl (.cons rfl (.cons rfl (.cons rfl (.cons rfl (.cons rfl (.cons rfl (.cons rfl (.cons rfl (.cons rfl (.cons rfl (.cons rfl (.cons rfl (.cons rfl (.cons rfl (.cons rfl .nil)))))))))))))))) ?_)))
  refine CW_seq ?_
  refine CW_region ?_
  refine RW_y rfl rfl rfl (Yh_load (v := .slice (some ⟨b208, 0, none⟩) N N) rfl sc_23 (by repeat (first | exact List.Mem.head _ | apply List.Mem.tail)) rfl) ?_
  refine RW_fx rfl rfl rfl (Fx_litS (vs := bys magic) sl_23 ze_5 rfl rfl rfl rfl rfl) ?_
  rintro _ _ ⟨b212, rfl, rfl⟩
  refine RW_fx rfl rfl rfl (Fx_copy (m := N) (ms := 8) (ls := bys magic) rfl rfl sl_23 (by repeat (first | exact List.Mem.head _ | apply List.Mem.tail)) (by simp [magic]; omega) (by repeat (first | exact Rep.here _ _ _ | apply Rep.there)) (by simp [magic]; omega) (one_take (one_map one_bv magic) _ _)) ?_
  rintro _ _ ⟨rfl, rfl⟩
  have hcp : spl 0 (((bys magic).drop 0).take (min 8 N * 1)) (bys (List.replicate N 0)) = bys (spl 0 magic (List.replicate N 0)) := by rw [Nat.min_eq_left (by omega)]; show _ = List.map bv _; rw [map_spl]; rfl
  rw [hcp]
  obtain ⟨l1, he1⟩ : ∃ l, l = spl 0 magic (List.replicate N 0) := ⟨_, rfl⟩
  rw [← he1]
  have hl1 : l1.length = N := by rw [he1, length_spl (by simp [magic]; omega)]; simp
  refine (RW_nil (QW_then (CW_live (ks := [0, 1, 7, 14, 17, 18, 19, 23, 24, 25, 29, 30, 33, 34, 35, 36]) (.cons rfl (.cons rfl (.cons rfl (.cons rfl (.cons rfl (.cons rfl (.cons rfl (.cons rfl (.cons rfl (.cons rfl (.cons rfl (.cons rfl (.cons rfl (.cons rfl (.cons rfl (.cons rfl .nil)))))))))))))))) ?_)))
  refine CW_seq ?_
  refine CW_region ?_
  refine RW_y rfl rfl rfl (Yh_load (v := .slice (some ⟨b208, 0, none⟩) N N) rfl sc_23 (by repeat (first | exact List.Mem.head _ | apply List.Mem.tail)) rfl) ?_
  refine RW_fx rfl rfl rfl (Fx_call ok_29 (vs := [.slice (some ⟨b208, 0, none⟩) N N, nv 24, .int .u64 ((62 : Nat) : Int), nv 2]) rfl (by repeat (first | exact Pick.nil _ | apply Pick.cons | exact Rem.here _ _ | apply Rem.there)) (put_ctN b208 0 N N 24 l1 24 62 2 (by omega) (by omega) (by omega) (by omega) (by omega))) ?_
  rintro _ _ ⟨_, ⟨rfl, rfl⟩, rfl⟩
  obtain ⟨l2, he2⟩ : ∃ l, l = putF 24 62 2 l1 := ⟨_, rfl⟩
  rw [← he2]
  have hl2 : l2.length = N := by rw [he2, length_putF (by omega)]; exact hl1
  refine (RW_nil (QW_then (CW_live (ks := [0, 1, 7, 14, 17, 18, 19, 23, 24, 25, 29, 30, 33, 34, 35, 36]) (.cons rfl (.cons rfl (.cons rfl (.cons rfl (.cons rfl (.cons rfl (.cons rfl (.cons rfl (.cons rfl (.cons rfl (.cons rfl (.cons rfl (.cons rfl (.cons rfl (.cons rfl (.cons rfl .nil)))))))))))))))) ?_)))
  refine CW_seq ?_
  refine CW_region ?_
  refine RW_y rfl rfl rfl (Yh_load (v := .slice (some ⟨b208, 0, none⟩) N N) rfl sc_23 (by repeat (first | exact List.Mem.head _ | apply List.Mem.tail)) rfl) ?_
  refine RW_y rfl rfl rfl (Yl.h (Yl_move rfl)) ?_
  refine RW_y rfl rfl rfl (Yl.h (Yl_conv rfl in_3 in_39 (wu64 (by omega) (by omega)))) ?_
  refine RW_fx rfl rfl rfl (Fx_call ok_29 (vs := [.slice (some ⟨b208, 0, none⟩) N N, nv 26, .int .u64 ((v : Nat) : Int), nv 2]) rfl (by repeat (first | exact Pick.nil _ | apply Pick.cons | exact Rem.here _ _ | apply Rem.there)) (put_ctN b208 0 N N 26 l2 26 v 2 (by omega) (by omega) (by omega) (by omega) (by omega))) ?_
  rintro _ _ ⟨_, ⟨rfl, rfl⟩, rfl⟩
  obtain ⟨l3, he3⟩ : ∃ l, l = putF 26 v 2 l2 := ⟨_, rfl⟩
  rw [← he3]
  have hl3 : l3.length = N := by rw [he3, length_putF (by omega)]; exact hl2
  refine (RW_nil (QW_then (CW_live (ks := [0, 1, 7, 14, 17, 18, 19, 23, 24, 25, 29, 30, 33, 34, 35, 36]) (.cons rfl (.cons rfl (.cons rfl (.cons rfl (.cons rfl (.cons rfl (.cons rfl (.cons rfl (.cons rfl (.cons rfl (.cons rfl (.cons rfl (.cons rfl (.cons rfl (.cons rfl (.cons rfl .nil)))))))))))))))) ?_)))
  refine CW_seq ?_
  refine CW_region ?_
  refine RW_y rfl rfl rfl (Yh_load (v := .slice (some ⟨b208, 0, none⟩) N N) rfl sc_23 (by repeat (first | exact List.Mem.head _ | apply List.Mem.tail)) rfl) ?_
  refine RW_fx rfl rfl rfl (Fx_call ok_29 (vs := [.slice (some ⟨b208, 0, none⟩) N N, nv 28, .int .u64 ((65534 : Nat) : Int), nv 2]) rfl (by repeat (first | exact Pick.nil _ | apply Pick.cons | exact Rem.here _ _ | apply Rem.there)) (put_ctN b208 0 N N 28 l3 28 65534 2 (by omega) (by omega) (by omega) (by omega) (by omega))) ?_
  rintro _ _ ⟨_, ⟨rfl, rfl⟩, rfl⟩
  obtain ⟨l4, he4⟩ : ∃ l, l = putF 28 65534 2 l3 := ⟨_, rfl⟩
  rw [← he4]
  have hl4 : l4.length = N := by rw [he4, length_putF (by omega)]; exact hl3
  refine (RW_nil (QW_then (CW_live (ks := [0, 1, 7, 14, 17, 18, 19, 23, 24, 25, 29, 30, 33, 34, 35, 36]) (.cons rfl (.cons rfl (.cons rfl (.cons rfl (.cons rfl (.cons rfl (.cons rfl (.cons rfl (.cons rfl (.cons rfl (.cons rfl (.cons rfl (.cons rfl (.cons rfl (.cons rfl (.cons rfl .nil)))))))))))))))) ?_)))
  refine CW_seq ?_
  refine CW_region ?_
  refine RW_y rfl rfl rfl (Yh_load (v := .slice (some ⟨b208, 0, none⟩) N N) rfl sc_23 (by repeat (first | exact List.Mem.head _ | apply List.Mem.tail)) rfl) ?_
  refine RW_fx rfl rfl rfl (Fx_makeMap .i64) ?_
  rintro _ _ ⟨b223, rfl, rfl⟩
  refine RW_fx0 rfl rfl (Fx_insert (n := 512) (v := .int .u64 9) rfl rfl rfl mp_76 in_3 (by repeat (first | exact Rep.here _ _ _ | apply Rep.there)) (by simp)) ?_
  rintro _ _ ⟨rfl, rfl⟩
  refine RW_fx0 rfl rfl (Fx_insert (n := 4096) (v := .int .u64 12) rfl rfl rfl mp_76 in_3 (by repeat (first | exact Rep.here _ _ _ | apply Rep.there)) (by simp)) ?_
  rintro _ _ ⟨rfl, rfl⟩
  refine RW_y rfl rfl rfl (Yl.h (Yl_move rfl)) ?_
  refine RW_y rfl rfl rfl (Yh_load (v := nv size) rfl sc_3 (by repeat (first | exact List.Mem.head _ | apply List.Mem.tail)) rfl) ?_
  refine RW_y rfl rfl rfl (Yh_lookup (v := .int .u64 ((shiftF size : Nat) : Int)) (n := (size : Int)) (k := .i64) rfl rfl mp_76 in_3 zm_39 (by repeat (first | exact List.Mem.head _ | apply List.Mem.tail)) (by rcases hsz with rfl | rfl <;> rfl)) ?_
  refine RW_fx rfl rfl rfl (Fx_call ok_29 (vs := [.slice (some ⟨b208, 0, none⟩) N N, nv 30, .int .u64 (((shiftF size) : Nat) : Int), nv 2]) rfl (by repeat (first | exact Pick.nil _ | apply Pick.cons | exact Rem.here _ _ | apply Rem.there)) (put_ctN b208 0 N N 30 l4 30 (shiftF size) 2 (by omega) (by omega) (by omega) (by omega) (by omega))) ?_
  rintro _ _ ⟨_, ⟨rfl, rfl⟩, rfl⟩
  obtain ⟨l5, he5⟩ : ∃ l, l = putF 30 (shiftF size) 2 l4 := ⟨_, rfl⟩
  rw [← he5]
  have hl5 : l5.length = N := by rw [he5, length_putF (by omega)]; exact hl4
  refine (RW_nil (QW_then (CW_live (ks := [0, 1, 7, 14, 17, 18, 19, 23, 24, 25, 29, 30, 33, 34, 35, 36]) (.cons rfl (.cons rfl (.cons rfl (.cons rfl (.cons rfl (.cons rfl (.cons rfl (.cons rfl (.cons rfl (.cons rfl (.cons rfl (.cons rfl (.cons rfl (.cons rfl (.cons rfl (.cons rfl .nil)))))))))))))))) ?_)))
  refine CW_seq ?_
  refine CW_region ?_
  refine RW_y rfl rfl rfl (Yh_load (v := .slice (some ⟨b208, 0, none⟩) N N) rfl sc_23 (by repeat (first | exact List.Mem.head _ | apply List.Mem.tail)) rfl) ?_
  refine RW_fx rfl rfl rfl (Fx_call ok_29 (vs := [.slice (some ⟨b208, 0, none⟩) N N, nv 32, .int .u64 ((6 : Nat) : Int), nv 2]) rfl (by repeat (first | exact Pick.nil _ | apply Pick.cons | exact Rem.here _ _ | apply Rem.there)) (put_ctN b208 0 N N 32 l5 32 6 2 (by omega) (by omega) (by omega) (by omega) (by omega))) ?_
  rintro _ _ ⟨_, ⟨rfl, rfl⟩, rfl⟩
  obtain ⟨l6, he6⟩ : ∃ l, l = putF 32 6 2 l5 := ⟨_, rfl⟩
  rw [← he6]
  have hl6 : l6.length = N := by rw [he6, length_putF (by omega)]; exact hl5
  refine (RW_nil (QW_then (CW_live (ks := [0, 1, 7, 14, 17, 18, 19, 23, 24, 25, 29, 30, 33, 34, 35, 36]) (.cons rfl (.cons rfl (.cons rfl (.cons rfl (.cons rfl (.cons rfl (.cons rfl (.cons rfl (.cons rfl (.cons rfl (.cons rfl (.cons rfl (.cons rfl (.cons rfl (.cons rfl (.cons rfl .nil)))))))))))))))) ?_)))
  refine CW_cut (σ := Unit) (fun _ => [(0, v0), (7, .pointer (some ⟨b7, 0, none⟩)), (14, v14), (17, v17), (18, nv dirs), (19, .slice (some ⟨g19, 0, none⟩) csl c19), (23, nv fats), (24, v24), (25, v25), (29, .slice (some ⟨g29, 0, none⟩) stl c29), (30, v30), (33, v33), (34, .pointer (some ⟨b34, 0, none⟩)), (35, .pointer (some ⟨b35, 0, none⟩)), (36, .func (.func 28) #[] #[v25, .pointer (some ⟨b35, 0, none⟩)])]) (fun _ => (b208, blk (bys ((if v = 4 then putF 40 dirs 4 else id) l6)) 5) :: (g19, blk (nats cs ++ r19) 3) :: (b35, blk [.func (.func 27) #[] #[.pointer (some ⟨b34, 0, none⟩), .pointer (some ⟨b7, 0, none⟩)]] 73) :: (b34, blk [.slice (some ⟨b208, 0, none⟩) N N] 23) :: (g29, blk (nats sts ++ r29) 3) :: (b7, blk [nv size] 3) :: F) (fun _ => True) ?_ ?_
  · skip
    refine CW_seq ?_
    refine CW_dropB (e := (b223, _)) (by repeat (first | exact Rem.here _ _ | apply Rem.there)) ?_
    refine CW_dropB (e := (b212, _)) (by repeat (first | exact Rem.here _ _ | apply Rem.there)) ?_
    refine CW_region ?_
    refine RW_y rfl rfl rfl (Yl.h (Yl_move rfl)) ?_
    refine RW_y rfl rfl rfl (Yl.h (Yl_eql rfl rfl)) ?_
    refine (RW_nil (QW_then (CW_live (ks := [0, 7, 14, 17, 18, 19, 23, 24, 25, 29, 30, 33, 34, 35, 36, 231]) (.cons rfl (.cons rfl (.cons rfl (.cons rfl (.cons rfl (.cons rfl (.cons rfl (.cons rfl (.cons rfl (.cons rfl (.cons rfl (.cons rfl (.cons rfl (.cons rfl (.cons rfl (.cons rfl .nil)))))))))))))))) ?_)))
    refine CW_cond rfl (fun hc1 => ?_) (fun hc1 => ?_)
    · replace hc1 := of_decide_eq_true hc1
      refine CW_region ?_
      refine RW_y rfl rfl rfl (Yh_load (v := .slice (some ⟨b208, 0, none⟩) N N) rfl sc_23 (by repeat (first | exact List.Mem.head _ | apply List.Mem.tail)) rfl) ?_
      refine RW_y rfl rfl rfl (Yl.h (Yl_move rfl)) ?_
      refine RW_y rfl rfl rfl (Yl.h (Yl_conv rfl in_3 in_39 (wu64 (by omega) (by omega)))) ?_
      refine RW_fx rfl rfl rfl (Fx_call ok_29 (vs := [.slice (some ⟨b208, 0, none⟩) N N, nv 40, .int .u64 ((dirs : Nat) : Int), nv 4]) rfl (by repeat (first | exact Pick.nil _ | apply Pick.cons | exact Rem.here _ _ | apply Rem.there)) (put_ctN b208 0 N N 40 l6 40 dirs 4 (by omega) (by omega) (by omega) (by omega) (by omega))) ?_
      rintro _ _ ⟨_, ⟨rfl, rfl⟩, rfl⟩
      refine RW_nil ?_
      refine QW_cut () trivial ?_ (.cons rfl (.cons rfl (.cons rfl (.cons rfl (.cons rfl (.cons rfl (.cons rfl (.cons rfl (.cons rfl (.cons rfl (.cons rfl (.cons rfl (.cons rfl (.cons rfl (.cons rfl .nil)))))))))))))))
      first | rw [if_pos (show v = 4 by omega)] | rw [if_neg (show ¬ v = 4 by omega)]
      exact (by repeat (first | exact Prm.nil _ | exact Rem.here _ _ | apply Rem.there | apply Prm.cons))
    · replace hc1 := of_decide_eq_false hc1
      refine CW_skip ?_
      refine QW_cut () trivial ?_ (.cons rfl (.cons rfl (.cons rfl (.cons rfl (.cons rfl (.cons rfl (.cons rfl (.cons rfl (.cons rfl (.cons rfl (.cons rfl (.cons rfl (.cons rfl (.cons rfl (.cons rfl .nil)))))))))))))))
      first | rw [if_pos (show v = 4 by omega)] | rw [if_neg (show ¬ v = 4 by omega)]
      exact (by repeat (first | exact Prm.nil _ | exact Rem.here _ _ | apply Rem.there | apply Prm.cons))
  · rintro ⟨⟩ -
    obtain ⟨l7, he7⟩ : ∃ l, l = (if v = 4 then putF 40 dirs 4 else id) l6 := ⟨_, rfl⟩
    rw [← he7]
    have hl7 : l7.length = N := by
      rw [he7]
      by_cases h4 : v = 4
      · rw [if_pos h4, length_putF (by omega)]; exact hl6
      · rw [if_neg h4]; exact hl6
    refine CW_seq ?_
    refine CW_region ?_
    refine RW_y rfl rfl rfl (Yh_load (v := .slice (some ⟨b208, 0, none⟩) N N) rfl sc_23 (by repeat (first | exact List.Mem.head _ | apply List.Mem.tail)) rfl) ?_
    refine RW_y rfl rfl rfl (Yl.h (Yl_move rfl)) ?_
    refine RW_y rfl rfl rfl (Yl.h (Yl_conv rfl in_3 in_39 (wu64 (by omega) (by omega)))) ?_
    refine RW_fx rfl rfl rfl (Fx_call ok_29 (vs := [.slice (some ⟨b208, 0, none⟩) N N, nv 44, .int .u64 ((fats : Nat) : Int), nv 4]) rfl (by repeat (first | exact Pick.nil _ | apply Pick.cons | exact Rem.here _ _ | apply Rem.there)) (put_ctN b208 0 N N 44 l7 44 fats 4 (by omega) (by omega) (by omega) (by omega) (by omega))) ?_
    rintro _ _ ⟨_, ⟨rfl, rfl⟩, rfl⟩
    obtain ⟨l8, he8⟩ : ∃ l, l = putF 44 fats 4 l7 := ⟨_, rfl⟩
    rw [← he8]
    have hl8 : l8.length = N := by rw [he8, length_putF (by omega)]; exact hl7
    refine (RW_nil (QW_then (CW_live (ks := [0, 7, 14, 17, 18, 19, 23, 24, 25, 29, 30, 33, 34, 35, 36]) (.cons rfl (.cons rfl (.cons rfl (.cons rfl (.cons rfl (.cons rfl (.cons rfl (.cons rfl (.cons rfl (.cons rfl (.cons rfl (.cons rfl (.cons rfl (.cons rfl (.cons rfl .nil))))))))))))))) ?_)))
    refine CW_seq ?_
    refine CW_draw [5] _ mixed (Sub.refl _) ?_
    refine RD_y (i := 1) rfl rfl rfl rfl (by kernel_rfl) (fun _ _ _ h => hQ _ _ _ _ _ h) (Yl_move rfl) ?_
    refine RD_y (i := 2) rfl rfl rfl rfl (by kernel_rfl) (fun _ _ _ h => hQ _ _ _ _ _ h) (Yl_index rfl rfl sl_29 (by omega) (by omega)) ?_
    refine RD_h (i := 0) #[false, true, true, true, true, false] rfl rfl rfl rfl (by kernel_rfl) (fun _ _ _ h => hQ _ _ _ _ _ h) (Yh_load (v := .slice (some ⟨b208, 0, none⟩) N N) rfl sc_23 (by repeat (first | exact List.Mem.head _ | apply List.Mem.tail)) rfl) ?_
    refine RD_h (i := 3) #[true, true, true, false, false, false] rfl rfl rfl rfl (by kernel_rfl) (fun _ _ _ h => hQ _ _ _ _ _ h) (Yh_load (v := nv (sts.getD 0 0)) rfl sc_3 (by repeat (first | exact List.Mem.head _ | apply List.Mem.tail)) (at_nats (by omega) (by omega))) ?_
    refine RD_y (i := 4) rfl rfl rfl rfl (by kernel_rfl) (fun _ _ _ h => hQ _ _ _ _ _ h) (Yl_conv rfl in_3 in_39 (wu64 (by omega) (by omega))) ?_
    refine RD_one (i := 5) (by kernel_rfl) ?_
    refine RO_fx rfl rfl rfl rfl (Fx_call ok_29 (vs := [.slice (some ⟨b208, 0, none⟩) N N, nv 48, .int .u64 (((sts.getD 0 0) : Nat) : Int), nv 4]) rfl (by repeat (first | exact Pick.nil _ | apply Pick.cons | exact Rem.here _ _ | apply Rem.there)) (put_ctN b208 0 N N 48 l8 48 (sts.getD 0 0) 4 (by omega) (by omega) (by omega) (by omega) (by omega))) ?_
    rintro _ _ ⟨_, ⟨rfl, rfl⟩, rfl⟩
    obtain ⟨l9, he9⟩ : ∃ l, l = putF 48 (sts.getD 0 0) 4 l8 := ⟨_, rfl⟩
    rw [← he9]
    have hl9 : l9.length = N := by rw [he9, length_putF (by omega)]; exact hl8
    refine ⟨Or.inl (by kernel_rfl), ?_⟩
    refine (RD_done (by kernel_rfl) (QW_then (CW_live (ks := [0, 7, 14, 17, 18, 19, 23, 24, 25, 29, 30, 33, 34, 35, 36]) (.cons rfl (.cons rfl (.cons rfl (.cons rfl (.cons rfl (.cons rfl (.cons rfl (.cons rfl (.cons rfl (.cons rfl (.cons rfl (.cons rfl (.cons rfl (.cons rfl (.cons rfl .nil))))))))))))))) ?_)))
    refine CW_seq ?_
    refine CW_region ?_
    refine RW_y rfl rfl rfl (Yh_load (v := .slice (some ⟨b208, 0, none⟩) N N) rfl sc_23 (by repeat (first | exact List.Mem.head _ | apply List.Mem.tail)) rfl) ?_
    refine RW_fx rfl rfl rfl (Fx_call ok_29 (vs := [.slice (some ⟨b208, 0, none⟩) N N, nv 56, .int .u64 ((4096 : Nat) : Int), nv 4]) rfl (by repeat (first | exact Pick.nil _ | apply Pick.cons | exact Rem.here _ _ | apply Rem.there)) (put_ctN b208 0 N N 56 l9 56 4096 4 (by omega) (by omega) (by omega) (by omega) (by omega))) ?_
    rintro _ _ ⟨_, ⟨rfl, rfl⟩, rfl⟩
    obtain ⟨l10, he10⟩ : ∃ l, l = putF 56 4096 4 l9 := ⟨_, rfl⟩
    rw [← he10]
    have hl10 : l10.length = N := by rw [he10, length_putF (by omega)]; exact hl9
    refine (RW_nil (QW_then (CW_live (ks := [0, 7, 14, 17, 18, 19, 23, 24, 25, 29, 30, 33, 34, 35, 36]) (.cons rfl (.cons rfl (.cons rfl (.cons rfl (.cons rfl (.cons rfl (.cons rfl (.cons rfl (.cons rfl (.cons rfl (.cons rfl (.cons rfl (.cons rfl (.cons rfl (.cons rfl .nil))))))))))))))) ?_)))
    refine CW_seq ?_
    refine CW_draw [5] _ mixed (Sub.refl _) ?_
    refine RD_y (i := 1) rfl rfl rfl rfl (by kernel_rfl) (fun _ _ _ h => hQ _ _ _ _ _ h) (Yl_move rfl) ?_
    refine RD_y (i := 2) rfl rfl rfl rfl (by kernel_rfl) (fun _ _ _ h => hQ _ _ _ _ _ h) (Yl_index rfl rfl sl_29 (by omega) (by omega)) ?_
    refine RD_h (i := 0) #[false, true, true, true, true, false] rfl rfl rfl rfl (by kernel_rfl) (fun _ _ _ h => hQ _ _ _ _ _ h) (Yh_load (v := .slice (some ⟨b208, 0, none⟩) N N) rfl sc_23 (by repeat (first | exact List.Mem.head _ | apply List.Mem.tail)) rfl) ?_
    refine RD_h (i := 3) #[true, true, true, false, false, false] rfl rfl rfl rfl (by kernel_rfl) (fun _ _ _ h => hQ _ _ _ _ _ h) (Yh_load (v := nv (sts.getD 1 0)) rfl sc_3 (by repeat (first | exact List.Mem.head _ | apply List.Mem.tail)) (at_nats (by omega) (by omega))) ?_
    refine RD_y (i := 4) rfl rfl rfl rfl (by kernel_rfl) (fun _ _ _ h => hQ _ _ _ _ _ h) (Yl_conv rfl in_3 in_39 (wu64 (by omega) (by omega))) ?_
    refine RD_one (i := 5) (by kernel_rfl) ?_
    refine RO_fx rfl rfl rfl rfl (Fx_call ok_29 (vs := [.slice (some ⟨b208, 0, none⟩) N N, nv 60, .int .u64 (((sts.getD 1 0) : Nat) : Int), nv 4]) rfl (by repeat (first | exact Pick.nil _ | apply Pick.cons | exact Rem.here _ _ | apply Rem.there)) (put_ctN b208 0 N N 60 l10 60 (sts.getD 1 0) 4 (by omega) (by omega) (by omega) (by omega) (by omega))) ?_
    rintro _ _ ⟨_, ⟨rfl, rfl⟩, rfl⟩
    obtain ⟨l11, he11⟩ : ∃ l, l = putF 60 (sts.getD 1 0) 4 l10 := ⟨_, rfl⟩
    rw [← he11]
    have hl11 : l11.length = N := by rw [he11, length_putF (by omega)]; exact hl10
    refine ⟨Or.inl (by kernel_rfl), ?_⟩
    refine (RD_done (by kernel_rfl) (QW_then (CW_live (ks := [0, 7, 14, 17, 18, 19, 23, 24, 25, 29, 30, 33, 34, 35, 36]) (.cons rfl (.cons rfl (.cons rfl (.cons rfl (.cons rfl (.cons rfl (.cons rfl (.cons rfl (.cons rfl (.cons rfl (.cons rfl (.cons rfl (.cons rfl (.cons rfl (.cons rfl .nil))))))))))))))) ?_)))
    refine CW_seq ?_
    refine CW_draw [5] _ mixed (Sub.refl _) ?_
    refine RD_y (i := 1) rfl rfl rfl rfl (by kernel_rfl) (fun _ _ _ h => hQ _ _ _ _ _ h) (Yl_move rfl) ?_
    refine RD_y (i := 2) rfl rfl rfl rfl (by kernel_rfl) (fun _ _ _ h => hQ _ _ _ _ _ h) (Yl_index rfl rfl sl_29 (by omega) (by omega)) ?_
    refine RD_h (i := 0) #[false, true, true, true, true, false] rfl rfl rfl rfl (by kernel_rfl) (fun _ _ _ h => hQ _ _ _ _ _ h) (Yh_load (v := .slice (some ⟨b208, 0, none⟩) N N) rfl sc_23 (by repeat (first | exact List.Mem.head _ | apply List.Mem.tail)) rfl) ?_
    refine RD_h (i := 3) #[true, true, true, false, false, false] rfl rfl rfl rfl (by kernel_rfl) (fun _ _ _ h => hQ _ _ _ _ _ h) (Yh_load (v := nv (cs.getD 1 0)) rfl sc_3 (by repeat (first | exact List.Mem.head _ | apply List.Mem.tail)) (at_nats (by omega) (by omega))) ?_
    refine RD_y (i := 4) rfl rfl rfl rfl (by kernel_rfl) (fun _ _ _ h => hQ _ _ _ _ _ h) (Yl_conv rfl in_3 in_39 (wu64 (by omega) (by omega))) ?_
    refine RD_one (i := 5) (by kernel_rfl) ?_
    refine RO_fx rfl rfl rfl rfl (Fx_call ok_29 (vs := [.slice (some ⟨b208, 0, none⟩) N N, nv 64, .int .u64 (((cs.getD 1 0) : Nat) : Int), nv 4]) rfl (by repeat (first | exact Pick.nil _ | apply Pick.cons | exact Rem.here _ _ | apply Rem.there)) (put_ctN b208 0 N N 64 l11 64 (cs.getD 1 0) 4 (by omega) (by omega) (by omega) (by omega) (by omega))) ?_
    rintro _ _ ⟨_, ⟨rfl, rfl⟩, rfl⟩
    obtain ⟨l12, he12⟩ : ∃ l, l = putF 64 (cs.getD 1 0) 4 l11 := ⟨_, rfl⟩
    rw [← he12]
    have hl12 : l12.length = N := by rw [he12, length_putF (by omega)]; exact hl11
    refine ⟨Or.inl (by kernel_rfl), ?_⟩
    refine (RD_done (by kernel_rfl) (QW_then (CW_live (ks := [0, 7, 14, 17, 18, 23, 24, 25, 29, 30, 33, 34, 35, 36]) (.cons rfl (.cons rfl (.cons rfl (.cons rfl (.cons rfl (.cons rfl (.cons rfl (.cons rfl (.cons rfl (.cons rfl (.cons rfl (.cons rfl (.cons rfl (.cons rfl .nil)))))))))))))) ?_)))
    refine CW_seq ?_
    refine CW_region ?_
    refine RW_y rfl rfl rfl (Yh_load (v := .slice (some ⟨b208, 0, none⟩) N N) rfl sc_23 (by repeat (first | exact List.Mem.head _ | apply List.Mem.tail)) rfl) ?_
    refine RW_fx rfl rfl rfl (Fx_call ok_29 (vs := [.slice (some ⟨b208, 0, none⟩) N N, nv 68, .int .u64 ((CE : Nat) : Int), nv 4]) rfl (by repeat (first | exact Pick.nil _ | apply Pick.cons | exact Rem.here _ _ | apply Rem.there)) (put_ctN b208 0 N N 68 l12 68 CE 4 (by omega) (by omega) (by omega) (by omega) (by omega))) ?_
    rintro _ _ ⟨_, ⟨rfl, rfl⟩, rfl⟩
    obtain ⟨l13, he13⟩ : ∃ l, l = putF 68 CE 4 l12 := ⟨_, rfl⟩
    rw [← he13]
    have hl13 : l13.length = N := by rw [he13, length_putF (by omega)]; exact hl12
    refine (RW_nil (QW_then (CW_live (ks := [0, 7, 14, 17, 18, 23, 24, 25, 29, 30, 33, 34, 35, 36]) (.cons rfl (.cons rfl (.cons rfl (.cons rfl (.cons rfl (.cons rfl (.cons rfl (.cons rfl (.cons rfl (.cons rfl (.cons rfl (.cons rfl (.cons rfl (.cons rfl .nil)))))))))))))) ?_)))
    refine CW_seq ?_
    refine CW_seq ?_
    refine CW_region ?_
    refine RW_y rfl rfl rfl (Yl.h (Yl_move rfl)) ?_
    refine (RW_nil (QW_then (CW_live (ks := [0, 7, 14, 17, 18, 23, 24, 25, 29, 30, 33, 34, 35, 36, 262]) (.cons rfl (.cons rfl (.cons rfl (.cons rfl (.cons rfl (.cons rfl (.cons rfl (.cons rfl (.cons rfl (.cons rfl (.cons rfl (.cons rfl (.cons rfl (.cons rfl (.cons rfl .nil))))))))))))))) ?_)))
    refine CW_block ?_
    refine CW_loop (σ := Nat) (fun k => [(0, v0), (7, .pointer (some ⟨b7, 0, none⟩)), (14, v14), (17, v17), (18, nv dirs), (23, nv fats), (24, v24), (25, v25), (29, .slice (some ⟨g29, 0, none⟩) stl c29), (30, v30), (33, v33), (34, .pointer (some ⟨b34, 0, none⟩)), (35, .pointer (some ⟨b35, 0, none⟩)), (36, .func (.func 28) #[] #[v25, .pointer (some ⟨b35, 0, none⟩)]), (262, nv k)]) (fun k => (b208, blk (bys (freeTo k l13)) 5) :: (g19, blk (nats cs ++ r19) 3) :: (b35, blk [.func (.func 27) #[] #[.pointer (some ⟨b34, 0, none⟩), .pointer (some ⟨b7, 0, none⟩)]] 73) :: (b34, blk [.slice (some ⟨b208, 0, none⟩) N N] 23) :: (g29, blk (nats sts ++ r29) 3) :: (b7, blk [nv size] 3) :: F) (fun k => k ≤ 109) (fun k => 109 - k) 0 (by omega) (by repeat (first | exact Prm.nil _ | exact Rem.here _ _ | apply Rem.there | apply Prm.cons)) (.cons rfl (.cons rfl (.cons rfl (.cons rfl (.cons rfl (.cons rfl (.cons rfl (.cons rfl (.cons rfl (.cons rfl (.cons rfl (.cons rfl (.cons rfl (.cons rfl (.cons rfl .nil))))))))))))))) ?_
    intro k hkm
    refine CW_seq ?_
    refine CW_region ?_
    refine RW_y rfl rfl rfl (Yl.h (Yl_lss rfl rfl)) ?_
    refine (RW_nil (QW_then (CW_live (ks := [0, 7, 14, 17, 18, 23, 24, 25, 29, 30, 33, 34, 35, 36, 262, 263]) (.cons rfl (.cons rfl (.cons rfl (.cons rfl (.cons rfl (.cons rfl (.cons rfl (.cons rfl (.cons rfl (.cons rfl (.cons rfl (.cons rfl (.cons rfl (.cons rfl (.cons rfl (.cons rfl .nil)))))))))))))))) ?_)))
    refine CW_seq ?_
    refine CW_cond rfl (fun hc2 => ?_) (fun hc2 => ?_)
    · replace hc2 := of_decide_eq_true hc2
      refine (CW_skip (QW_then (CW_live (ks := [0, 7, 14, 17, 18, 23, 24, 25, 29, 30, 33, 34, 35, 36, 262]) (.cons rfl (.cons rfl (.cons rfl (.cons rfl (.cons rfl (.cons rfl (.cons rfl (.cons rfl (.cons rfl (.cons rfl (.cons rfl (.cons rfl (.cons rfl (.cons rfl (.cons rfl .nil))))))))))))))) ?_)))
      refine CW_seq ?_
      refine CW_block ?_
      refine CW_seq ?_
      refine CW_region ?_
      refine RW_y rfl rfl rfl (Yl.h (Yl_move rfl)) ?_
      refine RW_y rfl rfl rfl (Yl.h (Yl_assign rfl)) ?_
      refine (RW_nil (QW_then (CW_live (ks := [0, 7, 14, 17, 18, 23, 24, 25, 29, 30, 33, 34, 35, 36, 37, 262]) (.cons rfl (.cons rfl (.cons rfl (.cons rfl (.cons rfl (.cons rfl (.cons rfl (.cons rfl (.cons rfl (.cons rfl (.cons rfl (.cons rfl (.cons rfl (.cons rfl (.cons rfl (.cons rfl .nil)))))))))))))))) ?_)))
      have hlk : (freeTo k l13).length = N := by rw [length_freeTo _ _ (by omega)]; exact hl13
      refine CW_region ?_
      refine RW_y rfl rfl rfl (Yh_load (v := .slice (some ⟨b208, 0, none⟩) N N) rfl sc_23 (by repeat (first | exact List.Mem.head _ | apply List.Mem.tail)) rfl) ?_
      refine RW_y rfl rfl rfl (Yl.h (Yl_move rfl)) ?_
      refine RW_y rfl rfl rfl (Yl.h (Yl_mul (c := ((4 * k : Nat) : Int)) rfl rfl (mulN (a := 4) (b := k) (by omega)))) ?_
      refine RW_y rfl rfl rfl (Yl.h (Yl_add (c := ((76 + 4 * k : Nat) : Int)) rfl rfl (wi64 (by omega) (by omega)))) ?_
      refine RW_fx rfl rfl rfl (Fx_call ok_29 (vs := [.slice (some ⟨b208, 0, none⟩) N N, nv (76 + 4 * k), .int .u64 ((FREE : Nat) : Int), nv 4]) rfl (by repeat (first | exact Pick.nil _ | apply Pick.cons | exact Rem.here _ _ | apply Rem.there)) (put_ctN b208 0 N N (76 + 4 * k) (freeTo k l13) (76 + 4 * k) FREE 4 (by omega) (by omega) (by omega) (by omega) (by omega))) ?_
      rintro _ _ ⟨_, ⟨rfl, rfl⟩, rfl⟩
      refine RW_nil ?_
      refine QW_normal_block ?_
      refine (QW_then (CW_live (ks := [0, 7, 14, 17, 18, 23, 24, 25, 29, 30, 33, 34, 35, 36, 262]) (.cons rfl (.cons rfl (.cons rfl (.cons rfl (.cons rfl (.cons rfl (.cons rfl (.cons rfl (.cons rfl (.cons rfl (.cons rfl (.cons rfl (.cons rfl (.cons rfl (.cons rfl .nil))))))))))))))) ?_))
      refine CW_region ?_
      refine RW_y rfl rfl rfl (Yl.h (Yl_add rfl rfl (wi64 (by omega) (by omega)))) ?_
      refine RW_y rfl rfl rfl (Yl.h (Yl_move rfl)) ?_
      refine RW_nil ?_
      exact QW_round (k + 1) (by omega) (by omega) (by repeat (first | exact Prm.nil _ | exact Rem.here _ _ | apply Rem.there | apply Prm.cons)) (.cons rfl (.cons rfl (.cons rfl (.cons rfl (.cons rfl (.cons rfl (.cons rfl (.cons rfl (.cons rfl (.cons rfl (.cons rfl (.cons rfl (.cons rfl (.cons rfl (.cons rfl .nil)))))))))))))))
    · replace hc2 := of_decide_eq_false hc2
      refine CW_exit ?_
      refine QW_exit_then ?_
      refine QW_exit_then ?_
      refine QW_exit_block ?_
      refine (QW_then (CW_live (ks := [0, 7, 14, 17, 18, 23, 24, 25, 29, 30, 33, 34, 35, 36]) (.cons rfl (.cons rfl (.cons rfl (.cons rfl (.cons rfl (.cons rfl (.cons rfl (.cons rfl (.cons rfl (.cons rfl (.cons rfl (.cons rfl (.cons rfl (.cons rfl .nil)))))))))))))) ?_))
      obtain rfl : k = 109 := by omega
      refine CW_dropB (e := (g19, _)) (by repeat (first | exact Rem.here _ _ | apply Rem.there)) ?_
      have hhd : l13 = headF size v dirs fats (sts.getD 0 0) (sts.getD 1 0) (cs.getD 1 0) (List.replicate N 0) := by
        unfold headF
        rw [he13, he12, he11, he10, he9, he8, he7, he6, he5, he4, he3, he2, he1]
      rw [hhd]
      refine CW_heap (Prm.perm (T := (b208, blk (bys (freeTo 109 (headF size v dirs fats (sts.getD 0 0) (sts.getD 1 0) (cs.getD 1 0) (List.replicate N 0)))) 5) :: (b35, blk [.func (.func 27) #[] #[.pointer (some ⟨b34, 0, none⟩), .pointer (some ⟨b7, 0, none⟩)]] 73) :: (b34, blk [.slice (some ⟨b208, 0, none⟩) N N] 23) :: (g29, blk (nats sts ++ r29) 3) :: (b7, blk [nv size] 3) :: F) (by repeat (first | exact Prm.nil _ | exact Rem.here _ _ | apply Rem.there | apply Prm.cons))) ?_
      exact hk b208 b34 b35
end Go.Proofs.YtgoddcicbpjknaaDoor

/-! The walks of the two closures of Write. -/
set_option maxRecDepth 20000
namespace Go.Proofs.YtgoddcicbpjknaaDoor
open Go
open Cfb
theorem sector_ct (p size N cN bx bo bs : Nat) (hs : 0 < size) (hN : size * (2 + p) ≤ N) (hc : N ≤ cN) (hb : N ≤ 1000000000000) :
    Ct Tryd.prog 27 [nv p, .pointer (some ⟨bo, 0, none⟩), .pointer (some ⟨bs, 0, none⟩)] [(bo, blk [.slice (some ⟨bx, 0, none⟩) N cN] 23), (bs, blk [nv size] 3)]
      (fun v q => v = .slice (some ⟨bx, size * (1 + p), none⟩) size (cN - size * (1 + p)) ∧ q = [(bo, blk [.slice (some ⟨bx, 0, none⟩) N cN] 23), (bs, blk [nv size] 3)]) := by
  have e1 : size * (2 + p) = size * (1 + p) + size := by rw [show 2 + p = (1 + p) + 1 by omega, Nat.mul_succ]
  have hp1 : p < size * (2 + p) := Nat.lt_of_lt_of_le (show p < 1 * (2 + p) by omega) (Nat.mul_le_mul_right _ hs)
  refine Ct_of Tryd.func27 rfl Tryd.ntmps27 rfl ?_
  intro E F
  simp only [numL, List.nil_append, List.cons_append]
  refine CW_seq ?_
  refine CW_region ?_
  refine RW_y rfl rfl rfl (Yl.h (Yl_assign rfl)) ?_
  refine (RW_nil (QW_then (CW_live (ks := [0, 1, 2]) (.cons rfl (.cons rfl (.cons rfl .nil))) ?_)))
  refine CW_seq ?_
  refine CW_region ?_
  refine RW_y rfl rfl rfl (Yh_load rfl sc_23 (by repeat (first | exact List.Mem.head _ | apply List.Mem.tail)) rfl) ?_
  refine RW_y rfl rfl rfl (Yh_load (v := nv size) rfl sc_3 (by repeat (first | exact List.Mem.head _ | apply List.Mem.tail)) rfl) ?_
  refine RW_y rfl rfl rfl (Yl.h (Yl_move rfl)) ?_
  refine RW_y rfl rfl rfl (Yl.h (Yl_add (m := 1) (n := (p : Int)) (c := ((1 + p : Nat) : Int)) rfl rfl (wi64 (by omega) (by omega)))) ?_
  refine RW_y rfl rfl rfl (Yl.h (Yl_mul (c := ((size * (1 + p) : Nat) : Int)) rfl rfl (mulN (by omega)))) ?_
  refine RW_y rfl rfl rfl (Yh_load (v := nv size) rfl sc_3 (by repeat (first | exact List.Mem.head _ | apply List.Mem.tail)) rfl) ?_
  refine RW_y rfl rfl rfl (Yl.h (Yl_move rfl)) ?_
  refine RW_y rfl rfl rfl (Yl.h (Yl_add (m := 2) (n := (p : Int)) (c := ((2 + p : Nat) : Int)) rfl rfl (wi64 (by omega) (by omega)))) ?_
  refine RW_y rfl rfl rfl (Yl.h (Yl_mul (c := ((size * (2 + p) : Nat) : Int)) rfl rfl (mulN (by omega)))) ?_
  refine RW_y rfl rfl rfl (Yl.h (Yl_cutLHN (l := size * (1 + p)) (h := size * (2 + p)) (o' := size * (1 + p)) (m' := size) rfl rfl rfl sl_23 (by omega) (by omega) (by omega) (by omega) (by omega))) ?_
  refine RW_y rfl rfl rfl (Yl.h (Yl_assign rfl)) ?_
  refine (RW_nil (QW_then (CW_live (ks := [4]) (.cons rfl .nil) ?_)))
  refine CW_ret ?_
  exact QW_ret1 rfl rfl [_, _] ⟨rfl, rfl⟩ (Prm.nil _)
theorem fill_ct (bfv bt bsv bo bs bx bb ct cN cb size start N : Nat) (fat : List Nat) (data out : List UInt8) (r : List Value) (hs : 0 < size) (hN : N = out.length) (hc : N ≤ cN) (hb : N ≤ 1000000000000) (hd : data.length ≤ cb) (hdb : data.length ≤ 1000000000000) (hst : start ≤ 4294967295)
    (hf : ∀ x ∈ fat, x < 4294967296) (hch : ∀ k, k * size < data.length → size * (2 + walkP fat start k) ≤ N ∧ walkP fat start k < fat.length) :
    Ct Tryd.prog 28 [nv start, .slice (some ⟨bb, 0, none⟩) data.length cb, .pointer (some ⟨bfv, 0, none⟩), .pointer (some ⟨bsv, 0, none⟩)] [(bfv, blk [.slice (some ⟨bt, 0, none⟩) fat.length ct] 22), (bt, blk (u32s fat) 67), (bsv, blk [.func (.func 27) #[] #[.pointer (some ⟨bo, 0, none⟩), .pointer (some ⟨bs, 0, none⟩)]] 73), (bo, blk [.slice (some ⟨bx, 0, none⟩) N cN] 23), (bs, blk [nv size] 3), (bx, blk (bys out) 5), (bb, blk (bys data ++ r) 5)]
      (fun v q => v = .tuple #[] ∧ q = [(bfv, blk [.slice (some ⟨bt, 0, none⟩) fat.length ct] 22), (bt, blk (u32s fat) 67), (bsv, blk [.func (.func 27) #[] #[.pointer (some ⟨bo, 0, none⟩), .pointer (some ⟨bs, 0, none⟩)]] 73), (bo, blk [.slice (some ⟨bx, 0, none⟩) N cN] 23), (bs, blk [nv size] 3), (bx, blk (bys (fillF fat size data start out)) 5), (bb, blk (bys data ++ r) 5)]) := by
  have hone : ∀ u ∈ bys data, u.oneCell' = true := one_map one_bv _
  refine Ct_of Tryd.func28 rfl Tryd.ntmps28 rfl ?_
  intro E F
  simp only [numL, List.nil_append, List.cons_append]
  refine CW_seq ?_
  refine CW_region ?_
  refine RW_y rfl rfl rfl (Yl.h (Yl_move rfl)) ?_
  refine RW_y rfl rfl rfl (Yl.h (Yl_assign rfl)) ?_
  refine (RW_nil (QW_then (CW_live (ks := [1, 2, 3, 6]) (.cons rfl (.cons rfl (.cons rfl (.cons rfl .nil)))) ?_)))
  refine CW_block ?_
  refine CW_loop (σ := Nat × Nat × Nat) (fun q => [(1, .slice (some ⟨bb, q.2.1, none⟩) (data.length - q.1 * size) q.2.2), (2, .pointer (some ⟨bfv, 0, none⟩)), (3, .pointer (some ⟨bsv, 0, none⟩)), (6, nv (walkP fat start q.1))]) (fun q => (bfv, blk [.slice (some ⟨bt, 0, none⟩) fat.length ct] 22) :: (bt, blk (u32s fat) 67) :: (bsv, blk [.func (.func 27) #[] #[.pointer (some ⟨bo, 0, none⟩), .pointer (some ⟨bs, 0, none⟩)]] 73) :: (bo, blk [.slice (some ⟨bx, 0, none⟩) N cN] 23) :: (bs, blk [nv size] 3) :: (bx, blk (bys (fillTo fat size data start out q.1)) 5) :: (bb, blk (bys data ++ r) 5) :: F) (fun q => (q.1 * size < data.length → q.2.1 = q.1 * size) ∧ data.length - q.1 * size ≤ q.2.2 ∧ (0 < q.1 → (q.1 - 1) * size < data.length) ∧ walkP fat start q.1 ≤ 4294967295) (fun q => data.length - q.1 * size) (0, 0, cb) ⟨by simp, by simpa using hd, by simp, hst⟩ (Prm.nil _) (.cons (by simp [look]) (.cons rfl (.cons rfl (.cons rfl .nil)))) ?_
  rintro ⟨k, o, c⟩ ⟨ho, hcap, hlo, hwk⟩
  simp only at ho hcap hlo hwk ⊢
  have hk1 : (k + 1) * size = k * size + size := Nat.succ_mul k size
  refine CW_seq ?_
  refine CW_seq ?_
  refine CW_region ?_
  refine RW_y rfl rfl rfl (Yl.h (Yl_move rfl)) ?_
  refine RW_y rfl rfl rfl (Yl.h (Yl_len rfl sl_23)) ?_
  refine RW_y rfl rfl rfl (Yl.h (Yl_gtr rfl rfl)) ?_
  refine (RW_nil (QW_then (CW_live (ks := [1, 2, 3, 6, 11]) (.cons rfl (.cons rfl (.cons rfl (.cons rfl (.cons rfl .nil))))) ?_)))
  refine CW_cond rfl (fun hc1 => ?_) (fun hc1 => ?_)
  · replace hc1 := of_decide_eq_true hc1
    refine (CW_skip (QW_then (CW_live (ks := [1, 2, 3, 6]) (.cons rfl (.cons rfl (.cons rfl (.cons rfl .nil)))) ?_)))
    refine CW_seq ?_
    refine CW_block ?_
    refine CW_seq ?_
    have hkd : k * size < data.length := by omega
    obtain rfl := ho hkd
    obtain ⟨hq1, hq2⟩ := hch k hkd
    have hlen : (fillTo fat size data start out k).length = out.length := length_fillTo k (fun j hj => by
      have hj2 : j * size ≤ (k - 1) * size := Nat.mul_le_mul_right _ (by omega)
      have := (hch j (by have := hlo (by omega); omega)).1
      omega)
    have he : size * (2 + walkP fat start k) = size * (1 + walkP fat start k) + size := by rw [show 2 + walkP fat start k = (1 + walkP fat start k) + 1 by omega, Nat.mul_succ]
    have hwn : fat.getD (walkP fat start k) 0 < 4294967296 := getD_lt hf hq2
    have hmin : min (data.length - k * size) size ≤ size := Nat.min_le_right _ _
    have hpart : ((bys data ++ r).drop (k * size)).take (min (data.length - k * size) size * 1) = bys ((data.drop (k * size)).take (min (data.length - k * size) size)) := by
      rw [Nat.mul_one, List.drop_append_of_le_length (by simp; omega), List.take_append_of_le_length (by simp; omega)]; simp [bys, List.map_take, List.map_drop]
    have hmin2 : (data.drop (k * size)).take (min (data.length - k * size) size) = (data.drop (k * size)).take size := by
      rcases Nat.le_total (data.length - k * size) size with h | h
      · rw [Nat.min_eq_left h, List.take_of_length_le (by simp), List.take_of_length_le (by simp; omega)]
      · rw [Nat.min_eq_right h]
    refine CW_region ?_
    refine RW_y rfl rfl rfl (Yh_load rfl sc_73 (by repeat (first | exact List.Mem.head _ | apply List.Mem.tail)) rfl) ?_
    refine RW_y rfl rfl rfl (Yl.h (Yl_move rfl)) ?_
    refine RW_fx rfl rfl rfl (Fx_callV ok_27 (fs := []) (vs := [nv (walkP fat start k)]) (cs := [.pointer (some ⟨bo, 0, none⟩), .pointer (some ⟨bs, 0, none⟩)]) rfl rfl (by repeat (first | exact Pick.nil _ | apply Pick.cons | exact Rem.here _ _ | apply Rem.there)) (sector_ct (walkP fat start k) size N cN bx bo bs hs (by omega) hc hb)) ?_
    rintro _ _ ⟨_, ⟨rfl, rfl⟩, rfl⟩
    refine RW_y rfl rfl rfl (Yl.h (Yl_move rfl)) ?_
    refine RW_fx rfl rfl rfl (Fx_copy rfl rfl sl_23 (by repeat (first | exact List.Mem.head _ | apply List.Mem.tail)) (by simp; omega) (by repeat (first | exact Rep.here _ _ _ | apply Rep.there)) (by rw [List.length_map]; omega) (by have hone2 : ∀ u ∈ ((bys data ++ r).drop (k * size)).take (min (data.length - k * size) size * 1), u.oneCell' = true := (by rw [hpart]; exact one_map one_bv _); exact hone2)) ?_
    rintro _ _ ⟨rfl, rfl⟩
    refine RW_y rfl rfl rfl (Yl.h (Yl_assign rfl)) ?_
    refine (RW_nil (QW_then (CW_live (ks := [1, 2, 3, 6, 7]) (.cons rfl (.cons rfl (.cons rfl (.cons rfl (.cons rfl .nil))))) ?_)))
    refine CW_region ?_
    refine RW_y rfl rfl rfl (Yl.h (Yl_move rfl)) ?_
    refine RW_y rfl rfl rfl (Yl.h (Yl_move rfl)) ?_
    refine RW_y rfl rfl rfl (Yl.h (Yl_cutLN (l := min (data.length - k * size) size) rfl rfl sl_23 (by omega))) ?_
    refine RW_y rfl rfl rfl (Yl.h (Yl_assign rfl)) ?_
    refine RW_nil ?_
    refine QW_normal_block ?_
    refine (QW_then (CW_live (ks := [1, 2, 3, 6]) (.cons rfl (.cons rfl (.cons rfl (.cons rfl .nil)))) ?_))
    refine CW_region ?_
    refine RW_y rfl rfl rfl (Yh_load rfl sc_22 (by repeat (first | exact List.Mem.head _ | apply List.Mem.tail)) rfl) ?_
    refine RW_y rfl rfl rfl (Yl.h (Yl_move rfl)) ?_
    refine RW_y rfl rfl rfl (Yl.h (Yl_index rfl rfl sl_22 (by omega) (by omega))) ?_
    refine RW_y rfl rfl rfl (Yh_load (v := uv (fat.getD (walkP fat start k) 0)) rfl sc_67 (by repeat (first | exact List.Mem.head _ | apply List.Mem.tail)) (at_u32s (i := walkP fat start k) (by omega) (by omega))) ?_
    refine RW_y rfl rfl rfl (Yl.h (Yl_conv rfl in_67 in_3 (wi64 (by omega) (by omega)))) ?_
    refine RW_y rfl rfl rfl (Yl.h (Yl_assign rfl)) ?_
    refine RW_nil ?_
    refine QW_round (k + 1, (if c = min (data.length - k * size) size then k * size else k * size + min (data.length - k * size) size * 1), c - min (data.length - k * size) size) ⟨?_, ?_, ?_, ?_⟩ (by simp only; omega) ?_ (.cons (by simp only [look]; congr 2; omega) (.cons rfl (.cons rfl (.cons rfl .nil))))
    · intro h; simp only at h ⊢; rw [if_neg (by omega)]; omega
    · simp only; omega
    · intro _; simp only [Nat.add_sub_cancel]; exact hkd
    · simp only [walkP]; omega
    · simp only [fillTo]
      rw [hpart, ← map_spl, hmin2]
      exact (by repeat (first | exact Prm.nil _ | exact Rem.here _ _ | apply Rem.there | apply Prm.cons))
  · replace hc1 := of_decide_eq_false hc1
    refine CW_exit ?_
    refine QW_exit_then ?_
    refine QW_exit_then ?_
    refine QW_exit_block ?_
    have hk : partsF data.length size = k := by
      have h1 : ¬ k < partsF data.length size := by rw [lt_partsF hs]; omega
      rcases Nat.lt_or_ge (partsF data.length size) k with h2 | h2
      · exact absurd (hlo (by omega)) (by have := (not_congr (lt_partsF (n := data.length) (size := size) (k := k - 1) hs)).1 (by omega); omega)
      · omega
    exact QW_end0 rfl _ ⟨rfl, by rw [fillF, hk]⟩ (Prm.nil _)
end Go.Proofs.YtgoddcicbpjknaaDoor

/-! Write, its fifth part: the table is written. -/
set_option maxRecDepth 20000
namespace Go.Proofs.YtgoddcicbpjknaaDoor
open Go
open Cfb
set_option maxHeartbeats 4000000 in
theorem write_E {E : World} {Q : Exit → Act → World → Prop} {F : Heap} (hQ : QP Q) (b7 g24 c24 bf b25 b34 b35 bo size per fats N T : Nat) (pl fat : List Nat) (r24 : List Value) (l : List UInt8) {v0 v14 v18 v29 v30 v33 v36 : Value} (hsz : 512 ≤ size ∧ size ≤ 4096) (hper : 4 * per = size) (hpl : ∀ x ∈ pl, x < T) (hplc : (nats pl ++ r24).length = c24) (hfp : fats ≤ pl.length) (hf109 : fats ≤ 100) (hff : fats * per ≤ fat.length) (hfb : ∀ x ∈ fat, x < 4294967296) (hT : T ≤ 100000) (hN : size * (1 + T) = N) (hN1 : 512 ≤ N) (hl : l.length = N)
    (hk : CW Tryd.prog E 514 [(0, v0), (7, .pointer (some ⟨b7, 0, none⟩)), (14, v14), (18, v18), (29, v29), (30, v30), (33, v33), (34, .pointer (some ⟨b34, 0, none⟩)), (36, v36)] ((bo, blk (bys (fatTo pl fat size per fats l)) 5) :: (b35, blk [.func (.func 27) #[] #[.pointer (some ⟨b34, 0, none⟩), .pointer (some ⟨b7, 0, none⟩)]] 73) :: (b34, blk [.slice (some ⟨bo, 0, none⟩) N N] 23) :: (bf, blk (u32s fat) 67) :: (b25, blk [.slice (some ⟨bf, 0, none⟩) fat.length fat.length] 22) :: (g24, blk (nats pl ++ r24) 3) :: (b7, blk [nv size] 3) :: F) (dig [1, 1, 1, 1, 1, 1, 1, 1, 1, 1, 1, 1, 1, 1, 1, 1, 1, 1, 1, 1, 1, 1, 1, 1, 1, 1, 1, 1, 1, 1, 1, 1, 1, 1, 1, 1, 1, 1, 1, 1, 1] (bodyOf Tryd.f15)) Q) :
    CW Tryd.prog E 514 [(0, v0), (7, .pointer (some ⟨b7, 0, none⟩)), (14, v14), (17, nv per), (18, v18), (23, nv fats), (24, .slice (some ⟨g24, 0, none⟩) pl.length c24), (25, .pointer (some ⟨b25, 0, none⟩)), (29, v29), (30, v30), (33, v33), (34, .pointer (some ⟨b34, 0, none⟩)), (35, .pointer (some ⟨b35, 0, none⟩)), (36, v36)] ((bo, blk (bys l) 5) :: (b35, blk [.func (.func 27) #[] #[.pointer (some ⟨b34, 0, none⟩), .pointer (some ⟨b7, 0, none⟩)]] 73) :: (b34, blk [.slice (some ⟨bo, 0, none⟩) N N] 23) :: (bf, blk (u32s fat) 67) :: (b25, blk [.slice (some ⟨bf, 0, none⟩) fat.length fat.length] 22) :: (g24, blk (nats pl ++ r24) 3) :: (b7, blk [nv size] 3) :: F) (dig [1, 1, 1, 1, 1, 1, 1, 1, 1, 1, 1, 1, 1, 1, 1, 1, 1, 1, 1, 1, 1, 1, 1, 1, 1, 1, 1, 1, 1, 1, 1, 1, 1, 1, 1, 1, 1, 1, 1, 1] (bodyOf Tryd.f15)) Q := by
  have hNb : N ≤ 1000000000 := by
    have h1 : size * (1 + T) ≤ 4096 * 100001 := Nat.mul_le_mul hsz.2 (by omega)
    omega
  refine CW_seq ?_
  refine CW_seq ?_
  refine CW_region ?_
  refine RW_y rfl rfl rfl (Yl.h (Yl_move rfl)) ?_
  refine RW_y rfl rfl rfl (Yl.h (Yl_move rfl)) ?_
  refine RW_y rfl rfl rfl (Yl.h (Yl_cutHN (h := fats) rfl rfl sl_29 (by rw [← hplc]; simp; omega))) ?_
  refine RW_y rfl rfl rfl (Yl.h (Yl_len rfl sl_29)) ?_
  refine RW_y rfl rfl rfl (Yl.h (Yl_move rfl)) ?_
  refine (RW_nil (QW_then (CW_live (ks := [0, 7, 14, 17, 18, 25, 29, 30, 33, 34, 35, 36, 273, 274, 275]) (.cons rfl (.cons rfl (.cons rfl (.cons rfl (.cons rfl (.cons rfl (.cons rfl (.cons rfl (.cons rfl (.cons rfl (.cons rfl (.cons rfl (.cons rfl (.cons rfl (.cons rfl .nil))))))))))))))) ?_)))
  refine CW_block ?_
  refine CW_loop (σ := Nat) (fun k => [(0, v0), (7, .pointer (some ⟨b7, 0, none⟩)), (14, v14), (17, nv per), (18, v18), (25, .pointer (some ⟨b25, 0, none⟩)), (29, v29), (30, v30), (33, v33), (34, .pointer (some ⟨b34, 0, none⟩)), (35, .pointer (some ⟨b35, 0, none⟩)), (36, v36), (273, .slice (some ⟨g24, 0, none⟩) fats c24), (274, nv fats), (275, nv k)]) (fun k => (bo, blk (bys (fatTo pl fat size per k l)) 5) :: (b35, blk [.func (.func 27) #[] #[.pointer (some ⟨b34, 0, none⟩), .pointer (some ⟨b7, 0, none⟩)]] 73) :: (b34, blk [.slice (some ⟨bo, 0, none⟩) N N] 23) :: (bf, blk (u32s fat) 67) :: (b25, blk [.slice (some ⟨bf, 0, none⟩) fat.length fat.length] 22) :: (g24, blk (nats pl ++ r24) 3) :: (b7, blk [nv size] 3) :: F) (fun k => k ≤ fats) (fun k => fats - k) 0 (by omega) (by repeat (first | exact Prm.nil _ | exact Rem.here _ _ | apply Rem.there | apply Prm.cons)) (.cons rfl (.cons rfl (.cons rfl (.cons rfl (.cons rfl (.cons rfl (.cons rfl (.cons rfl (.cons rfl (.cons rfl (.cons rfl (.cons rfl (.cons rfl (.cons rfl (.cons rfl .nil))))))))))))))) ?_
  intro k hkm
  refine CW_seq ?_
  refine CW_region ?_
  refine RW_y rfl rfl rfl (Yl.h (Yl_lss rfl rfl)) ?_
  refine (RW_nil (QW_then (CW_live (ks := [0, 7, 14, 17, 18, 25, 29, 30, 33, 34, 35, 36, 273, 274, 275, 276]) (.cons rfl (.cons rfl (.cons rfl (.cons rfl (.cons rfl (.cons rfl (.cons rfl (.cons rfl (.cons rfl (.cons rfl (.cons rfl (.cons rfl (.cons rfl (.cons rfl (.cons rfl (.cons rfl .nil)))))))))))))))) ?_)))
  refine CW_seq ?_
  refine CW_cond rfl (fun hc1 => ?_) (fun hc1 => ?_)
  · replace hc1 := of_decide_eq_true hc1
    refine (CW_skip (QW_then (CW_live (ks := [0, 7, 14, 17, 18, 25, 29, 30, 33, 34, 35, 36, 273, 274, 275]) (.cons rfl (.cons rfl (.cons rfl (.cons rfl (.cons rfl (.cons rfl (.cons rfl (.cons rfl (.cons rfl (.cons rfl (.cons rfl (.cons rfl (.cons rfl (.cons rfl (.cons rfl .nil))))))))))))))) ?_)))
    refine CW_seq ?_
    refine CW_block ?_
    refine CW_seq ?_
    have hpk : (pl.getD k 0) < T := getD_lt hpl (by omega)
    have hsec := sector_le (size := size) hpk
    have h2p : size * (2 + (pl.getD k 0)) = size * (1 + (pl.getD k 0)) + size := by rw [← Nat.mul_succ]; congr 1; omega
    have hlk : (fatTo pl fat size per k l).length = N := by
      rw [length_fatTo _ _ _ _ _ _ (by omega) (fun j hj => by have := sector_le (size := size) (getD_lt hpl (show j < pl.length by omega)); omega)]; exact hl
    have hlk2 : (putF (76 + 4 * k) (pl.getD k 0) 4 (fatTo pl fat size per k l)).length = N := by rw [length_putF (by omega)]; exact hlk
    refine CW_region ?_
    refine RW_y rfl rfl rfl (Yl.h (Yl_move rfl)) ?_
    refine RW_y rfl rfl rfl (Yl.h (Yl_index rfl rfl sl_29 (by omega) (by omega))) ?_
    refine RW_y rfl rfl rfl (Yh_load (v := nv (pl.getD k 0)) rfl sc_3 (by repeat (first | exact List.Mem.head _ | apply List.Mem.tail)) (at_nats (by omega) (by omega))) ?_
    refine RW_y rfl rfl rfl (Yl.h (Yl_assign rfl)) ?_
    refine RW_y rfl rfl rfl (Yl.h (Yl_assign rfl)) ?_
    refine (RW_nil (QW_then (CW_live (ks := [0, 7, 14, 17, 18, 25, 29, 30, 33, 34, 35, 36, 38, 39, 273, 274, 275]) (.cons rfl (.cons rfl (.cons rfl (.cons rfl (.cons rfl (.cons rfl (.cons rfl (.cons rfl (.cons rfl (.cons rfl (.cons rfl (.cons rfl (.cons rfl (.cons rfl (.cons rfl (.cons rfl (.cons rfl .nil))))))))))))))))) ?_)))
    refine CW_seq ?_
    refine CW_region ?_
    refine RW_y rfl rfl rfl (Yh_load (v := .slice (some ⟨bo, 0, none⟩) N N) rfl sc_23 (by repeat (first | exact List.Mem.head _ | apply List.Mem.tail)) rfl) ?_
    refine RW_y rfl rfl rfl (Yl.h (Yl_move rfl)) ?_
    refine RW_y rfl rfl rfl (Yl.h (Yl_mul (c := ((4 * k : Nat) : Int)) rfl rfl (mulN (a := 4) (b := k) (by omega)))) ?_
    refine RW_y rfl rfl rfl (Yl.h (Yl_add (c := ((76 + 4 * k : Nat) : Int)) rfl rfl (wi64 (by omega) (by omega)))) ?_
    refine RW_y rfl rfl rfl (Yl.h (Yl_move rfl)) ?_
    refine RW_y rfl rfl rfl (Yl.h (Yl_conv rfl in_3 in_39 (wu64 (by omega) (by omega)))) ?_
    refine RW_fx rfl rfl rfl (Fx_call ok_29 (vs := [.slice (some ⟨bo, 0, none⟩) N N, nv (76 + 4 * k), .int .u64 (((pl.getD k 0) : Nat) : Int), nv 4]) rfl (by repeat (first | exact Pick.nil _ | apply Pick.cons | exact Rem.here _ _ | apply Rem.there)) (put_ctN bo 0 N N (76 + 4 * k) (fatTo pl fat size per k l) (76 + 4 * k) (pl.getD k 0) 4 (by omega) (by omega) (by omega) (by omega) (by omega))) ?_
    rintro _ _ ⟨_, ⟨rfl, rfl⟩, rfl⟩
    refine (RW_nil (QW_then (CW_live (ks := [0, 7, 14, 17, 18, 25, 29, 30, 33, 34, 35, 36, 38, 39, 273, 274, 275]) (.cons rfl (.cons rfl (.cons rfl (.cons rfl (.cons rfl (.cons rfl (.cons rfl (.cons rfl (.cons rfl (.cons rfl (.cons rfl (.cons rfl (.cons rfl (.cons rfl (.cons rfl (.cons rfl (.cons rfl .nil))))))))))))))))) ?_)))
    refine CW_seq ?_
    refine CW_region ?_
    refine RW_y rfl rfl rfl (Yl.h (Yl_move rfl)) ?_
    refine RW_y rfl rfl rfl (Yl.h (Yl_move rfl)) ?_
    refine (RW_nil (QW_then (CW_live (ks := [0, 7, 14, 17, 18, 25, 29, 30, 33, 34, 35, 36, 38, 39, 273, 274, 275, 287, 288]) (.cons rfl (.cons rfl (.cons rfl (.cons rfl (.cons rfl (.cons rfl (.cons rfl (.cons rfl (.cons rfl (.cons rfl (.cons rfl (.cons rfl (.cons rfl (.cons rfl (.cons rfl (.cons rfl (.cons rfl (.cons rfl (.cons rfl .nil))))))))))))))))))) ?_)))
    refine CW_block ?_
    refine CW_loop (σ := Nat) (fun j => [(0, v0), (7, .pointer (some ⟨b7, 0, none⟩)), (14, v14), (17, nv per), (18, v18), (25, .pointer (some ⟨b25, 0, none⟩)), (29, v29), (30, v30), (33, v33), (34, .pointer (some ⟨b34, 0, none⟩)), (35, .pointer (some ⟨b35, 0, none⟩)), (36, v36), (38, nv k), (39, nv (pl.getD k 0)), (273, .slice (some ⟨g24, 0, none⟩) fats c24), (274, nv fats), (275, nv k), (287, nv per), (288, nv j)]) (fun j => (bo, blk (bys (rowTo fat size per (pl.getD k 0) k j (putF (76 + 4 * k) (pl.getD k 0) 4 (fatTo pl fat size per k l)))) 5) :: (b35, blk [.func (.func 27) #[] #[.pointer (some ⟨b34, 0, none⟩), .pointer (some ⟨b7, 0, none⟩)]] 73) :: (b34, blk [.slice (some ⟨bo, 0, none⟩) N N] 23) :: (bf, blk (u32s fat) 67) :: (b25, blk [.slice (some ⟨bf, 0, none⟩) fat.length fat.length] 22) :: (g24, blk (nats pl ++ r24) 3) :: (b7, blk [nv size] 3) :: F) (fun j => j ≤ per) (fun j => per - j) 0 (by omega) (by repeat (first | exact Prm.nil _ | exact Rem.here _ _ | apply Rem.there | apply Prm.cons)) (.cons rfl (.cons rfl (.cons rfl (.cons rfl (.cons rfl (.cons rfl (.cons rfl (.cons rfl (.cons rfl (.cons rfl (.cons rfl (.cons rfl (.cons rfl (.cons rfl (.cons rfl (.cons rfl (.cons rfl (.cons rfl (.cons rfl .nil))))))))))))))))))) ?_
    intro j hjm
    refine CW_seq ?_
    refine CW_region ?_
    refine RW_y rfl rfl rfl (Yl.h (Yl_lss rfl rfl)) ?_
    refine (RW_nil (QW_then (CW_live (ks := [0, 7, 14, 17, 18, 25, 29, 30, 33, 34, 35, 36, 38, 39, 273, 274, 275, 287, 288, 289]) (.cons rfl (.cons rfl (.cons rfl (.cons rfl (.cons rfl (.cons rfl (.cons rfl (.cons rfl (.cons rfl (.cons rfl (.cons rfl (.cons rfl (.cons rfl (.cons rfl (.cons rfl (.cons rfl (.cons rfl (.cons rfl (.cons rfl (.cons rfl .nil)))))))))))))))))))) ?_)))
    refine CW_seq ?_
    refine CW_cond rfl (fun hc2 => ?_) (fun hc2 => ?_)
    · replace hc2 := of_decide_eq_true hc2
      refine (CW_skip (QW_then (CW_live (ks := [0, 7, 14, 17, 18, 25, 29, 30, 33, 34, 35, 36, 38, 39, 273, 274, 275, 287, 288]) (.cons rfl (.cons rfl (.cons rfl (.cons rfl (.cons rfl (.cons rfl (.cons rfl (.cons rfl (.cons rfl (.cons rfl (.cons rfl (.cons rfl (.cons rfl (.cons rfl (.cons rfl (.cons rfl (.cons rfl (.cons rfl (.cons rfl .nil))))))))))))))))))) ?_)))
      refine CW_seq ?_
      refine CW_block ?_
      refine CW_seq ?_
      refine CW_region ?_
      refine RW_y rfl rfl rfl (Yl.h (Yl_move rfl)) ?_
      refine RW_y rfl rfl rfl (Yl.h (Yl_assign rfl)) ?_
      refine (RW_nil (QW_then (CW_live (ks := [0, 7, 14, 17, 18, 25, 29, 30, 33, 34, 35, 36, 38, 39, 40, 273, 274, 275, 287, 288]) (.cons rfl (.cons rfl (.cons rfl (.cons rfl (.cons rfl (.cons rfl (.cons rfl (.cons rfl (.cons rfl (.cons rfl (.cons rfl (.cons rfl (.cons rfl (.cons rfl (.cons rfl (.cons rfl (.cons rfl (.cons rfl (.cons rfl (.cons rfl .nil)))))))))))))))))))) ?_)))
      have hlr : (rowTo fat size per (pl.getD k 0) k j (putF (76 + 4 * k) (pl.getD k 0) 4 (fatTo pl fat size per k l))).length = N := by rw [length_rowTo _ _ _ _ _ _ _ (by omega)]; exact hlk2
      have hkj : k * per + j < fats * per := by
        have : (k + 1) * per ≤ fats * per := Nat.mul_le_mul_right _ (by omega)
        have h3 : (k + 1) * per = k * per + per := Nat.succ_mul k per
        omega
      have hfv : fat.getD (k * per + j) 0 < 4294967296 := getD_lt hfb (by omega)
      have hbig : fats * per ≤ 1000000 := by
        have h1 : fats * per ≤ 100 * 1024 := Nat.mul_le_mul (by omega) (by omega)
        omega
      refine CW_draw [14] _ mixed (Sub.refl _) ?_
      refine RD_y (i := 1) rfl rfl rfl rfl (by kernel_rfl) (fun _ _ _ h => hQ _ _ _ _ _ h) (Yl_move rfl) ?_
      refine RD_y (i := 3) rfl rfl rfl rfl (by kernel_rfl) (fun _ _ _ h => hQ _ _ _ _ _ h) (Yl_move rfl) ?_
      refine RD_y (i := 4) rfl rfl rfl rfl (by kernel_rfl) (fun _ _ _ h => hQ _ _ _ _ _ h) (Yl_mul (c := ((4 * j : Nat) : Int)) rfl rfl (mulN (a := 4) (b := j) (by omega))) ?_
      refine RD_y (i := 6) rfl rfl rfl rfl (by kernel_rfl) (fun _ _ _ h => hQ _ _ _ _ _ h) (Yl_move rfl) ?_
      refine RD_y (i := 7) rfl rfl rfl rfl (by kernel_rfl) (fun _ _ _ h => hQ _ _ _ _ _ h) (Yl_move rfl) ?_
      refine RD_y (i := 8) rfl rfl rfl rfl (by kernel_rfl) (fun _ _ _ h => hQ _ _ _ _ _ h) (Yl_mul (c := ((k * per : Nat) : Int)) rfl rfl (mulN (a := k) (b := per) (by omega))) ?_
      refine RD_y (i := 9) rfl rfl rfl rfl (by kernel_rfl) (fun _ _ _ h => hQ _ _ _ _ _ h) (Yl_move rfl) ?_
      refine RD_y (i := 10) rfl rfl rfl rfl (by kernel_rfl) (fun _ _ _ h => hQ _ _ _ _ _ h) (Yl_add (c := ((k * per + j : Nat) : Int)) rfl rfl (wi64 (by omega) (by omega))) ?_
      refine RD_h (i := 0) #[false, true, false, true, true, true, true, true, true, true, true, true, true, true, false] rfl rfl rfl rfl (by kernel_rfl) (fun _ _ _ h => hQ _ _ _ _ _ h) (Yh_load (v := .func (.func 27) #[] #[.pointer (some ⟨b34, 0, none⟩), .pointer (some ⟨b7, 0, none⟩)]) rfl sc_73 (by repeat (first | exact List.Mem.head _ | apply List.Mem.tail)) rfl) ?_
      refine RD_h (i := 5) #[true, true, true, true, true, false, true, true, true, true, true, false, false, false, false] rfl rfl rfl rfl (by kernel_rfl) (fun _ _ _ h => hQ _ _ _ _ _ h) (Yh_load (v := .slice (some ⟨bf, 0, none⟩) fat.length fat.length) rfl sc_22 (by repeat (first | exact List.Mem.head _ | apply List.Mem.tail)) rfl) ?_
      refine RD_y (i := 11) rfl rfl rfl rfl (by kernel_rfl) (fun _ _ _ h => hQ _ _ _ _ _ h) (Yl_index rfl rfl sl_22 (by omega) (by omega)) ?_
      refine RD_h (i := 12) #[true, true, true, true, true, true, true, true, true, true, true, true, false, false, false] rfl rfl rfl rfl (by kernel_rfl) (fun _ _ _ h => hQ _ _ _ _ _ h) (Yh_load (v := uv (fat.getD (k * per + j) 0)) rfl sc_67 (by repeat (first | exact List.Mem.head _ | apply List.Mem.tail)) (at_u32s (by omega) (by omega))) ?_
      refine RD_y (i := 13) rfl rfl rfl rfl (by kernel_rfl) (fun _ _ _ h => hQ _ _ _ _ _ h) (Yl_conv rfl in_67 in_39 (wu64 (by omega) (by omega))) ?_
      refine RD_one (i := 2) (by kernel_rfl) ?_
      refine RO_fx rfl rfl rfl rfl (Fx_callVQ ok_27 (fs := []) (vs := [nv (pl.getD k 0)]) (cs := [.pointer (some ⟨b34, 0, none⟩), .pointer (some ⟨b7, 0, none⟩)]) rfl rfl (by repeat (first | exact Pick.nil _ | apply Pick.cons | exact Rem.here _ _ | apply Rem.there)) (sector_ct (pl.getD k 0) size N N bo b34 b7 (by omega) (by omega) (by omega) (by omega))) ?_
      rintro _ _ ⟨rfl, rfl⟩
      refine ⟨Or.inr (Sub.refl _), ?_⟩
      refine RD_one (i := 14) (by kernel_rfl) ?_
      refine RO_fx rfl rfl rfl rfl (Fx_call ok_29 (vs := [.slice (some ⟨bo, size * (1 + (pl.getD k 0)), none⟩) size (N - size * (1 + (pl.getD k 0))), nv (4 * j), .int .u64 ((fat.getD (k * per + j) 0 : Nat) : Int), nv 4]) rfl (by repeat (first | exact Pick.nil _ | apply Pick.cons | exact Rem.here _ _ | apply Rem.there)) (put_ctN bo (size * (1 + (pl.getD k 0))) size (N - size * (1 + (pl.getD k 0))) (size * (1 + (pl.getD k 0)) + 4 * j) (rowTo fat size per (pl.getD k 0) k j (putF (76 + 4 * k) (pl.getD k 0) 4 (fatTo pl fat size per k l))) (4 * j) (fat.getD (k * per + j) 0) 4 (by omega) (by omega) (by omega) (by omega) (by omega))) ?_
      rintro _ _ ⟨_, ⟨rfl, rfl⟩, rfl⟩
      refine ⟨Or.inl (by kernel_rfl), ?_⟩
      refine RD_done (by kernel_rfl) ?_
      refine QW_normal_block ?_
      refine (QW_then (CW_live (ks := [0, 7, 14, 17, 18, 25, 29, 30, 33, 34, 35, 36, 38, 39, 273, 274, 275, 287, 288]) (.cons rfl (.cons rfl (.cons rfl (.cons rfl (.cons rfl (.cons rfl (.cons rfl (.cons rfl (.cons rfl (.cons rfl (.cons rfl (.cons rfl (.cons rfl (.cons rfl (.cons rfl (.cons rfl (.cons rfl (.cons rfl (.cons rfl .nil))))))))))))))))))) ?_))
      refine CW_region ?_
      refine RW_y rfl rfl rfl (Yl.h (Yl_add rfl rfl (wi64 (by omega) (by omega)))) ?_
      refine RW_y rfl rfl rfl (Yl.h (Yl_move rfl)) ?_
      refine RW_nil ?_
      exact QW_round (j + 1) (by omega) (by omega) (by repeat (first | exact Prm.nil _ | exact Rem.here _ _ | apply Rem.there | apply Prm.cons)) (.cons rfl (.cons rfl (.cons rfl (.cons rfl (.cons rfl (.cons rfl (.cons rfl (.cons rfl (.cons rfl (.cons rfl (.cons rfl (.cons rfl (.cons rfl (.cons rfl (.cons rfl (.cons rfl (.cons rfl (.cons rfl (.cons rfl .nil)))))))))))))))))))
    · replace hc2 := of_decide_eq_false hc2
      refine CW_exit ?_
      refine QW_exit_then ?_
      refine QW_exit_then ?_
      refine QW_exit_block ?_
      refine QW_normal_block ?_
      refine (QW_then (CW_live (ks := [0, 7, 14, 17, 18, 25, 29, 30, 33, 34, 35, 36, 273, 274, 275]) (.cons rfl (.cons rfl (.cons rfl (.cons rfl (.cons rfl (.cons rfl (.cons rfl (.cons rfl (.cons rfl (.cons rfl (.cons rfl (.cons rfl (.cons rfl (.cons rfl (.cons rfl .nil))))))))))))))) ?_))
      refine CW_region ?_
      refine RW_y rfl rfl rfl (Yl.h (Yl_add rfl rfl (wi64 (by omega) (by omega)))) ?_
      refine RW_y rfl rfl rfl (Yl.h (Yl_move rfl)) ?_
      refine RW_nil ?_
      obtain rfl : per = j := by omega
      exact QW_round (k + 1) (by omega) (by omega) (by repeat (first | exact Prm.nil _ | exact Rem.here _ _ | apply Rem.there | apply Prm.cons)) (.cons rfl (.cons rfl (.cons rfl (.cons rfl (.cons rfl (.cons rfl (.cons rfl (.cons rfl (.cons rfl (.cons rfl (.cons rfl (.cons rfl (.cons rfl (.cons rfl (.cons rfl .nil)))))))))))))))
  · replace hc1 := of_decide_eq_false hc1
    refine CW_exit ?_
    refine QW_exit_then ?_
    refine QW_exit_then ?_
    refine QW_exit_block ?_
    refine (QW_then (CW_live (ks := [0, 7, 14, 18, 29, 30, 33, 34, 36]) (.cons rfl (.cons rfl (.cons rfl (.cons rfl (.cons rfl (.cons rfl (.cons rfl (.cons rfl (.cons rfl .nil))))))))) ?_))
    obtain rfl : fats = k := by omega
    exact hk
end Go.Proofs.YtgoddcicbpjknaaDoor

/-! Write, its sixth part: the small table is laid. -/
set_option maxRecDepth 20000
namespace Go.Proofs.YtgoddcicbpjknaaDoor
open Go
open Cfb
set_option maxHeartbeats 4000000 in
theorem write_F {E : World} {Q : Exit → Act → World → Prop} {F : Heap} (hQ : QP Q) (b7 g29 stl c29 b30 bf b25 b34 b35 bo size N T : Nat) (sts mt fat : List Nat) (r29 : List Value) (l : List UInt8) {v0 v7 v14 v18 v33 v34 : Value} (hsz : 512 ≤ size ∧ size ≤ 4096) (hsl : stl = sts.length) (hsl3 : 3 ≤ sts.length) (hs1 : sts.getD 1 0 ≤ 4294967295) (hmt : mt.length ≤ 1000000) (hmb : ∀ x ∈ mt, x < 4294967296) (hfb : ∀ x ∈ fat, x < 4294967296) (hT : T ≤ 100000) (hTf : T ≤ fat.length) (hN : size * (1 + T) = N) (hl : l.length = N) (hch : ∀ k, k * size < 4 * mt.length → walkP fat (sts.getD 1 0) k < T)
    (hk : CW Tryd.prog E 514 [(0, v0), (7, v7), (14, v14), (18, v18), (29, .slice (some ⟨g29, 0, none⟩) stl c29), (30, .slice (some ⟨b30, 0, none⟩) mt.length mt.length), (33, v33), (34, v34), (36, .func (.func 28) #[] #[.pointer (some ⟨b25, 0, none⟩), .pointer (some ⟨b35, 0, none⟩)])] ((bo, blk (bys (fillF fat size (tabF mt) (sts.getD 1 0) l)) 5) :: (b35, blk [.func (.func 27) #[] #[.pointer (some ⟨b34, 0, none⟩), .pointer (some ⟨b7, 0, none⟩)]] 73) :: (b34, blk [.slice (some ⟨bo, 0, none⟩) N N] 23) :: (bf, blk (u32s fat) 67) :: (b25, blk [.slice (some ⟨bf, 0, none⟩) fat.length fat.length] 22) :: (b30, blk (u32s mt) 67) :: (g29, blk (nats sts ++ r29) 3) :: (b7, blk [nv size] 3) :: F) (dig [1, 1, 1, 1, 1, 1, 1, 1, 1, 1, 1, 1, 1, 1, 1, 1, 1, 1, 1, 1, 1, 1, 1, 1, 1, 1, 1, 1, 1, 1, 1, 1, 1, 1, 1, 1, 1, 1, 1, 1, 1, 1, 1, 1] (bodyOf Tryd.f15)) Q) :
    CW Tryd.prog E 514 [(0, v0), (7, v7), (14, v14), (18, v18), (29, .slice (some ⟨g29, 0, none⟩) stl c29), (30, .slice (some ⟨b30, 0, none⟩) mt.length mt.length), (33, v33), (34, v34), (36, .func (.func 28) #[] #[.pointer (some ⟨b25, 0, none⟩), .pointer (some ⟨b35, 0, none⟩)])] ((bo, blk (bys l) 5) :: (b35, blk [.func (.func 27) #[] #[.pointer (some ⟨b34, 0, none⟩), .pointer (some ⟨b7, 0, none⟩)]] 73) :: (b34, blk [.slice (some ⟨bo, 0, none⟩) N N] 23) :: (bf, blk (u32s fat) 67) :: (b25, blk [.slice (some ⟨bf, 0, none⟩) fat.length fat.length] 22) :: (b30, blk (u32s mt) 67) :: (g29, blk (nats sts ++ r29) 3) :: (b7, blk [nv size] 3) :: F) (dig [1, 1, 1, 1, 1, 1, 1, 1, 1, 1, 1, 1, 1, 1, 1, 1, 1, 1, 1, 1, 1, 1, 1, 1, 1, 1, 1, 1, 1, 1, 1, 1, 1, 1, 1, 1, 1, 1, 1, 1, 1] (bodyOf Tryd.f15)) Q := by
  have hNb : N ≤ 1000000000 := by
    have h1 : size * (1 + T) ≤ 4096 * 100001 := Nat.mul_le_mul hsz.2 (by omega)
    omega
  refine CW_seq ?_
  refine CW_region ?_
  refine RW_y rfl rfl rfl (Yl.h (Yl_move rfl)) ?_
  refine RW_y rfl rfl rfl (Yl.h (Yl_len rfl sl_22)) ?_
  refine RW_y rfl rfl rfl (Yl.h (Yl_mul (c := ((4 * mt.length : Nat) : Int)) rfl rfl (mulN (a := 4) (b := mt.length) (by omega)))) ?_
  refine RW_fx rfl rfl rfl (Fx_makeU8 (4 * mt.length) rfl rfl (by omega)) ?_
  rintro _ _ ⟨b311, rfl, rfl⟩
  refine RW_y rfl rfl rfl (Yl.h (Yl_assign rfl)) ?_
  refine (RW_nil (QW_then (CW_live (ks := [0, 7, 14, 18, 29, 30, 33, 34, 36, 41]) (.cons rfl (.cons rfl (.cons rfl (.cons rfl (.cons rfl (.cons rfl (.cons rfl (.cons rfl (.cons rfl (.cons rfl .nil)))))))))) ?_)))
  refine CW_seq ?_
  refine CW_seq ?_
  refine CW_region ?_
  refine RW_y rfl rfl rfl (Yl.h (Yl_move rfl)) ?_
  refine RW_y rfl rfl rfl (Yl.h (Yl_len rfl sl_22)) ?_
  refine RW_y rfl rfl rfl (Yl.h (Yl_move rfl)) ?_
  refine (RW_nil (QW_then (CW_live (ks := [0, 7, 14, 18, 29, 30, 33, 34, 36, 41, 312, 313, 314]) (.cons rfl (.cons rfl (.cons rfl (.cons rfl (.cons rfl (.cons rfl (.cons rfl (.cons rfl (.cons rfl (.cons rfl (.cons rfl (.cons rfl (.cons rfl .nil))))))))))))) ?_)))
  refine CW_block ?_
  refine CW_loop (σ := Nat) (fun k => [(0, v0), (7, v7), (14, v14), (18, v18), (29, .slice (some ⟨g29, 0, none⟩) stl c29), (30, .slice (some ⟨b30, 0, none⟩) mt.length mt.length), (33, v33), (34, v34), (36, .func (.func 28) #[] #[.pointer (some ⟨b25, 0, none⟩), .pointer (some ⟨b35, 0, none⟩)]), (41, .slice (some ⟨b311, 0, none⟩) (4 * mt.length) (4 * mt.length)), (312, .slice (some ⟨b30, 0, none⟩) mt.length mt.length), (313, nv mt.length), (314, nv k)]) (fun k => (b311, blk (bys (tabTo mt 0 k (List.replicate (4 * mt.length) 0))) 5) :: (bo, blk (bys l) 5) :: (b35, blk [.func (.func 27) #[] #[.pointer (some ⟨b34, 0, none⟩), .pointer (some ⟨b7, 0, none⟩)]] 73) :: (b34, blk [.slice (some ⟨bo, 0, none⟩) N N] 23) :: (bf, blk (u32s fat) 67) :: (b25, blk [.slice (some ⟨bf, 0, none⟩) fat.length fat.length] 22) :: (b30, blk (u32s mt) 67) :: (g29, blk (nats sts ++ r29) 3) :: (b7, blk [nv size] 3) :: F) (fun k => k ≤ mt.length) (fun k => mt.length - k) 0 (by omega) (by repeat (first | exact Prm.nil _ | exact Rem.here _ _ | apply Rem.there | apply Prm.cons)) (.cons rfl (.cons rfl (.cons rfl (.cons rfl (.cons rfl (.cons rfl (.cons rfl (.cons rfl (.cons rfl (.cons rfl (.cons rfl (.cons rfl (.cons rfl .nil))))))))))))) ?_
  intro k hkm
  refine CW_seq ?_
  refine CW_region ?_
  refine RW_y rfl rfl rfl (Yl.h (Yl_lss rfl rfl)) ?_
  refine (RW_nil (QW_then (CW_live (ks := [0, 7, 14, 18, 29, 30, 33, 34, 36, 41, 312, 313, 314, 315]) (.cons rfl (.cons rfl (.cons rfl (.cons rfl (.cons rfl (.cons rfl (.cons rfl (.cons rfl (.cons rfl (.cons rfl (.cons rfl (.cons rfl (.cons rfl (.cons rfl .nil)))))))))))))) ?_)))
  refine CW_seq ?_
  refine CW_cond rfl (fun hc1 => ?_) (fun hc1 => ?_)
  · replace hc1 := of_decide_eq_true hc1
    refine (CW_skip (QW_then (CW_live (ks := [0, 7, 14, 18, 29, 30, 33, 34, 36, 41, 312, 313, 314]) (.cons rfl (.cons rfl (.cons rfl (.cons rfl (.cons rfl (.cons rfl (.cons rfl (.cons rfl (.cons rfl (.cons rfl (.cons rfl (.cons rfl (.cons rfl .nil))))))))))))) ?_)))
    refine CW_seq ?_
    refine CW_block ?_
    refine CW_seq ?_
    refine CW_region ?_
    refine RW_y rfl rfl rfl (Yl.h (Yl_move rfl)) ?_
    refine RW_y rfl rfl rfl (Yl.h (Yl_index rfl rfl sl_22 (by omega) (by omega))) ?_
    refine RW_y rfl rfl rfl (Yh_load (v := uv (mt.getD k 0)) rfl sc_67 (by repeat (first | exact List.Mem.head _ | apply List.Mem.tail)) (at_u32s (by omega) (by omega))) ?_
    refine RW_y rfl rfl rfl (Yl.h (Yl_assign rfl)) ?_
    refine RW_y rfl rfl rfl (Yl.h (Yl_assign rfl)) ?_
    refine (RW_nil (QW_then (CW_live (ks := [0, 7, 14, 18, 29, 30, 33, 34, 36, 41, 42, 43, 312, 313, 314]) (.cons rfl (.cons rfl (.cons rfl (.cons rfl (.cons rfl (.cons rfl (.cons rfl (.cons rfl (.cons rfl (.cons rfl (.cons rfl (.cons rfl (.cons rfl (.cons rfl (.cons rfl .nil))))))))))))))) ?_)))
    have hmk : mt.getD k 0 < 4294967296 := getD_lt hmb (by omega)
    have hlk : (tabTo mt 0 k (List.replicate (4 * mt.length) 0)).length = 4 * mt.length := by rw [length_tabTo _ _ _ _ (by simp; omega)]; simp
    refine CW_region ?_
    refine RW_y rfl rfl rfl (Yl.h (Yl_move rfl)) ?_
    refine RW_y rfl rfl rfl (Yl.h (Yl_move rfl)) ?_
    refine RW_y rfl rfl rfl (Yl.h (Yl_mul (c := ((4 * k : Nat) : Int)) rfl rfl (mulN (a := 4) (b := k) (by omega)))) ?_
    refine RW_y rfl rfl rfl (Yl.h (Yl_move rfl)) ?_
    refine RW_y rfl rfl rfl (Yl.h (Yl_conv rfl in_67 in_39 (wu64 (by omega) (by omega)))) ?_
    refine RW_fx rfl rfl rfl (Fx_call ok_29 (vs := [.slice (some ⟨b311, 0, none⟩) (4 * mt.length) (4 * mt.length), nv (4 * k), .int .u64 ((mt.getD k 0 : Nat) : Int), nv 4]) rfl (by repeat (first | exact Pick.nil _ | apply Pick.cons | exact Rem.here _ _ | apply Rem.there)) (put_ctN b311 0 (4 * mt.length) (4 * mt.length) (0 + 4 * k) (tabTo mt 0 k (List.replicate (4 * mt.length) 0)) (4 * k) (mt.getD k 0) 4 (by omega) (by omega) (by omega) (by omega) (by omega))) ?_
    rintro _ _ ⟨_, ⟨rfl, rfl⟩, rfl⟩
    refine RW_nil ?_
    refine QW_normal_block ?_
    refine (QW_then (CW_live (ks := [0, 7, 14, 18, 29, 30, 33, 34, 36, 41, 312, 313, 314]) (.cons rfl (.cons rfl (.cons rfl (.cons rfl (.cons rfl (.cons rfl (.cons rfl (.cons rfl (.cons rfl (.cons rfl (.cons rfl (.cons rfl (.cons rfl .nil))))))))))))) ?_))
    refine CW_region ?_
    refine RW_y rfl rfl rfl (Yl.h (Yl_add rfl rfl (wi64 (by omega) (by omega)))) ?_
    refine RW_y rfl rfl rfl (Yl.h (Yl_move rfl)) ?_
    refine RW_nil ?_
    exact QW_round (k + 1) (by omega) (by omega) (by repeat (first | exact Prm.nil _ | exact Rem.here _ _ | apply Rem.there | apply Prm.cons)) (.cons rfl (.cons rfl (.cons rfl (.cons rfl (.cons rfl (.cons rfl (.cons rfl (.cons rfl (.cons rfl (.cons rfl (.cons rfl (.cons rfl (.cons rfl .nil)))))))))))))
  · replace hc1 := of_decide_eq_false hc1
    refine CW_exit ?_
    refine QW_exit_then ?_
    refine QW_exit_then ?_
    refine QW_exit_block ?_
    refine (QW_then (CW_live (ks := [0, 7, 14, 18, 29, 30, 33, 34, 36, 41]) (.cons rfl (.cons rfl (.cons rfl (.cons rfl (.cons rfl (.cons rfl (.cons rfl (.cons rfl (.cons rfl (.cons rfl .nil)))))))))) ?_))
    refine CW_seq ?_
    obtain rfl : k = mt.length := by omega
    rw [show (b311, blk (bys (tabTo mt 0 mt.length (List.replicate (4 * mt.length) 0))) 5) = (b311, blk (bys (tabF mt) ++ []) 5) by rw [List.append_nil]; rfl]
    have hfill := fill_ct b25 bf b35 b34 b7 bo b311 fat.length N (4 * mt.length) size (sts.getD 1 0) N fat (tabF mt) l [] (by omega) hl.symm (by omega) (by omega) (by simp) (by simp; omega) hs1 hfb (fun k hk => by
      rw [length_tabF] at hk
      have h1 := hch k hk
      have h2 := sector_le2 (size := size) h1
      omega)
    rw [length_tabF] at hfill
    refine CW_region ?_
    refine RW_y rfl rfl rfl (Yl.h (Yl_move rfl)) ?_
    refine RW_y rfl rfl rfl (Yl.h (Yl_move rfl)) ?_
    refine RW_y rfl rfl rfl (Yl.h (Yl_index rfl rfl sl_29 (by omega) (by omega))) ?_
    refine RW_y rfl rfl rfl (Yh_load (v := nv (sts.getD 1 0)) rfl sc_3 (by repeat (first | exact List.Mem.head _ | apply List.Mem.tail)) (at_nats (by omega) (by omega))) ?_
    refine RW_y rfl rfl rfl (Yl.h (Yl_move rfl)) ?_
    refine RW_fx rfl rfl rfl (Fx_callV ok_28 (fs := []) (vs := [nv (sts.getD 1 0), .slice (some ⟨b311, 0, none⟩) (4 * mt.length) (4 * mt.length)]) (cs := [.pointer (some ⟨b25, 0, none⟩), .pointer (some ⟨b35, 0, none⟩)]) rfl rfl (by repeat (first | exact Pick.nil _ | apply Pick.cons | exact Rem.here _ _ | apply Rem.there)) hfill) ?_
    rintro _ _ ⟨_, ⟨rfl, rfl⟩, rfl⟩
    refine (RW_nil (QW_then (CW_live (ks := [0, 7, 14, 18, 29, 30, 33, 34, 36]) (.cons rfl (.cons rfl (.cons rfl (.cons rfl (.cons rfl (.cons rfl (.cons rfl (.cons rfl (.cons rfl .nil))))))))) ?_)))
    refine CW_dropB (e := (b311, _)) (by repeat (first | exact Rem.here _ _ | apply Rem.there)) ?_
    refine CW_heap (Prm.perm (T := (bo, blk (bys (fillF fat size (tabF mt) (sts.getD 1 0) l)) 5) :: (b35, blk [.func (.func 27) #[] #[.pointer (some ⟨b34, 0, none⟩), .pointer (some ⟨b7, 0, none⟩)]] 73) :: (b34, blk [.slice (some ⟨bo, 0, none⟩) N N] 23) :: (bf, blk (u32s fat) 67) :: (b25, blk [.slice (some ⟨bf, 0, none⟩) fat.length fat.length] 22) :: (b30, blk (u32s mt) 67) :: (g29, blk (nats sts ++ r29) 3) :: (b7, blk [nv size] 3) :: F) (by repeat (first | exact Prm.nil _ | exact Rem.here _ _ | apply Rem.there | apply Prm.cons))) ?_
    exact hk
end Go.Proofs.YtgoddcicbpjknaaDoor

/-! Write, its seventh part: the small stream and the directory, empty. -/
set_option maxRecDepth 20000
namespace Go.Proofs.YtgoddcicbpjknaaDoor
open Go
open Cfb
set_option maxHeartbeats 4000000 in
theorem write_G {E : World} {Q : Exit → Act → World → Prop} {F : Heap} (hQ : QP Q) (b7 size minis dirs : Nat) {v0 v29 v30 v33 v34 v36 : Value} (hsz : 512 ≤ size ∧ size ≤ 4096) (hm : minis ≤ 100000) (hd : dirs * size ≤ 1000000)
    (hk : ∀ b44 b45, CW Tryd.prog E 514 [(0, v0), (14, nv minis), (29, v29), (30, v30), (33, v33), (34, v34), (36, v36), (44, .slice (some ⟨b44, 0, none⟩) (64 * minis) (64 * minis)), (45, .slice (some ⟨b45, 0, none⟩) (dirs * size) (dirs * size))] ((b45, blk (bys (dirTo (dirs * size / 128) (List.replicate (dirs * size) 0))) 5) :: (b44, blk (bys (List.replicate (64 * minis) 0)) 5) :: (b7, blk [nv size] 3) :: F) (dig [1, 1, 1, 1, 1, 1, 1, 1, 1, 1, 1, 1, 1, 1, 1, 1, 1, 1, 1, 1, 1, 1, 1, 1, 1, 1, 1, 1, 1, 1, 1, 1, 1, 1, 1, 1, 1, 1, 1, 1, 1, 1, 1, 1, 1, 1, 1] (bodyOf Tryd.f15)) Q) :
    CW Tryd.prog E 514 [(0, v0), (7, .pointer (some ⟨b7, 0, none⟩)), (14, nv minis), (18, nv dirs), (29, v29), (30, v30), (33, v33), (34, v34), (36, v36)] ((b7, blk [nv size] 3) :: F) (dig [1, 1, 1, 1, 1, 1, 1, 1, 1, 1, 1, 1, 1, 1, 1, 1, 1, 1, 1, 1, 1, 1, 1, 1, 1, 1, 1, 1, 1, 1, 1, 1, 1, 1, 1, 1, 1, 1, 1, 1, 1, 1, 1, 1] (bodyOf Tryd.f15)) Q := by
  refine CW_seq ?_
  refine CW_region ?_
  refine RW_y rfl rfl rfl (Yl.h (Yl_move rfl)) ?_
  refine RW_y rfl rfl rfl (Yl.h (Yl_mul (c := ((64 * minis : Nat) : Int)) rfl rfl (mulN (a := 64) (b := minis) (by omega)))) ?_
  refine RW_fx rfl rfl rfl (Fx_makeU8 (64 * minis) rfl rfl (by omega)) ?_
  rintro _ _ ⟨b334, rfl, rfl⟩
  refine RW_y rfl rfl rfl (Yl.h (Yl_assign rfl)) ?_
  refine (RW_nil (QW_then (CW_live (ks := [0, 7, 14, 18, 29, 30, 33, 34, 36, 44]) (.cons rfl (.cons rfl (.cons rfl (.cons rfl (.cons rfl (.cons rfl (.cons rfl (.cons rfl (.cons rfl (.cons rfl .nil)))))))))) ?_)))
  refine CW_seq ?_
  refine CW_region ?_
  refine RW_y rfl rfl rfl (Yl.h (Yl_move rfl)) ?_
  refine RW_y rfl rfl rfl (Yh_load (v := nv size) rfl sc_3 (by repeat (first | exact List.Mem.head _ | apply List.Mem.tail)) rfl) ?_
  refine RW_y rfl rfl rfl (Yl.h (Yl_mul (c := ((dirs * size : Nat) : Int)) rfl rfl (mulN (a := dirs) (b := size) (by omega)))) ?_
  refine RW_fx rfl rfl rfl (Fx_makeU8 (dirs * size) rfl rfl (by omega)) ?_
  rintro _ _ ⟨b338, rfl, rfl⟩
  refine RW_y rfl rfl rfl (Yl.h (Yl_assign rfl)) ?_
  refine (RW_nil (QW_then (CW_live (ks := [0, 7, 14, 18, 29, 30, 33, 34, 36, 44, 45]) (.cons rfl (.cons rfl (.cons rfl (.cons rfl (.cons rfl (.cons rfl (.cons rfl (.cons rfl (.cons rfl (.cons rfl (.cons rfl .nil))))))))))) ?_)))
  refine CW_seq ?_
  refine CW_seq ?_
  refine CW_region ?_
  refine RW_y rfl rfl rfl (Yl.h (Yl_move rfl)) ?_
  refine RW_y rfl rfl rfl (Yh_load (v := nv size) rfl sc_3 (by repeat (first | exact List.Mem.head _ | apply List.Mem.tail)) rfl) ?_
  refine RW_y rfl rfl rfl (Yl.h (Yl_mul (c := ((dirs * size : Nat) : Int)) rfl rfl (mulN (a := dirs) (b := size) (by omega)))) ?_
  refine RW_y rfl rfl rfl (Yl.h (Yl_quo (c := ((dirs * size / 128 : Nat) : Int)) rfl rfl (by omega) (quoN (a := dirs * size) (b := 128) (by omega)))) ?_
  refine RW_y rfl rfl rfl (Yl.h (Yl_move rfl)) ?_
  refine (RW_nil (QW_then (CW_live (ks := [0, 14, 29, 30, 33, 34, 36, 44, 45, 342, 343]) (.cons rfl (.cons rfl (.cons rfl (.cons rfl (.cons rfl (.cons rfl (.cons rfl (.cons rfl (.cons rfl (.cons rfl (.cons rfl .nil))))))))))) ?_)))
  refine CW_block ?_
  refine CW_loop (σ := Nat) (fun k => [(0, v0), (14, nv minis), (29, v29), (30, v30), (33, v33), (34, v34), (36, v36), (44, .slice (some ⟨b334, 0, none⟩) (64 * minis) (64 * minis)), (45, .slice (some ⟨b338, 0, none⟩) (dirs * size) (dirs * size)), (342, nv (dirs * size / 128)), (343, nv k)]) (fun k => (b338, blk (bys (dirTo k (List.replicate (dirs * size) 0))) 5) :: (b334, blk (bys (List.replicate (64 * minis) 0)) 5) :: (b7, blk [nv size] 3) :: F) (fun k => k ≤ dirs * size / 128) (fun k => dirs * size / 128 - k) 0 (by omega) (by repeat (first | exact Prm.nil _ | exact Rem.here _ _ | apply Rem.there | apply Prm.cons)) (.cons rfl (.cons rfl (.cons rfl (.cons rfl (.cons rfl (.cons rfl (.cons rfl (.cons rfl (.cons rfl (.cons rfl (.cons rfl .nil))))))))))) ?_
  intro k hkm
  refine CW_seq ?_
  refine CW_region ?_
  refine RW_y rfl rfl rfl (Yl.h (Yl_lss rfl rfl)) ?_
  refine (RW_nil (QW_then (CW_live (ks := [0, 14, 29, 30, 33, 34, 36, 44, 45, 342, 343, 344]) (.cons rfl (.cons rfl (.cons rfl (.cons rfl (.cons rfl (.cons rfl (.cons rfl (.cons rfl (.cons rfl (.cons rfl (.cons rfl (.cons rfl .nil)))))))))))) ?_)))
  refine CW_seq ?_
  refine CW_cond rfl (fun hc1 => ?_) (fun hc1 => ?_)
  · replace hc1 := of_decide_eq_true hc1
    refine (CW_skip (QW_then (CW_live (ks := [0, 14, 29, 30, 33, 34, 36, 44, 45, 342, 343]) (.cons rfl (.cons rfl (.cons rfl (.cons rfl (.cons rfl (.cons rfl (.cons rfl (.cons rfl (.cons rfl (.cons rfl (.cons rfl .nil))))))))))) ?_)))
    refine CW_seq ?_
    refine CW_block ?_
    refine CW_seq ?_
    refine CW_region ?_
    refine RW_y rfl rfl rfl (Yl.h (Yl_move rfl)) ?_
    refine RW_y rfl rfl rfl (Yl.h (Yl_assign rfl)) ?_
    refine (RW_nil (QW_then (CW_live (ks := [0, 14, 29, 30, 33, 34, 36, 44, 45, 46, 342, 343]) (.cons rfl (.cons rfl (.cons rfl (.cons rfl (.cons rfl (.cons rfl (.cons rfl (.cons rfl (.cons rfl (.cons rfl (.cons rfl (.cons rfl .nil)))))))))))) ?_)))
    refine CW_seq ?_
    refine CW_region ?_
    refine RW_y rfl rfl rfl (Yl.h (Yl_move rfl)) ?_
    refine (RW_nil (QW_then (CW_live (ks := [0, 14, 29, 30, 33, 34, 36, 44, 45, 46, 342, 343, 346]) (.cons rfl (.cons rfl (.cons rfl (.cons rfl (.cons rfl (.cons rfl (.cons rfl (.cons rfl (.cons rfl (.cons rfl (.cons rfl (.cons rfl (.cons rfl .nil))))))))))))) ?_)))
    refine CW_block ?_
    refine CW_loop (σ := Nat) (fun j => [(0, v0), (14, nv minis), (29, v29), (30, v30), (33, v33), (34, v34), (36, v36), (44, .slice (some ⟨b334, 0, none⟩) (64 * minis) (64 * minis)), (45, .slice (some ⟨b338, 0, none⟩) (dirs * size) (dirs * size)), (46, nv k), (342, nv (dirs * size / 128)), (343, nv k), (346, nv j)]) (fun j => (b338, blk (bys (dir3 k j (dirTo k (List.replicate (dirs * size) 0)))) 5) :: (b334, blk (bys (List.replicate (64 * minis) 0)) 5) :: (b7, blk [nv size] 3) :: F) (fun j => j ≤ 3) (fun j => 3 - j) 0 (by omega) (by repeat (first | exact Prm.nil _ | exact Rem.here _ _ | apply Rem.there | apply Prm.cons)) (.cons rfl (.cons rfl (.cons rfl (.cons rfl (.cons rfl (.cons rfl (.cons rfl (.cons rfl (.cons rfl (.cons rfl (.cons rfl (.cons rfl (.cons rfl .nil))))))))))))) ?_
    intro j hjm
    refine CW_seq ?_
    refine CW_region ?_
    refine RW_y rfl rfl rfl (Yl.h (Yl_lss rfl rfl)) ?_
    refine (RW_nil (QW_then (CW_live (ks := [0, 14, 29, 30, 33, 34, 36, 44, 45, 46, 342, 343, 346, 347]) (.cons rfl (.cons rfl (.cons rfl (.cons rfl (.cons rfl (.cons rfl (.cons rfl (.cons rfl (.cons rfl (.cons rfl (.cons rfl (.cons rfl (.cons rfl (.cons rfl .nil)))))))))))))) ?_)))
    refine CW_seq ?_
    refine CW_cond rfl (fun hc2 => ?_) (fun hc2 => ?_)
    · replace hc2 := of_decide_eq_true hc2
      refine (CW_skip (QW_then (CW_live (ks := [0, 14, 29, 30, 33, 34, 36, 44, 45, 46, 342, 343, 346]) (.cons rfl (.cons rfl (.cons rfl (.cons rfl (.cons rfl (.cons rfl (.cons rfl (.cons rfl (.cons rfl (.cons rfl (.cons rfl (.cons rfl (.cons rfl .nil))))))))))))) ?_)))
      refine CW_seq ?_
      refine CW_block ?_
      refine CW_seq ?_
      refine CW_region ?_
      refine RW_y rfl rfl rfl (Yl.h (Yl_move rfl)) ?_
      refine RW_y rfl rfl rfl (Yl.h (Yl_assign rfl)) ?_
      refine (RW_nil (QW_then (CW_live (ks := [0, 14, 29, 30, 33, 34, 36, 44, 45, 46, 47, 342, 343, 346]) (.cons rfl (.cons rfl (.cons rfl (.cons rfl (.cons rfl (.cons rfl (.cons rfl (.cons rfl (.cons rfl (.cons rfl (.cons rfl (.cons rfl (.cons rfl (.cons rfl .nil)))))))))))))) ?_)))
      have hlk : (dirTo k (List.replicate (dirs * size) 0)).length = dirs * size := by rw [length_dirTo _ _ (by simp; omega)]; simp
      have hlj : (dir3 k j (dirTo k (List.replicate (dirs * size) 0))).length = dirs * size := by rw [length_dir3 _ _ _ (by omega) (by omega)]; exact hlk
      refine CW_region ?_
      refine RW_y rfl rfl rfl (Yl.h (Yl_move rfl)) ?_
      refine RW_y rfl rfl rfl (Yl.h (Yl_move rfl)) ?_
      refine RW_y rfl rfl rfl (Yl.h (Yl_mul (c := ((128 * k : Nat) : Int)) rfl rfl (mulN (a := 128) (b := k) (by omega)))) ?_
      refine RW_y rfl rfl rfl (Yl.h (Yl_add (c := ((128 * k + 68 : Nat) : Int)) rfl rfl (wi64 (by omega) (by omega)))) ?_
      refine RW_y rfl rfl rfl (Yl.h (Yl_move rfl)) ?_
      refine RW_y rfl rfl rfl (Yl.h (Yl_mul (c := ((4 * j : Nat) : Int)) rfl rfl (mulN (a := 4) (b := j) (by omega)))) ?_
      refine RW_y rfl rfl rfl (Yl.h (Yl_add (c := ((128 * k + 68 + 4 * j : Nat) : Int)) rfl rfl (wi64 (by omega) (by omega)))) ?_
      refine RW_fx rfl rfl rfl (Fx_call ok_29 (vs := [.slice (some ⟨b338, 0, none⟩) (dirs * size) (dirs * size), nv (128 * k + 68 + 4 * j), .int .u64 ((FREE : Nat) : Int), nv 4]) rfl (by repeat (first | exact Pick.nil _ | apply Pick.cons | exact Rem.here _ _ | apply Rem.there)) (put_ctN b338 0 (dirs * size) (dirs * size) (128 * k + 68 + 4 * j) (dir3 k j (dirTo k (List.replicate (dirs * size) 0))) (128 * k + 68 + 4 * j) FREE 4 (by omega) (by omega) (by omega) (by omega) (by omega))) ?_
      rintro _ _ ⟨_, ⟨rfl, rfl⟩, rfl⟩
      refine RW_nil ?_
      refine QW_normal_block ?_
      refine (QW_then (CW_live (ks := [0, 14, 29, 30, 33, 34, 36, 44, 45, 46, 342, 343, 346]) (.cons rfl (.cons rfl (.cons rfl (.cons rfl (.cons rfl (.cons rfl (.cons rfl (.cons rfl (.cons rfl (.cons rfl (.cons rfl (.cons rfl (.cons rfl .nil))))))))))))) ?_))
      refine CW_region ?_
      refine RW_y rfl rfl rfl (Yl.h (Yl_add rfl rfl (wi64 (by omega) (by omega)))) ?_
      refine RW_y rfl rfl rfl (Yl.h (Yl_move rfl)) ?_
      refine RW_nil ?_
      exact QW_round (j + 1) (by omega) (by omega) (by repeat (first | exact Prm.nil _ | exact Rem.here _ _ | apply Rem.there | apply Prm.cons)) (.cons rfl (.cons rfl (.cons rfl (.cons rfl (.cons rfl (.cons rfl (.cons rfl (.cons rfl (.cons rfl (.cons rfl (.cons rfl (.cons rfl (.cons rfl .nil)))))))))))))
    · replace hc2 := of_decide_eq_false hc2
      refine CW_exit ?_
      refine QW_exit_then ?_
      refine QW_exit_then ?_
      refine QW_exit_block ?_
      refine QW_normal_block ?_
      refine (QW_then (CW_live (ks := [0, 14, 29, 30, 33, 34, 36, 44, 45, 342, 343]) (.cons rfl (.cons rfl (.cons rfl (.cons rfl (.cons rfl (.cons rfl (.cons rfl (.cons rfl (.cons rfl (.cons rfl (.cons rfl .nil))))))))))) ?_))
      refine CW_region ?_
      refine RW_y rfl rfl rfl (Yl.h (Yl_add rfl rfl (wi64 (by omega) (by omega)))) ?_
      refine RW_y rfl rfl rfl (Yl.h (Yl_move rfl)) ?_
      refine RW_nil ?_
      obtain rfl : j = 3 := by omega
      exact QW_round (k + 1) (by omega) (by omega) (by repeat (first | exact Prm.nil _ | exact Rem.here _ _ | apply Rem.there | apply Prm.cons)) (.cons rfl (.cons rfl (.cons rfl (.cons rfl (.cons rfl (.cons rfl (.cons rfl (.cons rfl (.cons rfl (.cons rfl (.cons rfl .nil)))))))))))
  · replace hc1 := of_decide_eq_false hc1
    refine CW_exit ?_
    refine QW_exit_then ?_
    refine QW_exit_then ?_
    refine QW_exit_block ?_
    refine (QW_then (CW_live (ks := [0, 14, 29, 30, 33, 34, 36, 44, 45]) (.cons rfl (.cons rfl (.cons rfl (.cons rfl (.cons rfl (.cons rfl (.cons rfl (.cons rfl (.cons rfl .nil))))))))) ?_))
    obtain rfl : k = dirs * size / 128 := by omega
    exact hk b334 b338
end Go.Proofs.YtgoddcicbpjknaaDoor

/-! Write, its eleventh part: a node's entry behind its name. -/
set_option maxRecDepth 20000
namespace Go.Proofs.YtgoddcicbpjknaaDoor
open Go
open Cfb
set_option maxHeartbeats 4000000 in
theorem write_K {E : World} {Q : Exit → Act → World → Prop} {F : Heap} (hQ : QP Q) (b45 b49 D A C st ln : Nat) (kd : UInt8) (x : Nm) (l : List UInt8) {v14 v29 v30 v33 v34 v36 v44 v359 v360 v361 : Value} (hok : x.ok) (hD : A + 128 ≤ D) (hC : D - A = C) (hDb : D ≤ 1000000) (hl : l.length = D) (hst : st ≤ 4294967295) (hln : ln ≤ 100000000) (hcr : x.nd.created < 18446744073709551616) (hmo : x.nd.modified < 18446744073709551616)
    (hk : QW E 514 [(14, v14), (29, v29), (30, v30), (33, v33), (34, v34), (36, v36), (44, v44), (45, .slice (some ⟨b45, 0, none⟩) D D), (359, v359), (360, v360), (361, v361)] ((b45, blk (bys (entF A x.nd kd st ln l)) 5) :: F) .normal Q) :
    CW Tryd.prog E 514 [(14, v14), (29, v29), (30, v30), (33, v33), (34, v34), (36, v36), (44, v44), (45, .slice (some ⟨b45, 0, none⟩) D D), (49, .pointer (some ⟨b49, 0, none⟩)), (50, .slice (some ⟨b45, A, none⟩) C C), (52, bv kd), (53, nv st), (54, nv ln), (359, v359), (360, v360), (361, v361)] ((b45, blk (bys l) 5) :: (b49, blk x.cells 43) :: F) (dig [1, 1, 1, 1, 1, 1, 1, 1, 1, 1, 1, 1, 1, 1, 1, 1, 1, 1, 1, 1, 1, 1, 1, 1, 1, 1, 1, 1, 1, 1, 1, 1, 1, 1, 1, 1, 1, 1, 1, 1, 1, 1, 1, 1, 1, 1, 1, 0, 1, 2, 2, 1, 1, 0, 2, 1, 1, 1, 1, 1, 1] (bodyOf Tryd.f15)) Q := by
  refine CW_seq ?_
  refine CW_region ?_
  refine RW_y rfl rfl rfl (Yl.h (Yl_move rfl)) ?_
  refine RW_y rfl rfl rfl (Yl.h (Yl_move rfl)) ?_
  refine RW_y rfl rfl rfl (Yl.h (Yl_move rfl)) ?_
  refine RW_y rfl rfl rfl (Yl.h (Yl_index (b := b45) (off := A) rfl rfl sl_23 (by omega) (by omega))) ?_
  refine RW_fx0 rfl rfl (Fx_store (v := bv kd) (off := A + 66) rfl rfl sz_5 rfl (by repeat (first | exact Rep.here _ _ _ | apply Rep.there)) (by rw [List.length_map]; omega)) ?_
  rintro _ _ rfl
  refine RW_y rfl rfl rfl (Yl.h (Yl_index (b := b45) (off := A) rfl rfl sl_23 (by omega) (by omega))) ?_
  refine RW_fx0 rfl rfl (Fx_store (v := bv 1) (off := A + 67) rfl rfl sz_5 rfl (by repeat (first | exact Rep.here _ _ _ | apply Rep.there)) (by simp; omega)) ?_
  rintro _ _ rfl
  refine (RW_nil (QW_then (CW_live (ks := [14, 29, 30, 33, 34, 36, 44, 45, 49, 50, 53, 54, 359, 360, 361]) (.cons rfl (.cons rfl (.cons rfl (.cons rfl (.cons rfl (.cons rfl (.cons rfl (.cons rfl (.cons rfl (.cons rfl (.cons rfl (.cons rfl (.cons rfl (.cons rfl (.cons rfl .nil))))))))))))))) ?_)))
  refine CW_seq ?_
  refine CW_seq ?_
  rw [show ((bys l).set (A + 66) (bv kd)).set (A + 67) (bv 1) = bys ((l.set (A + 66) kd).set (A + 67) 1) by rw [bys_set, bys_set]]
  obtain ⟨l1, he1⟩ : ∃ z, z = ((l.set (A + 66) kd).set (A + 67) 1) := ⟨_, rfl⟩
  rw [← he1]
  have hl1 : l1.length = D := by rw [he1]; simpa using hl
  refine CW_region ?_
  refine RW_y rfl rfl rfl (Yl.h (Yl_field rfl fo_43_3)) ?_
  refine RW_y rfl rfl rfl (Yh_load (v := iv x.nd.left) rfl sc_3 (by repeat (first | exact List.Mem.head _ | apply List.Mem.tail)) rfl) ?_
  refine RW_y rfl rfl rfl (Yl.h (Yl_field rfl fo_43_4)) ?_
  refine RW_y rfl rfl rfl (Yh_load (v := iv x.nd.right) rfl sc_3 (by repeat (first | exact List.Mem.head _ | apply List.Mem.tail)) rfl) ?_
  refine RW_y rfl rfl rfl (Yl.h (Yl_field rfl fo_43_5)) ?_
  refine RW_y rfl rfl rfl (Yh_load (v := iv x.nd.child) rfl sc_3 (by repeat (first | exact List.Mem.head _ | apply List.Mem.tail)) rfl) ?_
  refine RW_fx rfl rfl rfl (Fx_litS (vs := ints [x.nd.left, x.nd.right, x.nd.child]) sl_29 ze_3 rfl rfl rfl rfl rfl) ?_
  rintro _ _ ⟨b457, rfl, rfl⟩
  refine RW_y rfl rfl rfl (Yl.h (Yl_len rfl sl_29)) ?_
  refine RW_y rfl rfl rfl (Yl.h (Yl_move rfl)) ?_
  refine (RW_nil (QW_then (CW_live (ks := [14, 29, 30, 33, 34, 36, 44, 45, 49, 50, 53, 54, 359, 360, 361, 457, 458, 459]) (.cons rfl (.cons rfl (.cons rfl (.cons rfl (.cons rfl (.cons rfl (.cons rfl (.cons rfl (.cons rfl (.cons rfl (.cons rfl (.cons rfl (.cons rfl (.cons rfl (.cons rfl (.cons rfl (.cons rfl (.cons rfl .nil)))))))))))))))))) ?_)))
  refine CW_block ?_
  refine CW_loop (σ := Nat) (fun j => [(14, v14), (29, v29), (30, v30), (33, v33), (34, v34), (36, v36), (44, v44), (45, .slice (some ⟨b45, 0, none⟩) D D), (49, .pointer (some ⟨b49, 0, none⟩)), (50, .slice (some ⟨b45, A, none⟩) C C), (53, nv st), (54, nv ln), (359, v359), (360, v360), (361, v361), (457, .slice (some ⟨b457, 0, none⟩) 3 3), (458, nv 3), (459, nv j)]) (fun j => (b45, blk (bys (link3 A [x.nd.left, x.nd.right, x.nd.child] j l1)) 5) :: (b457, blk (ints [x.nd.left, x.nd.right, x.nd.child]) 3) :: (b49, blk x.cells 43) :: F) (fun j => j ≤ 3) (fun j => 3 - j) 0 (by omega) (by repeat (first | exact Prm.nil _ | exact Rem.here _ _ | apply Rem.there | apply Prm.cons)) (.cons rfl (.cons rfl (.cons rfl (.cons rfl (.cons rfl (.cons rfl (.cons rfl (.cons rfl (.cons rfl (.cons rfl (.cons rfl (.cons rfl (.cons rfl (.cons rfl (.cons rfl (.cons rfl (.cons rfl (.cons rfl .nil)))))))))))))))))) ?_
  intro j hjm
  refine CW_seq ?_
  refine CW_region ?_
  refine RW_y rfl rfl rfl (Yl.h (Yl_lss rfl rfl)) ?_
  refine (RW_nil (QW_then (CW_live (ks := [14, 29, 30, 33, 34, 36, 44, 45, 49, 50, 53, 54, 359, 360, 361, 457, 458, 459, 460]) (.cons rfl (.cons rfl (.cons rfl (.cons rfl (.cons rfl (.cons rfl (.cons rfl (.cons rfl (.cons rfl (.cons rfl (.cons rfl (.cons rfl (.cons rfl (.cons rfl (.cons rfl (.cons rfl (.cons rfl (.cons rfl (.cons rfl .nil))))))))))))))))))) ?_)))
  refine CW_seq ?_
  refine CW_cond rfl (fun hc1 => ?_) (fun hc1 => ?_)
  · replace hc1 := of_decide_eq_true hc1
    refine (CW_skip (QW_then (CW_live (ks := [14, 29, 30, 33, 34, 36, 44, 45, 49, 50, 53, 54, 359, 360, 361, 457, 458, 459]) (.cons rfl (.cons rfl (.cons rfl (.cons rfl (.cons rfl (.cons rfl (.cons rfl (.cons rfl (.cons rfl (.cons rfl (.cons rfl (.cons rfl (.cons rfl (.cons rfl (.cons rfl (.cons rfl (.cons rfl (.cons rfl .nil)))))))))))))))))) ?_)))
    refine CW_seq ?_
    refine CW_block ?_
    refine CW_seq ?_
    have hlk : (link3 A [x.nd.left, x.nd.right, x.nd.child] j l1).length = D := by rw [length_link3 _ _ _ _ (by omega)]; exact hl1
    refine CW_region ?_
    refine RW_y rfl rfl rfl (Yl.h (Yl_move rfl)) ?_
    refine RW_y rfl rfl rfl (Yl.h (Yl_index rfl rfl sl_29 (by omega) (by omega))) ?_
    refine RW_y rfl rfl rfl (Yh_load (v := iv ([x.nd.left, x.nd.right, x.nd.child].getD j 0)) rfl sc_3 (by repeat (first | exact List.Mem.head _ | apply List.Mem.tail)) (at_ints (pl := [x.nd.left, x.nd.right, x.nd.child]) (by simp; omega) (by omega))) ?_
    refine RW_y rfl rfl rfl (Yl.h (Yl_assign rfl)) ?_
    refine RW_y rfl rfl rfl (Yl.h (Yl_assign rfl)) ?_
    refine (RW_nil (QW_then (CW_live (ks := [14, 29, 30, 33, 34, 36, 44, 45, 49, 50, 53, 54, 57, 58, 359, 360, 361, 457, 458, 459]) (.cons rfl (.cons rfl (.cons rfl (.cons rfl (.cons rfl (.cons rfl (.cons rfl (.cons rfl (.cons rfl (.cons rfl (.cons rfl (.cons rfl (.cons rfl (.cons rfl (.cons rfl (.cons rfl (.cons rfl (.cons rfl (.cons rfl (.cons rfl .nil)))))))))))))))))))) ?_)))
    refine CW_seq ?_
    obtain ⟨vj, hvj⟩ : ∃ z, z = ([x.nd.left, x.nd.right, x.nd.child].getD j 0) := ⟨_, rfl⟩
    rw [← hvj]
    have hvb : -1 ≤ vj ∧ vj ≤ 100000 := by
      rw [hvj]; have : j = 0 ∨ j = 1 ∨ j = 2 := by omega
      rcases this with rfl | rfl | rfl
      · exact hok.left
      · exact hok.right
      · exact hok.child
    refine CW_region ?_
    refine RW_y rfl rfl rfl (Yl.h (Yl_move rfl)) ?_
    refine RW_y rfl rfl rfl (Yl.h (Yl_geq rfl rfl)) ?_
    refine (RW_nil (QW_then (CW_live (ks := [14, 29, 30, 33, 34, 36, 44, 45, 49, 50, 53, 54, 57, 58, 359, 360, 361, 457, 458, 459, 465]) (.cons rfl (.cons rfl (.cons rfl (.cons rfl (.cons rfl (.cons rfl (.cons rfl (.cons rfl (.cons rfl (.cons rfl (.cons rfl (.cons rfl (.cons rfl (.cons rfl (.cons rfl (.cons rfl (.cons rfl (.cons rfl (.cons rfl (.cons rfl (.cons rfl .nil))))))))))))))))))))) ?_)))
    refine CW_cond rfl (fun hc2 => ?_) (fun hc2 => ?_)
    · replace hc2 := of_decide_eq_true hc2
      refine CW_region ?_
      refine RW_y rfl rfl rfl (Yl.h (Yl_move rfl)) ?_
      refine RW_y rfl rfl rfl (Yl.h (Yl_move rfl)) ?_
      refine RW_y rfl rfl rfl (Yl.h (Yl_mul (c := ((4 * j : Nat) : Int)) rfl rfl (mulN (a := 4) (b := j) (by omega)))) ?_
      refine RW_y rfl rfl rfl (Yl.h (Yl_add (c := ((68 + 4 * j : Nat) : Int)) rfl rfl (wi64 (by omega) (by omega)))) ?_
      refine RW_y rfl rfl rfl (Yl.h (Yl_move rfl)) ?_
      refine RW_y rfl rfl rfl (Yl.h (Yl_conv (c := ((vj.toNat : Nat) : Int)) rfl in_3 in_39 (by rw [Int.toNat_of_nonneg (by omega)]; exact wu64 (by omega) (by omega)))) ?_
      refine RW_fx rfl rfl rfl (Fx_call ok_29 (vs := [.slice (some ⟨b45, A, none⟩) C C, nv (68 + 4 * j), .int .u64 ((vj.toNat : Nat) : Int), nv 4]) rfl (by repeat (first | exact Pick.nil _ | apply Pick.cons | exact Rem.here _ _ | apply Rem.there)) (put_ctN b45 A C C (A + 68 + 4 * j) (link3 A [x.nd.left, x.nd.right, x.nd.child] j l1) (68 + 4 * j) vj.toNat 4 (by omega) (by omega) (by omega) (by omega) (by omega))) ?_
      rintro _ _ ⟨_, ⟨rfl, rfl⟩, rfl⟩
      refine RW_nil ?_
      refine QW_normal_block ?_
      refine (QW_then (CW_live (ks := [14, 29, 30, 33, 34, 36, 44, 45, 49, 50, 53, 54, 359, 360, 361, 457, 458, 459]) (.cons rfl (.cons rfl (.cons rfl (.cons rfl (.cons rfl (.cons rfl (.cons rfl (.cons rfl (.cons rfl (.cons rfl (.cons rfl (.cons rfl (.cons rfl (.cons rfl (.cons rfl (.cons rfl (.cons rfl (.cons rfl .nil)))))))))))))))))) ?_))
      refine CW_region ?_
      refine RW_y rfl rfl rfl (Yl.h (Yl_add rfl rfl (wi64 (by omega) (by omega)))) ?_
      refine RW_y rfl rfl rfl (Yl.h (Yl_move rfl)) ?_
      refine RW_nil ?_
      have hls : link3 A [x.nd.left, x.nd.right, x.nd.child] (j + 1) l1 = linkF A j vj (link3 A [x.nd.left, x.nd.right, x.nd.child] j l1) := by rw [hvj]; rfl
      refine QW_round (j + 1) (by omega) (by omega) ?_ (.cons rfl (.cons rfl (.cons rfl (.cons rfl (.cons rfl (.cons rfl (.cons rfl (.cons rfl (.cons rfl (.cons rfl (.cons rfl (.cons rfl (.cons rfl (.cons rfl (.cons rfl (.cons rfl (.cons rfl (.cons rfl .nil))))))))))))))))))
      rw [hls, linkF]
      first | (rw [if_pos (show 0 ≤ vj by omega)]; exact (by repeat (first | exact Prm.nil _ | exact Rem.here _ _ | apply Rem.there | apply Prm.cons))) | (rw [if_neg (show ¬ 0 ≤ vj by omega)]; exact (by repeat (first | exact Prm.nil _ | exact Rem.here _ _ | apply Rem.there | apply Prm.cons)))
    · replace hc2 := of_decide_eq_false hc2
      refine CW_skip ?_
      refine QW_normal_block ?_
      refine (QW_then (CW_live (ks := [14, 29, 30, 33, 34, 36, 44, 45, 49, 50, 53, 54, 359, 360, 361, 457, 458, 459]) (.cons rfl (.cons rfl (.cons rfl (.cons rfl (.cons rfl (.cons rfl (.cons rfl (.cons rfl (.cons rfl (.cons rfl (.cons rfl (.cons rfl (.cons rfl (.cons rfl (.cons rfl (.cons rfl (.cons rfl (.cons rfl .nil)))))))))))))))))) ?_))
      refine CW_region ?_
      refine RW_y rfl rfl rfl (Yl.h (Yl_add rfl rfl (wi64 (by omega) (by omega)))) ?_
      refine RW_y rfl rfl rfl (Yl.h (Yl_move rfl)) ?_
      refine RW_nil ?_
      have hls : link3 A [x.nd.left, x.nd.right, x.nd.child] (j + 1) l1 = linkF A j vj (link3 A [x.nd.left, x.nd.right, x.nd.child] j l1) := by rw [hvj]; rfl
      refine QW_round (j + 1) (by omega) (by omega) ?_ (.cons rfl (.cons rfl (.cons rfl (.cons rfl (.cons rfl (.cons rfl (.cons rfl (.cons rfl (.cons rfl (.cons rfl (.cons rfl (.cons rfl (.cons rfl (.cons rfl (.cons rfl (.cons rfl (.cons rfl (.cons rfl .nil))))))))))))))))))
      rw [hls, linkF]
      first | (rw [if_pos (show 0 ≤ vj by omega)]; exact (by repeat (first | exact Prm.nil _ | exact Rem.here _ _ | apply Rem.there | apply Prm.cons))) | (rw [if_neg (show ¬ 0 ≤ vj by omega)]; exact (by repeat (first | exact Prm.nil _ | exact Rem.here _ _ | apply Rem.there | apply Prm.cons)))
  · replace hc1 := of_decide_eq_false hc1
    refine CW_exit ?_
    refine QW_exit_then ?_
    refine QW_exit_then ?_
    refine QW_exit_block ?_
    refine (QW_then (CW_live (ks := [14, 29, 30, 33, 34, 36, 44, 45, 49, 50, 53, 54, 359, 360, 361]) (.cons rfl (.cons rfl (.cons rfl (.cons rfl (.cons rfl (.cons rfl (.cons rfl (.cons rfl (.cons rfl (.cons rfl (.cons rfl (.cons rfl (.cons rfl (.cons rfl (.cons rfl .nil))))))))))))))) ?_))
    refine CW_seq ?_
    obtain rfl : j = 3 := by omega
    have hlk : (link3 A [x.nd.left, x.nd.right, x.nd.child] 3 l1).length = D := by rw [length_link3 _ _ _ _ (by omega)]; exact hl1
    obtain ⟨l2, he2⟩ : ∃ z, z = link3 A [x.nd.left, x.nd.right, x.nd.child] 3 l1 := ⟨_, rfl⟩
    rw [← he2]
    have hl2 : l2.length = D := by rw [he2]; exact hlk
    have hcl := x.nd.h16
    refine CW_draw [4] _ mixed (Sub.refl _) ?_
    refine RD_y (i := 0) rfl rfl rfl rfl (by kernel_rfl) (fun _ _ _ h => hQ _ _ _ _ _ h) (Yl_move rfl) ?_
    refine RD_y (i := 1) rfl rfl rfl rfl (by kernel_rfl) (fun _ _ _ h => hQ _ _ _ _ _ h) (Yl_cutLL (l := 80) (o' := A + 80) (m' := C - 80) (c' := C - 80) rfl rfl sl_23 (by omega) (by omega) (by omega) rfl rfl) ?_
    refine RD_y (i := 2) rfl rfl rfl rfl (by kernel_rfl) (fun _ _ _ h => hQ _ _ _ _ _ h) (Yl_field rfl fo_43_6) ?_
    refine RD_y (i := 3) rfl rfl rfl rfl (by kernel_rfl) (fun _ _ _ h => hQ _ _ _ _ _ h) (Yl_cutA rfl ar_37) ?_
    refine RD_one (i := 4) (by kernel_rfl) ?_
    refine RO_fx rfl rfl rfl rfl (Fx_copy (ls := x.cells) (ms := 16) (offs := 6) (off := A + 80) rfl rfl sl_23 (by repeat (first | exact List.Mem.head _ | apply List.Mem.tail)) (by rw [Nm.length_cells]; omega) (by repeat (first | exact Rep.here _ _ _ | apply Rep.there)) (by rw [List.length_map]; omega) (by have h := hcl; rw [Nat.min_eq_left (show 16 ≤ C - 80 by omega)]; show ∀ u ∈ (x.cells.drop 6).take 16, _; rw [Nm.cls]; exact one_map one_bv _)) ?_
    rintro _ _ ⟨rfl, rfl⟩
    rw [Nat.min_eq_left (show 16 ≤ C - 80 by omega), show 16 * 1 = 16 from rfl, Nm.cls, ← map_spl]
    obtain ⟨l3, he3⟩ : ∃ z, z = spl (A + 80) x.nd.cls l2 := ⟨_, rfl⟩
    rw [← he3]
    have hl3 : l3.length = D := by rw [he3, length_spl (by rw [x.nd.h16]; omega)]; exact hl2
    refine ⟨Or.inl (by kernel_rfl), ?_⟩
    refine (RD_done (by kernel_rfl) (QW_then (CW_live (ks := [14, 29, 30, 33, 34, 36, 44, 45, 49, 50, 53, 54, 359, 360, 361]) (.cons rfl (.cons rfl (.cons rfl (.cons rfl (.cons rfl (.cons rfl (.cons rfl (.cons rfl (.cons rfl (.cons rfl (.cons rfl (.cons rfl (.cons rfl (.cons rfl (.cons rfl .nil))))))))))))))) ?_)))
    refine CW_seq ?_
    refine CW_draw [4] _ mixed (Sub.refl _) ?_
    refine RD_y (i := 0) rfl rfl rfl rfl (by kernel_rfl) (fun _ _ _ h => hQ _ _ _ _ _ h) (Yl_move rfl) ?_
    refine RD_y (i := 1) rfl rfl rfl rfl (by kernel_rfl) (fun _ _ _ h => hQ _ _ _ _ _ h) (Yl_cutLL (l := 96) (o' := A + 96) (m' := C - 96) (c' := C - 96) rfl rfl sl_23 (by omega) (by omega) (by omega) rfl rfl) ?_
    refine RD_y (i := 2) rfl rfl rfl rfl (by kernel_rfl) (fun _ _ _ h => hQ _ _ _ _ _ h) (Yl_field rfl fo_43_7) ?_
    refine RD_y (i := 3) rfl rfl rfl rfl (by kernel_rfl) (fun _ _ _ h => hQ _ _ _ _ _ h) (Yl_cutA rfl ar_38) ?_
    refine RD_one (i := 4) (by kernel_rfl) ?_
    refine RO_fx rfl rfl rfl rfl (Fx_copy (ls := x.cells) (ms := 4) (offs := 22) (off := A + 96) rfl rfl sl_23 (by repeat (first | exact List.Mem.head _ | apply List.Mem.tail)) (by rw [Nm.length_cells]; omega) (by repeat (first | exact Rep.here _ _ _ | apply Rep.there)) (by rw [List.length_map]; omega) (by rw [Nat.min_eq_left (show 4 ≤ C - 96 by omega)]; show ∀ u ∈ (x.cells.drop 22).take 4, _; rw [Nm.state]; exact one_map one_bv _)) ?_
    rintro _ _ ⟨rfl, rfl⟩
    rw [Nat.min_eq_left (show 4 ≤ C - 96 by omega), show 4 * 1 = 4 from rfl, Nm.state, ← map_spl]
    obtain ⟨l4, he4⟩ : ∃ z, z = spl (A + 96) x.nd.state l3 := ⟨_, rfl⟩
    rw [← he4]
    have hl4 : l4.length = D := by rw [he4, length_spl (by rw [x.nd.h4]; omega)]; exact hl3
    refine ⟨Or.inl (by kernel_rfl), ?_⟩
    refine (RD_done (by kernel_rfl) (QW_then (CW_live (ks := [14, 29, 30, 33, 34, 36, 44, 45, 49, 50, 53, 54, 359, 360, 361]) (.cons rfl (.cons rfl (.cons rfl (.cons rfl (.cons rfl (.cons rfl (.cons rfl (.cons rfl (.cons rfl (.cons rfl (.cons rfl (.cons rfl (.cons rfl (.cons rfl (.cons rfl .nil))))))))))))))) ?_)))
    refine CW_seq ?_
    refine CW_region ?_
    refine RW_y rfl rfl rfl (Yl.h (Yl_move rfl)) ?_
    refine RW_y rfl rfl rfl (Yl.h (Yl_field rfl fo_43_8)) ?_
    refine RW_y rfl rfl rfl (Yh_load (v := .int .u64 (x.nd.created : Int)) rfl sc_39 (by repeat (first | exact List.Mem.head _ | apply List.Mem.tail)) (Nm.at26 x)) ?_
    refine RW_fx rfl rfl rfl (Fx_call ok_29 (vs := [.slice (some ⟨b45, A, none⟩) C C, nv 100, .int .u64 ((x.nd.created : Nat) : Int), nv 8]) rfl (by repeat (first | exact Pick.nil _ | apply Pick.cons | exact Rem.here _ _ | apply Rem.there)) (put_ctN b45 A C C (A + 100) l4 100 x.nd.created 8 (by omega) (by omega) (by omega) (by omega) (by omega))) ?_
    rintro _ _ ⟨_, ⟨rfl, rfl⟩, rfl⟩
    obtain ⟨l5, he5⟩ : ∃ z, z = putF (A + 100) x.nd.created 8 l4 := ⟨_, rfl⟩
    rw [← he5]
    have hl5 : l5.length = D := by rw [he5, length_putF (by omega)]; exact hl4
    refine (RW_nil (QW_then (CW_live (ks := [14, 29, 30, 33, 34, 36, 44, 45, 49, 50, 53, 54, 359, 360, 361]) (.cons rfl (.cons rfl (.cons rfl (.cons rfl (.cons rfl (.cons rfl (.cons rfl (.cons rfl (.cons rfl (.cons rfl (.cons rfl (.cons rfl (.cons rfl (.cons rfl (.cons rfl .nil))))))))))))))) ?_)))
    refine CW_seq ?_
    refine CW_region ?_
    refine RW_y rfl rfl rfl (Yl.h (Yl_move rfl)) ?_
    refine RW_y rfl rfl rfl (Yl.h (Yl_field rfl fo_43_9)) ?_
    refine RW_y rfl rfl rfl (Yh_load (v := .int .u64 (x.nd.modified : Int)) rfl sc_39 (by repeat (first | exact List.Mem.head _ | apply List.Mem.tail)) (Nm.at27 x)) ?_
    refine RW_fx rfl rfl rfl (Fx_call ok_29 (vs := [.slice (some ⟨b45, A, none⟩) C C, nv 108, .int .u64 ((x.nd.modified : Nat) : Int), nv 8]) rfl (by repeat (first | exact Pick.nil _ | apply Pick.cons | exact Rem.here _ _ | apply Rem.there)) (put_ctN b45 A C C (A + 108) l5 108 x.nd.modified 8 (by omega) (by omega) (by omega) (by omega) (by omega))) ?_
    rintro _ _ ⟨_, ⟨rfl, rfl⟩, rfl⟩
    obtain ⟨l6, he6⟩ : ∃ z, z = putF (A + 108) x.nd.modified 8 l5 := ⟨_, rfl⟩
    rw [← he6]
    have hl6 : l6.length = D := by rw [he6, length_putF (by omega)]; exact hl5
    refine (RW_nil (QW_then (CW_live (ks := [14, 29, 30, 33, 34, 36, 44, 45, 50, 53, 54, 359, 360, 361]) (.cons rfl (.cons rfl (.cons rfl (.cons rfl (.cons rfl (.cons rfl (.cons rfl (.cons rfl (.cons rfl (.cons rfl (.cons rfl (.cons rfl (.cons rfl (.cons rfl .nil)))))))))))))) ?_)))
    refine CW_seq ?_
    refine CW_region ?_
    refine RW_y rfl rfl rfl (Yl.h (Yl_move rfl)) ?_
    refine RW_y rfl rfl rfl (Yl.h (Yl_move rfl)) ?_
    refine RW_y rfl rfl rfl (Yl.h (Yl_conv rfl in_3 in_39 (wu64 (by omega) (by omega)))) ?_
    refine RW_fx rfl rfl rfl (Fx_call ok_29 (vs := [.slice (some ⟨b45, A, none⟩) C C, nv 116, .int .u64 ((st : Nat) : Int), nv 4]) rfl (by repeat (first | exact Pick.nil _ | apply Pick.cons | exact Rem.here _ _ | apply Rem.there)) (put_ctN b45 A C C (A + 116) l6 116 st 4 (by omega) (by omega) (by omega) (by omega) (by omega))) ?_
    rintro _ _ ⟨_, ⟨rfl, rfl⟩, rfl⟩
    obtain ⟨l7, he7⟩ : ∃ z, z = putF (A + 116) st 4 l6 := ⟨_, rfl⟩
    rw [← he7]
    have hl7 : l7.length = D := by rw [he7, length_putF (by omega)]; exact hl6
    refine (RW_nil (QW_then (CW_live (ks := [14, 29, 30, 33, 34, 36, 44, 45, 50, 54, 359, 360, 361]) (.cons rfl (.cons rfl (.cons rfl (.cons rfl (.cons rfl (.cons rfl (.cons rfl (.cons rfl (.cons rfl (.cons rfl (.cons rfl (.cons rfl (.cons rfl .nil))))))))))))) ?_)))
    refine CW_region ?_
    refine RW_y rfl rfl rfl (Yl.h (Yl_move rfl)) ?_
    refine RW_y rfl rfl rfl (Yl.h (Yl_move rfl)) ?_
    refine RW_y rfl rfl rfl (Yl.h (Yl_conv rfl in_3 in_39 (wu64 (by omega) (by omega)))) ?_
    refine RW_fx rfl rfl rfl (Fx_call ok_29 (vs := [.slice (some ⟨b45, A, none⟩) C C, nv 120, .int .u64 ((ln : Nat) : Int), nv 8]) rfl (by repeat (first | exact Pick.nil _ | apply Pick.cons | exact Rem.here _ _ | apply Rem.there)) (put_ctN b45 A C C (A + 120) l7 120 ln 8 (by omega) (by omega) (by omega) (by omega) (by omega))) ?_
    rintro _ _ ⟨_, ⟨rfl, rfl⟩, rfl⟩
    obtain ⟨l8, he8⟩ : ∃ z, z = putF (A + 120) ln 8 l7 := ⟨_, rfl⟩
    rw [← he8]
    have hl8 : l8.length = D := by rw [he8, length_putF (by omega)]; exact hl7
    refine RW_nil ?_
    have hfin : l8 = entF A x.nd kd st ln l := by
      unfold entF
      rw [he8, he7, he6, he5, he4, he3, he2, he1]
    rw [hfin]
    refine QW_dropB (e := (b457, _)) (by repeat (first | exact Rem.here _ _ | apply Rem.there)) ?_
    refine QW_dropB (e := (b49, _)) (by repeat (first | exact Rem.here _ _ | apply Rem.there)) ?_
    exact QW_live (.cons rfl (.cons rfl (.cons rfl (.cons rfl (.cons rfl (.cons rfl (.cons rfl (.cons rfl (.cons rfl (.cons rfl (.cons rfl .nil))))))))))) hk
end Go.Proofs.YtgoddcicbpjknaaDoor

/-! Write, its ninth part: a small stream is laid. -/
set_option maxRecDepth 20000
namespace Go.Proofs.YtgoddcicbpjknaaDoor
open Go
open Cfb
set_option maxHeartbeats 4000000 in
theorem write_I {E : World} {Q : Exit → Act → World → Prop} {F : Heap} (hQ : QP Q) (b30 b44 bb st0 cap minis W : Nat) (da : Option Addr) (data wl : List UInt8) (mt : List Nat) (r : List Value) (Dh : Heap) {v14 v29 v33 v34 v36 v45 v49 v50 v52 v54 v359 v360 v361 : Value} (hD : 0 < data.length → da = some ⟨bb, 0, none⟩ ∧ Dh = [(bb, blk (bys data ++ r) 5)]) (hcap : data.length ≤ cap) (hdb : data.length ≤ 9000) (hst : st0 ≤ 4294967295) (hW : 64 * minis = W) (hW2 : W ≤ 100000000) (hwl : wl.length = W) (hmm : minis ≤ mt.length) (hmb : ∀ x ∈ mt, x < 4294967296) (hch : ∀ j, j * 64 < data.length → walkP mt st0 j < minis)
    (hk : QW E 514 [(14, v14), (29, v29), (30, .slice (some ⟨b30, 0, none⟩) mt.length mt.length), (33, v33), (34, v34), (36, v36), (44, .slice (some ⟨b44, 0, none⟩) W W), (45, v45), (49, v49), (50, v50), (52, v52), (53, nv st0), (54, v54), (359, v359), (360, v360), (361, v361)] ((b44, blk (bys (fill0F mt data st0 wl)) 5) :: (b30, blk (u32s mt) 67) :: (Dh ++ F)) .normal Q) :
    CW Tryd.prog E 514 [(14, v14), (29, v29), (30, .slice (some ⟨b30, 0, none⟩) mt.length mt.length), (33, v33), (34, v34), (36, v36), (44, .slice (some ⟨b44, 0, none⟩) W W), (45, v45), (49, v49), (50, v50), (52, v52), (53, nv st0), (54, v54), (55, .slice da data.length cap), (359, v359), (360, v360), (361, v361)] ((b44, blk (bys wl) 5) :: (b30, blk (u32s mt) 67) :: (Dh ++ F)) (dig [1, 1, 1, 1, 1, 1, 1, 1, 1, 1, 1, 1, 1, 1, 1, 1, 1, 1, 1, 1, 1, 1, 1, 1, 1, 1, 1, 1, 1, 1, 1, 1, 1, 1, 1, 1, 1, 1, 1, 1, 1, 1, 1, 1, 1, 1, 1, 0, 1, 2, 2, 1, 1, 0, 2, 1, 1, 1, 1, 1, 0, 2, 1, 4, 1, 3, 1, 1, 1, 3, 1, 1] (bodyOf Tryd.f15)) Q := by
  refine CW_seq ?_
  refine CW_region ?_
  refine RW_y rfl rfl rfl (Yl.h (Yl_move rfl)) ?_
  refine RW_y rfl rfl rfl (Yl.h (Yl_assign rfl)) ?_
  refine (RW_nil (QW_then (CW_live (ks := [14, 29, 30, 33, 34, 36, 44, 45, 49, 50, 52, 53, 54, 55, 56, 359, 360, 361]) (.cons rfl (.cons rfl (.cons rfl (.cons rfl (.cons rfl (.cons rfl (.cons rfl (.cons rfl (.cons rfl (.cons rfl (.cons rfl (.cons rfl (.cons rfl (.cons rfl (.cons rfl (.cons rfl (.cons rfl (.cons rfl .nil)))))))))))))))))) ?_)))
  refine CW_block ?_
  refine CW_loop (σ := Nat × Option Addr × Nat) (fun q => [(14, v14), (29, v29), (30, .slice (some ⟨b30, 0, none⟩) mt.length mt.length), (33, v33), (34, v34), (36, v36), (44, .slice (some ⟨b44, 0, none⟩) W W), (45, v45), (49, v49), (50, v50), (52, v52), (53, nv st0), (54, v54), (55, .slice q.2.1 (data.length - q.1 * 64) q.2.2), (56, nv (walkP mt st0 q.1)), (359, v359), (360, v360), (361, v361)]) (fun q => (b44, blk (bys (fill0To mt data st0 wl q.1)) 5) :: (b30, blk (u32s mt) 67) :: (Dh ++ F)) (fun q => (q.1 * 64 < data.length → q.2.1 = some ⟨bb, q.1 * 64, none⟩) ∧ data.length - q.1 * 64 ≤ q.2.2 ∧ (0 < q.1 → (q.1 - 1) * 64 < data.length) ∧ walkP mt st0 q.1 ≤ 4294967295) (fun q => data.length - q.1 * 64) (0, da, cap) ⟨fun h => by simpa using (hD (by simpa using h)).1, by simpa using hcap, by simp, hst⟩ (Prm.nil _) (.cons rfl (.cons rfl (.cons rfl (.cons rfl (.cons rfl (.cons rfl (.cons rfl (.cons rfl (.cons rfl (.cons rfl (.cons rfl (.cons rfl (.cons rfl (.cons (by simp [look]) (.cons rfl (.cons rfl (.cons rfl (.cons rfl .nil)))))))))))))))))) ?_
  rintro ⟨j, p, c⟩ ⟨ho, hcp, hlo, hwk⟩
  simp only at ho hcp hlo hwk ⊢
  have hj1 : (j + 1) * 64 = j * 64 + 64 := Nat.succ_mul j 64
  refine CW_seq ?_
  refine CW_seq ?_
  refine CW_region ?_
  refine RW_y rfl rfl rfl (Yl.h (Yl_move rfl)) ?_
  refine RW_y rfl rfl rfl (Yl.h (Yl_len rfl sl_23)) ?_
  refine RW_y rfl rfl rfl (Yl.h (Yl_gtr rfl rfl)) ?_
  refine (RW_nil (QW_then (CW_live (ks := [14, 29, 30, 33, 34, 36, 44, 45, 49, 50, 52, 53, 54, 55, 56, 359, 360, 361, 424]) (.cons rfl (.cons rfl (.cons rfl (.cons rfl (.cons rfl (.cons rfl (.cons rfl (.cons rfl (.cons rfl (.cons rfl (.cons rfl (.cons rfl (.cons rfl (.cons rfl (.cons rfl (.cons rfl (.cons rfl (.cons rfl (.cons rfl .nil))))))))))))))))))) ?_)))
  refine CW_cond rfl (fun hc1 => ?_) (fun hc1 => ?_)
  · replace hc1 := of_decide_eq_true hc1
    refine (CW_skip (QW_then (CW_live (ks := [14, 29, 30, 33, 34, 36, 44, 45, 49, 50, 52, 53, 54, 55, 56, 359, 360, 361]) (.cons rfl (.cons rfl (.cons rfl (.cons rfl (.cons rfl (.cons rfl (.cons rfl (.cons rfl (.cons rfl (.cons rfl (.cons rfl (.cons rfl (.cons rfl (.cons rfl (.cons rfl (.cons rfl (.cons rfl (.cons rfl .nil)))))))))))))))))) ?_)))
    refine CW_seq ?_
    refine CW_block ?_
    have hjd : j * 64 < data.length := by omega
    obtain rfl := ho hjd
    obtain ⟨hda, rfl⟩ := hD (by omega)
    simp only [List.cons_append, List.nil_append]
    have hq1 := hch j hjd
    have hlen : (fill0To mt data st0 wl j).length = wl.length := length_fill0To j (fun i hi => by
      have hi2 : i * 64 ≤ (j - 1) * 64 := Nat.mul_le_mul_right _ (by omega)
      have := hch i (by have := hlo (by omega); omega)
      omega)
    have hwn : mt.getD (walkP mt st0 j) 0 < 4294967296 := getD_lt hmb (by omega)
    have hmin : min (data.length - j * 64) 64 ≤ 64 := Nat.min_le_right _ _
    have hpart : ((bys data ++ r).drop (j * 64)).take (min (data.length - j * 64) 64 * 1) = bys ((data.drop (j * 64)).take (min (data.length - j * 64) 64)) := by
      rw [Nat.mul_one, List.drop_append_of_le_length (by simp; omega), List.take_append_of_le_length (by simp; omega)]; simp [bys, List.map_take, List.map_drop]
    have hmin2 : (data.drop (j * 64)).take (min (data.length - j * 64) 64) = (data.drop (j * 64)).take 64 := by
      rcases Nat.le_total (data.length - j * 64) 64 with h | h
      · rw [Nat.min_eq_left h, List.take_of_length_le (by simp), List.take_of_length_le (by simp; omega)]
      · rw [Nat.min_eq_right h]
    refine CW_region ?_
    refine RW_y rfl rfl rfl (Yl.h (Yl_move rfl)) ?_
    refine RW_y rfl rfl rfl (Yl.h (Yl_move rfl)) ?_
    refine RW_y rfl rfl rfl (Yl.h (Yl_move rfl)) ?_
    refine RW_y rfl rfl rfl (Yl.h (Yl_mul (c := ((64 * (walkP mt st0 j) : Nat) : Int)) rfl rfl (mulN (a := 64) (b := (walkP mt st0 j)) (by omega)))) ?_
    refine RW_y rfl rfl rfl (Yl.h (Yl_move rfl)) ?_
    refine RW_y rfl rfl rfl (Yl.h (Yl_mul (c := ((64 * (walkP mt st0 j) : Nat) : Int)) rfl rfl (mulN (a := 64) (b := (walkP mt st0 j)) (by omega)))) ?_
    refine RW_y rfl rfl rfl (Yl.h (Yl_add (c := ((64 * (walkP mt st0 j) + 64 : Nat) : Int)) rfl rfl (wi64 (by omega) (by omega)))) ?_
    refine RW_y rfl rfl rfl (Yl.h (Yl_cutLHN (l := 64 * (walkP mt st0 j)) (h := 64 * (walkP mt st0 j) + 64) (o' := 64 * (walkP mt st0 j)) (m' := 64) rfl rfl rfl sl_23 (by omega) (by omega) (by omega) (by omega) (by omega))) ?_
    refine RW_y rfl rfl rfl (Yl.h (Yl_move rfl)) ?_
    refine RW_fx rfl rfl rfl (Fx_copy (ls := bys data ++ r) rfl rfl sl_23 (by repeat (first | exact List.Mem.head _ | apply List.Mem.tail)) (by simp; omega) (by repeat (first | exact Rep.here _ _ _ | apply Rep.there)) (by rw [List.length_map]; omega) (by have hone2 : ∀ u ∈ ((bys data ++ r).drop (j * 64)).take (min (data.length - j * 64) 64 * 1), u.oneCell' = true := (by rw [hpart]; exact one_map one_bv _); exact hone2)) ?_
    rintro _ _ ⟨rfl, rfl⟩
    refine RW_y rfl rfl rfl (Yl.h (Yl_cutLN (l := min (data.length - j * 64) 64) rfl rfl sl_23 (by omega))) ?_
    refine RW_y rfl rfl rfl (Yl.h (Yl_assign rfl)) ?_
    refine RW_nil ?_
    refine QW_normal_block ?_
    refine (QW_then (CW_live (ks := [14, 29, 30, 33, 34, 36, 44, 45, 49, 50, 52, 53, 54, 55, 56, 359, 360, 361]) (.cons rfl (.cons rfl (.cons rfl (.cons rfl (.cons rfl (.cons rfl (.cons rfl (.cons rfl (.cons rfl (.cons rfl (.cons rfl (.cons rfl (.cons rfl (.cons rfl (.cons rfl (.cons rfl (.cons rfl (.cons rfl .nil)))))))))))))))))) ?_))
    refine CW_region ?_
    refine RW_y rfl rfl rfl (Yl.h (Yl_move rfl)) ?_
    refine RW_y rfl rfl rfl (Yl.h (Yl_move rfl)) ?_
    refine RW_y rfl rfl rfl (Yl.h (Yl_index rfl rfl sl_22 (by omega) (by omega))) ?_
    refine RW_y rfl rfl rfl (Yh_load (v := uv (mt.getD (walkP mt st0 j) 0)) rfl sc_67 (by repeat (first | exact List.Mem.head _ | apply List.Mem.tail)) (at_u32s (i := (walkP mt st0 j)) (by omega) (by omega))) ?_
    refine RW_y rfl rfl rfl (Yl.h (Yl_conv (c := ((mt.getD (walkP mt st0 j) 0 : Nat) : Int)) rfl in_67 in_3 (wi64 (by omega) (by omega)))) ?_
    refine RW_y rfl rfl rfl (Yl.h (Yl_assign rfl)) ?_
    refine RW_nil ?_
    refine QW_round (j + 1, some ⟨bb, (if c = min (data.length - j * 64) 64 then j * 64 else j * 64 + min (data.length - j * 64) 64 * 1), none⟩, c - min (data.length - j * 64) 64) ⟨?_, ?_, ?_, ?_⟩ (by simp only; omega) ?_ (.cons rfl (.cons rfl (.cons rfl (.cons rfl (.cons rfl (.cons rfl (.cons rfl (.cons rfl (.cons rfl (.cons rfl (.cons rfl (.cons rfl (.cons rfl (.cons (by simp only [look]; congr 2; omega) (.cons rfl (.cons rfl (.cons rfl (.cons rfl .nil))))))))))))))))))
    · intro h; simp only at h ⊢; rw [if_neg (by omega)]; congr 2; omega
    · simp only; omega
    · intro _; simp only [Nat.add_sub_cancel]; exact hjd
    · simp only [walkP]; omega
    · simp only [fill0To]
      rw [hpart, ← map_spl, hmin2]
      exact (by repeat (first | exact Prm.nil _ | exact Rem.here _ _ | apply Rem.there | apply Prm.cons))
  · replace hc1 := of_decide_eq_false hc1
    refine CW_exit ?_
    refine QW_exit_then ?_
    refine QW_exit_then ?_
    refine QW_exit_block ?_
    have hjp : partsF data.length 64 = j := by
      have h1 : ¬ j < partsF data.length 64 := by rw [lt_partsF (by omega)]; omega
      rcases Nat.lt_or_ge (partsF data.length 64) j with h2 | h2
      · exact absurd (hlo (by omega)) (by have := (not_congr (lt_partsF (n := data.length) (size := 64) (k := j - 1) (by omega))).1 (by omega); omega)
      · omega
    subst hjp
    exact QW_live (.cons rfl (.cons rfl (.cons rfl (.cons rfl (.cons rfl (.cons rfl (.cons rfl (.cons rfl (.cons rfl (.cons rfl (.cons rfl (.cons rfl (.cons rfl (.cons rfl (.cons rfl (.cons rfl .nil)))))))))))))))) hk
end Go.Proofs.YtgoddcicbpjknaaDoor

/-! Write, its tenth part: what a node's bytes turn. -/
set_option maxRecDepth 20000
namespace Go.Proofs.YtgoddcicbpjknaaDoor
open Go
open Cfb
set_option maxHeartbeats 4000000 in
theorem write_J {E : World} {Q : Exit → Act → World → Prop} {F : Heap} (hQ : QP Q) (b7 g29 stl c29 b30 bf b25 b34 b35 bo g33 msl c33 b44 b49 k size N T minis W : Nat) (sts mst mt fat : List Nat) (r29 r33 : List Value) (wl ol : List UInt8) (x : Nm) {v34 v45 v50 v359 v360 v361 : Value} (hok : x.ok) (hsz : 512 ≤ size ∧ size ≤ 4096) (hsl : stl = sts.length) (hks : 3 + k < sts.length) (hml : msl = mst.length) (hkm : k < mst.length) (hsb : ∀ y ∈ sts, y ≤ 4294967295) (hmsb : ∀ y ∈ mst, y ≤ 4294967295) (hmt : mt.length ≤ 1000000) (hmb : ∀ y ∈ mt, y < 4294967296) (hfb : ∀ y ∈ fat, y < 4294967296) (hT : T ≤ 100000) (hTf : T ≤ fat.length) (hN : size * (1 + T) = N) (hol : ol.length = N) (hW : 64 * minis = W) (hW2 : W ≤ 100000000) (hwl : wl.length = W) (hmm : minis ≤ mt.length)
    (hkb : k ≤ 1000) (hch1 : k ≠ 0 → x.nd.stream = true → x.nd.data.length < 4096 → ∀ j, j * 64 < x.nd.data.length → walkP mt (mst.getD k 0) j < minis) (hch2 : k ≠ 0 → x.nd.stream = true → ¬ x.nd.data.length < 4096 → ∀ j, j * size < x.nd.data.length → walkP fat (sts.getD (3 + k) 0) j < T)
    (hk : ∀ kd st ln wl' ol', (swF k minis size sts mst fat mt x.nd wl ol = (kd, st, ln, wl', ol')) → CW Tryd.prog E 514 [(14, nv minis), (29, .slice (some ⟨g29, 0, none⟩) stl c29), (30, .slice (some ⟨b30, 0, none⟩) mt.length mt.length), (33, .slice (some ⟨g33, 0, none⟩) msl c33), (34, v34), (36, .func (.func 28) #[] #[.pointer (some ⟨b25, 0, none⟩), .pointer (some ⟨b35, 0, none⟩)]), (44, .slice (some ⟨b44, 0, none⟩) W W), (45, v45), (49, .pointer (some ⟨b49, 0, none⟩)), (50, v50), (52, bv kd), (53, nv st), (54, nv ln), (359, v359), (360, v360), (361, v361)] ((b44, blk (bys wl') 5) :: (b30, blk (u32s mt) 67) :: (g29, blk (nats sts ++ r29) 3) :: (g33, blk (nats mst ++ r33) 3) :: (b49, blk x.cells 43) :: (bo, blk (bys ol') 5) :: (b35, blk [.func (.func 27) #[] #[.pointer (some ⟨b34, 0, none⟩), .pointer (some ⟨b7, 0, none⟩)]] 73) :: (b34, blk [.slice (some ⟨bo, 0, none⟩) N N] 23) :: (bf, blk (u32s fat) 67) :: (b25, blk [.slice (some ⟨bf, 0, none⟩) fat.length fat.length] 22) :: (b7, blk [nv size] 3) :: (x.heap ++ F)) (dig [1, 1, 1, 1, 1, 1, 1, 1, 1, 1, 1, 1, 1, 1, 1, 1, 1, 1, 1, 1, 1, 1, 1, 1, 1, 1, 1, 1, 1, 1, 1, 1, 1, 1, 1, 1, 1, 1, 1, 1, 1, 1, 1, 1, 1, 1, 1, 0, 1, 2, 2, 1, 1, 0, 2, 1, 1, 1, 1, 1, 1] (bodyOf Tryd.f15)) Q) :
    CW Tryd.prog E 514 [(14, nv minis), (29, .slice (some ⟨g29, 0, none⟩) stl c29), (30, .slice (some ⟨b30, 0, none⟩) mt.length mt.length), (33, .slice (some ⟨g33, 0, none⟩) msl c33), (34, v34), (36, .func (.func 28) #[] #[.pointer (some ⟨b25, 0, none⟩), .pointer (some ⟨b35, 0, none⟩)]), (44, .slice (some ⟨b44, 0, none⟩) W W), (45, v45), (48, nv k), (49, .pointer (some ⟨b49, 0, none⟩)), (50, v50), (359, v359), (360, v360), (361, v361)] ((b44, blk (bys wl) 5) :: (b30, blk (u32s mt) 67) :: (g29, blk (nats sts ++ r29) 3) :: (g33, blk (nats mst ++ r33) 3) :: (b49, blk x.cells 43) :: (bo, blk (bys ol) 5) :: (b35, blk [.func (.func 27) #[] #[.pointer (some ⟨b34, 0, none⟩), .pointer (some ⟨b7, 0, none⟩)]] 73) :: (b34, blk [.slice (some ⟨bo, 0, none⟩) N N] 23) :: (bf, blk (u32s fat) 67) :: (b25, blk [.slice (some ⟨bf, 0, none⟩) fat.length fat.length] 22) :: (b7, blk [nv size] 3) :: (x.heap ++ F)) (dig [1, 1, 1, 1, 1, 1, 1, 1, 1, 1, 1, 1, 1, 1, 1, 1, 1, 1, 1, 1, 1, 1, 1, 1, 1, 1, 1, 1, 1, 1, 1, 1, 1, 1, 1, 1, 1, 1, 1, 1, 1, 1, 1, 1, 1, 1, 1, 0, 1, 2, 2, 1, 1, 0, 2, 1, 1, 1, 1] (bodyOf Tryd.f15)) Q := by
  have hNb : N ≤ 1000000000 := by
    have h1 : size * (1 + T) ≤ 4096 * 100001 := Nat.mul_le_mul hsz.2 (by omega)
    omega
  have hsm := hok.small
  refine CW_seq ?_
  refine CW_draw [] _ mixed (Sub.refl _) ?_
  refine RD_y (i := 0) rfl rfl rfl rfl (by kernel_rfl) (fun _ _ _ h => hQ _ _ _ _ _ h) (Yl_field rfl fo_43_2) ?_
  refine RD_y (i := 3) rfl rfl rfl rfl (by kernel_rfl) (fun _ _ _ h => hQ _ _ _ _ _ h) (Yl_assign rfl) ?_
  refine RD_y (i := 4) rfl rfl rfl rfl (by kernel_rfl) (fun _ _ _ h => hQ _ _ _ _ _ h) (Yl_assign rfl) ?_
  refine RD_h (i := 1) #[true, false, false, true, true, false] rfl rfl rfl rfl (by kernel_rfl) (fun _ _ _ h => hQ _ _ _ _ _ h) (Yh_load (v := .slice (x.b.map fun b => ⟨b, 0, none⟩) x.nd.data.length x.cap) rfl sc_23 (by repeat (first | exact List.Mem.head _ | apply List.Mem.tail)) rfl) ?_
  refine RD_y (i := 2) rfl rfl rfl rfl (by kernel_rfl) (fun _ _ _ h => hQ _ _ _ _ _ h) (Yl_len rfl sl_23) ?_
  refine RD_y (i := 5) rfl rfl rfl rfl (by kernel_rfl) (fun _ _ _ h => hQ _ _ _ _ _ h) (Yl_assign rfl) ?_
  refine (RD_done (by kernel_rfl) (QW_then (CW_live (ks := [14, 29, 30, 33, 34, 36, 44, 45, 48, 49, 50, 52, 53, 54, 359, 360, 361]) (.cons rfl (.cons rfl (.cons rfl (.cons rfl (.cons rfl (.cons rfl (.cons rfl (.cons rfl (.cons rfl (.cons rfl (.cons rfl (.cons rfl (.cons rfl (.cons rfl (.cons rfl (.cons rfl (.cons rfl .nil))))))))))))))))) ?_)))
  refine CW_seq ?_
  refine CW_block ?_
  refine CW_seq ?_
  refine CW_region ?_
  refine RW_y rfl rfl rfl (Yl.h (Yl_move rfl)) ?_
  refine RW_y rfl rfl rfl (Yl.h (Yl_eql rfl rfl)) ?_
  refine RW_y rfl rfl rfl (Yl.h (Yl_assign rfl)) ?_
  refine (RW_nil (QW_then (CW_live (ks := [14, 29, 30, 33, 34, 36, 44, 45, 48, 49, 50, 52, 53, 54, 359, 360, 361, 397]) (.cons rfl (.cons rfl (.cons rfl (.cons rfl (.cons rfl (.cons rfl (.cons rfl (.cons rfl (.cons rfl (.cons rfl (.cons rfl (.cons rfl (.cons rfl (.cons rfl (.cons rfl (.cons rfl (.cons rfl (.cons rfl .nil)))))))))))))))))) ?_)))
  refine CW_cond rfl (fun hc1 => ?_) (fun hc1 => ?_)
  · replace hc1 := of_decide_eq_true hc1
    refine CW_draw [] _ mixed (Sub.refl _) ?_
    refine RD_y (i := 0) rfl rfl rfl rfl (by kernel_rfl) (fun _ _ _ h => hQ _ _ _ _ _ h) (Yl_move rfl) ?_
    refine RD_y (i := 1) rfl rfl rfl rfl (by kernel_rfl) (fun _ _ _ h => hQ _ _ _ _ _ h) (Yl_index rfl rfl sl_29 (by omega) (by omega)) ?_
    refine RD_y (i := 3) rfl rfl rfl rfl (by kernel_rfl) (fun _ _ _ h => hQ _ _ _ _ _ h) (Yl_move rfl) ?_
    refine RD_y (i := 4) rfl rfl rfl rfl (by kernel_rfl) (fun _ _ _ h => hQ _ _ _ _ _ h) (Yl_mul (c := ((64 * minis : Nat) : Int)) rfl rfl (mulN (a := 64) (b := minis) (by omega))) ?_
    refine RD_y (i := 5) rfl rfl rfl rfl (by kernel_rfl) (fun _ _ _ h => hQ _ _ _ _ _ h) (Yl_assign rfl) ?_
    refine RD_h (i := 2) #[true, true, false, true, true, true, false, false] rfl rfl rfl rfl (by kernel_rfl) (fun _ _ _ h => hQ _ _ _ _ _ h) (Yh_load (v := nv (sts.getD 2 0)) rfl sc_3 (by repeat (first | exact List.Mem.head _ | apply List.Mem.tail)) (at_nats (by omega) (by omega))) ?_
    refine RD_y (i := 6) rfl rfl rfl rfl (by kernel_rfl) (fun _ _ _ h => hQ _ _ _ _ _ h) (Yl_assign rfl) ?_
    refine RD_y (i := 7) rfl rfl rfl rfl (by kernel_rfl) (fun _ _ _ h => hQ _ _ _ _ _ h) (Yl_assign rfl) ?_
    refine RD_done (by kernel_rfl) ?_
    refine QW_normal_block ?_
    refine (QW_then (CW_live (ks := [14, 29, 30, 33, 34, 36, 44, 45, 49, 50, 52, 53, 54, 359, 360, 361]) (.cons rfl (.cons rfl (.cons rfl (.cons rfl (.cons rfl (.cons rfl (.cons rfl (.cons rfl (.cons rfl (.cons rfl (.cons rfl (.cons rfl (.cons rfl (.cons rfl (.cons rfl (.cons rfl .nil)))))))))))))))) ?_))
    first
      | exact hk 5 (sts.getD 2 0) (64 * minis) wl ol (by unfold swF; rw [if_pos (by omega)])
      | exact hk 2 (mst.getD k 0) x.nd.data.length (fill0F mt x.nd.data (mst.getD k 0) wl) ol (by unfold swF; rw [if_neg (by omega), if_pos hd2, if_pos (by omega)])
      | (refine CW_heap (Prm.perm (T := (b44, blk (bys wl) 5) :: (b30, blk (u32s mt) 67) :: (g29, blk (nats sts ++ r29) 3) :: (g33, blk (nats mst ++ r33) 3) :: (b49, blk x.cells 43) :: (bo, blk (bys (fillF fat size x.nd.data (sts.getD (3 + k) 0) ol)) 5) :: (b35, blk [.func (.func 27) #[] #[.pointer (some ⟨b34, 0, none⟩), .pointer (some ⟨b7, 0, none⟩)]] 73) :: (b34, blk [.slice (some ⟨bo, 0, none⟩) N N] 23) :: (bf, blk (u32s fat) 67) :: (b25, blk [.slice (some ⟨bf, 0, none⟩) fat.length fat.length] 22) :: (b7, blk [nv size] 3) :: (x.b.getD 0, blk (bys x.nd.data ++ x.rest) 5) :: F) (by repeat (first | exact Prm.nil _ | exact Rem.here _ _ | apply Rem.there | apply Prm.cons))) ?_; have hkk := hk 2 (sts.getD (3 + k) 0) x.nd.data.length wl (fillF fat size x.nd.data (sts.getD (3 + k) 0) ol) (by unfold swF; rw [if_neg (by omega), if_pos hd2, if_neg (by omega)]); rw [hDh] at hkk; exact hkk)
      | exact hk 1 0 0 wl ol (by unfold swF; rw [if_neg (by omega), if_neg (by rw [hd2]; exact Bool.false_ne_true)])
  · replace hc1 := of_decide_eq_false hc1
    refine CW_seq ?_
    refine CW_region ?_
    refine RW_y rfl rfl rfl (Yl.h (Yl_field rfl fo_43_1)) ?_
    refine RW_y rfl rfl rfl (Yh_load (v := .bool x.nd.stream) rfl sc_4 (by repeat (first | exact List.Mem.head _ | apply List.Mem.tail)) rfl) ?_
    refine RW_y rfl rfl rfl (Yl.h (Yl_assign rfl)) ?_
    refine (RW_nil (QW_then (CW_live (ks := [14, 29, 30, 33, 34, 36, 44, 45, 48, 49, 50, 52, 53, 54, 359, 360, 361, 405]) (.cons rfl (.cons rfl (.cons rfl (.cons rfl (.cons rfl (.cons rfl (.cons rfl (.cons rfl (.cons rfl (.cons rfl (.cons rfl (.cons rfl (.cons rfl (.cons rfl (.cons rfl (.cons rfl (.cons rfl (.cons rfl .nil)))))))))))))))))) ?_)))
    refine CW_cond rfl (fun hc2 => ?_) (fun hc2 => ?_)
    · skip
      have hd2 : x.nd.stream = true := hc2
      refine CW_seq ?_
      refine CW_region ?_
      refine RW_y rfl rfl rfl (Yl.h (Yl_assign rfl)) ?_
      refine (RW_nil (QW_then (CW_live (ks := [14, 29, 30, 33, 34, 36, 44, 45, 48, 49, 50, 52, 54, 359, 360, 361]) (.cons rfl (.cons rfl (.cons rfl (.cons rfl (.cons rfl (.cons rfl (.cons rfl (.cons rfl (.cons rfl (.cons rfl (.cons rfl (.cons rfl (.cons rfl (.cons rfl (.cons rfl (.cons rfl .nil)))))))))))))))) ?_)))
      refine CW_seq ?_
      refine CW_region ?_
      refine RW_y rfl rfl rfl (Yl.h (Yl_move rfl)) ?_
      refine RW_y rfl rfl rfl (Yl.h (Yl_move rfl)) ?_
      refine RW_y rfl rfl rfl (Yl.h (Yl_add (c := ((3 + k : Nat) : Int)) rfl rfl (wi64 (by omega) (by omega)))) ?_
      refine RW_y rfl rfl rfl (Yl.h (Yl_index rfl rfl sl_29 (by omega) (by omega))) ?_
      refine RW_y rfl rfl rfl (Yh_load (v := nv (sts.getD (3 + k) 0)) rfl sc_3 (by repeat (first | exact List.Mem.head _ | apply List.Mem.tail)) (at_nats (by omega) (by omega))) ?_
      refine RW_y rfl rfl rfl (Yl.h (Yl_assign rfl)) ?_
      refine (RW_nil (QW_then (CW_live (ks := [14, 29, 30, 33, 34, 36, 44, 45, 48, 49, 50, 52, 53, 54, 359, 360, 361]) (.cons rfl (.cons rfl (.cons rfl (.cons rfl (.cons rfl (.cons rfl (.cons rfl (.cons rfl (.cons rfl (.cons rfl (.cons rfl (.cons rfl (.cons rfl (.cons rfl (.cons rfl (.cons rfl (.cons rfl .nil))))))))))))))))) ?_)))
      refine CW_seq ?_
      refine CW_region ?_
      refine RW_y rfl rfl rfl (Yl.h (Yl_move rfl)) ?_
      refine RW_y rfl rfl rfl (Yl.h (Yl_lss rfl rfl)) ?_
      refine (RW_nil (QW_then (CW_live (ks := [14, 29, 30, 33, 34, 36, 44, 45, 48, 49, 50, 52, 53, 54, 359, 360, 361, 414]) (.cons rfl (.cons rfl (.cons rfl (.cons rfl (.cons rfl (.cons rfl (.cons rfl (.cons rfl (.cons rfl (.cons rfl (.cons rfl (.cons rfl (.cons rfl (.cons rfl (.cons rfl (.cons rfl (.cons rfl (.cons rfl .nil)))))))))))))))))) ?_)))
      refine CW_cond rfl (fun hc3 => ?_) (fun hc3 => ?_)
      · replace hc3 := of_decide_eq_true hc3
        refine CW_seq ?_
        refine CW_region ?_
        refine RW_y rfl rfl rfl (Yl.h (Yl_move rfl)) ?_
        refine RW_y rfl rfl rfl (Yl.h (Yl_move rfl)) ?_
        refine RW_y rfl rfl rfl (Yl.h (Yl_index rfl rfl sl_29 (by omega) (by omega))) ?_
        refine RW_y rfl rfl rfl (Yh_load (v := nv (mst.getD k 0)) rfl sc_3 (by repeat (first | exact List.Mem.head _ | apply List.Mem.tail)) (at_nats (by omega) (by omega))) ?_
        refine RW_y rfl rfl rfl (Yl.h (Yl_assign rfl)) ?_
        refine (RW_nil (QW_then (CW_live (ks := [14, 29, 30, 33, 34, 36, 44, 45, 49, 50, 52, 53, 54, 359, 360, 361]) (.cons rfl (.cons rfl (.cons rfl (.cons rfl (.cons rfl (.cons rfl (.cons rfl (.cons rfl (.cons rfl (.cons rfl (.cons rfl (.cons rfl (.cons rfl (.cons rfl (.cons rfl (.cons rfl .nil)))))))))))))))) ?_)))
        refine CW_seq ?_
        refine CW_region ?_
        refine RW_y rfl rfl rfl (Yl.h (Yl_field rfl fo_43_2)) ?_
        refine RW_y rfl rfl rfl (Yh_load (v := .slice (x.b.map fun b => ⟨b, 0, none⟩) x.nd.data.length x.cap) rfl sc_23 (by repeat (first | exact List.Mem.head _ | apply List.Mem.tail)) rfl) ?_
        refine RW_y rfl rfl rfl (Yl.h (Yl_assign rfl)) ?_
        refine (RW_nil (QW_then (CW_live (ks := [14, 29, 30, 33, 34, 36, 44, 45, 49, 50, 52, 53, 54, 55, 359, 360, 361]) (.cons rfl (.cons rfl (.cons rfl (.cons rfl (.cons rfl (.cons rfl (.cons rfl (.cons rfl (.cons rfl (.cons rfl (.cons rfl (.cons rfl (.cons rfl (.cons rfl (.cons rfl (.cons rfl (.cons rfl .nil))))))))))))))))) ?_)))
        refine CW_heap (((List.perm_append_comm_assoc [(g29, blk (nats sts ++ r29) 3), (g33, blk (nats mst ++ r33) 3), (b49, blk x.cells 43), (bo, blk (bys ol) 5), (b35, blk [.func (.func 27) #[] #[.pointer (some ⟨b34, 0, none⟩), .pointer (some ⟨b7, 0, none⟩)]] 73), (b34, blk [.slice (some ⟨bo, 0, none⟩) N N] 23), (bf, blk (u32s fat) 67), (b25, blk [.slice (some ⟨bf, 0, none⟩) fat.length fat.length] 22), (b7, blk [nv size] 3)] x.heap F).cons (b30, blk (u32s mt) 67)).cons (b44, blk (bys wl) 5)) ?_
        refine write_I (F := [(g29, blk (nats sts ++ r29) 3), (g33, blk (nats mst ++ r33) 3), (b49, blk x.cells 43), (bo, blk (bys ol) 5), (b35, blk [.func (.func 27) #[] #[.pointer (some ⟨b34, 0, none⟩), .pointer (some ⟨b7, 0, none⟩)]] 73), (b34, blk [.slice (some ⟨bo, 0, none⟩) N N] 23), (bf, blk (u32s fat) 67), (b25, blk [.slice (some ⟨bf, 0, none⟩) fat.length fat.length] 22), (b7, blk [nv size] 3)] ++ F) (by intro _ _ _ _ _ h; exact hQ _ _ _ _ _ h) b30 b44 (x.b.getD 0) (mst.getD k 0) x.cap minis W _ x.nd.data wl mt x.rest x.heap (Nm.data_ok hok) hok.fit hok.small (le_getD hmsb hkm) hW hW2 hwl hmm hmb (hch1 (by omega) hd2 (by omega)) ?_
        refine QW_heap (((List.perm_append_comm_assoc x.heap [(g29, blk (nats sts ++ r29) 3), (g33, blk (nats mst ++ r33) 3), (b49, blk x.cells 43), (bo, blk (bys ol) 5), (b35, blk [.func (.func 27) #[] #[.pointer (some ⟨b34, 0, none⟩), .pointer (some ⟨b7, 0, none⟩)]] 73), (b34, blk [.slice (some ⟨bo, 0, none⟩) N N] 23), (bf, blk (u32s fat) 67), (b25, blk [.slice (some ⟨bf, 0, none⟩) fat.length fat.length] 22), (b7, blk [nv size] 3)] F).cons (b30, blk (u32s mt) 67)).cons (b44, blk (bys (fill0F mt x.nd.data (mst.getD k 0) wl)) 5)) ?_
        refine QW_normal_block ?_
        refine (QW_then (CW_live (ks := [14, 29, 30, 33, 34, 36, 44, 45, 49, 50, 52, 53, 54, 359, 360, 361]) (.cons rfl (.cons rfl (.cons rfl (.cons rfl (.cons rfl (.cons rfl (.cons rfl (.cons rfl (.cons rfl (.cons rfl (.cons rfl (.cons rfl (.cons rfl (.cons rfl (.cons rfl (.cons rfl .nil)))))))))))))))) ?_))
        first
          | exact hk 5 (sts.getD 2 0) (64 * minis) wl ol (by unfold swF; rw [if_pos (by omega)])
          | exact hk 2 (mst.getD k 0) x.nd.data.length (fill0F mt x.nd.data (mst.getD k 0) wl) ol (by unfold swF; rw [if_neg (by omega), if_pos hd2, if_pos (by omega)])
          | (refine CW_heap (Prm.perm (T := (b44, blk (bys wl) 5) :: (b30, blk (u32s mt) 67) :: (g29, blk (nats sts ++ r29) 3) :: (g33, blk (nats mst ++ r33) 3) :: (b49, blk x.cells 43) :: (bo, blk (bys (fillF fat size x.nd.data (sts.getD (3 + k) 0) ol)) 5) :: (b35, blk [.func (.func 27) #[] #[.pointer (some ⟨b34, 0, none⟩), .pointer (some ⟨b7, 0, none⟩)]] 73) :: (b34, blk [.slice (some ⟨bo, 0, none⟩) N N] 23) :: (bf, blk (u32s fat) 67) :: (b25, blk [.slice (some ⟨bf, 0, none⟩) fat.length fat.length] 22) :: (b7, blk [nv size] 3) :: (x.b.getD 0, blk (bys x.nd.data ++ x.rest) 5) :: F) (by repeat (first | exact Prm.nil _ | exact Rem.here _ _ | apply Rem.there | apply Prm.cons))) ?_; have hkk := hk 2 (sts.getD (3 + k) 0) x.nd.data.length wl (fillF fat size x.nd.data (sts.getD (3 + k) 0) ol) (by unfold swF; rw [if_neg (by omega), if_pos hd2, if_neg (by omega)]); rw [hDh] at hkk; exact hkk)
          | exact hk 1 0 0 wl ol (by unfold swF; rw [if_neg (by omega), if_neg (by rw [hd2]; exact Bool.false_ne_true)])
      · replace hc3 := of_decide_eq_false hc3
        obtain ⟨hda, hDh⟩ := Nm.data_ok hok (by omega)
        rw [hDh]
        simp only [List.cons_append, List.nil_append]
        have hfill := fill_ct b25 bf b35 b34 b7 bo (x.b.getD 0) fat.length N x.cap size (sts.getD (3 + k) 0) N fat x.nd.data ol x.rest (by omega) hol.symm (by omega) (by omega) hok.fit (by omega) (le_getD hsb hks) hfb (fun j hj => by
          have h1 := hch2 (by omega) hd2 (by omega) j hj
          have h2 := sector_le2 (size := size) h1
          omega)
        refine CW_region ?_
        refine RW_y rfl rfl rfl (Yl.h (Yl_move rfl)) ?_
        refine RW_y rfl rfl rfl (Yl.h (Yl_move rfl)) ?_
        refine RW_y rfl rfl rfl (Yl.h (Yl_field rfl fo_43_2)) ?_
        refine RW_y rfl rfl rfl (Yh_load (v := .slice (some ⟨x.b.getD 0, 0, none⟩) x.nd.data.length x.cap) rfl sc_23 (by repeat (first | exact List.Mem.head _ | apply List.Mem.tail)) (by show some x.slice = _; unfold Nm.slice; rw [hda])) ?_
        refine RW_fx rfl rfl rfl (Fx_callV ok_28 (fs := []) (vs := [nv (sts.getD (3 + k) 0), .slice (some ⟨x.b.getD 0, 0, none⟩) x.nd.data.length x.cap]) (cs := [.pointer (some ⟨b25, 0, none⟩), .pointer (some ⟨b35, 0, none⟩)]) rfl rfl (by repeat (first | exact Pick.nil _ | apply Pick.cons | exact Rem.here _ _ | apply Rem.there)) hfill) ?_
        rintro _ _ ⟨_, ⟨rfl, rfl⟩, rfl⟩
        refine RW_nil ?_
        refine QW_normal_block ?_
        refine (QW_then (CW_live (ks := [14, 29, 30, 33, 34, 36, 44, 45, 49, 50, 52, 53, 54, 359, 360, 361]) (.cons rfl (.cons rfl (.cons rfl (.cons rfl (.cons rfl (.cons rfl (.cons rfl (.cons rfl (.cons rfl (.cons rfl (.cons rfl (.cons rfl (.cons rfl (.cons rfl (.cons rfl (.cons rfl .nil)))))))))))))))) ?_))
        first
          | exact hk 5 (sts.getD 2 0) (64 * minis) wl ol (by unfold swF; rw [if_pos (by omega)])
          | exact hk 2 (mst.getD k 0) x.nd.data.length (fill0F mt x.nd.data (mst.getD k 0) wl) ol (by unfold swF; rw [if_neg (by omega), if_pos hd2, if_pos (by omega)])
          | (refine CW_heap (Prm.perm (T := (b44, blk (bys wl) 5) :: (b30, blk (u32s mt) 67) :: (g29, blk (nats sts ++ r29) 3) :: (g33, blk (nats mst ++ r33) 3) :: (b49, blk x.cells 43) :: (bo, blk (bys (fillF fat size x.nd.data (sts.getD (3 + k) 0) ol)) 5) :: (b35, blk [.func (.func 27) #[] #[.pointer (some ⟨b34, 0, none⟩), .pointer (some ⟨b7, 0, none⟩)]] 73) :: (b34, blk [.slice (some ⟨bo, 0, none⟩) N N] 23) :: (bf, blk (u32s fat) 67) :: (b25, blk [.slice (some ⟨bf, 0, none⟩) fat.length fat.length] 22) :: (b7, blk [nv size] 3) :: (x.b.getD 0, blk (bys x.nd.data ++ x.rest) 5) :: F) (by repeat (first | exact Prm.nil _ | exact Rem.here _ _ | apply Rem.there | apply Prm.cons))) ?_; have hkk := hk 2 (sts.getD (3 + k) 0) x.nd.data.length wl (fillF fat size x.nd.data (sts.getD (3 + k) 0) ol) (by unfold swF; rw [if_neg (by omega), if_pos hd2, if_neg (by omega)]); rw [hDh] at hkk; exact hkk)
          | exact hk 1 0 0 wl ol (by unfold swF; rw [if_neg (by omega), if_neg (by rw [hd2]; exact Bool.false_ne_true)])
    · skip
      have hd2 : x.nd.stream = false := hc2
      refine CW_region ?_
      refine RW_y rfl rfl rfl (Yl.h (Yl_assign rfl)) ?_
      refine RW_nil ?_
      refine QW_normal_block ?_
      refine (QW_then (CW_live (ks := [14, 29, 30, 33, 34, 36, 44, 45, 49, 50, 52, 53, 54, 359, 360, 361]) (.cons rfl (.cons rfl (.cons rfl (.cons rfl (.cons rfl (.cons rfl (.cons rfl (.cons rfl (.cons rfl (.cons rfl (.cons rfl (.cons rfl (.cons rfl (.cons rfl (.cons rfl (.cons rfl .nil)))))))))))))))) ?_))
      first
        | exact hk 5 (sts.getD 2 0) (64 * minis) wl ol (by unfold swF; rw [if_pos (by omega)])
        | exact hk 2 (mst.getD k 0) x.nd.data.length (fill0F mt x.nd.data (mst.getD k 0) wl) ol (by unfold swF; rw [if_neg (by omega), if_pos hd2, if_pos (by omega)])
        | (refine CW_heap (Prm.perm (T := (b44, blk (bys wl) 5) :: (b30, blk (u32s mt) 67) :: (g29, blk (nats sts ++ r29) 3) :: (g33, blk (nats mst ++ r33) 3) :: (b49, blk x.cells 43) :: (bo, blk (bys (fillF fat size x.nd.data (sts.getD (3 + k) 0) ol)) 5) :: (b35, blk [.func (.func 27) #[] #[.pointer (some ⟨b34, 0, none⟩), .pointer (some ⟨b7, 0, none⟩)]] 73) :: (b34, blk [.slice (some ⟨bo, 0, none⟩) N N] 23) :: (bf, blk (u32s fat) 67) :: (b25, blk [.slice (some ⟨bf, 0, none⟩) fat.length fat.length] 22) :: (b7, blk [nv size] 3) :: (x.b.getD 0, blk (bys x.nd.data ++ x.rest) 5) :: F) (by repeat (first | exact Prm.nil _ | exact Rem.here _ _ | apply Rem.there | apply Prm.cons))) ?_; have hkk := hk 2 (sts.getD (3 + k) 0) x.nd.data.length wl (fillF fat size x.nd.data (sts.getD (3 + k) 0) ol) (by unfold swF; rw [if_neg (by omega), if_pos hd2, if_neg (by omega)]); rw [hDh] at hkk; exact hkk)
        | exact hk 1 0 0 wl ol (by unfold swF; rw [if_neg (by omega), if_neg (by rw [hd2]; exact Bool.false_ne_true)])
end Go.Proofs.YtgoddcicbpjknaaDoor

/-! Write, its eighth part: a node's name. -/
set_option maxRecDepth 20000
namespace Go.Proofs.YtgoddcicbpjknaaDoor
open Go
open Cfb
set_option maxHeartbeats 4000000 in
theorem write_H {E : World} {Q : Exit → Act → World → Prop} {F : Heap} (hQ : QP Q) (b45 b49 k D A C : Nat) (x : Nm) (l : List UInt8) {v14 v29 v30 v33 v34 v36 v44 v359 v360 v361 : Value} (hA : 128 * k = A) (hD : A + 128 ≤ D) (hC : D - A = C) (hDb : D ≤ 1000000) (hl : l.length = D) (hx : x.nd.name.length ≤ 31)
    (hk : CW Tryd.prog E 514 [(14, v14), (29, v29), (30, v30), (33, v33), (34, v34), (36, v36), (44, v44), (45, .slice (some ⟨b45, 0, none⟩) D D), (48, nv k), (49, .pointer (some ⟨b49, 0, none⟩)), (50, .slice (some ⟨b45, A, none⟩) C C), (359, v359), (360, v360), (361, v361)] ((b45, blk (bys (nameF A x.nd l)) 5) :: (b49, blk x.cells 43) :: F) (dig [1, 1, 1, 1, 1, 1, 1, 1, 1, 1, 1, 1, 1, 1, 1, 1, 1, 1, 1, 1, 1, 1, 1, 1, 1, 1, 1, 1, 1, 1, 1, 1, 1, 1, 1, 1, 1, 1, 1, 1, 1, 1, 1, 1, 1, 1, 1, 0, 1, 2, 2, 1, 1, 0, 2, 1, 1, 1, 1] (bodyOf Tryd.f15)) Q) :
    CW Tryd.prog E 514 [(14, v14), (29, v29), (30, v30), (33, v33), (34, v34), (36, v36), (44, v44), (45, .slice (some ⟨b45, 0, none⟩) D D), (48, nv k), (49, .pointer (some ⟨b49, 0, none⟩)), (359, v359), (360, v360), (361, v361)] ((b45, blk (bys l) 5) :: (b49, blk x.cells 43) :: F) (dig [1, 1, 1, 1, 1, 1, 1, 1, 1, 1, 1, 1, 1, 1, 1, 1, 1, 1, 1, 1, 1, 1, 1, 1, 1, 1, 1, 1, 1, 1, 1, 1, 1, 1, 1, 1, 1, 1, 1, 1, 1, 1, 1, 1, 1, 1, 1, 0, 1, 2, 2, 1, 1, 0, 2, 1] (bodyOf Tryd.f15)) Q := by
  have hAk : A ≤ 1000000 := by omega
  refine CW_seq ?_
  refine CW_region ?_
  refine RW_y rfl rfl rfl (Yl.h (Yl_move rfl)) ?_
  refine RW_y rfl rfl rfl (Yl.h (Yl_move rfl)) ?_
  refine RW_y rfl rfl rfl (Yl.h (Yl_mul (c := (A : Int)) rfl rfl (by rw [← hA]; exact mulN (a := 128) (b := k) (by omega)))) ?_
  refine RW_y rfl rfl rfl (Yl.h (Yl_cutLL (l := A) (o' := A) (m' := C) (c' := C) rfl rfl sl_23 (by omega) (by omega) (by omega) hC hC)) ?_
  refine RW_y rfl rfl rfl (Yl.h (Yl_assign rfl)) ?_
  refine (RW_nil (QW_then (CW_live (ks := [14, 29, 30, 33, 34, 36, 44, 45, 48, 49, 50, 359, 360, 361]) (.cons rfl (.cons rfl (.cons rfl (.cons rfl (.cons rfl (.cons rfl (.cons rfl (.cons rfl (.cons rfl (.cons rfl (.cons rfl (.cons rfl (.cons rfl (.cons rfl .nil)))))))))))))) ?_)))
  refine CW_seq ?_
  refine CW_seq ?_
  refine CW_region ?_
  refine RW_y rfl rfl rfl (Yl.h (Yl_field rfl fo_43_0)) ?_
  refine RW_y rfl rfl rfl (Yh_load (v := .string (bar x.nd.name)) rfl sc_9 (by repeat (first | exact List.Mem.head _ | apply List.Mem.tail)) rfl) ?_
  refine RW_y rfl rfl rfl (Yl.h (Yl_lenB (l := x.nd.name) rfl st_9)) ?_
  refine RW_y rfl rfl rfl (Yl.h (Yl_move rfl)) ?_
  refine (RW_nil (QW_then (CW_live (ks := [14, 29, 30, 33, 34, 36, 44, 45, 48, 49, 50, 359, 360, 361, 372, 373]) (.cons rfl (.cons rfl (.cons rfl (.cons rfl (.cons rfl (.cons rfl (.cons rfl (.cons rfl (.cons rfl (.cons rfl (.cons rfl (.cons rfl (.cons rfl (.cons rfl (.cons rfl (.cons rfl .nil)))))))))))))))) ?_)))
  refine CW_block ?_
  refine CW_loop (σ := Nat) (fun j => [(14, v14), (29, v29), (30, v30), (33, v33), (34, v34), (36, v36), (44, v44), (45, .slice (some ⟨b45, 0, none⟩) D D), (48, nv k), (49, .pointer (some ⟨b49, 0, none⟩)), (50, .slice (some ⟨b45, A, none⟩) C C), (359, v359), (360, v360), (361, v361), (372, nv x.nd.name.length), (373, nv j)]) (fun j => (b45, blk (bys (nameTo x.nd.name A j l)) 5) :: (b49, blk x.cells 43) :: F) (fun j => j ≤ x.nd.name.length) (fun j => x.nd.name.length - j) 0 (by omega) (by repeat (first | exact Prm.nil _ | exact Rem.here _ _ | apply Rem.there | apply Prm.cons)) (.cons rfl (.cons rfl (.cons rfl (.cons rfl (.cons rfl (.cons rfl (.cons rfl (.cons rfl (.cons rfl (.cons rfl (.cons rfl (.cons rfl (.cons rfl (.cons rfl (.cons rfl (.cons rfl .nil)))))))))))))))) ?_
  intro j hjm
  refine CW_seq ?_
  refine CW_region ?_
  refine RW_y rfl rfl rfl (Yl.h (Yl_lss rfl rfl)) ?_
  refine (RW_nil (QW_then (CW_live (ks := [14, 29, 30, 33, 34, 36, 44, 45, 48, 49, 50, 359, 360, 361, 372, 373, 374]) (.cons rfl (.cons rfl (.cons rfl (.cons rfl (.cons rfl (.cons rfl (.cons rfl (.cons rfl (.cons rfl (.cons rfl (.cons rfl (.cons rfl (.cons rfl (.cons rfl (.cons rfl (.cons rfl (.cons rfl .nil))))))))))))))))) ?_)))
  refine CW_seq ?_
  refine CW_cond rfl (fun hc1 => ?_) (fun hc1 => ?_)
  · replace hc1 := of_decide_eq_true hc1
    refine (CW_skip (QW_then (CW_live (ks := [14, 29, 30, 33, 34, 36, 44, 45, 48, 49, 50, 359, 360, 361, 372, 373]) (.cons rfl (.cons rfl (.cons rfl (.cons rfl (.cons rfl (.cons rfl (.cons rfl (.cons rfl (.cons rfl (.cons rfl (.cons rfl (.cons rfl (.cons rfl (.cons rfl (.cons rfl (.cons rfl .nil)))))))))))))))) ?_)))
    refine CW_seq ?_
    refine CW_block ?_
    refine CW_seq ?_
    refine CW_region ?_
    refine RW_y rfl rfl rfl (Yl.h (Yl_move rfl)) ?_
    refine RW_y rfl rfl rfl (Yl.h (Yl_assign rfl)) ?_
    refine (RW_nil (QW_then (CW_live (ks := [14, 29, 30, 33, 34, 36, 44, 45, 48, 49, 50, 51, 359, 360, 361, 372, 373]) (.cons rfl (.cons rfl (.cons rfl (.cons rfl (.cons rfl (.cons rfl (.cons rfl (.cons rfl (.cons rfl (.cons rfl (.cons rfl (.cons rfl (.cons rfl (.cons rfl (.cons rfl (.cons rfl (.cons rfl .nil))))))))))))))))) ?_)))
    have hlj : (nameTo x.nd.name A j l).length = D := by rw [length_nameTo _ _ _ _ (by omega)]; exact hl
    refine CW_region ?_
    refine RW_y rfl rfl rfl (Yl.h (Yl_move rfl)) ?_
    refine RW_y rfl rfl rfl (Yl.h (Yl_move rfl)) ?_
    refine RW_y rfl rfl rfl (Yl.h (Yl_mul (c := ((2 * j : Nat) : Int)) rfl rfl (mulN (a := 2) (b := j) (by omega)))) ?_
    refine RW_y rfl rfl rfl (Yl.h (Yl_field rfl fo_43_0)) ?_
    refine RW_y rfl rfl rfl (Yh_load (v := .string (bar x.nd.name)) rfl sc_9 (by repeat (first | exact List.Mem.head _ | apply List.Mem.tail)) rfl) ?_
    refine RW_y rfl rfl rfl (Yl.h (Yl_move rfl)) ?_
    refine RW_y rfl rfl rfl (Yl.h (Yl_atB (l := x.nd.name) (i := j) rfl rfl st_9 (by omega))) ?_
    refine RW_y rfl rfl rfl (Yl.h (Yl_conv (c := (((x.nd.name.getD j 0).toNat : Nat) : Int)) rfl in_5 in_39 (wu64 (by omega) (by have := (x.nd.name.getD j 0).toNat_lt; omega)))) ?_
    refine RW_fx rfl rfl rfl (Fx_call ok_29 (vs := [.slice (some ⟨b45, A, none⟩) C C, nv (2 * j), .int .u64 (((x.nd.name.getD j 0).toNat : Nat) : Int), nv 2]) rfl (by repeat (first | exact Pick.nil _ | apply Pick.cons | exact Rem.here _ _ | apply Rem.there)) (put_ctN b45 A C C (A + 2 * j) (nameTo x.nd.name A j l) (2 * j) (x.nd.name.getD j 0).toNat 2 (by omega) (by omega) (by omega) (by omega) (by omega))) ?_
    rintro _ _ ⟨_, ⟨rfl, rfl⟩, rfl⟩
    refine RW_nil ?_
    refine QW_normal_block ?_
    refine (QW_then (CW_live (ks := [14, 29, 30, 33, 34, 36, 44, 45, 48, 49, 50, 359, 360, 361, 372, 373]) (.cons rfl (.cons rfl (.cons rfl (.cons rfl (.cons rfl (.cons rfl (.cons rfl (.cons rfl (.cons rfl (.cons rfl (.cons rfl (.cons rfl (.cons rfl (.cons rfl (.cons rfl (.cons rfl .nil)))))))))))))))) ?_))
    refine CW_region ?_
    refine RW_y rfl rfl rfl (Yl.h (Yl_add rfl rfl (wi64 (by omega) (by omega)))) ?_
    refine RW_y rfl rfl rfl (Yl.h (Yl_move rfl)) ?_
    refine RW_nil ?_
    exact QW_round (j + 1) (by omega) (by omega) (by repeat (first | exact Prm.nil _ | exact Rem.here _ _ | apply Rem.there | apply Prm.cons)) (.cons rfl (.cons rfl (.cons rfl (.cons rfl (.cons rfl (.cons rfl (.cons rfl (.cons rfl (.cons rfl (.cons rfl (.cons rfl (.cons rfl (.cons rfl (.cons rfl (.cons rfl (.cons rfl .nil))))))))))))))))
  · replace hc1 := of_decide_eq_false hc1
    refine CW_exit ?_
    refine QW_exit_then ?_
    refine QW_exit_then ?_
    refine QW_exit_block ?_
    refine (QW_then (CW_live (ks := [14, 29, 30, 33, 34, 36, 44, 45, 48, 49, 50, 359, 360, 361]) (.cons rfl (.cons rfl (.cons rfl (.cons rfl (.cons rfl (.cons rfl (.cons rfl (.cons rfl (.cons rfl (.cons rfl (.cons rfl (.cons rfl (.cons rfl (.cons rfl .nil)))))))))))))) ?_))
    refine CW_seq ?_
    obtain rfl : j = x.nd.name.length := by omega
    have hlj : (nameTo x.nd.name A x.nd.name.length l).length = D := by rw [length_nameTo _ _ _ _ (by omega)]; exact hl
    refine CW_region ?_
    refine RW_y rfl rfl rfl (Yl.h (Yl_move rfl)) ?_
    refine RW_y rfl rfl rfl (Yl.h (Yl_field rfl fo_43_0)) ?_
    refine RW_y rfl rfl rfl (Yh_load (v := .string (bar x.nd.name)) rfl sc_9 (by repeat (first | exact List.Mem.head _ | apply List.Mem.tail)) rfl) ?_
    refine RW_y rfl rfl rfl (Yl.h (Yl_lenB (l := x.nd.name) rfl st_9)) ?_
    refine RW_y rfl rfl rfl (Yl.h (Yl_mul (c := ((2 * x.nd.name.length : Nat) : Int)) rfl rfl (mulN (a := 2) (b := x.nd.name.length) (by omega)))) ?_
    refine RW_y rfl rfl rfl (Yl.h (Yl_add (c := ((2 * x.nd.name.length + 2 : Nat) : Int)) rfl rfl (wi64 (by omega) (by omega)))) ?_
    refine RW_y rfl rfl rfl (Yl.h (Yl_conv rfl in_3 in_39 (wu64 (by omega) (by omega)))) ?_
    refine RW_fx rfl rfl rfl (Fx_call ok_29 (vs := [.slice (some ⟨b45, A, none⟩) C C, nv 64, .int .u64 ((2 * x.nd.name.length + 2 : Nat) : Int), nv 2]) rfl (by repeat (first | exact Pick.nil _ | apply Pick.cons | exact Rem.here _ _ | apply Rem.there)) (put_ctN b45 A C C (A + 64) (nameTo x.nd.name A x.nd.name.length l) 64 (2 * x.nd.name.length + 2) 2 (by omega) (by omega) (by omega) (by omega) (by omega))) ?_
    rintro _ _ ⟨_, ⟨rfl, rfl⟩, rfl⟩
    refine (RW_nil (QW_then (CW_live (ks := [14, 29, 30, 33, 34, 36, 44, 45, 48, 49, 50, 359, 360, 361]) (.cons rfl (.cons rfl (.cons rfl (.cons rfl (.cons rfl (.cons rfl (.cons rfl (.cons rfl (.cons rfl (.cons rfl (.cons rfl (.cons rfl (.cons rfl (.cons rfl .nil)))))))))))))) ?_)))
    exact hk
end Go.Proofs.YtgoddcicbpjknaaDoor

/-! Write, its twelfth part: the nodes, one after the other. -/
set_option maxRecDepth 20000
namespace Go.Proofs.YtgoddcicbpjknaaDoor
open Go
open Cfb
set_option maxHeartbeats 4000000 in
theorem write_L {E : World} {Q : Exit → Act → World → Prop} {F : Heap} (hQ : QP Q) (b7 g29 stl c29 b30 bf b25 b34 b35 bo g33 msl c33 b44 b45 bl cl size N T minis W D : Nat) (ns : List Nm) (rl : List Value) (sts mst mt fat : List Nat) (r29 r33 : List Value) (dl wl ol : List UInt8) {v34 : Value} (hok : ∀ x ∈ ns, x.ok) (hns : ns.length ≤ 20) (hsz : 512 ≤ size ∧ size ≤ 4096) (hsl : stl = sts.length) (hks : 3 + ns.length ≤ sts.length) (hml : msl = mst.length) (hkm : ns.length ≤ mst.length) (hsb : ∀ y ∈ sts, y ≤ 4294967295) (hmsb : ∀ y ∈ mst, y ≤ 4294967295) (hmt : mt.length ≤ 1000000) (hmb : ∀ y ∈ mt, y < 4294967296) (hfb : ∀ y ∈ fat, y < 4294967296) (hT : T ≤ 100000) (hTf : T ≤ fat.length) (hN : size * (1 + T) = N) (hol : ol.length = N) (hW : 64 * minis = W) (hW2 : W ≤ 100000000) (hwl : wl.length = W) (hmm : minis ≤ mt.length) (hdl : dl.length = D) (hDn : 128 * ns.length ≤ D) (hDb : D ≤ 1000000)
    (hch1 : ∀ k, k < ns.length → k ≠ 0 → (ns.getD k default).nd.stream = true → (ns.getD k default).nd.data.length < 4096 → ∀ j, j * 64 < (ns.getD k default).nd.data.length → walkP mt (mst.getD k 0) j < minis)
    (hch2 : ∀ k, k < ns.length → k ≠ 0 → (ns.getD k default).nd.stream = true → ¬ (ns.getD k default).nd.data.length < 4096 → ∀ j, j * size < (ns.getD k default).nd.data.length → walkP fat (sts.getD (3 + k) 0) j < T)
    (hk : CW Tryd.prog E 514 [(29, .slice (some ⟨g29, 0, none⟩) stl c29), (34, v34), (36, .func (.func 28) #[] #[.pointer (some ⟨b25, 0, none⟩), .pointer (some ⟨b35, 0, none⟩)]), (44, .slice (some ⟨b44, 0, none⟩) W W), (45, .slice (some ⟨b45, 0, none⟩) D D)] ((b45, blk (bys (nodesTo minis size sts mst fat mt (ns.map Nm.nd) ns.length (dl, wl, ol)).1) 5) :: (b44, blk (bys (nodesTo minis size sts mst fat mt (ns.map Nm.nd) ns.length (dl, wl, ol)).2.1) 5) :: (bo, blk (bys (nodesTo minis size sts mst fat mt (ns.map Nm.nd) ns.length (dl, wl, ol)).2.2) 5) :: (g29, blk (nats sts ++ r29) 3) :: (g33, blk (nats mst ++ r33) 3) :: (b35, blk [.func (.func 27) #[] #[.pointer (some ⟨b34, 0, none⟩), .pointer (some ⟨b7, 0, none⟩)]] 73) :: (b34, blk [.slice (some ⟨bo, 0, none⟩) N N] 23) :: (bf, blk (u32s fat) 67) :: (b25, blk [.slice (some ⟨bf, 0, none⟩) fat.length fat.length] 22) :: (b7, blk [nv size] 3) :: (b30, blk (u32s mt) 67) :: (bl, blk (nms ns ++ rl) 43) :: (nmsH ns ++ F)) (dig [1, 1, 1, 1, 1, 1, 1, 1, 1, 1, 1, 1, 1, 1, 1, 1, 1, 1, 1, 1, 1, 1, 1, 1, 1, 1, 1, 1, 1, 1, 1, 1, 1, 1, 1, 1, 1, 1, 1, 1, 1, 1, 1, 1, 1, 1, 1, 1] (bodyOf Tryd.f15)) Q) :
    CW Tryd.prog E 514 [(0, .slice (some ⟨bl, 0, none⟩) ns.length cl), (14, nv minis), (29, .slice (some ⟨g29, 0, none⟩) stl c29), (30, .slice (some ⟨b30, 0, none⟩) mt.length mt.length), (33, .slice (some ⟨g33, 0, none⟩) msl c33), (34, v34), (36, .func (.func 28) #[] #[.pointer (some ⟨b25, 0, none⟩), .pointer (some ⟨b35, 0, none⟩)]), (44, .slice (some ⟨b44, 0, none⟩) W W), (45, .slice (some ⟨b45, 0, none⟩) D D)] ((b45, blk (bys dl) 5) :: (b44, blk (bys wl) 5) :: (bo, blk (bys ol) 5) :: (g29, blk (nats sts ++ r29) 3) :: (g33, blk (nats mst ++ r33) 3) :: (b35, blk [.func (.func 27) #[] #[.pointer (some ⟨b34, 0, none⟩), .pointer (some ⟨b7, 0, none⟩)]] 73) :: (b34, blk [.slice (some ⟨bo, 0, none⟩) N N] 23) :: (bf, blk (u32s fat) 67) :: (b25, blk [.slice (some ⟨bf, 0, none⟩) fat.length fat.length] 22) :: (b7, blk [nv size] 3) :: (b30, blk (u32s mt) 67) :: (bl, blk (nms ns ++ rl) 43) :: (nmsH ns ++ F)) (dig [1, 1, 1, 1, 1, 1, 1, 1, 1, 1, 1, 1, 1, 1, 1, 1, 1, 1, 1, 1, 1, 1, 1, 1, 1, 1, 1, 1, 1, 1, 1, 1, 1, 1, 1, 1, 1, 1, 1, 1, 1, 1, 1, 1, 1, 1, 1] (bodyOf Tryd.f15)) Q := by
  refine CW_seq ?_
  refine CW_seq ?_
  refine CW_region ?_
  refine RW_y rfl rfl rfl (Yl.h (Yl_move rfl)) ?_
  refine RW_y rfl rfl rfl (Yl.h (Yl_len rfl sl_25)) ?_
  refine RW_y rfl rfl rfl (Yl.h (Yl_move rfl)) ?_
  refine (RW_nil (QW_then (CW_live (ks := [14, 29, 30, 33, 34, 36, 44, 45, 359, 360, 361]) (.cons rfl (.cons rfl (.cons rfl (.cons rfl (.cons rfl (.cons rfl (.cons rfl (.cons rfl (.cons rfl (.cons rfl (.cons rfl .nil))))))))))) ?_)))
  refine CW_block ?_
  refine CW_loop (σ := Nat) (fun k => [(14, nv minis), (29, .slice (some ⟨g29, 0, none⟩) stl c29), (30, .slice (some ⟨b30, 0, none⟩) mt.length mt.length), (33, .slice (some ⟨g33, 0, none⟩) msl c33), (34, v34), (36, .func (.func 28) #[] #[.pointer (some ⟨b25, 0, none⟩), .pointer (some ⟨b35, 0, none⟩)]), (44, .slice (some ⟨b44, 0, none⟩) W W), (45, .slice (some ⟨b45, 0, none⟩) D D), (359, .slice (some ⟨bl, 0, none⟩) ns.length cl), (360, nv ns.length), (361, nv k)]) (fun k => (b45, blk (bys (nodesTo minis size sts mst fat mt (ns.map Nm.nd) k (dl, wl, ol)).1) 5) :: (b44, blk (bys (nodesTo minis size sts mst fat mt (ns.map Nm.nd) k (dl, wl, ol)).2.1) 5) :: (bo, blk (bys (nodesTo minis size sts mst fat mt (ns.map Nm.nd) k (dl, wl, ol)).2.2) 5) :: (g29, blk (nats sts ++ r29) 3) :: (g33, blk (nats mst ++ r33) 3) :: (b35, blk [.func (.func 27) #[] #[.pointer (some ⟨b34, 0, none⟩), .pointer (some ⟨b7, 0, none⟩)]] 73) :: (b34, blk [.slice (some ⟨bo, 0, none⟩) N N] 23) :: (bf, blk (u32s fat) 67) :: (b25, blk [.slice (some ⟨bf, 0, none⟩) fat.length fat.length] 22) :: (b7, blk [nv size] 3) :: (b30, blk (u32s mt) 67) :: (bl, blk (nms ns ++ rl) 43) :: (nmsH ns ++ F)) (fun k => k ≤ ns.length ∧ (nodesTo minis size sts mst fat mt (ns.map Nm.nd) k (dl, wl, ol)).1.length = D ∧ (nodesTo minis size sts mst fat mt (ns.map Nm.nd) k (dl, wl, ol)).2.1.length = W ∧ (nodesTo minis size sts mst fat mt (ns.map Nm.nd) k (dl, wl, ol)).2.2.length = N) (fun k => ns.length - k) 0 ⟨by omega, hdl, hwl, hol⟩ (Prm.nil _) (.cons rfl (.cons rfl (.cons rfl (.cons rfl (.cons rfl (.cons rfl (.cons rfl (.cons rfl (.cons rfl (.cons rfl (.cons rfl .nil))))))))))) ?_
  rintro k ⟨hkn, hq1, hq2, hq3⟩
  obtain ⟨q, hqe⟩ : ∃ q, q = (nodesTo minis size sts mst fat mt (ns.map Nm.nd) k (dl, wl, ol)) := ⟨_, rfl⟩
  rw [← hqe] at hq1 hq2 hq3
  simp only [← hqe]
  refine CW_seq ?_
  refine CW_region ?_
  refine RW_y rfl rfl rfl (Yl.h (Yl_lss rfl rfl)) ?_
  refine (RW_nil (QW_then (CW_live (ks := [14, 29, 30, 33, 34, 36, 44, 45, 359, 360, 361, 362]) (.cons rfl (.cons rfl (.cons rfl (.cons rfl (.cons rfl (.cons rfl (.cons rfl (.cons rfl (.cons rfl (.cons rfl (.cons rfl (.cons rfl .nil)))))))))))) ?_)))
  refine CW_seq ?_
  refine CW_cond rfl (fun hc1 => ?_) (fun hc1 => ?_)
  · replace hc1 := of_decide_eq_true hc1
    refine (CW_skip (QW_then (CW_live (ks := [14, 29, 30, 33, 34, 36, 44, 45, 359, 360, 361]) (.cons rfl (.cons rfl (.cons rfl (.cons rfl (.cons rfl (.cons rfl (.cons rfl (.cons rfl (.cons rfl (.cons rfl (.cons rfl .nil))))))))))) ?_)))
    refine CW_seq ?_
    refine CW_block ?_
    refine CW_seq ?_
    have hx : (ns.getD k default).ok := ok_at hok (by omega)
    refine CW_region ?_
    refine RW_y rfl rfl rfl (Yl.h (Yl_move rfl)) ?_
    refine RW_y rfl rfl rfl (Yl.h (Yl_index rfl rfl sl_25 (by omega) (by omega))) ?_
    refine RW_y rfl rfl rfl (Yh_loadNm (k := k) rfl (show 0 + (k : Int).toNat * 28 = k * 28 by omega) (by repeat (first | exact List.Mem.head _ | apply List.Mem.tail)) (by omega)) ?_
    refine RW_fx rfl rfl rfl (Fx_alloc (zs := zs_43) ze_43 rfl) ?_
    rintro _ _ ⟨b49, rfl, rfl⟩
    refine RW_y rfl rfl rfl (Yl.h (Yl_assign rfl)) ?_
    refine RW_fx0 rfl rfl (Fx_storeNm rfl rfl (by repeat (first | exact Rep.here _ _ _ | apply Rep.there)) rfl) ?_
    rintro _ _ rfl
    refine (RW_nil (QW_then (CW_live (ks := [14, 29, 30, 33, 34, 36, 44, 45, 48, 49, 359, 360, 361]) (.cons rfl (.cons rfl (.cons rfl (.cons rfl (.cons rfl (.cons rfl (.cons rfl (.cons rfl (.cons rfl (.cons rfl (.cons rfl (.cons rfl (.cons rfl .nil))))))))))))) ?_)))
    refine CW_heap (Prm.perm (T := (b45, blk (bys q.1) 5) :: (b49, blk (ns.getD k default).cells 43) :: (b44, blk (bys q.2.1) 5) :: (bo, blk (bys q.2.2) 5) :: (g29, blk (nats sts ++ r29) 3) :: (g33, blk (nats mst ++ r33) 3) :: (b35, blk [.func (.func 27) #[] #[.pointer (some ⟨b34, 0, none⟩), .pointer (some ⟨b7, 0, none⟩)]] 73) :: (b34, blk [.slice (some ⟨bo, 0, none⟩) N N] 23) :: (bf, blk (u32s fat) 67) :: (b25, blk [.slice (some ⟨bf, 0, none⟩) fat.length fat.length] 22) :: (b7, blk [nv size] 3) :: (b30, blk (u32s mt) 67) :: (bl, blk (nms ns ++ rl) 43) :: (nmsH ns ++ F)) (by repeat (first | exact Prm.nil _ | exact Rem.here _ _ | apply Rem.there | apply Prm.cons))) ?_
    refine write_H (F := [(b44, blk (bys q.2.1) 5), (bo, blk (bys q.2.2) 5), (g29, blk (nats sts ++ r29) 3), (g33, blk (nats mst ++ r33) 3), (b35, blk [.func (.func 27) #[] #[.pointer (some ⟨b34, 0, none⟩), .pointer (some ⟨b7, 0, none⟩)]] 73), (b34, blk [.slice (some ⟨bo, 0, none⟩) N N] 23), (bf, blk (u32s fat) 67), (b25, blk [.slice (some ⟨bf, 0, none⟩) fat.length fat.length] 22), (b7, blk [nv size] 3), (b30, blk (u32s mt) 67), (bl, blk (nms ns ++ rl) 43)] ++ (nmsH ns ++ F)) (by intro _ _ _ _ _ h; exact hQ _ _ _ _ _ h) b45 b49 k D (128 * k) (D - 128 * k) (ns.getD k default) q.1 rfl (by omega) rfl hDb hq1 hx.name ?_
    refine CW_heap (Prm.perm (T := (b44, blk (bys q.2.1) 5) :: (b30, blk (u32s mt) 67) :: (g29, blk (nats sts ++ r29) 3) :: (g33, blk (nats mst ++ r33) 3) :: (b49, blk (ns.getD k default).cells 43) :: (bo, blk (bys q.2.2) 5) :: (b35, blk [.func (.func 27) #[] #[.pointer (some ⟨b34, 0, none⟩), .pointer (some ⟨b7, 0, none⟩)]] 73) :: (b34, blk [.slice (some ⟨bo, 0, none⟩) N N] 23) :: (bf, blk (u32s fat) 67) :: (b25, blk [.slice (some ⟨bf, 0, none⟩) fat.length fat.length] 22) :: (b7, blk [nv size] 3) :: (b45, blk (bys (nameF (128 * k) (ns.getD k default).nd q.1)) 5) :: (bl, blk (nms ns ++ rl) 43) :: (nmsH ns ++ F)) (by repeat (first | exact Prm.nil _ | exact Rem.here _ _ | apply Rem.there | apply Prm.cons))) ?_
    refine CW_heap (perm_in [(b44, blk (bys q.2.1) 5), (b30, blk (u32s mt) 67), (g29, blk (nats sts ++ r29) 3), (g33, blk (nats mst ++ r33) 3), (b49, blk (ns.getD k default).cells 43), (bo, blk (bys q.2.2) 5), (b35, blk [.func (.func 27) #[] #[.pointer (some ⟨b34, 0, none⟩), .pointer (some ⟨b7, 0, none⟩)]] 73), (b34, blk [.slice (some ⟨bo, 0, none⟩) N N] 23), (bf, blk (u32s fat) 67), (b25, blk [.slice (some ⟨bf, 0, none⟩) fat.length fat.length] 22), (b7, blk [nv size] 3)] [(b45, blk (bys (nameF (128 * k) (ns.getD k default).nd q.1)) 5), (bl, blk (nms ns ++ rl) 43)] F (nmsH_perm ns k (by omega))) ?_
    refine write_J (F := [(b45, blk (bys (nameF (128 * k) (ns.getD k default).nd q.1)) 5), (bl, blk (nms ns ++ rl) 43)] ++ (nmsH (ns.eraseIdx k) ++ F)) (by intro _ _ _ _ _ h; exact hQ _ _ _ _ _ h) b7 g29 stl c29 b30 bf b25 b34 b35 bo g33 msl c33 b44 b49 k size N T minis W sts mst mt fat r29 r33 q.2.1 q.2.2 (ns.getD k default) hx hsz hsl (by omega) hml (by omega) hsb hmsb hmt hmb hfb hT hTf hN hq3 hW hW2 hq2 hmm (by omega) (hch1 k (by omega)) (hch2 k (by omega)) ?_
    intro kd st ln wl' ol' hsw
    refine CW_heap (perm_in [(b44, blk (bys wl') 5), (b30, blk (u32s mt) 67), (g29, blk (nats sts ++ r29) 3), (g33, blk (nats mst ++ r33) 3), (b49, blk (ns.getD k default).cells 43), (bo, blk (bys ol') 5), (b35, blk [.func (.func 27) #[] #[.pointer (some ⟨b34, 0, none⟩), .pointer (some ⟨b7, 0, none⟩)]] 73), (b34, blk [.slice (some ⟨bo, 0, none⟩) N N] 23), (bf, blk (u32s fat) 67), (b25, blk [.slice (some ⟨bf, 0, none⟩) fat.length fat.length] 22), (b7, blk [nv size] 3)] [(b45, blk (bys (nameF (128 * k) (ns.getD k default).nd q.1)) 5), (bl, blk (nms ns ++ rl) 43)] F (nmsH_perm ns k (by omega))).symm ?_
    have hfs := swF_facts (k := k) (minis := minis) (size := size) (wl := q.2.1) (ol := q.2.2) (by omega) hsb hmsb (by omega) (by omega) hN hq3 (by omega) (by omega) hx.small (hch1 k (by omega)) (hch2 k (by omega))
    rw [hsw] at hfs
    simp only at hfs
    obtain ⟨hf1, hf2, hf3, hf4⟩ := hfs
    refine CW_heap (Prm.perm (T := (b45, blk (bys (nameF (128 * k) (ns.getD k default).nd q.1)) 5) :: (b49, blk (ns.getD k default).cells 43) :: (b44, blk (bys wl') 5) :: (bo, blk (bys ol') 5) :: (g29, blk (nats sts ++ r29) 3) :: (g33, blk (nats mst ++ r33) 3) :: (b35, blk [.func (.func 27) #[] #[.pointer (some ⟨b34, 0, none⟩), .pointer (some ⟨b7, 0, none⟩)]] 73) :: (b34, blk [.slice (some ⟨bo, 0, none⟩) N N] 23) :: (bf, blk (u32s fat) 67) :: (b25, blk [.slice (some ⟨bf, 0, none⟩) fat.length fat.length] 22) :: (b7, blk [nv size] 3) :: (b30, blk (u32s mt) 67) :: (bl, blk (nms ns ++ rl) 43) :: (nmsH ns ++ F)) (by repeat (first | exact Prm.nil _ | exact Rem.here _ _ | apply Rem.there | apply Prm.cons))) ?_
    refine write_K (F := [(b44, blk (bys wl') 5), (bo, blk (bys ol') 5), (g29, blk (nats sts ++ r29) 3), (g33, blk (nats mst ++ r33) 3), (b35, blk [.func (.func 27) #[] #[.pointer (some ⟨b34, 0, none⟩), .pointer (some ⟨b7, 0, none⟩)]] 73), (b34, blk [.slice (some ⟨bo, 0, none⟩) N N] 23), (bf, blk (u32s fat) 67), (b25, blk [.slice (some ⟨bf, 0, none⟩) fat.length fat.length] 22), (b7, blk [nv size] 3), (b30, blk (u32s mt) 67), (bl, blk (nms ns ++ rl) 43)] ++ (nmsH ns ++ F)) (by intro _ _ _ _ _ h; exact hQ _ _ _ _ _ h) b45 b49 D (128 * k) (D - 128 * k) st ln kd (ns.getD k default) (nameF (128 * k) (ns.getD k default).nd q.1) hx (by omega) rfl hDb (by rw [length_nameF _ _ _ (by omega) hx.name]; exact hq1) hf1 hf2 hx.created hx.modified ?_
    refine QW_normal_block ?_
    refine (QW_then (CW_live (ks := [14, 29, 30, 33, 34, 36, 44, 45, 359, 360, 361]) (.cons rfl (.cons rfl (.cons rfl (.cons rfl (.cons rfl (.cons rfl (.cons rfl (.cons rfl (.cons rfl (.cons rfl (.cons rfl .nil))))))))))) ?_))
    refine CW_region ?_
    refine RW_y rfl rfl rfl (Yl.h (Yl_add rfl rfl (wi64 (by omega) (by omega)))) ?_
    refine RW_y rfl rfl rfl (Yl.h (Yl_move rfl)) ?_
    refine RW_nil ?_
    have hsuc : nodesTo minis size sts mst fat mt (ns.map Nm.nd) (k + 1) (dl, wl, ol) = (entF (128 * k) (ns.getD k default).nd kd st ln (nameF (128 * k) (ns.getD k default).nd q.1), wl', ol') := by
      show nodeF minis size sts mst fat mt (ns.map Nm.nd) k (nodesTo minis size sts mst fat mt (ns.map Nm.nd) k (dl, wl, ol)) = _
      rw [← hqe]; unfold nodeF; rw [nd_at ns k (by omega), hsw]
    refine QW_round (k + 1) ?_ (by omega) ?_ (.cons rfl (.cons rfl (.cons rfl (.cons rfl (.cons rfl (.cons rfl (.cons rfl (.cons rfl (.cons rfl (.cons rfl (.cons rfl .nil)))))))))))
    · rw [hsuc]; exact ⟨by omega, by rw [length_entF _ _ _ _ _ _ (by rw [length_nameF _ _ _ (by omega) hx.name]; omega), length_nameF _ _ _ (by omega) hx.name]; exact hq1, hf3.trans hW, hf4⟩
    · rw [hsuc]; exact (by repeat (first | exact Prm.nil _ | exact Rem.here _ _ | apply Rem.there | apply Prm.cons))
  · replace hc1 := of_decide_eq_false hc1
    refine CW_exit ?_
    refine QW_exit_then ?_
    refine QW_exit_then ?_
    refine QW_exit_block ?_
    refine (QW_then (CW_live (ks := [29, 34, 36, 44, 45]) (.cons rfl (.cons rfl (.cons rfl (.cons rfl (.cons rfl .nil))))) ?_))
    obtain rfl : k = ns.length := by omega
    refine CW_heap (Prm.perm (T := (b45, blk (bys q.1) 5) :: (b44, blk (bys q.2.1) 5) :: (bo, blk (bys q.2.2) 5) :: (g29, blk (nats sts ++ r29) 3) :: (g33, blk (nats mst ++ r33) 3) :: (b35, blk [.func (.func 27) #[] #[.pointer (some ⟨b34, 0, none⟩), .pointer (some ⟨b7, 0, none⟩)]] 73) :: (b34, blk [.slice (some ⟨bo, 0, none⟩) N N] 23) :: (bf, blk (u32s fat) 67) :: (b25, blk [.slice (some ⟨bf, 0, none⟩) fat.length fat.length] 22) :: (b7, blk [nv size] 3) :: (b30, blk (u32s mt) 67) :: (bl, blk (nms ns ++ rl) 43) :: (nmsH ns ++ F)) (by repeat (first | exact Prm.nil _ | exact Rem.here _ _ | apply Rem.there | apply Prm.cons))) ?_
    rw [hqe]
    exact hk
end Go.Proofs.YtgoddcicbpjknaaDoor

/-! Write, its last part: the small stream and the directory are laid. -/
set_option maxRecDepth 20000
namespace Go.Proofs.YtgoddcicbpjknaaDoor
open Go
open Cfb
set_option maxHeartbeats 4000000 in
theorem write_M {E : World} {Q : Exit → Act → World → Prop} {F : Heap} (hQ : QP Q) (b7 g29 stl c29 bf b25 b34 b35 bo b44 b45 size N T W D : Nat) (sts fat : List Nat) (r29 : List Value) (dl wl ol : List UInt8)  (hsz : 512 ≤ size ∧ size ≤ 4096) (hsl : stl = sts.length) (hsl3 : 3 ≤ sts.length) (hsb : ∀ y ∈ sts, y ≤ 4294967295) (hfb : ∀ y ∈ fat, y < 4294967296) (hT : T ≤ 100000) (hTf : T ≤ fat.length) (hN : size * (1 + T) = N) (hol : ol.length = N) (hwl : wl.length = W) (hdl : dl.length = D) (hW2 : W ≤ 100000000) (hDb : D ≤ 1000000) (hcW : ∀ j, j * size < W → walkP fat (sts.getD 2 0) j < T) (hcD : ∀ j, j * size < D → walkP fat (sts.getD 0 0) j < T)
    (hk : QW E 514 [(6, .slice (some ⟨bo, 0, none⟩) N N)] ((bo, blk (bys (fillF fat size dl (sts.getD 0 0) (fillF fat size wl (sts.getD 2 0) ol))) 5) :: F) .ret Q) :
    CW Tryd.prog E 514 [(29, .slice (some ⟨g29, 0, none⟩) stl c29), (34, .pointer (some ⟨b34, 0, none⟩)), (36, .func (.func 28) #[] #[.pointer (some ⟨b25, 0, none⟩), .pointer (some ⟨b35, 0, none⟩)]), (44, .slice (some ⟨b44, 0, none⟩) W W), (45, .slice (some ⟨b45, 0, none⟩) D D)] ((b45, blk (bys dl) 5) :: (b44, blk (bys wl) 5) :: (bo, blk (bys ol) 5) :: (g29, blk (nats sts ++ r29) 3) :: (b35, blk [.func (.func 27) #[] #[.pointer (some ⟨b34, 0, none⟩), .pointer (some ⟨b7, 0, none⟩)]] 73) :: (b34, blk [.slice (some ⟨bo, 0, none⟩) N N] 23) :: (bf, blk (u32s fat) 67) :: (b25, blk [.slice (some ⟨bf, 0, none⟩) fat.length fat.length] 22) :: (b7, blk [nv size] 3) :: F) (dig [1, 1, 1, 1, 1, 1, 1, 1, 1, 1, 1, 1, 1, 1, 1, 1, 1, 1, 1, 1, 1, 1, 1, 1, 1, 1, 1, 1, 1, 1, 1, 1, 1, 1, 1, 1, 1, 1, 1, 1, 1, 1, 1, 1, 1, 1, 1, 1] (bodyOf Tryd.f15)) Q := by
  have hNb : N ≤ 1000000000 := by
    have h1 : size * (1 + T) ≤ 4096 * 100001 := Nat.mul_le_mul hsz.2 (by omega)
    omega
  have hl1 : (fillF fat size wl (sts.getD 2 0) ol).length = N := by
    rw [length_fillF (by omega) (fun j hj => by have h1 := hcW j (by omega); have h2 := sector_le2 (size := size) h1; omega)]; exact hol
  rw [show (b44, blk (bys wl) 5) = (b44, blk (bys wl ++ []) 5) by rw [List.append_nil], show (b45, blk (bys dl) 5) = (b45, blk (bys dl ++ []) 5) by rw [List.append_nil]]
  have hf1 := fill_ct b25 bf b35 b34 b7 bo b44 fat.length N W size (sts.getD 2 0) N fat wl ol [] (by omega) hol.symm (by omega) (by omega) (by omega) (by omega) (le_getD hsb (by omega)) hfb (fun j hj => by
    have h1 := hcW j (by omega)
    have h2 := sector_le2 (size := size) h1
    omega)
  rw [hwl] at hf1
  have hf2 := fill_ct b25 bf b35 b34 b7 bo b45 fat.length N D size (sts.getD 0 0) N fat dl (fillF fat size wl (sts.getD 2 0) ol) [] (by omega) hl1.symm (by omega) (by omega) (by omega) (by omega) (le_getD hsb (by omega)) hfb (fun j hj => by
    have h1 := hcD j (by omega)
    have h2 := sector_le2 (size := size) h1
    omega)
  rw [hdl] at hf2
  refine CW_seq ?_
  refine CW_region ?_
  refine RW_y rfl rfl rfl (Yl.h (Yl_move rfl)) ?_
  refine RW_y rfl rfl rfl (Yl.h (Yl_move rfl)) ?_
  refine RW_y rfl rfl rfl (Yl.h (Yl_index rfl rfl sl_29 (by omega) (by omega))) ?_
  refine RW_y rfl rfl rfl (Yh_load (v := nv (sts.getD 2 0)) rfl sc_3 (by repeat (first | exact List.Mem.head _ | apply List.Mem.tail)) (at_nats (by omega) (by omega))) ?_
  refine RW_y rfl rfl rfl (Yl.h (Yl_move rfl)) ?_
  refine RW_fx rfl rfl rfl (Fx_callV ok_28 (fs := []) (vs := [nv (sts.getD 2 0), .slice (some ⟨b44, 0, none⟩) W W]) (cs := [.pointer (some ⟨b25, 0, none⟩), .pointer (some ⟨b35, 0, none⟩)]) rfl rfl (by repeat (first | exact Pick.nil _ | apply Pick.cons | exact Rem.here _ _ | apply Rem.there)) hf1) ?_
  rintro _ _ ⟨_, ⟨rfl, rfl⟩, rfl⟩
  refine (RW_nil (QW_then (CW_live (ks := [29, 34, 36, 45]) (.cons rfl (.cons rfl (.cons rfl (.cons rfl .nil)))) ?_)))
  refine CW_seq ?_
  refine CW_region ?_
  refine RW_y rfl rfl rfl (Yl.h (Yl_move rfl)) ?_
  refine RW_y rfl rfl rfl (Yl.h (Yl_move rfl)) ?_
  refine RW_y rfl rfl rfl (Yl.h (Yl_index rfl rfl sl_29 (by omega) (by omega))) ?_
  refine RW_y rfl rfl rfl (Yh_load (v := nv (sts.getD 0 0)) rfl sc_3 (by repeat (first | exact List.Mem.head _ | apply List.Mem.tail)) (at_nats (by omega) (by omega))) ?_
  refine RW_y rfl rfl rfl (Yl.h (Yl_move rfl)) ?_
  refine RW_fx rfl rfl rfl (Fx_callV ok_28 (fs := []) (vs := [nv (sts.getD 0 0), .slice (some ⟨b45, 0, none⟩) D D]) (cs := [.pointer (some ⟨b25, 0, none⟩), .pointer (some ⟨b35, 0, none⟩)]) rfl rfl (by repeat (first | exact Pick.nil _ | apply Pick.cons | exact Rem.here _ _ | apply Rem.there)) hf2) ?_
  rintro _ _ ⟨_, ⟨rfl, rfl⟩, rfl⟩
  refine (RW_nil (QW_then (CW_live (ks := [34]) (.cons rfl .nil) ?_)))
  refine CW_seq ?_
  refine CW_region ?_
  refine RW_y rfl rfl rfl (Yh_load (v := .slice (some ⟨bo, 0, none⟩) N N) rfl sc_23 (by repeat (first | exact List.Mem.head _ | apply List.Mem.tail)) rfl) ?_
  refine RW_y rfl rfl rfl (Yl.h (Yl_assign rfl)) ?_
  refine (RW_nil (QW_then (CW_live (ks := [6]) (.cons rfl .nil) ?_)))
  refine CW_ret ?_
  refine QW_dropB (e := (b45, _)) (by repeat (first | exact Rem.here _ _ | apply Rem.there)) ?_
  refine QW_dropB (e := (b44, _)) (by repeat (first | exact Rem.here _ _ | apply Rem.there)) ?_
  refine QW_dropB (e := (g29, _)) (by repeat (first | exact Rem.here _ _ | apply Rem.there)) ?_
  refine QW_dropB (e := (b35, _)) (by repeat (first | exact Rem.here _ _ | apply Rem.there)) ?_
  refine QW_dropB (e := (b34, _)) (by repeat (first | exact Rem.here _ _ | apply Rem.there)) ?_
  refine QW_dropB (e := (bf, _)) (by repeat (first | exact Rem.here _ _ | apply Rem.there)) ?_
  refine QW_dropB (e := (b25, _)) (by repeat (first | exact Rem.here _ _ | apply Rem.there)) ?_
  refine QW_dropB (e := (b7, _)) (by repeat (first | exact Rem.here _ _ | apply Rem.there)) ?_
  exact QW_live (.cons rfl .nil) hk
end Go.Proofs.YtgoddcicbpjknaaDoor

/-! Write: its parts together. -/
set_option maxRecDepth 20000
namespace Go.Proofs.YtgoddcicbpjknaaDoor
open Go
open Cfb
set_option maxHeartbeats 4000000 in
/-- What Write gives. -/
theorem write_ct (bl cl v st : Nat) (ns : List Nm) (rl : List Value) (xs : List Nd) (hxe : xs = ns.map Nm.nd) (hxs : Ok xs) (hok : ∀ x ∈ ns, x.ok) (hv : v ≤ 4) (hst : st ≤ 1000) :
    Ct Tryd.prog 15 [.slice (some ⟨bl, 0, none⟩) ns.length cl, nv v, nv st] ((bl, blk (nms ns ++ rl) 43) :: nmsH ns)
      (fun u p => ∃ g, u = .slice (some ⟨g, 0, none⟩) (NF v xs) (NF v xs) ∧ p = (g, blk (bys (writeF v st xs)) 5) :: (bl, blk (nms ns ++ rl) 43) :: nmsH ns) := by
  refine Ct_of (c := bodyOf Tryd.f15) Tryd.func15 rfl Tryd.ntmps15 rfl ?_
  intro E F
  simp only [numL, List.cons_append]
  have hlen : xs.length = ns.length := by rw [hxe]; simp
  have hsm : (ns.map fun x => smallF x.nd) = smF xs := by rw [hxe]; simp [smF, Function.comp_def]
  have hlg : (ns.map fun x => largeF (sizeF v) x.nd) = lgF v xs := by rw [hxe]; simp [lgF, Function.comp_def]
  have hsz : 512 ≤ sizeF v ∧ sizeF v ≤ 4096 := by rcases sizeF_or v with e | e <;> omega
  have hper : 4 * perF v = sizeF v := by unfold perF; rcases sizeF_or v with e | e <;> omega
  have hn1 := hxs.len
  have hmi := miF_le hxs
  have hcsl := cs_sum_le (v := v) hxs
  have hft := ftF_ok (v := v) hxs
  have hmf := mfF_le (v := v) hxs
  have hds := dsF_le (v := v) hxs
  have hNF := NF_le (v := v) hxs
  have hchl := length_ch (v := v) (st := st) hxs
  have hmchl := length_mch (v := v) (st := st) hxs
  have hchm := ch_mem (v := v) (st := st) hxs
  have hmchm := mch_mem (v := v) (st := st) hxs
  have hsb : ∀ y ∈ (chF v st xs).outs, y ≤ 4294967295 := fun y hy => by have := hchm.2 y hy; omega
  have hmsb : ∀ y ∈ (mchF v st xs).outs, y ≤ 4294967295 := fun y hy => by have := hmchm.2 y hy; omega
  have hcse : countsF ns.length (smF xs).sum (sizeF v) (lgF v xs) = csF v xs := by rw [← hlen]; rfl
  have hdse : partsF ns.length (sizeF v / 128) = dsF v xs := by rw [← hlen]; rfl
  refine write_A (by intro _ _ _ _ _ h; exact h) v st bl cl ns rl (by omega) hok hv ?_
  intro b7 g8 g9 c8 c9 r8 r9 hl8 hl9
  rw [hsm] at hl8 ⊢
  rw [hlg] at hl9 ⊢
  refine write_B (by intro _ _ _ _ _ h; exact h) v st bl cl ns.length g8 g9 c8 c9 b7 (sizeF v) (smF xs) (lgF v xs) r8 r9 (by omega) (by rw [← hlen]; simp [smF]) (by rw [← hlen]; simp [lgF]) hsz (show miF xs ≤ 100000 by omega) (by rw [hcse]; omega) ?_
  intro g19 c19 r19 hl19
  rw [hcse] at hl19 ⊢
  rw [hdse]
  refine CW_heap (Prm.perm (T := (g8, blk (nats (smF xs) ++ r8) 3) :: (g19, blk (nats (csF v xs) ++ r19) 3) :: (b7, blk [nv (sizeF v)] 3) :: (bl, blk (nms ns ++ rl) 43) :: (nmsH ns ++ F)) (by repeat (first | exact Prm.nil _ | exact Rem.here _ _ | apply Rem.there | apply Prm.cons))) ?_
  refine write_C (F := (b7, blk [nv (sizeF v)] 3) :: (bl, blk (nms ns ++ rl) 43) :: (nmsH ns ++ F)) (by intro _ _ _ _ _ h; exact h) st b7 g8 c8 g19 c19 (perF v) (ftF v xs) (mfF v xs) ns.length (ns.length + 3) (smF xs) (csF v xs) r8 r19 (by rw [← hlen]; simp [smF]) (by rw [length_csF, hlen]) rfl hst (by omega) hft.1 (by rw [length_csF]; omega) (by rw [length_csF]; omega) (by simp [smF]; omega) (show miF xs ≤ 100000 by omega) (by omega) hft.2.2.1 hmf.2.1 (by omega) ?_
  intro g24 c24 r24 b25 bf g29 c29 r29 b30 g33 c33 r33 hl24 hl29 hl33
  refine CW_heap (Prm.perm (T := (g19, blk (nats (csF v xs) ++ r19) 3) :: (g29, blk (nats (chF v st xs).outs ++ r29) 3) :: (b7, blk [nv (sizeF v)] 3) :: (g33, blk (nats (mchF v st xs).outs ++ r33) 3) :: (b30, blk (u32s (mchF v st xs).table) 67) :: (bf, blk (u32s (chF v st xs).table) 67) :: (b25, blk [.slice (some ⟨bf, 0, none⟩) (ftF v xs * perF v) (ftF v xs * perF v)] 22) :: (g24, blk (nats (plF v st xs) ++ r24) 3) :: (bl, blk (nms ns ++ rl) 43) :: (nmsH ns ++ F)) (by repeat (first | exact Prm.nil _ | exact Rem.here _ _ | apply Rem.there | apply Prm.cons))) ?_
  refine write_D (by intro _ _ _ _ _ h; exact h) v b7 g19 (ns.length + 3) c19 g29 (ns.length + 3) c29 (sizeF v) (dsF v xs) (csF v xs).sum (ftF v xs) (NF v xs) (csF v xs) (chF v st xs).outs r19 r29 (sizeF_or v) (by rw [length_csF, hlen]) (by rw [length_csF]; omega) (by omega) (by omega) (by rw [cs_1]; omega) (le_getD hsb (by omega)) (le_getD hsb (by omega)) (by omega) (by omega) hv (by omega) (by unfold NF TF; rw [Nat.add_assoc]) hNF.1 (by omega) ?_
  intro bo b34 b35
  refine CW_heap (Prm.perm (T := (bo, blk (bys (out0F v st xs)) 5) :: (b35, blk [.func (.func 27) #[] #[.pointer (some ⟨b34, 0, none⟩), .pointer (some ⟨b7, 0, none⟩)]] 73) :: (b34, blk [.slice (some ⟨bo, 0, none⟩) (NF v xs) (NF v xs)] 23) :: (bf, blk (u32s (chF v st xs).table) 67) :: (b25, blk [.slice (some ⟨bf, 0, none⟩) (ftF v xs * perF v) (ftF v xs * perF v)] 22) :: (g24, blk (nats (plF v st xs) ++ r24) 3) :: (b7, blk [nv (sizeF v)] 3) :: (g29, blk (nats (chF v st xs).outs ++ r29) 3) :: (g33, blk (nats (mchF v st xs).outs ++ r33) 3) :: (b30, blk (u32s (mchF v st xs).table) 67) :: (bl, blk (nms ns ++ rl) 43) :: (nmsH ns ++ F)) (by repeat (first | exact Prm.nil _ | exact Rem.here _ _ | apply Rem.there | apply Prm.cons))) ?_
  rw [← hchl.1, show (csF v xs).sum + ftF v xs = (plF v st xs).length from (length_plF hxs).symm]
  refine write_E (by intro _ _ _ _ _ h; exact h) b7 g24 c24 bf b25 b34 b35 bo (sizeF v) (perF v) (ftF v xs) (NF v xs) (TF v xs) (plF v st xs) (chF v st xs).table r24 (out0F v st xs) hsz hper (pl_lt hxs) hl24 (by rw [length_plF hxs]; unfold TF; omega) (by omega) (by rw [hchl.1]; omega) hchm.1 (by omega) rfl hNF.1 (length_out0F hxs) ?_
  refine CW_heap (Prm.perm (T := (bo, blk (bys (out1F v st xs)) 5) :: (b35, blk [.func (.func 27) #[] #[.pointer (some ⟨b34, 0, none⟩), .pointer (some ⟨b7, 0, none⟩)]] 73) :: (b34, blk [.slice (some ⟨bo, 0, none⟩) (NF v xs) (NF v xs)] 23) :: (bf, blk (u32s (chF v st xs).table) 67) :: (b25, blk [.slice (some ⟨bf, 0, none⟩) (chF v st xs).table.length (chF v st xs).table.length] 22) :: (b30, blk (u32s (mchF v st xs).table) 67) :: (g29, blk (nats (chF v st xs).outs ++ r29) 3) :: (b7, blk [nv (sizeF v)] 3) :: (g24, blk (nats (plF v st xs) ++ r24) 3) :: (g33, blk (nats (mchF v st xs).outs ++ r33) 3) :: (bl, blk (nms ns ++ rl) 43) :: (nmsH ns ++ F)) (by repeat (first | exact Prm.nil _ | exact Rem.here _ _ | apply Rem.there | apply Prm.cons))) ?_
  rw [← hmchl.1]
  refine write_F (by intro _ _ _ _ _ h; exact h) b7 g29 (ns.length + 3) c29 b30 bf b25 b34 b35 bo (sizeF v) (NF v xs) (TF v xs) (chF v st xs).outs (mchF v st xs).table (chF v st xs).table r29 (out1F v st xs) hsz (by omega) (by omega) (le_getD hsb (by omega)) (by omega) hmchm.1 hchm.1 (by omega) (by rw [hchl.1]; omega) rfl (length_out1F hxs) (fun k hk => fill1_ok hxs (by rw [length_tabF]; exact hk)) ?_
  refine CW_heap (Prm.perm (T := (b7, blk [nv (sizeF v)] 3) :: (bo, blk (bys (out2F v st xs)) 5) :: (b35, blk [.func (.func 27) #[] #[.pointer (some ⟨b34, 0, none⟩), .pointer (some ⟨b7, 0, none⟩)]] 73) :: (b34, blk [.slice (some ⟨bo, 0, none⟩) (NF v xs) (NF v xs)] 23) :: (bf, blk (u32s (chF v st xs).table) 67) :: (b25, blk [.slice (some ⟨bf, 0, none⟩) (chF v st xs).table.length (chF v st xs).table.length] 22) :: (b30, blk (u32s (mchF v st xs).table) 67) :: (g29, blk (nats (chF v st xs).outs ++ r29) 3) :: (g24, blk (nats (plF v st xs) ++ r24) 3) :: (g33, blk (nats (mchF v st xs).outs ++ r33) 3) :: (bl, blk (nms ns ++ rl) 43) :: (nmsH ns ++ F)) (by repeat (first | exact Prm.nil _ | exact Rem.here _ _ | apply Rem.there | apply Prm.cons))) ?_
  refine write_G (by intro _ _ _ _ _ h; exact h) b7 (sizeF v) (miF xs) (dsF v xs) hsz (by omega) (by omega) ?_
  intro b44 b45
  refine CW_heap (Prm.perm (T := (b45, blk (bys (dirTo (dsF v xs * sizeF v / 128) (List.replicate (dsF v xs * sizeF v) 0))) 5) :: (b44, blk (bys (List.replicate (64 * miF xs) 0)) 5) :: (bo, blk (bys (out2F v st xs)) 5) :: (g29, blk (nats (chF v st xs).outs ++ r29) 3) :: (g33, blk (nats (mchF v st xs).outs ++ r33) 3) :: (b35, blk [.func (.func 27) #[] #[.pointer (some ⟨b34, 0, none⟩), .pointer (some ⟨b7, 0, none⟩)]] 73) :: (b34, blk [.slice (some ⟨bo, 0, none⟩) (NF v xs) (NF v xs)] 23) :: (bf, blk (u32s (chF v st xs).table) 67) :: (b25, blk [.slice (some ⟨bf, 0, none⟩) (chF v st xs).table.length (chF v st xs).table.length] 22) :: (b7, blk [nv (sizeF v)] 3) :: (b30, blk (u32s (mchF v st xs).table) 67) :: (bl, blk (nms ns ++ rl) 43) :: ((g24, blk (nats (plF v st xs) ++ r24) 3) :: (nmsH ns ++ F))) (by repeat (first | exact Prm.nil _ | exact Rem.here _ _ | apply Rem.there | apply Prm.cons))) ?_
  refine CW_heap (perm_in2 [(b45, _), (b44, _), (bo, _), (g29, _), (g33, _), (b35, _), (b34, _), (bf, _), (b25, _), (b7, _), (b30, _), (bl, _)] (g24, blk (nats (plF v st xs) ++ r24) 3) (nmsH ns) F) ?_
  have hxk : ∀ k, k < ns.length → xs.getD k default = (ns.getD k default).nd := fun k hk => by rw [hxe]; exact nd_at ns k hk
  refine write_L (F := (g24, blk (nats (plF v st xs) ++ r24) 3) :: F) (by intro _ _ _ _ _ h; exact h) b7 g29 (ns.length + 3) c29 b30 bf b25 b34 b35 bo g33 ns.length c33 b44 b45 bl cl (sizeF v) (NF v xs) (TF v xs) (miF xs) (64 * miF xs) (dsF v xs * sizeF v) ns rl (chF v st xs).outs (mchF v st xs).outs (mchF v st xs).table (chF v st xs).table r29 r33 (dirTo (dsF v xs * sizeF v / 128) (List.replicate (dsF v xs * sizeF v) 0)) (List.replicate (64 * miF xs) 0) (out2F v st xs)
    hok (by omega) hsz (by omega) (by omega) (by omega) (by omega) hsb hmsb (by omega) hmchm.1 hchm.1 (by omega) (by rw [hchl.1]; omega) rfl (length_out2F hxs) rfl (by omega) (by simp) (by rw [hmchl.1]; omega) (by rw [length_dirTo _ _ (by simp; omega)]; simp) (by omega) (by omega)
    (fun k hk _ hs hl j hj => by rw [← hxk k hk] at hs hl hj; exact node1_ok hxs (by omega) hs hl hj) (fun k hk _ hs hl j hj => by rw [← hxk k hk] at hs hl hj; exact node2_ok hxs (by omega) hs hl hj) ?_
  rw [← hxe, ← hlen]
  have hnm : ∀ x ∈ xs, x.name.length ≤ 31 := by
    intro x hx
    rw [hxe] at hx
    obtain ⟨y, hy, rfl⟩ := List.mem_map.1 hx
    exact (hok y hy).name
  obtain ⟨hq1, hq2, hq3⟩ := nodesTo_len (v := v) (st := st) hxs hnm xs.length (Nat.le_refl _) (ndsF v st xs) rfl
  refine CW_heap (Prm.perm (T := (b45, blk (bys (ndsF v st xs).1) 5) :: (b44, blk (bys (ndsF v st xs).2.1) 5) :: (bo, blk (bys (ndsF v st xs).2.2) 5) :: (g29, blk (nats (chF v st xs).outs ++ r29) 3) :: (b35, blk [.func (.func 27) #[] #[.pointer (some ⟨b34, 0, none⟩), .pointer (some ⟨b7, 0, none⟩)]] 73) :: (b34, blk [.slice (some ⟨bo, 0, none⟩) (NF v xs) (NF v xs)] 23) :: (bf, blk (u32s (chF v st xs).table) 67) :: (b25, blk [.slice (some ⟨bf, 0, none⟩) (chF v st xs).table.length (chF v st xs).table.length] 22) :: (b7, blk [nv (sizeF v)] 3) :: (g33, blk (nats (mchF v st xs).outs ++ r33) 3) :: (b30, blk (u32s (mchF v st xs).table) 67) :: (bl, blk (nms ns ++ rl) 43) :: (nmsH ns ++ ((g24, blk (nats (plF v st xs) ++ r24) 3) :: F))) (by repeat (first | exact Prm.nil _ | exact Rem.here _ _ | apply Rem.there | apply Prm.cons))) ?_
  refine write_M (by intro _ _ _ _ _ h; exact h) b7 g29 (xs.length + 3) c29 bf b25 b34 b35 bo b44 b45 (sizeF v) (NF v xs) (TF v xs) (64 * miF xs) (dsF v xs * sizeF v) (chF v st xs).outs (chF v st xs).table r29 (ndsF v st xs).1 (ndsF v st xs).2.1 (ndsF v st xs).2.2 hsz (by omega) (by omega) hsb hchm.1 (by omega) (by rw [hchl.1]; omega) rfl hq3 hq2 hq1 (by omega) (by omega)
    (fun j hj => ch_walk_lt hxs (by omega) (by rw [cs_2, lt_partsF (by omega)]; omega)) (fun j hj => ch_walk_lt hxs (by omega) (by rw [cs_0]; exact Nat.lt_of_mul_lt_mul_right hj)) ?_
  refine QW_dropB (e := (g33, _)) (by repeat (first | exact Rem.here _ _ | apply Rem.there)) ?_
  refine QW_dropB (e := (b30, _)) (by repeat (first | exact Rem.here _ _ | apply Rem.there)) ?_
  refine QW_heap (perm_in2 [(bo, _), (bl, _)] (g24, blk (nats (plF v st xs) ++ r24) 3) (nmsH ns) F).symm ?_
  refine QW_dropB (e := (g24, _)) (by repeat (first | exact Rem.here _ _ | apply Rem.there)) ?_
  exact QW_ret1 rfl rfl ((bo, blk (bys (writeF v st xs)) 5) :: (bl, blk (nms ns ++ rl) 43) :: nmsH ns) ⟨bo, rfl, rfl⟩ (Prm.nil _)
end Go.Proofs.YtgoddcicbpjknaaDoor

/-! Values: nodes that are made and turned; signs as texts. -/
set_option maxRecDepth 20000
namespace Go.Proofs.YtgoddcicbpjknaaDoor
open Go
open Cfb
section
variable {P : Program} {L : Fra} {dst : Option Tmp} {ty : TypeId} {pos : String} {aft : Array Edge} {gd : Option (Nat × Bool)}
theorem Yl_rune {x : Operand} {n : Nat} {t u : TypeId} (hx : ev L x = some (.int .i32 (n : Int))) (ht : inOf P t = some .i32) (hu : isStr P u = true) (hn : n < 128) :
    Yl P L ⟨dst, .convert t u x, ty, pos, aft, gd⟩ (.string (bar [UInt8.ofNat n])) := by
  intro _ a w hf
  have h1 := inOf_u ht
  have h2 := isStr_u hu
  have h3 := encode_small n hn
  simp only [Int.ofNat_eq_natCast] at h3
  simp [execOp, hf.eval hx, convert, underlying, h1, h2, Conv.intToString, h3]
  rfl
theorem Yl_concatB {x y : Operand} {a b : List UInt8} {t u : TypeId} (hx : ev L x = some (.string (bar a))) (hy : ev L y = some (.string (bar b))) (hs : a.length + b.length ≤ 1000000) :
    Yl P L ⟨dst, .binOp .add t x y u, ty, pos, aft, gd⟩ (.string (bar (a ++ b))) := by
  have h := Yl_concat (P := P) (dst := dst) (ty := ty) (pos := pos) (aft := aft) (gd := gd) (t := t) (u := u) hx hy (by simp [bar, ByteArray.size]; omega)
  have e : bar a ++ bar b = bar (a ++ b) := by
    apply ByteArray.ext
    simp [bar]
  rw [e] at h; exact h
end
/-- The signs' table, what is asked of it. -/
structure PsOk (ps : List Value) : Prop where
  cap : ∀ c, 65 ≤ c → c ≤ 90 → ps[c]? = some (.int .u8 160)
  ctl : ∀ c, 1 ≤ c → c ≤ 31 → ps[c]? = some (.int .u8 1)
theorem and_160 : ∀ w, (Op.intBits .and .u8 160 128).run Tryd.prog w = .ok (.int .u8 128) w := by
  intro w
  simp [Op.intBits]
  rfl
theorem and_1 : ∀ w, (Op.intBits .and .u8 1 128).run Tryd.prog w = .ok (.int .u8 0) w := by
  intro w
  simp [Op.intBits]
  rfl
theorem nmOk_cap {ps : List Value} (hp : PsOk ps) {x : Nd} (h1 : 1 ≤ x.name.length) (h2 : x.name.length ≤ 31) (h3 : ∀ c ∈ x.name, c.toNat < 128) (h4 : 65 ≤ (x.name.getD 0 0).toNat ∧ (x.name.getD 0 0).toNat ≤ 90) : NmOk ps x x.name :=
  ⟨h1, h2, h3, 160, 128, hp.cap _ h4.1 h4.2, and_160, by simp⟩
theorem nmOk_ctl {ps : List Value} (hp : PsOk ps) {x : Nd} (h1 : 1 ≤ x.name.length) (h2 : x.name.length ≤ 31) (h3 : ∀ c ∈ x.name, c.toNat < 128) (h4 : 1 ≤ (x.name.getD 0 0).toNat ∧ (x.name.getD 0 0).toNat ≤ 31) : NmOk ps x (x.name.drop 1) :=
  ⟨h1, h2, h3, 1, 0, hp.ctl _ h4.1 h4.2, and_1, by simp⟩
/-- A node's cell is turned. -/
theorem nms_set (ns : List Nm) (k j : Nat) (v : Value) (x : Nm) (r : List Value) (hk : k < ns.length) (hj : j < 28) (hx : x.cells = (ns.getD k default).cells.set j v) : (nms ns ++ r).set (k * 28 + j) v = nms (ns.set k x) ++ r := by
  induction ns generalizing k with
  | nil => simp at hk
  | cons y t ih =>
    cases k with
    | zero =>
      have hy : (List.getD (y :: t) 0 default) = y := rfl
      rw [hy] at hx
      simp only [List.flatMap_cons, List.set_cons_zero, hx, Nat.zero_mul, Nat.zero_add]
      rw [List.append_assoc, List.set_append_left _ _ (by rw [Nm.length_cells]; exact hj), List.append_assoc]
    | succ k =>
      have hy : (List.getD (y :: t) (k + 1) default) = t.getD k default := by simp [List.getD_eq_getElem?_getD]
      rw [hy] at hx
      have hi := ih k (by simpa using hk) hx
      simp only [List.flatMap_cons, List.set_cons_succ]
      rw [List.append_assoc, List.set_append_right _ _ (by rw [Nm.length_cells, Nat.add_mul]; omega), Nm.length_cells, show (k + 1) * 28 + j - 28 = k * 28 + j by rw [Nat.add_mul]; omega, hi, List.append_assoc]
/-- A node of no bytes. -/
def plainNd (name : List UInt8) (l r c : Int) : Nd := ⟨name, false, [], l, r, c, List.replicate 16 0, List.replicate 4 0, 0, 0, by simp, by simp⟩
def plainNm (name : List UInt8) (l r c : Int) : Nm := ⟨plainNd name l r c, none, 0, []⟩
theorem plainNm_ok {name : List UInt8} {l r c : Int} (hn : name.length ≤ 31) (hl : -1 ≤ l ∧ l ≤ 100000) (hr : -1 ≤ r ∧ r ≤ 100000) (hc : -1 ≤ c ∧ c ≤ 100000) : (plainNm name l r c).ok :=
  ⟨fun _ => rfl, by simp [plainNm, plainNd], by simp [plainNm, plainNd], hn, hl, hr, hc, by simp [plainNm, plainNd], by simp [plainNm, plainNd]⟩
/-- The version 4 has sectors of 4096 bytes, and so on. -/
def verF (four : Bool) : Nat := if four = true then 4 else 3
theorem verF_or (four : Bool) : verF four = 3 ∨ verF four = 4 := by cases four <;> simp [verF]
theorem Entries_good {ps : List Value} {T : TypeId} {four : Bool} {st : Nat} {xs : List Nd} {nmF : Nat → List UInt8} (hx : Ok xs) (hnm : ∀ k, k < xs.length → NmOk ps (xs.getD k default) (nmF k)) (hlk : ∀ x ∈ xs, x.left ≤ 4294967295 ∧ x.right ≤ 4294967295 ∧ x.child ≤ 4294967295) (hN : NF (verF four) xs ≤ 131072) (gI : Nat) (hg : 2 ≠ gI)
    (hb : (STv (tnsF (verF four) xs nmF)).bad = false) :
    Ct Tryd.prog 18 [.slice (some ⟨gI, 0, none⟩) (NF (verF four) xs) (NF (verF four) xs)] [(gI, blk (bys (writeF (verF four) st xs)) 5), (2, blk ps T)] (fun v q => ∃ (fs : List Fil) (pth : Nat → List (List UInt8)) (out : List Nat) (g : Option Nat) (cap : Nat) (r : List Value) (rows : List (List Value)) (pp : Heap), pth = (STv (tnsF (verF four) xs nmF)).pth ∧ out = (STv (tnsF (verF four) xs nmF)).out ∧ fs.map (fun f => f.en.noPath) = (esF (verF four) st xs nmF).map En.noPath ∧ RowsOk fs pth pp out rows ∧ oOk g rows.flatten r out.length cap 27 ∧ v = .tuple #[osl g out.length cap, nv 0] ∧ q = (gI, blk (bys (writeF (verF four) st xs)) 5) :: (2, blk ps T) :: (oH g (rows.flatten ++ r) 41 ++ pp)) := by
  have hf := fileIn (v := verF four) (st := st) ps hx (verF_or four) hnm hlk
  have hd := dsF_le (v := verF four) hx
  have hs := size_ge (verF four)
  have hz : sizeF (verF four) / 128 * 128 = sizeF (verF four) := by rcases sizeF_or (verF four) with e | e <;> rw [e]
  have hcn : (tnsF (verF four) xs nmF).length ≤ 100000 := by
    have : dsF (verF four) xs * (sizeF (verF four) / 128) ≤ 5 * 32 := Nat.mul_le_mul hd.2.1 (by omega)
    simp [tnsF, cntF]; omega
  have h := Entries_ok gI (NF (verF four) xs) [] _ _ _ _ _ _ _ _ _ _ _ ps T _ _ _ _ hf hN hg hb ?_ (pth_small _ hcn) (out_small _ hcn)
  · rw [List.append_nil] at h; exact h
  · intro e he
    obtain ⟨k, hk, rfl⟩ := List.mem_map.1 he
    have hk' := List.mem_range.1 hk
    have hpos : 0 < sizeF (verF four) / 128 := by omega
    have hj : k / (sizeF (verF four) / 128) < dsF (verF four) xs := (Nat.div_lt_iff_lt_mul hpos).2 hk'
    have hi : k % (sizeF (verF four) / 128) < sizeF (verF four) / 128 := Nat.mod_lt _ hpos
    have hkk : k / (sizeF (verF four) / 128) * (sizeF (verF four) / 128) + k % (sizeF (verF four) / 128) = k := by rw [Nat.mul_comm]; exact Nat.div_add_mod _ _
    have h1 := enF_ok (st := st) ps hx hnm hj hi
    rw [hkk] at h1
    refine h1.dcOk ?_ ?_
    · have hl := (nTo_len (v := verF four) (st := st) hx (nds_at ps hx hnm) (Nat.le_refl _)).1
      rw [nTo_all] at hl
      have hle : k / (sizeF (verF four) / 128) * sizeF (verF four) + sizeF (verF four) ≤ dsF (verF four) xs * sizeF (verF four) := by rw [← Nat.succ_mul]; exact Nat.mul_le_mul_right _ hj
      unfold dsecF
      simp [hl]; omega
    · unfold enF
      split
      · have := ((xs.getD k default).name.getD 0 0).toNat_lt
        simp only; omega
      · simp
theorem Entries_wrong {ps : List Value} {T : TypeId} {four : Bool} {st : Nat} {xs : List Nd} {nmF : Nat → List UInt8} (hx : Ok xs) (hnm : ∀ k, k < xs.length → NmOk ps (xs.getD k default) (nmF k)) (hlk : ∀ x ∈ xs, x.left ≤ 4294967295 ∧ x.right ≤ 4294967295 ∧ x.child ≤ 4294967295) (hN : NF (verF four) xs ≤ 131072) (gI : Nat) (hg : 2 ≠ gI)
    (hb : (STv (tnsF (verF four) xs nmF)).bad = true) :
    Ct Tryd.prog 18 [.slice (some ⟨gI, 0, none⟩) (NF (verF four) xs) (NF (verF four) xs)] [(gI, blk (bys (writeF (verF four) st xs)) 5), (2, blk ps T)] (fun v q => v = .tuple #[.slice none 0 0, nv 5] ∧ q = [(gI, blk (bys (writeF (verF four) st xs)) 5), (2, blk ps T)]) := by
  have hf := fileIn (v := verF four) (st := st) ps hx (verF_or four) hnm hlk
  have h := Entries_bad gI (NF (verF four) xs) [] _ _ _ _ _ _ _ _ _ _ _ ps T _ _ _ _ hf hN hg hb
  rw [List.append_nil] at h; exact h
end Go.Proofs.YtgoddcicbpjknaaDoor

/-! The nodes of FnLoop, and what is known of their files. -/
set_option maxRecDepth 20000
namespace Go.Proofs.YtgoddcicbpjknaaDoor
open Go
open Cfb
theorem Ct.ne {P : Program} {f : FuncId} {args : List Value} {a b : Nat} {x y : Obj} {r : Heap} {R : Value → Heap → Prop} (h : b ≠ a → Ct P f args ((a, x) :: (b, y) :: r) R) : Ct P f args ((a, x) :: (b, y) :: r) R := by
  intro E F w hh
  refine h ?_ E F w hh
  have := hh.nodup
  simp only [List.cons_append, List.map_cons, List.nodup_cons, List.mem_cons] at this
  intro e
  exact this.1 (.inl e.symm)
theorem Ct.less {P : Program} {f : FuncId} {args : List Value} {pre : Heap} {R R' : Value → Heap → Prop} (h : Ct P f args pre R) (hr : ∀ v post, R v post → ∃ post', R' v post' ∧ post'.Sublist post) : Ct P f args pre R' := by
  intro E F w hh
  refine (h E F w hh).mono ?_
  rintro e w' ⟨v, post, he, hR, ha⟩
  obtain ⟨post', h1, h2⟩ := hr v post hR
  exact ⟨v, post', he, h1, ha.sub (h2.append_right F)⟩
theorem RW_sub {P : Program} {E : World} {n : Nat} {ops : Array Oper} {L : Fra} {H H' : Heap} {rest : List Oper} {Q : Exit → Act → World → Prop} (hs : H'.Sublist H) (h : RW P E n ops L H' rest Q) : RW P E n ops L H rest Q := fun a w hf hh => h a w hf (hh.sub hs)
theorem Entries_code0 {ps : List Value} {T : TypeId} {four : Bool} {st : Nat} {xs : List Nd} {nmF : Nat → List UInt8} (hx : Ok xs) (hnm : ∀ k, k < xs.length → NmOk ps (xs.getD k default) (nmF k)) (hlk : ∀ x ∈ xs, x.left ≤ 4294967295 ∧ x.right ≤ 4294967295 ∧ x.child ≤ 4294967295) (hN : NF (verF four) xs ≤ 131072) (gI : Nat)
    (hb : (STv (tnsF (verF four) xs nmF)).bad = false) :
    Ct Tryd.prog 18 [.slice (some ⟨gI, 0, none⟩) (NF (verF four) xs) (NF (verF four) xs)] [(gI, blk (bys (writeF (verF four) st xs)) 5), (2, blk ps T)] (fun v q => ∃ e, e = v ∧ (∃ u, e = .tuple #[u, nv 0]) ∧ q = [(gI, blk (bys (writeF (verF four) st xs)) 5), (2, blk ps T)]) := by
  refine Ct.ne fun hg => (Entries_good hx hnm hlk hN gI hg hb).less ?_
  rintro v post ⟨fs, pth, out, g, cap, r, rows, pp, _, _, _, _, _, rfl, rfl⟩
  exact ⟨_, ⟨_, rfl, ⟨_, rfl⟩, rfl⟩, .cons_cons _ (.cons_cons _ (List.nil_sublist _))⟩
theorem Entries_code5 {ps : List Value} {T : TypeId} {four : Bool} {st : Nat} {xs : List Nd} {nmF : Nat → List UInt8} (hx : Ok xs) (hnm : ∀ k, k < xs.length → NmOk ps (xs.getD k default) (nmF k)) (hlk : ∀ x ∈ xs, x.left ≤ 4294967295 ∧ x.right ≤ 4294967295 ∧ x.child ≤ 4294967295) (hN : NF (verF four) xs ≤ 131072) (gI : Nat)
    (hb : (STv (tnsF (verF four) xs nmF)).bad = true) :
    Ct Tryd.prog 18 [.slice (some ⟨gI, 0, none⟩) (NF (verF four) xs) (NF (verF four) xs)] [(gI, blk (bys (writeF (verF four) st xs)) 5), (2, blk ps T)] (fun v q => v = .tuple #[.slice none 0 0, nv 5] ∧ q = [(gI, blk (bys (writeF (verF four) st xs)) 5), (2, blk ps T)]) :=
  Ct.ne fun hg => Entries_wrong hx hnm hlk hN gI hg hb
theorem NF_few {v : Nat} {xs : List Nd} (h : Ok xs) : NF v xs ≤ 4096 * (2 + 2 * (csF v xs).sum) := by
  have hf : ftF v xs ≤ (csF v xs).sum + 1 := (fatsF_ok (sum := (csF v xs).sum) (per := perF v) (by have := per4 v; have := size_ge v; omega)).2.2
  have hs := size_ge v
  unfold NF TF
  exact Nat.mul_le_mul hs.2 (by omega)
theorem cnt_le {v : Nat} {xs : List Nd} (h : Ok xs) : xs.length ≤ cntF v xs ∧ cntF v xs ≤ 32 := by
  have hl := h.len
  have hd := dsF_le (v := v) h
  unfold cntF dsF partsF
  rcases sizeF_or v with e | e <;> rw [e] <;> omega
theorem no_streams {v : Nat} {xs : List Nd} (h : Ok xs) (hs : ∀ x ∈ xs, x.stream = false) : (csF v xs).sum ≤ 5 := by
  have h1 : ∀ x ∈ smF xs, x ≤ 0 := by
    intro y hy; obtain ⟨x, hx, rfl⟩ := List.mem_map.1 hy; unfold smallF; rw [if_neg (by rw [hs x hx]; simp)]; omega
  have h2 : ∀ x ∈ lgF v xs, x ≤ 0 := by
    intro y hy; obtain ⟨x, hx, rfl⟩ := List.mem_map.1 hy; unfold largeF; rw [if_neg (by rw [hs x hx]; simp)]; omega
  have h3 := sum_le h1
  have h4 := sum_le h2
  have h5 : miF xs = 0 := by unfold miF; omega
  have hd := dsF_le (v := v) h
  have hz := size_ge v
  have hp := per4 v
  have e0 : ∀ p, 0 < p → partsF 0 p = 0 := fun p hp => by unfold partsF; rw [Nat.div_eq_of_lt (by omega)]
  rw [cs_sum h, h5]
  have : mfF v xs = 0 := by unfold mfF; rw [h5]; exact e0 _ (by omega)
  rw [this, Nat.zero_mul, e0 _ (by omega)]
  omega
/-! ### FnLoop -/
def lnName (k : Nat) : List UInt8 := [83] ++ [UInt8.ofNat (65 + k)]
def lnNm (n k : Nat) : Nm := plainNm (lnName k) (-1) (-1) (if k + 1 < n then ((k + 1 : Nat) : Int) else -1)
def lns (n i : Nat) : List Nm := (List.range i).map (lnNm n)
theorem lns_len (n i : Nat) : (lns n i).length = i := by simp [lns]
theorem lns_at {n i k : Nat} (h : k < i) : (lns n i).getD k default = lnNm n k := range_getD _ h
theorem lns_succ (n i : Nat) : lns n (i + 1) = lns n i ++ [lnNm n i] := by simp [lns, List.range_succ]
theorem nms_append (a b : List Nm) : nms (a ++ b) = nms a ++ nms b := by simp [nms]
/-- What is asked of FnLoop's nodes. -/
structure LnOk (n : Nat) (ns : List Nm) : Prop where
  len : ns.length = n
  is : ∀ k, k < n → ∃ l r c : Int, ns.getD k default = plainNm (lnName k) l r c ∧ (-1 ≤ l ∧ l ≤ 1000) ∧ (-1 ≤ r ∧ r ≤ 1000) ∧ (-1 ≤ c ∧ c ≤ 1000)
theorem LnOk.mem {n : Nat} {ns : List Nm} (h : LnOk n ns) {x : Nm} (hx : x ∈ ns) : ∃ k l r c, k < n ∧ x = plainNm (lnName k) l r c ∧ (-1 ≤ l ∧ l ≤ 1000) ∧ (-1 ≤ r ∧ r ≤ 1000) ∧ (-1 ≤ c ∧ c ≤ 1000) := by
  obtain ⟨k, hk, rfl⟩ := List.mem_iff_getElem.1 hx
  rw [h.len] at hk
  obtain ⟨l, r, c, h1, h2⟩ := h.is k hk
  refine ⟨k, l, r, c, hk, ?_, h2⟩
  rw [← h1]; simp [List.getD_eq_getElem?_getD, h.len, hk]
theorem LnOk.heap {n : Nat} {ns : List Nm} (h : LnOk n ns) : nmsH ns = [] := by
  rw [List.flatMap_eq_nil_iff]
  intro x hx
  obtain ⟨k, l, r, c, _, rfl, _⟩ := h.mem hx
  rfl
theorem LnOk.ok {n : Nat} {ns : List Nm} (h : LnOk n ns) : ∀ x ∈ ns, x.ok := by
  intro x hx
  obtain ⟨k, l, r, c, _, rfl, h1, h2, h3⟩ := h.mem hx
  exact plainNm_ok (by simp [lnName]) (by omega) (by omega) (by omega)
theorem LnOk.xs {n : Nat} {ns : List Nm} (h : LnOk n ns) (hn : 1 ≤ n ∧ n ≤ 20) : Ok (ns.map Nm.nd) := by
  refine ⟨by simp [h.len]; exact hn, ?_⟩
  intro x hx
  obtain ⟨y, hy, rfl⟩ := List.mem_map.1 hx
  exact (h.ok y hy).small
theorem LnOk.at {n : Nat} {ns : List Nm} (h : LnOk n ns) {k : Nat} (hk : k < n) : (ns.map Nm.nd).getD k default = (ns.getD k default).nd := by
  have := h.len
  simp [List.getD_eq_getElem?_getD, show k < ns.length by omega]
theorem LnOk.names {ps : List Value} (hp : PsOk ps) {n : Nat} {ns : List Nm} (h : LnOk n ns) (hn : n ≤ 20) : ∀ k, k < (ns.map Nm.nd).length → NmOk ps ((ns.map Nm.nd).getD k default) (lnName k) := by
  intro k hk
  have hk' : k < n := by simpa [h.len] using hk
  obtain ⟨l, r, c, h1, _⟩ := h.is k hk'
  rw [h.at hk', h1]
  refine nmOk_cap (x := plainNd (lnName k) l r c) hp (by simp [plainNd, lnName]) (by simp [plainNd, lnName]) ?_ (by simp [plainNd, lnName])
  intro y hy
  simp only [plainNd, lnName, List.mem_append, List.mem_singleton] at hy
  rcases hy with rfl | rfl
  · decide
  · rw [UInt8.toNat_ofNat']; omega
theorem LnOk.lnk {n : Nat} {ns : List Nm} (h : LnOk n ns) : ∀ x ∈ ns.map Nm.nd, x.left ≤ 4294967295 ∧ x.right ≤ 4294967295 ∧ x.child ≤ 4294967295 := by
  intro x hx
  obtain ⟨y, hy, rfl⟩ := List.mem_map.1 hx
  obtain ⟨k, l, r, c, _, rfl, h1, h2, h3⟩ := h.mem hy
  simp only [plainNm, plainNd]
  omega
theorem LnOk.size {n : Nat} {ns : List Nm} (h : LnOk n ns) (hn : 1 ≤ n ∧ n ≤ 20) (v : Nat) : NF v (ns.map Nm.nd) ≤ 131072 := by
  have h1 := NF_few (v := v) (h.xs hn)
  have h2 := no_streams (v := v) (h.xs hn) (by
    intro x hx
    obtain ⟨y, hy, rfl⟩ := List.mem_map.1 hx
    obtain ⟨k, l, r, c, _, rfl, _⟩ := h.mem hy
    rfl)
  have := Nat.mul_le_mul_left 4096 (show 2 + 2 * (csF v (ns.map Nm.nd)).sum ≤ 12 by omega)
  omega
/-- How a node leads on. -/
theorem LnOk.tn {n : Nat} {ns : List Nm} (h : LnOk n ns) (hn : 1 ≤ n ∧ n ≤ 20) (v : Nat) {k : Nat} (hk : k < n) : (tnsF v (ns.map Nm.nd) lnName).getD k default = ⟨lnName k, lnkF (ns.getD k default).nd.left, lnkF (ns.getD k default).nd.child, lnkF (ns.getD k default).nd.right⟩ := by
  have hc := cnt_le (v := v) (h.xs hn)
  have hl : (ns.map Nm.nd).length = n := by simp [h.len]
  rw [show (tnsF v (ns.map Nm.nd) lnName).getD k default = tnF (ns.map Nm.nd) lnName k from range_getD _ (by omega)]
  unfold tnF
  rw [if_pos (by omega), h.at hk]
theorem tns_len (v : Nat) (xs : List Nd) (nmF : Nat → List UInt8) : (tnsF v xs nmF).length = cntF v xs := by simp [tnsF]
theorem lnkF_nat (k : Nat) : lnkF (k : Int) = k := by unfold lnkF; rw [if_pos (by omega)]; simp
theorem lnkF_none : lnkF (-1) = FREE := rfl
theorem lns_ok (n : Nat) (hn : n ≤ 20) : LnOk n (lns n n) := by
  refine ⟨lns_len _ _, fun k hk => ?_⟩
  rw [lns_at hk]
  exact ⟨-1, -1, _, rfl, by omega, by omega, by split <;> omega⟩
theorem loop_good (n v : Nat) (hn : 1 ≤ n ∧ n ≤ 20) : (STv (tnsF v ((lns n n).map Nm.nd) lnName)).bad = false := by
  have h := lns_ok n hn.2
  have hc := cnt_le (v := v) (h.xs hn)
  have hl : ((lns n n).map Nm.nd).length = n := by simp [h.len]
  refine trav_chain _ n (by rw [tns_len]; omega) ?_ (by rw [tns_len]; omega) _ 0 [] S0 (by omega) rfl (by rw [tns_len]; omega) rfl
  intro i hi
  rw [h.tn hn v hi, lns_at hi]
  refine ⟨rfl, rfl, ?_⟩
  by_cases h1 : i + 1 < n
  · left
    refine ⟨h1, ?_⟩
    show lnkF (if i + 1 < n then ((i + 1 : Nat) : Int) else -1) = i + 1
    rw [if_pos h1, lnkF_nat]
  · right
    refine ⟨h1, ?_⟩
    show lnkF (if i + 1 < n then ((i + 1 : Nat) : Int) else -1) = FREE
    rw [if_neg h1]; rfl
theorem turn_ok {n k t : Nat} (hn : 1 ≤ n ∧ n ≤ 20) (hk : k < n) {l r : Int} (hl : -1 ≤ l ∧ l ≤ 1000) (hr : -1 ≤ r ∧ r ≤ 1000) : LnOk n ((lns n n).set k (plainNm (lnName k) l r (if k + 1 < n then ((k + 1 : Nat) : Int) else -1))) := by
  refine ⟨by simp [lns_len], fun j hj => ?_⟩
  by_cases e : k = j
  · subst e
    rw [List.getD_eq_getElem?_getD, List.getElem?_set_self (by rw [lns_len]; exact hk)]
    exact ⟨l, r, _, rfl, hl, hr, by split <;> omega⟩
  · rw [List.getD_eq_getElem?_getD, List.getElem?_set_ne e, ← List.getD_eq_getElem?_getD, lns_at hj]
    exact ⟨-1, -1, _, rfl, by omega, by omega, by split <;> omega⟩
theorem loop_bad {n k t : Nat} (v : Nat) (hn : 1 ≤ n ∧ n ≤ 20) (hk : k < n) (ht : t ≤ k ∨ 100 ≤ t) (ht2 : t ≤ 1000) {l r : Int} (hlr : (l = (t : Int) ∧ r = -1) ∨ (l = -1 ∧ r = (t : Int))) :
    (STv (tnsF v (((lns n n).set k (plainNm (lnName k) l r (if k + 1 < n then ((k + 1 : Nat) : Int) else -1))).map Nm.nd) lnName)).bad = true := by
  have h := turn_ok (t := t) hn hk (l := l) (r := r) (by omega) (by omega)
  have hc := cnt_le (v := v) (h.xs hn)
  obtain ⟨ns, hns⟩ : ∃ ns, ns = (lns n n).set k (plainNm (lnName k) l r (if k + 1 < n then ((k + 1 : Nat) : Int) else -1)) := ⟨_, rfl⟩
  rw [← hns] at h hc ⊢
  have hl : (ns.map Nm.nd).length = n := by simp [h.len]
  refine trav_ring _ k (by rw [tns_len]; omega) ?_ _ 0 [] S0 (by omega) (by show _ ≤ 0 + _; omega)
  intro i hi
  rw [tns_len]
  by_cases e : i = k
  · subst e
    have e1 : ns.getD i default = plainNm (lnName i) l r (if i + 1 < n then ((i + 1 : Nat) : Int) else -1) := by
      rw [hns, List.getD_eq_getElem?_getD, List.getElem?_set_self (by rw [lns_len]; exact hk)]; rfl
    refine ⟨t, by omega, by show t ≠ 4294967295; omega, ?_⟩
    rw [h.tn hn v hk, e1]
    rcases hlr with ⟨rfl, rfl⟩ | ⟨rfl, rfl⟩
    · left; exact lnkF_nat t
    · right; right; exact lnkF_nat t
  · have hik : i < n := by omega
    have e1 : ns.getD i default = lnNm n i := by
      rw [hns, List.getD_eq_getElem?_getD, List.getElem?_set_ne (by omega), ← List.getD_eq_getElem?_getD, lns_at hik]
    refine ⟨i + 1, by omega, by show i + 1 ≠ 4294967295; omega, .inr (.inl ?_)⟩
    rw [h.tn hn v hik, e1]
    show lnkF (if i + 1 < n then ((i + 1 : Nat) : Int) else -1) = i + 1
    rw [if_pos (by omega), lnkF_nat]
end Go.Proofs.YtgoddcicbpjknaaDoor

/-! From a contract to a row: what stood there stands there still; the table of signs. -/
set_option maxRecDepth 100000
namespace Go.Proofs.YtgoddcicbpjknaaDoor
open Go
open Cfb
open Go.RowKit
/-- All blocks of a world but those. -/
def others (W : World) (ks : List Nat) : Heap := (List.range W.heap.size).filterMap fun i => if ks.contains i then none else (W.heap[i]?).map fun o => (i, o)
theorem others_mem {W : World} {ks : List Nat} {p : Nat × Obj} (h : p ∈ others W ks) : p.1 ∉ ks ∧ W.heap[p.1]? = some p.2 := by
  unfold others at h
  obtain ⟨i, _, hi⟩ := List.mem_filterMap.1 h
  split at hi
  · cases hi
  · rename_i hc
    simp only [Option.map_eq_some_iff] at hi
    obtain ⟨o, ho, rfl⟩ := hi
    exact ⟨by simpa using hc, ho⟩
theorem others_has {W : World} {ks : List Nat} {i : Nat} {o : Obj} (hk : i ∉ ks) (ho : W.heap[i]? = some o) : (i, o) ∈ others W ks := by
  unfold others
  refine List.mem_filterMap.2 ⟨i, List.mem_range.2 ?_, ?_⟩
  · rcases Nat.lt_or_ge i W.heap.size with h | h
    · exact h
    · rw [Array.getElem?_eq_none h] at ho; cases ho
  · rw [if_neg (by simpa using hk), ho]; rfl
theorem others_sub (W : World) (ks : List Nat) : ∀ l : List Nat, ((l.filterMap fun i => if ks.contains i then none else (W.heap[i]?).map fun o => (i, o)).map Prod.fst).Sublist l := by
  intro l
  induction l with
  | nil => exact .slnil
  | cons i r ih =>
    rw [List.filterMap_cons]
    split
    · exact ih.cons i
    · rename_i p hp
      have hpi : p.1 = i := by
        split at hp
        · cases hp
        · simp only [Option.map_eq_some_iff] at hp
          obtain ⟨o, _, rfl⟩ := hp
          rfl
      rw [List.map_cons, hpi]
      exact ih.cons_cons i
theorem others_nodup (W : World) (ks : List Nat) : ((others W ks).map Prod.fst).Nodup := List.nodup_range.sublist (others_sub W ks _)
theorem HA.start {W : World} {pre : Heap} (hm : ∀ p ∈ pre, W.heap[p.1]? = some p.2) (hn : (pre.map Prod.fst).Nodup) : HA W W (pre ++ others W (pre.map Prod.fst)) := by
  refine ⟨rfl, rfl, rfl, ?_, ?_, Nat.le_refl _, ?_⟩
  · rw [List.map_append, List.nodup_append]
    refine ⟨hn, others_nodup _ _, ?_⟩
    intro a ha b hb e
    subst e
    obtain ⟨p, hp, rfl⟩ := List.mem_map.1 hb
    exact (others_mem hp).1 ha
  · intro p hp
    rcases List.mem_append.1 hp with h | h
    · exact hm p h
    · exact (others_mem h).2
  · intro b o hb ho
    rw [Array.getElem?_eq_none hb] at ho; cases ho
theorem HA.old {W w' : World} {pre : Heap} (hm : ∀ p ∈ pre, W.heap[p.1]? = some p.2) (h : HA W w' (pre ++ others W (pre.map Prod.fst))) {i : Nat} (hi : i < W.heap.size) : w'.heap[i]? = W.heap[i]? := by
  have ho : W.heap[i]? = some W.heap[i] := Array.getElem?_eq_getElem hi
  by_cases hk : i ∈ pre.map Prod.fst
  · obtain ⟨p, hp, rfl⟩ := List.mem_map.1 hk
    rw [h.mem p (List.mem_append_left _ hp), hm p hp]
  · have := h.mem (i, W.heap[i]) (List.mem_append_right _ (others_has hk ho))
    rw [this, ho]
theorem HA.grown {W w' : World} {pre : Heap} (hm : ∀ p ∈ pre, W.heap[p.1]? = some p.2) (h : HA W w' (pre ++ others W (pre.map Prod.fst))) : Grown W w' := by
  refine ⟨⟨h.os, h.output, fun i hi => ?_⟩, fun a => ?_, h.size⟩
  · rw [h.old hm hi]
    cases hq : W.heap[i]? with
    | none => rfl
    | some o => cases o <;> first | exact ⟨rfl, rfl, rfl, fun _ _ => rfl⟩ | exact Or.inr ⟨rfl, rfl⟩ | rfl
  · unfold World.frozen?
    rcases Nat.lt_or_ge a.block W.heap.size with hl | hl
    · rw [h.old hm hl]
    · rw [Array.getElem?_eq_none hl]
      cases hq : w'.heap[a.block]? with
      | none => rfl
      | some o =>
        have hf := h.fresh _ _ hl hq
        cases o with
        | cells cs T fz =>
          obtain ⟨lo, hi⟩ := fz
          simp only [freeO, Bool.and_eq_true] at hf
          have e1 := Nat.eq_of_beq_eq_true hf.1
          have e2 := Nat.eq_of_beq_eq_true hf.2
          subst e1; subst e2
          simp
        | _ => rfl
/-- A contract, as a row asks for it. -/
theorem Ct.row {P : Program} {f : FuncId} {args : List Value} {pre : Heap} {v : Value} (h : Ct P f args pre (fun u q => u = v ∧ q = pre)) {W : World} (hm : ∀ p ∈ pre, W.heap[p.1]? = some p.2) (hn : (pre.map Prod.fst).Nodup) :
    Calls P f args.toArray W fun e w' => e = .returned v ∧ Grown W w' := by
  refine (h W _ W (HA.start hm hn)).mono ?_
  rintro e w' ⟨u, post, he, ⟨rfl, rfl⟩, ha⟩
  exact ⟨he, ha.grown hm⟩
theorem own : ownKnob Tryd.prog.godebug = none := by kernel_rfl
theorem gProps : Tryd.prog.globalNamed "unicode.properties" = some 2 := by kernel_rfl
theorem gPropsT : (Tryd.prog.globals[2]?).map (·.type) = some 162 := by kernel_rfl
theorem cells5 : Tryd.prog.cellsOf 5 = 1 := by kernel_rfl
theorem cells162 : Tryd.prog.cellsOf 162 = 256 := by kernel_rfl
end Go.Proofs.YtgoddcicbpjknaaDoor

/-! The table of signs, as the rows lay it. -/
set_option maxRecDepth 100000
namespace Go.Proofs.YtgoddcicbpjknaaDoor
open Go
open Cfb
open Go.ChangeShapes Go.WideShapes Go.ChangeAt Go.RowKit
def propOf : DataW Unit → Int
  | .lit (.int _ n) => n
  | _ => 0
def propsOf : DataW Unit → List Int
  | .agg l => l.map propOf
  | _ => []
def props : List Int := propsOf Rows.laid_unicode_properties
theorem props_eq : (Rows.laid_unicode_properties : DataW Unit) = Lib.tabData .u8 props := by kernel_rfl
abbrev propsV : List Value := props.map fun z => Value.int .u8 z
theorem props_cap : ((List.range 26).all fun i => decide (props[65 + i]? = some 160)) = true := by kernel_rfl
theorem props_ctl : ((List.range 31).all fun i => decide (props[1 + i]? = some 1)) = true := by kernel_rfl
theorem propsV_ok : PsOk propsV := by
  refine ⟨fun c h1 h2 => ?_, fun c h1 h2 => ?_⟩
  · have := List.all_eq_true.1 props_cap (c - 65) (List.mem_range.2 (by omega))
    rw [show 65 + (c - 65) = c by omega] at this
    rw [List.getElem?_map, of_decide_eq_true this]; rfl
  · have := List.all_eq_true.1 props_ctl (c - 1) (List.mem_range.2 (by omega))
    rw [show 1 + (c - 1) = c by omega] at this
    rw [List.getElem?_map, of_decide_eq_true this]; rfl
theorem row2 : (((begin Tryd.prog (fun _ _ => 0) default).world.heap[2]?).bind Obj.row?).isSome = true := by kernel_rfl
theorem two_lt : 2 < Tryd.prog.globals.size := by
  have : Nat.blt 2 Tryd.prog.globals.size = true := by kernel_rfl
  exact Nat.le_of_ble_eq_true this
theorem props_tab {W : World} (h : laidMetH Tryd.prog [("unicode.properties", Rows.laid_unicode_properties)] W) : Lib.TabIs Tryd.prog W "unicode.properties" .u8 props := by
  have h1 : laidMet Tryd.prog [("unicode.properties", Rows.laid_unicode_properties)] W := h
  rw [props_eq] at h1
  have hu : Tryd.prog.underlying 162 = some (.array 256 5) := by kernel_rfl
  exact Lib.tabIs_of_head (rest := []) gProps gPropsT hu (inOf_u in_5) cells5 cells162 h1
theorem tab_block {W : World} (h : Lib.TabIs Tryd.prog W "unicode.properties" .u8 props) (hS : W.ShapedOpen Tryd.prog) : ∃ T, W.heap[2]? = some (blk propsV T) := by
  obtain ⟨⟨zero, t⟩, hr⟩ := Option.isSome_iff_exists.1 row2
  obtain ⟨cs, hc, _, _⟩ := hS.1 2 zero t two_lt hr
  refine ⟨t, ?_⟩
  rw [hc]
  have : cs = propsV.toArray := by
    apply Array.ext_getElem?
    intro i
    have h1 := World.var?_cell gProps h i
    have h2 : W.cell? ⟨2, i, none⟩ = cs[i]? := by simp [World.cell?, hc]
    rw [← h2, h1]
  rw [this]
end Go.Proofs.YtgoddcicbpjknaaDoor

/-! From a contract to a row: the arguments, read again. -/
set_option maxRecDepth 100000
namespace Go.Proofs.YtgoddcicbpjknaaDoor
open Go
open Cfb
open Go.ChangeShapes Go.WideShapes Go.ChangeAt Go.RowKit
theorem laidOut : laidOutB Tryd.prog = true := by kernel_rfl
theorem HA.below {W w' : World} {pre : Heap} (hm : ∀ p ∈ pre, W.heap[p.1]? = some p.2) (h : HA W w' (pre ++ others W (pre.map Prod.fst))) : Below W.heap.size W w' := ⟨h.os, h.tape, h.output, h.size, fun _ hk => h.old hm hk⟩
theorem Ct.rowB {P : Program} {f : FuncId} {args : List Value} {pre : Heap} {v : Value} (h : Ct P f args pre (fun u q => u = v ∧ q = pre)) {W : World} (hm : ∀ p ∈ pre, W.heap[p.1]? = some p.2) (hn : (pre.map Prod.fst).Nodup) :
    Calls P f args.toArray W fun e w' => e = .returned v ∧ Grown W w' ∧ Below W.heap.size W w' := by
  refine (h W _ W (HA.start hm hn)).mono ?_
  rintro e w' ⟨u, post, he, ⟨rfl, rfl⟩, ha⟩
  exact ⟨he, ha.grown hm, ha.below hm⟩
theorem trodAll_again {H : Type} {enc : TypeId × Value → H} {W W' : World} (hb : Below W.heap.size W W') : ∀ (ts : List TypeId) (vs : List Value) (ds : List (DataW H)) (ps : List MemPlace), DataW.TrodAll enc Tryd.prog W 0 (fun _ => true) true ts vs ds ps →
    (ts.all fun t => Tryd.prog.readableRec t && Nat.blt t Tryd.prog.types.size) = true → (∀ x ∈ ps, x.block < W.heap.size) → DataW.TrodAll enc Tryd.prog W' 0 (fun b => decide (b < W.heap.size)) true ts vs ds ps := by
  intro ts
  induction ts with
  | nil =>
    intro vs ds ps h _ _
    obtain ⟨rfl, rfl, rfl⟩ := trodAll_nil h
    exact trodAll_mk0
  | cons t r ih =>
    intro vs ds ps h hc hl
    obtain ⟨v0, vs0, d0, ds0, p0, q0, rfl, rfl, rfl, h0, r0⟩ := trodAll_cons h
    simp only [List.all_cons, Bool.and_eq_true] at hc
    obtain ⟨⟨c1, c2⟩, c3⟩ := hc
    exact trodAll_cons_mk (Below.trod laidOut c1 (by simpa [Nat.blt_eq] using c2) h0 hb (fun x hx => hl x (List.mem_append_left _ hx))) (ih vs0 ds0 q0 r0 c3 (fun x hx => hl x (List.mem_append_right _ hx)))
/-- A slice of bytes: where it lies. -/
theorem open_bytes {H : Type} {enc : TypeId × Value → H} {W : World} {base : Nat} {v : Value} {d : DataW H} {ps : List MemPlace} (hval : Value.okWide Tryd.prog W .any base 23 v) (h : DataW.Trod enc Tryd.prog W 0 (fun _ => true) true 23 v d ps) :
    ∃ p n c, v = .slice p n c ∧ n ≤ c ∧ (n = 0 ∨ ∃ b off l T fz, ∃ bs : List UInt8, p = some ⟨b, off, none⟩ ∧ W.heap[b]? = some (Obj.cells l T fz) ∧ bs.length = n ∧ ∀ i, i < n → l[off + i]? = some (bv (bs.getD i 0))) := by
  obtain ⟨fuel, hf⟩ := h
  obtain ⟨a0, n, c, rfl⟩ := okWide_slice (e := 5) (slOf_u sl_23).choose_spec.1 hval
  have hu23 : Tryd.prog.underlying 23 = some (.slice 5) := (slOf_u sl_23).choose_spec.1
  rcases open_ints hu23 (inOf_u in_5) cells5 hf with ⟨hcs, hx⟩ | ⟨a, len', cap', zs, hcs, _, hl, hm, hz, hx, hcell, hwz⟩
  · simp [Value.cells] at hcs
    obtain ⟨rfl, rfl, rfl⟩ := hcs
    exact ⟨_, _, _, rfl, Nat.le_refl _, .inl rfl⟩
  · simp [Value.cells] at hcs
    obtain ⟨rfl, rfl, rfl⟩ := hcs
    refine ⟨_, _, _, rfl, hl, ?_⟩
    simp only [if_true] at hz
    rcases Nat.eq_zero_or_pos n with h0 | h0
    · exact .inl h0
    · right
      have hzn : n ≤ zs.length := by omega
      have h1 := hcell 0 (by omega)
      obtain ⟨b, off, x⟩ := a
      cases x with
      | some y =>
        exfalso
        simp [World.cell?, Addr.add] at h1
        split at h1 <;> cases h1
      | none =>
        have key : ∀ i, i < zs.length → W.cell? ⟨b, off + i, none⟩ = some (.int .u8 (zs.getD i 0)) := fun i hi => by have := hcell i hi; rw [Addr_add] at this; exact this
        have k0 := key 0 (by omega)
        cases hq : W.heap[b]? with
        | none => simp [World.cell?, hq] at k0
        | some o =>
          cases o with
          | cells l T fz =>
            refine ⟨b, off, l, T, fz, (zs.take n).map fun z => UInt8.ofNat z.toNat, rfl, hq, by simp; omega, ?_⟩
            intro i hi
            have h2 := key i (by omega)
            have h3 : l[off + i]? = some (.int .u8 (zs.getD i 0)) := by simpa [World.cell?, hq] using h2
            rw [h3]
            have hz1 : zs.getD i 0 ∈ zs := by rw [List.getD_eq_getElem?_getD, List.getElem?_eq_getElem (by omega)]; exact List.getElem_mem _
            have hw := hwz _ hz1
            have hb : 0 ≤ zs.getD i 0 ∧ zs.getD i 0 ≤ 255 := by simpa [Lit.wf, IntKind.min, IntKind.max, IntKind.signed, IntKind.bits] using hw
            have e1 : ((zs.take n).map fun z => UInt8.ofNat z.toNat).getD i 0 = UInt8.ofNat (zs.getD i 0).toNat := by
              simp [List.getD_eq_getElem?_getD, List.getElem?_take, hi, show i < zs.length by omega]
            rw [e1]
            unfold bv
            rw [UInt8.toNat_ofNat', Nat.mod_eq_of_lt (by omega)]
            congr 2
            omega
          | _ => simp [World.cell?, hq] at k0
theorem u8_nat {a : Int} (w : (Lit.int .u8 a).wf = true) : ∃ n : Nat, a = (n : Int) ∧ n ≤ 255 := by
  have h : 0 ≤ a ∧ a ≤ 255 := by simpa [Lit.wf, IntKind.min, IntKind.max, IntKind.signed, IntKind.bits] using w
  exact ⟨a.toNat, by omega, by omega⟩
end Go.Proofs.YtgoddcicbpjknaaDoor

/-! The nodes of FnInitial, and what is told of them. -/
set_option maxRecDepth 20000
namespace Go.Proofs.YtgoddcicbpjknaaDoor
open Go
open Cfb
/-- The letters that bytes stand for. -/
def txt (l : List UInt8) : List UInt8 := l.map fun b => UInt8.ofNat (65 + b.toNat % 26)
theorem txt_succ {l : List UInt8} {i : Nat} (h : i < l.length) : txt (l.take (i + 1)) = txt (l.take i) ++ [UInt8.ofNat (65 + (l.getD i 0).toNat % 26)] := by
  have e : l.getD i 0 = l[i] := by simp [List.getD_eq_getElem?_getD, h]
  rw [List.take_succ_eq_append_getElem h, e]
  unfold txt
  rw [List.map_append]
  rfl
def rootName : List UInt8 := [82, 111, 111, 116, 32, 69, 110, 116, 114, 121]
def inNd (fst : Nat) (t : List UInt8) : Nd := ⟨[UInt8.ofNat fst] ++ t, true, [1, 2, 3], -1, -1, -1, List.replicate 16 0, List.replicate 4 0, 0, 0, by simp, by simp⟩
def inNm (fst : Nat) (t : List UInt8) (b : Nat) : Nm := ⟨inNd fst t, some b, 3, []⟩
def inNs (fst : Nat) (t : List UInt8) (b : Nat) : List Nm := [plainNm rootName (-1) (-1) 1, inNm fst t b]
def inXs (fst : Nat) (t : List UInt8) : List Nd := [plainNd rootName (-1) (-1) 1, inNd fst t]
def inNames (t : List UInt8) (k : Nat) : List UInt8 := if k = 0 then rootName else t
section
variable {fst : Nat} {t : List UInt8} {b : Nat}
theorem inXs_ok : Ok (inXs fst t) := by
  refine ⟨by simp [inXs], ?_⟩
  intro x hx
  simp only [inXs, List.mem_cons, List.not_mem_nil, or_false] at hx
  rcases hx with rfl | rfl
  · simp [plainNd]
  · simp [inNd]
theorem inNs_ok (ht : t.length ≤ 10) : ∀ x ∈ inNs fst t b, x.ok := by
  intro x hx
  simp only [inNs, List.mem_cons, List.not_mem_nil, or_false] at hx
  rcases hx with rfl | rfl
  · exact plainNm_ok (by simp [rootName]) (by omega) (by omega) (by omega)
  · exact ⟨fun h => (by cases h), by simp [inNm, inNd], by simp [inNm, inNd], by simp [inNm, inNd]; omega, by simp [inNm, inNd], by simp [inNm, inNd], by simp [inNm, inNd], by simp [inNm, inNd], by simp [inNm, inNd]⟩
theorem inNames_ok {ps : List Value} (hp : PsOk ps) (hf : 1 ≤ fst ∧ fst ≤ 31) (ht : t.length ≤ 10) (ht2 : ∀ c ∈ t, c.toNat < 128) : ∀ k, k < (inXs fst t).length → NmOk ps ((inXs fst t).getD k default) (inNames t k) := by
  intro k hk
  have hk2 : k < 2 := by simpa [inXs] using hk
  rcases Nat.lt_or_ge k 1 with h | h
  · obtain rfl : k = 0 := by omega
    refine nmOk_cap (x := plainNd rootName (-1) (-1) 1) hp (by simp [plainNd, rootName]) (by simp [plainNd, rootName]) ?_ (by simp [plainNd, rootName])
    intro c hc
    have : (rootName.all fun c => decide (c.toNat < 128)) = true := by decide
    simpa using List.all_eq_true.1 this c hc
  · obtain rfl : k = 1 := by omega
    have e1 : (UInt8.ofNat fst).toNat = fst := by rw [UInt8.toNat_ofNat']; omega
    have := nmOk_ctl (x := inNd fst t) hp (by simp [inNd]) (by simp [inNd]; omega) ?_ (by simp [inNd, e1]; omega)
    · exact this
    · intro c hc
      simp only [inNd, List.mem_append, List.mem_singleton] at hc
      rcases hc with rfl | hc
      · rw [e1]; omega
      · exact ht2 c hc
theorem inXs_lnk : ∀ x ∈ inXs fst t, x.left ≤ 4294967295 ∧ x.right ≤ 4294967295 ∧ x.child ≤ 4294967295 := by
  intro x hx
  simp only [inXs, List.mem_cons, List.not_mem_nil, or_false] at hx
  rcases hx with rfl | rfl <;> simp [plainNd, inNd]
theorem inXs_size (v : Nat) : NF v (inXs fst t) ≤ 131072 := by
  have h := inXs_ok (fst := fst) (t := t)
  have h1 := NF_few (v := v) h
  have hz := size_ge v
  have hp := per4 v
  have e1 : miF (inXs fst t) = 1 := by
    have : smallF (inNd fst t) = 1 := by unfold smallF; rw [if_pos ⟨rfl, by simp [inNd]⟩]; show partsF 3 64 = 1; decide
    have h0 : smallF (plainNd rootName (-1) (-1) 1) = 0 := by unfold smallF; rw [if_neg (by simp [plainNd])]
    simp [miF, smF, inXs, this, h0]
  have e2 : (lgF v (inXs fst t)).sum = 0 := by
    have : largeF (sizeF v) (inNd fst t) = 0 := by unfold largeF; rw [if_neg (by simp [inNd])]
    have h0 : largeF (sizeF v) (plainNd rootName (-1) (-1) 1) = 0 := by unfold largeF; rw [if_neg (by simp [plainNd])]
    simp [lgF, inXs, this, h0]
  have e3 : ∀ n p, n ≤ p → partsF n p ≤ 1 := fun n p hn => by
    unfold partsF
    rcases Nat.eq_zero_or_pos p with rfl | hp
    · simp
    · have : (n + p - 1) / p < 2 := (Nat.div_lt_iff_lt_mul hp).2 (by omega)
      omega
  have e4 := cs_sum (v := v) h
  have e5 : dsF v (inXs fst t) ≤ 1 := e3 _ _ (by simp [inXs]; omega)
  have e6 : mfF v (inXs fst t) ≤ 1 := by unfold mfF; rw [e1]; exact e3 _ _ (by omega)
  have e7 := e3 (miF (inXs fst t) * 64) (sizeF v) (by rw [e1]; omega)
  have := Nat.mul_le_mul_left 4096 (show 2 + 2 * (csF v (inXs fst t)).sum ≤ 8 by omega)
  omega
theorem inTn (v : Nat) {k : Nat} (hk : k < 2) : (tnsF v (inXs fst t) (inNames t)).getD k default = ⟨inNames t k, FREE, if k = 0 then 1 else FREE, FREE⟩ := by
  have hc := cnt_le (v := v) (inXs_ok (fst := fst) (t := t))
  have hl : (inXs fst t).length = 2 := rfl
  rw [show (tnsF v (inXs fst t) (inNames t)).getD k default = tnF (inXs fst t) (inNames t) k from range_getD _ (by omega)]
  unfold tnF
  rw [if_pos (by omega)]
  rcases Nat.lt_or_ge k 1 with h | h
  · obtain rfl : k = 0 := by omega
    rfl
  · obtain rfl : k = 1 := by omega
    rfl
theorem inTrav (v : Nat) : (STv (tnsF v (inXs fst t) (inNames t))).bad = false ∧ (STv (tnsF v (inXs fst t) (inNames t))).out = [0, 1] := by
  have hc := cnt_le (v := v) (inXs_ok (fst := fst) (t := t))
  have hl : (inXs fst t).length = 2 := rfl
  have ht := tns_len v (inXs fst t) (inNames t)
  have t0 := inTn (fst := fst) (t := t) v (show 0 < 2 by omega)
  have t1 := inTn (fst := fst) (t := t) v (show 1 < 2 by omega)
  unfold STv
  obtain ⟨m, hm⟩ : ∃ m, (tnsF v (inXs fst t) (inNames t)).length + 1 = m + 2 := ⟨(tnsF v (inXs fst t) (inNames t)).length - 1, by omega⟩
  rw [hm]
  generalize tnsF v (inXs fst t) (inNames t) = es at *
  have n1 : ¬ (1 : Nat) = FREE := by decide
  rw [trav, if_neg (by show ¬ es.length < 0 + 1; omega), if_neg (by omega)]
  unfold travS
  simp only [t0, if_true, if_neg n1]
  rw [trav, if_neg (by show ¬ es.length < 1 + 1; omega), if_neg (by omega)]
  unfold travS
  simp only [t1, if_true, if_neg (show ¬ (1 : Nat) = 0 by omega)]
  exact ⟨rfl, rfl⟩
end
theorem RowsOk.two {fs : List Fil} {pth : Nat → List (List UInt8)} {pp : Heap} {a b : Nat} {rows : List (List Value)} (h : RowsOk fs pth pp [a, b] rows) : ∃ f0 f1 v0 v1, rows = [entC f0.en v0, entC f1.en v1] ∧ fs[a]? = some f0 ∧ fs[b]? = some f1 ∧ DcOk f0.en ∧ DcOk f1.en := by
  generalize ho : [a, b] = o at h
  cases h with
  | nil => cases ho
  | snoc h hf hd hp =>
    rename_i o' rows' k f v
    have e1 : [a] ++ [b] = o' ++ [k] := ho
    obtain ⟨h1, h2⟩ := List.append_inj' e1 rfl
    have e2 : b = k := by simpa using h2
    subst e2
    subst h1
    generalize ho2 : [a] = o2 at h
    cases h with
    | nil => cases ho2
    | snoc h2 hf2 hd2 hp2 =>
      rename_i o3 rows3 k3 f3 v3
      have e3 : [] ++ [a] = o3 ++ [k3] := ho2
      obtain ⟨h3, h4⟩ := List.append_inj' e3 rfl
      have e4 : a = k3 := by simpa using h4
      subst e4
      subst h3
      obtain rfl : rows3 = [] := List.eq_nil_of_length_eq_zero (by have := h2.len.2; simpa using this)
      exact ⟨f3, f, v3, v, rfl, hf2, hf, hd2, hd⟩
theorem Initial_entries {ps : List Value} {T : TypeId} {four : Bool} {fst : Nat} {t : List UInt8} (hp : PsOk ps) (hf : 1 ≤ fst ∧ fst ≤ 31) (ht : t.length ≤ 10) (ht2 : ∀ c ∈ t, c.toNat < 128) (gI : Nat) :
    Ct Tryd.prog 18 [.slice (some ⟨gI, 0, none⟩) (NF (verF four) (inXs fst t)) (NF (verF four) (inXs fst t))] [(gI, blk (bys (writeF (verF four) 0 (inXs fst t))) 5), (2, blk ps T)]
      (fun v q => ∃ go cap l, v = .tuple #[.slice (some ⟨go, 0, none⟩) 2 cap, nv 0] ∧ l[27]? = some (.string (bar t)) ∧ l[30]? = some (.int .i64 3) ∧ l[31]? = some (.int .i64 (fst : Int)) ∧ q = [(gI, blk (bys (writeF (verF four) 0 (inXs fst t))) 5), (2, blk ps T), (go, blk l 41)]) := by
  obtain ⟨b1, b2⟩ := inTrav (fst := fst) (t := t) (verF four)
  refine Ct.ne fun hg => (Entries_good inXs_ok (inNames_ok hp hf ht ht2) inXs_lnk (inXs_size _) gI hg b1).less ?_
  rintro v post ⟨fs, pth, out, g, cap, r, rows, pp, -, ho, hes, hr, hok, rfl, rfl⟩
  rw [b2] at ho
  subst ho
  obtain ⟨f0, f1, v0, v1, rfl, h0, h1, d0, d1⟩ := hr.two
  cases g with
  | none => exact absurd hok.1 (by simp)
  | some go =>
    refine ⟨_, ⟨go, cap, _, rfl, ?_, ?_, ?_, rfl⟩, .cons_cons _ (.cons_cons _ (.cons_cons _ (List.nil_sublist _)))⟩
    all_goals
      have hcn := cnt_le (v := verF four) (inXs_ok (fst := fst) (t := t))
      have hl : (inXs fst t).length = 2 := rfl
      have e1 : (esF (verF four) 0 (inXs fst t) (inNames t))[1]? = some (enF (verF four) 0 (inXs fst t) (inNames t) 1) := by
        unfold esF
        rw [List.getElem?_map, List.getElem?_range (by omega)]; rfl
      have e2 := congrArg (fun l => l[1]?) hes
      simp only [List.getElem?_map, h1, e1, Option.map_some, Option.some.injEq] at e2
      have e3 : enF (verF four) 0 (inXs fst t) (inNames t) 1 = ⟨t, fst, .slice none 0 0, 3, 0, (enF (verF four) 0 (inXs fst t) (inNames t) 1).cur, 0, (enF (verF four) 0 (inXs fst t) (inNames t) 1).dc⟩ := by
        unfold enF
        rw [if_pos (by omega)]
        have q1 : (((inXs fst t).getD 1 default).name.getD 0 0).toNat = fst := by
          show (UInt8.ofNat fst).toNat = fst
          rw [UInt8.toNat_ofNat']; omega
        have q2 : szOfN (inXs fst t) 1 = 3 := rfl
        rw [q1, q2]
        rfl
      have n1 : f1.en.nm = t := by have := congrArg En.nm e2; rw [e3] at this; exact this
      have n2 : f1.en.ini = fst := by have := congrArg En.ini e2; rw [e3] at this; exact this
      have n3 : f1.en.size = 3 := by have := congrArg En.size e2; rw [e3] at this; exact this
      have lr := length_entC d0 v0
      rw [List.flatten_cons, List.flatten_cons, List.flatten_nil, List.append_nil, List.append_assoc, List.getElem?_append_right (by omega), lr]
    · show (entC f1.en v1 ++ r)[0]? = _
      rw [← n1]; rfl
    · show (entC f1.en v1 ++ r)[3]? = _
      rw [← n3]; rfl
    · show (entC f1.en v1 ++ r)[4]? = _
      rw [← n2]; rfl
end Go.Proofs.YtgoddcicbpjknaaDoor
