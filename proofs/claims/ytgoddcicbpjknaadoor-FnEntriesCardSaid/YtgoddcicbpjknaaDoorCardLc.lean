/- FnEntries, as its card states it: whatever the numbers, the bytes, the choice and the step, the call returns true and leaves all that was there as it was. Behind it: Walks: nodesOf; Plain: trees of places, the order in which they are told; Walks: FnInitial; Values: the order of nodes in memory, with paths; Walks: Order; Walks: Order, whole; Values: what a file of linked nodes tells; Values: rows of what is told; arrays that are the same; Values: a text's first sign; kinds of nodes; Walks: FnEntries. -/
import Derived.Test.YtgoddcicbpjknaaDoorPartE
import Derived.ChangeKeysEq
import Derived.Lay
/-! Walks: nodesOf. -/
set_option maxRecDepth 20000
namespace Go.Proofs.YtgoddcicbpjknaaDoor
open Go
open Cfb
set_option maxHeartbeats 4000000 in
theorem nodes_T {E : World} {Q : Exit → Act → World → Prop} {F : Heap} (hQ : QP Q) (g cap gb capb n nN cN : Nat) (pN : Option Addr) (ns : List Nm) (bls : List Bl) (r rb : List Value) (par : Nat → Nat)  (hN : NumOk F pN nN) (hnN : nN ≤ 1000000000) (hn : 1 ≤ n ∧ n ≤ 20) (h0 : LI n ns bls par 0 ns bls)
    (hk : ∀ ms cs, (LI n ns bls par n ms cs) → CW Tryd.prog E 246 [(5, .slice (some ⟨g, 0, none⟩) n cap)] ((g, blk (nms ms ++ r) 43) :: F) (dig [1, 1, 1, 1, 1, 1] (bodyOf Tryd.f14)) Q) :
    CW Tryd.prog E 246 [(0, .slice pN nN cN), (5, .slice (some ⟨g, 0, none⟩) n cap), (6, .slice (some ⟨gb, 0, none⟩) n capb)] ((g, blk (nms ns ++ r) 43) :: (gb, blk (bls.map Bl.val ++ rb) 29) :: (blsH bls ++ F)) (dig [1, 1, 1, 1, 1] (bodyOf Tryd.f14)) Q := by
  refine CW_seq ?_
  refine CW_seq ?_
  refine CW_region ?_
  refine RW_m ?_
  refine RW_l (Yl_len rfl sl_66) ?_
  refine RW_m ?_
  refine RW_lv (ks := [0, 5, 181, 182, 183]) ?_
  refine CW_block ?_
  refine CW_loop (σ := Nat × List Nm × List Bl) (fun q => [(0, .slice pN nN cN), (5, .slice (some ⟨g, 0, none⟩) n cap), (181, .slice (some ⟨gb, 0, none⟩) n capb), (182, nv n), (183, nv q.1)]) (fun q => (g, blk (nms q.2.1 ++ r) 43) :: (gb, blk (bls.map Bl.val ++ rb) 29) :: (blsH q.2.2 ++ F)) (fun q => LI n ns bls par q.1 q.2.1 q.2.2) (fun q => n - q.1) (0, ns, bls) h0 (Prm.nil _) (.cons rfl (.cons rfl (.cons rfl (.cons rfl (.cons rfl .nil))))) ?_
  rintro ⟨i, ms, cs⟩ hI
  simp only at hI ⊢
  have hile := hI.ile
  have hmlen := hI.len
  have hclen := hI.blen
  refine CW_seq ?_
  refine CW_region ?_
  refine RW_l (Yl_lss rfl rfl) ?_
  refine RW_lv (ks := [0, 5, 181, 182, 183, 184]) ?_
  refine CW_seq ?_
  refine CW_cond rfl (fun hc1 => ?_) (fun hc1 => ?_)
  · replace hc1 := of_decide_eq_true hc1
    refine (CW_skip (QW_lv (ks := [0, 5, 181, 182, 183]) ?_))
    refine CW_seq ?_
    refine CW_block ?_
    refine CW_seq ?_
    refine CW_region ?_
    refine RW_m ?_
    refine RW_l (Yl_indexN (b := gb) (off := 0) (i := i) (o' := i) rfl rfl sl_66 (by omega) (by omega)) ?_
    refine RW_h (Yh_load (v := (cs.getD i default).val) rfl sc_29 (by repeat (first | exact List.Mem.head _ | apply List.Mem.tail)) (by rw [← hI.val]; exact bls_val cs rb i (by omega))) ?_
    refine RW_a ?_
    refine RW_a ?_
    refine RW_lv (ks := [0, 5, 20, 21, 181, 182, 183]) ?_
    obtain ⟨b, hb⟩ : ∃ b, cs.getD i default = b := ⟨_, rfl⟩
    have hbm : b ∈ cs := by rw [← hb, List.getD_eq_getElem?_getD, List.getElem?_eq_getElem (by omega)]; exact List.getElem_mem _
    have hbok : b.ok := hI.ok b hbm
    have hin : ∀ k, k ∈ b.l ↔ 1 ≤ k ∧ k < n ∧ par k = i := by intro k; rw [← hb]; exact hI.pl.mem i k
    have hnd : b.l.Nodup := by rw [← hb]; exact hI.pl.nd i
    have hblen : b.l.length ≤ n := by rw [← hb]; exact hI.pl.len i
    refine CW_heap (bl_perm [(g, blk (nms ms ++ r) 43), (gb, blk (bls.map Bl.val ++ rb) 29)] F cs i (by omega)) ?_
    rw [hb]
    refine nodes_S (F := ((gb, blk (bls.map Bl.val ++ rb) 29) :: (blsH (cs.eraseIdx i) ++ F))) (by intro c a d v w h; exact hQ c a d v w h) b.o g cap b.l.length b.cap n ms r b.rest b.l hmlen rfl (by omega) hbok (fun k hk => ((hin k).1 hk).2.1) (by omega) ?_
    intro l1 hp1
    refine CW_heap List.perm_middle ?_
    have hct := shape_any g cap nN cN pN r b.rest ((gb, blk (bls.map Bl.val ++ rb) 29) :: (blsH (cs.eraseIdx i) ++ F)) (hN.mono (.cons _ (List.sublist_append_right _ _))) hnN ms l1 b.o b.l.length b.cap i hp1.length_eq (by omega) (oOk_same hbok hp1.length_eq) (hp1.nodup_iff.2 hnd) (fun k hk => by have := (hin k).1 (hp1.mem_iff.1 hk); omega) (by omega) (by omega)
    rw [hmlen] at hct
    have hpk : Pick ((g, blk (nms ms ++ r) 43) :: (oH b.o (nats l1 ++ b.rest) 3 ++ ((gb, blk (bls.map Bl.val ++ rb) 29) :: (blsH (cs.eraseIdx i) ++ F)))) ((g, blk (nms ms ++ r) 43) :: (oH b.o (nats l1 ++ b.rest) 3 ++ ((gb, blk (bls.map Bl.val ++ rb) 29) :: (blsH (cs.eraseIdx i) ++ F)))) [] := by
      have hz := pick_app ((g, blk (nms ms ++ r) 43) :: (oH b.o (nats l1 ++ b.rest) 3 ++ ((gb, blk (bls.map Bl.val ++ rb) 29) :: (blsH (cs.eraseIdx i) ++ F)))) []
      rwa [List.append_nil] at hz
    refine CW_region ?_
    refine RW_m ?_
    refine RW_m ?_
    refine RW_m ?_
    refine RW_m ?_
    refine RW_m ?_
    refine RW_m ?_
    refine RW_fx rfl rfl rfl (Fx_call ok_23 (vs := [.slice (some ⟨g, 0, none⟩) n cap, osl b.o b.l.length b.cap, .slice pN nN cN, nv i]) rfl hpk hct) ?_
    rintro _ _ ⟨_, ⟨m2, top, rfl, hs, rfl⟩, rfl⟩
    simp only [List.append_nil]
    have hl2 : m2.length = n := by rw [hs.len, hmlen]
    refine RW_l (Yl_indexN (b := g) (off := 0) (i := i) (o' := i * 28) rfl rfl sl_25 (by omega) (by omega)) ?_
    refine RW_l (Yl_field rfl fo_43_5) ?_
    refine RW_fx0 rfl rfl (Fx_store (v := iv top) (b := g) (off := i * 28 + 5) rfl rfl sz_3 rfl (.here _ _ _) (by rw [List.length_append, length_nms]; omega)) ?_
    rintro _ _ rfl
    refine RW_nil ?_
    refine QW_normal_block ?_
    refine (QW_lv (ks := [0, 5, 181, 182, 183]) ?_)
    refine CW_region ?_
    refine RW_l (Yl_add (c := ((i + 1 : Nat) : Int)) rfl rfl (wi64 (by omega) (by omega))) ?_
    refine RW_m ?_
    refine RW_nil ?_
    rw [nms_set m2 i 5 (iv top) ((m2.getD i default).turn (lfF m2 i) (rtF m2 i) top) r (by omega) (by omega) rfl]
    have hI2 := hI.step (by omega) hb hp1 hs
    refine QW_heap (H' := (g, blk (nms (m2.set i ((m2.getD i default).turn (lfF m2 i) (rtF m2 i) top)) ++ r) 43) :: (gb, blk (bls.map Bl.val ++ rb) 29) :: (blsH (cs.set i { b with l := l1 }) ++ F)) ?_ ?_
    · exact (bl_set [(gb, blk (bls.map Bl.val ++ rb) 29)] F cs i { b with l := l1 } (by omega)).cons _
    · exact QW_round (i + 1, (m2.set i ((m2.getD i default).turn (lfF m2 i) (rtF m2 i) top)), cs.set i { b with l := l1 }) hI2 (by simp only; omega) (Prm.nil _) (.cons rfl (.cons rfl (.cons rfl (.cons rfl (.cons rfl .nil)))))
  · replace hc1 := of_decide_eq_false hc1
    refine CW_exit ?_
    refine QW_exit_then ?_
    refine QW_exit_then ?_
    refine QW_exit_block ?_
    refine (QW_lv (ks := [5]) ?_)
    have hie : i = n := by omega
    rw [hie] at hI
    refine CW_drop (H' := (g, blk (nms ms ++ r) 43) :: F) (.cons_cons _ (.cons _ (List.sublist_append_right _ _))) ?_
    exact hk ms cs hI
structure NSt where
  k : Nat
  ns : List Nm
  g : Nat
  cap : Nat
  r : List Value
  bls : List Bl
  gb : Nat
  capb : Nat
  rb : List Value
  at_ : Nat
set_option maxHeartbeats 4000000 in
theorem nodesOf_ct (nN cN nD cD : Nat) (pN pD : Option Addr) (D : Heap) (hN : NumOk D pN nN) (hD : BytOk D pD nD) (hnN : nN ≤ 1000) (hcN : nN ≤ cN) (hnD : nD ≤ 10000) :
    Ct Tryd.prog 14 [.slice pN nN cN, .slice pD nD cD] D (fun v q => ∃ ns g cap r, v = .slice (some ⟨g, 0, none⟩) ns.length cap ∧ NodesOk ns ∧ (nms ns ++ r).length = cap * 28 ∧ q = (g, blk (nms ns ++ r) 43) :: (nmsH ns ++ D)) := by
  refine Ct_of Tryd.func14 rfl Tryd.ntmps14 rfl ?_
  intro E F
  simp only [numL, List.nil_append, List.cons_append]
  refine CW_seq ?_
  refine CW_region ?_
  refine RW_a ?_
  refine RW_lv (ks := [0, 1]) ?_
  refine CW_seq ?_
  refine CW_region ?_
  refine RW_l (Yl_build (cs := rootNm.cells) pl_43 ze_43 rfl rfl) ?_
  refine RW_fx rfl rfl rfl (Fx_lit (vs := [.agg rootNm.cells.toArray]) (css := [rootNm.cells]) (cs := rootNm.cells) sl_25 ze_43 rfl rfl rfl rfl rfl (by intro c hc; rw [List.mem_singleton.1 hc]; exact Nm.length_cells _) (by simp)) ?_
  rintro _ _ ⟨b25, rfl, rfl⟩
  refine RW_a ?_
  refine RW_lv (ks := [0, 1, 5]) ?_
  refine CW_seq ?_
  refine CW_region ?_
  refine RW_fx rfl rfl rfl (Fx_litS (vs := [.slice none 0 0]) sl_66 ze_29 rfl rfl rfl rfl rfl) ?_
  rintro _ _ ⟨b26, rfl, rfl⟩
  refine RW_a ?_
  refine RW_lv (ks := [0, 1, 5, 6]) ?_
  refine CW_seq ?_
  refine CW_region ?_
  refine RW_a ?_
  refine RW_lv (ks := [0, 1, 5, 6, 7]) ?_
  refine CW_seq ?_
  refine CW_seq ?_
  obtain ⟨N, hN1, hNn, hN19⟩ : ∃ N : Nat, (if (19 : Int) < (nN : Int) then (19 : Int) else (nN : Int)) = (N : Int) ∧ N ≤ nN ∧ N ≤ 19 := by
    by_cases h : (19 : Int) < (nN : Int)
    · exact ⟨19, by rw [if_pos h]; rfl, by omega, by omega⟩
    · exact ⟨nN, by rw [if_neg h], by omega, by omega⟩
  refine CW_region ?_
  refine RW_m ?_
  refine RW_m ?_
  refine RW_l (Yl_len rfl sl_22) ?_
  refine RW_l (Yl_minC (c := (N : Int)) rfl rfl hN1) ?_
  refine RW_l (Yl_cutHP (h := N) rfl rfl sl_22 (by omega)) ?_
  refine RW_l (Yl_len rfl sl_22) ?_
  refine RW_m ?_
  refine RW_lv (ks := [0, 1, 5, 6, 7, 31, 32, 33]) ?_
  refine CW_block ?_
  refine CW_loop (σ := NSt) (fun s => [(0, .slice pN nN cN), (1, .slice pD nD cD), (5, .slice (some ⟨s.g, 0, none⟩) s.ns.length s.cap), (6, .slice (some ⟨s.gb, 0, none⟩) s.bls.length s.capb), (7, nv s.at_), (31, .slice (cutAt pN cN 0 1) N cN), (32, nv N), (33, nv s.k)]) (fun s => (s.g, blk (nms s.ns ++ s.r) 43) :: (s.gb, blk (s.bls.map Bl.val ++ s.rb) 29) :: (blsH s.bls ++ (nmsH s.ns ++ (D ++ F)))) (fun s => NI N s.k s.ns s.cap s.r s.bls s.capb s.rb s.at_) (fun s => N - s.k) ⟨0, [rootNm], b25, 1, [], [default], b26, 1, [], 0⟩ (NI.first N) (by rw [show nms [rootNm] ++ [] = rootNm.cells by simp [nms]]; exact (by repeat (first | exact Prm.nil _ | exact Rem.here _ _ | apply Rem.there | apply Prm.cons))) (.cons rfl (.cons rfl (.cons rfl (.cons rfl (.cons rfl (.cons rfl (.cons rfl (.cons rfl .nil)))))))) ?_
  rintro ⟨k, ns, g, cap, r, bls, gb, capb, rb, at_⟩ hI
  simp only at hI ⊢
  have hkle := hI.kle
  have hlen := hI.len
  have hblen := hI.blen
  have hat := hI.at_
  refine CW_seq ?_
  refine CW_region ?_
  refine RW_l (Yl_lss rfl rfl) ?_
  refine RW_lv (ks := [0, 1, 5, 6, 7, 31, 32, 33, 34]) ?_
  refine CW_seq ?_
  refine CW_cond rfl (fun hc1 => ?_) (fun hc1 => ?_)
  · replace hc1 := of_decide_eq_true hc1
    refine (CW_skip (QW_lv (ks := [0, 1, 5, 6, 7, 31, 32, 33]) ?_))
    refine CW_seq ?_
    refine CW_block ?_
    refine CW_seq ?_
    rcases hN with h0 | ⟨bN, oN, lN, TN, fzN, rfl, hmN, hxN⟩
    · exfalso; omega
    obtain ⟨x, hxb, hx⟩ := hxN k (by omega)
    rw [cutAt_zero]
    refine CW_region ?_
    refine RW_m ?_
    refine RW_l (Yl_indexN (b := bN) (off := oN) (i := k) (o' := oN + k) rfl rfl sl_22 (by omega) (by omega)) ?_
    refine RW_h (Yh_load (v := uv x) rfl sc_67 ((show List.Sublist D _ by repeat (first | exact List.sublist_append_left _ _ | apply List.Sublist.cons | refine List.Sublist.trans ?_ (List.sublist_append_right _ _))).subset hmN) hx) ?_
    refine RW_a ?_
    refine RW_a ?_
    refine RW_lv (ks := [0, 1, 5, 6, 7, 8, 9, 31, 32, 33]) ?_
    refine nodes_A (F := (g, blk (nms ns ++ r) 43) :: (gb, blk (bls.map Bl.val ++ rb) 29) :: (blsH bls ++ (nmsH ns ++ (D ++ F)))) (by intro c a d v w h; exact h) at_ k x nD cD pD (hD.mono (by repeat (first | exact List.sublist_append_left _ _ | apply List.Sublist.cons | refine List.Sublist.trans ?_ (List.sublist_append_right _ _)))) (by omega) hxb (by omega) (by omega) ?_
    intro y h b11 at2 hy hh hat1 hat2
    refine nodes_W (F := (b11, blk y.cells 43) :: (y.heap ++ ((g, blk (nms ns ++ r) 43) :: (gb, blk (bls.map Bl.val ++ rb) 29) :: (blsH bls ++ (nmsH ns ++ (D ++ F)))))) (by intro c a d v w h; exact h) g cap h ns r (List.Mem.tail _ (List.mem_append_right _ (List.Mem.head _))) ⟨by omega, by omega⟩ hh ?_
    intro w hw
    refine CW_heap ((perm_front y.heap ((g, blk (nms ns ++ r) 43) :: (gb, blk (bls.map Bl.val ++ rb) 29) :: blsH bls) (nmsH ns ++ (D ++ F))).cons _) ?_
    simp only [List.cons_append]
    refine nodes_P (F := y.heap ++ (nmsH ns ++ (D ++ F))) (by intro c a d v w h; exact h) y b11 g cap gb capb w ns bls r rb hI.fit hI.bfit (by omega) ((hI.bl w).2 (by omega)) (by omega) (by omega) (by have := (hI.bl w).1; omega) ?_
    intro g2 cap2 gb2 capb2 r2 rb2 nb hl2 hlb2 hnb hnl
    refine QW_normal_block ?_
    refine (QW_lv (ks := [0, 1, 5, 6, 7, 31, 32, 33]) ?_)
    refine CW_region ?_
    refine RW_l (Yl_add (c := ((k + 1 : Nat) : Int)) rfl rfl (wi64 (by omega) (by omega))) ?_
    refine RW_m ?_
    refine RW_nil ?_
    have hI2 := hI.add (by omega) hw hy hl2 hlb2 hnb hnl (by omega)
    rw [show ns.length + 1 = (ns ++ [y]).length by simp, show bls.length + 1 = ((bls ++ [default]).set w nb).length by simp]
    refine QW_heap (H' := (g2, blk (nms (ns ++ [y]) ++ r2) 43) :: (gb2, blk (((bls ++ [default]).set w nb).map Bl.val ++ rb2) 29) :: (blsH ((bls ++ [default]).set w nb) ++ (nmsH (ns ++ [y]) ++ (D ++ F)))) ?_ ?_
    · refine (List.Perm.swap _ _ _).trans (((List.Perm.append_left _ ?_).cons _).cons _)
      rw [show nmsH (ns ++ [y]) = nmsH ns ++ y.heap by simp [nmsH], List.append_assoc]
      exact perm_front _ _ _
    · exact QW_round ⟨k + 1, ns ++ [y], g2, cap2, r2, (bls ++ [default]).set w nb, gb2, capb2, rb2, at2⟩ hI2 (by simp only; omega) (Prm.nil _) (.cons rfl (.cons rfl (.cons rfl (.cons rfl (.cons rfl (.cons rfl (.cons rfl (.cons rfl .nil))))))))
  · replace hc1 := of_decide_eq_false hc1
    refine CW_exit ?_
    refine QW_exit_then ?_
    refine QW_exit_then ?_
    refine QW_exit_block ?_
    refine (QW_lv (ks := [0, 5, 6]) ?_)
    obtain ⟨par, hL0⟩ := hI.first_link
    rw [hblen, hlen]
    refine nodes_T (F := (nmsH ns ++ (D ++ F))) (by intro c a d v w h; exact h) g cap gb capb (k + 1) nN cN pN ns bls r rb par (hN.mono (List.Sublist.trans (List.sublist_append_left _ _) (List.sublist_append_right _ _))) (by omega) ⟨by omega, by omega⟩ hL0 ?_
    intro ms cs hL
    refine CW_seq ?_
    refine CW_region ?_
    refine RW_m ?_
    refine RW_a ?_
    refine RW_lv (ks := [4]) ?_
    refine CW_ret ?_
    refine QW_ret1 rfl rfl ((g, blk (nms ms ++ r) 43) :: (nmsH ms ++ D)) ⟨ms, g, cap, r, by rw [hL.len], hI.nodes (by omega) hL, by rw [List.length_append, length_nms, hL.len, ← hI.fit, List.length_append, length_nms, hlen], rfl⟩ ?_
    rw [hL.heap hlen]
    simp only [List.cons_append, List.append_assoc]
    exact Prm.nil _
end Go.Proofs.YtgoddcicbpjknaaDoor

/-! Plain: trees of places, the order in which they are told. -/
set_option maxRecDepth 20000
namespace Go.Proofs.YtgoddcicbpjknaaDoor
open Go
open Cfb
/-- A tree's places in order: left, itself, below, right. -/
inductive FT (lf rt ch : Nat → Int) : Int → List Nat → Prop
  | nil : FT lf rt ch (-1) []
  | node {k : Nat} {a c b : List Nat} (ha : FT lf rt ch (lf k) a) (hc : FT lf rt ch (ch k) c) (hb : FT lf rt ch (rt k) b) : FT lf rt ch (k : Int) (a ++ k :: (c ++ b))
/-- The same with what each lies in. -/
inductive OT (lf rt ch : Nat → Int) (nm : Nat → List UInt8) : Int → List (List UInt8) → List (Nat × List (List UInt8)) → Prop
  | nil {p : List (List UInt8)} : OT lf rt ch nm (-1) p []
  | node {k : Nat} {p : List (List UInt8)} {a c b : List (Nat × List (List UInt8))} (ha : OT lf rt ch nm (lf k) p a) (hc : OT lf rt ch nm (ch k) (if k = 0 then p else p ++ [nm k]) c) (hb : OT lf rt ch nm (rt k) p b) :
      OT lf rt ch nm (k : Int) p (a ++ (k, p) :: (c ++ b))
theorem FT.ot {lf rt ch : Nat → Int} {nm : Nat → List UInt8} {t : Int} {L : List Nat} (h : FT lf rt ch t L) : ∀ p, ∃ o, OT lf rt ch nm t p o ∧ o.map Prod.fst = L := by
  induction h with
  | nil => intro p; exact ⟨[], .nil, rfl⟩
  | node ha hc hb iha ihc ihb =>
    rename_i k a c b
    intro p
    obtain ⟨oa, h1, e1⟩ := iha p
    obtain ⟨oc, h2, e2⟩ := ihc (if k = 0 then p else p ++ [nm k])
    obtain ⟨ob, h3, e3⟩ := ihb p
    exact ⟨_, .node h1 h2 h3, by simp [e1, e2, e3]⟩
/-- What is below a place. -/
def below (ls : Nat → List Nat) : Nat → Nat → List Nat
  | 0, _ => []
  | f + 1, p => (ls p).flatMap fun j => j :: below ls f j
theorem FT.of_st {lf rt ch : Nat → Int} {D : Nat → List Nat} {pl : List Nat} {t : Int} (h : STree lf rt pl t) (hd : ∀ j ∈ pl, FT lf rt ch (ch j) (D j)) : FT lf rt ch t (pl.flatMap fun j => j :: D j) := by
  induction h with
  | nil => exact .nil
  | node ha hb iha ihb =>
    rename_i a b m
    have h1 := iha (fun j hj => hd j (by simp [hj]))
    have h2 := ihb (fun j hj => hd j (by simp [hj]))
    have h3 := hd m (by simp)
    have := FT.node h1 h3 h2
    simpa using this
section
variable {n : Nat} {ls : Nat → List Nat} {par : Nat → Nat} {lf rt ch : Nat → Int}
theorem below_ft (h : PL n ls par) (ht : ∀ p, p < n → STree lf rt (ls p) (ch p)) : ∀ f p, p < n → n ≤ p + f → FT lf rt ch (ch p) (below ls f p) := by
  intro f
  induction f with
  | zero => intro p h1 h2; omega
  | succ f ih =>
    intro p h1 h2
    refine FT.of_st (ht p h1) (fun j hj => ?_)
    have h3 := (h.mem p j).1 hj
    have h4 := h.lt j h3.1 h3.2.1
    exact ih j h3.2.1 (by omega)
theorem below_mem (h : PL n ls par) : ∀ f p, p < n → ∀ x ∈ below ls f p, p < x ∧ x < n ∧ (par x = p ∨ par x ∈ below ls f p) := by
  intro f
  induction f with
  | zero => intro p _ x hx; cases hx
  | succ f ih =>
    intro p hp x hx
    obtain ⟨j, hj, hx⟩ := List.mem_flatMap.1 hx
    have h3 := (h.mem p j).1 hj
    have h4 := h.lt j h3.1 h3.2.1
    rcases List.mem_cons.1 hx with rfl | hx
    · exact ⟨by omega, h3.2.1, .inl h3.2.2⟩
    · obtain ⟨h5, h6, h7⟩ := ih j h3.2.1 x hx
      refine ⟨by omega, h6, .inr (List.mem_flatMap.2 ⟨j, hj, ?_⟩)⟩
      rcases h7 with h7 | h7
      · rw [h7]; exact List.mem_cons_self ..
      · exact List.mem_cons_of_mem _ h7
theorem below_nodup (h : PL n ls par) : ∀ f p, p < n → (below ls f p).Nodup := by
  intro f
  induction f with
  | zero => intro p _; exact List.nodup_nil
  | succ f ih =>
    intro p hp
    have key : ∀ x j i, j ∈ ls p → i ∈ ls p → x ∈ j :: below ls f j → x ∈ i :: below ls f i → j = i := by
      intro x
      induction x using Nat.strongRecOn with
      | _ x ihx =>
        intro j i hj hi hxj hxi
        have a1 := (h.mem p j).1 hj
        have b1 := (h.mem p i).1 hi
        have a2 := h.lt j a1.1 a1.2.1
        have b2 := h.lt i b1.1 b1.2.1
        rcases List.mem_cons.1 hxj with e1 | hxj
        · rcases List.mem_cons.1 hxi with e2 | hxi
          · omega
          · have h5 := below_mem h f i b1.2.1 x hxi
            rcases h5.2.2 with h6 | h6
            · subst e1; omega
            · have h7 := below_mem h f i b1.2.1 _ h6
              subst e1; omega
        · rcases List.mem_cons.1 hxi with e2 | hxi
          · have h5 := below_mem h f j a1.2.1 x hxj
            rcases h5.2.2 with h6 | h6
            · subst e2; omega
            · have h7 := below_mem h f j a1.2.1 _ h6
              subst e2; omega
          · have h5 := below_mem h f j a1.2.1 x hxj
            have h6 := below_mem h f i b1.2.1 x hxi
            have h7 := h.lt x (by omega) h5.2.1
            refine ihx (par x) h7 j i hj hi ?_ ?_
            · rcases h5.2.2 with h8 | h8
              · rw [h8]; exact List.mem_cons_self ..
              · exact List.mem_cons_of_mem _ h8
            · rcases h6.2.2 with h8 | h8
              · rw [h8]; exact List.mem_cons_self ..
              · exact List.mem_cons_of_mem _ h8
    refine List.pairwise_flatMap.2 ⟨fun j hj => ?_, ?_⟩
    · have a1 := (h.mem p j).1 hj
      refine List.nodup_cons.2 ⟨fun hx => ?_, ih j a1.2.1⟩
      have := below_mem h f j a1.2.1 j hx
      omega
    · refine (h.nd p).imp_of_mem ?_
      intro j i hj hi hne x hx y hy e
      subst e
      exact hne (key x j i hj hi hx hy)
theorem below_all (h : PL n ls par) : ∀ f p q x, p < n → n ≤ p + f → q ∈ below ls f p → x ∈ ls q → x ∈ below ls f p := by
  intro f
  induction f with
  | zero => intro p q x h1 h2; omega
  | succ f ih =>
    intro p q x h1 h2 hq hx
    obtain ⟨j, hj, hq⟩ := List.mem_flatMap.1 hq
    have a1 := (h.mem p j).1 hj
    have a2 := h.lt j a1.1 a1.2.1
    refine List.mem_flatMap.2 ⟨j, hj, List.mem_cons_of_mem _ ?_⟩
    rcases List.mem_cons.1 hq with rfl | hq
    · cases f with
      | zero => omega
      | succ f => exact List.mem_flatMap.2 ⟨x, hx, List.mem_cons_self ..⟩
    · exact ih j q x a1.2.1 (by omega) hq hx
theorem below_root (h : PL n ls par) (hn : 1 ≤ n) : ∀ x, 1 ≤ x → x < n → x ∈ below ls n 0 := by
  intro x
  induction x using Nat.strongRecOn with
  | _ x ih =>
    intro h1 h2
    have h3 := h.lt x h1 h2
    have hx : x ∈ ls (par x) := (h.mem _ x).2 ⟨h1, h2, rfl⟩
    rcases Nat.eq_zero_or_pos (par x) with h0 | h0
    · rw [h0] at hx
      cases n with
      | zero => omega
      | succ f => exact List.mem_flatMap.2 ⟨x, hx, List.mem_cons_self ..⟩
    · exact below_all h n 0 (par x) x (by omega) (by omega) (ih _ h3 h0 (by omega)) hx
end
/-- The nodes' order: each once. -/
theorem Lnk.order {ns : List Nm} {ls : Nat → List Nat} {par : Nat → Nat} (h : Lnk ns ls par) (hn : 1 ≤ ns.length) (nm : Nat → List UInt8) :
    ∃ o, OT (lfF ns) (rtF ns) (chdF ns) nm 0 [] o ∧ (o.map Prod.fst).Nodup ∧ (∀ k, k ∈ o.map Prod.fst ↔ k < ns.length) ∧ o.length ≤ ns.length := by
  have h1 := below_ft h.pl h.tree ns.length 0 (by omega) (by omega)
  have h2 : FT (lfF ns) (rtF ns) (chdF ns) ((0 : Nat) : Int) ([] ++ 0 :: (below ls ns.length 0 ++ [])) := .node (by rw [h.root.1]; exact .nil) h1 (by rw [h.root.2]; exact .nil)
  obtain ⟨o, h3, h4⟩ := h2.ot (nm := nm) []
  simp only [List.nil_append, List.append_nil] at h4
  have h5 := below_mem h.pl ns.length 0 (by omega)
  have h6 : (o.map Prod.fst).Nodup := by
    rw [h4]
    exact List.nodup_cons.2 ⟨fun hx => by have := h5 0 hx; omega, below_nodup h.pl ns.length 0 (by omega)⟩
  have h7 : ∀ k, k ∈ o.map Prod.fst ↔ k < ns.length := by
    intro k
    rw [h4, List.mem_cons]
    constructor
    · rintro (rfl | hk)
      · omega
      · exact (h5 k hk).2.1
    · intro hk
      rcases Nat.eq_zero_or_pos k with h0 | h0
      · exact .inl h0
      · exact .inr (below_root h.pl hn k h0 hk)
  refine ⟨o, h3, h6, h7, ?_⟩
  have := nodup_len ns.length _ h6 (fun x hx => (h7 x).1 hx)
  simpa using this
/-- The entries are gone through in that order. -/
theorem trav_ot {es : List Tn} {lf rt ch : Nat → Int} {nm : Nat → List UInt8} (hN : es.length ≤ 100000) {t : Int} {p : List (List UInt8)} {o : List (Nat × List (List UInt8))} (h : OT lf rt ch nm t p o) :
    ∀ (f : Nat) (s : TS), s.bad = false → s.cnt + o.length ≤ es.length → o.length ≤ f → (∀ k ∈ o.map Prod.fst, k < es.length ∧ es.getD k default = ⟨nm k, lnkF (lf k), lnkF (ch k), lnkF (rt k)⟩) → (o.map Prod.fst).Nodup →
      ∃ s', s' = (if lnkF t = FREE then s else trav es f (lnkF t) p s) ∧ s'.bad = false ∧ s'.cnt = s.cnt + o.length ∧ s'.out = s.out ++ o.map Prod.fst ∧ (∀ k, k ∉ o.map Prod.fst → s'.pth k = s.pth k) ∧ ∀ x ∈ o, s'.pth x.1 = x.2 := by
  induction h with
  | nil =>
    intro f s hb _ _ _ _
    exact ⟨s, by rw [if_pos lnkF_none], hb, rfl, by simp, fun k _ => rfl, fun x hx => by cases hx⟩
  | node ha hc hb iha ihc ihb =>
    rename_i k p a c b
    intro f s hbad hcnt hf hk hnd
    have hlen : (a ++ (k, p) :: (c ++ b)).length = a.length + 1 + (c.length + b.length) := by simp; omega
    rw [hlen] at hcnt hf
    obtain ⟨hk1, hk2⟩ := hk k (by simp)
    have hnk : lnkF (k : Int) = k := lnkF_nat k
    cases f with
    | zero => omega
    | succ f =>
      have hmap : (a ++ (k, p) :: (c ++ b)).map Prod.fst = a.map Prod.fst ++ k :: (c.map Prod.fst ++ b.map Prod.fst) := by simp
      rw [hmap] at hnd hk
      have n1 := List.nodup_append.1 hnd
      have n2 := List.nodup_cons.1 n1.2.1
      have n3 := List.nodup_append.1 n2.2
      obtain ⟨s1, e1, b1, c1, o1, p1, q1⟩ := iha f s.call hbad (by show s.cnt + 1 + _ ≤ _; omega) (by omega) (fun x hx => hk x (List.mem_append_left _ hx)) n1.1
      obtain ⟨s3, e3, b3, c3, o3, p3, q3⟩ := ihc f (s1.visit k p) b1 (by show s1.cnt + _ ≤ _; rw [c1]; show s.cnt + 1 + _ + _ ≤ _; omega) (by omega) (fun x hx => hk x (List.mem_append_right _ (List.mem_cons_of_mem _ (List.mem_append_left _ hx)))) n3.1
      have cc3 : s3.cnt = s.cnt + 1 + a.length + c.length := by rw [c3]; show s1.cnt + _ = _; rw [c1]; rfl
      obtain ⟨s4, e4, b4, c4, o4, p4, q4⟩ := ihb f s3 b3 (by rw [cc3]; omega) (by omega) (fun x hx => hk x (List.mem_append_right _ (List.mem_cons_of_mem _ (List.mem_append_right _ hx)))) n3.2.1
      refine ⟨s4, ?_, b4, by rw [c4, cc3, hlen]; omega, ?_, ?_, ?_⟩
      · rw [hnk, if_neg (show ¬ k = 4294967295 by omega), trav, if_neg (by omega), if_neg (by omega)]
        unfold travS
        simp only [hk2]
        rw [e4, e3, e1]
      · rw [o4, o3]
        show (s1.out ++ [k]) ++ _ ++ _ = _
        rw [o1, hmap]
        show (s.out ++ _ ++ [k]) ++ _ ++ _ = _
        simp
      · intro x hx
        rw [hmap] at hx
        simp only [List.mem_append, List.mem_cons, not_or] at hx
        rw [p4 x hx.2.2.2, p3 x hx.2.2.1]
        show (if x = k then p else s1.pth x) = _
        rw [if_neg hx.2.1, p1 x hx.1]
        rfl
      · intro x hx
        simp only [List.mem_append, List.mem_cons] at hx
        have mem1 : ∀ {l : List (Nat × List (List UInt8))}, x ∈ l → x.1 ∈ l.map Prod.fst := fun h => List.mem_map.2 ⟨x, h, rfl⟩
        rcases hx with hx | hx | hx | hx
        · have m1 := mem1 hx
          have d1 : x.1 ∉ b.map Prod.fst := fun e => n1.2.2 _ m1 _ (List.mem_cons_of_mem _ (List.mem_append_right _ e)) rfl
          have d2 : x.1 ∉ c.map Prod.fst := fun e => n1.2.2 _ m1 _ (List.mem_cons_of_mem _ (List.mem_append_left _ e)) rfl
          have d3 : x.1 ≠ k := fun e => n1.2.2 _ m1 _ (List.mem_cons_self ..) e
          rw [p4 _ d1, p3 _ d2]
          show (if x.1 = k then p else s1.pth x.1) = _
          rw [if_neg d3]; exact q1 x hx
        · subst hx
          have d1 : k ∉ b.map Prod.fst := fun e => n2.1 (List.mem_append_right _ e)
          have d2 : k ∉ c.map Prod.fst := fun e => n2.1 (List.mem_append_left _ e)
          rw [p4 _ d1, p3 _ d2]
          show (if k = k then p else s1.pth k) = _
          rw [if_pos rfl]
        · have m1 := mem1 hx
          have d1 : x.1 ∉ b.map Prod.fst := fun e => n3.2.2 _ m1 _ e rfl
          rw [p4 _ d1]; exact q3 x hx
        · exact q4 x hx
end Go.Proofs.YtgoddcicbpjknaaDoor

/-! Walks: FnInitial. -/
set_option maxRecDepth 20000
namespace Go.Proofs.YtgoddcicbpjknaaDoor
open Go
open Cfb
set_option maxHeartbeats 4000000 in
theorem FnInitial_early (sg n cn : Nat) (p : Option Addr) (four : Bool) (hn : n = 0 ∨ 10 < n) :
    Ct Tryd.prog 4 [.int .u8 (sg : Int), .slice p n cn, .bool four] [] (fun v q => v = .bool true ∧ q = []) := by
  refine Ct_of Tryd.func4 rfl Tryd.ntmps4 rfl ?_
  intro E F
  simp only [numL, List.nil_append, List.cons_append]
  refine CW_seq ?_
  refine CW_region ?_
  refine RW_a ?_
  refine RW_lv (ks := [0, 1, 2]) ?_
  refine CW_seq ?_
  refine CW_seq ?_
  refine CW_region ?_
  refine RW_m ?_
  refine RW_l (Yl_len rfl sl_23) ?_
  refine RW_l (Yl_gtr rfl rfl) ?_
  refine RW_lv (ks := [0, 1, 2, 16]) ?_
  refine CW_cond rfl (fun hc1 => ?_) (fun hc1 => ?_)
  · replace hc1 := of_decide_eq_true hc1
    refine CW_seq ?_
    refine CW_region ?_
    refine RW_a ?_
    refine RW_lv (ks := [6]) ?_
    refine CW_ret ?_
    refine QW_ret_then ?_
    exact QW_ret1 rfl rfl [] ⟨rfl, rfl⟩ (Prm.nil _)
  · replace hc1 := of_decide_eq_false hc1
    refine (CW_skip (QW_lv (ks := [0, 1, 2]) ?_))
    refine CW_seq ?_
    refine CW_seq ?_
    refine CW_region ?_
    refine RW_m ?_
    refine RW_l (Yl_len rfl sl_23) ?_
    refine RW_l (Yl_eql rfl rfl) ?_
    refine RW_m ?_
    refine RW_bool 20 rfl (fun hg2 => ?_) (fun hg2 => ?_)
    · replace hg2 := of_decide_eq_true hg2
      refine RW_skip rfl rfl rfl ?_
      refine RW_skip rfl rfl rfl ?_
      refine RW_skip rfl rfl rfl ?_
      refine RW_l (Yl_pick_t rfl rfl) ?_
      refine RW_lv (ks := [0, 1, 2, 24]) ?_
      refine CW_true rfl ?_
      refine CW_seq ?_
      refine CW_region ?_
      refine RW_a ?_
      refine RW_lv (ks := [6]) ?_
      refine CW_ret ?_
      refine QW_ret_then ?_
      exact QW_ret1 rfl rfl [] ⟨rfl, rfl⟩ (Prm.nil _)
    · replace hg2 := of_decide_eq_false hg2
      refine RW_gy rfl rfl rfl (Yl.h (Yl_move rfl)) ?_
      refine RW_gy rfl rfl rfl (Yl.h (Yl_len rfl sl_23)) ?_
      refine RW_gy rfl rfl rfl (Yl.h (Yl_gtr rfl rfl)) ?_
      refine RW_l (Yl_pick_f rfl rfl) ?_
      refine RW_lv (ks := [0, 1, 2, 24]) ?_
      refine CW_cond rfl (fun hc3 => ?_) (fun hc3 => ?_)
      · replace hc3 := of_decide_eq_true hc3
        refine CW_seq ?_
        refine CW_region ?_
        refine RW_a ?_
        refine RW_lv (ks := [6]) ?_
        refine CW_ret ?_
        refine QW_ret_then ?_
        exact QW_ret1 rfl rfl [] ⟨rfl, rfl⟩ (Prm.nil _)
      · replace hc3 := of_decide_eq_false hc3
        exfalso
        omega
set_option maxHeartbeats 4000000 in
theorem FnInitial_main (sg n cn bn on : Nat) (nm : List UInt8) (ln : List Value) (Tn : TypeId) (fz : Nat × Nat) (four : Bool) (hsg : sg ≤ 255) (hn : 1 ≤ n ∧ n ≤ 10) (hnl : n = nm.length) (hln : ∀ i, i < n → ln[on + i]? = some (bv (nm.getD i 0))) (ps : List Value) (T : TypeId) (hp : PsOk ps) (D : Heap) (hmem : (bn, Obj.cells ln.toArray Tn fz) ∈ (2, blk ps T) :: D) :
    Ct Tryd.prog 4 [.int .u8 (sg : Int), .slice (some ⟨bn, on, none⟩) n cn, .bool four] ((2, blk ps T) :: D) (fun v q => v = .bool true ∧ q = (2, blk ps T) :: D) := by
  refine Ct_of Tryd.func4 rfl Tryd.ntmps4 rfl ?_
  intro E F
  simp only [numL, List.nil_append, List.cons_append]
  refine CW_seq ?_
  refine CW_region ?_
  refine RW_a ?_
  refine RW_lv (ks := [0, 1, 2]) ?_
  refine CW_seq ?_
  refine CW_seq ?_
  refine CW_region ?_
  refine RW_m ?_
  refine RW_l (Yl_len rfl sl_23) ?_
  refine RW_l (Yl_gtr rfl rfl) ?_
  refine RW_lv (ks := [0, 1, 2, 16]) ?_
  refine CW_cond rfl (fun hc1 => ?_) (fun hc1 => ?_)
  · replace hc1 := of_decide_eq_true hc1
    exfalso; omega
  · replace hc1 := of_decide_eq_false hc1
    refine (CW_skip (QW_lv (ks := [0, 1, 2]) ?_))
    refine CW_seq ?_
    refine CW_seq ?_
    refine CW_region ?_
    refine RW_m ?_
    refine RW_l (Yl_len rfl sl_23) ?_
    refine RW_l (Yl_eql rfl rfl) ?_
    refine RW_m ?_
    refine RW_bool 20 rfl (fun hg2 => ?_) (fun hg2 => ?_)
    · replace hg2 := of_decide_eq_true hg2
      exfalso
      omega
    · replace hg2 := of_decide_eq_false hg2
      refine RW_gy rfl rfl rfl (Yl.h (Yl_move rfl)) ?_
      refine RW_gy rfl rfl rfl (Yl.h (Yl_len rfl sl_23)) ?_
      refine RW_gy rfl rfl rfl (Yl.h (Yl_gtr rfl rfl)) ?_
      refine RW_l (Yl_pick_f rfl rfl) ?_
      refine RW_lv (ks := [0, 1, 2, 24]) ?_
      refine CW_cond rfl (fun hc3 => ?_) (fun hc3 => ?_)
      · replace hc3 := of_decide_eq_true hc3
        exfalso
        omega
      · replace hc3 := of_decide_eq_false hc3
        refine (CW_skip (QW_lv (ks := [0, 1, 2]) ?_))
        refine CW_seq ?_
        refine CW_region ?_
        refine RW_a ?_
        refine RW_lv (ks := [0, 1, 2, 7]) ?_
        refine CW_seq ?_
        refine CW_seq ?_
        refine CW_region ?_
        refine RW_m ?_
        refine RW_l (Yl_len rfl sl_23) ?_
        refine RW_m ?_
        refine RW_lv (ks := [0, 2, 7, 25, 26, 27]) ?_
        refine CW_block ?_
        refine CW_loop (σ := Nat) (fun q => [(0, .int .u8 (sg : Int)), (2, .bool four), (7, .string (bar (txt (nm.take q)))), (25, .slice (some ⟨bn, on, none⟩) n cn), (26, nv n), (27, nv q)]) (fun q => (2, blk ps T) :: (D ++ F)) (fun q => q ≤ n) (fun q => n - q) 0 (Nat.zero_le _) (by repeat (first | exact Prm.nil _ | exact Rem.here _ _ | apply Rem.there | apply Prm.cons)) (.cons rfl (.cons rfl (.cons rfl (.cons rfl (.cons rfl (.cons rfl .nil)))))) ?_
        rintro i hi
        refine CW_seq ?_
        refine CW_region ?_
        refine RW_l (Yl_lss rfl rfl) ?_
        refine RW_lv (ks := [0, 2, 7, 25, 26, 27, 28]) ?_
        refine CW_seq ?_
        refine CW_cond rfl (fun hc4 => ?_) (fun hc4 => ?_)
        · replace hc4 := of_decide_eq_true hc4
          refine (CW_skip (QW_lv (ks := [0, 2, 7, 25, 26, 27]) ?_))
          refine CW_seq ?_
          refine CW_block ?_
          refine CW_seq ?_
          have hx255 := (nm.getD i 0).toNat_lt
          refine CW_region ?_
          refine RW_l (Yl_indexN (b := bn) (off := on) (i := i) (o' := on + i) rfl rfl sl_23 (by omega) (by omega)) ?_
          refine RW_h (Yh_load (v := bv (nm.getD i 0)) rfl sc_5 ((show List.Sublist ((2, blk ps T) :: D) _ by repeat (first | exact .cons_cons _ (List.sublist_append_left _ _) | apply List.Sublist.cons)).subset hmem) (hln i (by omega))) ?_
          refine RW_a ?_
          refine RW_lv (ks := [0, 2, 7, 9, 25, 26, 27]) ?_
          refine CW_region ?_
          refine RW_m ?_
          refine RW_m ?_
          refine RW_l (Yl_rem (c := (((nm.getD i 0).toNat % 26 : Nat) : Int)) rfl rfl (by omega) (remN (nm.getD i 0).toNat 26)) ?_
          refine RW_l (Yl_add (c := ((65 + (nm.getD i 0).toNat % 26 : Nat) : Int)) rfl rfl (wu8 (by omega) (by omega))) ?_
          refine RW_l (Yl_conv (c := ((65 + (nm.getD i 0).toNat % 26 : Nat) : Int)) rfl in_5 in_21 (wi32 (by omega) (by omega))) ?_
          refine RW_l (Yl_rune (n := 65 + (nm.getD i 0).toNat % 26) rfl in_21 st_9 (by omega)) ?_
          refine RW_l (Yl_concatB (a := (txt (nm.take i))) (b := [UInt8.ofNat (65 + (nm.getD i 0).toNat % 26)]) rfl rfl (by simp [txt]; omega)) ?_
          refine RW_a ?_
          refine RW_nil ?_
          refine QW_normal_block ?_
          refine (QW_lv (ks := [0, 2, 7, 25, 26, 27]) ?_)
          refine CW_region ?_
          refine RW_l (Yl_add (c := ((i + 1 : Nat) : Int)) rfl rfl (wi64 (by omega) (by omega))) ?_
          refine RW_m ?_
          refine RW_nil ?_
          have hsx := txt_succ (l := nm) (i := i) (by omega)
          rw [← hsx]
          exact QW_round (i + 1) (by omega) (by omega) (by repeat (first | exact Prm.nil _ | exact Rem.here _ _ | apply Rem.there | apply Prm.cons)) (.cons rfl (.cons rfl (.cons rfl (.cons rfl (.cons rfl (.cons rfl .nil))))))
        · replace hc4 := of_decide_eq_false hc4
          refine CW_exit ?_
          refine QW_exit_then ?_
          refine QW_exit_then ?_
          refine QW_exit_block ?_
          refine (QW_lv (ks := [0, 2, 7]) ?_)
          refine CW_seq ?_
          have hin : i = n := by omega
          rw [hin, hnl, List.take_length]
          obtain ⟨fst, hfst⟩ : ∃ x, x = 1 + sg % 31 := ⟨_, rfl⟩
          have htx : ∀ c ∈ txt nm, c.toNat < 128 := by
            intro c hc
            obtain ⟨x, _, rfl⟩ := List.mem_map.1 hc
            rw [UInt8.toNat_ofNat']; omega
          refine CW_region ?_
          refine RW_m ?_
          refine RW_l (Yl_rem (c := ((sg % 31 : Nat) : Int)) rfl rfl (by omega) (remN sg 31)) ?_
          refine RW_l (Yl_add (c := (fst : Int)) rfl rfl (by rw [hfst]; exact wu8 (by omega) (by omega))) ?_
          refine RW_a ?_
          refine RW_lv (ks := [2, 7, 10]) ?_
          refine CW_seq ?_
          refine CW_region ?_
          refine RW_l (Yl_build (cs := (plainNm rootName (-1) (-1) 1).cells) pl_43 ze_43 rfl rfl) ?_
          refine RW_m ?_
          refine RW_l (Yl_conv (c := (fst : Int)) rfl in_5 in_21 (wi32 (by omega) (by omega))) ?_
          refine RW_l (Yl_rune (n := fst) rfl in_21 st_9 (by omega)) ?_
          refine RW_m ?_
          refine RW_l (Yl_concatB (a := [UInt8.ofNat fst]) (b := txt nm) rfl rfl (by simp [txt]; omega)) ?_
          refine RW_fx rfl rfl rfl (Fx_litS (vs := bys [1, 2, 3]) sl_23 ze_5 rfl rfl rfl rfl rfl) ?_
          rintro _ _ ⟨b48, rfl, rfl⟩
          refine RW_l (Yl_build (cs := (inNm fst (txt nm) b48).cells) pl_43 ze_43 rfl rfl) ?_
          refine RW_fx rfl rfl rfl (Fx_lit (vs := [.agg (plainNm rootName (-1) (-1) 1).cells.toArray, .agg (inNm fst (txt nm) b48).cells.toArray]) (css := [(plainNm rootName (-1) (-1) 1).cells, (inNm fst (txt nm) b48).cells]) (cs := nms (inNs fst (txt nm) b48)) sl_25 ze_43 rfl rfl rfl rfl rfl (by intro c hc; simp only [List.mem_cons, List.not_mem_nil, or_false] at hc; rcases hc with rfl | rfl <;> exact Nm.length_cells _) (by simp [inNs, nms])) ?_
          rintro _ _ ⟨g, rfl, rfl⟩
          refine RW_a ?_
          refine RW_lv (ks := [2, 7, 10, 11]) ?_
          refine CW_seq ?_
          have hw := write_ct g 2 (verF four) 0 (inNs fst (txt nm) b48) [] (inXs fst (txt nm)) rfl inXs_ok (inNs_ok (by simp [txt]; omega)) (by rcases verF_or four with e | e <;> omega) (by omega)
          rw [List.append_nil] at hw
          have hnh : nmsH (inNs fst (txt nm) b48) = [(b48, blk (bys [1, 2, 3]) 5)] := rfl
          rw [hnh] at hw
          change Ct Tryd.prog 15 [.slice (some ⟨g, 0, none⟩) 2 2, _, _] _ _ at hw
          refine CW_region ?_
          refine RW_m ?_
          refine RW_m ?_
          refine RW_fx rfl rfl rfl (Fx_callQ ok_16 (vs := [.bool four]) (R := fun v => v = nv (verF four)) rfl (Pick.nil _) (versionOf_ct four)) ?_
          rintro _ _ ⟨rfl, rfl⟩
          refine RW_fx rfl rfl rfl (Fx_call ok_15 (vs := [.slice (some ⟨g, 0, none⟩) 2 2, nv (verF four), nv 0]) rfl (Pick.cons (by repeat (first | exact Rem.here _ _ | apply Rem.there)) (Pick.cons (by repeat (first | exact Rem.here _ _ | apply Rem.there)) (Pick.nil _))) hw) ?_
          rintro _ _ ⟨_, ⟨g1, rfl, rfl⟩, rfl⟩
          simp only [List.cons_append, List.nil_append]
          refine RW_fx rfl rfl rfl (Fx_call ok_18 (vs := [.slice (some ⟨g1, 0, none⟩) (NF (verF four) (inXs fst (txt nm))) (NF (verF four) (inXs fst (txt nm)))]) rfl (Pick.cons (by repeat (first | exact Rem.here _ _ | apply Rem.there)) (Pick.cons (by repeat (first | exact Rem.here _ _ | apply Rem.there)) (Pick.nil _))) (Initial_entries (T := T) (four := four) hp (by omega) (by simp [txt]; omega) htx g1)) ?_
          rintro _ _ ⟨_, ⟨go, cap, l, rfl, hl27, hl30, hl31, rfl⟩, rfl⟩
          simp only [List.cons_append, List.nil_append]
          refine RW_m ?_
          refine RW_l (Yl_extract (v := .slice (some ⟨go, 0, none⟩) 2 cap) rfl rfl) ?_
          refine RW_l (Yl_extract (v := nv 0) rfl rfl) ?_
          refine RW_a ?_
          refine RW_a ?_
          refine RW_lv (ks := [7, 10, 12, 13]) ?_
          refine CW_seq ?_
          refine CW_region ?_
          refine RW_m ?_
          refine RW_l (Yl_eql rfl rfl) ?_
          refine RW_m ?_
          refine RW_bool 61 rfl (fun hg5 => ?_) (fun hg5 => ?_)
          · replace hg5 := of_decide_eq_true hg5
            refine RW_gy rfl rfl rfl (Yl.h (Yl_move rfl)) ?_
            refine RW_gy rfl rfl rfl (Yl.h (Yl_len rfl sl_33)) ?_
            refine RW_gy rfl rfl rfl (Yl.h (Yl_eql rfl rfl)) ?_
            refine RW_l (Yl_pick_t rfl rfl) ?_
            refine RW_m ?_
            refine RW_bool 66 rfl (fun hg6 => ?_) (fun hg6 => ?_)
            · replace hg6 := of_decide_eq_true hg6
              refine RW_gy rfl rfl rfl (Yl.h (Yl_move rfl)) ?_
              refine RW_gy rfl rfl rfl (Yl.h (Yl_indexN (b := go) (off := 0) (i := 1) (o' := 27) rfl rfl sl_33 (by omega) (by omega))) ?_
              refine RW_gy rfl rfl rfl (Yl.h (Yl_field rfl fo_41_0)) ?_
              refine RW_gy rfl rfl rfl (Yh_load (v := .string (bar (txt nm))) rfl sc_9 (by repeat (first | exact List.Mem.head _ | apply List.Mem.tail)) hl27) ?_
              refine RW_gy rfl rfl rfl (Yl.h (Yl_move rfl)) ?_
              refine RW_gy rfl rfl rfl (Yl.h (Yl_strEq (s := bar (txt nm)) (r := bar (txt nm)) rfl rfl)) ?_
              refine RW_l (Yl_pick_t rfl rfl) ?_
              refine RW_m ?_
              refine RW_bool 74 rfl (fun hg7 => ?_) (fun hg7 => ?_)
              · skip
                refine RW_gy rfl rfl rfl (Yl.h (Yl_move rfl)) ?_
                refine RW_gy rfl rfl rfl (Yl.h (Yl_indexN (b := go) (off := 0) (i := 1) (o' := 27) rfl rfl sl_33 (by omega) (by omega))) ?_
                refine RW_gy rfl rfl rfl (Yl.h (Yl_field rfl fo_41_4)) ?_
                refine RW_gy rfl rfl rfl (Yh_load (v := .int .i64 (fst : Int)) rfl sc_3 (by repeat (first | exact List.Mem.head _ | apply List.Mem.tail)) hl31) ?_
                refine RW_gy rfl rfl rfl (Yl.h (Yl_move rfl)) ?_
                refine RW_gy rfl rfl rfl (Yl.h (Yl_conv (c := (fst : Int)) rfl in_5 in_3 (wi64 (by omega) (by omega)))) ?_
                refine RW_gy rfl rfl rfl (Yl.h (Yl_eql rfl rfl)) ?_
                refine RW_l (Yl_pick_t rfl rfl) ?_
                refine RW_m ?_
                refine RW_bool 83 rfl (fun hg8 => ?_) (fun hg8 => ?_)
                · replace hg8 := of_decide_eq_true hg8
                  refine RW_gy rfl rfl rfl (Yl.h (Yl_move rfl)) ?_
                  refine RW_gy rfl rfl rfl (Yl.h (Yl_indexN (b := go) (off := 0) (i := 1) (o' := 27) rfl rfl sl_33 (by omega) (by omega))) ?_
                  refine RW_gy rfl rfl rfl (Yl.h (Yl_field rfl fo_41_3)) ?_
                  refine RW_gy rfl rfl rfl (Yh_load (v := .int .i64 3) rfl sc_2 (by repeat (first | exact List.Mem.head _ | apply List.Mem.tail)) hl30) ?_
                  refine RW_gy rfl rfl rfl (Yl.h (Yl_eql rfl rfl)) ?_
                  refine RW_l (Yl_pick_t rfl rfl) ?_
                  refine RW_a ?_
                  refine RW_lv (ks := [6]) ?_
                  refine CW_ret ?_
                  refine QW_dropB (e := (go, _)) (by repeat (first | exact Rem.here _ _ | apply Rem.there)) ?_
                  refine QW_dropB (e := (g1, _)) (by repeat (first | exact Rem.here _ _ | apply Rem.there)) ?_
                  refine QW_dropB (e := (g, _)) (by repeat (first | exact Rem.here _ _ | apply Rem.there)) ?_
                  refine QW_dropB (e := (b48, _)) (by repeat (first | exact Rem.here _ _ | apply Rem.there)) ?_
                  exact QW_ret1 rfl rfl (_ :: D) ⟨rfl, rfl⟩ (by repeat (first | exact Prm.nil _ | exact Rem.here _ _ | apply Rem.there | apply Prm.cons))
                · replace hg8 := of_decide_eq_false hg8
                  exact absurd rfl hg8
              · skip
                simp at hg7
            · replace hg6 := of_decide_eq_false hg6
              exact absurd rfl hg6
          · replace hg5 := of_decide_eq_false hg5
            exact absurd rfl hg5
end Go.Proofs.YtgoddcicbpjknaaDoor

/-! Values: the order of nodes in memory, with paths. -/
set_option maxRecDepth 20000
namespace Go.Proofs.YtgoddcicbpjknaaDoor
open Go
open Cfb
/-- Values that are paths. -/
structure VsOk (pp : Heap) (vs : List Value) (ps : List (List (List UInt8))) : Prop where
  len : vs.length = ps.length
  get : ∀ i, i < ps.length → PathC pp (vs.getD i undef) (ps.getD i [])
theorem VsOk.nil (pp : Heap) : VsOk pp [] [] := ⟨rfl, fun i h => by simp at h⟩
theorem VsOk.more {pp qq : Heap} {vs : List Value} {ps : List (List (List UInt8))} (h : VsOk pp vs ps) (hs : ∀ x ∈ pp, x ∈ qq) : VsOk qq vs ps := ⟨h.len, fun i hi => (h.get i hi).more hs⟩
theorem VsOk.snoc {pp : Heap} {vs : List Value} {ps : List (List (List UInt8))} {v : Value} {p : List (List UInt8)} (h : VsOk pp vs ps) (hv : PathC pp v p) : VsOk pp (vs ++ [v]) (ps ++ [p]) := by
  have hl := h.len
  refine ⟨by simp [hl], fun i hi => ?_⟩
  simp only [List.getD_eq_getElem?_getD]
  rw [List.length_append, List.length_singleton] at hi
  by_cases e : i = ps.length
  · subst e
    rw [List.getElem?_append_right (Nat.le_refl _), List.getElem?_append_right (by omega), hl]
    simpa using hv
  · have hi' : i < ps.length := by omega
    rw [List.getElem?_append_left hi', List.getElem?_append_left (by omega)]
    have := h.get i hi'
    simpa only [List.getD_eq_getElem?_getD] using this
theorem take_strs (p : List (List UInt8)) (r : List Value) : (strs p ++ r).take p.length = strs p := by
  have h : p.length = (strs p).length := by simp
  rw [h, List.take_left]
/-- A path is put behind no text. -/
theorem Fx_patha {E : World} {L : Fra} {H R : Heap} {dst : Option Tmp} {ty : TypeId} {pos : String} {aft : Array Edge} {gd : Option (Nat × Bool)} {x y : Operand} {g : Nat} {v : Value} {p : List (List UInt8)} {pp : Heap} (hx : ev L x = some (.slice (some ⟨g, 0, none⟩) 0 0)) (hy : ev L y = some v) (hg : Rem H (g, blk [] 9) R) (hp : PathC pp v p) (hs : ∀ x ∈ pp, x ∈ H) (hp1 : p.length ≤ 1000000) :
    Fx Tryd.prog E L H ⟨dst, .call ⟨.builtin .append, #[x, y], #[36, 36]⟩, ty, pos, aft, gd⟩ (fun u H'' => ∃ g' cap' r', u = .slice (some ⟨g', 0, none⟩) p.length cap' ∧ (strs p ++ r').length = cap' * 1 ∧ H'' = (g', blk (strs p ++ r') 9) :: R) := by
  intro n a w next Q hf hh k
  rcases hp with ⟨rfl, rfl⟩ | ⟨b, cap, r, hne, rfl, hm⟩
  · refine (Yl.h (Yl_append0 (P := Tryd.prog) hx hy sl_36 (Nat.le_refl _))).fx n a w next Q hf hh ?_
    rintro v w' H' ⟨rfl, rfl⟩ hh'
    exact k _ w' _ ⟨g, 0, [], rfl, rfl, rfl⟩ (hh'.perm hg.perm)
  · refine Fx_appG (P := Tryd.prog) (xs := []) (r := []) (news := strs p) (cap := 0) hx hy sl_36 by_9 ze_9 rfl (hs _ hm) hg rfl rfl (by rw [List.drop_zero, Nat.mul_one]; exact take_strs p r) (by simp) (one_map (fun _ => rfl) p) (by omega) (by omega) (by omega) n a w next Q hf hh ?_
    rintro v w' H' ⟨g', cap', r', rfl, h1, rfl⟩ hh'
    rw [Nat.zero_add, List.nil_append] at *
    exact k _ w' _ ⟨g', cap', r', rfl, h1, rfl⟩ hh'
theorem strs_snoc (p : List (List UInt8)) (s : List UInt8) : strs p ++ [.string (bar s)] = strs (p ++ [s]) := by simp [strs]
theorem at_link {l : List Nm} {r : List Value} {k o : Nat} (hk : k < l.length) (ho : o = k * 28 + 3) : (nms l ++ r)[o]? = some (iv (lfF l k)) := by
  rw [ho, nms_cell l r k 3 hk (by omega)]; rfl
theorem at_right {l : List Nm} {r : List Value} {k o : Nat} (hk : k < l.length) (ho : o = k * 28 + 4) : (nms l ++ r)[o]? = some (iv (rtF l k)) := by
  rw [ho, nms_cell l r k 4 hk (by omega)]; rfl
theorem at_child {l : List Nm} {r : List Value} {k o : Nat} (hk : k < l.length) (ho : o = k * 28 + 5) : (nms l ++ r)[o]? = some (iv (chdF l k)) := by
  rw [ho, nms_cell l r k 5 hk (by omega)]; rfl
def nmOf (l : List Nm) (k : Nat) : List UInt8 := (l.getD k default).nd.name
theorem at_nm {l : List Nm} {r : List Value} {k o : Nat} (hk : k < l.length) (ho : o = k * 28) : (nms l ++ r)[o]? = some (.string (bar (nmOf l k))) := at_name hk ho
end Go.Proofs.YtgoddcicbpjknaaDoor

/-! Walks: Order. -/
set_option maxRecDepth 20000
namespace Go.Proofs.YtgoddcicbpjknaaDoor
open Go
open Cfb
/-- What a call of the closure does. -/
def OCt (ns : List Nm) (g cap bF bn bo bp : Nat) (rn : List Value) (t : Int) (p : List (List UInt8)) (o : List (Nat × List (List UInt8))) : Prop :=
  ∀ (done : List (Nat × List (List UInt8))) (vs : List Value) (go co gp cp : Nat) (ro rp : List Value) (pp : Heap) (v : Value), PathC pp v p → VsOk pp vs (done.map Prod.snd) → (nats (done.map Prod.fst) ++ ro).length = co → (vs ++ rp).length = cp → done.length + o.length ≤ 1000 → p.length + o.length ≤ 1000 →
    Ct Tryd.prog 30 [iv t, v, pv bF, pv bn, pv bo, pv bp] ((bF, blk [.func (.func 30) #[] #[pv bF, pv bn, pv bo, pv bp]] 77) :: (bn, blk [.slice (some ⟨g, 0, none⟩) ns.length cap] 25) :: (g, blk (nms ns ++ rn) 43) :: (bo, blk [.slice (some ⟨go, 0, none⟩) done.length co] 29) :: (go, blk (nats (done.map Prod.fst) ++ ro) 3) :: (bp, blk [.slice (some ⟨gp, 0, none⟩) done.length cp] 30) :: (gp, blk (vs ++ rp) 36) :: pp)
      (fun u q => u = .tuple #[] ∧ ∃ vs' go' co' gp' cp' ro' rp' pp', VsOk pp' vs' ((done ++ o).map Prod.snd) ∧ (nats ((done ++ o).map Prod.fst) ++ ro').length = co' ∧ (vs' ++ rp').length = cp' ∧ (∀ x ∈ pp, x ∈ pp') ∧ q = (bF, blk [.func (.func 30) #[] #[pv bF, pv bn, pv bo, pv bp]] 77) :: (bn, blk [.slice (some ⟨g, 0, none⟩) ns.length cap] 25) :: (g, blk (nms ns ++ rn) 43) :: (bo, blk [.slice (some ⟨go', 0, none⟩) (done ++ o).length co'] 29) :: (go', blk (nats ((done ++ o).map Prod.fst) ++ ro') 3) :: (bp, blk [.slice (some ⟨gp', 0, none⟩) (done ++ o).length cp'] 30) :: (gp', blk (vs' ++ rp') 36) :: pp')
set_option maxHeartbeats 4000000 in
theorem order_nil (ns : List Nm) (g cap bF bn bo bp : Nat) (rn : List Value) (p : List (List UInt8)) : OCt ns g cap bF bn bo bp rn (-1) p [] := by
  unfold OCt
  intro done vs go co gp cp ro rp pp v hv hvs hro hrp hl hpl
  refine Ct_of Tryd.func30 rfl Tryd.ntmps30 rfl ?_
  intro E F
  simp only [numL, List.nil_append, List.cons_append]
  refine CW_seq ?_
  refine CW_seq ?_
  refine CW_region ?_
  refine RW_m ?_
  refine RW_l (Yl_lss rfl rfl) ?_
  refine RW_lv (ks := [0, 1, 2, 3, 4, 5, 10]) ?_
  refine CW_cond rfl (fun hc1 => ?_) (fun hc1 => ?_)
  · replace hc1 := of_decide_eq_true hc1
    refine CW_ret ?_
    refine QW_ret_then ?_
    refine QW_ret0 rfl ((bF, blk [.func (.func 30) #[] #[pv bF, pv bn, pv bo, pv bp]] 77) :: (bn, blk [.slice (some ⟨g, 0, none⟩) ns.length cap] 25) :: (g, blk (nms ns ++ rn) 43) :: (bo, blk [.slice (some ⟨go, 0, none⟩) done.length co] 29) :: (go, blk (nats (done.map Prod.fst) ++ ro) 3) :: (bp, blk [.slice (some ⟨gp, 0, none⟩) done.length cp] 30) :: (gp, blk (vs ++ rp) 36) :: pp) ⟨rfl, vs, go, co, gp, cp, ro, rp, pp, by simpa using hvs, by simpa using hro, hrp, fun _ h => h, by rw [List.append_nil]⟩ (Prm.nil _)
  · replace hc1 := of_decide_eq_false hc1
    exfalso; omega
set_option maxHeartbeats 4000000 in
theorem order_step (ns : List Nm) (g cap bF bn bo bp : Nat) (rn : List Value) (k : Nat) (hk : k < ns.length) (hk2 : ns.length ≤ 1000) (p : List (List UInt8)) (a c b : List (Nat × List (List UInt8))) (iha : OCt ns g cap bF bn bo bp rn (lfF ns k) p a) (ihc : OCt ns g cap bF bn bo bp rn (chdF ns k) (if k = 0 then p else p ++ [nmOf ns k]) c) (ihb : OCt ns g cap bF bn bo bp rn (rtF ns k) p b) : OCt ns g cap bF bn bo bp rn (k : Int) p (a ++ (k, p) :: (c ++ b)) := by
  unfold OCt at *
  intro done vs go co gp cp ro rp pp v hv hvs hro hrp hl hpl
  have hlen : (a ++ (k, p) :: (c ++ b)).length = a.length + 1 + (c.length + b.length) := by simp; omega
  rw [hlen] at hl hpl
  refine Ct_of Tryd.func30 rfl Tryd.ntmps30 rfl ?_
  intro E F
  simp only [numL, List.nil_append, List.cons_append]
  refine CW_seq ?_
  refine CW_seq ?_
  refine CW_region ?_
  refine RW_m ?_
  refine RW_l (Yl_lss rfl rfl) ?_
  refine RW_lv (ks := [0, 1, 2, 3, 4, 5, 10]) ?_
  refine CW_cond rfl (fun hc1 => ?_) (fun hc1 => ?_)
  · replace hc1 := of_decide_eq_true hc1
    exfalso; omega
  · replace hc1 := of_decide_eq_false hc1
    refine (CW_skip (QW_lv (ks := [0, 1, 2, 3, 4, 5]) ?_))
    refine CW_seq ?_
    have hih := iha done vs go co gp cp ro rp pp v hv hvs hro hrp (by omega) (by omega)
    refine CW_draw [7] _ mixed (Sub.refl _) ?_
    refine RD_l 2 rfl (Yl_move rfl) ?_
    refine RD_l 6 rfl (Yl_move rfl) ?_
    refine RD_h (i := 0) #[false, true, true, true, true, true, true, false] rfl rfl rfl rfl (by kernel_rfl) (fun _ _ _ h => h) (Yh_load (v := .func (.func 30) #[] #[pv bF, pv bn, pv bo, pv bp]) rfl sc_77 (by repeat (first | exact List.Mem.head _ | apply List.Mem.tail)) rfl) ?_
    refine RD_h (i := 1) #[true, false, true, false, false, false, true, false] rfl rfl rfl rfl (by kernel_rfl) (fun _ _ _ h => h) (Yh_load (v := .slice (some ⟨g, 0, none⟩) ns.length cap) rfl sc_25 (by repeat (first | exact List.Mem.head _ | apply List.Mem.tail)) rfl) ?_
    refine RD_l 3 rfl (Yl_indexN (b := g) (off := 0) (i := k) (o' := k * 28) rfl rfl sl_25 hk (by omega)) ?_
    refine RD_l 4 rfl (Yl_field rfl fo_43_3) ?_
    refine RD_h (i := 5) #[true, true, true, true, true, false, true, false] rfl rfl rfl rfl (by kernel_rfl) (fun _ _ _ h => h) (Yh_load (v := iv (lfF ns k)) rfl sc_3 (by repeat (first | exact List.Mem.head _ | apply List.Mem.tail)) (at_link hk rfl)) ?_
    refine RD_one (i := 7) (by kernel_rfl) ?_
    refine RO_fx rfl rfl rfl rfl (Fx_callV ok_30 (fs := []) (cs := [pv bF, pv bn, pv bo, pv bp]) (vs := [iv (lfF ns k), v]) rfl rfl (by exact (Pick.cons (by repeat (first | exact Rem.here _ _ | apply Rem.there)) (Pick.cons (by repeat (first | exact Rem.here _ _ | apply Rem.there)) (Pick.cons (by repeat (first | exact Rem.here _ _ | apply Rem.there)) (Pick.cons (by repeat (first | exact Rem.here _ _ | apply Rem.there)) (Pick.cons (by repeat (first | exact Rem.here _ _ | apply Rem.there)) (Pick.cons (by repeat (first | exact Rem.here _ _ | apply Rem.there)) (Pick.cons (by repeat (first | exact Rem.here _ _ | apply Rem.there)) (pick_app _ F))))))))) hih) ?_
    rintro _ _ ⟨_, ⟨rfl, vs1, go1, co1, gp1, cp1, ro1, rp1, pp1, hvs1, hro1, hrp1, hsub1, rfl⟩, rfl⟩
    simp only [List.cons_append]
    refine ⟨Or.inl (by kernel_rfl), ?_⟩
    refine (RD_done (by kernel_rfl) (QW_lv (ks := [0, 1, 2, 3, 4, 5]) ?_))
    obtain ⟨d1, hd1⟩ : ∃ d1, d1 = done ++ a := ⟨_, rfl⟩
    rw [← hd1] at hvs1 hro1
    rw [← hd1]
    replace hv := hv.more hsub1
    clear hih hvs
    have hdl : d1.length = done.length + a.length := by rw [hd1]; simp
    have hv1 := hv.one.1
    obtain ⟨d2, hd2⟩ : ∃ d2, d2 = d1 ++ [(k, p)] := ⟨_, rfl⟩
    have e1 : nats (d1.map Prod.fst) ++ [nv k] = nats (d2.map Prod.fst) := by rw [hd2]; simp
    have e2 : d1.length + 1 = d2.length := by rw [hd2]; simp
    have hvs2 := hvs1.snoc hv
    have e3 : d1.map Prod.snd ++ [p] = d2.map Prod.snd := by rw [hd2]; simp
    rw [e3] at hvs2
    obtain ⟨vs2, hvs2e⟩ : ∃ z, z = vs1 ++ [v] := ⟨_, rfl⟩
    rw [← hvs2e] at hvs2
    refine CW_cut (σ := Nat × Nat × Nat × Nat × List Value × List Value) (fun _ => [(0, nv k), (1, v), (2, pv bF), (3, pv bn)]) (fun q => (bF, blk [.func (.func 30) #[] #[pv bF, pv bn, pv bo, pv bp]] 77) :: (bn, blk [.slice (some ⟨g, 0, none⟩) ns.length cap] 25) :: (g, blk (nms ns ++ rn) 43) :: (bo, blk [.slice (some ⟨q.1, 0, none⟩) d2.length q.2.1] 29) :: (q.1, blk (nats (d2.map Prod.fst) ++ q.2.2.2.2.1) 3) :: (bp, blk [.slice (some ⟨q.2.2.1, 0, none⟩) d2.length q.2.2.2.1] 30) :: (q.2.2.1, blk (vs2 ++ q.2.2.2.2.2) 36) :: (pp1 ++ F)) (fun q => (nats (d2.map Prod.fst) ++ q.2.2.2.2.1).length = q.2.1 ∧ (vs2 ++ q.2.2.2.2.2).length = q.2.2.2.1) ?_ ?_
    · skip
      refine CW_draw [8, 9] [(bo, blk [.slice (some ⟨go1, 0, none⟩) d1.length co1] 29), (bp, blk [.slice (some ⟨gp1, 0, none⟩) d1.length cp1] 30)] mixed (by repeat (first | exact Sub.nil _ | apply Sub.cons | exact Rem.here _ _ | apply Rem.there)) ?_
      refine RD_l 1 rfl (Yl_move rfl) ?_
      refine RD_l 5 rfl (Yl_move rfl) ?_
      refine RD_h (i := 0) #[false, true, true, false, true, true, true, false, false, false] rfl rfl rfl rfl (by kernel_rfl) (fun _ _ _ h => h) (Yh_load (v := .slice (some ⟨go1, 0, none⟩) d1.length co1) rfl sc_29 (by repeat (first | exact List.Mem.head _ | apply List.Mem.tail)) rfl) ?_
      refine RD_h (i := 4) #[true, true, true, true, false, true, true, false, false, false] rfl rfl rfl rfl (by kernel_rfl) (fun _ _ _ h => h) (Yh_load (v := .slice (some ⟨gp1, 0, none⟩) d1.length cp1) rfl sc_30 (by repeat (first | exact List.Mem.head _ | apply List.Mem.tail)) rfl) ?_
      refine RD_two (i := 2) (j := 6) (by kernel_rfl) ?_ ?_
      · skip
        refine RO_fx rfl rfl rfl rfl (Fx_litS (vs := [nv k]) sl_29 ze_3 rfl rfl rfl rfl rfl) ?_
        rintro _ _ ⟨b21, rfl, rfl⟩
        refine ⟨Or.inr (by repeat (first | exact Sub.nil _ | apply Sub.cons | exact Rem.here _ _ | apply Rem.there)), ?_⟩
        refine RD_two (i := 3) (j := 6) (by kernel_rfl) ?_ ?_
        · skip
          refine RO_fx rfl rfl rfl rfl (Fx_appTG (xs := nats (d1.map Prod.fst)) (r := ro1) (news := [nv k]) (n := d1.length) (cap := co1) (m := 1) (c := 1) rfl rfl sl_29 by_3 ze_3 rfl (by repeat (first | exact Rem.here _ _ | apply Rem.there)) (by repeat (first | exact Rem.here _ _ | apply Rem.there)) (by rw [hro1, Nat.mul_one]) (by simp) rfl (by intro u hu; rw [List.mem_singleton.1 hu]; rfl) (by omega) (by omega) (by omega)) ?_
          rintro _ _ ⟨go2, co2, ro2, rfl, hro2, rfl⟩
          refine ⟨Or.inr (by repeat (first | exact Sub.nil _ | apply Sub.cons | exact Rem.here _ _ | apply Rem.there)), ?_⟩
          refine RD_one (i := 6) (by kernel_rfl) ?_
          refine RO_fx rfl rfl rfl rfl (Fx_litS (vs := [v]) sl_30 ze_36 rfl rfl rfl rfl (by simp [hv1])) ?_
          rintro _ _ ⟨b25, rfl, rfl⟩
          refine ⟨Or.inr (by repeat (first | exact Sub.nil _ | apply Sub.cons | exact Rem.here _ _ | apply Rem.there)), ?_⟩
          refine RD_one (i := 7) (by kernel_rfl) ?_
          refine RO_fx rfl rfl rfl rfl (Fx_appTG (xs := vs1) (r := rp1) (news := [v]) (n := d1.length) (cap := cp1) (m := 1) (c := 1) rfl rfl sl_30 by_36 ze_36 rfl (by repeat (first | exact Rem.here _ _ | apply Rem.there)) (by repeat (first | exact Rem.here _ _ | apply Rem.there)) (by rw [hrp1, Nat.mul_one]) (by rw [hvs1.len, List.length_map, Nat.mul_one]) rfl (by intro u hu; rw [List.mem_singleton.1 hu]; exact hv1) (by omega) (by omega) (by omega)) ?_
          rintro _ _ ⟨gp2, cp2, rp2, rfl, hrp2, rfl⟩
          refine ⟨Or.inr (by repeat (first | exact Sub.nil _ | apply Sub.cons | exact Rem.here _ _ | apply Rem.there)), ?_⟩
          refine RD_one (i := 8) (by kernel_rfl) ?_
          refine RO_fx0 rfl rfl rfl (Fx_store (v := .slice (some ⟨go2, 0, none⟩) (d1.length + 1) co2) (b := bo) (off := 0) rfl rfl sz_29 rfl (by repeat (first | exact Rep.here _ _ _ | apply Rep.there)) (by simp)) ?_
          rintro _ _ rfl
          refine ⟨Or.inl (by kernel_rfl), ?_⟩
          refine RD_one (i := 9) (by kernel_rfl) ?_
          refine RO_fx0 rfl rfl rfl (Fx_store (v := .slice (some ⟨gp2, 0, none⟩) (d1.length + 1) cp2) (b := bp) (off := 0) rfl rfl sz_30 rfl (by repeat (first | exact Rep.here _ _ _ | apply Rep.there)) (by simp)) ?_
          rintro _ _ rfl
          refine ⟨Or.inl (by kernel_rfl), ?_⟩
          refine RD_done (by kernel_rfl) ?_
          rw [e1] at hro2
          rw [← hvs2e] at hrp2
          rw [e1, e2, ← hvs2e]
          rw [Nat.mul_one] at hro2 hrp2
          exact QW_cut (go2, co2, gp2, cp2, ro2, rp2) ⟨hro2, hrp2⟩ (by repeat (first | exact Prm.nil _ | exact Rem.here _ _ | apply Rem.there | apply Prm.cons)) (.cons rfl (.cons rfl (.cons rfl (.cons rfl .nil))))
        · skip
          refine RO_fx rfl rfl rfl rfl (Fx_litS (vs := [v]) sl_30 ze_36 rfl rfl rfl rfl (by simp [hv1])) ?_
          rintro _ _ ⟨b25, rfl, rfl⟩
          refine ⟨Or.inr (by repeat (first | exact Sub.nil _ | apply Sub.cons | exact Rem.here _ _ | apply Rem.there)), ?_⟩
          refine RD_one (i := 3) (by kernel_rfl) ?_
          refine RO_fx rfl rfl rfl rfl (Fx_appTG (xs := nats (d1.map Prod.fst)) (r := ro1) (news := [nv k]) (n := d1.length) (cap := co1) (m := 1) (c := 1) rfl rfl sl_29 by_3 ze_3 rfl (by repeat (first | exact Rem.here _ _ | apply Rem.there)) (by repeat (first | exact Rem.here _ _ | apply Rem.there)) (by rw [hro1, Nat.mul_one]) (by simp) rfl (by intro u hu; rw [List.mem_singleton.1 hu]; rfl) (by omega) (by omega) (by omega)) ?_
          rintro _ _ ⟨go2, co2, ro2, rfl, hro2, rfl⟩
          refine ⟨Or.inr (by repeat (first | exact Sub.nil _ | apply Sub.cons | exact Rem.here _ _ | apply Rem.there)), ?_⟩
          refine RD_one (i := 7) (by kernel_rfl) ?_
          refine RO_fx rfl rfl rfl rfl (Fx_appTG (xs := vs1) (r := rp1) (news := [v]) (n := d1.length) (cap := cp1) (m := 1) (c := 1) rfl rfl sl_30 by_36 ze_36 rfl (by repeat (first | exact Rem.here _ _ | apply Rem.there)) (by repeat (first | exact Rem.here _ _ | apply Rem.there)) (by rw [hrp1, Nat.mul_one]) (by rw [hvs1.len, List.length_map, Nat.mul_one]) rfl (by intro u hu; rw [List.mem_singleton.1 hu]; exact hv1) (by omega) (by omega) (by omega)) ?_
          rintro _ _ ⟨gp2, cp2, rp2, rfl, hrp2, rfl⟩
          refine ⟨Or.inr (by repeat (first | exact Sub.nil _ | apply Sub.cons | exact Rem.here _ _ | apply Rem.there)), ?_⟩
          refine RD_one (i := 8) (by kernel_rfl) ?_
          refine RO_fx0 rfl rfl rfl (Fx_store (v := .slice (some ⟨go2, 0, none⟩) (d1.length + 1) co2) (b := bo) (off := 0) rfl rfl sz_29 rfl (by repeat (first | exact Rep.here _ _ _ | apply Rep.there)) (by simp)) ?_
          rintro _ _ rfl
          refine ⟨Or.inl (by kernel_rfl), ?_⟩
          refine RD_one (i := 9) (by kernel_rfl) ?_
          refine RO_fx0 rfl rfl rfl (Fx_store (v := .slice (some ⟨gp2, 0, none⟩) (d1.length + 1) cp2) (b := bp) (off := 0) rfl rfl sz_30 rfl (by repeat (first | exact Rep.here _ _ _ | apply Rep.there)) (by simp)) ?_
          rintro _ _ rfl
          refine ⟨Or.inl (by kernel_rfl), ?_⟩
          refine RD_done (by kernel_rfl) ?_
          rw [e1] at hro2
          rw [← hvs2e] at hrp2
          rw [e1, e2, ← hvs2e]
          rw [Nat.mul_one] at hro2 hrp2
          exact QW_cut (go2, co2, gp2, cp2, ro2, rp2) ⟨hro2, hrp2⟩ (by repeat (first | exact Prm.nil _ | exact Rem.here _ _ | apply Rem.there | apply Prm.cons)) (.cons rfl (.cons rfl (.cons rfl (.cons rfl .nil))))
      · skip
        refine RO_fx rfl rfl rfl rfl (Fx_litS (vs := [v]) sl_30 ze_36 rfl rfl rfl rfl (by simp [hv1])) ?_
        rintro _ _ ⟨b25, rfl, rfl⟩
        refine ⟨Or.inr (by repeat (first | exact Sub.nil _ | apply Sub.cons | exact Rem.here _ _ | apply Rem.there)), ?_⟩
        refine RD_one (i := 2) (by kernel_rfl) ?_
        refine RO_fx rfl rfl rfl rfl (Fx_litS (vs := [nv k]) sl_29 ze_3 rfl rfl rfl rfl rfl) ?_
        rintro _ _ ⟨b21, rfl, rfl⟩
        refine ⟨Or.inr (by repeat (first | exact Sub.nil _ | apply Sub.cons | exact Rem.here _ _ | apply Rem.there)), ?_⟩
        refine RD_one (i := 3) (by kernel_rfl) ?_
        refine RO_fx rfl rfl rfl rfl (Fx_appTG (xs := nats (d1.map Prod.fst)) (r := ro1) (news := [nv k]) (n := d1.length) (cap := co1) (m := 1) (c := 1) rfl rfl sl_29 by_3 ze_3 rfl (by repeat (first | exact Rem.here _ _ | apply Rem.there)) (by repeat (first | exact Rem.here _ _ | apply Rem.there)) (by rw [hro1, Nat.mul_one]) (by simp) rfl (by intro u hu; rw [List.mem_singleton.1 hu]; rfl) (by omega) (by omega) (by omega)) ?_
        rintro _ _ ⟨go2, co2, ro2, rfl, hro2, rfl⟩
        refine ⟨Or.inr (by repeat (first | exact Sub.nil _ | apply Sub.cons | exact Rem.here _ _ | apply Rem.there)), ?_⟩
        refine RD_one (i := 7) (by kernel_rfl) ?_
        refine RO_fx rfl rfl rfl rfl (Fx_appTG (xs := vs1) (r := rp1) (news := [v]) (n := d1.length) (cap := cp1) (m := 1) (c := 1) rfl rfl sl_30 by_36 ze_36 rfl (by repeat (first | exact Rem.here _ _ | apply Rem.there)) (by repeat (first | exact Rem.here _ _ | apply Rem.there)) (by rw [hrp1, Nat.mul_one]) (by rw [hvs1.len, List.length_map, Nat.mul_one]) rfl (by intro u hu; rw [List.mem_singleton.1 hu]; exact hv1) (by omega) (by omega) (by omega)) ?_
        rintro _ _ ⟨gp2, cp2, rp2, rfl, hrp2, rfl⟩
        refine ⟨Or.inr (by repeat (first | exact Sub.nil _ | apply Sub.cons | exact Rem.here _ _ | apply Rem.there)), ?_⟩
        refine RD_one (i := 8) (by kernel_rfl) ?_
        refine RO_fx0 rfl rfl rfl (Fx_store (v := .slice (some ⟨go2, 0, none⟩) (d1.length + 1) co2) (b := bo) (off := 0) rfl rfl sz_29 rfl (by repeat (first | exact Rep.here _ _ _ | apply Rep.there)) (by simp)) ?_
        rintro _ _ rfl
        refine ⟨Or.inl (by kernel_rfl), ?_⟩
        refine RD_one (i := 9) (by kernel_rfl) ?_
        refine RO_fx0 rfl rfl rfl (Fx_store (v := .slice (some ⟨gp2, 0, none⟩) (d1.length + 1) cp2) (b := bp) (off := 0) rfl rfl sz_30 rfl (by repeat (first | exact Rep.here _ _ _ | apply Rep.there)) (by simp)) ?_
        rintro _ _ rfl
        refine ⟨Or.inl (by kernel_rfl), ?_⟩
        refine RD_done (by kernel_rfl) ?_
        rw [e1] at hro2
        rw [← hvs2e] at hrp2
        rw [e1, e2, ← hvs2e]
        rw [Nat.mul_one] at hro2 hrp2
        exact QW_cut (go2, co2, gp2, cp2, ro2, rp2) ⟨hro2, hrp2⟩ (by repeat (first | exact Prm.nil _ | exact Rem.here _ _ | apply Rem.there | apply Prm.cons)) (.cons rfl (.cons rfl (.cons rfl (.cons rfl .nil))))
    · rintro ⟨go2, co2, gp2, cp2, ro2, rp2⟩ ⟨hro2, hrp2⟩
      simp only at hro2 hrp2 ⊢
      refine CW_seq ?_
      refine CW_region ?_
      refine RW_m ?_
      refine RW_a ?_
      refine RW_lv (ks := [0, 1, 2, 3, 8]) ?_
      refine CW_cut (σ := Heap × Value) (fun q => [(0, nv k), (1, v), (2, pv bF), (3, pv bn), (8, q.2)]) (fun q => (bF, blk [.func (.func 30) #[] #[pv bF, pv bn, pv bo, pv bp]] 77) :: (bn, blk [.slice (some ⟨g, 0, none⟩) ns.length cap] 25) :: (g, blk (nms ns ++ rn) 43) :: (bo, blk [.slice (some ⟨go2, 0, none⟩) d2.length co2] 29) :: (go2, blk (nats (d2.map Prod.fst) ++ ro2) 3) :: (bp, blk [.slice (some ⟨gp2, 0, none⟩) d2.length cp2] 30) :: (gp2, blk (vs2 ++ rp2) 36) :: (q.1 ++ F)) (fun q => (∀ x ∈ pp1, x ∈ q.1) ∧ PathC q.1 q.2 (if k = 0 then p else p ++ [nmOf ns k])) ?_ ?_
      · skip
        refine CW_seq ?_
        refine CW_region ?_
        refine RW_m ?_
        refine RW_l (Yl_gtr rfl rfl) ?_
        refine RW_lv (ks := [0, 1, 2, 3, 8, 29]) ?_
        refine CW_cond rfl (fun hc2 => ?_) (fun hc2 => ?_)
        · replace hc2 := of_decide_eq_true hc2
          refine CW_draw [] [(bn, blk [.slice (some ⟨g, 0, none⟩) ns.length cap] 25), (g, blk (nms ns ++ rn) 43)] mixed (by repeat (first | exact Sub.nil _ | apply Sub.cons | exact Rem.here _ _ | apply Rem.there)) ?_
          refine RD_l 1 rfl (Yl_move rfl) ?_
          refine RD_l 4 rfl (Yl_move rfl) ?_
          refine RD_h (i := 3) #[true, true, true, false, true, false, false, false, false, false, false] rfl rfl rfl rfl (by kernel_rfl) (fun _ _ _ h => h) (Yh_load (v := .slice (some ⟨g, 0, none⟩) ns.length cap) rfl sc_25 (by repeat (first | exact List.Mem.head _ | apply List.Mem.tail)) rfl) ?_
          refine RD_l 5 rfl (Yl_indexN (b := g) (off := 0) (i := k) (o' := k * 28) rfl rfl sl_25 hk (by omega)) ?_
          refine RD_l 6 rfl (Yl_field rfl fo_43_0) ?_
          refine RD_h (i := 7) #[true, true, true, true, true, true, true, false, false, false, false] rfl rfl rfl rfl (by kernel_rfl) (fun _ _ _ h => h) (Yh_load (v := .string (bar (nmOf ns k))) rfl sc_9 (by repeat (first | exact List.Mem.head _ | apply List.Mem.tail)) (at_nm hk rfl)) ?_
          refine RD_two (i := 0) (j := 8) (by kernel_rfl) ?_ ?_
          · skip
            refine RO_fx rfl rfl rfl rfl (Fx_buildSlice0 sl_36) ?_
            rintro _ _ ⟨b30, rfl, rfl⟩
            refine ⟨Or.inr (by repeat (first | exact Sub.nil _ | apply Sub.cons | exact Rem.here _ _ | apply Rem.there)), ?_⟩
            refine RD_two (i := 2) (j := 8) (by kernel_rfl) ?_ ?_
            · skip
              refine RO_fx rfl rfl rfl rfl (Fx_patha (g := b30) (v := v) (p := p) (pp := pp1) rfl rfl (by repeat (first | exact Rem.here _ _ | apply Rem.there)) hv (fun x hx => (by repeat (first | exact List.mem_append_left _ hx | apply List.Mem.tail))) (by omega)) ?_
              rintro _ _ ⟨g32, c32, r32, rfl, hr32, rfl⟩
              refine ⟨Or.inr (by repeat (first | exact Sub.nil _ | apply Sub.cons | exact Rem.here _ _ | apply Rem.there)), ?_⟩
              refine RD_one (i := 8) (by kernel_rfl) ?_
              refine RO_fx rfl rfl rfl rfl (Fx_litS (vs := [.string (bar (nmOf ns k))]) sl_36 ze_9 rfl rfl rfl rfl rfl) ?_
              rintro _ _ ⟨b38, rfl, rfl⟩
              refine ⟨Or.inr (by repeat (first | exact Sub.nil _ | apply Sub.cons | exact Rem.here _ _ | apply Rem.there)), ?_⟩
              refine RD_one (i := 9) (by kernel_rfl) ?_
              refine RO_fx rfl rfl rfl rfl (Fx_appTG (xs := strs p) (r := r32) (news := [.string (bar (nmOf ns k))]) (n := p.length) (cap := c32) (m := 1) (c := 1) rfl rfl sl_36 by_9 ze_9 rfl (by repeat (first | exact Rem.here _ _ | apply Rem.there)) (by repeat (first | exact Rem.here _ _ | apply Rem.there)) hr32 (by simp) rfl (by intro u hu; rw [List.mem_singleton.1 hu]; rfl) (by omega) (by omega) (by omega)) ?_
              rintro _ _ ⟨g39, c39, r39, rfl, hr39, rfl⟩
              refine ⟨Or.inr (by repeat (first | exact Sub.nil _ | apply Sub.cons | exact Rem.here _ _ | apply Rem.there)), ?_⟩
              refine RD_l 10 rfl (Yl_assign rfl) ?_
              refine RD_done (by kernel_rfl) ?_
              first
                | (have hk0 : k = 0 := (by omega); rw [if_pos hk0]; exact QW_cut (pp1, v) ⟨fun _ h => h, hv⟩ (by repeat (first | exact Prm.nil _ | exact Rem.here _ _ | apply Rem.there | apply Prm.cons)) (.cons rfl (.cons rfl (.cons rfl (.cons rfl (.cons rfl .nil))))))
                | (have hk0 : ¬ k = 0 := (by omega); rw [if_neg hk0, strs_snoc] at *; exact QW_cut ((g39, blk (strs (p ++ [nmOf ns k]) ++ r39) 9) :: pp1, .slice (some ⟨g39, 0, none⟩) (p ++ [nmOf ns k]).length c39) ⟨fun x hx => List.Mem.tail _ hx, .inr ⟨g39, c39, r39, by simp, rfl, List.Mem.head _⟩⟩ (by simp only [List.cons_append]; repeat (first | exact Prm.nil _ | exact Rem.here _ _ | apply Rem.there | apply Prm.cons)) (.cons rfl (.cons rfl (.cons rfl (.cons rfl (.cons (by rw [List.length_append]; rfl) .nil))))))
            · skip
              refine RO_fx rfl rfl rfl rfl (Fx_litS (vs := [.string (bar (nmOf ns k))]) sl_36 ze_9 rfl rfl rfl rfl rfl) ?_
              rintro _ _ ⟨b38, rfl, rfl⟩
              refine ⟨Or.inr (by repeat (first | exact Sub.nil _ | apply Sub.cons | exact Rem.here _ _ | apply Rem.there)), ?_⟩
              refine RD_one (i := 2) (by kernel_rfl) ?_
              refine RO_fx rfl rfl rfl rfl (Fx_patha (g := b30) (v := v) (p := p) (pp := pp1) rfl rfl (by repeat (first | exact Rem.here _ _ | apply Rem.there)) hv (fun x hx => (by repeat (first | exact List.mem_append_left _ hx | apply List.Mem.tail))) (by omega)) ?_
              rintro _ _ ⟨g32, c32, r32, rfl, hr32, rfl⟩
              refine ⟨Or.inr (by repeat (first | exact Sub.nil _ | apply Sub.cons | exact Rem.here _ _ | apply Rem.there)), ?_⟩
              refine RD_one (i := 9) (by kernel_rfl) ?_
              refine RO_fx rfl rfl rfl rfl (Fx_appTG (xs := strs p) (r := r32) (news := [.string (bar (nmOf ns k))]) (n := p.length) (cap := c32) (m := 1) (c := 1) rfl rfl sl_36 by_9 ze_9 rfl (by repeat (first | exact Rem.here _ _ | apply Rem.there)) (by repeat (first | exact Rem.here _ _ | apply Rem.there)) hr32 (by simp) rfl (by intro u hu; rw [List.mem_singleton.1 hu]; rfl) (by omega) (by omega) (by omega)) ?_
              rintro _ _ ⟨g39, c39, r39, rfl, hr39, rfl⟩
              refine ⟨Or.inr (by repeat (first | exact Sub.nil _ | apply Sub.cons | exact Rem.here _ _ | apply Rem.there)), ?_⟩
              refine RD_l 10 rfl (Yl_assign rfl) ?_
              refine RD_done (by kernel_rfl) ?_
              first
                | (have hk0 : k = 0 := (by omega); rw [if_pos hk0]; exact QW_cut (pp1, v) ⟨fun _ h => h, hv⟩ (by repeat (first | exact Prm.nil _ | exact Rem.here _ _ | apply Rem.there | apply Prm.cons)) (.cons rfl (.cons rfl (.cons rfl (.cons rfl (.cons rfl .nil))))))
                | (have hk0 : ¬ k = 0 := (by omega); rw [if_neg hk0, strs_snoc] at *; exact QW_cut ((g39, blk (strs (p ++ [nmOf ns k]) ++ r39) 9) :: pp1, .slice (some ⟨g39, 0, none⟩) (p ++ [nmOf ns k]).length c39) ⟨fun x hx => List.Mem.tail _ hx, .inr ⟨g39, c39, r39, by simp, rfl, List.Mem.head _⟩⟩ (by simp only [List.cons_append]; repeat (first | exact Prm.nil _ | exact Rem.here _ _ | apply Rem.there | apply Prm.cons)) (.cons rfl (.cons rfl (.cons rfl (.cons rfl (.cons (by rw [List.length_append]; rfl) .nil))))))
          · skip
            refine RO_fx rfl rfl rfl rfl (Fx_litS (vs := [.string (bar (nmOf ns k))]) sl_36 ze_9 rfl rfl rfl rfl rfl) ?_
            rintro _ _ ⟨b38, rfl, rfl⟩
            refine ⟨Or.inr (by repeat (first | exact Sub.nil _ | apply Sub.cons | exact Rem.here _ _ | apply Rem.there)), ?_⟩
            refine RD_one (i := 0) (by kernel_rfl) ?_
            refine RO_fx rfl rfl rfl rfl (Fx_buildSlice0 sl_36) ?_
            rintro _ _ ⟨b30, rfl, rfl⟩
            refine ⟨Or.inr (by repeat (first | exact Sub.nil _ | apply Sub.cons | exact Rem.here _ _ | apply Rem.there)), ?_⟩
            refine RD_one (i := 2) (by kernel_rfl) ?_
            refine RO_fx rfl rfl rfl rfl (Fx_patha (g := b30) (v := v) (p := p) (pp := pp1) rfl rfl (by repeat (first | exact Rem.here _ _ | apply Rem.there)) hv (fun x hx => (by repeat (first | exact List.mem_append_left _ hx | apply List.Mem.tail))) (by omega)) ?_
            rintro _ _ ⟨g32, c32, r32, rfl, hr32, rfl⟩
            refine ⟨Or.inr (by repeat (first | exact Sub.nil _ | apply Sub.cons | exact Rem.here _ _ | apply Rem.there)), ?_⟩
            refine RD_one (i := 9) (by kernel_rfl) ?_
            refine RO_fx rfl rfl rfl rfl (Fx_appTG (xs := strs p) (r := r32) (news := [.string (bar (nmOf ns k))]) (n := p.length) (cap := c32) (m := 1) (c := 1) rfl rfl sl_36 by_9 ze_9 rfl (by repeat (first | exact Rem.here _ _ | apply Rem.there)) (by repeat (first | exact Rem.here _ _ | apply Rem.there)) hr32 (by simp) rfl (by intro u hu; rw [List.mem_singleton.1 hu]; rfl) (by omega) (by omega) (by omega)) ?_
            rintro _ _ ⟨g39, c39, r39, rfl, hr39, rfl⟩
            refine ⟨Or.inr (by repeat (first | exact Sub.nil _ | apply Sub.cons | exact Rem.here _ _ | apply Rem.there)), ?_⟩
            refine RD_l 10 rfl (Yl_assign rfl) ?_
            refine RD_done (by kernel_rfl) ?_
            first
              | (have hk0 : k = 0 := (by omega); rw [if_pos hk0]; exact QW_cut (pp1, v) ⟨fun _ h => h, hv⟩ (by repeat (first | exact Prm.nil _ | exact Rem.here _ _ | apply Rem.there | apply Prm.cons)) (.cons rfl (.cons rfl (.cons rfl (.cons rfl (.cons rfl .nil))))))
              | (have hk0 : ¬ k = 0 := (by omega); rw [if_neg hk0, strs_snoc] at *; exact QW_cut ((g39, blk (strs (p ++ [nmOf ns k]) ++ r39) 9) :: pp1, .slice (some ⟨g39, 0, none⟩) (p ++ [nmOf ns k]).length c39) ⟨fun x hx => List.Mem.tail _ hx, .inr ⟨g39, c39, r39, by simp, rfl, List.Mem.head _⟩⟩ (by simp only [List.cons_append]; repeat (first | exact Prm.nil _ | exact Rem.here _ _ | apply Rem.there | apply Prm.cons)) (.cons rfl (.cons rfl (.cons rfl (.cons rfl (.cons (by rw [List.length_append]; rfl) .nil))))))
        · replace hc2 := of_decide_eq_false hc2
          refine CW_skip ?_
          first
            | (have hk0 : k = 0 := (by omega); rw [if_pos hk0]; exact QW_cut (pp1, v) ⟨fun _ h => h, hv⟩ (by repeat (first | exact Prm.nil _ | exact Rem.here _ _ | apply Rem.there | apply Prm.cons)) (.cons rfl (.cons rfl (.cons rfl (.cons rfl (.cons rfl .nil))))))
            | (have hk0 : ¬ k = 0 := (by omega); rw [if_neg hk0, strs_snoc] at *; exact QW_cut ((g39, blk (strs (p ++ [nmOf ns k]) ++ r39) 9) :: pp1, .slice (some ⟨g39, 0, none⟩) (p ++ [nmOf ns k]).length c39) ⟨fun x hx => List.Mem.tail _ hx, .inr ⟨g39, c39, r39, by simp, rfl, List.Mem.head _⟩⟩ (by simp only [List.cons_append]; repeat (first | exact Prm.nil _ | exact Rem.here _ _ | apply Rem.there | apply Prm.cons)) (.cons rfl (.cons rfl (.cons rfl (.cons rfl (.cons (by rw [List.length_append]; rfl) .nil))))))
      · rintro ⟨pp2, v2⟩ ⟨hs2, hv2⟩
        simp only at hs2 hv2 ⊢
        refine CW_seq ?_
        have hdl2 : d2.length = done.length + a.length + 1 := by rw [← e2, hdl]
        have hih := ihc d2 vs2 go2 co2 gp2 cp2 ro2 rp2 pp2 v2 hv2 (hvs2.more hs2) hro2 hrp2 (by omega) (by split <;> (try simp only [List.length_append, List.length_singleton]) <;> omega)
        refine CW_draw [7] _ mixed (Sub.refl _) ?_
        refine RD_l 2 rfl (Yl_move rfl) ?_
        refine RD_l 6 rfl (Yl_move rfl) ?_
        refine RD_h (i := 0) #[false, true, true, true, true, true, true, false] rfl rfl rfl rfl (by kernel_rfl) (fun _ _ _ h => h) (Yh_load (v := .func (.func 30) #[] #[pv bF, pv bn, pv bo, pv bp]) rfl sc_77 (by repeat (first | exact List.Mem.head _ | apply List.Mem.tail)) rfl) ?_
        refine RD_h (i := 1) #[true, false, true, false, false, false, true, false] rfl rfl rfl rfl (by kernel_rfl) (fun _ _ _ h => h) (Yh_load (v := .slice (some ⟨g, 0, none⟩) ns.length cap) rfl sc_25 (by repeat (first | exact List.Mem.head _ | apply List.Mem.tail)) rfl) ?_
        refine RD_l 3 rfl (Yl_indexN (b := g) (off := 0) (i := k) (o' := k * 28) rfl rfl sl_25 hk (by omega)) ?_
        refine RD_l 4 rfl (Yl_field rfl fo_43_5) ?_
        refine RD_h (i := 5) #[true, true, true, true, true, false, true, false] rfl rfl rfl rfl (by kernel_rfl) (fun _ _ _ h => h) (Yh_load (v := iv (chdF ns k)) rfl sc_3 (by repeat (first | exact List.Mem.head _ | apply List.Mem.tail)) (at_child hk rfl)) ?_
        refine RD_one (i := 7) (by kernel_rfl) ?_
        refine RO_fx rfl rfl rfl rfl (Fx_callV ok_30 (fs := []) (cs := [pv bF, pv bn, pv bo, pv bp]) (vs := [iv (chdF ns k), v2]) rfl rfl (by exact (Pick.cons (by repeat (first | exact Rem.here _ _ | apply Rem.there)) (Pick.cons (by repeat (first | exact Rem.here _ _ | apply Rem.there)) (Pick.cons (by repeat (first | exact Rem.here _ _ | apply Rem.there)) (Pick.cons (by repeat (first | exact Rem.here _ _ | apply Rem.there)) (Pick.cons (by repeat (first | exact Rem.here _ _ | apply Rem.there)) (Pick.cons (by repeat (first | exact Rem.here _ _ | apply Rem.there)) (Pick.cons (by repeat (first | exact Rem.here _ _ | apply Rem.there)) (pick_app _ F))))))))) hih) ?_
        rintro _ _ ⟨_, ⟨rfl, vs4, go4, co4, gp4, cp4, ro4, rp4, pp4, hvs4, hro4, hrp4, hsub4, rfl⟩, rfl⟩
        simp only [List.cons_append]
        refine ⟨Or.inl (by kernel_rfl), ?_⟩
        refine (RD_done (by kernel_rfl) (QW_lv (ks := [0, 1, 2, 3]) ?_))
        obtain ⟨d3, hd3⟩ : ∃ d3, d3 = d2 ++ c := ⟨_, rfl⟩
        rw [← hd3] at hvs4 hro4
        rw [← hd3]
        clear hih
        have hdl3 : d3.length = d2.length + c.length := by rw [hd3]; simp
        have hih := ihb d3 vs4 go4 co4 gp4 cp4 ro4 rp4 pp4 v (hv.more fun x hx => hsub4 x (hs2 x hx)) hvs4 hro4 hrp4 (by omega) (by omega)
        have hfin : done ++ (a ++ (k, p) :: (c ++ b)) = d3 ++ b := by rw [hd3, hd2, hd1]; simp
        refine CW_draw [7] _ mixed (Sub.refl _) ?_
        refine RD_l 2 rfl (Yl_move rfl) ?_
        refine RD_l 6 rfl (Yl_move rfl) ?_
        refine RD_h (i := 0) #[false, true, true, true, true, true, true, false] rfl rfl rfl rfl (by kernel_rfl) (fun _ _ _ h => h) (Yh_load (v := .func (.func 30) #[] #[pv bF, pv bn, pv bo, pv bp]) rfl sc_77 (by repeat (first | exact List.Mem.head _ | apply List.Mem.tail)) rfl) ?_
        refine RD_h (i := 1) #[true, false, true, false, false, false, true, false] rfl rfl rfl rfl (by kernel_rfl) (fun _ _ _ h => h) (Yh_load (v := .slice (some ⟨g, 0, none⟩) ns.length cap) rfl sc_25 (by repeat (first | exact List.Mem.head _ | apply List.Mem.tail)) rfl) ?_
        refine RD_l 3 rfl (Yl_indexN (b := g) (off := 0) (i := k) (o' := k * 28) rfl rfl sl_25 hk (by omega)) ?_
        refine RD_l 4 rfl (Yl_field rfl fo_43_4) ?_
        refine RD_h (i := 5) #[true, true, true, true, true, false, true, false] rfl rfl rfl rfl (by kernel_rfl) (fun _ _ _ h => h) (Yh_load (v := iv (rtF ns k)) rfl sc_3 (by repeat (first | exact List.Mem.head _ | apply List.Mem.tail)) (at_right hk rfl)) ?_
        refine RD_one (i := 7) (by kernel_rfl) ?_
        refine RO_fx rfl rfl rfl rfl (Fx_callV ok_30 (fs := []) (cs := [pv bF, pv bn, pv bo, pv bp]) (vs := [iv (rtF ns k), v]) rfl rfl (by exact (Pick.cons (by repeat (first | exact Rem.here _ _ | apply Rem.there)) (Pick.cons (by repeat (first | exact Rem.here _ _ | apply Rem.there)) (Pick.cons (by repeat (first | exact Rem.here _ _ | apply Rem.there)) (Pick.cons (by repeat (first | exact Rem.here _ _ | apply Rem.there)) (Pick.cons (by repeat (first | exact Rem.here _ _ | apply Rem.there)) (Pick.cons (by repeat (first | exact Rem.here _ _ | apply Rem.there)) (Pick.cons (by repeat (first | exact Rem.here _ _ | apply Rem.there)) (pick_app _ F))))))))) hih) ?_
        rintro _ _ ⟨_, ⟨rfl, vs5, go5, co5, gp5, cp5, ro5, rp5, pp5, hvs5, hro5, hrp5, hsub5, rfl⟩, rfl⟩
        simp only [List.cons_append]
        refine ⟨Or.inl (by kernel_rfl), ?_⟩
        refine RD_done (by kernel_rfl) ?_
        refine QW_end0 rfl ((bF, blk [.func (.func 30) #[] #[pv bF, pv bn, pv bo, pv bp]] 77) :: (bn, blk [.slice (some ⟨g, 0, none⟩) ns.length cap] 25) :: (g, blk (nms ns ++ rn) 43) :: (bo, blk [.slice (some ⟨go5, 0, none⟩) (d3 ++ b).length co5] 29) :: (go5, blk (nats ((d3 ++ b).map Prod.fst) ++ ro5) 3) :: (bp, blk [.slice (some ⟨gp5, 0, none⟩) (d3 ++ b).length cp5] 30) :: (gp5, blk (vs5 ++ rp5) 36) :: pp5) ⟨rfl, vs5, go5, co5, gp5, cp5, ro5, rp5, pp5, ?_, ?_, hrp5, fun x hx => hsub5 x (hsub4 x (hs2 x (hsub1 x hx))), ?_⟩ (Prm.nil _)
        · rw [hfin]; exact hvs5
        · rw [hfin]; exact hro5
        · rw [hfin]
theorem order_any (ns : List Nm) (g cap bF bn bo bp : Nat) (rn : List Value) (hk2 : ns.length ≤ 1000) {t : Int} {p : List (List UInt8)} {o : List (Nat × List (List UInt8))} (h : OT (lfF ns) (rtF ns) (chdF ns) (nmOf ns) t p o) : (∀ k ∈ o.map Prod.fst, k < ns.length) → OCt ns g cap bF bn bo bp rn t p o := by
  induction h with
  | nil => intro _; exact order_nil ns g cap bF bn bo bp rn _
  | node ha hc hb iha ihc ihb =>
    intro hk
    simp only [List.map_append, List.map_cons, List.mem_append, List.mem_cons] at hk
    exact order_step ns g cap bF bn bo bp rn _ (hk _ (.inr (.inl rfl))) hk2 _ _ _ _ (iha fun x hx => hk x (.inl hx)) (ihc fun x hx => hk x (.inr (.inr (.inl hx)))) (ihb fun x hx => hk x (.inr (.inr (.inr hx))))
end Go.Proofs.YtgoddcicbpjknaaDoor

/-! Walks: Order, whole. -/
set_option maxRecDepth 20000
namespace Go.Proofs.YtgoddcicbpjknaaDoor
open Go
open Cfb
set_option maxHeartbeats 4000000 in
theorem Order_ct (ns : List Nm) (g cap : Nat) (rn : List Value) (o : List (Nat × List (List UInt8))) (hk2 : ns.length ≤ 1000) (hol : o.length ≤ 1000) (ho : OT (lfF ns) (rtF ns) (chdF ns) (nmOf ns) ((0 : Nat) : Int) [] o) (hk : ∀ k ∈ o.map Prod.fst, k < ns.length) :
    Ct Tryd.prog 17 [.slice (some ⟨g, 0, none⟩) ns.length cap] [(g, blk (nms ns ++ rn) 43)] (fun v q => ∃ vs go co ro gp cp rp pp, v = .tuple #[.slice (some ⟨go, 0, none⟩) o.length co, .slice (some ⟨gp, 0, none⟩) o.length cp] ∧ VsOk pp vs (o.map Prod.snd) ∧ (nats (o.map Prod.fst) ++ ro).length = co ∧ (vs ++ rp).length = cp ∧ q = (g, blk (nms ns ++ rn) 43) :: (go, blk (nats (o.map Prod.fst) ++ ro) 3) :: (gp, blk (vs ++ rp) 36) :: pp) := by
  refine Ct_of Tryd.func17 rfl Tryd.ntmps17 rfl ?_
  intro E F
  simp only [numL, List.nil_append, List.cons_append]
  refine CW_seq ?_
  refine CW_region ?_
  refine RW_fx rfl rfl rfl (Fx_box (zs := [.slice (some ⟨g, 0, none⟩) ns.length cap]) rfl rfl) ?_
  rintro _ _ ⟨bn, rfl, rfl⟩
  refine RW_a ?_
  refine RW_a ?_
  refine RW_lv (ks := [1]) ?_
  refine CW_seq ?_
  refine CW_region ?_
  refine RW_fx rfl rfl rfl (Fx_buildSlice0 sl_29) ?_
  rintro _ _ ⟨go, rfl, rfl⟩
  refine RW_fx rfl rfl rfl (Fx_buildSlice0 sl_30) ?_
  rintro _ _ ⟨gp, rfl, rfl⟩
  refine RW_fx rfl rfl rfl (Fx_alloc (zs := [.slice none 0 0]) ze_29 rfl) ?_
  rintro _ _ ⟨bo, rfl, rfl⟩
  refine RW_fx rfl rfl rfl (Fx_alloc (zs := [.slice none 0 0]) ze_30 rfl) ?_
  rintro _ _ ⟨bp, rfl, rfl⟩
  refine RW_fx0 rfl rfl (Fx_store (v := .slice (some ⟨go, 0, none⟩) 0 0) (b := bo) (off := 0) rfl rfl sz_29 rfl (by repeat (first | exact Rep.here _ _ _ | apply Rep.there)) (by simp)) ?_
  rintro _ _ rfl
  refine RW_fx0 rfl rfl (Fx_store (v := .slice (some ⟨gp, 0, none⟩) 0 0) (b := bp) (off := 0) rfl rfl sz_30 rfl (by repeat (first | exact Rep.here _ _ _ | apply Rep.there)) (by simp)) ?_
  rintro _ _ rfl
  refine RW_lv (ks := [1, 4, 5]) ?_
  refine CW_seq ?_
  refine CW_region ?_
  refine RW_fx rfl rfl rfl (Fx_alloc (zs := [.nilFunc]) ze_77 rfl) ?_
  rintro _ _ ⟨bF, rfl, rfl⟩
  refine RW_lv (ks := [1, 4, 5, 6]) ?_
  refine CW_seq ?_
  refine CW_region ?_
  refine RW_l (Yl_makeFunc (us := []) (vs := [pv bF, pv bn, pv bo, pv bp]) rfl rfl) ?_
  refine RW_fx0 rfl rfl (Fx_store (v := .func (.func 30) #[] #[pv bF, pv bn, pv bo, pv bp]) (b := bF) (off := 0) rfl rfl sz_77 rfl (by repeat (first | exact Rep.here _ _ _ | apply Rep.there)) (by simp)) ?_
  rintro _ _ rfl
  refine RW_lv (ks := [4, 5, 6]) ?_
  refine CW_seq ?_
  have hih := order_any ns g cap bF bn bo bp rn hk2 ho hk [] [] go 0 gp 0 [] [] [] (.slice none 0 0) (.inl ⟨rfl, rfl⟩) (VsOk.nil _) rfl rfl (by simp; omega) (by simp; omega)
  refine CW_region ?_
  refine RW_h (Yh_load (v := .func (.func 30) #[] #[pv bF, pv bn, pv bo, pv bp]) rfl sc_77 (by repeat (first | exact List.Mem.head _ | apply List.Mem.tail)) rfl) ?_
  refine RW_fx rfl rfl rfl (Fx_callV ok_30 (fs := []) (cs := [pv bF, pv bn, pv bo, pv bp]) (vs := [iv ((0 : Nat) : Int), .slice none 0 0]) rfl rfl (by exact (Pick.cons (by repeat (first | exact Rem.here _ _ | apply Rem.there)) (Pick.cons (by repeat (first | exact Rem.here _ _ | apply Rem.there)) (Pick.cons (by repeat (first | exact Rem.here _ _ | apply Rem.there)) (Pick.cons (by repeat (first | exact Rem.here _ _ | apply Rem.there)) (Pick.cons (by repeat (first | exact Rem.here _ _ | apply Rem.there)) (Pick.cons (by repeat (first | exact Rem.here _ _ | apply Rem.there)) (Pick.cons (by repeat (first | exact Rem.here _ _ | apply Rem.there)) (pick_app [] F))))))))) hih) ?_
  rintro _ _ ⟨_, ⟨rfl, vs1, go1, co1, gp1, cp1, ro1, rp1, pp1, hvs1, hro1, hrp1, hsub1, rfl⟩, rfl⟩
  simp only [List.cons_append, List.nil_append]
  rw [List.nil_append] at hvs1 hro1
  refine RW_lv (ks := [4, 5]) ?_
  refine CW_seq ?_
  refine CW_draw [] _ mixed (Sub.refl _) ?_
  refine RD_h (i := 0) #[false, true, false, false] rfl rfl rfl rfl (by kernel_rfl) (fun _ _ _ h => h) (Yh_load (v := .slice (some ⟨go1, 0, none⟩) o.length co1) rfl sc_29 (by repeat (first | exact List.Mem.head _ | apply List.Mem.tail)) rfl) ?_
  refine RD_l 2 rfl (Yl_assign rfl) ?_
  refine RD_h (i := 1) #[true, false, true, false] rfl rfl rfl rfl (by kernel_rfl) (fun _ _ _ h => h) (Yh_load (v := .slice (some ⟨gp1, 0, none⟩) o.length cp1) rfl sc_30 (by repeat (first | exact List.Mem.head _ | apply List.Mem.tail)) rfl) ?_
  refine RD_l 3 rfl (Yl_assign rfl) ?_
  refine (RD_done (by kernel_rfl) (QW_lv (ks := [2, 3]) ?_))
  refine CW_ret ?_
  refine QW_sub (H' := (g, blk (nms ns ++ rn) 43) :: (go1, blk (nats (o.map Prod.fst) ++ ro1) 3) :: (gp1, blk (vs1 ++ rp1) 36) :: (pp1 ++ F)) ?_ ?_
  · exact .cons _ (.cons _ (.cons_cons _ (.cons _ (.cons_cons _ (.cons _ (.cons_cons _ (.refl _)))))))
  · exact QW_ret2 rfl rfl rfl ((g, blk (nms ns ++ rn) 43) :: (go1, blk (nats (o.map Prod.fst) ++ ro1) 3) :: (gp1, blk (vs1 ++ rp1) 36) :: pp1) ⟨vs1, go1, co1, ro1, gp1, cp1, rp1, pp1, rfl, hvs1, hro1, hrp1, rfl⟩ (Prm.nil _)
end Go.Proofs.YtgoddcicbpjknaaDoor

/-! Values: what a file of linked nodes tells. -/
set_option maxRecDepth 20000
namespace Go.Proofs.YtgoddcicbpjknaaDoor
open Go
open Cfb
theorem STree.links {L R : Nat → Int} {pl : List Nat} {t : Int} (h : STree L R pl t) : ∀ k ∈ pl, (L k = -1 ∨ ∃ j ∈ pl, L k = (j : Int)) ∧ (R k = -1 ∨ ∃ j ∈ pl, R k = (j : Int)) := by
  induction h with
  | nil => intro k hk; cases hk
  | node ha hb iha ihb =>
    rename_i a b m
    intro k hk
    have up : ∀ {q : List Nat} {z : Int}, (∀ x ∈ q, x ∈ a ++ m :: b) → (z = -1 ∨ ∃ j ∈ q, z = (j : Int)) → (z = -1 ∨ ∃ j ∈ a ++ m :: b, z = (j : Int)) := fun hs h => h.imp id fun ⟨j, h1, h2⟩ => ⟨j, hs j h1, h2⟩
    have sa : ∀ x ∈ a, x ∈ a ++ m :: b := fun x hx => List.mem_append_left _ hx
    have sb : ∀ x ∈ b, x ∈ a ++ m :: b := fun x hx => List.mem_append_right _ (List.mem_cons_of_mem _ hx)
    have top : ∀ {q : List Nat} {z : Int}, STree L R q z → (z = -1 ∨ ∃ j ∈ q, z = (j : Int)) := fun h => h.top.imp (fun h => h.2) id
    rcases List.mem_append.1 hk with hk | hk
    · exact ⟨up sa (iha k hk).1, up sa (iha k hk).2⟩
    · rcases List.mem_cons.1 hk with rfl | hk
      · exact ⟨up sa (top ha), up sb (top hb)⟩
      · exact ⟨up sb (ihb k hk).1, up sb (ihb k hk).2⟩
section
variable {ns : List Nm}
theorem Lnk.bound {ls : Nat → List Nat} {par : Nat → Nat} (h : Lnk ns ls par) {k : Nat} (hk : k < ns.length) (hn : ns.length ≤ 100000) : (-1 ≤ lfF ns k ∧ lfF ns k ≤ 100000) ∧ (-1 ≤ rtF ns k ∧ rtF ns k ≤ 100000) ∧ (-1 ≤ chdF ns k ∧ chdF ns k ≤ 100000) := by
  have b : ∀ {q : Nat} {z : Int}, (z = -1 ∨ ∃ j ∈ ls q, z = (j : Int)) → -1 ≤ z ∧ z ≤ 100000 := by
    intro q z hz
    rcases hz with hz | ⟨j, hj, hz⟩
    · omega
    · have := (h.pl.mem q j).1 hj; omega
  have hc : chdF ns k = -1 ∨ ∃ j ∈ ls k, chdF ns k = (j : Int) := (h.tree k hk).top.imp (fun h => h.2) id
  rcases Nat.eq_zero_or_pos k with h0 | h0
  · subst h0
    have := h.root
    exact ⟨by omega, by omega, b hc⟩
  · have hl := h.pl.lt k h0 hk
    have hm : k ∈ ls (par k) := (h.pl.mem _ k).2 ⟨h0, hk, rfl⟩
    have h1 := STree.links (h.tree (par k) (by omega)) k hm
    exact ⟨b h1.1, b h1.2, b hc⟩
theorem root_ok {l r c : Int} (hl : -1 ≤ l ∧ l ≤ 100000) (hr : -1 ≤ r ∧ r ≤ 100000) (hc : -1 ≤ c ∧ c ≤ 100000) : (rootNm.turn l r c).ok :=
  ⟨fun _ => rfl, by simp [rootNm, mkNm, Nm.turn], by simp [rootNm, mkNm, Nm.turn], by simp [rootNm, mkNm, Nm.turn], hl, hr, hc, by simp [rootNm, mkNm, Nm.turn], by simp [rootNm, mkNm, Nm.turn]⟩
theorem NodesOk.ok_at (h : NodesOk ns) {k : Nat} (hk : k < ns.length) : (ns.getD k default).ok := by
  obtain ⟨ls, par, hL⟩ := h.lnk
  have hn := h.len
  have hb := hL.bound hk (by omega)
  unfold lfF rtF chdF at hb
  rcases Nat.eq_zero_or_pos k with h0 | h0
  · subst h0
    obtain ⟨c, e⟩ := h.root
    rw [e] at hb ⊢
    exact root_ok (by omega) (by omega) hb.2.2
  · obtain ⟨y, l, r, c, hy, e⟩ := h.made k h0 hk
    rw [e] at hb ⊢
    exact (hy.nd.turn hb.1 hb.2.1 hb.2.2).ok
theorem NodesOk.ok (h : NodesOk ns) : ∀ x ∈ ns, x.ok := by
  intro x hx
  obtain ⟨k, hk, rfl⟩ := List.mem_iff_getElem.1 hx
  have := h.ok_at hk
  rwa [List.getD_eq_getElem?_getD, List.getElem?_eq_getElem hk] at this
theorem NodesOk.xs (h : NodesOk ns) : Ok (ns.map Nm.nd) := by
  refine ⟨by simp; exact h.len, ?_⟩
  intro x hx
  obtain ⟨y, hy, rfl⟩ := List.mem_map.1 hx
  exact (h.ok y hy).small
theorem NodesOk.lnks (h : NodesOk ns) : ∀ x ∈ ns.map Nm.nd, x.left ≤ 4294967295 ∧ x.right ≤ 4294967295 ∧ x.child ≤ 4294967295 := by
  intro x hx
  obtain ⟨y, hy, rfl⟩ := List.mem_map.1 hx
  have := h.ok y hy
  have h1 := this.left
  have h2 := this.right
  have h3 := this.child
  omega
theorem NodesOk.name (h : NodesOk ns) {k : Nat} (hk : k < ns.length) : 1 ≤ (nmOf ns k).length ∧ (nmOf ns k).length ≤ 31 ∧ (∀ c ∈ nmOf ns k, c.toNat < 128) ∧ (65 ≤ ((nmOf ns k).getD 0 0).toNat ∧ ((nmOf ns k).getD 0 0).toNat ≤ 90) := by
  unfold nmOf
  rcases Nat.eq_zero_or_pos k with h0 | h0
  · subst h0
    obtain ⟨c, e⟩ := h.root
    rw [e]
    show 1 ≤ ([82, 111, 111, 116, 32, 69, 110, 116, 114, 121] : List UInt8).length ∧ ([82, 111, 111, 116, 32, 69, 110, 116, 114, 121] : List UInt8).length ≤ 31 ∧ (∀ c ∈ ([82, 111, 111, 116, 32, 69, 110, 116, 114, 121] : List UInt8), c.toNat < 128) ∧ (65 ≤ (([82, 111, 111, 116, 32, 69, 110, 116, 114, 121] : List UInt8).getD 0 0).toNat ∧ (([82, 111, 111, 116, 32, 69, 110, 116, 114, 121] : List UInt8).getD 0 0).toNat ≤ 90)
    exact ⟨by decide, by decide, by decide, by decide, by decide⟩
  · obtain ⟨y, l, r, c, hy, e⟩ := h.made k h0 hk
    rw [e]
    show 1 ≤ y.nd.name.length ∧ _ ∧ (∀ c ∈ y.nd.name, _) ∧ (65 ≤ (y.nd.name.getD 0 0).toNat ∧ (y.nd.name.getD 0 0).toNat ≤ 90)
    have h1 := hy.nd.nm
    have h2 := hy.nd.cap
    refine ⟨by omega, by show y.nd.name.length ≤ 31; omega, fun c hc => by have := h2 c hc; omega, ?_⟩
    refine h2 _ ?_
    rw [List.getD_eq_getElem?_getD, List.getElem?_eq_getElem (by omega)]
    exact List.getElem_mem _
theorem NodesOk.names {ps : List Value} (hp : PsOk ps) (h : NodesOk ns) : ∀ k, k < (ns.map Nm.nd).length → NmOk ps ((ns.map Nm.nd).getD k default) (nmOf ns k) := by
  intro k hk
  have hk' : k < ns.length := by simpa using hk
  obtain ⟨h1, h2, h3, h4⟩ := h.name hk'
  have e : (ns.map Nm.nd).getD k default = (ns.getD k default).nd := nd_at ns k hk'
  rw [e]
  exact nmOk_cap (x := (ns.getD k default).nd) hp h1 h2 h3 h4
theorem NodesOk.data (h : NodesOk ns) {k : Nat} (hk : k < ns.length) (hs : (ns.getD k default).nd.stream = false) : (ns.getD k default).nd.data = [] := by
  rcases Nat.eq_zero_or_pos k with h0 | h0
  · subst h0
    obtain ⟨c, e⟩ := h.root
    rw [e]; rfl
  · obtain ⟨y, l, r, c, hy, e⟩ := h.made k h0 hk
    rw [e] at hs ⊢
    exact hy.data hs
/-- How a node leads on, read back. -/
theorem NodesOk.tn (h : NodesOk ns) (v : Nat) {k : Nat} (hk : k < ns.length) : k < (tnsF v (ns.map Nm.nd) (nmOf ns)).length ∧ (tnsF v (ns.map Nm.nd) (nmOf ns)).getD k default = ⟨nmOf ns k, lnkF (lfF ns k), lnkF (chdF ns k), lnkF (rtF ns k)⟩ := by
  have hc := cnt_le (v := v) h.xs
  have hl : (ns.map Nm.nd).length = ns.length := by simp
  refine ⟨by rw [tns_len]; omega, ?_⟩
  rw [show (tnsF v (ns.map Nm.nd) (nmOf ns)).getD k default = tnF (ns.map Nm.nd) (nmOf ns) k from range_getD _ (by omega)]
  unfold tnF
  rw [if_pos (by omega), nd_at ns k hk]
  rfl
/-- The entries are gone through in the nodes' order. -/
theorem NodesOk.travs (h : NodesOk ns) (v : Nat) : ∃ o, OT (lfF ns) (rtF ns) (chdF ns) (nmOf ns) ((0 : Nat) : Int) [] o ∧ (∀ k, k ∈ o.map Prod.fst ↔ k < ns.length) ∧ (o.map Prod.fst).Nodup ∧ o.length ≤ ns.length ∧
    (STv (tnsF v (ns.map Nm.nd) (nmOf ns))).bad = false ∧ (STv (tnsF v (ns.map Nm.nd) (nmOf ns))).out = o.map Prod.fst ∧ ∀ x ∈ o, (STv (tnsF v (ns.map Nm.nd) (nmOf ns))).pth x.1 = x.2 := by
  obtain ⟨ls, par, hL⟩ := h.lnk
  obtain ⟨o, h1, h2, h3, h4⟩ := hL.order h.len.1 (nmOf ns)
  have hc := cnt_le (v := v) h.xs
  have hl : (ns.map Nm.nd).length = ns.length := by simp
  have ht := tns_len v (ns.map Nm.nd) (nmOf ns)
  obtain ⟨s', e, b, _, ou, _, pt⟩ := trav_ot (es := tnsF v (ns.map Nm.nd) (nmOf ns)) (by rw [ht]; omega) h1 ((tnsF v (ns.map Nm.nd) (nmOf ns)).length + 1) S0 rfl (by rw [ht]; show 0 + _ ≤ _; omega) (by rw [ht]; omega) (fun k hk => h.tn v ((h3 k).1 hk)) h2
  have e0 : s' = STv (tnsF v (ns.map Nm.nd) (nmOf ns)) := by
    rw [e]
    show (if lnkF ((0 : Nat) : Int) = 4294967295 then _ else Cfb.trav _ _ (lnkF ((0 : Nat) : Int)) _ _) = _
    rw [lnkF_nat, if_neg (by omega)]
  rw [e0] at b ou pt
  exact ⟨o, h1, h3, h2, h4, b, by rw [ou]; rfl, pt⟩
end
/-- An entry as it is told. -/
def rowF (x : Nd) (kd : Nat) (size : Int) (pvv : Value) : List Value :=
  .string (bar x.name) :: pvv :: nv kd :: .int .i64 size :: .int .i64 ((x.name.getD 0 0).toNat : Int) :: (bys x.cls ++ (bys x.state ++ [.int .u64 (x.created : Int), .int .u64 (x.modified : Int)]))
theorem length_rowF (x : Nd) (kd : Nat) (size : Int) (pvv : Value) : (rowF x kd size pvv).length = 27 := by simp [rowF, x.h16, x.h4]
theorem row_cls (x : Nd) (kd : Nat) (size : Int) (pvv : Value) : ((rowF x kd size pvv).drop 5).take 16 = bys x.cls := by
  unfold rowF
  simp only [List.drop_succ_cons, List.drop_zero]
  rw [List.take_append_of_le_length (by simp [x.h16]), List.take_of_length_le (by simp [x.h16])]
theorem row_state (x : Nd) (kd : Nat) (size : Int) (pvv : Value) : ((rowF x kd size pvv).drop 21).take 4 = bys x.state := by
  unfold rowF
  simp only [List.drop_succ_cons]
  rw [List.drop_append_of_le_length (by simp [x.h16]), List.drop_of_length_le (by simp [x.h16]), List.nil_append, List.take_append_of_le_length (by simp [x.h4]), List.take_of_length_le (by simp [x.h4])]
theorem row_cr (x : Nd) (kd : Nat) (size : Int) (pvv : Value) : (rowF x kd size pvv)[25]? = some (.int .u64 (x.created : Int)) := by
  unfold rowF
  simp only [List.getElem?_cons_succ]
  rw [List.getElem?_append_right (by simp [x.h16]), List.getElem?_append_right (by simp [x.h16, x.h4])]
  simp [x.h16, x.h4]
theorem row_mo (x : Nd) (kd : Nat) (size : Int) (pvv : Value) : (rowF x kd size pvv)[26]? = some (.int .u64 (x.modified : Int)) := by
  unfold rowF
  simp only [List.getElem?_cons_succ]
  rw [List.getElem?_append_right (by simp [x.h16]), List.getElem?_append_right (by simp [x.h16, x.h4])]
  simp [x.h16, x.h4]
theorem RowsOk.get {fs : List Fil} {pth : Nat → List (List UInt8)} {pp : Heap} {o : List Nat} {rows : List (List Value)} (h : RowsOk fs pth pp o rows) : ∀ i, i < o.length → ∃ f v, fs[o.getD i 0]? = some f ∧ DcOk f.en ∧ PathC pp v (pth (o.getD i 0)) ∧ rows.getD i [] = entC f.en v := by
  induction h with
  | nil => intro i hi; simp at hi
  | snoc h hf hd hp ih =>
    rename_i o rows k f v
    intro i hi
    have hl := h.len.2
    rw [List.length_append, List.length_singleton] at hi
    by_cases e : i = o.length
    · subst e
      refine ⟨f, v, ?_, hd, ?_, ?_⟩
      · simpa [List.getD_eq_getElem?_getD] using hf
      · simpa [List.getD_eq_getElem?_getD] using hp
      · rw [List.getD_eq_getElem?_getD, List.getElem?_append_right (by omega), hl]; simp
    · obtain ⟨f2, v2, h1, h2, h3, h4⟩ := ih i (by omega)
      have e1 : (o ++ [k]).getD i 0 = o.getD i 0 := by rw [List.getD_eq_getElem?_getD, List.getElem?_append_left (by omega), ← List.getD_eq_getElem?_getD]
      have e2 : (rows ++ [entC f.en v]).getD i [] = rows.getD i [] := by rw [List.getD_eq_getElem?_getD, List.getElem?_append_left (by omega), ← List.getD_eq_getElem?_getD]
      rw [e1, e2]
      exact ⟨f2, v2, h1, h2, h3, h4⟩
theorem holds_bys {N o : Nat} {c l : List UInt8} (h : Holds N o c l) {j : Nat} (hj : j < c.length) : l.getD (o + j) 0 = c.getD j 0 := by
  simp only [List.getD_eq_getElem?_getD]; rw [h.at_ j hj]
theorem take_bys {L : List Value} {o n : Nat} {c : List UInt8} (hc : c.length = n) (hl : o + n ≤ L.length) (h : ∀ j, j < n → L[o + j]? = some (bv (c.getD j 0))) : (L.drop o).take n = bys c := by
  apply List.ext_getElem?
  intro j
  by_cases hj : j < n
  · rw [List.getElem?_take_of_lt hj, List.getElem?_drop, h j hj, List.getElem?_map, List.getElem?_eq_getElem (by omega)]
    simp [List.getD_eq_getElem?_getD, show j < c.length by omega]
  · rw [List.getElem?_eq_none (by simp; omega), List.getElem?_eq_none (by simp; omega)]
section
variable {v st : Nat} {xs : List Nd} {nmF : Nat → List UInt8}
/-- What is read back of a node. -/
theorem enF_row (ps : List Value) (h : Ok xs) (hnm : ∀ k, k < xs.length → NmOk ps (xs.getD k default) (nmF k)) {k : Nat} (hk : k < xs.length) (hcr : (xs.getD k default).created < 18446744073709551616) (hmo : (xs.getD k default).modified < 18446744073709551616) (hname : nmF k = (xs.getD k default).name)
    (e : En) (he : e.noPath = (enF v st xs nmF k).noPath) (pvv : Value) : entC e pvv = rowF (xs.getD k default) (kdF xs k).toNat (szOfN xs k : Int) pvv := by
  have hn := nds_at ps h hnm
  have hz : sizeF v / 128 * 128 = sizeF v := by rcases sizeF_or v with e | e <;> rw [e]
  have hpos : 0 < sizeF v / 128 := by rcases sizeF_or v with e | e <;> rw [e] <;> omega
  have hkc : k < cntF v xs := by have := cnt_le (v := v) h; omega
  have hj : k / (sizeF v / 128) < dsF v xs := (Nat.div_lt_iff_lt_mul hpos).2 hkc
  have hi : k % (sizeF v / 128) < sizeF v / 128 := Nat.mod_lt _ hpos
  have hkk : k = k / (sizeF v / 128) * (sizeF v / 128) + k % (sizeF v / 128) := by rw [Nat.mul_comm]; exact (Nat.div_add_mod _ _).symm
  have ha := ent_X (st := st) h hn hj hi hkk hk
  obtain ⟨X, hX0⟩ : ∃ X, X = dsecF v st xs (k / (sizeF v / 128)) := ⟨_, rfl⟩
  have ha' : EntAt (sizeF v) (k % (sizeF v / 128) * 128) (xs.getD k default) (kdF xs k) (stF v st xs k) (lnF xs k) X := by rw [hX0]; exact ha
  have hX : k % (sizeF v / 128) * 128 + 128 ≤ X.length := by rw [ha'.st.len]; omega
  have e1 : (enF v st xs nmF k).noPath = ⟨nmF k, ((xs.getD k default).name.getD 0 0).toNat, .nilIface, (szOfN xs k : Int), 0, stF v st xs k, 0, de12F X (k % (sizeF v / 128) * 128)⟩ := by
    unfold enF En.noPath
    rw [if_pos hk, hX0]
  rw [e1] at he
  have n1 : e.nm = nmF k := by have := congrArg En.nm he; exact this
  have n2 : e.ini = ((xs.getD k default).name.getD 0 0).toNat := by have := congrArg En.ini he; exact this
  have n3 : e.size = (szOfN xs k : Int) := by have := congrArg En.size he; exact this
  have n4 : e.dc = de12F X (k % (sizeF v / 128) * 128) := by have := congrArg En.dc he; exact this
  have h16 := (xs.getD k default).h16
  have h4 := (xs.getD k default).h4
  have hdl := length_de12F X (k % (sizeF v / 128) * 128)
  have c1 : (e.dc.drop 38).take 16 = bys (xs.getD k default).cls := by
    rw [n4]
    refine take_bys h16 (by rw [hdl]; omega) (fun j hj => ?_)
    rw [de_cls _ _ hX hj, holds_bys ha'.cls (by omega)]
  have c2 : (e.dc.drop 54).take 4 = bys (xs.getD k default).state := by
    rw [n4]
    refine take_bys h4 (by rw [hdl]; omega) (fun j hj => ?_)
    rw [de_state _ _ hX hj, holds_bys ha'.state (by omega)]
  have c3 : e.dc.getD 58 undef = .int .u64 ((xs.getD k default).created : Int) := by
    rw [n4, List.getD_eq_getElem?_getD, de_cr _ _ hX, ha'.cr.num (by have : (256 : Nat) ^ 8 = 18446744073709551616 := rfl
                                                                     omega)]
    rfl
  have c4 : e.dc.getD 59 undef = .int .u64 ((xs.getD k default).modified : Int) := by
    rw [n4, List.getD_eq_getElem?_getD, de_mo _ _ hX, ha'.mo.num (by have : (256 : Nat) ^ 8 = 18446744073709551616 := rfl
                                                                     omega)]
    rfl
  have c5 : otv e = (kdF xs k).toNat := by
    have : e.dc[33]? = some (bv (kdF xs k)) := by rw [n4, de_ot _ _ hX, ha'.kd.getD]
    exact otv_bv this
  unfold entC rowF
  rw [c1, c2, c3, c4, c5, n1, n2, n3, hname]
  simp
end
end Go.Proofs.YtgoddcicbpjknaaDoor

/-! Values: rows of what is told; arrays that are the same. -/
set_option maxRecDepth 20000
namespace Go.Proofs.YtgoddcicbpjknaaDoor
open Go
open Cfb
theorem un_37 : Tryd.prog.underlying 37 = some (.array 16 5) := by kernel_rfl
theorem un_38 : Tryd.prog.underlying 38 = some (.array 4 5) := by kernel_rfl
theorem un_5 : Tryd.prog.underlying 5 = some (.int .u8) := by kernel_rfl
theorem eg_37 : Tryd.prog.eqGuardType Tryd.prog.depth 37 = false := by kernel_rfl
theorem eg_38 : Tryd.prog.eqGuardType Tryd.prog.depth 38 = false := by kernel_rfl
theorem pk_5 : Tryd.prog.plainKey 5 = true := by kernel_rfl
theorem ce_5 : Tryd.prog.cellsOf 5 = 1 := by kernel_rfl
theorem items_same (d : Nat) (l : List UInt8) (w : World) : ∀ (is : List Nat), (∀ i ∈ is, i < l.length) → (Op.eqItems (d + 1) 5 1 (bys l).toArray (bys l).toArray is).run Tryd.prog w = .ok true w := by
  intro is
  induction is with
  | nil => intro _; simp [Op.eqItems]
  | cons i r ih =>
    intro h
    have hi := h i (by simp)
    have hx : (bys l).toArray[i * 1]? = some (bv l[i]) := by simp [hi]
    have hp := run_part_plain (P := Tryd.prog) w pk_5 hx
    have he := run_equalIn_int (P := Tryd.prog) w d 5 .u8 .u8 (l[i].toNat : Int) (l[i].toNat : Int) un_5
    simp only [Op.eqItems, Sem.run_bind, hp, Result.andThen_ok]
    have he2 : (Op.equalIn (d + 1) 5 (bv l[i]) (bv l[i])).run Tryd.prog w = .ok ((l[i].toNat : Int) == (l[i].toNat : Int)) w := he
    rw [he2]
    simp only [Result.andThen_ok, beq_self_eq_true, Bool.not_true, Bool.false_eq_true, if_false]
    exact ih (fun j hj => h j (by simp [hj]))
theorem run_same {t : TypeId} {n : Nat} (hu : Tryd.prog.underlying t = some (.array n 5)) (l : List UInt8) (hl : l.length = n) (w : World) : (binOp .neq t (.agg (bys l).toArray) (.agg (bys l).toArray)).run Tryd.prog w = .ok (.bool false) w := by
  obtain ⟨i, hi⟩ := info_of_underlying un_5
  rw [run_neq_struct, show (10000 : Nat) = 9998 + 1 + 1 from rfl, run_equalIn_array w (9998 + 1) _ _ hu hi, ce_5, items_same 9998 l w _ (fun i hi => by rw [hl]; exact List.mem_range.1 hi)]
  rfl
section
variable {E : World} {L : Fra} {H : Heap} {dst : Option Tmp} {ty : TypeId} {pos : String} {aft : Array Edge} {gd : Option (Nat × Bool)}
theorem Yl_arrNe {x y : Operand} {t u : TypeId} {n : Nat} {l : List UInt8} (hx : ev L x = some (.agg (bys l).toArray)) (hy : ev L y = some (.agg (bys l).toArray)) (hu : Tryd.prog.underlying t = some (.array n 5)) (hg : Tryd.prog.eqGuardType Tryd.prog.depth t = false) (hl : l.length = n) :
    Yl Tryd.prog L ⟨dst, .binOp .neq t x y u, ty, pos, aft, gd⟩ (.bool false) := by
  intro _ a w hf
  have h1 := run_same hu l hl w
  have h2 := run_eqGuard_agg (P := Tryd.prog) w .neq t x y (bys l).toArray (bys l).toArray hg
  simp only [execOp, hf.eval hx, hf.eval hy, Sem.run_bind, h2, Result.andThen_ok, h1]
  simp
theorem Yl_neqF {x y : Operand} {k : IntKind} {m n : Int} {t u : TypeId} (hx : ev L x = some (.int k m)) (hy : ev L y = some (.int k n)) (h : m = n) :
    Yl Tryd.prog L ⟨dst, .binOp .neq t x y u, ty, pos, aft, gd⟩ (.bool false) := by
  have := Yl_neq (P := Tryd.prog) (dst := dst) (ty := ty) (pos := pos) (aft := aft) (gd := gd) (t := t) (u := u) hx hy
  rw [h] at this
  simpa using this
theorem Yl_strNeF {x y : Operand} {s : ByteArray} {t u : TypeId} (hx : ev L x = some (.string s)) (hy : ev L y = some (.string s)) :
    Yl Tryd.prog L ⟨dst, .binOp .neq t x y u, ty, pos, aft, gd⟩ (.bool false) := by
  have := Yl_strNe (P := Tryd.prog) (dst := dst) (ty := ty) (pos := pos) (aft := aft) (gd := gd) (t := t) (u := u) hx hy
  simpa using this
theorem Yh_loadE {P : Program} {x : Operand} {t T : TypeId} {b off k : Nat} {l cs : List Value} {fz : Nat × Nat} (hx : ev L x = some (.pointer (some ⟨b, off, none⟩))) (ht : agOf P t = some k)
    (hm : (b, Obj.cells l.toArray T fz) ∈ H) (hv : off + k ≤ l.length) (hc : (l.drop off).take k = cs) : Yh P E L H ⟨dst, .load t x, ty, pos, aft, gd⟩ (.agg cs.toArray) := by
  subst hc
  exact Yh_loadA hx ht hm hv
end
theorem PathC.slice {pp : Heap} {v : Value} {p : List (List UInt8)} (h : PathC pp v p) : ∃ q c, v = .slice q p.length c := by
  rcases h with ⟨rfl, rfl⟩ | ⟨b, cap, r, _, rfl, _⟩
  · exact ⟨_, _, rfl⟩
  · exact ⟨_, _, rfl⟩
theorem PathC.some {pp : Heap} {v : Value} {p : List (List UInt8)} (h : PathC pp v p) (hp : 0 < p.length) : ∃ b cap r, v = .slice (some ⟨b, 0, none⟩) p.length cap ∧ (b, blk (strs p ++ r) 9) ∈ pp := by
  rcases h with ⟨rfl, rfl⟩ | ⟨b, cap, r, _, rfl, hm⟩
  · simp at hp
  · exact ⟨b, cap, r, rfl, hm⟩
theorem at_strs {p : List (List UInt8)} {r : List Value} {j : Nat} (h : j < p.length) : (strs p ++ r)[j]? = some (.string (bar (p.getD j []))) := by
  rw [List.getElem?_append_left (by simpa using h)]
  simp [List.getD_eq_getElem?_getD, h]
/-- Rows, one behind the other. -/
theorem rows_at : ∀ (rows : List (List Value)) (r : List Value) (k : Nat), (∀ x ∈ rows, x.length = 27) → k < rows.length → ((rows.flatten ++ r).drop (k * 27)).take 27 = rows.getD k [] := by
  intro rows
  induction rows with
  | nil => intro r k _ h; simp at h
  | cons x l ih =>
    intro r k hl h
    have hx := hl x (by simp)
    cases k with
    | zero =>
      simp only [List.flatten_cons, Nat.zero_mul, List.drop_zero, List.append_assoc, List.getD_cons_zero]
      rw [List.take_append_of_le_length (by omega), List.take_of_length_le (by omega)]
    | succ k =>
      have h1 := ih r k (fun y hy => hl y (by simp [hy])) (by simpa using h)
      simp only [List.flatten_cons, List.append_assoc, List.getD_cons_succ]
      rw [show (k + 1) * 27 = x.length + k * 27 by omega, List.drop_append]
      simp only [Nat.add_sub_cancel_left]
      rw [List.drop_of_length_le (by omega), List.nil_append]
      exact h1
theorem rows_len : ∀ (rows : List (List Value)), (∀ x ∈ rows, x.length = 27) → rows.flatten.length = rows.length * 27 := by
  intro rows
  induction rows with
  | nil => intro _; rfl
  | cons x l ih =>
    intro h
    rw [List.flatten_cons, List.length_append, h x (by simp), ih (fun y hy => h y (by simp [hy])), List.length_cons, Nat.add_mul]; omega
/-- What kind a node is, and its size as it is told. -/
def kdN (ns : List Nm) (k : Nat) : Nat := if k = 0 then 5 else if (ns.getD k default).nd.stream = true then 2 else 1
def szN (ns : List Nm) (k : Nat) : Nat := szOfN (ns.map Nm.nd) k
theorem NodesOk.size {ns : List Nm} (h : NodesOk ns) {k : Nat} (hk : k < ns.length) (h0 : k ≠ 0) : szN ns k = (ns.getD k default).nd.data.length := by
  have e : (ns.map Nm.nd).getD k default = (ns.getD k default).nd := nd_at ns k hk
  unfold szN szOfN kdF lnF
  rw [if_neg h0, if_neg h0, e]
  by_cases hs : (ns.getD k default).nd.stream = true
  · rw [if_pos hs, if_pos (show UInt8.toNat 2 = 2 from rfl), if_pos hs]
  · rw [if_neg hs, if_neg (by decide), h.data hk (by simpa using hs)]; rfl
theorem kdF_N {ns : List Nm} {k : Nat} (hk : k < ns.length) : (kdF (ns.map Nm.nd) k).toNat = kdN ns k := by
  have e : (ns.map Nm.nd).getD k default = (ns.getD k default).nd := nd_at ns k hk
  unfold kdF kdN
  rw [e]
  split
  · rfl
  · split <;> rfl
/-- What the reader tells of such a file. -/
theorem Entries_nodes {ps : List Value} {T : TypeId} {four : Bool} {st : Nat} {ns : List Nm} {o : List (Nat × List (List UInt8))} (hp : PsOk ps) (h : NodesOk ns) (hk : ∀ k, k ∈ o.map Prod.fst ↔ k < ns.length)
    (hb : (STv (tnsF (verF four) (ns.map Nm.nd) (nmOf ns))).bad = false) (ho : (STv (tnsF (verF four) (ns.map Nm.nd) (nmOf ns))).out = o.map Prod.fst) (hpt : ∀ x ∈ o, (STv (tnsF (verF four) (ns.map Nm.nd) (nmOf ns))).pth x.1 = x.2)
    (hN : NF (verF four) (ns.map Nm.nd) ≤ 131072) (gI : Nat) :
    Ct Tryd.prog 18 [.slice (some ⟨gI, 0, none⟩) (NF (verF four) (ns.map Nm.nd)) (NF (verF four) (ns.map Nm.nd))] [(gI, blk (bys (writeF (verF four) st (ns.map Nm.nd))) 5), (2, blk ps T)]
      (fun v q => ∃ (go cap : Nat) (r : List Value) (rows : List (List Value)) (pp : Heap), v = .tuple #[.slice (some ⟨go, 0, none⟩) o.length cap, nv 0] ∧ rows.length = o.length ∧ (∀ x ∈ rows, x.length = 27) ∧
        (∀ i, i < o.length → ∃ pvv, PathC pp pvv (o.getD i default).2 ∧ rows.getD i [] = rowF (ns.getD (o.getD i default).1 default).nd (kdN ns (o.getD i default).1) (szN ns (o.getD i default).1 : Int) pvv) ∧
        q = (gI, blk (bys (writeF (verF four) st (ns.map Nm.nd))) 5) :: (2, blk ps T) :: (go, blk (rows.flatten ++ r) 41) :: pp) := by
  have hl := h.len
  refine Ct.ne fun hg => (Entries_good h.xs (h.names hp) h.lnks hN gI hg hb).mono ?_
  rintro v post ⟨fs, pth, out, g, cap, r, rows, pp, hpth, hout, hes, hr, hok, rfl, rfl⟩
  rw [ho] at hout
  have hol : out.length = o.length := by rw [hout]; simp
  have hrl := hr.len
  have hget := hr.get
  have hopos : 0 < o.length := by
    have := (hk 0).2 (by omega)
    cases o with
    | nil => simp at this
    | cons a r => simp
  have key : ∀ i, i < o.length → ∃ pvv, PathC pp pvv (o.getD i default).2 ∧ rows.getD i [] = rowF (ns.getD (o.getD i default).1 default).nd (kdN ns (o.getD i default).1) (szN ns (o.getD i default).1 : Int) pvv := by
    intro i hi
    obtain ⟨f, v, h1, h2, h3, h4⟩ := hget i (by omega)
    have hoi : o.getD i default ∈ o := by rw [List.getD_eq_getElem?_getD, List.getElem?_eq_getElem hi]; exact List.getElem_mem _
    have e1 : out.getD i 0 = (o.getD i default).1 := by
      rw [hout]; simp [List.getD_eq_getElem?_getD, hi]
    have hkk : (o.getD i default).1 < ns.length := (hk _).1 (List.mem_map.2 ⟨_, hoi, rfl⟩)
    rw [e1] at h1 h3
    refine ⟨v, ?_, ?_⟩
    · rw [hpth, hpt _ hoi] at h3; exact h3
    · rw [h4]
      have hcn := cnt_le (v := verF four) h.xs
      have hxl : (ns.map Nm.nd).length = ns.length := by simp
      have e2 : (ns.map Nm.nd).getD (o.getD i default).1 default = (ns.getD (o.getD i default).1 default).nd := nd_at ns _ hkk
      have hox := h.ok_at hkk
      have e3 : f.en.noPath = (enF (verF four) st (ns.map Nm.nd) (nmOf ns) (o.getD i default).1).noPath := by
        have := congrArg (fun l => l[(o.getD i default).1]?) hes
        simp only [List.getElem?_map, h1, Option.map_some] at this
        unfold esF at this
        rw [List.getElem?_map, List.getElem?_range (by omega)] at this
        exact Option.some.inj this
      rw [enF_row ps h.xs (h.names hp) (by omega) (by rw [e2]; exact hox.created) (by rw [e2]; exact hox.modified) (by rw [e2]; rfl) f.en e3 v, e2, kdF_N hkk]
      rfl
  have h27 : ∀ x ∈ rows, x.length = 27 := by
    intro x hx
    obtain ⟨i, hi, rfl⟩ := List.mem_iff_getElem.1 hx
    obtain ⟨pvv, _, h6⟩ := key i (by omega)
    rw [List.getD_eq_getElem?_getD, List.getElem?_eq_getElem hi] at h6
    rw [show rows[i] = _ from h6]; exact length_rowF _ _ _ _
  cases g with
  | none => exact absurd hok.1 (by omega)
  | some go => exact ⟨go, cap, r, rows, pp, by rw [hol], by omega, h27, key, rfl⟩
end Go.Proofs.YtgoddcicbpjknaaDoor

/-! Values: a text's first sign; kinds of nodes. -/
set_option maxRecDepth 20000
namespace Go.Proofs.YtgoddcicbpjknaaDoor
open Go
open Cfb
theorem Yl_first {P : Program} {L : Fra} {dst : Option Tmp} {ty : TypeId} {pos : String} {aft : Array Edge} {gd : Option (Nat × Bool)} {x y : Operand} {t : TypeId} {l : List UInt8} {k : IntKind} (hx : ev L x = some (.string (bar l))) (hy : ev L y = some (.int k 0)) (ht : isStr P t = true) (h1 : 0 < l.length) :
    Yl P L ⟨dst, .index t x y, ty, pos, aft, gd⟩ (.int .u8 ((l.getD 0 0).toNat : Int)) := by
  have hs : (0 : Int).toNat < (bar l).size := by simpa using h1
  have h := Yl_indexS (P := P) (dst := dst) (ty := ty) (pos := pos) (aft := aft) (gd := gd) hx hy ht (Int.le_refl 0) hs
  have e : (bar l)[(0 : Int).toNat] = l.getD 0 0 := get_bar l 0 (by simpa using h1)
  rw [e] at h
  exact h
theorem kd_root (ns : List Nm) {k : Nat} (h : k = 0) : kdN ns k = 5 := by unfold kdN; rw [if_pos h]
theorem kd_str {ns : List Nm} {k : Nat} (h : k ≠ 0) (hs : (ns.getD k default).nd.stream = true) : kdN ns k = 2 := by unfold kdN; rw [if_neg h, if_pos hs]
theorem kd_sto {ns : List Nm} {k : Nat} (h : k ≠ 0) (hs : (ns.getD k default).nd.stream = false) : kdN ns k = 1 := by unfold kdN; rw [if_neg h, if_neg (by rw [hs]; decide)]
theorem kd_five {ns : List Nm} {k : Nat} (h : kdN ns k ≠ 5) : k ≠ 0 := fun e => h (kd_root ns e)
theorem kd_le (ns : List Nm) (k : Nat) : kdN ns k ≤ 5 := by unfold kdN; split <;> (try split) <;> omega
theorem at_vals {vs r : List Value} {i : Nat} {v : Value} (h : i < vs.length) (hv : vs.getD i undef = v) : (vs ++ r)[i]? = some v := by
  rw [List.getElem?_append_left h, ← hv]; simp [List.getD_eq_getElem?_getD, h]
theorem fst_at {o : List (Nat × List (List UInt8))} {r : List Value} {i k : Nat} (h : i < o.length) (hk : (o.getD i default).1 = k) : (nats (o.map Prod.fst) ++ r)[i]? = some (nv k) := by
  rw [List.getElem?_append_left (by simpa using h), ← hk]; simp [List.getD_eq_getElem?_getD, h]
theorem snd_at {o : List (Nat × List (List UInt8))} {i : Nat} (h : i < o.length) : (o.map Prod.snd).getD i [] = (o.getD i default).2 := by
  simp [List.getD_eq_getElem?_getD, h]
end Go.Proofs.YtgoddcicbpjknaaDoor

/-! Walks: FnEntries. -/
set_option maxRecDepth 20000
namespace Go.Proofs.YtgoddcicbpjknaaDoor
open Go
open Cfb
set_option maxHeartbeats 4000000 in
theorem FnEntries_ct (nN cN nD cD st : Nat) (pN pD : Option Addr) (four : Bool) (hst : st ≤ 255) (ps : List Value) (T : TypeId) (hp : PsOk ps) (D : Heap) (hN : NumOk ((2, blk ps T) :: D) pN nN) (hD : BytOk ((2, blk ps T) :: D) pD nD) (hcN : nN ≤ cN) :
    Ct Tryd.prog 3 [.slice pN nN cN, .slice pD nD cD, .bool four, .int .u8 (st : Int)] ((2, blk ps T) :: D) (fun v q => v = .bool true ∧ q = (2, blk ps T) :: D) := by
  refine Ct_of Tryd.func3 rfl Tryd.ntmps3 rfl ?_
  intro E F
  simp only [numL, List.nil_append, List.cons_append]
  refine CW_seq ?_
  refine CW_region ?_
  refine RW_a ?_
  refine RW_lv (ks := [0, 1, 2, 3]) ?_
  refine CW_seq ?_
  refine CW_seq ?_
  refine CW_region ?_
  refine RW_m ?_
  refine RW_l (Yl_len rfl sl_22) ?_
  refine RW_l (Yl_gtr rfl rfl) ?_
  refine RW_m ?_
  refine RW_bool 23 rfl (fun hg1 => ?_) (fun hg1 => ?_)
  · replace hg1 := of_decide_eq_true hg1
    refine RW_skip rfl rfl rfl ?_
    refine RW_skip rfl rfl rfl ?_
    refine RW_skip rfl rfl rfl ?_
    refine RW_l (Yl_pick_t rfl rfl) ?_
    refine RW_lv (ks := [0, 1, 2, 3, 27]) ?_
    refine CW_true rfl ?_
    refine CW_seq ?_
    refine CW_region ?_
    refine RW_a ?_
    refine RW_lv (ks := [8]) ?_
    refine CW_ret ?_
    refine QW_ret_then ?_
    first
      | exact QW_ret1 rfl rfl ((2, blk ps T) :: D) ⟨rfl, rfl⟩ (Prm.nil _)
      | (refine QW_sub (H' := (2, blk ps T) :: (D ++ F)) (.cons_cons _ (.cons _ (.cons _ (List.sublist_append_right _ _)))) ?_; exact QW_ret1 rfl rfl ((2, blk ps T) :: D) ⟨rfl, rfl⟩ (Prm.nil _))
      | (refine QW_sub (H' := (2, blk ps T) :: (D ++ F)) (.cons _ (.cons _ (.cons _ (.cons _ (.cons_cons _ (.cons _ (List.Sublist.trans (List.sublist_append_right _ _) (List.Sublist.trans (List.sublist_append_right _ _) (List.sublist_append_right _ _))))))))) ?_; exact QW_ret1 rfl rfl ((2, blk ps T) :: D) ⟨rfl, rfl⟩ (Prm.nil _))
  · replace hg1 := of_decide_eq_false hg1
    refine RW_gy rfl rfl rfl (Yl.h (Yl_move rfl)) ?_
    refine RW_gy rfl rfl rfl (Yl.h (Yl_len rfl sl_23)) ?_
    refine RW_gy rfl rfl rfl (Yl.h (Yl_gtr rfl rfl)) ?_
    refine RW_l (Yl_pick_f rfl rfl) ?_
    refine RW_lv (ks := [0, 1, 2, 3, 27]) ?_
    refine CW_cond rfl (fun hc2 => ?_) (fun hc2 => ?_)
    · replace hc2 := of_decide_eq_true hc2
      refine CW_seq ?_
      refine CW_region ?_
      refine RW_a ?_
      refine RW_lv (ks := [8]) ?_
      refine CW_ret ?_
      refine QW_ret_then ?_
      first
        | exact QW_ret1 rfl rfl ((2, blk ps T) :: D) ⟨rfl, rfl⟩ (Prm.nil _)
        | (refine QW_sub (H' := (2, blk ps T) :: (D ++ F)) (.cons_cons _ (.cons _ (.cons _ (List.sublist_append_right _ _)))) ?_; exact QW_ret1 rfl rfl ((2, blk ps T) :: D) ⟨rfl, rfl⟩ (Prm.nil _))
        | (refine QW_sub (H' := (2, blk ps T) :: (D ++ F)) (.cons _ (.cons _ (.cons _ (.cons _ (.cons_cons _ (.cons _ (List.Sublist.trans (List.sublist_append_right _ _) (List.Sublist.trans (List.sublist_append_right _ _) (List.sublist_append_right _ _))))))))) ?_; exact QW_ret1 rfl rfl ((2, blk ps T) :: D) ⟨rfl, rfl⟩ (Prm.nil _))
    · replace hc2 := of_decide_eq_false hc2
      refine (CW_skip (QW_lv (ks := [0, 1, 2, 3]) ?_))
      refine CW_seq ?_
      refine CW_seq ?_
      refine CW_region ?_
      refine RW_m ?_
      refine RW_m ?_
      refine RW_fx rfl rfl rfl (Fx_callQ ok_13 (vs := [.slice pN nN cN, .slice pD nD cD]) (R := fun v => v = .bool (decide (nN ≤ 100 ∧ nD ≤ 1000))) rfl (Pick.nil _) (few_ct pN pD nN cN nD cD)) ?_
      rintro _ _ ⟨rfl, rfl⟩
      refine RW_l (Yl_not rfl) ?_
      refine RW_lv (ks := [0, 1, 2, 3, 31]) ?_
      refine CW_cond rfl (fun hc3 => ?_) (fun hc3 => ?_)
      · skip
        refine CW_seq ?_
        refine CW_region ?_
        refine RW_a ?_
        refine RW_lv (ks := [8]) ?_
        refine CW_ret ?_
        refine QW_ret_then ?_
        first
          | exact QW_ret1 rfl rfl ((2, blk ps T) :: D) ⟨rfl, rfl⟩ (Prm.nil _)
          | (refine QW_sub (H' := (2, blk ps T) :: (D ++ F)) (.cons_cons _ (.cons _ (.cons _ (List.sublist_append_right _ _)))) ?_; exact QW_ret1 rfl rfl ((2, blk ps T) :: D) ⟨rfl, rfl⟩ (Prm.nil _))
          | (refine QW_sub (H' := (2, blk ps T) :: (D ++ F)) (.cons _ (.cons _ (.cons _ (.cons _ (.cons_cons _ (.cons _ (List.Sublist.trans (List.sublist_append_right _ _) (List.Sublist.trans (List.sublist_append_right _ _) (List.sublist_append_right _ _))))))))) ?_; exact QW_ret1 rfl rfl ((2, blk ps T) :: D) ⟨rfl, rfl⟩ (Prm.nil _))
      · skip
        have hfew : nN ≤ 100 ∧ nD ≤ 1000 := by simpa using hc3
        refine (CW_skip (QW_lv (ks := [0, 1, 2, 3]) ?_))
        refine CW_seq ?_
        have hnodes := nodesOf_ct nN cN nD cD pN pD ((2, blk ps T) :: D) hN hD (by omega) hcN (by omega)
        refine CW_region ?_
        refine RW_m ?_
        refine RW_m ?_
        refine RW_fx rfl rfl rfl (Fx_call ok_14 (vs := [.slice pN nN cN, .slice pD nD cD]) rfl (Pick.cons (by repeat (first | exact Rem.here _ _ | apply Rem.there)) (pick_app D F)) hnodes) ?_
        rintro _ _ ⟨_, ⟨ns, g, cap, rn, rfl, hno, hfit, rfl⟩, rfl⟩
        simp only [List.cons_append, List.append_assoc]
        refine RW_a ?_
        refine RW_lv (ks := [2, 3, 9]) ?_
        refine CW_seq ?_
        have hxs := hno.xs
        have hw := write_ct g cap (verF four) st ns rn _ rfl hxs hno.ok (by rcases verF_or four with e | e <;> omega) (by omega)
        refine CW_region ?_
        refine RW_m ?_
        refine RW_m ?_
        refine RW_fx rfl rfl rfl (Fx_callQ ok_16 (vs := [.bool four]) (R := fun v => v = nv (verF four)) rfl (Pick.nil _) (versionOf_ct four)) ?_
        rintro _ _ ⟨rfl, rfl⟩
        refine RW_m ?_
        refine RW_l (Yl_conv (c := (st : Int)) rfl in_5 in_3 (wi64 (by omega) (by omega))) ?_
        refine RW_fx rfl rfl rfl (Fx_call ok_15 (vs := [.slice (some ⟨g, 0, none⟩) ns.length cap, nv (verF four), nv st]) rfl (Pick.cons (by repeat (first | exact Rem.here _ _ | apply Rem.there)) (pick_app (nmsH ns) _)) hw) ?_
        rintro _ _ ⟨_, ⟨gI, rfl, rfl⟩, rfl⟩
        simp only [List.cons_append]
        refine RW_a ?_
        refine RW_lv (ks := [9, 10]) ?_
        refine CW_seq ?_
        refine CW_seq ?_
        refine CW_heap (List.perm_middle (l₁ := (gI, blk (bys (writeF (verF four) st (ns.map Nm.nd))) 5) :: (g, blk (nms ns ++ rn) 43) :: nmsH ns)) ?_
        simp only [List.cons_append]
        refine CW_region ?_
        refine RW_m ?_
        refine RW_l (Yl_len rfl sl_23) ?_
        refine RW_l (Yl_gtr rfl rfl) ?_
        refine RW_lv (ks := [9, 10, 43]) ?_
        refine CW_cond rfl (fun hc4 => ?_) (fun hc4 => ?_)
        · replace hc4 := of_decide_eq_true hc4
          refine CW_seq ?_
          refine CW_region ?_
          refine RW_a ?_
          refine RW_lv (ks := [8]) ?_
          refine CW_ret ?_
          refine QW_ret_then ?_
          first
            | exact QW_ret1 rfl rfl ((2, blk ps T) :: D) ⟨rfl, rfl⟩ (Prm.nil _)
            | (refine QW_sub (H' := (2, blk ps T) :: (D ++ F)) (.cons_cons _ (.cons _ (.cons _ (List.sublist_append_right _ _)))) ?_; exact QW_ret1 rfl rfl ((2, blk ps T) :: D) ⟨rfl, rfl⟩ (Prm.nil _))
            | (refine QW_sub (H' := (2, blk ps T) :: (D ++ F)) (.cons _ (.cons _ (.cons _ (.cons _ (.cons_cons _ (.cons _ (List.Sublist.trans (List.sublist_append_right _ _) (List.Sublist.trans (List.sublist_append_right _ _) (List.sublist_append_right _ _))))))))) ?_; exact QW_ret1 rfl rfl ((2, blk ps T) :: D) ⟨rfl, rfl⟩ (Prm.nil _))
        · replace hc4 := of_decide_eq_false hc4
          refine (CW_skip (QW_lv (ks := [9, 10]) ?_))
          refine CW_seq ?_
          obtain ⟨o, ho, hok, hond, hol, hbad, hout, hpth⟩ := hno.travs (verF four)
          have hnl := hno.len
          have hord := Order_ct ns g cap rn o (by omega) (by omega) ho (fun k hk => (hok k).1 hk)
          refine CW_region ?_
          refine RW_m ?_
          refine RW_fx rfl rfl rfl (Fx_call ok_17 (vs := [.slice (some ⟨g, 0, none⟩) ns.length cap]) rfl (Pick.cons (by repeat (first | exact Rem.here _ _ | apply Rem.there)) (Pick.nil _)) hord) ?_
          rintro _ _ ⟨_, ⟨vs, oO, co, ro, oP, cp, rp, ppO, rfl, hvs, hro, hrp, rfl⟩, rfl⟩
          simp only [List.cons_append]
          refine RW_m ?_
          refine RW_l (Yl_extract (v := .slice (some ⟨oO, 0, none⟩) o.length co) rfl rfl) ?_
          refine RW_l (Yl_extract (v := .slice (some ⟨oP, 0, none⟩) o.length cp) rfl rfl) ?_
          refine RW_a ?_
          refine RW_a ?_
          refine RW_lv (ks := [9, 10, 11, 12]) ?_
          refine CW_seq ?_
          refine CW_heap (perm_front ((g, blk (nms ns ++ rn) 43) :: (oO, blk (nats (o.map Prod.fst) ++ ro) 3) :: (oP, blk (vs ++ rp) 36) :: ppO) [(2, blk ps T), (gI, blk (bys (writeF (verF four) st (ns.map Nm.nd))) 5)] (nmsH ns ++ (D ++ F))) ?_
          simp only [List.cons_append, List.nil_append]
          have hent := fun gI => Entries_nodes (T := T) (four := four) (st := st) hp hno hok hbad hout hpth (by omega) gI
          replace hent := hent gI
          refine CW_region ?_
          refine RW_m ?_
          refine RW_fx rfl rfl rfl (Fx_call ok_18 (vs := [.slice (some ⟨gI, 0, none⟩) (NF (verF four) (ns.map Nm.nd)) (NF (verF four) (ns.map Nm.nd))]) rfl (Pick.cons (by repeat (first | exact Rem.here _ _ | apply Rem.there)) (Pick.cons (by repeat (first | exact Rem.here _ _ | apply Rem.there)) (Pick.nil _))) hent) ?_
          rintro _ _ ⟨_, ⟨gR, cR, rr, rows, ppR, rfl, hrl, hr27, hrows, rfl⟩, rfl⟩
          simp only [List.cons_append]
          refine RW_m ?_
          refine RW_l (Yl_extract (v := .slice (some ⟨gR, 0, none⟩) o.length cR) rfl rfl) ?_
          refine RW_l (Yl_extract (v := nv 0) rfl rfl) ?_
          refine RW_a ?_
          refine RW_a ?_
          refine RW_lv (ks := [9, 11, 12, 13, 14]) ?_
          refine CW_seq ?_
          refine CW_seq ?_
          refine CW_region ?_
          refine RW_m ?_
          refine RW_l (Yl_neqF rfl rfl rfl) ?_
          refine RW_m ?_
          refine RW_gy rfl rfl rfl (Yl.h (Yl_move rfl)) ?_
          refine RW_gy rfl rfl rfl (Yl.h (Yl_len rfl sl_33)) ?_
          refine RW_gy rfl rfl rfl (Yl.h (Yl_move rfl)) ?_
          refine RW_gy rfl rfl rfl (Yl.h (Yl_len rfl sl_29)) ?_
          refine RW_gy rfl rfl rfl (Yl.h (Yl_neqF rfl rfl rfl)) ?_
          refine RW_l (Yl_pick_f rfl rfl) ?_
          refine RW_lv (ks := [9, 11, 12, 13, 62]) ?_
          refine CW_false rfl ?_
          refine (CW_skip (QW_lv (ks := [9, 11, 12, 13]) ?_))
          refine CW_seq ?_
          refine CW_seq ?_
          have hvl : vs.length = o.length := by have := hvs.len; simpa using this
          refine CW_heap (perm_front ((gI, blk (bys (writeF (verF four) st (ns.map Nm.nd))) 5) :: (2, blk ps T) :: (gR, blk (rows.flatten ++ rr) 41) :: ppR) [(g, blk (nms ns ++ rn) 43), (oO, blk (nats (o.map Prod.fst) ++ ro) 3), (oP, blk (vs ++ rp) 36)] (ppO ++ (nmsH ns ++ (D ++ F)))) ?_
          simp only [List.cons_append, List.nil_append]
          refine CW_region ?_
          refine RW_m ?_
          refine RW_l (Yl_len rfl sl_33) ?_
          refine RW_m ?_
          refine RW_lv (ks := [9, 11, 12, 63, 64, 65]) ?_
          refine CW_block ?_
          refine CW_loop (σ := Nat) (fun i => [(9, .slice (some ⟨g, 0, none⟩) ns.length cap), (11, .slice (some ⟨oO, 0, none⟩) o.length co), (12, .slice (some ⟨oP, 0, none⟩) o.length cp), (63, .slice (some ⟨gR, 0, none⟩) o.length cR), (64, nv o.length), (65, nv i)]) (fun _ => (g, blk (nms ns ++ rn) 43) :: (oO, blk (nats (o.map Prod.fst) ++ ro) 3) :: (oP, blk (vs ++ rp) 36) :: (gI, blk (bys (writeF (verF four) st (ns.map Nm.nd))) 5) :: (2, blk ps T) :: (gR, blk (rows.flatten ++ rr) 41) :: (ppR ++ (ppO ++ (nmsH ns ++ (D ++ F))))) (fun i => i ≤ o.length) (fun i => o.length - i) 0 (Nat.zero_le _) (by repeat (first | exact Prm.nil _ | exact Rem.here _ _ | apply Rem.there | apply Prm.cons)) (.cons rfl (.cons rfl (.cons rfl (.cons rfl (.cons rfl (.cons rfl .nil)))))) ?_
          rintro i hi
          refine CW_seq ?_
          refine CW_region ?_
          refine RW_l (Yl_lss rfl rfl) ?_
          refine RW_lv (ks := [9, 11, 12, 63, 64, 65, 66]) ?_
          refine CW_seq ?_
          refine CW_cond rfl (fun hc5 => ?_) (fun hc5 => ?_)
          · replace hc5 := of_decide_eq_true hc5
            refine (CW_skip (QW_lv (ks := [9, 11, 12, 63, 64, 65]) ?_))
            refine CW_seq ?_
            refine CW_block ?_
            refine CW_seq ?_
            obtain ⟨pvv, hpv, hrow⟩ := hrows i (by omega)
            obtain ⟨k, hk⟩ : ∃ k, (o.getD i default).1 = k := ⟨_, rfl⟩
            obtain ⟨p, hpp⟩ : ∃ p, (o.getD i default).2 = p := ⟨_, rfl⟩
            rw [hk] at hrow
            rw [hpp] at hpv
            have hoi : o.getD i default ∈ o := by rw [List.getD_eq_getElem?_getD, List.getElem?_eq_getElem (by omega)]; exact List.getElem_mem _
            have hkn : k < ns.length := (hok k).1 (List.mem_map.2 ⟨_, hoi, hk⟩)
            obtain ⟨x, hx⟩ : ∃ x, ns.getD k default = x := ⟨_, rfl⟩
            have hsz : k ≠ 0 → szN ns k = x.nd.data.length := fun h => by rw [← hx]; exact hno.size hkn h
            rw [hx] at hrow
            have hnpos : 0 < x.nd.name.length := by have := (hno.name hkn).1; unfold nmOf at this; rw [hx] at this; omega
            have hfb := (x.nd.name.getD 0 0).toNat_lt
            have hkle := kd_le ns k
            have hvi := hvs.get i (by simpa using (show i < o.length by omega))
            rw [snd_at (by omega), hpp] at hvi
            have hplen : p.length ≤ 1000000 := by
              rw [← hpp, ← hpth _ hoi]
              exact pth_small _ (by rw [tns_len]; have := (cnt_le (v := verF four) hno.xs).2; omega) _
            obtain ⟨q0, c0, hpe⟩ := hpv.slice
            obtain ⟨q1, c1, hve⟩ := hvi.slice
            have hrone : ∀ v ∈ (rowF x.nd (kdN ns k) (szN ns k : Int) pvv), v.oneCell' = true := by
              intro v hv
              simp only [rowF, List.mem_cons, List.mem_append, List.mem_map, List.not_mem_nil, or_false] at hv
              rcases hv with rfl | rfl | rfl | rfl | rfl | ⟨y, _, rfl⟩ | ⟨y, _, rfl⟩ | rfl | rfl
              all_goals first | rfl | exact hpv.one.1
            refine CW_region ?_
            refine RW_m ?_
            refine RW_l (Yl_indexN (b := gR) (off := 0) (i := i) (o' := i * 27) rfl rfl sl_33 (by omega) (by omega)) ?_
            refine RW_h (Yh_loadE (cs := (rowF x.nd (kdN ns k) (szN ns k : Int) pvv)) rfl ag_41 (by repeat (first | exact List.Mem.head _ | apply List.Mem.tail)) (by rw [List.length_append, rows_len _ hr27]; omega) (by rw [rows_at _ _ _ hr27 (by omega)]; exact hrow)) ?_
            refine RW_fx rfl rfl rfl (Fx_alloc (zs := zs_41) ze_41 rfl) ?_
            rintro _ _ ⟨b16, rfl, rfl⟩
            refine RW_a ?_
            refine RW_fx0 rfl rfl (Fx_storeA (b := b16) (off := 0) (l := zs_41) (T := 41) (cs := (rowF x.nd (kdN ns k) (szN ns k : Int) pvv)) rfl rfl (by rw [length_rowF]; exact sz_41) hrone (by repeat (first | exact Rep.here _ _ _ | apply Rep.there)) (by rw [length_rowF]; exact Nat.le_refl 27)) ?_
            rintro _ _ rfl
            refine RW_lv (ks := [9, 11, 12, 15, 16, 63, 64, 65]) ?_
            refine CW_seq ?_
            rw [spl_full _ _ (by rw [length_rowF]; rfl)]
            refine CW_region ?_
            refine RW_m ?_
            refine RW_m ?_
            refine RW_m ?_
            refine RW_l (Yl_indexN (b := oO) (off := 0) (i := i) (o' := i) rfl rfl sl_29 (by omega) (by omega)) ?_
            refine RW_h (Yh_load (v := nv k) rfl sc_3 (by repeat (first | exact List.Mem.head _ | apply List.Mem.tail)) (fst_at (by omega) hk)) ?_
            refine RW_l (Yl_indexN (b := g) (off := 0) (i := k) (o' := k * 28) rfl rfl sl_25 hkn (by omega)) ?_
            refine RW_h (Yh_loadE (cs := x.cells) rfl ag_43 (by repeat (first | exact List.Mem.head _ | apply List.Mem.tail)) (by rw [List.length_append, length_nms]; omega) (by rw [nms_at _ _ _ hkn, hx])) ?_
            refine RW_fx rfl rfl rfl (Fx_alloc (zs := zs_43) ze_43 rfl) ?_
            rintro _ _ ⟨b17, rfl, rfl⟩
            refine RW_fx0 rfl rfl (Fx_storeA (b := b17) (off := 0) (l := zs_43) (T := 43) (cs := x.cells) rfl rfl (by rw [Nm.length_cells]; exact sz_43) (Nm.one_cells _) (by repeat (first | exact Rep.here _ _ _ | apply Rep.there)) (by rw [Nm.length_cells]; exact Nat.le_refl 28)) ?_
            rintro _ _ rfl
            refine RW_lv (ks := [9, 11, 12, 15, 16, 17, 63, 64, 65]) ?_
            refine CW_seq ?_
            rw [spl_full _ _ (by rw [Nm.length_cells]; rfl)]
            refine CW_region ?_
            refine RW_a ?_
            refine RW_lv (ks := [9, 11, 12, 15, 16, 17, 18, 63, 64, 65]) ?_
            refine CW_cut (σ := Unit) (fun _ => [(9, .slice (some ⟨g, 0, none⟩) ns.length cap), (11, .slice (some ⟨oO, 0, none⟩) o.length co), (12, .slice (some ⟨oP, 0, none⟩) o.length cp), (15, nv i), (16, pv b16), (17, pv b17), (18, nv (kdN ns k)), (63, .slice (some ⟨gR, 0, none⟩) o.length cR), (64, nv o.length), (65, nv i)]) (fun _ => (b17, blk x.cells 43) :: (b16, blk (rowF x.nd (kdN ns k) (szN ns k : Int) pvv) 41) :: (g, blk (nms ns ++ rn) 43) :: (oO, blk (nats (o.map Prod.fst) ++ ro) 3) :: (oP, blk (vs ++ rp) 36) :: (gI, blk (bys (writeF (verF four) st (ns.map Nm.nd))) 5) :: (2, blk ps T) :: (gR, blk (rows.flatten ++ rr) 41) :: (ppR ++ (ppO ++ (nmsH ns ++ (D ++ F))))) (fun _ => True) ?_ ?_
            · skip
              refine CW_block ?_
              refine CW_seq ?_
              refine CW_region ?_
              refine RW_m ?_
              refine RW_m ?_
              refine RW_l (Yl_indexN (b := oO) (off := 0) (i := i) (o' := i) rfl rfl sl_29 (by omega) (by omega)) ?_
              refine RW_h (Yh_load (v := nv k) rfl sc_3 (by repeat (first | exact List.Mem.head _ | apply List.Mem.tail)) (fst_at (by omega) hk)) ?_
              refine RW_l (Yl_eql rfl rfl) ?_
              refine RW_a ?_
              refine RW_lv (ks := [9, 11, 12, 15, 16, 17, 18, 63, 64, 65, 77]) ?_
              refine CW_cond rfl (fun hc6 => ?_) (fun hc6 => ?_)
              · replace hc6 := of_decide_eq_true hc6
                have hk0 : k = 0 := by omega
                refine CW_region ?_
                refine RW_a ?_
                refine RW_nil ?_
                refine QW_normal_block ?_
                first
                  | (rw [kd_root ns hk0]; exact QW_cut () trivial (by repeat (first | exact Prm.nil _ | exact Rem.here _ _ | apply Rem.there | apply Prm.cons)) (.cons rfl (.cons rfl (.cons rfl (.cons rfl (.cons rfl (.cons rfl (.cons rfl (.cons rfl (.cons rfl (.cons rfl .nil)))))))))))
                  | (rw [kd_str hk0 (by rw [hx]; exact hs0)]; exact QW_cut () trivial (by repeat (first | exact Prm.nil _ | exact Rem.here _ _ | apply Rem.there | apply Prm.cons)) (.cons rfl (.cons rfl (.cons rfl (.cons rfl (.cons rfl (.cons rfl (.cons rfl (.cons rfl (.cons rfl (.cons rfl .nil)))))))))))
                  | (rw [kd_sto hk0 (by rw [hx]; exact hs0)]; exact QW_cut () trivial (by repeat (first | exact Prm.nil _ | exact Rem.here _ _ | apply Rem.there | apply Prm.cons)) (.cons rfl (.cons rfl (.cons rfl (.cons rfl (.cons rfl (.cons rfl (.cons rfl (.cons rfl (.cons rfl (.cons rfl .nil)))))))))))
              · replace hc6 := of_decide_eq_false hc6
                have hk0 : k ≠ 0 := by omega
                refine CW_seq ?_
                refine CW_region ?_
                refine RW_l (Yl_field rfl fo_43_1) ?_
                refine RW_h (Yh_load (v := .bool x.nd.stream) rfl sc_4 (by repeat (first | exact List.Mem.head _ | apply List.Mem.tail)) rfl) ?_
                refine RW_a ?_
                refine RW_lv (ks := [9, 11, 12, 15, 16, 17, 18, 63, 64, 65, 83]) ?_
                refine CW_cond rfl (fun hc7 => ?_) (fun hc7 => ?_)
                · skip
                  have hs0 : x.nd.stream = true := hc7
                  refine CW_region ?_
                  refine RW_a ?_
                  refine RW_nil ?_
                  refine QW_normal_block ?_
                  first
                    | (rw [kd_root ns hk0]; exact QW_cut () trivial (by repeat (first | exact Prm.nil _ | exact Rem.here _ _ | apply Rem.there | apply Prm.cons)) (.cons rfl (.cons rfl (.cons rfl (.cons rfl (.cons rfl (.cons rfl (.cons rfl (.cons rfl (.cons rfl (.cons rfl .nil)))))))))))
                    | (rw [kd_str hk0 (by rw [hx]; exact hs0)]; exact QW_cut () trivial (by repeat (first | exact Prm.nil _ | exact Rem.here _ _ | apply Rem.there | apply Prm.cons)) (.cons rfl (.cons rfl (.cons rfl (.cons rfl (.cons rfl (.cons rfl (.cons rfl (.cons rfl (.cons rfl (.cons rfl .nil)))))))))))
                    | (rw [kd_sto hk0 (by rw [hx]; exact hs0)]; exact QW_cut () trivial (by repeat (first | exact Prm.nil _ | exact Rem.here _ _ | apply Rem.there | apply Prm.cons)) (.cons rfl (.cons rfl (.cons rfl (.cons rfl (.cons rfl (.cons rfl (.cons rfl (.cons rfl (.cons rfl (.cons rfl .nil)))))))))))
                · skip
                  have hs0 : x.nd.stream = false := hc7
                  refine CW_skip ?_
                  refine QW_normal_block ?_
                  first
                    | (rw [kd_root ns hk0]; exact QW_cut () trivial (by repeat (first | exact Prm.nil _ | exact Rem.here _ _ | apply Rem.there | apply Prm.cons)) (.cons rfl (.cons rfl (.cons rfl (.cons rfl (.cons rfl (.cons rfl (.cons rfl (.cons rfl (.cons rfl (.cons rfl .nil)))))))))))
                    | (rw [kd_str hk0 (by rw [hx]; exact hs0)]; exact QW_cut () trivial (by repeat (first | exact Prm.nil _ | exact Rem.here _ _ | apply Rem.there | apply Prm.cons)) (.cons rfl (.cons rfl (.cons rfl (.cons rfl (.cons rfl (.cons rfl (.cons rfl (.cons rfl (.cons rfl (.cons rfl .nil)))))))))))
                    | (rw [kd_sto hk0 (by rw [hx]; exact hs0)]; exact QW_cut () trivial (by repeat (first | exact Prm.nil _ | exact Rem.here _ _ | apply Rem.there | apply Prm.cons)) (.cons rfl (.cons rfl (.cons rfl (.cons rfl (.cons rfl (.cons rfl (.cons rfl (.cons rfl (.cons rfl (.cons rfl .nil)))))))))))
            · rintro ⟨⟩ -
              refine CW_seq ?_
              refine CW_seq ?_
              refine CW_draw [] _ mixed (Sub.refl _) ?_
              refine RD_l 0 rfl (Yl_field rfl fo_41_0) ?_
              refine RD_l 2 rfl (Yl_field rfl fo_43_0) ?_
              refine RD_h (i := 1) #[true, false, true, true, false, false, false, false, false, false, false, false, false, false, false, false, false, false, false, false, false, false, false, false, false, false, false, false, false, false, false, false, false, false, false, false, false, false, false, false, false, false, false, false, false, false, false, false, false, false, false, false, false, false, false, false, false, false, false, false, false, false, false, false, false, false, false, false, false, false, false] rfl rfl rfl rfl (by kernel_rfl) (fun _ _ _ h => h) (Yh_load (v := .string (bar x.nd.name)) rfl sc_9 (by repeat (first | exact List.Mem.head _ | apply List.Mem.tail)) rfl) ?_
              refine RD_h (i := 3) #[true, true, true, false, false, false, false, false, false, false, false, false, false, false, false, false, false, false, false, false, false, false, false, false, false, false, false, false, false, false, false, false, false, false, false, false, false, false, false, false, false, false, false, false, false, false, false, false, false, false, false, false, false, false, false, false, false, false, false, false, false, false, false, false, false, false, false, false, false, false, false] rfl rfl rfl rfl (by kernel_rfl) (fun _ _ _ h => h) (Yh_load (v := .string (bar x.nd.name)) rfl sc_9 (by repeat (first | exact List.Mem.head _ | apply List.Mem.tail)) rfl) ?_
              refine RD_l 4 rfl (Yl_strNeF rfl rfl) ?_
              refine RD_l 5 rfl (Yl_move rfl) ?_
              refine RD_l 6 rfl (Yl_field rfl fo_41_2) ?_
              refine RD_l 8 rfl (Yl_move rfl) ?_
              refine RD_h (i := 7) #[true, true, true, true, true, true, true, false, true, false, false, false, false, false, false, false, false, false, false, false, false, false, false, false, false, false, false, false, false, false, false, false, false, false, false, false, false, false, false, false, false, false, false, false, false, false, false, false, false, false, false, false, false, false, false, false, false, false, false, false, false, false, false, false, false, false, false, false, false, false, false] rfl rfl rfl rfl (by kernel_rfl) (fun _ _ _ h => h) (Yh_load (v := nv (kdN ns k)) rfl sc_3 (by repeat (first | exact List.Mem.head _ | apply List.Mem.tail)) rfl) ?_
              refine RD_l 9 rfl (Yl_neqF rfl rfl rfl) ?_
              refine RD_l 10 rfl (Yl_pick_f rfl rfl) ?_
              refine RD_l 11 rfl (Yl_move rfl) ?_
              refine RD_l 12 rfl (Yl_move rfl) ?_
              refine RD_l 13 rfl (Yl_neq rfl rfl) ?_
              refine RD_l 14 rfl (Yl_move rfl) ?_
              refine RD_bool 100 rfl (fun hg8 => ?_) (fun hg8 => ?_)
              · replace hg8 := of_decide_eq_true hg8
                refine RD_l 15 rfl (Yl_field rfl fo_41_3) ?_
                refine RD_l 17 rfl (Yl_field rfl fo_43_2) ?_
                refine RD_h (i := 16) #[true, true, true, true, true, true, true, true, true, true, true, true, true, true, true, true, false, true, true, true, false, false, false, false, false, false, false, false, false, false, false, false, false, false, false, false, false, false, false, false, false, false, false, false, false, false, false, false, false, false, false, false, false, false, false, false, false, false, false, false, false, false, false, false, false, false, false, false, false, false, false] rfl rfl rfl rfl (by kernel_rfl) (fun _ _ _ h => h) (Yh_load (v := .int .i64 (szN ns k : Int)) rfl sc_2 (by repeat (first | exact List.Mem.head _ | apply List.Mem.tail)) rfl) ?_
                refine RD_h (i := 18) #[true, true, true, true, true, true, true, true, true, true, true, true, true, true, true, true, true, true, false, false, false, false, false, false, false, false, false, false, false, false, false, false, false, false, false, false, false, false, false, false, false, false, false, false, false, false, false, false, false, false, false, false, false, false, false, false, false, false, false, false, false, false, false, false, false, false, false, false, false, false, false] rfl rfl rfl rfl (by kernel_rfl) (fun _ _ _ h => h) (Yh_load (v := x.slice) rfl sc_23 (by repeat (first | exact List.Mem.head _ | apply List.Mem.tail)) rfl) ?_
                refine RD_l 19 rfl (Yl_len rfl sl_23) ?_
                refine RD_l 20 rfl (Yl_neqF rfl rfl (by rw [hsz (kd_five (ns := ns) (k := k) (by omega))])) ?_
                refine RD_l 21 rfl (Yl_pick_t rfl rfl) ?_
                refine RD_l 22 rfl (Yl_pick_f rfl rfl) ?_
                refine RD_l 23 rfl (Yl_move rfl) ?_
                refine RD_l 24 rfl (Yl_field rfl fo_41_4) ?_
                refine RD_l 26 rfl (Yl_field rfl fo_43_0) ?_
                refine RD_h (i := 25) #[true, true, true, true, true, true, true, true, true, true, true, true, true, true, true, true, true, true, true, true, true, true, true, true, true, false, true, true, true, true, false, false, false, false, false, false, false, false, false, false, false, false, false, false, false, false, false, false, false, false, false, false, false, false, false, false, false, false, false, false, false, false, false, false, false, false, false, false, false, false, false] rfl rfl rfl rfl (by kernel_rfl) (fun _ _ _ h => h) (Yh_load (v := .int .i64 ((x.nd.name.getD 0 0).toNat : Int)) rfl sc_3 (by repeat (first | exact List.Mem.head _ | apply List.Mem.tail)) rfl) ?_
                refine RD_h (i := 27) #[true, true, true, true, true, true, true, true, true, true, true, true, true, true, true, true, true, true, true, true, true, true, true, true, true, true, true, false, false, false, false, false, false, false, false, false, false, false, false, false, false, false, false, false, false, false, false, false, false, false, false, false, false, false, false, false, false, false, false, false, false, false, false, false, false, false, false, false, false, false, false] rfl rfl rfl rfl (by kernel_rfl) (fun _ _ _ h => h) (Yh_load (v := .string (bar x.nd.name)) rfl sc_9 (by repeat (first | exact List.Mem.head _ | apply List.Mem.tail)) rfl) ?_
                refine RD_l 28 rfl (Yl_first rfl rfl st_9 hnpos) ?_
                refine RD_l 29 rfl (Yl_conv (c := ((x.nd.name.getD 0 0).toNat : Int)) rfl in_5 in_3 (wi64 (by omega) (by omega))) ?_
                refine RD_l 30 rfl (Yl_neqF rfl rfl rfl) ?_
                refine RD_l 31 rfl (Yl_pick_f rfl rfl) ?_
                refine RD_l 32 rfl (Yl_move rfl) ?_
                refine RD_l 33 rfl (Yl_field rfl fo_41_5) ?_
                refine RD_l 35 rfl (Yl_field rfl fo_43_6) ?_
                refine RD_h (i := 34) #[true, true, true, true, true, true, true, true, true, true, true, true, true, true, true, true, true, true, true, true, true, true, true, true, true, true, true, true, true, true, true, true, true, true, false, true, true, false, false, false, false, false, false, false, false, false, false, false, false, false, false, false, false, false, false, false, false, false, false, false, false, false, false, false, false, false, false, false, false, false, false] rfl rfl rfl rfl (by kernel_rfl) (fun _ _ _ h => h) (Yh_loadE (cs := bys x.nd.cls) rfl ag_37 (by repeat (first | exact List.Mem.head _ | apply List.Mem.tail)) (by rw [length_rowF]; omega) (row_cls _ _ _ _)) ?_
                refine RD_h (i := 36) #[true, true, true, true, true, true, true, true, true, true, true, true, true, true, true, true, true, true, true, true, true, true, true, true, true, true, true, true, true, true, true, true, true, true, true, true, false, false, false, false, false, false, false, false, false, false, false, false, false, false, false, false, false, false, false, false, false, false, false, false, false, false, false, false, false, false, false, false, false, false, false] rfl rfl rfl rfl (by kernel_rfl) (fun _ _ _ h => h) (Yh_loadE (cs := bys x.nd.cls) rfl ag_37 (by repeat (first | exact List.Mem.head _ | apply List.Mem.tail)) (by rw [Nm.length_cells]; omega) (Nm.cls x)) ?_
                refine RD_l 37 rfl (Yl_arrNe rfl rfl un_37 eg_37 x.nd.h16) ?_
                refine RD_l 38 rfl (Yl_pick_f rfl rfl) ?_
                refine RD_l 39 rfl (Yl_move rfl) ?_
                refine RD_l 40 rfl (Yl_field rfl fo_41_6) ?_
                refine RD_l 42 rfl (Yl_field rfl fo_43_7) ?_
                refine RD_h (i := 41) #[true, true, true, true, true, true, true, true, true, true, true, true, true, true, true, true, true, true, true, true, true, true, true, true, true, true, true, true, true, true, true, true, true, true, true, true, true, true, true, true, true, false, true, true, false, false, false, false, false, false, false, false, false, false, false, false, false, false, false, false, false, false, false, false, false, false, false, false, false, false, false] rfl rfl rfl rfl (by kernel_rfl) (fun _ _ _ h => h) (Yh_loadE (cs := bys x.nd.state) rfl ag_38 (by repeat (first | exact List.Mem.head _ | apply List.Mem.tail)) (by rw [length_rowF]; omega) (row_state _ _ _ _)) ?_
                refine RD_h (i := 43) #[true, true, true, true, true, true, true, true, true, true, true, true, true, true, true, true, true, true, true, true, true, true, true, true, true, true, true, true, true, true, true, true, true, true, true, true, true, true, true, true, true, true, true, false, false, false, false, false, false, false, false, false, false, false, false, false, false, false, false, false, false, false, false, false, false, false, false, false, false, false, false] rfl rfl rfl rfl (by kernel_rfl) (fun _ _ _ h => h) (Yh_loadE (cs := bys x.nd.state) rfl ag_38 (by repeat (first | exact List.Mem.head _ | apply List.Mem.tail)) (by rw [Nm.length_cells]; omega) (Nm.state x)) ?_
                refine RD_l 44 rfl (Yl_arrNe rfl rfl un_38 eg_38 x.nd.h4) ?_
                refine RD_l 45 rfl (Yl_pick_f rfl rfl) ?_
                refine RD_l 46 rfl (Yl_move rfl) ?_
                refine RD_l 47 rfl (Yl_field rfl fo_41_7) ?_
                refine RD_l 49 rfl (Yl_field rfl fo_43_8) ?_
                refine RD_h (i := 48) #[true, true, true, true, true, true, true, true, true, true, true, true, true, true, true, true, true, true, true, true, true, true, true, true, true, true, true, true, true, true, true, true, true, true, true, true, true, true, true, true, true, true, true, true, true, true, true, true, false, true, true, false, false, false, false, false, false, false, false, false, false, false, false, false, false, false, false, false, false, false, false] rfl rfl rfl rfl (by kernel_rfl) (fun _ _ _ h => h) (Yh_load (v := .int .u64 (x.nd.created : Int)) rfl sc_39 (by repeat (first | exact List.Mem.head _ | apply List.Mem.tail)) (row_cr _ _ _ _)) ?_
                refine RD_h (i := 50) #[true, true, true, true, true, true, true, true, true, true, true, true, true, true, true, true, true, true, true, true, true, true, true, true, true, true, true, true, true, true, true, true, true, true, true, true, true, true, true, true, true, true, true, true, true, true, true, true, true, true, false, false, false, false, false, false, false, false, false, false, false, false, false, false, false, false, false, false, false, false, false] rfl rfl rfl rfl (by kernel_rfl) (fun _ _ _ h => h) (Yh_load (v := .int .u64 (x.nd.created : Int)) rfl sc_39 (by repeat (first | exact List.Mem.head _ | apply List.Mem.tail)) (Nm.at26 x)) ?_
                refine RD_l 51 rfl (Yl_neqF rfl rfl rfl) ?_
                refine RD_l 52 rfl (Yl_pick_f rfl rfl) ?_
                refine RD_l 53 rfl (Yl_move rfl) ?_
                refine RD_l 54 rfl (Yl_field rfl fo_41_8) ?_
                refine RD_l 56 rfl (Yl_field rfl fo_43_9) ?_
                refine RD_h (i := 55) #[true, true, true, true, true, true, true, true, true, true, true, true, true, true, true, true, true, true, true, true, true, true, true, true, true, true, true, true, true, true, true, true, true, true, true, true, true, true, true, true, true, true, true, true, true, true, true, true, true, true, true, true, true, true, true, false, true, true, false, false, false, false, false, false, false, false, false, false, false, false, false] rfl rfl rfl rfl (by kernel_rfl) (fun _ _ _ h => h) (Yh_load (v := .int .u64 (x.nd.modified : Int)) rfl sc_39 (by repeat (first | exact List.Mem.head _ | apply List.Mem.tail)) (row_mo _ _ _ _)) ?_
                refine RD_h (i := 57) #[true, true, true, true, true, true, true, true, true, true, true, true, true, true, true, true, true, true, true, true, true, true, true, true, true, true, true, true, true, true, true, true, true, true, true, true, true, true, true, true, true, true, true, true, true, true, true, true, true, true, true, true, true, true, true, true, true, false, false, false, false, false, false, false, false, false, false, false, false, false, false] rfl rfl rfl rfl (by kernel_rfl) (fun _ _ _ h => h) (Yh_load (v := .int .u64 (x.nd.modified : Int)) rfl sc_39 (by repeat (first | exact List.Mem.head _ | apply List.Mem.tail)) (Nm.at27 x)) ?_
                refine RD_l 58 rfl (Yl_neqF rfl rfl rfl) ?_
                refine RD_l 59 rfl (Yl_pick_f rfl rfl) ?_
                refine RD_l 60 rfl (Yl_move rfl) ?_
                refine RD_l 61 rfl (Yl_field rfl fo_41_1) ?_
                refine RD_l 64 rfl (Yl_move rfl) ?_
                refine RD_l 65 rfl (Yl_move rfl) ?_
                refine RD_l 66 rfl (Yl_indexN (b := oP) (off := 0) (i := i) (o' := i) rfl rfl sl_30 (by omega) (by omega)) ?_
                refine RD_h (i := 62) #[true, true, true, true, true, true, true, true, true, true, true, true, true, true, true, true, true, true, true, true, true, true, true, true, true, true, true, true, true, true, true, true, true, true, true, true, true, true, true, true, true, true, true, true, true, true, true, true, true, true, true, true, true, true, true, true, true, true, true, true, true, true, false, false, true, true, true, true, true, false, false] rfl rfl rfl rfl (by kernel_rfl) (fun _ _ _ h => h) (Yh_load (v := .slice q0 p.length c0) rfl sc_36 (by repeat (first | exact List.Mem.head _ | apply List.Mem.tail)) (by rw [← hpe]; rfl)) ?_
                refine RD_l 63 rfl (Yl_len rfl sl_36) ?_
                refine RD_h (i := 67) #[true, true, true, true, true, true, true, true, true, true, true, true, true, true, true, true, true, true, true, true, true, true, true, true, true, true, true, true, true, true, true, true, true, true, true, true, true, true, true, true, true, true, true, true, true, true, true, true, true, true, true, true, true, true, true, true, true, true, true, true, true, true, true, true, true, true, true, false, false, false, false] rfl rfl rfl rfl (by kernel_rfl) (fun _ _ _ h => h) (Yh_load (v := .slice q1 p.length c1) rfl sc_36 (by repeat (first | exact List.Mem.head _ | apply List.Mem.tail)) (at_vals (by omega) hve)) ?_
                refine RD_l 68 rfl (Yl_len rfl sl_36) ?_
                refine RD_l 69 rfl (Yl_neqF rfl rfl rfl) ?_
                refine RD_l 70 rfl (Yl_pick_f rfl rfl) ?_
                refine (RD_done (by kernel_rfl) (QW_lv (ks := [9, 11, 12, 15, 16, 63, 64, 65, 156]) ?_))
                refine CW_false rfl ?_
                refine (CW_skip (QW_lv (ks := [9, 11, 12, 15, 16, 63, 64, 65]) ?_))
                refine CW_seq ?_
                refine CW_region ?_
                refine RW_l (Yl_field rfl fo_41_1) ?_
                refine RW_h (Yh_load (v := .slice q0 p.length c0) rfl sc_36 (by repeat (first | exact List.Mem.head _ | apply List.Mem.tail)) (by rw [← hpe]; rfl)) ?_
                refine RW_l (Yl_len rfl sl_36) ?_
                refine RW_m ?_
                refine RW_lv (ks := [9, 11, 12, 15, 16, 63, 64, 65, 159, 160]) ?_
                refine CW_block ?_
                refine CW_loop (σ := Nat) (fun j => [(9, .slice (some ⟨g, 0, none⟩) ns.length cap), (11, .slice (some ⟨oO, 0, none⟩) o.length co), (12, .slice (some ⟨oP, 0, none⟩) o.length cp), (15, nv i), (16, pv b16), (63, .slice (some ⟨gR, 0, none⟩) o.length cR), (64, nv o.length), (65, nv i), (159, nv p.length), (160, nv j)]) (fun _ => (b17, blk x.cells 43) :: (b16, blk (rowF x.nd (kdN ns k) (szN ns k : Int) pvv) 41) :: (g, blk (nms ns ++ rn) 43) :: (oO, blk (nats (o.map Prod.fst) ++ ro) 3) :: (oP, blk (vs ++ rp) 36) :: (gI, blk (bys (writeF (verF four) st (ns.map Nm.nd))) 5) :: (2, blk ps T) :: (gR, blk (rows.flatten ++ rr) 41) :: (ppR ++ (ppO ++ (nmsH ns ++ (D ++ F))))) (fun j => j ≤ p.length) (fun j => p.length - j) 0 (Nat.zero_le _) (by repeat (first | exact Prm.nil _ | exact Rem.here _ _ | apply Rem.there | apply Prm.cons)) (.cons rfl (.cons rfl (.cons rfl (.cons rfl (.cons rfl (.cons rfl (.cons rfl (.cons rfl (.cons rfl (.cons rfl .nil)))))))))) ?_
                rintro j hj
                refine CW_seq ?_
                refine CW_region ?_
                refine RW_l (Yl_lss rfl rfl) ?_
                refine RW_lv (ks := [9, 11, 12, 15, 16, 63, 64, 65, 159, 160, 161]) ?_
                refine CW_seq ?_
                refine CW_cond rfl (fun hc9 => ?_) (fun hc9 => ?_)
                · replace hc9 := of_decide_eq_true hc9
                  refine (CW_skip (QW_lv (ks := [9, 11, 12, 15, 16, 63, 64, 65, 159, 160]) ?_))
                  refine CW_seq ?_
                  refine CW_block ?_
                  refine CW_seq ?_
                  obtain ⟨bq, cq, rq, hqe, hmq⟩ := hpv.some (by omega)
                  obtain ⟨bz, cz, rz, hze, hmz⟩ := hvi.some (by omega)
                  refine CW_region ?_
                  refine RW_m ?_
                  refine RW_a ?_
                  refine RW_lv (ks := [9, 11, 12, 15, 16, 19, 63, 64, 65, 159, 160]) ?_
                  refine CW_seq ?_
                  refine CW_draw [] _ mixed (Sub.refl _) ?_
                  refine RD_l 0 rfl (Yl_field rfl fo_41_1) ?_
                  refine RD_l 2 rfl (Yl_move rfl) ?_
                  refine RD_l 5 rfl (Yl_move rfl) ?_
                  refine RD_l 6 rfl (Yl_move rfl) ?_
                  refine RD_l 7 rfl (Yl_indexN (b := oP) (off := 0) (i := i) (o' := i) rfl rfl sl_30 (by omega) (by omega)) ?_
                  refine RD_l 9 rfl (Yl_move rfl) ?_
                  refine RD_h (i := 1) #[true, false, true, false, false, true, true, true, true, true, true, true, false] rfl rfl rfl rfl (by kernel_rfl) (fun _ _ _ h => h) (Yh_load (v := .slice (some ⟨bq, 0, none⟩) p.length cq) rfl sc_36 (by repeat (first | exact List.Mem.head _ | apply List.Mem.tail)) (by rw [← hqe]; rfl)) ?_
                  refine RD_l 3 rfl (Yl_indexN (b := bq) (off := 0) (i := j) (o' := j) rfl rfl sl_36 (by omega) (by omega)) ?_
                  refine RD_h (i := 4) #[true, true, true, true, false, true, true, true, true, true, true, true, false] rfl rfl rfl rfl (by kernel_rfl) (fun _ _ _ h => h) (Yh_load (v := .string (bar (p.getD j []))) rfl sc_9 (by repeat (first | exact List.mem_append_left _ hmq | apply List.Mem.tail)) (at_strs (by omega))) ?_
                  refine RD_h (i := 8) #[true, true, true, true, true, true, true, true, false, true, false, false, false] rfl rfl rfl rfl (by kernel_rfl) (fun _ _ _ h => h) (Yh_load (v := .slice (some ⟨bz, 0, none⟩) p.length cz) rfl sc_36 (by repeat (first | exact List.Mem.head _ | apply List.Mem.tail)) (at_vals (by omega) hze)) ?_
                  refine RD_l 10 rfl (Yl_indexN (b := bz) (off := 0) (i := j) (o' := j) rfl rfl sl_36 (by omega) (by omega)) ?_
                  refine RD_h (i := 11) #[true, true, true, true, true, true, true, true, true, true, true, false, false] rfl rfl rfl rfl (by kernel_rfl) (fun _ _ _ h => h) (Yh_load (v := .string (bar (p.getD j []))) rfl sc_9 (by repeat (first | exact List.mem_append_right _ (List.mem_append_left _ hmz) | apply List.Mem.tail)) (at_strs (by omega))) ?_
                  refine RD_l 12 rfl (Yl_strNeF rfl rfl) ?_
                  refine (RD_done (by kernel_rfl) (QW_lv (ks := [9, 11, 12, 15, 16, 63, 64, 65, 159, 160, 175]) ?_))
                  refine CW_false rfl ?_
                  refine CW_skip ?_
                  refine QW_normal_block ?_
                  refine (QW_lv (ks := [9, 11, 12, 15, 16, 63, 64, 65, 159, 160]) ?_)
                  refine CW_region ?_
                  refine RW_l (Yl_add (c := ((j + 1 : Nat) : Int)) rfl rfl (wi64 (by omega) (by omega))) ?_
                  refine RW_m ?_
                  refine RW_nil ?_
                  exact QW_round (j + 1) (by omega) (by omega) (by repeat (first | exact Prm.nil _ | exact Rem.here _ _ | apply Rem.there | apply Prm.cons)) (.cons rfl (.cons rfl (.cons rfl (.cons rfl (.cons rfl (.cons rfl (.cons rfl (.cons rfl (.cons rfl (.cons rfl .nil))))))))))
                · replace hc9 := of_decide_eq_false hc9
                  refine CW_exit ?_
                  refine QW_exit_then ?_
                  refine QW_exit_then ?_
                  refine QW_exit_block ?_
                  refine QW_normal_block ?_
                  refine (QW_lv (ks := [9, 11, 12, 63, 64, 65]) ?_)
                  refine CW_region ?_
                  refine RW_l (Yl_add (c := ((i + 1 : Nat) : Int)) rfl rfl (wi64 (by omega) (by omega))) ?_
                  refine RW_m ?_
                  refine RW_nil ?_
                  refine QW_dropB (e := (b17, _)) (by repeat (first | exact Rem.here _ _ | apply Rem.there)) ?_
                  refine QW_dropB (e := (b16, _)) (by repeat (first | exact Rem.here _ _ | apply Rem.there)) ?_
                  exact QW_round (i + 1) (by omega) (by omega) (by repeat (first | exact Prm.nil _ | exact Rem.here _ _ | apply Rem.there | apply Prm.cons)) (.cons rfl (.cons rfl (.cons rfl (.cons rfl (.cons rfl (.cons rfl .nil))))))
              · replace hg8 := of_decide_eq_false hg8
                refine RD_skip (i := 15) rfl rfl rfl rfl (by kernel_rfl) (fun _ _ _ h => h) ?_
                refine RD_skip (i := 16) rfl rfl rfl rfl (by kernel_rfl) (fun _ _ _ h => h) ?_
                refine RD_skip (i := 17) rfl rfl rfl rfl (by kernel_rfl) (fun _ _ _ h => h) ?_
                refine RD_skip (i := 18) rfl rfl rfl rfl (by kernel_rfl) (fun _ _ _ h => h) ?_
                refine RD_skip (i := 19) rfl rfl rfl rfl (by kernel_rfl) (fun _ _ _ h => h) ?_
                refine RD_skip (i := 20) rfl rfl rfl rfl (by kernel_rfl) (fun _ _ _ h => h) ?_
                refine RD_l 21 rfl (Yl_pick_f rfl rfl) ?_
                refine RD_l 22 rfl (Yl_pick_f rfl rfl) ?_
                refine RD_l 23 rfl (Yl_move rfl) ?_
                refine RD_l 24 rfl (Yl_field rfl fo_41_4) ?_
                refine RD_l 26 rfl (Yl_field rfl fo_43_0) ?_
                refine RD_h (i := 25) #[true, true, true, true, true, true, true, true, true, true, true, true, true, true, true, true, true, true, true, true, true, true, true, true, true, false, true, true, true, true, false, false, false, false, false, false, false, false, false, false, false, false, false, false, false, false, false, false, false, false, false, false, false, false, false, false, false, false, false, false, false, false, false, false, false, false, false, false, false, false, false] rfl rfl rfl rfl (by kernel_rfl) (fun _ _ _ h => h) (Yh_load (v := .int .i64 ((x.nd.name.getD 0 0).toNat : Int)) rfl sc_3 (by repeat (first | exact List.Mem.head _ | apply List.Mem.tail)) rfl) ?_
                refine RD_h (i := 27) #[true, true, true, true, true, true, true, true, true, true, true, true, true, true, true, true, true, true, true, true, true, true, true, true, true, true, true, false, false, false, false, false, false, false, false, false, false, false, false, false, false, false, false, false, false, false, false, false, false, false, false, false, false, false, false, false, false, false, false, false, false, false, false, false, false, false, false, false, false, false, false] rfl rfl rfl rfl (by kernel_rfl) (fun _ _ _ h => h) (Yh_load (v := .string (bar x.nd.name)) rfl sc_9 (by repeat (first | exact List.Mem.head _ | apply List.Mem.tail)) rfl) ?_
                refine RD_l 28 rfl (Yl_first rfl rfl st_9 hnpos) ?_
                refine RD_l 29 rfl (Yl_conv (c := ((x.nd.name.getD 0 0).toNat : Int)) rfl in_5 in_3 (wi64 (by omega) (by omega))) ?_
                refine RD_l 30 rfl (Yl_neqF rfl rfl rfl) ?_
                refine RD_l 31 rfl (Yl_pick_f rfl rfl) ?_
                refine RD_l 32 rfl (Yl_move rfl) ?_
                refine RD_l 33 rfl (Yl_field rfl fo_41_5) ?_
                refine RD_l 35 rfl (Yl_field rfl fo_43_6) ?_
                refine RD_h (i := 34) #[true, true, true, true, true, true, true, true, true, true, true, true, true, true, true, true, true, true, true, true, true, true, true, true, true, true, true, true, true, true, true, true, true, true, false, true, true, false, false, false, false, false, false, false, false, false, false, false, false, false, false, false, false, false, false, false, false, false, false, false, false, false, false, false, false, false, false, false, false, false, false] rfl rfl rfl rfl (by kernel_rfl) (fun _ _ _ h => h) (Yh_loadE (cs := bys x.nd.cls) rfl ag_37 (by repeat (first | exact List.Mem.head _ | apply List.Mem.tail)) (by rw [length_rowF]; omega) (row_cls _ _ _ _)) ?_
                refine RD_h (i := 36) #[true, true, true, true, true, true, true, true, true, true, true, true, true, true, true, true, true, true, true, true, true, true, true, true, true, true, true, true, true, true, true, true, true, true, true, true, false, false, false, false, false, false, false, false, false, false, false, false, false, false, false, false, false, false, false, false, false, false, false, false, false, false, false, false, false, false, false, false, false, false, false] rfl rfl rfl rfl (by kernel_rfl) (fun _ _ _ h => h) (Yh_loadE (cs := bys x.nd.cls) rfl ag_37 (by repeat (first | exact List.Mem.head _ | apply List.Mem.tail)) (by rw [Nm.length_cells]; omega) (Nm.cls x)) ?_
                refine RD_l 37 rfl (Yl_arrNe rfl rfl un_37 eg_37 x.nd.h16) ?_
                refine RD_l 38 rfl (Yl_pick_f rfl rfl) ?_
                refine RD_l 39 rfl (Yl_move rfl) ?_
                refine RD_l 40 rfl (Yl_field rfl fo_41_6) ?_
                refine RD_l 42 rfl (Yl_field rfl fo_43_7) ?_
                refine RD_h (i := 41) #[true, true, true, true, true, true, true, true, true, true, true, true, true, true, true, true, true, true, true, true, true, true, true, true, true, true, true, true, true, true, true, true, true, true, true, true, true, true, true, true, true, false, true, true, false, false, false, false, false, false, false, false, false, false, false, false, false, false, false, false, false, false, false, false, false, false, false, false, false, false, false] rfl rfl rfl rfl (by kernel_rfl) (fun _ _ _ h => h) (Yh_loadE (cs := bys x.nd.state) rfl ag_38 (by repeat (first | exact List.Mem.head _ | apply List.Mem.tail)) (by rw [length_rowF]; omega) (row_state _ _ _ _)) ?_
                refine RD_h (i := 43) #[true, true, true, true, true, true, true, true, true, true, true, true, true, true, true, true, true, true, true, true, true, true, true, true, true, true, true, true, true, true, true, true, true, true, true, true, true, true, true, true, true, true, true, false, false, false, false, false, false, false, false, false, false, false, false, false, false, false, false, false, false, false, false, false, false, false, false, false, false, false, false] rfl rfl rfl rfl (by kernel_rfl) (fun _ _ _ h => h) (Yh_loadE (cs := bys x.nd.state) rfl ag_38 (by repeat (first | exact List.Mem.head _ | apply List.Mem.tail)) (by rw [Nm.length_cells]; omega) (Nm.state x)) ?_
                refine RD_l 44 rfl (Yl_arrNe rfl rfl un_38 eg_38 x.nd.h4) ?_
                refine RD_l 45 rfl (Yl_pick_f rfl rfl) ?_
                refine RD_l 46 rfl (Yl_move rfl) ?_
                refine RD_l 47 rfl (Yl_field rfl fo_41_7) ?_
                refine RD_l 49 rfl (Yl_field rfl fo_43_8) ?_
                refine RD_h (i := 48) #[true, true, true, true, true, true, true, true, true, true, true, true, true, true, true, true, true, true, true, true, true, true, true, true, true, true, true, true, true, true, true, true, true, true, true, true, true, true, true, true, true, true, true, true, true, true, true, true, false, true, true, false, false, false, false, false, false, false, false, false, false, false, false, false, false, false, false, false, false, false, false] rfl rfl rfl rfl (by kernel_rfl) (fun _ _ _ h => h) (Yh_load (v := .int .u64 (x.nd.created : Int)) rfl sc_39 (by repeat (first | exact List.Mem.head _ | apply List.Mem.tail)) (row_cr _ _ _ _)) ?_
                refine RD_h (i := 50) #[true, true, true, true, true, true, true, true, true, true, true, true, true, true, true, true, true, true, true, true, true, true, true, true, true, true, true, true, true, true, true, true, true, true, true, true, true, true, true, true, true, true, true, true, true, true, true, true, true, true, false, false, false, false, false, false, false, false, false, false, false, false, false, false, false, false, false, false, false, false, false] rfl rfl rfl rfl (by kernel_rfl) (fun _ _ _ h => h) (Yh_load (v := .int .u64 (x.nd.created : Int)) rfl sc_39 (by repeat (first | exact List.Mem.head _ | apply List.Mem.tail)) (Nm.at26 x)) ?_
                refine RD_l 51 rfl (Yl_neqF rfl rfl rfl) ?_
                refine RD_l 52 rfl (Yl_pick_f rfl rfl) ?_
                refine RD_l 53 rfl (Yl_move rfl) ?_
                refine RD_l 54 rfl (Yl_field rfl fo_41_8) ?_
                refine RD_l 56 rfl (Yl_field rfl fo_43_9) ?_
                refine RD_h (i := 55) #[true, true, true, true, true, true, true, true, true, true, true, true, true, true, true, true, true, true, true, true, true, true, true, true, true, true, true, true, true, true, true, true, true, true, true, true, true, true, true, true, true, true, true, true, true, true, true, true, true, true, true, true, true, true, true, false, true, true, false, false, false, false, false, false, false, false, false, false, false, false, false] rfl rfl rfl rfl (by kernel_rfl) (fun _ _ _ h => h) (Yh_load (v := .int .u64 (x.nd.modified : Int)) rfl sc_39 (by repeat (first | exact List.Mem.head _ | apply List.Mem.tail)) (row_mo _ _ _ _)) ?_
                refine RD_h (i := 57) #[true, true, true, true, true, true, true, true, true, true, true, true, true, true, true, true, true, true, true, true, true, true, true, true, true, true, true, true, true, true, true, true, true, true, true, true, true, true, true, true, true, true, true, true, true, true, true, true, true, true, true, true, true, true, true, true, true, false, false, false, false, false, false, false, false, false, false, false, false, false, false] rfl rfl rfl rfl (by kernel_rfl) (fun _ _ _ h => h) (Yh_load (v := .int .u64 (x.nd.modified : Int)) rfl sc_39 (by repeat (first | exact List.Mem.head _ | apply List.Mem.tail)) (Nm.at27 x)) ?_
                refine RD_l 58 rfl (Yl_neqF rfl rfl rfl) ?_
                refine RD_l 59 rfl (Yl_pick_f rfl rfl) ?_
                refine RD_l 60 rfl (Yl_move rfl) ?_
                refine RD_l 61 rfl (Yl_field rfl fo_41_1) ?_
                refine RD_l 64 rfl (Yl_move rfl) ?_
                refine RD_l 65 rfl (Yl_move rfl) ?_
                refine RD_l 66 rfl (Yl_indexN (b := oP) (off := 0) (i := i) (o' := i) rfl rfl sl_30 (by omega) (by omega)) ?_
                refine RD_h (i := 62) #[true, true, true, true, true, true, true, true, true, true, true, true, true, true, true, true, true, true, true, true, true, true, true, true, true, true, true, true, true, true, true, true, true, true, true, true, true, true, true, true, true, true, true, true, true, true, true, true, true, true, true, true, true, true, true, true, true, true, true, true, true, true, false, false, true, true, true, true, true, false, false] rfl rfl rfl rfl (by kernel_rfl) (fun _ _ _ h => h) (Yh_load (v := .slice q0 p.length c0) rfl sc_36 (by repeat (first | exact List.Mem.head _ | apply List.Mem.tail)) (by rw [← hpe]; rfl)) ?_
                refine RD_l 63 rfl (Yl_len rfl sl_36) ?_
                refine RD_h (i := 67) #[true, true, true, true, true, true, true, true, true, true, true, true, true, true, true, true, true, true, true, true, true, true, true, true, true, true, true, true, true, true, true, true, true, true, true, true, true, true, true, true, true, true, true, true, true, true, true, true, true, true, true, true, true, true, true, true, true, true, true, true, true, true, true, true, true, true, true, false, false, false, false] rfl rfl rfl rfl (by kernel_rfl) (fun _ _ _ h => h) (Yh_load (v := .slice q1 p.length c1) rfl sc_36 (by repeat (first | exact List.Mem.head _ | apply List.Mem.tail)) (at_vals (by omega) hve)) ?_
                refine RD_l 68 rfl (Yl_len rfl sl_36) ?_
                refine RD_l 69 rfl (Yl_neqF rfl rfl rfl) ?_
                refine RD_l 70 rfl (Yl_pick_f rfl rfl) ?_
                refine (RD_done (by kernel_rfl) (QW_lv (ks := [9, 11, 12, 15, 16, 63, 64, 65, 156]) ?_))
                refine CW_false rfl ?_
                refine (CW_skip (QW_lv (ks := [9, 11, 12, 15, 16, 63, 64, 65]) ?_))
                refine CW_seq ?_
                refine CW_region ?_
                refine RW_l (Yl_field rfl fo_41_1) ?_
                refine RW_h (Yh_load (v := .slice q0 p.length c0) rfl sc_36 (by repeat (first | exact List.Mem.head _ | apply List.Mem.tail)) (by rw [← hpe]; rfl)) ?_
                refine RW_l (Yl_len rfl sl_36) ?_
                refine RW_m ?_
                refine RW_lv (ks := [9, 11, 12, 15, 16, 63, 64, 65, 159, 160]) ?_
                refine CW_block ?_
                refine CW_loop (σ := Nat) (fun j => [(9, .slice (some ⟨g, 0, none⟩) ns.length cap), (11, .slice (some ⟨oO, 0, none⟩) o.length co), (12, .slice (some ⟨oP, 0, none⟩) o.length cp), (15, nv i), (16, pv b16), (63, .slice (some ⟨gR, 0, none⟩) o.length cR), (64, nv o.length), (65, nv i), (159, nv p.length), (160, nv j)]) (fun _ => (b17, blk x.cells 43) :: (b16, blk (rowF x.nd (kdN ns k) (szN ns k : Int) pvv) 41) :: (g, blk (nms ns ++ rn) 43) :: (oO, blk (nats (o.map Prod.fst) ++ ro) 3) :: (oP, blk (vs ++ rp) 36) :: (gI, blk (bys (writeF (verF four) st (ns.map Nm.nd))) 5) :: (2, blk ps T) :: (gR, blk (rows.flatten ++ rr) 41) :: (ppR ++ (ppO ++ (nmsH ns ++ (D ++ F))))) (fun j => j ≤ p.length) (fun j => p.length - j) 0 (Nat.zero_le _) (by repeat (first | exact Prm.nil _ | exact Rem.here _ _ | apply Rem.there | apply Prm.cons)) (.cons rfl (.cons rfl (.cons rfl (.cons rfl (.cons rfl (.cons rfl (.cons rfl (.cons rfl (.cons rfl (.cons rfl .nil)))))))))) ?_
                rintro j hj
                refine CW_seq ?_
                refine CW_region ?_
                refine RW_l (Yl_lss rfl rfl) ?_
                refine RW_lv (ks := [9, 11, 12, 15, 16, 63, 64, 65, 159, 160, 161]) ?_
                refine CW_seq ?_
                refine CW_cond rfl (fun hc10 => ?_) (fun hc10 => ?_)
                · replace hc10 := of_decide_eq_true hc10
                  refine (CW_skip (QW_lv (ks := [9, 11, 12, 15, 16, 63, 64, 65, 159, 160]) ?_))
                  refine CW_seq ?_
                  refine CW_block ?_
                  refine CW_seq ?_
                  obtain ⟨bq, cq, rq, hqe, hmq⟩ := hpv.some (by omega)
                  obtain ⟨bz, cz, rz, hze, hmz⟩ := hvi.some (by omega)
                  refine CW_region ?_
                  refine RW_m ?_
                  refine RW_a ?_
                  refine RW_lv (ks := [9, 11, 12, 15, 16, 19, 63, 64, 65, 159, 160]) ?_
                  refine CW_seq ?_
                  refine CW_draw [] _ mixed (Sub.refl _) ?_
                  refine RD_l 0 rfl (Yl_field rfl fo_41_1) ?_
                  refine RD_l 2 rfl (Yl_move rfl) ?_
                  refine RD_l 5 rfl (Yl_move rfl) ?_
                  refine RD_l 6 rfl (Yl_move rfl) ?_
                  refine RD_l 7 rfl (Yl_indexN (b := oP) (off := 0) (i := i) (o' := i) rfl rfl sl_30 (by omega) (by omega)) ?_
                  refine RD_l 9 rfl (Yl_move rfl) ?_
                  refine RD_h (i := 1) #[true, false, true, false, false, true, true, true, true, true, true, true, false] rfl rfl rfl rfl (by kernel_rfl) (fun _ _ _ h => h) (Yh_load (v := .slice (some ⟨bq, 0, none⟩) p.length cq) rfl sc_36 (by repeat (first | exact List.Mem.head _ | apply List.Mem.tail)) (by rw [← hqe]; rfl)) ?_
                  refine RD_l 3 rfl (Yl_indexN (b := bq) (off := 0) (i := j) (o' := j) rfl rfl sl_36 (by omega) (by omega)) ?_
                  refine RD_h (i := 4) #[true, true, true, true, false, true, true, true, true, true, true, true, false] rfl rfl rfl rfl (by kernel_rfl) (fun _ _ _ h => h) (Yh_load (v := .string (bar (p.getD j []))) rfl sc_9 (by repeat (first | exact List.mem_append_left _ hmq | apply List.Mem.tail)) (at_strs (by omega))) ?_
                  refine RD_h (i := 8) #[true, true, true, true, true, true, true, true, false, true, false, false, false] rfl rfl rfl rfl (by kernel_rfl) (fun _ _ _ h => h) (Yh_load (v := .slice (some ⟨bz, 0, none⟩) p.length cz) rfl sc_36 (by repeat (first | exact List.Mem.head _ | apply List.Mem.tail)) (at_vals (by omega) hze)) ?_
                  refine RD_l 10 rfl (Yl_indexN (b := bz) (off := 0) (i := j) (o' := j) rfl rfl sl_36 (by omega) (by omega)) ?_
                  refine RD_h (i := 11) #[true, true, true, true, true, true, true, true, true, true, true, false, false] rfl rfl rfl rfl (by kernel_rfl) (fun _ _ _ h => h) (Yh_load (v := .string (bar (p.getD j []))) rfl sc_9 (by repeat (first | exact List.mem_append_right _ (List.mem_append_left _ hmz) | apply List.Mem.tail)) (at_strs (by omega))) ?_
                  refine RD_l 12 rfl (Yl_strNeF rfl rfl) ?_
                  refine (RD_done (by kernel_rfl) (QW_lv (ks := [9, 11, 12, 15, 16, 63, 64, 65, 159, 160, 175]) ?_))
                  refine CW_false rfl ?_
                  refine CW_skip ?_
                  refine QW_normal_block ?_
                  refine (QW_lv (ks := [9, 11, 12, 15, 16, 63, 64, 65, 159, 160]) ?_)
                  refine CW_region ?_
                  refine RW_l (Yl_add (c := ((j + 1 : Nat) : Int)) rfl rfl (wi64 (by omega) (by omega))) ?_
                  refine RW_m ?_
                  refine RW_nil ?_
                  exact QW_round (j + 1) (by omega) (by omega) (by repeat (first | exact Prm.nil _ | exact Rem.here _ _ | apply Rem.there | apply Prm.cons)) (.cons rfl (.cons rfl (.cons rfl (.cons rfl (.cons rfl (.cons rfl (.cons rfl (.cons rfl (.cons rfl (.cons rfl .nil))))))))))
                · replace hc10 := of_decide_eq_false hc10
                  refine CW_exit ?_
                  refine QW_exit_then ?_
                  refine QW_exit_then ?_
                  refine QW_exit_block ?_
                  refine QW_normal_block ?_
                  refine (QW_lv (ks := [9, 11, 12, 63, 64, 65]) ?_)
                  refine CW_region ?_
                  refine RW_l (Yl_add (c := ((i + 1 : Nat) : Int)) rfl rfl (wi64 (by omega) (by omega))) ?_
                  refine RW_m ?_
                  refine RW_nil ?_
                  refine QW_dropB (e := (b17, _)) (by repeat (first | exact Rem.here _ _ | apply Rem.there)) ?_
                  refine QW_dropB (e := (b16, _)) (by repeat (first | exact Rem.here _ _ | apply Rem.there)) ?_
                  exact QW_round (i + 1) (by omega) (by omega) (by repeat (first | exact Prm.nil _ | exact Rem.here _ _ | apply Rem.there | apply Prm.cons)) (.cons rfl (.cons rfl (.cons rfl (.cons rfl (.cons rfl (.cons rfl .nil))))))
          · replace hc5 := of_decide_eq_false hc5
            refine CW_exit ?_
            refine QW_exit_then ?_
            refine QW_exit_then ?_
            refine QW_exit_block ?_
            refine (QW_lv (ks := []) ?_)
            refine CW_seq ?_
            refine CW_region ?_
            refine RW_a ?_
            refine RW_lv (ks := [8]) ?_
            refine CW_ret ?_
            first
              | exact QW_ret1 rfl rfl ((2, blk ps T) :: D) ⟨rfl, rfl⟩ (Prm.nil _)
              | (refine QW_sub (H' := (2, blk ps T) :: (D ++ F)) (.cons_cons _ (.cons _ (.cons _ (List.sublist_append_right _ _)))) ?_; exact QW_ret1 rfl rfl ((2, blk ps T) :: D) ⟨rfl, rfl⟩ (Prm.nil _))
              | (refine QW_sub (H' := (2, blk ps T) :: (D ++ F)) (.cons _ (.cons _ (.cons _ (.cons _ (.cons_cons _ (.cons _ (List.Sublist.trans (List.sublist_append_right _ _) (List.Sublist.trans (List.sublist_append_right _ _) (List.sublist_append_right _ _))))))))) ?_; exact QW_ret1 rfl rfl ((2, blk ps T) :: D) ⟨rfl, rfl⟩ (Prm.nil _))
end Go.Proofs.YtgoddcicbpjknaaDoor

/-! FnEntries, as its card states it: whatever the numbers, the bytes, the choice and the step, the call returns true and leaves all that was there as it was. -/
set_option maxRecDepth 100000
namespace Go.Proofs.YtgoddcicbpjknaaDoor.fnEntries
open Go
open Cfb
open Go.ChangeShapes Go.WideShapes Go.ChangeAt Go.RowKit
theorem contract (H : Type) (enc : TypeId × Value → H) (W : World) (base : Nat) (args : Array Value) (ds gs : List (DataW H)) (before : List MemPlace)
    (hval : ∀ (j : Nat) t v, Tryd.f3.params[j]? = some t → args[j]? = some v → Value.okWide Tryd.prog W .any base t v)
    (hW : DataW.Whole enc Tryd.prog Tryd.f3.params.toList Rows.fnEntriesSpec.vars false W args.toList ds gs before) (hL : laidMetH Tryd.prog Rows.fnEntriesRow.laid W) (hS : W.ShapedOpen Tryd.prog) :
    Calls Tryd.prog 3 args W fun e W' => ∃ v, e = .returned v ∧ Rows.fnEntriesSpec.post enc Tryd.prog Tryd.f3 false true false false W args v W' := by
  have hW' := hW
  obtain ⟨p, q, hA0, hV, rfl, hfz, hnd⟩ := hW
  have hA : DataW.TrodAll enc Tryd.prog W 0 (fun _ => true) true Tryd.f3.params.toList args.toList ds p := hA0
  have hlt : ∀ x ∈ p, x.block < W.heap.size := fun x hx => by simpa using hW'.lt x (List.mem_append_left _ hx)
  have again := fun W' hb => trodAll_again (W' := W') hb _ _ _ _ hA (by rw [Tryd.params3]; kernel_rfl) hlt
  rw [Tryd.params3] at hA hval
  obtain ⟨v0, vs0, d0, ds0, p0, q0, hargs, rfl, rfl, h0, r0⟩ := trodAll_cons hA
  obtain ⟨v1, vs1, d1, ds1, p1, q1, rfl, rfl, rfl, h1, r1⟩ := trodAll_cons r0
  obtain ⟨v2, vs2, d2, ds2, p2, q2, rfl, rfl, rfl, h2, r2⟩ := trodAll_cons r1
  obtain ⟨v3, vs3, d3, ds3, p3, q3, rfl, rfl, rfl, h3, r3⟩ := trodAll_cons r2
  obtain ⟨rfl, rfl, rfl⟩ := trodAll_nil r3
  obtain rfl : args = #[v0, v1, v2, v3] := by cases args; simp_all
  obtain ⟨rfl, rfl⟩ := trodVars_none hV
  obtain ⟨a2, rfl, rfl, rfl⟩ := open_bool Tryd.underlying4 (hval 2 4 v2 rfl rfl) h2
  obtain ⟨a3, rfl, rfl, rfl, w3⟩ := open_int Tryd.underlying5 (hval 3 5 v3 rfl rfl) h3
  obtain ⟨T, hT⟩ := tab_block (props_tab hL) hS
  obtain ⟨st, rfl, b3⟩ := u8_nat w3
  obtain ⟨sN, nN, cN, rfl, hcN, hsN⟩ := open_nums un_22 un_67 cells67 (hval 0 22 v0 rfl rfl) h0
  obtain ⟨sD, nD, cD, rfl, hcD, hsD⟩ := open_bytes (hval 1 23 v1 rfl rfl) h1
  have fin : Calls Tryd.prog 3 #[.slice sN nN cN, .slice sD nD cD, .bool a2, .int .u8 (st : Int)] W fun e w' => e = .returned (.bool true) ∧ Grown W w' ∧ Below W.heap.size W w' := by
    obtain ⟨D1, m1, n1, k1, -⟩ := nums_in (W := W) (e := (2, blk propsV T)) (D := []) (by intro p hp; rw [List.mem_singleton.1 hp]; exact hT) (by simp) hsN
    obtain ⟨D2, m2, n2, k2, s2⟩ := bytes_in m1 n1 hsD
    exact (FnEntries_ct nN cN nD cD st sN sD a2 b3 propsV T propsV_ok D2 (k1.mono s2) k2 hcN).rowB m2 n2
  refine fin.mono fun e W' ⟨he, hg, hb⟩ => ?_
  subst he
  exact ⟨_, rfl, ⟨_, _, _, [], _, [], hW', trodAll_cons_mk (shut_bool Tryd.underlying4 _) trodAll_mk0, again W' hb, rfl, hg.frame _, fun h => by cases h⟩⟩
/-- A world for the witness. -/
noncomputable def laidWorld (os : Os) : World := World.laidAll Tryd.prog os Rows.fnEntriesRow.laid
theorem laid_met (os : Os) : laidMet Tryd.prog Rows.fnEntriesRow.laid ((laidWorld os).forCall (fun _ _ => 0) ⟨#[], #[.slice none 0 0, .slice none 0 0, .bool false, .int .u8 0], []⟩).memory := laidMet_laidAll _ (by kernel_rfl) (by kernel_rfl)
theorem reads (os : Os) {H : Type} (enc : TypeId × Value → H) : ∃ places, DataW.whole enc Tryd.prog ((laidWorld os).forCall (fun _ _ => 0) ⟨#[], #[.slice none 0 0, .slice none 0 0, .bool false, .int .u8 0], []⟩).memory Tryd.f3.params.toList Rows.fnEntriesSpec.vars false #[Value.slice none 0 0, .slice none 0 0, .bool false, .int .u8 0].toList 8 = some ([.nil, .nil, .lit (.bool false), .lit (.int .u8 0)], [], places) :=
  ⟨[], by kernel_rfl⟩
theorem lifted (os : Os) (started : os.Started) (H : Type) (enc : TypeId × Value → H) (F : Stop.Interp) :
    ReturnsInHanded {} Tryd.checked os 3 .any ((OpenSpec.ofChange Rows.fnEntriesSpec).preRow enc Tryd.prog Tryd.f3 Rows.fnEntriesRow.domain false Rows.fnEntriesRow.laid) (((OpenSpec.ofChange Rows.fnEntriesSpec).at F).post enc Tryd.prog Tryd.f3 false true false false) := by
  obtain ⟨places, hx⟩ := reads os enc
  refine returnsInHanded_of_row (C := Tryd.checked) (s := OpenSpec.ofChange Rows.fnEntriesSpec) own started (by kernel_rfl) Tryd.func3
    (witness_row_at (enc := enc) (C := Tryd.checked) false (laidWorld os) #[.slice none 0 0, .slice none 0 0, .bool false, .int .u8 0] (World.laidAll_os _ _ _) (by kernel_rfl) (by kernel_rfl) (by kernel_rfl)
      (OpenSpec.preRow_of_cond 8 hx (by kernel_rfl) (fun k hk => by cases hk) (by kernel_rfl) (laid_met os))) ?_
  intro W base args ds gs before hval hW _ _ _ hL hS _
  exact contract H enc W base args ds gs before hval hW hL hS
theorem said : Rows.FnEntriesSaid :=
  OpenClaim.holds_of_cond 3 Tryd.f3 rfl rfl rfl rfl rfl rfl rfl ⟨rfl, rfl, rfl, rfl, rfl⟩ rfl rfl rfl rfl rfl (by kernel_rfl) Tryd.func3 (by kernel_rfl)
    (of_decide_eq_true (by kernel_rfl)) (by unfold Func.isWrapper; first | (rw [if_pos (by decide +kernel)]; kernel_rfl) | (rw [if_neg (by decide +kernel)]; exact ⟨rfl, rfl⟩))
    (fun os started H enc _ F => by rw [OpenClaim.pre_eq_preRow]; exact lifted os started H enc F)
theorem plain (f : FuncId) (fn : Func) (hf : Tryd.pinned.checked.prog.funcNamed "loop.example/pub-g03453/laws.FnEntries" = some f) (hfn : Tryd.pinned.checked.prog.funcs[f]? = some fn) :
    true = Tryd.pinned.checked.prog.looks [] ∧ ∀ (j : Nat) t, fn.params[j]? = some t → Tryd.pinned.checked.prog.wantsStandIn t = false := by
  obtain rfl : f = 3 := Option.some.inj ((show Tryd.prog.funcNamed "loop.example/pub-g03453/laws.FnEntries" = some 3 by kernel_rfl).symm.trans hf) |>.symm
  obtain rfl : fn = Tryd.f3 := (Option.some.inj (Tryd.func3.symm.trans hfn)).symm
  refine ⟨by kernel_rfl, fun j t ht => ?_⟩
  rw [Tryd.params3] at ht
  have hm : t ∈ [22, 23, 4, 5] := by simpa using Array.mem_of_getElem? ht
  have hall : ([22, 23, 4, 5].all fun u => !Tryd.prog.wantsStandIn u) = true := by kernel_rfl
  exact (show Tryd.prog.wantsStandIn t = false by simpa using List.all_eq_true.1 hall t hm)
theorem card : Rows.FnEntriesCardSaid :=
  Claim7.holds_tied_plain_at .later [] _ _ _ _ said (fun _ h => by cases h) (by kernel_rfl) (fun _ h => by cases h) fnEntries_row_tie rfl ⟨rfl, rfl⟩ (by kernel_rfl) rfl plain (by kernel_rfl)
#print axioms card
end Go.Proofs.YtgoddcicbpjknaaDoor.fnEntries
