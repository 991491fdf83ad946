/- Plain: trees of places, the order in which they are told. Values: the order of nodes in memory, with paths. Walks: Order. Walks: Order, whole. Values: what a file of linked nodes tells. Values: rows of what is told; arrays that are the same. Values: a text's first sign; kinds of nodes. Values: comparisons of which one knows what they give. Walks: a read of nothing. Values: steps that are done one behind the other. Walks: Steps. Values: bytes as a text. Steps that read an entry of no bytes. Walks: compressChain. Values: a stream in a reader, and where it is read. Walks: getOffset, seek. Walks: stream. Walks: Seek. Values: a buffer that is filled piece by piece. Walks: Read. Walks: ReadAt; steps that read and seek. -/
import Derived.Test.YtgoddcicbpjknaaDoorPartD
import Derived.ChangeKeysEq
import Derived.Laws.BytesString
set_option maxRecDepth 20000
set_option maxHeartbeats 4000000

namespace Go.Proofs.YtgoddcicbpjknaaDoor
open Go
open Cfb

/-! Plain: trees of places, the order in which they are told. -/
/-- A tree's places in order: left, itself, below, right. -/
inductive FT (lf rt ch : Nat → Int) : Int → List Nat → Prop
  | nil : FT lf rt ch (-1) []
  | node {k : Nat} {a c b : List Nat} (ha : FT lf rt ch (lf k) a) (hc : FT lf rt ch (ch k) c) (hb : FT lf rt ch (rt k) b) : FT lf rt ch (k : Int) (a ++ k :: (c ++ b))
/-- The same with what each lies in. -/
inductive OT (lf rt ch : Nat → Int) (nm : Nat → List UInt8) : Int → List (List UInt8) → List (Nat × List (List UInt8)) → Prop
  | nil {p : List (List UInt8)} : OT lf rt ch nm (-1) p []
  | node {k : Nat} {p : List (List UInt8)} {a c b : List (Nat × List (List UInt8))} (ha : OT lf rt ch nm (lf k) p a) (hc : OT lf rt ch nm (ch k) (if k = 0 then p else p ++ [nm k]) c) (hb : OT lf rt ch nm (rt k) p b) :
      OT lf rt ch nm (k : Int) p (a ++ (k, p) :: (c ++ b))
theorem FT.ot {lf rt ch : Nat → Int} {nm : Nat → List UInt8} {t : Int} {L : List Nat} (h : FT lf rt ch t L) : ∀ p, ∃ o, OT lf rt ch nm t p o ∧ o.map Prod.fst = L := by
  induction h with
  | nil => intro p; exact ⟨[], .nil, rfl⟩
  | node ha hc hb iha ihc ihb =>
    rename_i k a c b
    intro p
    obtain ⟨oa, h1, e1⟩ := iha p
    obtain ⟨oc, h2, e2⟩ := ihc (if k = 0 then p else p ++ [nm k])
    obtain ⟨ob, h3, e3⟩ := ihb p
    exact ⟨_, .node h1 h2 h3, by simp [e1, e2, e3]⟩
/-- What is below a place. -/
def below (ls : Nat → List Nat) : Nat → Nat → List Nat
  | 0, _ => []
  | f + 1, p => (ls p).flatMap fun j => j :: below ls f j
theorem FT.of_st {lf rt ch : Nat → Int} {D : Nat → List Nat} {pl : List Nat} {t : Int} (h : STree lf rt pl t) (hd : ∀ j ∈ pl, FT lf rt ch (ch j) (D j)) : FT lf rt ch t (pl.flatMap fun j => j :: D j) := by
  induction h with
  | nil => exact .nil
  | node ha hb iha ihb =>
    rename_i a b m
    have h1 := iha (fun j hj => hd j (by simp [hj]))
    have h2 := ihb (fun j hj => hd j (by simp [hj]))
    have h3 := hd m (by simp)
    have := FT.node h1 h3 h2
    simpa using this
section
variable {n : Nat} {ls : Nat → List Nat} {par : Nat → Nat} {lf rt ch : Nat → Int}
theorem below_ft (h : PL n ls par) (ht : ∀ p, p < n → STree lf rt (ls p) (ch p)) : ∀ f p, p < n → n ≤ p + f → FT lf rt ch (ch p) (below ls f p) := by
  intro f
  induction f with
  | zero => intro p h1 h2; omega
  | succ f ih =>
    intro p h1 h2
    refine FT.of_st (ht p h1) (fun j hj => ?_)
    have h3 := (h.mem p j).1 hj
    have h4 := h.lt j h3.1 h3.2.1
    exact ih j h3.2.1 (by omega)
theorem below_mem (h : PL n ls par) : ∀ f p, p < n → ∀ x ∈ below ls f p, p < x ∧ x < n ∧ (par x = p ∨ par x ∈ below ls f p) := by
  intro f
  induction f with
  | zero => intro p _ x hx; cases hx
  | succ f ih =>
    intro p hp x hx
    obtain ⟨j, hj, hx⟩ := List.mem_flatMap.1 hx
    have h3 := (h.mem p j).1 hj
    have h4 := h.lt j h3.1 h3.2.1
    rcases List.mem_cons.1 hx with rfl | hx
    · exact ⟨by omega, h3.2.1, .inl h3.2.2⟩
    · obtain ⟨h5, h6, h7⟩ := ih j h3.2.1 x hx
      refine ⟨by omega, h6, .inr (List.mem_flatMap.2 ⟨j, hj, ?_⟩)⟩
      rcases h7 with h7 | h7
      · rw [h7]; exact List.mem_cons_self ..
      · exact List.mem_cons_of_mem _ h7
theorem below_nodup (h : PL n ls par) : ∀ f p, p < n → (below ls f p).Nodup := by
  intro f
  induction f with
  | zero => intro p _; exact List.nodup_nil
  | succ f ih =>
    intro p hp
    have key : ∀ x j i, j ∈ ls p → i ∈ ls p → x ∈ j :: below ls f j → x ∈ i :: below ls f i → j = i := by
      intro x
      induction x using Nat.strongRecOn with
      | _ x ihx =>
        intro j i hj hi hxj hxi
        have a1 := (h.mem p j).1 hj
        have b1 := (h.mem p i).1 hi
        have a2 := h.lt j a1.1 a1.2.1
        have b2 := h.lt i b1.1 b1.2.1
        rcases List.mem_cons.1 hxj with e1 | hxj
        · rcases List.mem_cons.1 hxi with e2 | hxi
          · omega
          · have h5 := below_mem h f i b1.2.1 x hxi
            rcases h5.2.2 with h6 | h6
            · subst e1; omega
            · have h7 := below_mem h f i b1.2.1 _ h6
              subst e1; omega
        · rcases List.mem_cons.1 hxi with e2 | hxi
          · have h5 := below_mem h f j a1.2.1 x hxj
            rcases h5.2.2 with h6 | h6
            · subst e2; omega
            · have h7 := below_mem h f j a1.2.1 _ h6
              subst e2; omega
          · have h5 := below_mem h f j a1.2.1 x hxj
            have h6 := below_mem h f i b1.2.1 x hxi
            have h7 := h.lt x (by omega) h5.2.1
            refine ihx (par x) h7 j i hj hi ?_ ?_
            · rcases h5.2.2 with h8 | h8
              · rw [h8]; exact List.mem_cons_self ..
              · exact List.mem_cons_of_mem _ h8
            · rcases h6.2.2 with h8 | h8
              · rw [h8]; exact List.mem_cons_self ..
              · exact List.mem_cons_of_mem _ h8
    refine List.pairwise_flatMap.2 ⟨fun j hj => ?_, ?_⟩
    · have a1 := (h.mem p j).1 hj
      refine List.nodup_cons.2 ⟨fun hx => ?_, ih j a1.2.1⟩
      have := below_mem h f j a1.2.1 j hx
      omega
    · refine (h.nd p).imp_of_mem ?_
      intro j i hj hi hne x hx y hy e
      subst e
      exact hne (key x j i hj hi hx hy)
theorem below_all (h : PL n ls par) : ∀ f p q x, p < n → n ≤ p + f → q ∈ below ls f p → x ∈ ls q → x ∈ below ls f p := by
  intro f
  induction f with
  | zero => intro p q x h1 h2; omega
  | succ f ih =>
    intro p q x h1 h2 hq hx
    obtain ⟨j, hj, hq⟩ := List.mem_flatMap.1 hq
    have a1 := (h.mem p j).1 hj
    have a2 := h.lt j a1.1 a1.2.1
    refine List.mem_flatMap.2 ⟨j, hj, List.mem_cons_of_mem _ ?_⟩
    rcases List.mem_cons.1 hq with rfl | hq
    · cases f with
      | zero => omega
      | succ f => exact List.mem_flatMap.2 ⟨x, hx, List.mem_cons_self ..⟩
    · exact ih j q x a1.2.1 (by omega) hq hx
theorem below_root (h : PL n ls par) (hn : 1 ≤ n) : ∀ x, 1 ≤ x → x < n → x ∈ below ls n 0 := by
  intro x
  induction x using Nat.strongRecOn with
  | _ x ih =>
    intro h1 h2
    have h3 := h.lt x h1 h2
    have hx : x ∈ ls (par x) := (h.mem _ x).2 ⟨h1, h2, rfl⟩
    rcases Nat.eq_zero_or_pos (par x) with h0 | h0
    · rw [h0] at hx
      cases n with
      | zero => omega
      | succ f => exact List.mem_flatMap.2 ⟨x, hx, List.mem_cons_self ..⟩
    · exact below_all h n 0 (par x) x (by omega) (by omega) (ih _ h3 h0 (by omega)) hx
end
/-- The nodes' order: each once. -/
theorem Lnk.order {ns : List Nm} {ls : Nat → List Nat} {par : Nat → Nat} (h : Lnk ns ls par) (hn : 1 ≤ ns.length) (nm : Nat → List UInt8) :
    ∃ o, OT (lfF ns) (rtF ns) (chdF ns) nm 0 [] o ∧ (o.map Prod.fst).Nodup ∧ (∀ k, k ∈ o.map Prod.fst ↔ k < ns.length) ∧ o.length ≤ ns.length := by
  have h1 := below_ft h.pl h.tree ns.length 0 (by omega) (by omega)
  have h2 : FT (lfF ns) (rtF ns) (chdF ns) ((0 : Nat) : Int) ([] ++ 0 :: (below ls ns.length 0 ++ [])) := .node (by rw [h.root.1]; exact .nil) h1 (by rw [h.root.2]; exact .nil)
  obtain ⟨o, h3, h4⟩ := h2.ot (nm := nm) []
  simp only [List.nil_append, List.append_nil] at h4
  have h5 := below_mem h.pl ns.length 0 (by omega)
  have h6 : (o.map Prod.fst).Nodup := by
    rw [h4]
    exact List.nodup_cons.2 ⟨fun hx => by have := h5 0 hx; omega, below_nodup h.pl ns.length 0 (by omega)⟩
  have h7 : ∀ k, k ∈ o.map Prod.fst ↔ k < ns.length := by
    intro k
    rw [h4, List.mem_cons]
    constructor
    · rintro (rfl | hk)
      · omega
      · exact (h5 k hk).2.1
    · intro hk
      rcases Nat.eq_zero_or_pos k with h0 | h0
      · exact .inl h0
      · exact .inr (below_root h.pl hn k h0 hk)
  refine ⟨o, h3, h6, h7, ?_⟩
  have := nodup_len ns.length _ h6 (fun x hx => (h7 x).1 hx)
  simpa using this
/-- The entries are gone through in that order. -/
theorem trav_ot {es : List Tn} {lf rt ch : Nat → Int} {nm : Nat → List UInt8} (hN : es.length ≤ 100000) {t : Int} {p : List (List UInt8)} {o : List (Nat × List (List UInt8))} (h : OT lf rt ch nm t p o) :
    ∀ (f : Nat) (s : TS), s.bad = false → s.cnt + o.length ≤ es.length → o.length ≤ f → (∀ k ∈ o.map Prod.fst, k < es.length ∧ es.getD k default = ⟨nm k, lnkF (lf k), lnkF (ch k), lnkF (rt k)⟩) → (o.map Prod.fst).Nodup →
      ∃ s', s' = (if lnkF t = FREE then s else trav es f (lnkF t) p s) ∧ s'.bad = false ∧ s'.cnt = s.cnt + o.length ∧ s'.out = s.out ++ o.map Prod.fst ∧ (∀ k, k ∉ o.map Prod.fst → s'.pth k = s.pth k) ∧ ∀ x ∈ o, s'.pth x.1 = x.2 := by
  induction h with
  | nil =>
    intro f s hb _ _ _ _
    exact ⟨s, by rw [if_pos lnkF_none], hb, rfl, by simp, fun k _ => rfl, fun x hx => by cases hx⟩
  | node ha hc hb iha ihc ihb =>
    rename_i k p a c b
    intro f s hbad hcnt hf hk hnd
    have hlen : (a ++ (k, p) :: (c ++ b)).length = a.length + 1 + (c.length + b.length) := by simp; omega
    rw [hlen] at hcnt hf
    obtain ⟨hk1, hk2⟩ := hk k (by simp)
    have hnk : lnkF (k : Int) = k := lnkF_nat k
    cases f with
    | zero => omega
    | succ f =>
      have hmap : (a ++ (k, p) :: (c ++ b)).map Prod.fst = a.map Prod.fst ++ k :: (c.map Prod.fst ++ b.map Prod.fst) := by simp
      rw [hmap] at hnd hk
      have n1 := List.nodup_append.1 hnd
      have n2 := List.nodup_cons.1 n1.2.1
      have n3 := List.nodup_append.1 n2.2
      obtain ⟨s1, e1, b1, c1, o1, p1, q1⟩ := iha f s.call hbad (by show s.cnt + 1 + _ ≤ _; omega) (by omega) (fun x hx => hk x (List.mem_append_left _ hx)) n1.1
      obtain ⟨s3, e3, b3, c3, o3, p3, q3⟩ := ihc f (s1.visit k p) b1 (by show s1.cnt + _ ≤ _; rw [c1]; show s.cnt + 1 + _ + _ ≤ _; omega) (by omega) (fun x hx => hk x (List.mem_append_right _ (List.mem_cons_of_mem _ (List.mem_append_left _ hx)))) n3.1
      have cc3 : s3.cnt = s.cnt + 1 + a.length + c.length := by rw [c3]; show s1.cnt + _ = _; rw [c1]; rfl
      obtain ⟨s4, e4, b4, c4, o4, p4, q4⟩ := ihb f s3 b3 (by rw [cc3]; omega) (by omega) (fun x hx => hk x (List.mem_append_right _ (List.mem_cons_of_mem _ (List.mem_append_right _ hx)))) n3.2.1
      refine ⟨s4, ?_, b4, by rw [c4, cc3, hlen]; omega, ?_, ?_, ?_⟩
      · rw [hnk, if_neg (show ¬ k = 4294967295 by omega), trav, if_neg (by omega), if_neg (by omega)]
        unfold travS
        simp only [hk2]
        rw [e4, e3, e1]
      · rw [o4, o3]
        show (s1.out ++ [k]) ++ _ ++ _ = _
        rw [o1, hmap]
        show (s.out ++ _ ++ [k]) ++ _ ++ _ = _
        simp
      · intro x hx
        rw [hmap] at hx
        simp only [List.mem_append, List.mem_cons, not_or] at hx
        rw [p4 x hx.2.2.2, p3 x hx.2.2.1]
        show (if x = k then p else s1.pth x) = _
        rw [if_neg hx.2.1, p1 x hx.1]
        rfl
      · intro x hx
        simp only [List.mem_append, List.mem_cons] at hx
        have mem1 : ∀ {l : List (Nat × List (List UInt8))}, x ∈ l → x.1 ∈ l.map Prod.fst := fun h => List.mem_map.2 ⟨x, h, rfl⟩
        rcases hx with hx | hx | hx | hx
        · have m1 := mem1 hx
          have d1 : x.1 ∉ b.map Prod.fst := fun e => n1.2.2 _ m1 _ (List.mem_cons_of_mem _ (List.mem_append_right _ e)) rfl
          have d2 : x.1 ∉ c.map Prod.fst := fun e => n1.2.2 _ m1 _ (List.mem_cons_of_mem _ (List.mem_append_left _ e)) rfl
          have d3 : x.1 ≠ k := fun e => n1.2.2 _ m1 _ (List.mem_cons_self ..) e
          rw [p4 _ d1, p3 _ d2]
          show (if x.1 = k then p else s1.pth x.1) = _
          rw [if_neg d3]; exact q1 x hx
        · subst hx
          have d1 : k ∉ b.map Prod.fst := fun e => n2.1 (List.mem_append_right _ e)
          have d2 : k ∉ c.map Prod.fst := fun e => n2.1 (List.mem_append_left _ e)
          rw [p4 _ d1, p3 _ d2]
          show (if k = k then p else s1.pth k) = _
          rw [if_pos rfl]
        · have m1 := mem1 hx
          have d1 : x.1 ∉ b.map Prod.fst := fun e => n3.2.2 _ m1 _ e rfl
          rw [p4 _ d1]; exact q3 x hx
        · exact q4 x hx

/-! Values: the order of nodes in memory, with paths. -/
/-- Values that are paths. -/
structure VsOk (pp : Heap) (vs : List Value) (ps : List (List (List UInt8))) : Prop where
  len : vs.length = ps.length
  get : ∀ i, i < ps.length → PathC pp (vs.getD i undef) (ps.getD i [])
theorem VsOk.nil (pp : Heap) : VsOk pp [] [] := ⟨rfl, fun i h => by simp at h⟩
theorem VsOk.more {pp qq : Heap} {vs : List Value} {ps : List (List (List UInt8))} (h : VsOk pp vs ps) (hs : ∀ x ∈ pp, x ∈ qq) : VsOk qq vs ps := ⟨h.len, fun i hi => (h.get i hi).more hs⟩
theorem VsOk.snoc {pp : Heap} {vs : List Value} {ps : List (List (List UInt8))} {v : Value} {p : List (List UInt8)} (h : VsOk pp vs ps) (hv : PathC pp v p) : VsOk pp (vs ++ [v]) (ps ++ [p]) := by
  have hl := h.len
  refine ⟨by simp [hl], fun i hi => ?_⟩
  simp only [List.getD_eq_getElem?_getD]
  rw [List.length_append, List.length_singleton] at hi
  by_cases e : i = ps.length
  · subst e
    rw [List.getElem?_append_right (Nat.le_refl _), List.getElem?_append_right (by omega), hl]
    simpa using hv
  · have hi' : i < ps.length := by omega
    rw [List.getElem?_append_left hi', List.getElem?_append_left (by omega)]
    have := h.get i hi'
    simpa only [List.getD_eq_getElem?_getD] using this
theorem take_strs (p : List (List UInt8)) (r : List Value) : (strs p ++ r).take p.length = strs p := by
  have h : p.length = (strs p).length := by simp
  rw [h, List.take_left]
/-- A path is put behind no text. -/
theorem Fx_patha {E : World} {L : Fra} {H R : Heap} {dst : Option Tmp} {ty : TypeId} {pos : String} {aft : Array Edge} {gd : Option (Nat × Bool)} {x y : Operand} {g : Nat} {v : Value} {p : List (List UInt8)} {pp : Heap} (hx : ev L x = some (.slice (some ⟨g, 0, none⟩) 0 0)) (hy : ev L y = some v) (hg : Rem H (g, blk [] 9) R) (hp : PathC pp v p) (hs : ∀ x ∈ pp, x ∈ H) (hp1 : p.length ≤ 1000000) :
    Fx Tryd.prog E L H ⟨dst, .call ⟨.builtin .append, #[x, y], #[36, 36]⟩, ty, pos, aft, gd⟩ (fun u H'' => ∃ g' cap' r', u = .slice (some ⟨g', 0, none⟩) p.length cap' ∧ (strs p ++ r').length = cap' * 1 ∧ H'' = (g', blk (strs p ++ r') 9) :: R) := by
  intro n a w next Q hf hh k
  rcases hp with ⟨rfl, rfl⟩ | ⟨b, cap, r, hne, rfl, hm⟩
  · refine (Yl.h (Yl_append0 (P := Tryd.prog) hx hy sl_36 (Nat.le_refl _))).fx n a w next Q hf hh ?_
    rintro v w' H' ⟨rfl, rfl⟩ hh'
    exact k _ w' _ ⟨g, 0, [], rfl, rfl, rfl⟩ (hh'.perm hg.perm)
  · refine Fx_appG (P := Tryd.prog) (xs := []) (r := []) (news := strs p) (cap := 0) hx hy sl_36 by_9 ze_9 rfl (hs _ hm) hg rfl rfl (by rw [List.drop_zero, Nat.mul_one]; exact take_strs p r) (by simp) (one_map (fun _ => rfl) p) (by omega) (by omega) (by omega) n a w next Q hf hh ?_
    rintro v w' H' ⟨g', cap', r', rfl, h1, rfl⟩ hh'
    rw [Nat.zero_add, List.nil_append] at *
    exact k _ w' _ ⟨g', cap', r', rfl, h1, rfl⟩ hh'
theorem strs_snoc (p : List (List UInt8)) (s : List UInt8) : strs p ++ [.string (bar s)] = strs (p ++ [s]) := by simp [strs]
theorem at_link {l : List Nm} {r : List Value} {k o : Nat} (hk : k < l.length) (ho : o = k * 28 + 3) : (nms l ++ r)[o]? = some (iv (lfF l k)) := by
  rw [ho, nms_cell l r k 3 hk (by omega)]; rfl
theorem at_right {l : List Nm} {r : List Value} {k o : Nat} (hk : k < l.length) (ho : o = k * 28 + 4) : (nms l ++ r)[o]? = some (iv (rtF l k)) := by
  rw [ho, nms_cell l r k 4 hk (by omega)]; rfl
theorem at_child {l : List Nm} {r : List Value} {k o : Nat} (hk : k < l.length) (ho : o = k * 28 + 5) : (nms l ++ r)[o]? = some (iv (chdF l k)) := by
  rw [ho, nms_cell l r k 5 hk (by omega)]; rfl
def nmOf (l : List Nm) (k : Nat) : List UInt8 := (l.getD k default).nd.name
theorem at_nm {l : List Nm} {r : List Value} {k o : Nat} (hk : k < l.length) (ho : o = k * 28) : (nms l ++ r)[o]? = some (.string (bar (nmOf l k))) := at_name hk ho

/-! Walks: Order. -/
/-- What a call of the closure does. -/
def OCt (ns : List Nm) (g cap bF bn bo bp : Nat) (rn : List Value) (t : Int) (p : List (List UInt8)) (o : List (Nat × List (List UInt8))) : Prop :=
 ∀ (done : List (Nat × List (List UInt8))) (vs : List Value) (go co gp cp : Nat) (ro rp : List Value) (pp : Heap) (v : Value), PathC pp v p → VsOk pp vs (done.map Prod.snd) → (nats (done.map Prod.fst) ++ ro).length = co → (vs ++ rp).length = cp → done.length + o.length ≤ 1000 → p.length + o.length ≤ 1000 →
  Ct Tryd.prog 30 [iv t, v, pv bF, pv bn, pv bo, pv bp] ((bF, blk [.func (.func 30) #[] #[pv bF, pv bn, pv bo, pv bp]] 77) :: (bn, blk [.slice (some ⟨g, 0, none⟩) ns.length cap] 25) :: (g, blk (nms ns ++ rn) 43) :: (bo, blk [.slice (some ⟨go, 0, none⟩) done.length co] 29) :: (go, blk (nats (done.map Prod.fst) ++ ro) 3) :: (bp, blk [.slice (some ⟨gp, 0, none⟩) done.length cp] 30) :: (gp, blk (vs ++ rp) 36) :: pp)
   (fun u q => u = .tuple #[] ∧ ∃ vs' go' co' gp' cp' ro' rp' pp', VsOk pp' vs' ((done ++ o).map Prod.snd) ∧ (nats ((done ++ o).map Prod.fst) ++ ro').length = co' ∧ (vs' ++ rp').length = cp' ∧ (∀ x ∈ pp, x ∈ pp') ∧ q = (bF, blk [.func (.func 30) #[] #[pv bF, pv bn, pv bo, pv bp]] 77) :: (bn, blk [.slice (some ⟨g, 0, none⟩) ns.length cap] 25) :: (g, blk (nms ns ++ rn) 43) :: (bo, blk [.slice (some ⟨go', 0, none⟩) (done ++ o).length co'] 29) :: (go', blk (nats ((done ++ o).map Prod.fst) ++ ro') 3) :: (bp, blk [.slice (some ⟨gp', 0, none⟩) (done ++ o).length cp'] 30) :: (gp', blk (vs' ++ rp') 36) :: pp')
theorem order_nil (ns : List Nm) (g cap bF bn bo bp : Nat) (rn : List Value) (p : List (List UInt8)) : OCt ns g cap bF bn bo bp rn (-1) p [] := by
 unfold OCt
 intro done vs go co gp cp ro rp pp v hv hvs hro hrp hl hpl
 refine Ct_of Tryd.func30 rfl Tryd.ntmps30 rfl ?_
 intro E F
 simp only [numL, List.nil_append, List.cons_append]
 refine CW_seq ?_
 refine CW_sr ?_
 refine RW_m ?_
 refine RW_l (Yl_lss rfl rfl) ?_
 refine RW_lv (ks := [0, 1, 2, 3, 4, 5, 10]) ?_
 refine CW_cond rfl (fun hc1 => ?_) (fun hc1 => ?_)
 ·replace hc1 := of_decide_eq_true hc1
  refine CW_ret ?_
  refine QW_ret_then ?_
  refine QW_ret0 rfl ((bF, blk [.func (.func 30) #[] #[pv bF, pv bn, pv bo, pv bp]] 77) :: (bn, blk [.slice (some ⟨g, 0, none⟩) ns.length cap] 25) :: (g, blk (nms ns ++ rn) 43) :: (bo, blk [.slice (some ⟨go, 0, none⟩) done.length co] 29) :: (go, blk (nats (done.map Prod.fst) ++ ro) 3) :: (bp, blk [.slice (some ⟨gp, 0, none⟩) done.length cp] 30) :: (gp, blk (vs ++ rp) 36) :: pp) ⟨rfl, vs, go, co, gp, cp, ro, rp, pp, by simpa using hvs, by simpa using hro, hrp, fun _ h => h, by rw [List.append_nil]⟩ (Prm.nil _)
 ·replace hc1 := of_decide_eq_false hc1
  exfalso; omega
theorem order_step (ns : List Nm) (g cap bF bn bo bp : Nat) (rn : List Value) (k : Nat) (hk : k < ns.length) (hk2 : ns.length ≤ 1000) (p : List (List UInt8)) (a c b : List (Nat × List (List UInt8))) (iha : OCt ns g cap bF bn bo bp rn (lfF ns k) p a) (ihc : OCt ns g cap bF bn bo bp rn (chdF ns k) (if k = 0 then p else p ++ [nmOf ns k]) c) (ihb : OCt ns g cap bF bn bo bp rn (rtF ns k) p b) : OCt ns g cap bF bn bo bp rn (k : Int) p (a ++ (k, p) :: (c ++ b)) := by
 unfold OCt at *
 intro done vs go co gp cp ro rp pp v hv hvs hro hrp hl hpl
 have hlen : (a ++ (k, p) :: (c ++ b)).length = a.length + 1 + (c.length + b.length) := by simp; omega
 rw [hlen] at hl hpl
 refine Ct_of Tryd.func30 rfl Tryd.ntmps30 rfl ?_
 intro E F
 simp only [numL, List.nil_append, List.cons_append]
 refine CW_seq ?_
 refine CW_sr ?_
 refine RW_m ?_
 refine RW_l (Yl_lss rfl rfl) ?_
 refine RW_lv (ks := [0, 1, 2, 3, 4, 5, 10]) ?_
 refine CW_cond rfl (fun hc1 => ?_) (fun hc1 => ?_)
 ·replace hc1 := of_decide_eq_true hc1
  exfalso; omega
 ·replace hc1 := of_decide_eq_false hc1
  refine (CW_skip (QW_lv (ks := [0, 1, 2, 3, 4, 5]) ?_))
  refine CW_seq ?_
  have hih := iha done vs go co gp cp ro rp pp v hv hvs hro hrp (by omega) (by omega)
  refine CW_draw [7] _ mixed (Sub.refl _) ?_
  refine RD_l 2 rfl (Yl_move rfl) ?_
  refine RD_l 6 rfl (Yl_move rfl) ?_
  refine RD_h (i := 0) #[false, true, true, true, true, true, true, false] rfl rfl rfl rfl (by kernel_rfl) (fun _ _ _ h => h) (Yh_ld (v := .func (.func 30) #[] #[pv bF, pv bn, pv bo, pv bp]) sc_77) ?_
  refine RD_h (i := 1) #[true, false, true, false, false, false, true, false] rfl rfl rfl rfl (by kernel_rfl) (fun _ _ _ h => h) (Yh_ld (v := .slice (some ⟨g, 0, none⟩) ns.length cap) sc_25) ?_
  refine RD_l 3 rfl (Yl_indexN (b := g) (off := 0) (i := k) (o' := k * 28) rfl rfl sl_25 hk (by omega)) ?_
  refine RD_l 4 rfl (Yl_field rfl fo_43_3) ?_
  refine RD_h (i := 5) #[true, true, true, true, true, false, true, false] rfl rfl rfl rfl (by kernel_rfl) (fun _ _ _ h => h) (Yh_lh (v := iv (lfF ns k)) sc_3 (at_link hk rfl)) ?_
  refine RD_one (i := 7) (by kernel_rfl) ?_
  refine RO_fx rfl rfl rfl rfl (Fx_callV ok_30 (fs := []) (cs := [pv bF, pv bn, pv bo, pv bp]) (vs := [iv (lfF ns k), v]) rfl rfl (by exact (Pick.cons (by repeat (first | exact Rem.here _ _ | apply Rem.there)) (Pick.cons (by repeat (first | exact Rem.here _ _ | apply Rem.there)) (Pick.cons (by repeat (first | exact Rem.here _ _ | apply Rem.there)) (Pick.cons (by repeat (first | exact Rem.here _ _ | apply Rem.there)) (Pick.cons (by repeat (first | exact Rem.here _ _ | apply Rem.there)) (Pick.cons (by repeat (first | exact Rem.here _ _ | apply Rem.there)) (Pick.cons (by repeat (first | exact Rem.here _ _ | apply Rem.there)) (pick_app _ F))))))))) hih) ?_
  rintro _ _ ⟨_, ⟨rfl, vs1, go1, co1, gp1, cp1, ro1, rp1, pp1, hvs1, hro1, hrp1, hsub1, rfl⟩, rfl⟩
  simp only [List.cons_append]
  refine ⟨Or.inl (by kernel_rfl), ?_⟩
  refine (RD_done (by kernel_rfl) (QW_lv (ks := [0, 1, 2, 3, 4, 5]) ?_))
  obtain ⟨d1, hd1⟩ : ∃ d1, d1 = done ++ a := ⟨_, rfl⟩
  rw [← hd1] at hvs1 hro1
  rw [← hd1]
  replace hv := hv.more hsub1
  clear hih hvs
  have hdl : d1.length = done.length + a.length := by rw [hd1]; simp
  have hv1 := hv.one.1
  obtain ⟨d2, hd2⟩ : ∃ d2, d2 = d1 ++ [(k, p)] := ⟨_, rfl⟩
  have e1 : nats (d1.map Prod.fst) ++ [nv k] = nats (d2.map Prod.fst) := by rw [hd2]; simp
  have e2 : d1.length + 1 = d2.length := by rw [hd2]; simp
  have hvs2 := hvs1.snoc hv
  have e3 : d1.map Prod.snd ++ [p] = d2.map Prod.snd := by rw [hd2]; simp
  rw [e3] at hvs2
  obtain ⟨vs2, hvs2e⟩ : ∃ z, z = vs1 ++ [v] := ⟨_, rfl⟩
  rw [← hvs2e] at hvs2
  refine CW_cut (σ := Nat × Nat × Nat × Nat × List Value × List Value) (fun _ => [(0, nv k), (1, v), (2, pv bF), (3, pv bn)]) (fun q => (bF, blk [.func (.func 30) #[] #[pv bF, pv bn, pv bo, pv bp]] 77) :: (bn, blk [.slice (some ⟨g, 0, none⟩) ns.length cap] 25) :: (g, blk (nms ns ++ rn) 43) :: (bo, blk [.slice (some ⟨q.1, 0, none⟩) d2.length q.2.1] 29) :: (q.1, blk (nats (d2.map Prod.fst) ++ q.2.2.2.2.1) 3) :: (bp, blk [.slice (some ⟨q.2.2.1, 0, none⟩) d2.length q.2.2.2.1] 30) :: (q.2.2.1, blk (vs2 ++ q.2.2.2.2.2) 36) :: (pp1 ++ F)) (fun q => (nats (d2.map Prod.fst) ++ q.2.2.2.2.1).length = q.2.1 ∧ (vs2 ++ q.2.2.2.2.2).length = q.2.2.2.1) ?_ ?_
  ·skip
   refine CW_draw [8, 9] [(bo, blk [.slice (some ⟨go1, 0, none⟩) d1.length co1] 29), (bp, blk [.slice (some ⟨gp1, 0, none⟩) d1.length cp1] 30)] mixed (by repeat (first | exact Sub.nil _ | apply Sub.cons | exact Rem.here _ _ | apply Rem.there)) ?_
   refine RD_l 1 rfl (Yl_move rfl) ?_
   refine RD_l 5 rfl (Yl_move rfl) ?_
   refine RD_h (i := 0) #[false, true, true, false, true, true, true, false, false, false] rfl rfl rfl rfl (by kernel_rfl) (fun _ _ _ h => h) (Yh_ld (v := .slice (some ⟨go1, 0, none⟩) d1.length co1) sc_29) ?_
   refine RD_h (i := 4) #[true, true, true, true, false, true, true, false, false, false] rfl rfl rfl rfl (by kernel_rfl) (fun _ _ _ h => h) (Yh_ld (v := .slice (some ⟨gp1, 0, none⟩) d1.length cp1) sc_30) ?_
   refine RD_two (i := 2) (j := 6) (by kernel_rfl) ?_ ?_
   ·skip
    refine RO_fx rfl rfl rfl rfl (Fx_litS (vs := [nv k]) sl_29 ze_3 rfl rfl rfl rfl rfl) ?_
    rintro _ _ ⟨b21, rfl, rfl⟩
    refine ⟨Or.inr (by repeat (first | exact Sub.nil _ | apply Sub.cons | exact Rem.here _ _ | apply Rem.there)), ?_⟩
    refine RD_two (i := 3) (j := 6) (by kernel_rfl) ?_ ?_
    ·skip
     refine RO_fx rfl rfl rfl rfl (Fx_appTG (xs := nats (d1.map Prod.fst)) (r := ro1) (news := [nv k]) (n := d1.length) (cap := co1) (m := 1) (c := 1) rfl rfl sl_29 by_3 ze_3 rfl (by repeat (first | exact Rem.here _ _ | apply Rem.there)) (by repeat (first | exact Rem.here _ _ | apply Rem.there)) (by rw [hro1, Nat.mul_one]) (by simp) rfl (by intro u hu; rw [List.mem_singleton.1 hu]; rfl) (by omega) (by omega) (by omega)) ?_
     rintro _ _ ⟨go2, co2, ro2, rfl, hro2, rfl⟩
     refine ⟨Or.inr (by repeat (first | exact Sub.nil _ | apply Sub.cons | exact Rem.here _ _ | apply Rem.there)), ?_⟩
     refine RD_one (i := 6) (by kernel_rfl) ?_
     refine RO_fx rfl rfl rfl rfl (Fx_litS (vs := [v]) sl_30 ze_36 rfl rfl rfl rfl (by simp [hv1])) ?_
     rintro _ _ ⟨b25, rfl, rfl⟩
     refine ⟨Or.inr (by repeat (first | exact Sub.nil _ | apply Sub.cons | exact Rem.here _ _ | apply Rem.there)), ?_⟩
     refine RD_one (i := 7) (by kernel_rfl) ?_
     refine RO_fx rfl rfl rfl rfl (Fx_appTG (xs := vs1) (r := rp1) (news := [v]) (n := d1.length) (cap := cp1) (m := 1) (c := 1) rfl rfl sl_30 by_36 ze_36 rfl (by repeat (first | exact Rem.here _ _ | apply Rem.there)) (by repeat (first | exact Rem.here _ _ | apply Rem.there)) (by rw [hrp1, Nat.mul_one]) (by rw [hvs1.len, List.length_map, Nat.mul_one]) rfl (by intro u hu; rw [List.mem_singleton.1 hu]; exact hv1) (by omega) (by omega) (by omega)) ?_
     rintro _ _ ⟨gp2, cp2, rp2, rfl, hrp2, rfl⟩
     refine ⟨Or.inr (by repeat (first | exact Sub.nil _ | apply Sub.cons | exact Rem.here _ _ | apply Rem.there)), ?_⟩
     refine RD_one (i := 8) (by kernel_rfl) ?_
     refine RO_fx0 rfl rfl rfl (Fx_store (v := .slice (some ⟨go2, 0, none⟩) (d1.length + 1) co2) (b := bo) (off := 0) rfl rfl sz_29 rfl (by repeat (first | exact Rep.here _ _ _ | apply Rep.there)) (by simp)) ?_
     rintro _ _ rfl
     refine ⟨Or.inl (by kernel_rfl), ?_⟩
     refine RD_one (i := 9) (by kernel_rfl) ?_
     refine RO_fx0 rfl rfl rfl (Fx_store (v := .slice (some ⟨gp2, 0, none⟩) (d1.length + 1) cp2) (b := bp) (off := 0) rfl rfl sz_30 rfl (by repeat (first | exact Rep.here _ _ _ | apply Rep.there)) (by simp)) ?_
     rintro _ _ rfl
     refine ⟨Or.inl (by kernel_rfl), ?_⟩
     refine RD_done (by kernel_rfl) ?_
     rw [e1] at hro2
     rw [← hvs2e] at hrp2
     rw [e1, e2, ← hvs2e]
     rw [Nat.mul_one] at hro2 hrp2
     exact QW_cu (go2, co2, gp2, cp2, ro2, rp2) ⟨hro2, hrp2⟩
    ·skip
     refine RO_fx rfl rfl rfl rfl (Fx_litS (vs := [v]) sl_30 ze_36 rfl rfl rfl rfl (by simp [hv1])) ?_
     rintro _ _ ⟨b25, rfl, rfl⟩
     refine ⟨Or.inr (by repeat (first | exact Sub.nil _ | apply Sub.cons | exact Rem.here _ _ | apply Rem.there)), ?_⟩
     refine RD_one (i := 3) (by kernel_rfl) ?_
     refine RO_fx rfl rfl rfl rfl (Fx_appTG (xs := nats (d1.map Prod.fst)) (r := ro1) (news := [nv k]) (n := d1.length) (cap := co1) (m := 1) (c := 1) rfl rfl sl_29 by_3 ze_3 rfl (by repeat (first | exact Rem.here _ _ | apply Rem.there)) (by repeat (first | exact Rem.here _ _ | apply Rem.there)) (by rw [hro1, Nat.mul_one]) (by simp) rfl (by intro u hu; rw [List.mem_singleton.1 hu]; rfl) (by omega) (by omega) (by omega)) ?_
     rintro _ _ ⟨go2, co2, ro2, rfl, hro2, rfl⟩
     refine ⟨Or.inr (by repeat (first | exact Sub.nil _ | apply Sub.cons | exact Rem.here _ _ | apply Rem.there)), ?_⟩
     refine RD_one (i := 7) (by kernel_rfl) ?_
     refine RO_fx rfl rfl rfl rfl (Fx_appTG (xs := vs1) (r := rp1) (news := [v]) (n := d1.length) (cap := cp1) (m := 1) (c := 1) rfl rfl sl_30 by_36 ze_36 rfl (by repeat (first | exact Rem.here _ _ | apply Rem.there)) (by repeat (first | exact Rem.here _ _ | apply Rem.there)) (by rw [hrp1, Nat.mul_one]) (by rw [hvs1.len, List.length_map, Nat.mul_one]) rfl (by intro u hu; rw [List.mem_singleton.1 hu]; exact hv1) (by omega) (by omega) (by omega)) ?_
     rintro _ _ ⟨gp2, cp2, rp2, rfl, hrp2, rfl⟩
     refine ⟨Or.inr (by repeat (first | exact Sub.nil _ | apply Sub.cons | exact Rem.here _ _ | apply Rem.there)), ?_⟩
     refine RD_one (i := 8) (by kernel_rfl) ?_
     refine RO_fx0 rfl rfl rfl (Fx_store (v := .slice (some ⟨go2, 0, none⟩) (d1.length + 1) co2) (b := bo) (off := 0) rfl rfl sz_29 rfl (by repeat (first | exact Rep.here _ _ _ | apply Rep.there)) (by simp)) ?_
     rintro _ _ rfl
     refine ⟨Or.inl (by kernel_rfl), ?_⟩
     refine RD_one (i := 9) (by kernel_rfl) ?_
     refine RO_fx0 rfl rfl rfl (Fx_store (v := .slice (some ⟨gp2, 0, none⟩) (d1.length + 1) cp2) (b := bp) (off := 0) rfl rfl sz_30 rfl (by repeat (first | exact Rep.here _ _ _ | apply Rep.there)) (by simp)) ?_
     rintro _ _ rfl
     refine ⟨Or.inl (by kernel_rfl), ?_⟩
     refine RD_done (by kernel_rfl) ?_
     rw [e1] at hro2
     rw [← hvs2e] at hrp2
     rw [e1, e2, ← hvs2e]
     rw [Nat.mul_one] at hro2 hrp2
     exact QW_cu (go2, co2, gp2, cp2, ro2, rp2) ⟨hro2, hrp2⟩
   ·skip
    refine RO_fx rfl rfl rfl rfl (Fx_litS (vs := [v]) sl_30 ze_36 rfl rfl rfl rfl (by simp [hv1])) ?_
    rintro _ _ ⟨b25, rfl, rfl⟩
    refine ⟨Or.inr (by repeat (first | exact Sub.nil _ | apply Sub.cons | exact Rem.here _ _ | apply Rem.there)), ?_⟩
    refine RD_one (i := 2) (by kernel_rfl) ?_
    refine RO_fx rfl rfl rfl rfl (Fx_litS (vs := [nv k]) sl_29 ze_3 rfl rfl rfl rfl rfl) ?_
    rintro _ _ ⟨b21, rfl, rfl⟩
    refine ⟨Or.inr (by repeat (first | exact Sub.nil _ | apply Sub.cons | exact Rem.here _ _ | apply Rem.there)), ?_⟩
    refine RD_one (i := 3) (by kernel_rfl) ?_
    refine RO_fx rfl rfl rfl rfl (Fx_appTG (xs := nats (d1.map Prod.fst)) (r := ro1) (news := [nv k]) (n := d1.length) (cap := co1) (m := 1) (c := 1) rfl rfl sl_29 by_3 ze_3 rfl (by repeat (first | exact Rem.here _ _ | apply Rem.there)) (by repeat (first | exact Rem.here _ _ | apply Rem.there)) (by rw [hro1, Nat.mul_one]) (by simp) rfl (by intro u hu; rw [List.mem_singleton.1 hu]; rfl) (by omega) (by omega) (by omega)) ?_
    rintro _ _ ⟨go2, co2, ro2, rfl, hro2, rfl⟩
    refine ⟨Or.inr (by repeat (first | exact Sub.nil _ | apply Sub.cons | exact Rem.here _ _ | apply Rem.there)), ?_⟩
    refine RD_one (i := 7) (by kernel_rfl) ?_
    refine RO_fx rfl rfl rfl rfl (Fx_appTG (xs := vs1) (r := rp1) (news := [v]) (n := d1.length) (cap := cp1) (m := 1) (c := 1) rfl rfl sl_30 by_36 ze_36 rfl (by repeat (first | exact Rem.here _ _ | apply Rem.there)) (by repeat (first | exact Rem.here _ _ | apply Rem.there)) (by rw [hrp1, Nat.mul_one]) (by rw [hvs1.len, List.length_map, Nat.mul_one]) rfl (by intro u hu; rw [List.mem_singleton.1 hu]; exact hv1) (by omega) (by omega) (by omega)) ?_
    rintro _ _ ⟨gp2, cp2, rp2, rfl, hrp2, rfl⟩
    refine ⟨Or.inr (by repeat (first | exact Sub.nil _ | apply Sub.cons | exact Rem.here _ _ | apply Rem.there)), ?_⟩
    refine RD_one (i := 8) (by kernel_rfl) ?_
    refine RO_fx0 rfl rfl rfl (Fx_store (v := .slice (some ⟨go2, 0, none⟩) (d1.length + 1) co2) (b := bo) (off := 0) rfl rfl sz_29 rfl (by repeat (first | exact Rep.here _ _ _ | apply Rep.there)) (by simp)) ?_
    rintro _ _ rfl
    refine ⟨Or.inl (by kernel_rfl), ?_⟩
    refine RD_one (i := 9) (by kernel_rfl) ?_
    refine RO_fx0 rfl rfl rfl (Fx_store (v := .slice (some ⟨gp2, 0, none⟩) (d1.length + 1) cp2) (b := bp) (off := 0) rfl rfl sz_30 rfl (by repeat (first | exact Rep.here _ _ _ | apply Rep.there)) (by simp)) ?_
    rintro _ _ rfl
    refine ⟨Or.inl (by kernel_rfl), ?_⟩
    refine RD_done (by kernel_rfl) ?_
    rw [e1] at hro2
    rw [← hvs2e] at hrp2
    rw [e1, e2, ← hvs2e]
    rw [Nat.mul_one] at hro2 hrp2
    exact QW_cu (go2, co2, gp2, cp2, ro2, rp2) ⟨hro2, hrp2⟩
  ·rintro ⟨go2, co2, gp2, cp2, ro2, rp2⟩ ⟨hro2, hrp2⟩
   simp only at hro2 hrp2 ⊢
   refine CW_sr ?_
   refine RW_m ?_
   refine RW_a ?_
   refine RW_lv (ks := [0, 1, 2, 3, 8]) ?_
   refine CW_cut (σ := Heap × Value) (fun q => [(0, nv k), (1, v), (2, pv bF), (3, pv bn), (8, q.2)]) (fun q => (bF, blk [.func (.func 30) #[] #[pv bF, pv bn, pv bo, pv bp]] 77) :: (bn, blk [.slice (some ⟨g, 0, none⟩) ns.length cap] 25) :: (g, blk (nms ns ++ rn) 43) :: (bo, blk [.slice (some ⟨go2, 0, none⟩) d2.length co2] 29) :: (go2, blk (nats (d2.map Prod.fst) ++ ro2) 3) :: (bp, blk [.slice (some ⟨gp2, 0, none⟩) d2.length cp2] 30) :: (gp2, blk (vs2 ++ rp2) 36) :: (q.1 ++ F)) (fun q => (∀ x ∈ pp1, x ∈ q.1) ∧ PathC q.1 q.2 (if k = 0 then p else p ++ [nmOf ns k])) ?_ ?_
   ·skip
    refine CW_sr ?_
    refine RW_m ?_
    refine RW_l (Yl_gtr rfl rfl) ?_
    refine RW_lv (ks := [0, 1, 2, 3, 8, 29]) ?_
    refine CW_cond rfl (fun hc2 => ?_) (fun hc2 => ?_)
    ·replace hc2 := of_decide_eq_true hc2
     refine CW_draw [] [(bn, blk [.slice (some ⟨g, 0, none⟩) ns.length cap] 25), (g, blk (nms ns ++ rn) 43)] mixed (by repeat (first | exact Sub.nil _ | apply Sub.cons | exact Rem.here _ _ | apply Rem.there)) ?_
     refine RD_l 1 rfl (Yl_move rfl) ?_
     refine RD_l 4 rfl (Yl_move rfl) ?_
     refine RD_h (i := 3) #[true, true, true, false, true, false, false, false, false, false, false] rfl rfl rfl rfl (by kernel_rfl) (fun _ _ _ h => h) (Yh_ld (v := .slice (some ⟨g, 0, none⟩) ns.length cap) sc_25) ?_
     refine RD_l 5 rfl (Yl_indexN (b := g) (off := 0) (i := k) (o' := k * 28) rfl rfl sl_25 hk (by omega)) ?_
     refine RD_l 6 rfl (Yl_field rfl fo_43_0) ?_
     refine RD_h (i := 7) #[true, true, true, true, true, true, true, false, false, false, false] rfl rfl rfl rfl (by kernel_rfl) (fun _ _ _ h => h) (Yh_lh (v := .string (bar (nmOf ns k))) sc_9 (at_nm hk rfl)) ?_
     refine RD_two (i := 0) (j := 8) (by kernel_rfl) ?_ ?_
     ·skip
      refine RO_fx rfl rfl rfl rfl (Fx_buildSlice0 sl_36) ?_
      rintro _ _ ⟨b30, rfl, rfl⟩
      refine ⟨Or.inr (by repeat (first | exact Sub.nil _ | apply Sub.cons | exact Rem.here _ _ | apply Rem.there)), ?_⟩
      refine RD_two (i := 2) (j := 8) (by kernel_rfl) ?_ ?_
      ·skip
       refine RO_fx rfl rfl rfl rfl (Fx_patha (g := b30) (v := v) (p := p) (pp := pp1) rfl rfl (by repeat (first | exact Rem.here _ _ | apply Rem.there)) hv (fun x hx => (by repeat (first | exact List.mem_append_left _ hx | apply List.Mem.tail))) (by omega)) ?_
       rintro _ _ ⟨g32, c32, r32, rfl, hr32, rfl⟩
       refine ⟨Or.inr (by repeat (first | exact Sub.nil _ | apply Sub.cons | exact Rem.here _ _ | apply Rem.there)), ?_⟩
       refine RD_one (i := 8) (by kernel_rfl) ?_
       refine RO_fx rfl rfl rfl rfl (Fx_litS (vs := [.string (bar (nmOf ns k))]) sl_36 ze_9 rfl rfl rfl rfl rfl) ?_
       rintro _ _ ⟨b38, rfl, rfl⟩
       refine ⟨Or.inr (by repeat (first | exact Sub.nil _ | apply Sub.cons | exact Rem.here _ _ | apply Rem.there)), ?_⟩
       refine RD_one (i := 9) (by kernel_rfl) ?_
       refine RO_fx rfl rfl rfl rfl (Fx_appTG (xs := strs p) (r := r32) (news := [.string (bar (nmOf ns k))]) (n := p.length) (cap := c32) (m := 1) (c := 1) rfl rfl sl_36 by_9 ze_9 rfl (by repeat (first | exact Rem.here _ _ | apply Rem.there)) (by repeat (first | exact Rem.here _ _ | apply Rem.there)) hr32 (by simp) rfl (by intro u hu; rw [List.mem_singleton.1 hu]; rfl) (by omega) (by omega) (by omega)) ?_
       rintro _ _ ⟨g39, c39, r39, rfl, hr39, rfl⟩
       refine ⟨Or.inr (by repeat (first | exact Sub.nil _ | apply Sub.cons | exact Rem.here _ _ | apply Rem.there)), ?_⟩
       refine RD_l 10 rfl (Yl_assign rfl) ?_
       refine RD_done (by kernel_rfl) ?_
       first
        | (have hk0 : k = 0 := (by omega); rw [if_pos hk0]; exact QW_cut (pp1, v) ⟨fun _ h => h, hv⟩ (by repeat (first | exact Prm.nil _ | exact Rem.here _ _ | apply Rem.there | apply Prm.cons)) (.cons rfl (.cons rfl (.cons rfl (.cons rfl (.cons rfl .nil))))))
        | (have hk0 : ¬ k = 0 := (by omega); rw [if_neg hk0, strs_snoc] at *; exact QW_cut ((g39, blk (strs (p ++ [nmOf ns k]) ++ r39) 9) :: pp1, .slice (some ⟨g39, 0, none⟩) (p ++ [nmOf ns k]).length c39) ⟨fun x hx => List.Mem.tail _ hx, .inr ⟨g39, c39, r39, by simp, rfl, List.Mem.head _⟩⟩ (by simp only [List.cons_append]; repeat (first | exact Prm.nil _ | exact Rem.here _ _ | apply Rem.there | apply Prm.cons)) (.cons rfl (.cons rfl (.cons rfl (.cons rfl (.cons (by rw [List.length_append]; rfl) .nil))))))
      ·skip
       refine RO_fx rfl rfl rfl rfl (Fx_litS (vs := [.string (bar (nmOf ns k))]) sl_36 ze_9 rfl rfl rfl rfl rfl) ?_
       rintro _ _ ⟨b38, rfl, rfl⟩
       refine ⟨Or.inr (by repeat (first | exact Sub.nil _ | apply Sub.cons | exact Rem.here _ _ | apply Rem.there)), ?_⟩
       refine RD_one (i := 2) (by kernel_rfl) ?_
       refine RO_fx rfl rfl rfl rfl (Fx_patha (g := b30) (v := v) (p := p) (pp := pp1) rfl rfl (by repeat (first | exact Rem.here _ _ | apply Rem.there)) hv (fun x hx => (by repeat (first | exact List.mem_append_left _ hx | apply List.Mem.tail))) (by omega)) ?_
       rintro _ _ ⟨g32, c32, r32, rfl, hr32, rfl⟩
       refine ⟨Or.inr (by repeat (first | exact Sub.nil _ | apply Sub.cons | exact Rem.here _ _ | apply Rem.there)), ?_⟩
       refine RD_one (i := 9) (by kernel_rfl) ?_
       refine RO_fx rfl rfl rfl rfl (Fx_appTG (xs := strs p) (r := r32) (news := [.string (bar (nmOf ns k))]) (n := p.length) (cap := c32) (m := 1) (c := 1) rfl rfl sl_36 by_9 ze_9 rfl (by repeat (first | exact Rem.here _ _ | apply Rem.there)) (by repeat (first | exact Rem.here _ _ | apply Rem.there)) hr32 (by simp) rfl (by intro u hu; rw [List.mem_singleton.1 hu]; rfl) (by omega) (by omega) (by omega)) ?_
       rintro _ _ ⟨g39, c39, r39, rfl, hr39, rfl⟩
       refine ⟨Or.inr (by repeat (first | exact Sub.nil _ | apply Sub.cons | exact Rem.here _ _ | apply Rem.there)), ?_⟩
       refine RD_l 10 rfl (Yl_assign rfl) ?_
       refine RD_done (by kernel_rfl) ?_
       first
        | (have hk0 : k = 0 := (by omega); rw [if_pos hk0]; exact QW_cut (pp1, v) ⟨fun _ h => h, hv⟩ (by repeat (first | exact Prm.nil _ | exact Rem.here _ _ | apply Rem.there | apply Prm.cons)) (.cons rfl (.cons rfl (.cons rfl (.cons rfl (.cons rfl .nil))))))
        | (have hk0 : ¬ k = 0 := (by omega); rw [if_neg hk0, strs_snoc] at *; exact QW_cut ((g39, blk (strs (p ++ [nmOf ns k]) ++ r39) 9) :: pp1, .slice (some ⟨g39, 0, none⟩) (p ++ [nmOf ns k]).length c39) ⟨fun x hx => List.Mem.tail _ hx, .inr ⟨g39, c39, r39, by simp, rfl, List.Mem.head _⟩⟩ (by simp only [List.cons_append]; repeat (first | exact Prm.nil _ | exact Rem.here _ _ | apply Rem.there | apply Prm.cons)) (.cons rfl (.cons rfl (.cons rfl (.cons rfl (.cons (by rw [List.length_append]; rfl) .nil))))))
     ·skip
      refine RO_fx rfl rfl rfl rfl (Fx_litS (vs := [.string (bar (nmOf ns k))]) sl_36 ze_9 rfl rfl rfl rfl rfl) ?_
      rintro _ _ ⟨b38, rfl, rfl⟩
      refine ⟨Or.inr (by repeat (first | exact Sub.nil _ | apply Sub.cons | exact Rem.here _ _ | apply Rem.there)), ?_⟩
      refine RD_one (i := 0) (by kernel_rfl) ?_
      refine RO_fx rfl rfl rfl rfl (Fx_buildSlice0 sl_36) ?_
      rintro _ _ ⟨b30, rfl, rfl⟩
      refine ⟨Or.inr (by repeat (first | exact Sub.nil _ | apply Sub.cons | exact Rem.here _ _ | apply Rem.there)), ?_⟩
      refine RD_one (i := 2) (by kernel_rfl) ?_
      refine RO_fx rfl rfl rfl rfl (Fx_patha (g := b30) (v := v) (p := p) (pp := pp1) rfl rfl (by repeat (first | exact Rem.here _ _ | apply Rem.there)) hv (fun x hx => (by repeat (first | exact List.mem_append_left _ hx | apply List.Mem.tail))) (by omega)) ?_
      rintro _ _ ⟨g32, c32, r32, rfl, hr32, rfl⟩
      refine ⟨Or.inr (by repeat (first | exact Sub.nil _ | apply Sub.cons | exact Rem.here _ _ | apply Rem.there)), ?_⟩
      refine RD_one (i := 9) (by kernel_rfl) ?_
      refine RO_fx rfl rfl rfl rfl (Fx_appTG (xs := strs p) (r := r32) (news := [.string (bar (nmOf ns k))]) (n := p.length) (cap := c32) (m := 1) (c := 1) rfl rfl sl_36 by_9 ze_9 rfl (by repeat (first | exact Rem.here _ _ | apply Rem.there)) (by repeat (first | exact Rem.here _ _ | apply Rem.there)) hr32 (by simp) rfl (by intro u hu; rw [List.mem_singleton.1 hu]; rfl) (by omega) (by omega) (by omega)) ?_
      rintro _ _ ⟨g39, c39, r39, rfl, hr39, rfl⟩
      refine ⟨Or.inr (by repeat (first | exact Sub.nil _ | apply Sub.cons | exact Rem.here _ _ | apply Rem.there)), ?_⟩
      refine RD_l 10 rfl (Yl_assign rfl) ?_
      refine RD_done (by kernel_rfl) ?_
      first
       | (have hk0 : k = 0 := (by omega); rw [if_pos hk0]; exact QW_cut (pp1, v) ⟨fun _ h => h, hv⟩ (by repeat (first | exact Prm.nil _ | exact Rem.here _ _ | apply Rem.there | apply Prm.cons)) (.cons rfl (.cons rfl (.cons rfl (.cons rfl (.cons rfl .nil))))))
       | (have hk0 : ¬ k = 0 := (by omega); rw [if_neg hk0, strs_snoc] at *; exact QW_cut ((g39, blk (strs (p ++ [nmOf ns k]) ++ r39) 9) :: pp1, .slice (some ⟨g39, 0, none⟩) (p ++ [nmOf ns k]).length c39) ⟨fun x hx => List.Mem.tail _ hx, .inr ⟨g39, c39, r39, by simp, rfl, List.Mem.head _⟩⟩ (by simp only [List.cons_append]; repeat (first | exact Prm.nil _ | exact Rem.here _ _ | apply Rem.there | apply Prm.cons)) (.cons rfl (.cons rfl (.cons rfl (.cons rfl (.cons (by rw [List.length_append]; rfl) .nil))))))
    ·replace hc2 := of_decide_eq_false hc2
     refine CW_skip ?_
     first
      | (have hk0 : k = 0 := (by omega); rw [if_pos hk0]; exact QW_cut (pp1, v) ⟨fun _ h => h, hv⟩ (by repeat (first | exact Prm.nil _ | exact Rem.here _ _ | apply Rem.there | apply Prm.cons)) (.cons rfl (.cons rfl (.cons rfl (.cons rfl (.cons rfl .nil))))))
      | (have hk0 : ¬ k = 0 := (by omega); rw [if_neg hk0, strs_snoc] at *; exact QW_cut ((g39, blk (strs (p ++ [nmOf ns k]) ++ r39) 9) :: pp1, .slice (some ⟨g39, 0, none⟩) (p ++ [nmOf ns k]).length c39) ⟨fun x hx => List.Mem.tail _ hx, .inr ⟨g39, c39, r39, by simp, rfl, List.Mem.head _⟩⟩ (by simp only [List.cons_append]; repeat (first | exact Prm.nil _ | exact Rem.here _ _ | apply Rem.there | apply Prm.cons)) (.cons rfl (.cons rfl (.cons rfl (.cons rfl (.cons (by rw [List.length_append]; rfl) .nil))))))
   ·rintro ⟨pp2, v2⟩ ⟨hs2, hv2⟩
    simp only at hs2 hv2 ⊢
    refine CW_seq ?_
    have hdl2 : d2.length = done.length + a.length + 1 := by rw [← e2, hdl]
    have hih := ihc d2 vs2 go2 co2 gp2 cp2 ro2 rp2 pp2 v2 hv2 (hvs2.more hs2) hro2 hrp2 (by omega) (by split <;> (try simp only [List.length_append, List.length_singleton]) <;> omega)
    refine CW_draw [7] _ mixed (Sub.refl _) ?_
    refine RD_l 2 rfl (Yl_move rfl) ?_
    refine RD_l 6 rfl (Yl_move rfl) ?_
    refine RD_h (i := 0) #[false, true, true, true, true, true, true, false] rfl rfl rfl rfl (by kernel_rfl) (fun _ _ _ h => h) (Yh_ld (v := .func (.func 30) #[] #[pv bF, pv bn, pv bo, pv bp]) sc_77) ?_
    refine RD_h (i := 1) #[true, false, true, false, false, false, true, false] rfl rfl rfl rfl (by kernel_rfl) (fun _ _ _ h => h) (Yh_ld (v := .slice (some ⟨g, 0, none⟩) ns.length cap) sc_25) ?_
    refine RD_l 3 rfl (Yl_indexN (b := g) (off := 0) (i := k) (o' := k * 28) rfl rfl sl_25 hk (by omega)) ?_
    refine RD_l 4 rfl (Yl_field rfl fo_43_5) ?_
    refine RD_h (i := 5) #[true, true, true, true, true, false, true, false] rfl rfl rfl rfl (by kernel_rfl) (fun _ _ _ h => h) (Yh_lh (v := iv (chdF ns k)) sc_3 (at_child hk rfl)) ?_
    refine RD_one (i := 7) (by kernel_rfl) ?_
    refine RO_fx rfl rfl rfl rfl (Fx_callV ok_30 (fs := []) (cs := [pv bF, pv bn, pv bo, pv bp]) (vs := [iv (chdF ns k), v2]) rfl rfl (by exact (Pick.cons (by repeat (first | exact Rem.here _ _ | apply Rem.there)) (Pick.cons (by repeat (first | exact Rem.here _ _ | apply Rem.there)) (Pick.cons (by repeat (first | exact Rem.here _ _ | apply Rem.there)) (Pick.cons (by repeat (first | exact Rem.here _ _ | apply Rem.there)) (Pick.cons (by repeat (first | exact Rem.here _ _ | apply Rem.there)) (Pick.cons (by repeat (first | exact Rem.here _ _ | apply Rem.there)) (Pick.cons (by repeat (first | exact Rem.here _ _ | apply Rem.there)) (pick_app _ F))))))))) hih) ?_
    rintro _ _ ⟨_, ⟨rfl, vs4, go4, co4, gp4, cp4, ro4, rp4, pp4, hvs4, hro4, hrp4, hsub4, rfl⟩, rfl⟩
    simp only [List.cons_append]
    refine ⟨Or.inl (by kernel_rfl), ?_⟩
    refine (RD_done (by kernel_rfl) (QW_lv (ks := [0, 1, 2, 3]) ?_))
    obtain ⟨d3, hd3⟩ : ∃ d3, d3 = d2 ++ c := ⟨_, rfl⟩
    rw [← hd3] at hvs4 hro4
    rw [← hd3]
    clear hih
    have hdl3 : d3.length = d2.length + c.length := by rw [hd3]; simp
    have hih := ihb d3 vs4 go4 co4 gp4 cp4 ro4 rp4 pp4 v (hv.more fun x hx => hsub4 x (hs2 x hx)) hvs4 hro4 hrp4 (by omega) (by omega)
    have hfin : done ++ (a ++ (k, p) :: (c ++ b)) = d3 ++ b := by rw [hd3, hd2, hd1]; simp
    refine CW_draw [7] _ mixed (Sub.refl _) ?_
    refine RD_l 2 rfl (Yl_move rfl) ?_
    refine RD_l 6 rfl (Yl_move rfl) ?_
    refine RD_h (i := 0) #[false, true, true, true, true, true, true, false] rfl rfl rfl rfl (by kernel_rfl) (fun _ _ _ h => h) (Yh_ld (v := .func (.func 30) #[] #[pv bF, pv bn, pv bo, pv bp]) sc_77) ?_
    refine RD_h (i := 1) #[true, false, true, false, false, false, true, false] rfl rfl rfl rfl (by kernel_rfl) (fun _ _ _ h => h) (Yh_ld (v := .slice (some ⟨g, 0, none⟩) ns.length cap) sc_25) ?_
    refine RD_l 3 rfl (Yl_indexN (b := g) (off := 0) (i := k) (o' := k * 28) rfl rfl sl_25 hk (by omega)) ?_
    refine RD_l 4 rfl (Yl_field rfl fo_43_4) ?_
    refine RD_h (i := 5) #[true, true, true, true, true, false, true, false] rfl rfl rfl rfl (by kernel_rfl) (fun _ _ _ h => h) (Yh_lh (v := iv (rtF ns k)) sc_3 (at_right hk rfl)) ?_
    refine RD_one (i := 7) (by kernel_rfl) ?_
    refine RO_fx rfl rfl rfl rfl (Fx_callV ok_30 (fs := []) (cs := [pv bF, pv bn, pv bo, pv bp]) (vs := [iv (rtF ns k), v]) rfl rfl (by exact (Pick.cons (by repeat (first | exact Rem.here _ _ | apply Rem.there)) (Pick.cons (by repeat (first | exact Rem.here _ _ | apply Rem.there)) (Pick.cons (by repeat (first | exact Rem.here _ _ | apply Rem.there)) (Pick.cons (by repeat (first | exact Rem.here _ _ | apply Rem.there)) (Pick.cons (by repeat (first | exact Rem.here _ _ | apply Rem.there)) (Pick.cons (by repeat (first | exact Rem.here _ _ | apply Rem.there)) (Pick.cons (by repeat (first | exact Rem.here _ _ | apply Rem.there)) (pick_app _ F))))))))) hih) ?_
    rintro _ _ ⟨_, ⟨rfl, vs5, go5, co5, gp5, cp5, ro5, rp5, pp5, hvs5, hro5, hrp5, hsub5, rfl⟩, rfl⟩
    simp only [List.cons_append]
    refine ⟨Or.inl (by kernel_rfl), ?_⟩
    refine RD_done (by kernel_rfl) ?_
    refine QW_end0 rfl ((bF, blk [.func (.func 30) #[] #[pv bF, pv bn, pv bo, pv bp]] 77) :: (bn, blk [.slice (some ⟨g, 0, none⟩) ns.length cap] 25) :: (g, blk (nms ns ++ rn) 43) :: (bo, blk [.slice (some ⟨go5, 0, none⟩) (d3 ++ b).length co5] 29) :: (go5, blk (nats ((d3 ++ b).map Prod.fst) ++ ro5) 3) :: (bp, blk [.slice (some ⟨gp5, 0, none⟩) (d3 ++ b).length cp5] 30) :: (gp5, blk (vs5 ++ rp5) 36) :: pp5) ⟨rfl, vs5, go5, co5, gp5, cp5, ro5, rp5, pp5, ?_, ?_, hrp5, fun x hx => hsub5 x (hsub4 x (hs2 x (hsub1 x hx))), ?_⟩ (Prm.nil _)
    ·rw [hfin]; exact hvs5
    ·rw [hfin]; exact hro5
    ·rw [hfin]
theorem order_any (ns : List Nm) (g cap bF bn bo bp : Nat) (rn : List Value) (hk2 : ns.length ≤ 1000) {t : Int} {p : List (List UInt8)} {o : List (Nat × List (List UInt8))} (h : OT (lfF ns) (rtF ns) (chdF ns) (nmOf ns) t p o) : (∀ k ∈ o.map Prod.fst, k < ns.length) → OCt ns g cap bF bn bo bp rn t p o := by
 induction h with
 | nil => intro _; exact order_nil ns g cap bF bn bo bp rn _
 | node ha hc hb iha ihc ihb =>
  intro hk
  simp only [List.map_append, List.map_cons, List.mem_append, List.mem_cons] at hk
  exact order_step ns g cap bF bn bo bp rn _ (hk _ (.inr (.inl rfl))) hk2 _ _ _ _ (iha fun x hx => hk x (.inl hx)) (ihc fun x hx => hk x (.inr (.inr (.inl hx)))) (ihb fun x hx => hk x (.inr (.inr (.inr hx))))

/-! Walks: Order, whole. -/
theorem Order_ct (ns : List Nm) (g cap : Nat) (rn : List Value) (o : List (Nat × List (List UInt8))) (hk2 : ns.length ≤ 1000) (hol : o.length ≤ 1000) (ho : OT (lfF ns) (rtF ns) (chdF ns) (nmOf ns) ((0 : Nat) : Int) [] o) (hk : ∀ k ∈ o.map Prod.fst, k < ns.length) :
  Ct Tryd.prog 17 [.slice (some ⟨g, 0, none⟩) ns.length cap] [(g, blk (nms ns ++ rn) 43)] (fun v q => ∃ vs go co ro gp cp rp pp, v = .tuple #[.slice (some ⟨go, 0, none⟩) o.length co, .slice (some ⟨gp, 0, none⟩) o.length cp] ∧ VsOk pp vs (o.map Prod.snd) ∧ (nats (o.map Prod.fst) ++ ro).length = co ∧ (vs ++ rp).length = cp ∧ q = (g, blk (nms ns ++ rn) 43) :: (go, blk (nats (o.map Prod.fst) ++ ro) 3) :: (gp, blk (vs ++ rp) 36) :: pp) := by
 refine Ct_of Tryd.func17 rfl Tryd.ntmps17 rfl ?_
 intro E F
 simp only [numL, List.nil_append, List.cons_append]
 refine CW_sr ?_
 refine RW_fx rfl rfl rfl (Fx_box (zs := [.slice (some ⟨g, 0, none⟩) ns.length cap]) rfl rfl) ?_
 rintro _ _ ⟨bn, rfl, rfl⟩
 refine RW_a ?_
 refine RW_a ?_
 refine RW_lv (ks := [1]) ?_
 refine CW_sr ?_
 refine RW_fx rfl rfl rfl (Fx_buildSlice0 sl_29) ?_
 rintro _ _ ⟨go, rfl, rfl⟩
 refine RW_fx rfl rfl rfl (Fx_buildSlice0 sl_30) ?_
 rintro _ _ ⟨gp, rfl, rfl⟩
 refine RW_fx rfl rfl rfl (Fx_alloc (zs := [.slice none 0 0]) ze_29 rfl) ?_
 rintro _ _ ⟨bo, rfl, rfl⟩
 refine RW_fx rfl rfl rfl (Fx_alloc (zs := [.slice none 0 0]) ze_30 rfl) ?_
 rintro _ _ ⟨bp, rfl, rfl⟩
 refine RW_fx0 rfl rfl (Fx_store (v := .slice (some ⟨go, 0, none⟩) 0 0) (b := bo) (off := 0) rfl rfl sz_29 rfl (by repeat (first | exact Rep.here _ _ _ | apply Rep.there)) (by simp)) ?_
 rintro _ _ rfl
 refine RW_fx0 rfl rfl (Fx_store (v := .slice (some ⟨gp, 0, none⟩) 0 0) (b := bp) (off := 0) rfl rfl sz_30 rfl (by repeat (first | exact Rep.here _ _ _ | apply Rep.there)) (by simp)) ?_
 rintro _ _ rfl
 refine RW_lv (ks := [1, 4, 5]) ?_
 refine CW_sr ?_
 refine RW_fx rfl rfl rfl (Fx_alloc (zs := [.nilFunc]) ze_77 rfl) ?_
 rintro _ _ ⟨bF, rfl, rfl⟩
 refine RW_lv (ks := [1, 4, 5, 6]) ?_
 refine CW_sr ?_
 refine RW_l (Yl_makeFunc (us := []) (vs := [pv bF, pv bn, pv bo, pv bp]) rfl rfl) ?_
 refine RW_fx0 rfl rfl (Fx_store (v := .func (.func 30) #[] #[pv bF, pv bn, pv bo, pv bp]) (b := bF) (off := 0) rfl rfl sz_77 rfl (by repeat (first | exact Rep.here _ _ _ | apply Rep.there)) (by simp)) ?_
 rintro _ _ rfl
 refine RW_lv (ks := [4, 5, 6]) ?_
 refine CW_seq ?_
 have hih := order_any ns g cap bF bn bo bp rn hk2 ho hk [] [] go 0 gp 0 [] [] [] (.slice none 0 0) (.inl ⟨rfl, rfl⟩) (VsOk.nil _) rfl rfl (by simp; omega) (by simp; omega)
 refine CW_region ?_
 refine RW_h (Yh_ld (v := .func (.func 30) #[] #[pv bF, pv bn, pv bo, pv bp]) sc_77) ?_
 refine RW_fx rfl rfl rfl (Fx_callV ok_30 (fs := []) (cs := [pv bF, pv bn, pv bo, pv bp]) (vs := [iv ((0 : Nat) : Int), .slice none 0 0]) rfl rfl (by exact (Pick.cons (by repeat (first | exact Rem.here _ _ | apply Rem.there)) (Pick.cons (by repeat (first | exact Rem.here _ _ | apply Rem.there)) (Pick.cons (by repeat (first | exact Rem.here _ _ | apply Rem.there)) (Pick.cons (by repeat (first | exact Rem.here _ _ | apply Rem.there)) (Pick.cons (by repeat (first | exact Rem.here _ _ | apply Rem.there)) (Pick.cons (by repeat (first | exact Rem.here _ _ | apply Rem.there)) (Pick.cons (by repeat (first | exact Rem.here _ _ | apply Rem.there)) (pick_app [] F))))))))) hih) ?_
 rintro _ _ ⟨_, ⟨rfl, vs1, go1, co1, gp1, cp1, ro1, rp1, pp1, hvs1, hro1, hrp1, hsub1, rfl⟩, rfl⟩
 simp only [List.cons_append, List.nil_append]
 rw [List.nil_append] at hvs1 hro1
 refine RW_lv (ks := [4, 5]) ?_
 refine CW_seq ?_
 refine CW_draw [] _ mixed (Sub.refl _) ?_
 refine RD_h (i := 0) #[false, true, false, false] rfl rfl rfl rfl (by kernel_rfl) (fun _ _ _ h => h) (Yh_ld (v := .slice (some ⟨go1, 0, none⟩) o.length co1) sc_29) ?_
 refine RD_l 2 rfl (Yl_assign rfl) ?_
 refine RD_h (i := 1) #[true, false, true, false] rfl rfl rfl rfl (by kernel_rfl) (fun _ _ _ h => h) (Yh_ld (v := .slice (some ⟨gp1, 0, none⟩) o.length cp1) sc_30) ?_
 refine RD_l 3 rfl (Yl_assign rfl) ?_
 refine (RD_done (by kernel_rfl) (QW_lv (ks := [2, 3]) ?_))
 refine CW_ret ?_
 refine QW_sub (H' := (g, blk (nms ns ++ rn) 43) :: (go1, blk (nats (o.map Prod.fst) ++ ro1) 3) :: (gp1, blk (vs1 ++ rp1) 36) :: (pp1 ++ F)) ?_ ?_
 ·exact .cons _ (.cons _ (.cons_cons _ (.cons _ (.cons_cons _ (.cons _ (.cons_cons _ (.refl _)))))))
 ·exact QW_ret2 rfl rfl rfl ((g, blk (nms ns ++ rn) 43) :: (go1, blk (nats (o.map Prod.fst) ++ ro1) 3) :: (gp1, blk (vs1 ++ rp1) 36) :: pp1) ⟨vs1, go1, co1, ro1, gp1, cp1, rp1, pp1, rfl, hvs1, hro1, hrp1, rfl⟩ (Prm.nil _)

/-! Values: what a file of linked nodes tells. -/
theorem STree.links {L R : Nat → Int} {pl : List Nat} {t : Int} (h : STree L R pl t) : ∀ k ∈ pl, (L k = -1 ∨ ∃ j ∈ pl, L k = (j : Int)) ∧ (R k = -1 ∨ ∃ j ∈ pl, R k = (j : Int)) := by
  induction h with
  | nil => intro k hk; cases hk
  | node ha hb iha ihb =>
    rename_i a b m
    intro k hk
    have up : ∀ {q : List Nat} {z : Int}, (∀ x ∈ q, x ∈ a ++ m :: b) → (z = -1 ∨ ∃ j ∈ q, z = (j : Int)) → (z = -1 ∨ ∃ j ∈ a ++ m :: b, z = (j : Int)) := fun hs h => h.imp id fun ⟨j, h1, h2⟩ => ⟨j, hs j h1, h2⟩
    have sa : ∀ x ∈ a, x ∈ a ++ m :: b := fun x hx => List.mem_append_left _ hx
    have sb : ∀ x ∈ b, x ∈ a ++ m :: b := fun x hx => List.mem_append_right _ (List.mem_cons_of_mem _ hx)
    have top : ∀ {q : List Nat} {z : Int}, STree L R q z → (z = -1 ∨ ∃ j ∈ q, z = (j : Int)) := fun h => h.top.imp (fun h => h.2) id
    rcases List.mem_append.1 hk with hk | hk
    · exact ⟨up sa (iha k hk).1, up sa (iha k hk).2⟩
    · rcases List.mem_cons.1 hk with rfl | hk
      · exact ⟨up sa (top ha), up sb (top hb)⟩
      · exact ⟨up sb (ihb k hk).1, up sb (ihb k hk).2⟩
section
variable {ns : List Nm}
theorem Lnk.bound {ls : Nat → List Nat} {par : Nat → Nat} (h : Lnk ns ls par) {k : Nat} (hk : k < ns.length) (hn : ns.length ≤ 100000) : (-1 ≤ lfF ns k ∧ lfF ns k ≤ 100000) ∧ (-1 ≤ rtF ns k ∧ rtF ns k ≤ 100000) ∧ (-1 ≤ chdF ns k ∧ chdF ns k ≤ 100000) := by
  have b : ∀ {q : Nat} {z : Int}, (z = -1 ∨ ∃ j ∈ ls q, z = (j : Int)) → -1 ≤ z ∧ z ≤ 100000 := by
    intro q z hz
    rcases hz with hz | ⟨j, hj, hz⟩
    · omega
    · have := (h.pl.mem q j).1 hj; omega
  have hc : chdF ns k = -1 ∨ ∃ j ∈ ls k, chdF ns k = (j : Int) := (h.tree k hk).top.imp (fun h => h.2) id
  rcases Nat.eq_zero_or_pos k with h0 | h0
  · subst h0
    have := h.root
    exact ⟨by omega, by omega, b hc⟩
  · have hl := h.pl.lt k h0 hk
    have hm : k ∈ ls (par k) := (h.pl.mem _ k).2 ⟨h0, hk, rfl⟩
    have h1 := STree.links (h.tree (par k) (by omega)) k hm
    exact ⟨b h1.1, b h1.2, b hc⟩
theorem root_ok {l r c : Int} (hl : -1 ≤ l ∧ l ≤ 100000) (hr : -1 ≤ r ∧ r ≤ 100000) (hc : -1 ≤ c ∧ c ≤ 100000) : (rootNm.turn l r c).ok :=
  ⟨fun _ => rfl, by simp [rootNm, mkNm, Nm.turn], by simp [rootNm, mkNm, Nm.turn], by simp [rootNm, mkNm, Nm.turn], hl, hr, hc, by simp [rootNm, mkNm, Nm.turn], by simp [rootNm, mkNm, Nm.turn]⟩
theorem NodesOk.ok_at (h : NodesOk ns) {k : Nat} (hk : k < ns.length) : (ns.getD k default).ok := by
  obtain ⟨ls, par, hL⟩ := h.lnk
  have hn := h.len
  have hb := hL.bound hk (by omega)
  unfold lfF rtF chdF at hb
  rcases Nat.eq_zero_or_pos k with h0 | h0
  · subst h0
    obtain ⟨c, e⟩ := h.root
    rw [e] at hb ⊢
    exact root_ok (by omega) (by omega) hb.2.2
  · obtain ⟨y, l, r, c, hy, e⟩ := h.made k h0 hk
    rw [e] at hb ⊢
    exact (hy.nd.turn hb.1 hb.2.1 hb.2.2).ok
theorem NodesOk.ok (h : NodesOk ns) : ∀ x ∈ ns, x.ok := by
  intro x hx
  obtain ⟨k, hk, rfl⟩ := List.mem_iff_getElem.1 hx
  have := h.ok_at hk
  rwa [List.getD_eq_getElem?_getD, List.getElem?_eq_getElem hk] at this
theorem NodesOk.xs (h : NodesOk ns) : Ok (ns.map Nm.nd) := by
  refine ⟨by simp; exact h.len, ?_⟩
  intro x hx
  obtain ⟨y, hy, rfl⟩ := List.mem_map.1 hx
  exact (h.ok y hy).small
theorem NodesOk.lnks (h : NodesOk ns) : ∀ x ∈ ns.map Nm.nd, x.left ≤ 4294967295 ∧ x.right ≤ 4294967295 ∧ x.child ≤ 4294967295 := by
  intro x hx
  obtain ⟨y, hy, rfl⟩ := List.mem_map.1 hx
  have := h.ok y hy
  have h1 := this.left
  have h2 := this.right
  have h3 := this.child
  omega
theorem NodesOk.name (h : NodesOk ns) {k : Nat} (hk : k < ns.length) : 1 ≤ (nmOf ns k).length ∧ (nmOf ns k).length ≤ 31 ∧ (∀ c ∈ nmOf ns k, c.toNat < 128) ∧ (65 ≤ ((nmOf ns k).getD 0 0).toNat ∧ ((nmOf ns k).getD 0 0).toNat ≤ 90) := by
  unfold nmOf
  rcases Nat.eq_zero_or_pos k with h0 | h0
  · subst h0
    obtain ⟨c, e⟩ := h.root
    rw [e]
    show 1 ≤ ([82, 111, 111, 116, 32, 69, 110, 116, 114, 121] : List UInt8).length ∧ ([82, 111, 111, 116, 32, 69, 110, 116, 114, 121] : List UInt8).length ≤ 31 ∧ (∀ c ∈ ([82, 111, 111, 116, 32, 69, 110, 116, 114, 121] : List UInt8), c.toNat < 128) ∧ (65 ≤ (([82, 111, 111, 116, 32, 69, 110, 116, 114, 121] : List UInt8).getD 0 0).toNat ∧ (([82, 111, 111, 116, 32, 69, 110, 116, 114, 121] : List UInt8).getD 0 0).toNat ≤ 90)
    exact ⟨by decide, by decide, by decide, by decide, by decide⟩
  · obtain ⟨y, l, r, c, hy, e⟩ := h.made k h0 hk
    rw [e]
    show 1 ≤ y.nd.name.length ∧ _ ∧ (∀ c ∈ y.nd.name, _) ∧ (65 ≤ (y.nd.name.getD 0 0).toNat ∧ (y.nd.name.getD 0 0).toNat ≤ 90)
    have h1 := hy.nd.nm
    have h2 := hy.nd.cap
    refine ⟨by omega, by show y.nd.name.length ≤ 31; omega, fun c hc => by have := h2 c hc; omega, ?_⟩
    refine h2 _ ?_
    rw [List.getD_eq_getElem?_getD, List.getElem?_eq_getElem (by omega)]
    exact List.getElem_mem _
theorem NodesOk.names {ps : List Value} (hp : PsOk ps) (h : NodesOk ns) : ∀ k, k < (ns.map Nm.nd).length → NmOk ps ((ns.map Nm.nd).getD k default) (nmOf ns k) := by
  intro k hk
  have hk' : k < ns.length := by simpa using hk
  obtain ⟨h1, h2, h3, h4⟩ := h.name hk'
  have e : (ns.map Nm.nd).getD k default = (ns.getD k default).nd := nd_at ns k hk'
  rw [e]
  exact nmOk_cap (x := (ns.getD k default).nd) hp h1 h2 h3 h4
theorem NodesOk.data (h : NodesOk ns) {k : Nat} (hk : k < ns.length) (hs : (ns.getD k default).nd.stream = false) : (ns.getD k default).nd.data = [] := by
  rcases Nat.eq_zero_or_pos k with h0 | h0
  · subst h0
    obtain ⟨c, e⟩ := h.root
    rw [e]; rfl
  · obtain ⟨y, l, r, c, hy, e⟩ := h.made k h0 hk
    rw [e] at hs ⊢
    exact hy.data hs
/-- How a node leads on, read back. -/
theorem NodesOk.tn (h : NodesOk ns) (v : Nat) {k : Nat} (hk : k < ns.length) : k < (tnsF v (ns.map Nm.nd) (nmOf ns)).length ∧ (tnsF v (ns.map Nm.nd) (nmOf ns)).getD k default = ⟨nmOf ns k, lnkF (lfF ns k), lnkF (chdF ns k), lnkF (rtF ns k)⟩ := by
  have hc := cnt_le (v := v) h.xs
  have hl : (ns.map Nm.nd).length = ns.length := by simp
  refine ⟨by rw [tns_len]; omega, ?_⟩
  rw [show (tnsF v (ns.map Nm.nd) (nmOf ns)).getD k default = tnF (ns.map Nm.nd) (nmOf ns) k from range_getD _ (by omega)]
  unfold tnF
  rw [if_pos (by omega), nd_at ns k hk]
  rfl
/-- The entries are gone through in the nodes' order. -/
theorem NodesOk.travs (h : NodesOk ns) (v : Nat) : ∃ o, OT (lfF ns) (rtF ns) (chdF ns) (nmOf ns) ((0 : Nat) : Int) [] o ∧ (∀ k, k ∈ o.map Prod.fst ↔ k < ns.length) ∧ (o.map Prod.fst).Nodup ∧ o.length ≤ ns.length ∧
    (STv (tnsF v (ns.map Nm.nd) (nmOf ns))).bad = false ∧ (STv (tnsF v (ns.map Nm.nd) (nmOf ns))).out = o.map Prod.fst ∧ ∀ x ∈ o, (STv (tnsF v (ns.map Nm.nd) (nmOf ns))).pth x.1 = x.2 := by
  obtain ⟨ls, par, hL⟩ := h.lnk
  obtain ⟨o, h1, h2, h3, h4⟩ := hL.order h.len.1 (nmOf ns)
  have hc := cnt_le (v := v) h.xs
  have hl : (ns.map Nm.nd).length = ns.length := by simp
  have ht := tns_len v (ns.map Nm.nd) (nmOf ns)
  obtain ⟨s', e, b, _, ou, _, pt⟩ := trav_ot (es := tnsF v (ns.map Nm.nd) (nmOf ns)) (by rw [ht]; omega) h1 ((tnsF v (ns.map Nm.nd) (nmOf ns)).length + 1) S0 rfl (by rw [ht]; show 0 + _ ≤ _; omega) (by rw [ht]; omega) (fun k hk => h.tn v ((h3 k).1 hk)) h2
  have e0 : s' = STv (tnsF v (ns.map Nm.nd) (nmOf ns)) := by
    rw [e]
    show (if lnkF ((0 : Nat) : Int) = 4294967295 then _ else Cfb.trav _ _ (lnkF ((0 : Nat) : Int)) _ _) = _
    rw [lnkF_nat, if_neg (by omega)]
  rw [e0] at b ou pt
  exact ⟨o, h1, h3, h2, h4, b, by rw [ou]; rfl, pt⟩
end
theorem RowsOk.get {fs : List Fil} {pth : Nat → List (List UInt8)} {pp : Heap} {o : List Nat} {rows : List (List Value)} (h : RowsOk fs pth pp o rows) : ∀ i, i < o.length → ∃ f v, fs[o.getD i 0]? = some f ∧ DcOk f.en ∧ PathC pp v (pth (o.getD i 0)) ∧ rows.getD i [] = entC f.en v := by
  induction h with
  | nil => intro i hi; simp at hi
  | snoc h hf hd hp ih =>
    rename_i o rows k f v
    intro i hi
    have hl := h.len.2
    rw [List.length_append, List.length_singleton] at hi
    by_cases e : i = o.length
    · subst e
      refine ⟨f, v, ?_, hd, ?_, ?_⟩
      · simpa [List.getD_eq_getElem?_getD] using hf
      · simpa [List.getD_eq_getElem?_getD] using hp
      · rw [List.getD_eq_getElem?_getD, List.getElem?_append_right (by omega), hl]; simp
    · obtain ⟨f2, v2, h1, h2, h3, h4⟩ := ih i (by omega)
      have e1 : (o ++ [k]).getD i 0 = o.getD i 0 := by rw [List.getD_eq_getElem?_getD, List.getElem?_append_left (by omega), ← List.getD_eq_getElem?_getD]
      have e2 : (rows ++ [entC f.en v]).getD i [] = rows.getD i [] := by rw [List.getD_eq_getElem?_getD, List.getElem?_append_left (by omega), ← List.getD_eq_getElem?_getD]
      rw [e1, e2]
      exact ⟨f2, v2, h1, h2, h3, h4⟩

/-! Values: rows of what is told; arrays that are the same. -/
section
variable {E : World} {L : Fra} {H : Heap} {dst : Option Tmp} {ty : TypeId} {pos : String} {aft : Array Edge} {gd : Option (Nat × Bool)}
theorem Yh_loadE {P : Program} {x : Operand} {t T : TypeId} {b off k : Nat} {l cs : List Value} {fz : Nat × Nat} (hx : ev L x = some (.pointer (some ⟨b, off, none⟩))) (ht : agOf P t = some k)
    (hm : (b, Obj.cells l.toArray T fz) ∈ H) (hv : off + k ≤ l.length) (hc : (l.drop off).take k = cs) : Yh P E L H ⟨dst, .load t x, ty, pos, aft, gd⟩ (.agg cs.toArray) := by
  subst hc
  exact Yh_loadA hx ht hm hv
end
theorem PathC.slice {pp : Heap} {v : Value} {p : List (List UInt8)} (h : PathC pp v p) : ∃ q c, v = .slice q p.length c := by
  rcases h with ⟨rfl, rfl⟩ | ⟨b, cap, r, _, rfl, _⟩
  · exact ⟨_, _, rfl⟩
  · exact ⟨_, _, rfl⟩
theorem PathC.some {pp : Heap} {v : Value} {p : List (List UInt8)} (h : PathC pp v p) (hp : 0 < p.length) : ∃ b cap r, v = .slice (some ⟨b, 0, none⟩) p.length cap ∧ (b, blk (strs p ++ r) 9) ∈ pp := by
  rcases h with ⟨rfl, rfl⟩ | ⟨b, cap, r, _, rfl, hm⟩
  · simp at hp
  · exact ⟨b, cap, r, rfl, hm⟩
def szN (ns : List Nm) (k : Nat) : Nat := szOfN (ns.map Nm.nd) k
theorem NodesOk.size {ns : List Nm} (h : NodesOk ns) {k : Nat} (hk : k < ns.length) (h0 : k ≠ 0) : szN ns k = (ns.getD k default).nd.data.length := by
  have e : (ns.map Nm.nd).getD k default = (ns.getD k default).nd := nd_at ns k hk
  unfold szN szOfN kdF lnF
  rw [if_neg h0, if_neg h0, e]
  by_cases hs : (ns.getD k default).nd.stream = true
  · rw [if_pos hs, if_pos (show UInt8.toNat 2 = 2 from rfl), if_pos hs]
  · rw [if_neg hs, if_neg (by decide), h.data hk (by simpa using hs)]; rfl

/-! Values: a text's first sign; kinds of nodes. -/
theorem fst_at {o : List (Nat × List (List UInt8))} {r : List Value} {i k : Nat} (h : i < o.length) (hk : (o.getD i default).1 = k) : (nats (o.map Prod.fst) ++ r)[i]? = some (nv k) := by
  rw [List.getElem?_append_left (by simpa using h), ← hk]; simp [List.getD_eq_getElem?_getD, h]

/-! Values: comparisons of which one knows what they give. -/
section
variable {P : Program} {L : Fra} {dst : Option Tmp} {ty : TypeId} {pos : String} {aft : Array Edge} {gd : Option (Nat × Bool)} {x y : Operand} {k : IntKind} {m n : Int} {t u : TypeId}
theorem Yl_lssB (b : Bool) (hx : ev L x = some (.int k m)) (hy : ev L y = some (.int k n)) (h : decide (m < n) = b) : Yl P L ⟨dst, .binOp .lss t x y u, ty, pos, aft, gd⟩ (.bool b) := by
  rw [← h]; exact Yl_lss hx hy
theorem Yl_gtrB (b : Bool) (hx : ev L x = some (.int k m)) (hy : ev L y = some (.int k n)) (h : decide (m > n) = b) : Yl P L ⟨dst, .binOp .gtr t x y u, ty, pos, aft, gd⟩ (.bool b) := by
  rw [← h]; exact Yl_gtr hx hy
theorem Yl_geqB (b : Bool) (hx : ev L x = some (.int k m)) (hy : ev L y = some (.int k n)) (h : decide (m ≥ n) = b) : Yl P L ⟨dst, .binOp .geq t x y u, ty, pos, aft, gd⟩ (.bool b) := by
  rw [← h]; exact Yl_geq hx hy
theorem Yl_eqlB (b : Bool) (hx : ev L x = some (.int k m)) (hy : ev L y = some (.int k n)) (h : decide (m = n) = b) : Yl P L ⟨dst, .binOp .eql t x y u, ty, pos, aft, gd⟩ (.bool b) := by
  rw [← h]; exact Yl_eql hx hy
theorem Yl_neqB (b : Bool) (hx : ev L x = some (.int k m)) (hy : ev L y = some (.int k n)) (h : decide (m ≠ n) = b) : Yl P L ⟨dst, .binOp .neq t x y u, ty, pos, aft, gd⟩ (.bool b) := by
  rw [← h]; exact Yl_neq hx hy
end

/-! Walks: a read of nothing. -/
theorem code_other (U : TypeId) (u : Value) (hU : Nat.beq U 123 = false) : Ct Tryd.prog 40 [.iface U u] [] (fun v q => v = nv 6 ∧ q = []) := by
 refine Ct_of Tryd.func40 rfl Tryd.ntmps40 rfl ?_
 intro E F
 simp only [numL, List.nil_append, List.cons_append]
 refine CW_sr ?_
 refine RW_a ?_
 refine RW_lv (ks := [0]) ?_
 refine CW_seq ?_
 refine CW_sr ?_
 refine RW_m ?_
 refine RW_l (Yl_ifEq rfl if_105) ?_
 refine RW_lv (ks := [0, 6]) ?_
 refine CW_cond rfl (fun hc1 => ?_) (fun hc1 => ?_)
 ·skip
  exact Bool.noConfusion hc1
 ·skip
  refine (CW_skip (QW_lv (ks := [0]) ?_))
  refine CW_seq ?_
  refine CW_sr ?_
  refine RW_m ?_
  refine RW_l (Yl_assertNot rfl co_123 hU ze_123) ?_
  refine RW_m ?_
  refine RW_l (Yl_extract (v := .agg zs_123.toArray) rfl rfl) ?_
  refine RW_l (Yl_extract (v := .bool false) rfl rfl) ?_
  refine RW_fx rfl rfl rfl (Fx_alloc (zs := zs_123) ze_123 rfl) ?_
  rintro _ _ ⟨b3, rfl, rfl⟩
  refine RW_fx0 rfl rfl (Fx_storeA (b := b3) (off := 0) (l := zs_123) (T := 123) (cs := zs_123) rfl rfl sz_123 (by intro u hu; exact List.all_eq_true.1 (show (zs_123.all Value.oneCell') = true from rfl) u hu) (by repeat (first | exact Rep.here _ _ _ | apply Rep.there)) (Nat.le_refl 3)) ?_
  rintro _ _ rfl
  refine RW_a ?_
  refine RW_lv (ks := [3, 4]) ?_
  refine CW_sr ?_
  refine RW_m ?_
  refine RW_lv (ks := [3, 12]) ?_
  refine CW_false rfl ?_
  refine (CW_skip (QW_lv (ks := []) ?_))
  refine CW_sr ?_
  refine RW_a ?_
  refine RW_lv (ks := [2]) ?_
  refine CW_ret ?_
  first
   | (refine QW_dropB (e := (b3, _)) (by repeat (first | exact Rem.here _ _ | apply Rem.there)) ?_; exact QW_ret1 rfl rfl [] ⟨rfl, rfl⟩ (Prm.nil _))

/-! Values: steps that are done one behind the other. -/
/-- Parts of one size, one behind the other. -/
theorem chunk_at (s : Nat) : ∀ (rows : List (List Value)) (r : List Value) (k : Nat), (∀ x ∈ rows, x.length = s) → k < rows.length → ((rows.flatten ++ r).drop (k * s)).take s = rows.getD k [] := by
  intro rows
  induction rows with
  | nil => intro r k _ h; simp at h
  | cons x l ih =>
    intro r k hl h
    have hx := hl x (by simp)
    cases k with
    | zero =>
      simp only [List.flatten_cons, Nat.zero_mul, List.drop_zero, List.append_assoc, List.getD_cons_zero]
      rw [List.take_append_of_le_length (by omega), List.take_of_length_le (by omega)]
    | succ k =>
      have h1 := ih r k (fun y hy => hl y (by simp [hy])) (by simpa using h)
      simp only [List.flatten_cons, List.append_assoc, List.getD_cons_succ]
      rw [show (k + 1) * s = x.length + k * s by rw [hx, Nat.add_mul]; omega, List.drop_append]
      simp only [Nat.add_sub_cancel_left]
      rw [List.drop_of_length_le (by omega), List.nil_append]
      exact h1
theorem chunk_len (s : Nat) : ∀ (rows : List (List Value)), (∀ x ∈ rows, x.length = s) → rows.flatten.length = rows.length * s := by
  intro rows
  induction rows with
  | nil => intro _; simp
  | cons x l ih =>
    intro h
    rw [List.flatten_cons, List.length_append, h x (by simp), ih (fun y hy => h y (by simp [hy])), List.length_cons, Nat.add_mul]; omega
theorem rep_r {H H' : Heap} {x y : Nat × Obj} (G : Heap) (h : Rep H x y H') : Rep (G ++ H) x y (G ++ H') := by
  induction G with
  | nil => exact h
  | cons a G ih => exact .there a ih
theorem p_open (a b : Nat × Obj) (R E F : Heap) : (a :: (R ++ (b :: (E ++ F)))).Perm ((R ++ E) ++ (a :: b :: F)) := by
  have h1 : (b :: (E ++ F)).Perm (E ++ (b :: F)) := List.perm_middle.symm
  have h2 : (a :: (R ++ (b :: (E ++ F)))).Perm (a :: (R ++ (E ++ (b :: F)))) := (h1.append_left R).cons a
  refine h2.trans ?_
  rw [← List.append_assoc]
  exact List.perm_middle.symm
theorem p_app (x a b : Nat × Obj) (q O F : Heap) : (x :: (q ++ (a :: b :: (O ++ F)))).Perm (O ++ (x :: (q ++ (a :: b :: F)))) := by
  have h := perm_front (x :: (q ++ [a, b])) O F
  simpa only [List.cons_append, List.append_assoc, List.nil_append] using h
theorem p_back (g a b : Nat × Obj) (q F : Heap) : (g :: (q ++ (a :: b :: F))).Perm (q ++ (a :: b :: (g :: F))) := by
  have h := perm_front (q ++ [a, b]) [g] F
  have h2 := h.symm
  simpa only [List.cons_append, List.append_assoc, List.nil_append] using h2
/-- What is known of a reader that has just been opened. -/
structure ROk (R : Rdr) (ps : List Value) (T : TypeId) (B : List UInt8) (N ss : Nat) (es : List En) (tn : List Tn) (mi : Option (List Nat × List Nat)) : Prop where
  ok : ∃ er, R.Ok es (STv tn) mi er
  hB : R.B = B
  hN : R.N = N
  hss : R.ss = ss
  hps : R.ps = ps
  hT : R.T = T
  hcN : N ≤ R.cN
  hlen : (bys R.B ++ R.rB).length = R.cN
/-- What steps do: after j of them, the results rs, the blocks H. -/
structure Stp (R : Rdr) (i n : Nat) (sts : List (List Value)) (Inv : Nat → List (List Value) → List UInt8 → Heap → Prop) : Prop where
  mem : ∀ j rs B H, Inv j rs B H → (∃ wa, (R.br, blk (Rdr.cells { R with wa := wa }) 89) ∈ H) ∧ (R.bo, blk (outs R.bfs R.out ++ R.ro) 90) ∈ H ∧ (R.bs, blk [.slice (some ⟨R.bB, 0, none⟩) R.N R.cN] 103) ∈ H ∧ B.length = R.N ∧ (R.bB, blk (bys B ++ R.rB) 5) ∈ H
  step : ∀ j rs B H, Inv j rs B H → j < n → Ct Tryd.prog 37 [pv (R.bfs.getD (R.out.getD i 0) 0), .agg (sts.getD j []).toArray] H (fun v q => ∃ (r : List Value) (B2 : List UInt8), v = .tuple #[.agg r.toArray, .bool true] ∧ r.length = 3 ∧ (∀ u ∈ r, u.oneCell' = true) ∧ Inv (j + 1) (rs ++ [r]) B2 q)
structure SSt where
  j : Nat
  H : Heap
  B : List UInt8
  rs : List (List Value)
  g : Option Nat
  cap : Nat
  r : List Value

/-! Walks: Steps. -/
theorem outs_at (bfs : List Nat) (o : List Nat) (r : List Value) {i : Nat} (h : i < o.length) : (outs bfs o ++ r)[i]? = some (pv (bfs.getD (o.getD i 0) 0)) := by
 rw [List.getElem?_append_left (by simpa using h)]; simp [List.getD_eq_getElem?_getD, h]
theorem Steps_ct (gI cI : Nat) (rI : List Value) (N ss ver sh nd nf dl ml nm num_ : Nat) (B : List UInt8) (ps : List Value) (T : TypeId) (sns : List Nat) (es : List En) (tn : List Tn) (mi : Option (List Nat × List Nat)) (h : FileIn ps B N ss ver sh nd nf dl ml nm num_ sns es tn mi) (hN1 : N ≤ 131072) (hT0 : 2 ≠ gI) (hb : (STv tn).bad = false) (bst n cst : Nat) (sts : List (List Value)) (rst : List Value) (E0 : Heap) (i : Nat) (hsn : sts.length = n) (hn : n ≤ 100000) (hs5 : ∀ x ∈ sts, x.length = 5) (hs1 : ∀ x ∈ sts, ∀ u ∈ x, u.oneCell' = true) (hi : i < (STv tn).out.length) (hol0 : (STv tn).out.length ≤ 1000000)
  (Inv : Rdr → Nat → List (List Value) → List UInt8 → Heap → Prop) (hinv : ∀ R, ROk R ps T B N ss es tn mi → Inv R 0 [] B (R.H ++ E0)) (hstp : ∀ R, ROk R ps T B N ss es tn mi → Stp R i n sts (Inv R)) :
  Ct Tryd.prog 20 [.slice (some ⟨gI, 0, none⟩) N cI, nv i, .slice (some ⟨bst, 0, none⟩) n cst] ((gI, blk (bys B ++ rI) 5) :: (2, blk ps T) :: (bst, blk (sts.flatten ++ rst) 53) :: E0)
   (fun v q => ∃ (R : Rdr) (g : Option Nat) (cap : Nat) (r : List Value) (rs : List (List Value)) (b2 cap2 : Nat) (r2 : List Value) (B2 : List UInt8) (H : Heap), ROk R ps T B N ss es tn mi ∧ v = .tuple #[osl g n cap, .slice (some ⟨b2, 0, none⟩) N cap2, .bool true] ∧ Inv R n rs B2 H ∧ rs.length = n ∧ oOk g rs.flatten r n cap 3 ∧ B2.length = N ∧ (R.bB, blk (bys B2 ++ R.rB) 5) ∈ H ∧
    q = (b2, blk (bys B2 ++ r2) 5) :: (H ++ ((gI, blk (bys B ++ rI) 5) :: (bst, blk (sts.flatten ++ rst) 53) :: oH g (rs.flatten ++ r) 58))) := by
 have hop := opened_ct gI cI rI N ss ver sh nd nf dl ml nm num_ B ps T sns es tn mi h hN1 hT0
 refine Ct_of Tryd.func20 rfl Tryd.ntmps20 rfl ?_
 intro E F
 simp only [numL, List.nil_append, List.cons_append]
 refine CW_sr ?_
 refine RW_a ?_
 refine RW_a ?_
 refine RW_a ?_
 refine RW_lv (ks := [0, 1, 2]) ?_
 refine CW_sr ?_
 refine RW_m ?_
 refine RW_fx rfl rfl rfl (Fx_call ok_31 (vs := [.slice (some ⟨gI, 0, none⟩) N cI]) rfl (Pick.cons (.here _ _) (Pick.cons (.here _ _) (Pick.nil _))) hop) ?_
 rintro _ _ ⟨_, ⟨R, er, hok, hRB, hRN, hRs, hRp, hRT, hRc, hRr, hve, rfl⟩, rfl⟩
 rw [if_neg (by rw [hb]; decide), if_neg (by rw [hb]; decide)] at hve
 subst hve
 simp only [List.cons_append]
 refine RW_m ?_
 refine RW_l (Yl_extract (v := pv R.br) rfl rfl) ?_
 refine RW_l (Yl_extract (v := pv R.bs) rfl rfl) ?_
 refine RW_l (Yl_extract (v := nv 0) rfl rfl) ?_
 refine RW_a ?_
 refine RW_a ?_
 refine RW_a ?_
 refine RW_lv (ks := [1, 2, 9, 10, 11]) ?_
 refine CW_seq ?_
 refine CW_seq ?_
 have hro : ROk R ps T B N ss es tn mi := ⟨⟨er, hok⟩, hRB, hRN, hRs, hRp, hRT, hRc, hRr⟩
 have hol : R.out.length = (STv tn).out.length := by rw [hok.out]
 refine CW_heap (p_open _ _ _ _ _) ?_
 refine CW_region ?_
 refine RW_m ?_
 refine RW_l (Yl_neqB false rfl rfl (decide_eq_false (fun h => h rfl))) ?_
 refine RW_m ?_
 refine RW_gy rfl rfl rfl (Yl.h (Yl_move rfl)) ?_
 refine RW_gy rfl rfl rfl (Yl.h (Yl_lssB false rfl rfl (decide_eq_false (by omega)))) ?_
 refine RW_l (Yl_pick_f rfl rfl) ?_
 refine RW_m ?_
 refine RW_gy rfl rfl rfl (Yl.h (Yl_move rfl)) ?_
 refine RW_gy rfl rfl rfl (Yl.h (Yl_move rfl)) ?_
 refine RW_gy rfl rfl rfl (Yl.h (Yl_nilCheck rfl)) ?_
 refine RW_gy rfl rfl rfl (Yl.h (Yl_field rfl fo_89_4)) ?_
 refine RW_gy rfl rfl rfl (Yh_load (v := .slice (some ⟨R.bo, 0, none⟩) R.out.length R.capo) rfl sc_83 (by repeat (first | exact List.mem_append_left _ (List.mem_append_left _ (List.Mem.head _)) | apply List.Mem.tail)) rfl) ?_
 refine RW_gy rfl rfl rfl (Yl.h (Yl_len rfl sl_83)) ?_
 refine RW_gy rfl rfl rfl (Yl.h (Yl_geqB false rfl rfl (decide_eq_false (by omega)))) ?_
 refine RW_l (Yl_pick_f rfl rfl) ?_
 refine RW_lv (ks := [1, 2, 9, 10, 37]) ?_
 refine CW_false rfl ?_
 refine (CW_skip (QW_lv (ks := [1, 2, 9, 10]) ?_))
 refine CW_sr ?_
 refine RW_a ?_
 refine RW_lv (ks := [1, 2, 9, 10, 12]) ?_
 refine CW_seq ?_
 refine CW_sr ?_
 refine RW_m ?_
 refine RW_l (Yl_len rfl sl_51) ?_
 refine RW_m ?_
 refine RW_lv (ks := [1, 9, 10, 12, 38, 39, 40]) ?_
 refine CW_block ?_
 refine CW_loop (σ := SSt) (fun q => [(1, nv i), (9, pv R.br), (10, pv R.bs), (12, osl q.g q.j q.cap), (38, .slice (some ⟨bst, 0, none⟩) n cst), (39, nv n), (40, nv q.j)]) (fun q => q.H ++ ((gI, blk (bys B ++ rI) 5) :: (bst, blk (sts.flatten ++ rst) 53) :: (oH q.g (q.rs.flatten ++ q.r) 58 ++ F))) (fun q => q.j ≤ n ∧ Inv R q.j q.rs q.B q.H ∧ q.rs.length = q.j ∧ oOk q.g q.rs.flatten q.r q.j q.cap 3) (fun q => n - q.j) ⟨0, R.H ++ E0, B, [], none, 0, []⟩ ⟨by simp, hinv R hro, rfl, ⟨rfl, rfl⟩⟩ (Prm.nil _) (.cons rfl (.cons rfl (.cons rfl (.cons rfl (.cons rfl (.cons rfl (.cons rfl .nil))))))) ?_
 rintro ⟨j, H, B2, rs, g, cap, r⟩ ⟨hj, hI, hrl, ho⟩
 simp only at hj hI hrl ho ⊢
 obtain ⟨⟨wa2, hm1⟩, hm2, hm3, hB2, hm4⟩ := (hstp R hro).mem j rs B2 H hI
 refine CW_sr ?_
 refine RW_l (Yl_lss rfl rfl) ?_
 refine RW_lv (ks := [1, 9, 10, 12, 38, 39, 40, 41]) ?_
 refine CW_seq ?_
 refine CW_cond rfl (fun hc1 => ?_) (fun hc1 => ?_)
 ·replace hc1 := of_decide_eq_true hc1
  refine (CW_skip (QW_lv (ks := [1, 9, 10, 12, 38, 39, 40]) ?_))
  refine CW_seq ?_
  refine CW_block ?_
  refine CW_seq ?_
  obtain ⟨st, hst⟩ : ∃ st, sts.getD j [] = st := ⟨_, rfl⟩
  have hstm : st ∈ sts := by rw [← hst, List.getD_eq_getElem?_getD, List.getElem?_eq_getElem (by omega)]; exact List.getElem_mem _
  have hst5 := hs5 st hstm
  have hst1 := hs1 st hstm
  refine CW_region ?_
  refine RW_l (Yl_indexN (b := bst) (off := 0) (i := j) (o' := j * 5) rfl rfl sl_51 (by omega) (by omega)) ?_
  refine RW_h (Yh_loadE (cs := st) rfl ag_53 (List.mem_append_right _ (List.Mem.tail _ (List.Mem.head _))) (by rw [List.length_append, chunk_len 5 _ hs5]; omega) (by rw [chunk_at 5 _ _ _ hs5 (by omega)]; exact hst)) ?_
  refine RW_fx rfl rfl rfl (Fx_alloc (zs := zs_53) ze_53 rfl) ?_
  rintro _ _ ⟨b14, rfl, rfl⟩
  refine RW_fx0 rfl rfl (Fx_storeA (b := b14) (off := 0) (l := zs_53) (T := 53) (cs := st) rfl rfl (by rw [hst5]; exact sz_53) hst1 (.here _ _ _) (by rw [hst5]; exact Nat.le_refl 5)) ?_
  rintro _ _ rfl
  refine RW_lv (ks := [1, 9, 10, 12, 14, 38, 39, 40]) ?_
  rw [spl_full _ _ (by rw [hst5]; rfl)]
  have hone := (hstp R hro).step j rs B2 H hI (by omega)
  rw [hst] at hone
  refine CW_cut (σ := Nat × Heap × List Value × List UInt8) (fun q => [(1, nv i), (9, pv R.br), (10, pv R.bs), (12, osl g j cap), (15, pv q.1), (16, .bool true), (38, .slice (some ⟨bst, 0, none⟩) n cst), (39, nv n), (40, nv j)]) (fun q => (q.1, blk q.2.2.1 58) :: (q.2.1 ++ ((gI, blk (bys B ++ rI) 5) :: (bst, blk (sts.flatten ++ rst) 53) :: (oH g (rs.flatten ++ r) 58 ++ F)))) (fun q => q.2.2.1.length = 3 ∧ (∀ u ∈ q.2.2.1, u.oneCell' = true) ∧ Inv R (j + 1) (rs ++ [q.2.2.1]) q.2.2.2 q.2.1) ?_ ?_
  ·skip
   refine CW_draw [8] _ mixed (Sub.refl _) ?_
   refine RD_l 0 rfl (Yl_move rfl) ?_
   refine RD_l 1 rfl (Yl_nilCheck rfl) ?_
   refine RD_l 2 rfl (Yl_field rfl fo_89_4) ?_
   refine RD_l 4 rfl (Yl_move rfl) ?_
   refine RD_h (i := 3) #[true, true, true, false, true, false, false, true, false, false, false, false, true, false, false] rfl rfl rfl rfl (by kernel_rfl) (fun _ _ _ h => h) (Yh_load (v := .slice (some ⟨R.bo, 0, none⟩) R.out.length R.capo) rfl sc_83 (by repeat (first | exact List.mem_append_left _ hm1 | apply List.Mem.tail)) rfl) ?_
   refine RD_l 5 rfl (Yl_indexN (b := R.bo) (off := 0) (i := i) (o' := i) rfl rfl sl_83 (by omega) (by omega)) ?_
   refine RD_h (i := 6) #[true, true, true, true, true, true, false, true, false, false, false, false, true, false, false] rfl rfl rfl rfl (by kernel_rfl) (fun _ _ _ h => h) (Yh_load (v := pv (R.bfs.getD (R.out.getD i 0) 0)) rfl sc_90 (by repeat (first | exact List.mem_append_left _ hm2 | apply List.Mem.tail)) (outs_at _ _ _ (by omega))) ?_
   refine RD_h (i := 7) #[true, true, true, true, true, true, true, false, false, false, false, false, true, false, false] rfl rfl rfl rfl (by kernel_rfl) (fun _ _ _ h => h) (Yh_loadAll (b := b14) (k := 5) (T := 53) (fz := (0, 0)) (l := st) rfl ag_53 (by repeat (first | exact List.Mem.head _ | apply List.Mem.tail)) hst5) ?_
   refine RD_two (i := 8) (j := 12) (by kernel_rfl) ?_ ?_
   ·skip
    refine RO_fx rfl rfl rfl rfl (Fx_call ok_37 (vs := [pv (R.bfs.getD (R.out.getD i 0) 0), .agg st.toArray]) rfl (by first | exact pick_mid _ [_] _ | exact pick_mid _ [_, _] _) hone) ?_
    rintro _ _ ⟨_, ⟨rr, B3, rfl, hr3, hr1, hI2⟩, rfl⟩
    refine ⟨Or.inl (by kernel_rfl), ?_⟩
    refine RD_l 9 rfl (Yl_move rfl) ?_
    refine RD_l 10 rfl (Yl_extract (v := .agg rr.toArray) rfl rfl) ?_
    refine RD_l 11 rfl (Yl_extract (v := .bool true) rfl rfl) ?_
    refine RD_one (i := 12) (by kernel_rfl) ?_
    refine RO_fx rfl rfl rfl rfl (Fx_alloc (zs := zs_58) ze_58 rfl) ?_
    rintro _ _ ⟨b15, rfl, rfl⟩
    refine ⟨Or.inl (by kernel_rfl), ?_⟩
    refine RD_one (i := 13) (by kernel_rfl) ?_
    refine RO_fx0 rfl rfl rfl (Fx_storeA (b := b15) (off := 0) (l := zs_58) (T := 58) (cs := rr) rfl rfl (by rw [hr3]; exact sz_58) hr1 (by first | exact Rep.here _ _ _ | exact rep_r _ (Rep.here _ _ _)) (by rw [hr3]; exact Nat.le_refl 3)) ?_
    rintro _ _ rfl
    rw [spl_full _ _ (by rw [hr3]; rfl)]
    refine ⟨Or.inl (by kernel_rfl), ?_⟩
    refine RD_l 14 rfl (Yl_assign rfl) ?_
    refine RD_done (by kernel_rfl) ?_
    first
     | (refine QW_sub (List.Sublist.append_left (.cons_cons _ (.cons _ (.refl _))) _) ?_; refine QW_heap List.perm_middle ?_; exact QW_cut (b15, _, rr, B3) ⟨hr3, hr1, hI2⟩ (Prm.nil _) (.cons rfl (.cons rfl (.cons rfl (.cons rfl (.cons rfl (.cons rfl (.cons rfl (.cons rfl (.cons rfl .nil))))))))))
     | (refine QW_sub (.cons_cons _ (List.Sublist.append_left (.cons _ (.refl _)) _)) ?_; exact QW_cut (b15, _, rr, B3) ⟨hr3, hr1, hI2⟩ (Prm.nil _) (.cons rfl (.cons rfl (.cons rfl (.cons rfl (.cons rfl (.cons rfl (.cons rfl (.cons rfl (.cons rfl .nil))))))))))
   ·skip
    refine RO_fx rfl rfl rfl rfl (Fx_alloc (zs := zs_58) ze_58 rfl) ?_
    rintro _ _ ⟨b15, rfl, rfl⟩
    refine ⟨Or.inr (Sub.more (Sub.refl _)), ?_⟩
    refine RD_one (i := 8) (by kernel_rfl) ?_
    refine RO_fx rfl rfl rfl rfl (Fx_call ok_37 (vs := [pv (R.bfs.getD (R.out.getD i 0) 0), .agg st.toArray]) rfl (by first | exact pick_mid _ [_] _ | exact pick_mid _ [_, _] _) hone) ?_
    rintro _ _ ⟨_, ⟨rr, B3, rfl, hr3, hr1, hI2⟩, rfl⟩
    refine ⟨Or.inl (by kernel_rfl), ?_⟩
    refine RD_l 9 rfl (Yl_move rfl) ?_
    refine RD_l 10 rfl (Yl_extract (v := .agg rr.toArray) rfl rfl) ?_
    refine RD_l 11 rfl (Yl_extract (v := .bool true) rfl rfl) ?_
    refine RD_one (i := 13) (by kernel_rfl) ?_
    refine RO_fx0 rfl rfl rfl (Fx_storeA (b := b15) (off := 0) (l := zs_58) (T := 58) (cs := rr) rfl rfl (by rw [hr3]; exact sz_58) hr1 (by first | exact Rep.here _ _ _ | exact rep_r _ (Rep.here _ _ _)) (by rw [hr3]; exact Nat.le_refl 3)) ?_
    rintro _ _ rfl
    rw [spl_full _ _ (by rw [hr3]; rfl)]
    refine ⟨Or.inl (by kernel_rfl), ?_⟩
    refine RD_l 14 rfl (Yl_assign rfl) ?_
    refine RD_done (by kernel_rfl) ?_
    first
     | (refine QW_sub (List.Sublist.append_left (.cons_cons _ (.cons _ (.refl _))) _) ?_; refine QW_heap List.perm_middle ?_; exact QW_cut (b15, _, rr, B3) ⟨hr3, hr1, hI2⟩ (Prm.nil _) (.cons rfl (.cons rfl (.cons rfl (.cons rfl (.cons rfl (.cons rfl (.cons rfl (.cons rfl (.cons rfl .nil))))))))))
     | (refine QW_sub (.cons_cons _ (List.Sublist.append_left (.cons _ (.refl _)) _)) ?_; exact QW_cut (b15, _, rr, B3) ⟨hr3, hr1, hI2⟩ (Prm.nil _) (.cons rfl (.cons rfl (.cons rfl (.cons rfl (.cons rfl (.cons rfl (.cons rfl (.cons rfl (.cons rfl .nil))))))))))
  ·rintro ⟨b15, q, rr, B3⟩ ⟨hr3, hr1, hI2⟩
   simp only at hr3 hr1 hI2 ⊢
   refine CW_seq ?_
   refine CW_sr ?_
   refine RW_m ?_
   refine RW_l (Yl_not rfl) ?_
   refine RW_lv (ks := [1, 9, 10, 12, 15, 38, 39, 40, 57]) ?_
   refine CW_cond rfl (fun hc2 => ?_) (fun hc2 => ?_)
   ·skip
    exact absurd hc2 (by decide)
   ·skip
    refine (CW_skip (QW_lv (ks := [1, 9, 10, 12, 15, 38, 39, 40]) ?_))
    refine CW_region ?_
    refine RW_m ?_
    refine RW_h (Yh_loadAll (b := b15) (k := 3) (T := 58) (fz := (0, 0)) (l := rr) rfl ag_58 (by repeat (first | exact List.Mem.head _ | apply List.Mem.tail)) hr3) ?_
    refine RW_fx rfl rfl rfl (Fx_lit (vs := [.agg rr.toArray]) (css := [rr]) (cs := rr) sl_54 ze_58 rfl rfl rfl rfl rfl (by intro c hc; rw [List.mem_singleton.1 hc]; exact hr3) (by simp)) ?_
    rintro _ _ ⟨b60, rfl, rfl⟩
    refine RW_fx rfl rfl rfl (Fx_appOG (o := g) (xs := rs.flatten) (r := r) (news := rr) (T := 58) (n := j) (cap := cap) (m := 1) (c := 1) (R := (b15, blk rr 58) :: (q ++ ((gI, blk (bys B ++ rI) 5) :: (bst, blk (sts.flatten ++ rst) 53) :: F))) rfl rfl sl_54 by_58 ze_58 rfl (.here _ _) (p_app _ _ _ _ _ _) ho hr3 hr1 (by omega) (by omega) (by omega) (by omega)) ?_
    rintro _ _ ⟨g', cap', r', rfl, ho', rfl⟩
    refine RW_a ?_
    refine RW_nil ?_
    refine QW_normal_block ?_
    refine (QW_lv (ks := [1, 9, 10, 12, 38, 39, 40]) ?_)
    refine CW_region ?_
    refine RW_l (Yl_add (c := ((j + 1 : Nat) : Int)) rfl rfl (wi64 (by omega) (by omega))) ?_
    refine RW_m ?_
    refine RW_nil ?_
    refine QW_sub (H' := (g', blk ((rs.flatten ++ rr) ++ r') 58) :: (q ++ ((gI, blk (bys B ++ rI) 5) :: (bst, blk (sts.flatten ++ rst) 53) :: F))) (.cons_cons _ (.cons _ (.refl _))) ?_
    refine QW_heap (p_back _ _ _ _ _) ?_
    refine QW_round (σ := SSt) ⟨j + 1, q, B3, rs ++ [rr], some g', cap', r'⟩ ⟨by simp only; omega, hI2, by simp [hrl], ?_⟩ (by simp only; omega) ?_ (.cons rfl (.cons rfl (.cons rfl (.cons rfl (.cons rfl (.cons rfl (.cons rfl .nil)))))))
    ·simp only [List.flatten_append, List.flatten_cons, List.flatten_nil, List.append_nil]; exact ho'
    ·simp only [List.flatten_append, List.flatten_cons, List.flatten_nil, List.append_nil, List.cons_append, List.nil_append]; exact Prm.nil _
 ·replace hc1 := of_decide_eq_false hc1
  refine CW_exit ?_
  refine QW_exit_then ?_
  refine QW_exit_then ?_
  refine QW_exit_block ?_
  refine (QW_lv (ks := [10, 12]) ?_)
  refine CW_seq ?_
  have hN5 := h.hN5
  refine CW_region ?_
  refine RW_m ?_
  refine RW_m ?_
  refine RW_l (Yl_nilCheck rfl) ?_
  refine RW_l (Yl_field rfl fo_103_0) ?_
  refine RW_h (Yh_load (v := .slice (some ⟨R.bB, 0, none⟩) R.N R.cN) rfl sc_23 (List.mem_append_left _ hm3) rfl) ?_
  refine RW_fx rfl rfl rfl (Fx_append_nil (z0 := .int .u8 0) (q := 1) (lx := bys B2 ++ R.rB) (offx := 0) rfl rfl sl_23 by_5 ze_5 rfl rfl (List.mem_append_left _ hm4) (by rw [List.length_append, List.length_map]; omega) (by omega) (by omega) (by omega)) ?_
  rintro _ _ ⟨b2, l2, cap2, rfl, hc1, hc2, hc3, rfl⟩
  refine RW_a ?_
  refine RW_a ?_
  refine RW_a ?_
  refine RW_lv (ks := [6, 7, 8]) ?_
  refine CW_ret ?_
  have hjn : j = n := by omega
  rw [hjn] at hI ho hrl
  have hN5 := h.hN5
  have e2 : l2 = bys B2 ++ l2.drop R.N := by
   have h4 : (bys B2 ++ R.rB).take R.N = bys B2 := by rw [List.take_append_of_le_length (by simp; omega), List.take_of_length_le (by simp; omega)]
   rw [Nat.mul_one, List.drop_zero, h4] at hc3
   have := List.take_append_drop R.N l2
   rw [hc3] at this; exact this.symm
  rw [e2]
  exact QW_ret3 rfl rfl rfl rfl ((b2, blk (bys B2 ++ l2.drop R.N) 5) :: (H ++ ((gI, blk (bys B ++ rI) 5) :: (bst, blk (sts.flatten ++ rst) 53) :: oH g (rs.flatten ++ r) 58))) ⟨R, g, cap, r, rs, b2, cap2, l2.drop R.N, B2, H, hro, by rw [hjn, hRN], hI, hrl, ho, by rw [hB2, hRN], hm4, rfl⟩ (by simp only [List.cons_append, List.append_assoc]; exact Prm.nil _)

/-! Values: bytes as a text. -/
theorem fold_push : ∀ (d : List UInt8) (s : ByteArray), (d.map fun y => (y.toNat : Int)).foldl (fun r n => r.push (UInt8.ofNat n.toNat)) s = ⟨s.data ++ d.toArray⟩ := by
  intro d
  induction d with
  | nil => intro s; simp
  | cons y r ih =>
    intro s
    simp only [List.map_cons, List.foldl_cons]
    rw [ih]
    have : UInt8.ofNat ((y.toNat : Int)).toNat = y := by simp
    rw [this]
    simp [ByteArray.push]
section
variable {P : Program} {E : World} {L : Fra} {H : Heap} {dst : Option Tmp} {ty : TypeId} {pos : String} {aft : Array Edge} {gd : Option (Nat × Bool)}
theorem Yh_bytesStr {x : Operand} {t u e : TypeId} {sz b off m c : Nat} {l : List Value} {T : TypeId} {fz : Nat × Nat} {d : List UInt8} (hx : ev L x = some (.slice (some ⟨b, off, none⟩) m c)) (ht : slOf P t = some (e, sz)) (he : inOf P e = some .u8) (hu : isStr P u = true)
    (hm : (b, Obj.cells l.toArray T fz) ∈ H) (hd : (l.drop off).take m = bys d) (hl : d.length = m) : Yh P E L H ⟨dst, .convert t u x, ty, pos, aft, gd⟩ (.string (bar d)) := by
  intro _ a w hf hh
  obtain ⟨inf, h1, _, _⟩ := slOf_u ht
  have h2 := inOf_u he
  have h3 := isStr_u hu
  have hload := run_loadCells_list (P := P) w ⟨b, off, none⟩ _ (hh.cellsAt hm (offx := off) (k := m))
  rw [hd] at hload
  have hlen : (bys d).length = m := by simp [hl]
  rw [hlen] at hload
  have hc : (bys d) = (d.map fun y => (y.toNat : Int)).map (Value.int .u8) := by simp [bys, bv, Function.comp_def]
  rw [hc] at hload
  have hr := run_convert_bytes_string (P := P) w t u e (some ⟨b, off, none⟩) m c h1 h2 h3
  rw [run_bytesToString w _ m c _ hload, fold_push] at hr
  have hb : (⟨ByteArray.empty.data ++ d.toArray⟩ : ByteArray) = bar d := by
    simp [bar, ByteArray.empty, ByteArray.emptyWithCapacity]
    rfl
  rw [hb] at hr
  simp only [execOp, hf.eval hx, Sem.run_bind, hr, Result.andThen_ok]
  rfl
theorem Yl_strEqT {x y : Operand} {s : ByteArray} {t u : TypeId} (hx : ev L x = some (.string s)) (hy : ev L y = some (.string s)) :
    Yl P L ⟨dst, .binOp .eql t x y u, ty, pos, aft, gd⟩ (.bool true) := by
  have := Yl_strEq (P := P) (dst := dst) (ty := ty) (pos := pos) (aft := aft) (gd := gd) (t := t) (u := u) hx hy
  simpa using this
end

/-! Steps that read an entry of no bytes. -/
/-- One of the reader's files, its blocks ahead. -/
theorem Rdr.split {R : Rdr} {k : Nat} {f : Fil} (hf : R.fs[k]? = some f) (E0 : Heap) : ∃ G, (R.H ++ E0).Perm (enB R.br f.bf f.bd f.en :: (E0 ++ G)) := by
  obtain ⟨G1, hG⟩ := filsH_split (br := R.br) hf
  unfold Rdr.H
  generalize (R.br, blk R.cells 89) = a1
  generalize (R.bh, blk R.hcells 137) = a2
  generalize (R.bhf, blk R.hc 142) = a3
  generalize (R.bb, blk R.lb 5) = a4
  generalize (R.bs, blk [Value.slice (some ⟨R.bB, 0, none⟩) R.N R.cN] 103) = a5
  generalize (R.bB, blk (bys R.B ++ R.rB) 5) = a6
  generalize (2, blk R.ps R.T) = a7
  generalize (R.g, blk (R.bfs.map pv ++ R.rn) 90) = a8
  generalize (R.bo, blk (outs R.bfs R.out ++ R.ro) 90) = a9
  generalize psH R.pth ++ R.X = Z
  obtain ⟨Y, hY⟩ : ∃ Y, Y = (f.bd, blk f.en.dc 112) :: G1 := ⟨_, rfl⟩
  rw [← hY] at hG
  refine ⟨[a1, a2, a3, a4, a5, a6, a7, a8, a9] ++ (Y ++ Z), ?_⟩
  have h1 : ([a1, a2, a3, a4, a5, a6, a7, a8, a9] ++ (filsH R.br R.fs ++ Z)).Perm ([a1, a2, a3, a4, a5, a6, a7, a8, a9] ++ (enB R.br f.bf f.bd f.en :: (Y ++ Z))) := (hG.append_right Z).append_left _
  have h2 : ([a1, a2, a3, a4, a5, a6, a7, a8, a9] ++ (enB R.br f.bf f.bd f.en :: (Y ++ Z))).Perm (enB R.br f.bf f.bd f.en :: ([a1, a2, a3, a4, a5, a6, a7, a8, a9] ++ (Y ++ Z))) := List.perm_middle
  have h3 := (h1.trans h2).append_right E0
  refine h3.trans ?_
  exact List.Perm.cons _ List.perm_append_comm
section
variable {ps : List Value} {T : TypeId} {four : Bool} {st : Nat} {ns : List Nm} {o : List (Nat × List (List UInt8))}
/-- The file of an entry, where the reader stands. -/
theorem ROk.file (h : NodesOk ns) (hk : ∀ k, k ∈ o.map Prod.fst ↔ k < ns.length) (ho : (STv (tnsF (verF four) (ns.map Nm.nd) (nmOf ns))).out = o.map Prod.fst) {R : Rdr} {B : List UInt8} {N ss : Nat} {mi : Option (List Nat × List Nat)}
    (hr : ROk R ps T B N ss (esF (verF four) st (ns.map Nm.nd) (nmOf ns)) (tnsF (verF four) (ns.map Nm.nd) (nmOf ns)) mi) {i : Nat} (hi : i < o.length) :
    ∃ f, R.fs[(o.getD i default).1]? = some f ∧ R.bfs.getD (R.out.getD i 0) 0 = f.bf ∧ (o.getD i default).1 < ns.length ∧ f.en.noPath = (enF (verF four) st (ns.map Nm.nd) (nmOf ns) (o.getD i default).1).noPath := by
  obtain ⟨er, hok⟩ := hr.ok
  have hoi : o.getD i default ∈ o := by rw [List.getD_eq_getElem?_getD, List.getElem?_eq_getElem hi]; exact List.getElem_mem _
  have hkk : (o.getD i default).1 < ns.length := (hk _).1 (List.mem_map.2 ⟨_, hoi, rfl⟩)
  have hcn := cnt_le (v := verF four) h.xs
  have hxl : (ns.map Nm.nd).length = ns.length := by simp
  have hes : (esF (verF four) st (ns.map Nm.nd) (nmOf ns)).length = cntF (verF four) (ns.map Nm.nd) := by simp [esF]
  have hlen : R.fs.length = (esF (verF four) st (ns.map Nm.nd) (nmOf ns)).length := by have := congrArg List.length hok.tok.rest; simpa using this
  have e1 : R.out.getD i 0 = (o.getD i default).1 := by
    rw [hok.out, ho]; simp [List.getD_eq_getElem?_getD, hi]
  have hkf : (o.getD i default).1 < R.fs.length := by omega
  obtain ⟨f, hf⟩ : ∃ f, R.fs[(o.getD i default).1]? = some f := ⟨_, List.getElem?_eq_getElem hkf⟩
  refine ⟨f, hf, ?_, hkk, ?_⟩
  · rw [e1, ← hok.tok.bf, List.getD_eq_getElem?_getD, List.getElem?_map, hf]; rfl
  · have := congrArg (fun l => l[(o.getD i default).1]?) hok.tok.rest
    simp only [List.getElem?_map, hf, Option.map_some] at this
    unfold esF at this
    rw [List.getElem?_map, List.getElem?_range (by omega)] at this
    exact Option.some.inj this
end

/-! Walks: compressChain. -/
theorem prs_last (l : List (Nat × Nat)) (z : Nat × Nat) (r : List Value) : prs (l ++ [z]) ++ r = prs l ++ (prs [z] ++ r) := by simp [prs]
theorem compress_ct {ad : Nat → Nat} (q0 e g m cap : Nat) (l0 : List (Nat × Nat)) (r0 : List Value) (hm : m = l0.length) (hrun : Run ad q0 l0 e) (hsm : Small l0) (hlen : (prs l0 ++ r0).length = cap * 2) (he : e ≤ 1000000) (hcap : cap ≤ 1000000) :
  Ct Tryd.prog 63 [.slice (some ⟨g, 0, none⟩) m cap] [(g, blk (prs l0 ++ r0) 128)] (fun v q => ∃ l r, Run ad q0 l e ∧ Small l ∧ (prs l ++ r).length = cap * 2 ∧ v = .slice (some ⟨g, 0, none⟩) l.length cap ∧ q = [(g, blk (prs l ++ r) 128)]) := by
 have hm0 : l0.length ≤ cap := by rw [List.length_append, length_prs] at hlen; omega
 refine Ct_of Tryd.func63 rfl Tryd.ntmps63 rfl ?_
 intro E F
 simp only [numL, List.nil_append, List.cons_append]
 refine CW_sr ?_
 refine RW_a ?_
 refine RW_lv (ks := [0]) ?_
 refine CW_sr ?_
 refine RW_m ?_
 refine RW_l (Yl_len rfl sl_125) ?_
 refine RW_a ?_
 refine RW_lv (ks := [0, 3]) ?_
 refine CW_seq ?_
 refine CW_sr ?_
 refine RW_a ?_
 refine RW_a ?_
 refine RW_lv (ks := [0, 3, 4, 5]) ?_
 refine CW_block ?_
 refine CW_loop (σ := Nat × Nat × List (Nat × Nat) × List Value) (fun q => [(0, .slice (some ⟨g, 0, none⟩) q.2.2.1.length cap), (3, nv m), (4, nv q.1), (5, nv q.2.1)]) (fun q => (g, blk (prs q.2.2.1 ++ q.2.2.2) 128) :: F) (fun q => q.1 ≤ m ∧ q.2.1 ≤ q.2.2.1.length ∧ Run ad q0 q.2.2.1 e ∧ Small q.2.2.1 ∧ (prs q.2.2.1 ++ q.2.2.2).length = cap * 2) (fun q => m - q.1) (0, 0, l0, r0) ⟨Nat.zero_le _, Nat.zero_le _, hrun, hsm, hlen⟩ (by repeat (first | exact Prm.nil _ | exact Rem.here _ _ | apply Rem.there | apply Prm.cons)) (.cons (by rw [hm]; rfl) (.cons rfl (.cons rfl (.cons rfl .nil)))) ?_
 rintro ⟨i, x, l, r⟩ ⟨hi, hx, hrun, hsm, hlen⟩
 simp only at hi hx hrun hsm hlen ⊢
 have hcl : l.length ≤ cap := by rw [List.length_append, length_prs] at hlen; omega
 refine CW_seq ?_
 refine CW_sr ?_
 refine RW_m ?_
 refine RW_m ?_
 refine RW_l (Yl_lss rfl rfl) ?_
 refine RW_m ?_
 refine RW_bool 12 rfl (fun hg1 => ?_) (fun hg1 => ?_)
 ·replace hg1 := of_decide_eq_true hg1
  refine RW_gy rfl rfl rfl (Yl.h (Yl_move rfl)) ?_
  refine RW_gy rfl rfl rfl (Yl.h (Yl_add (c := ((x + 1 : Nat) : Int)) rfl rfl (wi64 (by omega) (by omega)))) ?_
  refine RW_gy rfl rfl rfl (Yl.h (Yl_move rfl)) ?_
  refine RW_gy rfl rfl rfl (Yl.h (Yl_len rfl sl_125)) ?_
  refine RW_gy rfl rfl rfl (Yl.h (Yl_lss rfl rfl)) ?_
  refine RW_l (Yl_pick_t rfl rfl) ?_
  refine RW_lv (ks := [0, 3, 4, 5, 18]) ?_
  refine CW_cond rfl (fun hc2 => ?_) (fun hc2 => ?_)
  ·replace hc2 := of_decide_eq_true hc2
   refine (CW_skip (QW_lv (ks := [0, 3, 4, 5]) ?_))
   refine CW_seq ?_
   refine CW_block ?_
   refine CW_seq ?_
   have h1 := hsm x (by omega)
   have h2 := hsm (x + 1) (by omega)
   have h3 := Run.two hrun (k := x) (by omega)
   refine CW_draw [] _ mixed (Sub.refl _) ?_
   refine RD_l 0 rfl (Yl_move rfl) ?_
   refine RD_l 1 rfl (Yl_move rfl) ?_
   refine RD_l 2 rfl (Yl_indexN (b := g) (off := 0) (i := x) (o' := x * 2) rfl rfl sl_125 (by omega) (by omega)) ?_
   refine RD_l 3 rfl (Yl_indexAN (b := g) (off := x * 2) (i := 0) (o' := x * 2) rfl rfl ar_128 (by omega) (by omega)) ?_
   refine RD_l 5 rfl (Yl_move rfl) ?_
   refine RD_l 6 rfl (Yl_move rfl) ?_
   refine RD_l 7 rfl (Yl_indexN (b := g) (off := 0) (i := x) (o' := x * 2) rfl rfl sl_125 (by omega) (by omega)) ?_
   refine RD_l 8 rfl (Yl_indexAN (b := g) (off := x * 2) (i := 1) (o' := x * 2 + 1) rfl rfl ar_128 (by omega) (by omega)) ?_
   refine RD_l 11 rfl (Yl_move rfl) ?_
   refine RD_l 12 rfl (Yl_move rfl) ?_
   refine RD_l 13 rfl (Yl_add (c := ((x + 1 : Nat) : Int)) rfl rfl (wi64 (by omega) (by omega))) ?_
   refine RD_l 14 rfl (Yl_indexN (b := g) (off := 0) (i := x + 1) (o' := (x + 1) * 2) rfl rfl sl_125 (by omega) (by omega)) ?_
   refine RD_l 15 rfl (Yl_indexAN (b := g) (off := (x + 1) * 2) (i := 0) (o' := (x + 1) * 2) rfl rfl ar_128 (by omega) (by omega)) ?_
   refine RD_h (i := 4) #[true, true, true, true, false, true, true, true, true, true, false, true, true, true, true, true, true, false] rfl rfl rfl rfl (by kernel_rfl) (fun _ _ _ h => h) (Yh_load (v := nv (l.getD x default).1) rfl sc_2 (by repeat (first | exact List.Mem.head _ | apply List.Mem.tail)) (prs_at1 l r x (by omega))) ?_
   refine RD_h (i := 9) #[true, true, true, true, true, true, true, true, true, false, false, true, true, true, true, true, true, false] rfl rfl rfl rfl (by kernel_rfl) (fun _ _ _ h => h) (Yh_load (v := nv (l.getD x default).2) rfl sc_2 (by repeat (first | exact List.Mem.head _ | apply List.Mem.tail)) (prs_at2 l r x (by omega))) ?_
   refine RD_l 10 rfl (Yl_add (c := (((l.getD x default).1 + (l.getD x default).2 : Nat) : Int)) rfl rfl (wi64 (by omega) (by omega))) ?_
   refine RD_h (i := 16) #[true, true, true, true, true, true, true, true, true, true, true, true, true, true, true, true, false, false] rfl rfl rfl rfl (by kernel_rfl) (fun _ _ _ h => h) (Yh_load (v := nv (l.getD (x + 1) default).1) rfl sc_2 (by repeat (first | exact List.Mem.head _ | apply List.Mem.tail)) (prs_at1 l r (x + 1) (by omega))) ?_
   refine RD_l 17 rfl (Yl_eql rfl rfl) ?_
   refine (RD_done (by kernel_rfl) (QW_lv (ks := [0, 3, 4, 5, 38]) ?_))
   refine CW_cond rfl (fun hc3 => ?_) (fun hc3 => ?_)
   ·replace hc3 := of_decide_eq_true hc3
    refine CW_seq ?_
    refine CW_draw [16] _ mixed (Sub.refl _) ?_
    refine RD_l 0 rfl (Yl_move rfl) ?_
    refine RD_l 1 rfl (Yl_move rfl) ?_
    refine RD_l 2 rfl (Yl_move rfl) ?_
    refine RD_l 3 rfl (Yl_move rfl) ?_
    refine RD_l 4 rfl (Yl_indexN (b := g) (off := 0) (i := x) (o' := x * 2) rfl rfl sl_125 (by omega) (by omega)) ?_
    refine RD_l 5 rfl (Yl_indexAN (b := g) (off := x * 2) (i := 1) (o' := x * 2 + 1) rfl rfl ar_128 (by omega) (by omega)) ?_
    refine RD_l 7 rfl (Yl_move rfl) ?_
    refine RD_l 8 rfl (Yl_move rfl) ?_
    refine RD_l 9 rfl (Yl_add (c := ((x + 1 : Nat) : Int)) rfl rfl (wi64 (by omega) (by omega))) ?_
    refine RD_l 10 rfl (Yl_indexN (b := g) (off := 0) (i := x + 1) (o' := (x + 1) * 2) rfl rfl sl_125 (by omega) (by omega)) ?_
    refine RD_l 11 rfl (Yl_indexAN (b := g) (off := (x + 1) * 2) (i := 1) (o' := (x + 1) * 2 + 1) rfl rfl ar_128 (by omega) (by omega)) ?_
    refine RD_l 14 rfl (Yl_indexN (b := g) (off := 0) (i := x) (o' := x * 2) rfl rfl sl_125 (by omega) (by omega)) ?_
    refine RD_h (i := 6) #[true, true, true, true, true, true, false, true, true, true, true, true, true, false, true, false, false] rfl rfl rfl rfl (by kernel_rfl) (fun _ _ _ h => h) (Yh_load (v := nv (l.getD x default).2) rfl sc_2 (by repeat (first | exact List.Mem.head _ | apply List.Mem.tail)) (prs_at2 l r x (by omega))) ?_
    refine RD_h (i := 12) #[true, true, true, true, true, true, true, true, true, true, true, true, false, false, true, false, false] rfl rfl rfl rfl (by kernel_rfl) (fun _ _ _ h => h) (Yh_load (v := nv (l.getD (x + 1) default).2) rfl sc_2 (by repeat (first | exact List.Mem.head _ | apply List.Mem.tail)) (prs_at2 l r (x + 1) (by omega))) ?_
    refine RD_l 13 rfl (Yl_add (c := (((l.getD x default).2 + (l.getD (x + 1) default).2 : Nat) : Int)) rfl rfl (wi64 (by omega) (by omega))) ?_
    refine RD_l 15 rfl (Yl_indexAN (b := g) (off := x * 2) (i := 1) (o' := x * 2 + 1) rfl rfl ar_128 (by omega) (by omega)) ?_
    refine RD_one (i := 16) (by kernel_rfl) ?_
    refine RO_fx0 rfl rfl rfl (Fx_store (v := nv ((l.getD x default).2 + (l.getD (x + 1) default).2)) rfl rfl sz_2 rfl (by repeat (first | exact Rep.here _ _ _ | apply Rep.there)) (by rw [List.length_append, length_prs]; omega)) ?_
    rintro _ _ rfl
    rw [prs_set2 (k := x) (by omega) rfl]
    refine ⟨Or.inl (by kernel_rfl), ?_⟩
    refine (RD_done (by kernel_rfl) (QW_lv (ks := [0, 3, 4, 5]) ?_))
    refine CW_seq ?_
    refine CW_sr ?_
    refine RW_m ?_
    refine RW_m ?_
    refine RW_l (Yl_add (c := ((x + 1 : Nat) : Int)) rfl rfl (wi64 (by omega) (by omega))) ?_
    refine RW_m ?_
    refine RW_l (Yl_len rfl sl_125) ?_
    refine RW_l (Yl_sub (c := ((l.length - 1 : Nat) : Int)) rfl rfl (by rw [wi64 (by omega) (by omega)]; omega)) ?_
    refine RW_l (Yl_cutLHN (l := x + 1) (h := l.length - 1) (o' := (x + 1) * 2) (m' := l.length - 1 - (x + 1)) rfl rfl rfl sl_125 (by omega) (by omega) (by omega) (by omega) rfl) ?_
    refine RW_l (Yl_len rfl sl_125) ?_
    refine RW_m ?_
    refine RW_lv (ks := [0, 3, 4, 5, 62, 63]) ?_
    refine CW_block ?_
    refine CW_lp (σ := Nat × List (Nat × Nat)) (fun q => [(0, .slice (some ⟨g, 0, none⟩) l.length cap), (3, nv m), (4, nv i), (5, nv x), (62, nv (l.length - 1 - (x + 1))), (63, nv q.1)]) (fun q => (g, blk (prs q.2 ++ r) 128) :: F) (fun q => x + 2 + q.1 ≤ l.length ∧ Sh (l.set x ((l.getD x default).1, (l.getD x default).2 + (l.getD (x + 1) default).2)) q.2 x q.1) (fun q => l.length - q.1) (0, (l.set x ((l.getD x default).1, (l.getD x default).2 + (l.getD (x + 1) default).2))) ⟨by simp only; omega, Sh.zero _ _⟩ ?_
    rintro ⟨j, M⟩ ⟨hj, hM⟩
    simp only at hj hM ⊢
    have hMl : M.length = l.length := by rw [hM.len, List.length_set]
    refine CW_sr ?_
    refine RW_l (Yl_lss rfl rfl) ?_
    refine RW_lv (ks := [0, 3, 4, 5, 62, 63, 64]) ?_
    refine CW_seq ?_
    refine CW_cond rfl (fun hc4 => ?_) (fun hc4 => ?_)
    ·replace hc4 := of_decide_eq_true hc4
     refine (CW_skip (QW_lv (ks := [0, 3, 4, 5, 62, 63]) ?_))
     refine CW_seq ?_
     refine CW_block ?_
     refine CW_sr ?_
     refine RW_m ?_
     refine RW_a ?_
     refine RW_lv (ks := [0, 3, 4, 5, 6, 62, 63]) ?_
     refine CW_region ?_
     refine RW_m ?_
     refine RW_m ?_
     refine RW_l (Yl_add (c := ((x + 1 : Nat) : Int)) rfl rfl (wi64 (by omega) (by omega))) ?_
     refine RW_m ?_
     refine RW_l (Yl_add (c := ((x + 1 + j : Nat) : Int)) rfl rfl (wi64 (by omega) (by omega))) ?_
     refine RW_m ?_
     refine RW_m ?_
     refine RW_m ?_
     refine RW_l (Yl_add (c := ((j + x : Nat) : Int)) rfl rfl (wi64 (by omega) (by omega))) ?_
     refine RW_l (Yl_add (c := ((j + x + 2 : Nat) : Int)) rfl rfl (wi64 (by omega) (by omega))) ?_
     refine RW_l (Yl_indexN (b := g) (off := 0) (i := j + x + 2) (o' := (x + 2 + j) * 2) rfl rfl sl_125 (by omega) (by omega)) ?_
     refine RW_h (Yh_loadE (cs := [nv (M.getD (x + 2 + j) default).1, nv (M.getD (x + 2 + j) default).2]) rfl ag_128 (by repeat (first | exact List.Mem.head _ | apply List.Mem.tail)) (by rw [List.length_append, length_prs]; omega) (prs_cut (by omega))) ?_
     refine RW_l (Yl_indexN (b := g) (off := 0) (i := x + 1 + j) (o' := (x + 1 + j) * 2) rfl rfl sl_125 (by omega) (by omega)) ?_
     refine RW_fx0 rfl rfl (Fx_storeA (cs := [nv (M.getD (x + 2 + j) default).1, nv (M.getD (x + 2 + j) default).2]) rfl rfl sz_128 (by intro u hu; simp only [List.mem_cons, List.not_mem_nil, or_false] at hu; rcases hu with rfl | rfl <;> rfl) (by repeat (first | exact Rep.here _ _ _ | apply Rep.there)) (by rw [List.length_append, length_prs]; simp only [List.length_cons, List.length_nil]; omega)) ?_
     rintro _ _ rfl
     rw [prs_spl _ _ _ _ _ (by omega)]
     refine RW_nil ?_
     refine QW_normal_block ?_
     refine (QW_lv (ks := [0, 3, 4, 5, 62, 63]) ?_)
     refine CW_region ?_
     refine RW_l (Yl_add (c := ((j + 1 : Nat) : Int)) rfl rfl (wi64 (by omega) (by omega))) ?_
     refine RW_m ?_
     refine RW_nil ?_
     exact QW_rn (j + 1, M.set (x + 1 + j) (M.getD (x + 2 + j) default)) ⟨by simp only; omega, Sh.next hM (by rw [List.length_set]; omega)⟩ (by simp only; omega)
    ·replace hc4 := of_decide_eq_false hc4
     refine CW_exit ?_
     refine QW_exit_then ?_
     refine QW_exit_then ?_
     refine QW_exit_block ?_
     refine (QW_lv (ks := [0, 3, 4, 5]) ?_)
     have hj2 : x + 2 + j = l.length := by omega
     obtain ⟨z, hz⟩ := Sh.done hM (by rw [List.length_set]; omega) (by rw [List.length_set]; exact hj2)
     subst hz
     have hE : (((l.set x ((l.getD x default).1, (l.getD x default).2 + (l.getD (x + 1) default).2))).eraseIdx (x + 1)).length = l.length - 1 := by rw [List.length_eraseIdx_of_lt (by rw [List.length_set]; omega), List.length_set]
     have hrun2 : Run ad q0 (((l.set x ((l.getD x default).1, (l.getD x default).2 + (l.getD (x + 1) default).2))).eraseIdx (x + 1)) e := Run.joinAt hrun (by omega) (by omega)
     have hsm2 : Small (((l.set x ((l.getD x default).1, (l.getD x default).2 + (l.getD (x + 1) default).2))).eraseIdx (x + 1)) := Small.join hsm (by omega) (by omega)
     have hlen2 : (prs (((l.set x ((l.getD x default).1, (l.getD x default).2 + (l.getD (x + 1) default).2))).eraseIdx (x + 1)) ++ (prs [z] ++ r)).length = cap * 2 := by
      simp only [List.length_append, length_prs, hE, List.length_singleton] at hlen ⊢
      omega
     rw [prs_last]
     refine CW_region ?_
     refine RW_m ?_
     refine RW_m ?_
     refine RW_l (Yl_len rfl sl_125) ?_
     refine RW_l (Yl_sub (c := ((l.length - 1 : Nat) : Int)) rfl rfl (by rw [wi64 (by omega) (by omega)]; omega)) ?_
     refine RW_l (Yl_cutHN (h := l.length - 1) rfl rfl sl_125 (by omega)) ?_
     refine RW_a ?_
     refine RW_nil ?_
     refine QW_normal_block ?_
     refine (QW_lv (ks := [0, 3, 4, 5]) ?_)
     refine CW_region ?_
     refine RW_m ?_
     refine RW_l (Yl_add (c := ((i + 1 : Nat) : Int)) rfl rfl (wi64 (by omega) (by omega))) ?_
     refine RW_a ?_
     refine RW_nil ?_
     first
      | exact QW_round (i + 1, x, ((l.set x ((l.getD x default).1, (l.getD x default).2 + (l.getD (x + 1) default).2))).eraseIdx (x + 1), prs [z] ++ r) ⟨by simp only; omega, by simp only; rw [hE]; omega, hrun2, hsm2, hlen2⟩ (by simp only; omega) (by repeat (first | exact Prm.nil _ | exact Rem.here _ _ | apply Rem.there | apply Prm.cons)) (.cons (by rw [hE]; rfl) (.cons rfl (.cons rfl (.cons rfl .nil))))
      | exact QW_round (i + 1, x + 1, l, r) ⟨by simp only; omega, by simp only; omega, hrun, hsm, hlen⟩ (by simp only; omega) (by repeat (first | exact Prm.nil _ | exact Rem.here _ _ | apply Rem.there | apply Prm.cons)) (.cons rfl (.cons rfl (.cons rfl (.cons rfl .nil))))
   ·replace hc3 := of_decide_eq_false hc3
    refine CW_region ?_
    refine RW_m ?_
    refine RW_l (Yl_add (c := ((x + 1 : Nat) : Int)) rfl rfl (wi64 (by omega) (by omega))) ?_
    refine RW_a ?_
    refine RW_nil ?_
    refine QW_normal_block ?_
    refine (QW_lv (ks := [0, 3, 4, 5]) ?_)
    refine CW_region ?_
    refine RW_m ?_
    refine RW_l (Yl_add (c := ((i + 1 : Nat) : Int)) rfl rfl (wi64 (by omega) (by omega))) ?_
    refine RW_a ?_
    refine RW_nil ?_
    first
     | exact QW_round (i + 1, x, ((l.set x ((l.getD x default).1, (l.getD x default).2 + (l.getD (x + 1) default).2))).eraseIdx (x + 1), prs [z] ++ r) ⟨by simp only; omega, by simp only; rw [hE]; omega, hrun2, hsm2, hlen2⟩ (by simp only; omega) (by repeat (first | exact Prm.nil _ | exact Rem.here _ _ | apply Rem.there | apply Prm.cons)) (.cons (by rw [hE]; rfl) (.cons rfl (.cons rfl (.cons rfl .nil))))
     | exact QW_round (i + 1, x + 1, l, r) ⟨by simp only; omega, by simp only; omega, hrun, hsm, hlen⟩ (by simp only; omega) (by repeat (first | exact Prm.nil _ | exact Rem.here _ _ | apply Rem.there | apply Prm.cons)) (.cons rfl (.cons rfl (.cons rfl (.cons rfl .nil))))
  ·replace hc2 := of_decide_eq_false hc2
   refine CW_exit ?_
   refine QW_exit_then ?_
   refine QW_exit_then ?_
   refine QW_exit_block ?_
   refine (QW_lv (ks := [0]) ?_)
   refine CW_sr ?_
   refine RW_m ?_
   refine RW_a ?_
   refine RW_lv (ks := [2]) ?_
   refine CW_ret ?_
   exact QW_ret1 rfl rfl [_] ⟨l, r, hrun, hsm, hlen, rfl, rfl⟩ (Prm.nil _)
 ·replace hg1 := of_decide_eq_false hg1
  refine RW_skip rfl rfl rfl ?_
  refine RW_skip rfl rfl rfl ?_
  refine RW_skip rfl rfl rfl ?_
  refine RW_skip rfl rfl rfl ?_
  refine RW_skip rfl rfl rfl ?_
  refine RW_l (Yl_pick_f rfl rfl) ?_
  refine RW_lv (ks := [0, 3, 4, 5, 18]) ?_
  refine CW_false rfl ?_
  refine CW_exit ?_
  refine QW_exit_then ?_
  refine QW_exit_then ?_
  refine QW_exit_block ?_
  refine (QW_lv (ks := [0]) ?_)
  refine CW_sr ?_
  refine RW_m ?_
  refine RW_a ?_
  refine RW_lv (ks := [2]) ?_
  refine CW_ret ?_
  exact QW_ret1 rfl rfl [_] ⟨l, r, hrun, hsm, hlen, rfl, rfl⟩ (Prm.nil _)

/-! Values: a stream in a reader, and where it is read. -/
/-- A stream: its file's block, its reader's, the reader's other blocks, its parts. -/
structure Src where
  bf : Nat
  bd : Nat
  br : Nat
  ini : Nat
  ss : Nat
  u : Nat
  size : Nat
  nm : List UInt8
  path : Value
  rd : List Value
  G : Heap
  cs : List Nat
  of_ : Nat → Nat
  mini : Bool
/-- The file's block where pos bytes have been read, and the next one is the r-th of the k-th part. -/
@[reducible] def Src.fb (S : Src) (pos k r : Nat) : Nat × Obj := (S.bf, blk (fiF S.nm S.ini S.path ((S.size : Nat) : Int) ((pos : Nat) : Int) (snx S.cs k) ((r : Nat) : Int) S.bd S.br) 93)
@[reducible] def Src.rb (S : Src) : Nat × Obj := (S.br, blk S.rd 89)
/-- Where a byte lies. -/
def Src.ad (S : Src) (i : Nat) : Nat := S.of_ (i / S.u) + i % S.u
structure Src.Ok (S : Src) : Prop where
  sel : (S.mini = true ∧ S.size < 4096 ∧ S.u = 64) ∨ (S.mini = false ∧ 4096 ≤ S.size ∧ S.u = S.ss)
  rd1 : S.rd[1]? = some (uv S.ss)
  ss2 : 512 ≤ S.ss ∧ S.ss ≤ 4096
  sz : S.size ≤ 1000000
  cs1 : ∀ j, j * S.u < S.size → snx S.cs j ≤ 1000000
  of1 : ∀ j, j * S.u < S.size → S.of_ j ≤ 100000000
  nx : ∀ j, j * S.u < S.size → Ct Tryd.prog 60 [pv S.br, uv (snx S.cs j), .bool S.mini] (S.rb :: S.G) (fun v q => v = .tuple #[uv (snx S.cs (j + 1)), .nilIface] ∧ q = S.rb :: S.G)
  off : ∀ j, j * S.u < S.size → Ct Tryd.prog 62 [pv S.br, uv (snx S.cs j), .bool S.mini] (S.rb :: S.G) (fun v q => v = .tuple #[nv (S.of_ j), .nilIface] ∧ q = S.rb :: S.G)
theorem Src.Ok.u1 {S : Src} (h : S.Ok) : 64 ≤ S.u ∧ S.u ≤ 4096 := by
  have h1 := h.ss2
  rcases h.sel with ⟨_, _, e⟩ | ⟨_, _, e⟩ <;> omega
theorem Src.ad_part {S : Src} {k r j : Nat} (h : r + j < S.u) : S.ad (k * S.u + r + j) = S.of_ k + r + j := by
  unfold Src.ad
  rw [Nat.add_assoc (k * S.u), Nat.mul_comm k, Nat.mul_add_div (by omega), Nat.div_eq_of_lt h, Nat.mul_add_mod, Nat.mod_eq_of_lt h, Nat.add_zero]
  omega
theorem few_parts {u sz j i : Nat} (hu : 0 < u) (h : i * u ≤ j + u) (hj : j < sz) : i + 1 ≤ sz / u + 2 := by
  rcases Nat.lt_or_ge i (sz / u + 2) with h1 | h1
  · omega
  · exfalso
    have h2 := Nat.mul_le_mul_right u h1
    have h3 := Nat.lt_div_mul_add (a := sz) hu
    rw [Nat.add_mul] at h2
    omega
/-- One part more. -/
theorem Src.Ok.piece {S : Src} (h : S.Ok) {q k r l e : Nat} {L : List (Nat × Nat)} (hr : Run S.ad q L e) (he : k * S.u + r = e) (h0 : 0 < l) (hl : r + l ≤ S.u) : Run S.ad q (L ++ [(S.of_ k + r, l)]) (e + l) :=
  Run.snoc hr h0 (fun j hj => by subst he; exact Src.ad_part (by omega))

/-! Walks: getOffset, seek. -/
theorem getOffsetM_ct (br bh bm ss sn loc n c : Nat) (rd hd lm : List Value) (T : TypeId) (h1 : rd[1]? = some (uv ss)) (h3 : rd[3]? = some (.pointer (some ⟨bh, 0, none⟩))) (hm : hd[3]? = some (.slice (some ⟨bm, 0, none⟩) n c)) (hlm : lm[sn / (ss / 64)]? = some (uv loc)) (hsn : sn / (ss / 64) < n) (hn : n ≤ 100000000) (hss : 512 ≤ ss ∧ ss ≤ 4096) (hsnb : sn ≤ 4294967295) (hloc : loc ≤ 1000000) :
  Ct Tryd.prog 62 [pv br, uv sn, .bool true] [(br, blk rd 89), (bh, blk hd 137), (bm, blk lm T)] (fun v q => v = .tuple #[nv ((loc + 1) * ss + sn % (ss / 64) * 64), .nilIface] ∧ q = [(br, blk rd 89), (bh, blk hd 137), (bm, blk lm T)]) := by
 obtain ⟨e, he⟩ : ∃ e, e = ss / 64 := ⟨_, rfl⟩
 have hq4 : 8 ≤ e ∧ e ≤ 64 := by omega
 rw [← he] at hlm hsn
 obtain ⟨q, hq⟩ : ∃ q, q = sn / e := ⟨_, rfl⟩
 obtain ⟨r, hr⟩ : ∃ r, r = sn % e := ⟨_, rfl⟩
 rw [← hq] at hlm hsn
 have hdl : q ≤ sn := by rw [hq]; exact Nat.div_le_self sn e
 have hml : r < e := by rw [hr]; exact Nat.mod_lt sn (by omega)
 have hprod : (loc + 1) * ss ≤ 1000001 * 4096 := Nat.mul_le_mul (by omega) (by omega)
 refine Ct_of Tryd.func62 rfl Tryd.ntmps62 rfl ?_
 intro E F
 simp only [numL, List.nil_append, List.cons_append]
 refine CW_sr ?_
 refine RW_a ?_
 refine RW_a ?_
 refine RW_lv (ks := [0, 1, 2]) ?_
 refine CW_seq ?_
 refine CW_sr ?_
 refine RW_m ?_
 refine RW_lv (ks := [0, 1, 11]) ?_
 refine CW_cond rfl (fun hc1 => ?_) (fun hc1 => ?_)
 ·skip
  refine CW_sr ?_
  refine RW_m ?_
  refine RW_l (Yl_nilCheck rfl) ?_
  refine RW_l (Yl_field rfl fo_89_1) ?_
  refine RW_h (Yh_lh (v := uv ss) sc_67 h1) ?_
  refine RW_l (Yl_quo (c := (e : Int)) rfl rfl (by omega) (by rw [he]; exact quo32 (b := 64) (by omega))) ?_
  refine RW_a ?_
  refine RW_lv (ks := [0, 1, 8]) ?_
  refine CW_sr ?_
  refine RW_m ?_
  refine RW_m ?_
  refine RW_l (Yl_quo (c := (q : Int)) rfl rfl (by omega) (by rw [hq]; exact quo32 (a := sn) (b := e) (by omega))) ?_
  refine RW_l (Yl_conv (c := ((q : Nat) : Int)) rfl in_67 in_3 (wi64 (by omega) (by omega))) ?_
  refine RW_a ?_
  refine RW_lv (ks := [0, 1, 8, 9]) ?_
  refine CW_seq ?_
  refine CW_sr ?_
  refine RW_m ?_
  refine RW_m ?_
  refine RW_l (Yl_nilCheck rfl) ?_
  refine RW_l (Yl_field rfl fo_89_3) ?_
  refine RW_h (Yh_lh (v := .pointer (some ⟨bh, 0, none⟩)) sc_82 h3) ?_
  refine RW_l (Yl_nilCheck rfl) ?_
  refine RW_l (Yl_field rfl fo_137_3) ?_
  refine RW_h (Yh_lh (v := .slice (some ⟨bm, 0, none⟩) n c) sc_22 hm) ?_
  refine RW_l (Yl_len rfl sl_22) ?_
  refine RW_l (Yl_geq rfl rfl) ?_
  refine RW_lv (ks := [0, 1, 8, 9, 30]) ?_
  refine CW_cond rfl (fun hc2 => ?_) (fun hc2 => ?_)
  ·replace hc2 := of_decide_eq_true hc2
   exfalso; omega
  ·replace hc2 := of_decide_eq_false hc2
   refine (CW_skip (QW_lv (ks := [0, 1, 8, 9]) ?_))
   refine CW_sr ?_
   refine RW_m ?_
   refine RW_m ?_
   refine RW_l (Yl_rem (c := (r : Int)) rfl rfl (by omega) (by rw [hr]; exact remN sn e)) ?_
   refine RW_a ?_
   refine RW_lv (ks := [0, 9, 10]) ?_
   refine CW_seq ?_
   refine CW_draw [] _ mixed (Sub.refl _) ?_
   refine RD_l 0 rfl (Yl_move rfl) ?_
   refine RD_l 1 rfl (Yl_nilCheck rfl) ?_
   refine RD_l 2 rfl (Yl_field rfl fo_89_3) ?_
   refine RD_l 7 rfl (Yl_move rfl) ?_
   refine RD_l 12 rfl (Yl_move rfl) ?_
   refine RD_l 13 rfl (Yl_nilCheck rfl) ?_
   refine RD_l 14 rfl (Yl_field rfl fo_89_1) ?_
   refine RD_l 18 rfl (Yl_move rfl) ?_
   refine RD_l 19 rfl (Yl_conv (c := ((r : Nat) : Int)) rfl in_67 in_2 (wi64 (by omega) (by omega))) ?_
   refine RD_l 20 rfl (Yl_mul (c := ((r * 64 : Nat) : Int)) rfl rfl (mulN (a := r) (b := 64) (by omega))) ?_
   refine RD_h (i := 3) #[true, true, true, false, false, false, false, true, false, false, false, false, true, true, true, true, true, false, true, true, true, false, false, false] rfl rfl rfl rfl (by kernel_rfl) (fun _ _ _ h => h) (Yh_lh (v := .pointer (some ⟨bh, 0, none⟩)) sc_82 h3) ?_
   refine RD_l 4 rfl (Yl_nilCheck rfl) ?_
   refine RD_l 5 rfl (Yl_field rfl fo_137_3) ?_
   refine RD_h (i := 6) #[true, true, true, true, true, true, false, true, false, false, false, false, true, true, true, true, true, false, true, true, true, false, false, false] rfl rfl rfl rfl (by kernel_rfl) (fun _ _ _ h => h) (Yh_lh (v := .slice (some ⟨bm, 0, none⟩) n c) sc_22 hm) ?_
   refine RD_l 8 rfl (Yl_indexN (b := bm) (off := 0) (i := q) (o' := q) rfl rfl sl_22 (by omega) (by omega)) ?_
   refine RD_h (i := 9) #[true, true, true, true, true, true, true, true, true, false, false, false, true, true, true, true, true, false, true, true, true, false, false, false] rfl rfl rfl rfl (by kernel_rfl) (fun _ _ _ h => h) (Yh_lh (v := uv loc) sc_67 hlm) ?_
   refine RD_l 10 rfl (Yl_add (c := ((loc + 1 : Nat) : Int)) rfl rfl (wu32 (by omega) (by omega))) ?_
   refine RD_l 11 rfl (Yl_conv (c := ((loc + 1 : Nat) : Int)) rfl in_67 in_2 (wi64 (by omega) (by omega))) ?_
   refine RD_h (i := 15) #[true, true, true, true, true, true, true, true, true, true, true, true, true, true, true, false, false, false, true, true, true, false, false, false] rfl rfl rfl rfl (by kernel_rfl) (fun _ _ _ h => h) (Yh_lh (v := uv ss) sc_67 h1) ?_
   refine RD_l 16 rfl (Yl_conv (c := ((ss : Nat) : Int)) rfl in_67 in_2 (wi64 (by omega) (by omega))) ?_
   refine RD_l 17 rfl (Yl_mul (c := (((loc + 1) * ss : Nat) : Int)) rfl rfl (mulN (a := loc + 1) (b := ss) (by omega))) ?_
   refine RD_l 21 rfl (Yl_add (c := (((loc + 1) * ss + r * 64 : Nat) : Int)) rfl rfl (wi64 (by omega) (by omega))) ?_
   refine RD_l 22 rfl (Yl_assign rfl) ?_
   refine RD_l 23 rfl (Yl_assign rfl) ?_
   refine (RD_done (by kernel_rfl) (QW_lv (ks := [6, 7]) ?_))
   refine CW_ret ?_
   refine QW_ret_then ?_
   exact QW_ret2 rfl rfl rfl [_, _, _] ⟨by rw [hr, he]; rfl, rfl⟩ (Prm.nil _)
 ·skip
  exact absurd hc1 (by decide)
theorem getOffsetL_ct (br ss sn : Nat) (rd : List Value) (h1 : rd[1]? = some (uv ss)) (hss : 512 ≤ ss ∧ ss ≤ 4096) (hsnb : sn ≤ 1000000) :
  Ct Tryd.prog 62 [pv br, uv sn, .bool false] [(br, blk rd 89)] (fun v q => v = .tuple #[nv ((sn + 1) * ss), .nilIface] ∧ q = [(br, blk rd 89)]) := by
 have hprod : (sn + 1) * ss ≤ 1000001 * 4096 := Nat.mul_le_mul (by omega) (by omega)
 refine Ct_of Tryd.func62 rfl Tryd.ntmps62 rfl ?_
 intro E F
 simp only [numL, List.nil_append, List.cons_append]
 refine CW_sr ?_
 refine RW_a ?_
 refine RW_a ?_
 refine RW_lv (ks := [0, 1, 2]) ?_
 refine CW_seq ?_
 refine CW_sr ?_
 refine RW_m ?_
 refine RW_lv (ks := [0, 1, 11]) ?_
 refine CW_cond rfl (fun hc1 => ?_) (fun hc1 => ?_)
 ·skip
  exact absurd hc1 (by decide)
 ·skip
  refine (CW_skip (QW_lv (ks := [0, 1]) ?_))
  refine CW_sr ?_
  refine RW_m ?_
  refine RW_l (Yl_nilCheck rfl) ?_
  refine RW_l (Yl_field rfl fo_89_1) ?_
  refine RW_h (Yh_lh (v := uv ss) sc_67 h1) ?_
  refine RW_m ?_
  refine RW_fx rfl rfl rfl (Fx_callQ ok_56 (vs := [uv ss, uv sn]) rfl (by repeat (first | exact Pick.nil _ | apply Pick.cons | exact Rem.here _ _ | apply Rem.there)) (fileOffset_ct ss sn (by omega) (by omega) (by omega))) ?_
  rintro _ _ ⟨rfl, rfl⟩
  refine RW_a ?_
  refine RW_a ?_
  refine RW_lv (ks := [6, 7]) ?_
  refine CW_ret ?_
  exact QW_ret2 rfl rfl rfl [_] ⟨rfl, rfl⟩ (Prm.nil _)
theorem seek_ct (S : Src) (h : S.Ok) (pos k r sz : Nat) (hr : r < S.u) (hsz : k * S.u + r + sz < S.size) :
  Ct Tryd.prog 53 [pv S.bf, nv sz] (S.fb (pos) (k) (r) :: S.rb :: S.G) (fun v q => v = .nilIface ∧ ∃ k' r', r' < S.u ∧ k' * S.u + r' = k * S.u + r + sz ∧ q = S.fb pos k' r' :: S.rb :: S.G) := by
 have hu1 := h.u1
 have hs2 := h.ss2
 have hsz1 := h.sz
 have hku : (k + 1) * S.u = k * S.u + S.u := Nat.succ_mul _ _
 refine Ct_of Tryd.func53 rfl Tryd.ntmps53 rfl ?_
 intro E F
 simp only [numL, List.nil_append, List.cons_append]
 refine CW_sr ?_
 refine RW_a ?_
 refine RW_lv (ks := [0, 1]) ?_
 refine CW_sr ?_
 refine RW_a ?_
 refine RW_lv (ks := [0, 1, 5]) ?_
 refine CW_sr ?_
 refine RW_a ?_
 refine RW_lv (ks := [0, 1, 5]) ?_
 refine CW_cut (σ := Bool × Nat) (fun q => [(0, pv S.bf), (1, nv sz), (5, .bool q.1), (6, nv q.2)]) (fun _ => S.fb (pos) (k) (r) :: S.rb :: (S.G ++ F)) (fun q => q.1 = S.mini ∧ q.2 = S.u) ?_ ?_
 ·skip
  refine CW_sr ?_
  refine RW_m ?_
  refine RW_l (Yl_nilCheck rfl) ?_
  refine RW_l (Yl_field rfl fo_93_3) ?_
  refine RW_h (Yh_ld (v := nv S.size) sc_2) ?_
  refine RW_l (Yl_lss rfl rfl) ?_
  refine RW_lv (ks := [0, 1, 5, 13]) ?_
  refine CW_cond rfl (fun hc1 => ?_) (fun hc1 => ?_)
  ·replace hc1 := of_decide_eq_true hc1
   obtain ⟨hm1, hm2⟩ : S.mini = true ∧ S.u = 64 := by rcases h.sel with ⟨e1, e2, e3⟩ | ⟨e1, e2, e3⟩; exact ⟨e1, e3⟩; omega
   refine CW_sr ?_
   refine RW_a ?_
   refine RW_lv (ks := [0, 1, 5]) ?_
   refine CW_region ?_
   refine RW_a ?_
   refine RW_nil ?_
   first
    | exact QW_cut (true, 64) ⟨hm1.symm, hm2.symm⟩ (by repeat (first | exact Prm.nil _ | exact Rem.here _ _ | apply Rem.there | apply Prm.cons)) (.cons rfl (.cons rfl (.cons rfl (.cons rfl .nil))))
    | exact QW_cut (false, S.ss) ⟨hm1.symm, hm2.symm⟩ (by repeat (first | exact Prm.nil _ | exact Rem.here _ _ | apply Rem.there | apply Prm.cons)) (.cons rfl (.cons rfl (.cons rfl (.cons rfl .nil))))
  ·replace hc1 := of_decide_eq_false hc1
   obtain ⟨hm1, hm2⟩ : S.mini = false ∧ S.u = S.ss := by rcases h.sel with ⟨e1, e2, e3⟩ | ⟨e1, e2, e3⟩; omega; exact ⟨e1, e3⟩
   refine CW_region ?_
   refine RW_m ?_
   refine RW_l (Yl_nilCheck rfl) ?_
   refine RW_l (Yl_field rfl fo_93_8) ?_
   refine RW_h (Yh_ld (v := pv S.br) sc_78) ?_
   refine RW_l (Yl_nilCheck rfl) ?_
   refine RW_l (Yl_field rfl fo_89_1) ?_
   refine RW_h (Yh_lh (v := uv S.ss) sc_67 h.rd1) ?_
   refine RW_l (Yl_conv (c := ((S.ss : Nat) : Int)) rfl in_67 in_2 (wi64 (by omega) (by omega))) ?_
   refine RW_a ?_
   refine RW_nil ?_
   first
    | exact QW_cut (true, 64) ⟨hm1.symm, hm2.symm⟩ (by repeat (first | exact Prm.nil _ | exact Rem.here _ _ | apply Rem.there | apply Prm.cons)) (.cons rfl (.cons rfl (.cons rfl (.cons rfl .nil))))
    | exact QW_cut (false, S.ss) ⟨hm1.symm, hm2.symm⟩ (by repeat (first | exact Prm.nil _ | exact Rem.here _ _ | apply Rem.there | apply Prm.cons)) (.cons rfl (.cons rfl (.cons rfl (.cons rfl .nil))))
 ·rintro ⟨b, u⟩ ⟨hb, hu⟩
  simp only at hb hu
  subst hb hu
  refine CW_sr ?_
  refine RW_a ?_
  refine RW_lv (ks := [0, 1, 5, 6, 7]) ?_
  refine CW_sr ?_
  refine RW_a ?_
  refine RW_lv (ks := [0, 1, 5, 6, 7]) ?_
  refine CW_cut (σ := Nat × Nat) (fun q => [(0, pv S.bf), (1, nv sz), (5, .bool S.mini), (6, nv S.u), (7, nv q.1)]) (fun q => S.fb (pos) (q.2) (0) :: S.rb :: (S.G ++ F)) (fun q => q.2 * S.u = k * S.u + r + q.1 ∧ q.1 ≤ sz) ?_ ?_
  ·skip
   refine CW_sr ?_
   refine RW_m ?_
   refine RW_l (Yl_nilCheck rfl) ?_
   refine RW_l (Yl_field rfl fo_93_6) ?_
   refine RW_h (Yh_ld (v := nv (r)) sc_2) ?_
   refine RW_l (Yl_gtr rfl rfl) ?_
   refine RW_lv (ks := [0, 1, 5, 6, 7, 26]) ?_
   refine CW_cond rfl (fun hc2 => ?_) (fun hc2 => ?_)
   ·replace hc2 := of_decide_eq_true hc2
    refine CW_seq ?_
    refine CW_sr ?_
    refine RW_m ?_
    refine RW_m ?_
    refine RW_l (Yl_nilCheck rfl) ?_
    refine RW_l (Yl_field rfl fo_93_6) ?_
    refine RW_h (Yh_ld (v := nv (r)) sc_2) ?_
    refine RW_l (Yl_sub (c := ((S.u - r : Nat) : Int)) rfl rfl (by rw [wi64 (by omega) (by omega)]; omega)) ?_
    refine RW_m ?_
    refine RW_l (Yl_leq rfl rfl) ?_
    refine RW_lv (ks := [0, 1, 5, 6, 7, 34]) ?_
    refine CW_cond rfl (fun hc3 => ?_) (fun hc3 => ?_)
    ·replace hc3 := of_decide_eq_true hc3
     refine CW_seq ?_
     refine CW_draw [16] _ mixed (Sub.refl _) ?_
     refine RD_l 0 rfl (Yl_move rfl) ?_
     refine RD_l 1 rfl (Yl_move rfl) ?_
     refine RD_l 2 rfl (Yl_nilCheck rfl) ?_
     refine RD_l 3 rfl (Yl_field rfl fo_93_8) ?_
     refine RD_l 5 rfl (Yl_move rfl) ?_
     refine RD_l 6 rfl (Yl_nilCheck rfl) ?_
     refine RD_l 7 rfl (Yl_field rfl fo_93_5) ?_
     refine RD_l 9 rfl (Yl_move rfl) ?_
     refine RD_h (i := 4) #[true, true, true, true, false, true, true, true, true, true, false, false, false, false, false, false, false, false] rfl rfl rfl rfl (by kernel_rfl) (fun _ _ _ h => h) (Yh_ld (v := pv S.br) sc_78) ?_
     refine RD_h (i := 8) #[true, true, true, true, true, true, true, true, false, true, false, false, false, false, false, false, false, false] rfl rfl rfl rfl (by kernel_rfl) (fun _ _ _ h => h) (Yh_ld (v := uv (snx S.cs (k))) sc_67) ?_
     refine RD_one (i := 10) (by kernel_rfl) ?_
     refine RO_fx rfl rfl rfl rfl (Fx_callQ ok_60 (vs := [pv S.br, uv (snx S.cs (k)), .bool S.mini]) (R := fun v => v = .tuple #[uv (snx S.cs (k + 1)), .nilIface]) rfl (Pick.cons (.there _ (.here _ _)) (pick_mid _ [_] _)) (h.nx (k) (by omega))) ?_
     rintro _ _ ⟨rfl, rfl⟩
     refine ⟨Or.inr (Sub.refl _), ?_⟩
     refine RD_l 11 rfl (Yl_move rfl) ?_
     refine RD_l 12 rfl (Yl_extract (v := uv (snx S.cs (k + 1))) rfl rfl) ?_
     refine RD_l 13 rfl (Yl_extract (v := .nilIface) rfl rfl) ?_
     refine RD_l 14 rfl (Yl_nilCheck rfl) ?_
     refine RD_l 15 rfl (Yl_field rfl fo_93_5) ?_
     refine RD_one (i := 16) (by kernel_rfl) ?_
     refine RO_fx0 rfl rfl rfl (Fx_store (v := uv (snx S.cs (k + 1))) rfl rfl sz_67 rfl (by repeat (first | exact Rep.here _ _ _ | apply Rep.there)) (by simp [fiF])) ?_
     rintro _ _ rfl
     refine ⟨Or.inl (by kernel_rfl), ?_⟩
     refine RD_l 17 rfl (Yl_assign rfl) ?_
     refine (RD_done (by kernel_rfl) (QW_lv (ks := [0, 1, 5, 6, 7, 8]) ?_))
     refine CW_seq ?_
     refine CW_sr ?_
     refine RW_m ?_
     refine RW_l (Yl_ifNeNil rfl if_105) ?_
     refine RW_lv (ks := [0, 1, 5, 6, 7, 8, 52]) ?_
     refine CW_cond rfl (fun hc4 => ?_) (fun hc4 => ?_)
     ·skip
      exact absurd hc4 (by decide)
     ·skip
      refine (CW_skip (QW_lv (ks := [0, 1, 5, 6, 7]) ?_))
      refine CW_sr ?_
      refine RW_m ?_
      refine RW_m ?_
      refine RW_m ?_
      refine RW_l (Yl_nilCheck rfl) ?_
      refine RW_l (Yl_field rfl fo_93_6) ?_
      refine RW_h (Yh_ld (v := nv (r)) sc_2) ?_
      refine RW_l (Yl_sub (c := ((S.u - r : Nat) : Int)) rfl rfl (by rw [wi64 (by omega) (by omega)]; omega)) ?_
      refine RW_l (Yl_add (c := ((S.u - r : Nat) : Int)) rfl rfl (by rw [wi64 (by omega) (by omega)]; omega)) ?_
      refine RW_a ?_
      refine RW_lv (ks := [0, 1, 5, 6, 7]) ?_
      refine CW_sr ?_
      refine RW_m ?_
      refine RW_l (Yl_nilCheck rfl) ?_
      refine RW_l (Yl_field rfl fo_93_6) ?_
      refine RW_fx0 rfl rfl (Fx_store (v := nv 0) rfl rfl sz_2 rfl (by repeat (first | exact Rep.here _ _ _ | apply Rep.there)) (by simp [fiF])) ?_
      rintro _ _ rfl
      refine RW_lv (ks := [0, 1, 5, 6, 7]) ?_
      refine CW_sr ?_
      refine RW_m ?_
      refine RW_m ?_
      refine RW_l (Yl_eql rfl rfl) ?_
      refine RW_lv (ks := [0, 1, 5, 6, 7, 67]) ?_
      refine CW_cond rfl (fun hc5 => ?_) (fun hc5 => ?_)
      ·replace hc5 := of_decide_eq_true hc5
       refine CW_sr ?_
       refine RW_a ?_
       refine RW_lv (ks := [4]) ?_
       refine CW_ret ?_
       refine QW_ret_then ?_
       refine QW_ret_then ?_
       first
        | exact QW_ret1 rfl rfl (S.fb (pos) (k + 1) (0) :: S.rb :: S.G) ⟨rfl, k + 1, 0, by omega, by omega, rfl⟩ (Prm.nil _)
        | exact QW_ret1 rfl rfl (S.fb (pos) (k) (r + sz) :: S.rb :: S.G) ⟨rfl, k, r + sz, by omega, by omega, rfl⟩ (Prm.nil _)
        | exact QW_ret1 rfl rfl (S.fb (pos) (k1 + 1) (0) :: S.rb :: S.G) ⟨rfl, k1 + 1, 0, by omega, by omega, rfl⟩ (Prm.nil _)
        | exact QW_ret1 rfl rfl (S.fb (pos) (k1) (sz - j) :: S.rb :: S.G) ⟨rfl, k1, sz - j, by omega, by omega, rfl⟩ (Prm.nil _)
      ·replace hc5 := of_decide_eq_false hc5
       refine (CW_skip (QW_lv (ks := [0, 1, 5, 6, 7]) ?_))
       refine CW_sr ?_
       refine RW_m ?_
       refine RW_l (Yl_nilCheck rfl) ?_
       refine RW_l (Yl_field rfl fo_93_5) ?_
       refine RW_h (Yh_ld (v := uv (snx S.cs (k + 1))) sc_67) ?_
       refine RW_l (Yl_eql rfl rfl) ?_
       refine RW_lv (ks := [0, 1, 5, 6, 7, 80]) ?_
       refine CW_cond rfl (fun hc6 => ?_) (fun hc6 => ?_)
       ·replace hc6 := of_decide_eq_true hc6
        exact absurd hc6 (by have := h.cs1 (k + 1) (by omega); omega)
       ·replace hc6 := of_decide_eq_false hc6
        refine CW_skip ?_
        first
         | exact QW_cut (S.u - r, k + 1) ⟨by simp only; omega, by simp only; omega⟩ (by repeat (first | exact Prm.nil _ | exact Rem.here _ _ | apply Rem.there | apply Prm.cons)) (.cons rfl (.cons rfl (.cons rfl (.cons rfl (.cons rfl .nil)))))
         | (have e0 : r = 0 := (by omega); subst e0; exact QW_cut (0, k) ⟨by simp only; omega, Nat.zero_le _⟩ (by repeat (first | exact Prm.nil _ | exact Rem.here _ _ | apply Rem.there | apply Prm.cons)) (.cons rfl (.cons rfl (.cons rfl (.cons rfl (.cons rfl .nil))))))
    ·replace hc3 := of_decide_eq_false hc3
     refine CW_sr ?_
     refine RW_m ?_
     refine RW_l (Yl_nilCheck rfl) ?_
     refine RW_l (Yl_field rfl fo_93_6) ?_
     refine RW_h (Yh_ld (v := nv (r)) sc_2) ?_
     refine RW_m ?_
     refine RW_l (Yl_add (c := ((r + sz : Nat) : Int)) rfl rfl (wi64 (by omega) (by omega))) ?_
     refine RW_l (Yl_nilCheck rfl) ?_
     refine RW_l (Yl_field rfl fo_93_6) ?_
     refine RW_fx0 rfl rfl (Fx_store (v := nv (r + sz)) rfl rfl sz_2 rfl (by repeat (first | exact Rep.here _ _ _ | apply Rep.there)) (by simp [fiF])) ?_
     rintro _ _ rfl
     refine RW_lv (ks := []) ?_
     refine CW_sr ?_
     refine RW_a ?_
     refine RW_lv (ks := [4]) ?_
     refine CW_ret ?_
     refine QW_ret_then ?_
     refine QW_ret_then ?_
     first
      | exact QW_ret1 rfl rfl (S.fb (pos) (k + 1) (0) :: S.rb :: S.G) ⟨rfl, k + 1, 0, by omega, by omega, rfl⟩ (Prm.nil _)
      | exact QW_ret1 rfl rfl (S.fb (pos) (k) (r + sz) :: S.rb :: S.G) ⟨rfl, k, r + sz, by omega, by omega, rfl⟩ (Prm.nil _)
      | exact QW_ret1 rfl rfl (S.fb (pos) (k1 + 1) (0) :: S.rb :: S.G) ⟨rfl, k1 + 1, 0, by omega, by omega, rfl⟩ (Prm.nil _)
      | exact QW_ret1 rfl rfl (S.fb (pos) (k1) (sz - j) :: S.rb :: S.G) ⟨rfl, k1, sz - j, by omega, by omega, rfl⟩ (Prm.nil _)
   ·replace hc2 := of_decide_eq_false hc2
    refine CW_skip ?_
    first
     | exact QW_cut (S.u - r, k + 1) ⟨by simp only; omega, by simp only; omega⟩ (by repeat (first | exact Prm.nil _ | exact Rem.here _ _ | apply Rem.there | apply Prm.cons)) (.cons rfl (.cons rfl (.cons rfl (.cons rfl (.cons rfl .nil)))))
     | (have e0 : r = 0 := (by omega); subst e0; exact QW_cut (0, k) ⟨by simp only; omega, Nat.zero_le _⟩ (by repeat (first | exact Prm.nil _ | exact Rem.here _ _ | apply Rem.there | apply Prm.cons)) (.cons rfl (.cons rfl (.cons rfl (.cons rfl (.cons rfl .nil))))))
  ·rintro ⟨j0, k0⟩ ⟨hk0, hj0⟩
   simp only at hk0 hj0 ⊢
   refine CW_block ?_
   refine CW_lp (σ := Nat × Nat) (fun q => [(0, pv S.bf), (1, nv sz), (5, .bool S.mini), (6, nv S.u), (7, nv q.1)]) (fun q => S.fb (pos) (q.2) (0) :: S.rb :: (S.G ++ F)) (fun q => q.2 * S.u = k * S.u + r + q.1 ∧ q.1 ≤ sz) (fun q => sz - q.1) (j0, k0) ⟨hk0, hj0⟩ ?_
   rintro ⟨j, k1⟩ ⟨hk1, hj1⟩
   simp only at hk1 hj1 ⊢
   have hku1 : (k1 + 1) * S.u = k1 * S.u + S.u := Nat.succ_mul _ _
   refine CW_block ?_
   refine CW_sr ?_
   refine RW_m ?_
   refine RW_m ?_
   refine RW_l (Yl_sub (c := ((sz - j : Nat) : Int)) rfl rfl (by rw [wi64 (by omega) (by omega)]; omega)) ?_
   refine RW_m ?_
   refine RW_l (Yl_lss rfl rfl) ?_
   refine RW_lv (ks := [0, 1, 5, 6, 7, 92]) ?_
   refine CW_cond rfl (fun hc7 => ?_) (fun hc7 => ?_)
   ·replace hc7 := of_decide_eq_true hc7
    refine CW_sr ?_
    refine RW_m ?_
    refine RW_m ?_
    refine RW_m ?_
    refine RW_l (Yl_sub (c := ((sz - j : Nat) : Int)) rfl rfl (by rw [wi64 (by omega) (by omega)]; omega)) ?_
    refine RW_l (Yl_nilCheck rfl) ?_
    refine RW_l (Yl_field rfl fo_93_6) ?_
    refine RW_fx0 rfl rfl (Fx_store (v := nv (sz - j)) rfl rfl sz_2 rfl (by repeat (first | exact Rep.here _ _ _ | apply Rep.there)) (by simp [fiF])) ?_
    rintro _ _ rfl
    refine RW_lv (ks := []) ?_
    refine CW_sr ?_
    refine RW_a ?_
    refine RW_lv (ks := [4]) ?_
    refine CW_ret ?_
    refine QW_ret_block ?_
    refine QW_ret_then ?_
    refine QW_ret_block ?_
    first
     | exact QW_ret1 rfl rfl (S.fb (pos) (k + 1) (0) :: S.rb :: S.G) ⟨rfl, k + 1, 0, by omega, by omega, rfl⟩ (Prm.nil _)
     | exact QW_ret1 rfl rfl (S.fb (pos) (k) (r + sz) :: S.rb :: S.G) ⟨rfl, k, r + sz, by omega, by omega, rfl⟩ (Prm.nil _)
     | exact QW_ret1 rfl rfl (S.fb (pos) (k1 + 1) (0) :: S.rb :: S.G) ⟨rfl, k1 + 1, 0, by omega, by omega, rfl⟩ (Prm.nil _)
     | exact QW_ret1 rfl rfl (S.fb (pos) (k1) (sz - j) :: S.rb :: S.G) ⟨rfl, k1, sz - j, by omega, by omega, rfl⟩ (Prm.nil _)
   ·replace hc7 := of_decide_eq_false hc7
    refine CW_sr ?_
    refine RW_m ?_
    refine RW_m ?_
    refine RW_l (Yl_add (c := ((j + S.u : Nat) : Int)) rfl rfl (wi64 (by omega) (by omega))) ?_
    refine RW_a ?_
    refine RW_lv (ks := [0, 1, 5, 6, 7]) ?_
    refine CW_seq ?_
    refine CW_draw [16] _ mixed (Sub.refl _) ?_
    refine RD_l 0 rfl (Yl_move rfl) ?_
    refine RD_l 1 rfl (Yl_move rfl) ?_
    refine RD_l 2 rfl (Yl_nilCheck rfl) ?_
    refine RD_l 3 rfl (Yl_field rfl fo_93_8) ?_
    refine RD_l 5 rfl (Yl_move rfl) ?_
    refine RD_l 6 rfl (Yl_nilCheck rfl) ?_
    refine RD_l 7 rfl (Yl_field rfl fo_93_5) ?_
    refine RD_l 9 rfl (Yl_move rfl) ?_
    refine RD_h (i := 4) #[true, true, true, true, false, true, true, true, true, true, false, false, false, false, false, false, false, false] rfl rfl rfl rfl (by kernel_rfl) (fun _ _ _ h => h) (Yh_ld (v := pv S.br) sc_78) ?_
    refine RD_h (i := 8) #[true, true, true, true, true, true, true, true, false, true, false, false, false, false, false, false, false, false] rfl rfl rfl rfl (by kernel_rfl) (fun _ _ _ h => h) (Yh_ld (v := uv (snx S.cs (k1))) sc_67) ?_
    refine RD_one (i := 10) (by kernel_rfl) ?_
    refine RO_fx rfl rfl rfl rfl (Fx_callQ ok_60 (vs := [pv S.br, uv (snx S.cs (k1)), .bool S.mini]) (R := fun v => v = .tuple #[uv (snx S.cs (k1 + 1)), .nilIface]) rfl (Pick.cons (.there _ (.here _ _)) (pick_mid _ [_] _)) (h.nx (k1) (by omega))) ?_
    rintro _ _ ⟨rfl, rfl⟩
    refine ⟨Or.inr (Sub.refl _), ?_⟩
    refine RD_l 11 rfl (Yl_move rfl) ?_
    refine RD_l 12 rfl (Yl_extract (v := uv (snx S.cs (k1 + 1))) rfl rfl) ?_
    refine RD_l 13 rfl (Yl_extract (v := .nilIface) rfl rfl) ?_
    refine RD_l 14 rfl (Yl_nilCheck rfl) ?_
    refine RD_l 15 rfl (Yl_field rfl fo_93_5) ?_
    refine RD_one (i := 16) (by kernel_rfl) ?_
    refine RO_fx0 rfl rfl rfl (Fx_store (v := uv (snx S.cs (k1 + 1))) rfl rfl sz_67 rfl (by repeat (first | exact Rep.here _ _ _ | apply Rep.there)) (by simp [fiF])) ?_
    rintro _ _ rfl
    refine ⟨Or.inl (by kernel_rfl), ?_⟩
    refine RD_l 17 rfl (Yl_assign rfl) ?_
    refine (RD_done (by kernel_rfl) (QW_lv (ks := [0, 1, 5, 6, 7, 8]) ?_))
    refine CW_seq ?_
    refine CW_sr ?_
    refine RW_m ?_
    refine RW_l (Yl_ifNeNil rfl if_105) ?_
    refine RW_lv (ks := [0, 1, 5, 6, 7, 8, 119]) ?_
    refine CW_cond rfl (fun hc8 => ?_) (fun hc8 => ?_)
    ·skip
     exact absurd hc8 (by decide)
    ·skip
     refine (CW_skip (QW_lv (ks := [0, 1, 5, 6, 7]) ?_))
     refine CW_sr ?_
     refine RW_m ?_
     refine RW_m ?_
     refine RW_l (Yl_eql rfl rfl) ?_
     refine RW_lv (ks := [0, 1, 5, 6, 7, 123]) ?_
     refine CW_cond rfl (fun hc9 => ?_) (fun hc9 => ?_)
     ·replace hc9 := of_decide_eq_true hc9
      refine CW_sr ?_
      refine RW_a ?_
      refine RW_lv (ks := [4]) ?_
      refine CW_ret ?_
      refine QW_ret_block ?_
      refine QW_ret_then ?_
      refine QW_ret_block ?_
      first
       | exact QW_ret1 rfl rfl (S.fb (pos) (k + 1) (0) :: S.rb :: S.G) ⟨rfl, k + 1, 0, by omega, by omega, rfl⟩ (Prm.nil _)
       | exact QW_ret1 rfl rfl (S.fb (pos) (k) (r + sz) :: S.rb :: S.G) ⟨rfl, k, r + sz, by omega, by omega, rfl⟩ (Prm.nil _)
       | exact QW_ret1 rfl rfl (S.fb (pos) (k1 + 1) (0) :: S.rb :: S.G) ⟨rfl, k1 + 1, 0, by omega, by omega, rfl⟩ (Prm.nil _)
       | exact QW_ret1 rfl rfl (S.fb (pos) (k1) (sz - j) :: S.rb :: S.G) ⟨rfl, k1, sz - j, by omega, by omega, rfl⟩ (Prm.nil _)
     ·replace hc9 := of_decide_eq_false hc9
      refine CW_skip ?_
      refine QW_normal_block ?_
      exact QW_rn (j + S.u, k1 + 1) ⟨by simp only; omega, by simp only; omega⟩ (by simp only; omega)

/-! Walks: stream. -/
theorem stream_ct (S : Src) (h : S.Ok) (pos k r sz : Nat) (hr : r < S.u) (h0 : 0 < sz) (hsz : k * S.u + r + sz ≤ S.size) :
  Ct Tryd.prog 52 [pv S.bf, nv sz] (S.fb (pos) (k) (r) :: S.rb :: S.G) (fun v q => ∃ k' r' g l2 r2 cap, r' < S.u ∧ k' * S.u + r' = k * S.u + r + sz ∧ Run S.ad (k * S.u + r) l2 (k * S.u + r + sz) ∧ Small l2 ∧ (prs l2 ++ r2).length = cap * 2 ∧ cap ≤ 20000 ∧ v = .tuple #[.slice (some ⟨g, 0, none⟩) l2.length cap, .nilIface] ∧ q = (g, blk (prs l2 ++ r2) 128) :: S.fb pos k' r' :: S.rb :: S.G) := by
 have hdv := Nat.div_le_self sz S.ss
 have hdv0 : (0 : Int) ≤ ((sz / S.ss : Nat) : Int) := Int.natCast_nonneg _
 have hu1 := h.u1
 have hs2 := h.ss2
 have hsz1 := h.sz
 have hku : (k + 1) * S.u = k * S.u + S.u := Nat.succ_mul _ _
 refine Ct_of Tryd.func52 rfl Tryd.ntmps52 rfl ?_
 intro E F
 simp only [numL, List.nil_append, List.cons_append]
 refine CW_sr ?_
 refine RW_a ?_
 refine RW_a ?_
 refine RW_lv (ks := [0, 1]) ?_
 refine CW_sr ?_
 refine RW_a ?_
 refine RW_lv (ks := [0, 1, 6]) ?_
 refine CW_sr ?_
 refine RW_a ?_
 refine RW_lv (ks := [0, 1, 6]) ?_
 refine CW_sr ?_
 refine RW_a ?_
 refine RW_lv (ks := [0, 1, 6]) ?_
 refine CW_cut (σ := Bool × Nat × Nat) (fun q => [(0, pv S.bf), (1, nv sz), (6, .bool q.1), (7, nv q.2.1), (8, nv q.2.2)]) (fun _ => S.fb (pos) (k) (r) :: S.rb :: (S.G ++ F)) (fun q => q.1 = S.mini ∧ q.2.1 = sz / S.u + 2 ∧ q.2.2 = S.u) ?_ ?_
 ·skip
  refine CW_sr ?_
  refine RW_m ?_
  refine RW_l (Yl_nilCheck rfl) ?_
  refine RW_l (Yl_field rfl fo_93_3) ?_
  refine RW_h (Yh_ld (v := nv S.size) sc_2) ?_
  refine RW_l (Yl_lss rfl rfl) ?_
  refine RW_lv (ks := [0, 1, 6, 20]) ?_
  refine CW_cond rfl (fun hc1 => ?_) (fun hc1 => ?_)
  ·replace hc1 := of_decide_eq_true hc1
   obtain ⟨hm1, hm2⟩ : S.mini = true ∧ S.u = 64 := by rcases h.sel with ⟨e1, e2, e3⟩ | ⟨e1, e2, e3⟩; exact ⟨e1, e3⟩; omega
   refine CW_sr ?_
   refine RW_a ?_
   refine RW_lv (ks := [0, 1, 6]) ?_
   refine CW_sr ?_
   refine RW_m ?_
   refine RW_l (Yl_quo (c := ((sz / 64 : Nat) : Int)) rfl rfl (by omega) (quoN (b := 64) (by omega))) ?_
   refine RW_l (Yl_add (c := ((sz / 64 + 2 : Nat) : Int)) rfl rfl (wi64 (by omega) (by omega))) ?_
   refine RW_a ?_
   refine RW_lv (ks := [0, 1, 6, 7]) ?_
   refine CW_region ?_
   refine RW_a ?_
   refine RW_nil ?_
   first
    | exact QW_cut (true, sz / 64 + 2, 64) ⟨hm1.symm, by simp only [hm2], hm2.symm⟩ (by repeat (first | exact Prm.nil _ | exact Rem.here _ _ | apply Rem.there | apply Prm.cons)) (.cons rfl (.cons rfl (.cons rfl (.cons rfl (.cons rfl .nil)))))
    | exact QW_cut (false, sz / S.ss + 2, S.ss) ⟨hm1.symm, by simp only [hm2], hm2.symm⟩ (by repeat (first | exact Prm.nil _ | exact Rem.here _ _ | apply Rem.there | apply Prm.cons)) (.cons rfl (.cons rfl (.cons rfl (.cons rfl (.cons rfl .nil)))))
  ·replace hc1 := of_decide_eq_false hc1
   obtain ⟨hm1, hm2⟩ : S.mini = false ∧ S.u = S.ss := by rcases h.sel with ⟨e1, e2, e3⟩ | ⟨e1, e2, e3⟩; omega; exact ⟨e1, e3⟩
   refine CW_sr ?_
   refine RW_m ?_
   refine RW_m ?_
   refine RW_l (Yl_nilCheck rfl) ?_
   refine RW_l (Yl_field rfl fo_93_8) ?_
   refine RW_h (Yh_ld (v := pv S.br) sc_78) ?_
   refine RW_l (Yl_nilCheck rfl) ?_
   refine RW_l (Yl_field rfl fo_89_1) ?_
   refine RW_h (Yh_lh (v := uv S.ss) sc_67 h.rd1) ?_
   refine RW_l (Yl_conv (c := ((S.ss : Nat) : Int)) rfl in_67 in_3 (wi64 (by omega) (by omega))) ?_
   refine RW_l (Yl_quo (c := ((sz / S.ss : Nat) : Int)) rfl rfl (by omega) (quoN (b := S.ss) (by omega))) ?_
   refine RW_l (Yl_add (c := ((sz / S.ss + 2 : Nat) : Int)) rfl rfl (wi64 (by omega) (by omega))) ?_
   refine RW_a ?_
   refine RW_lv (ks := [0, 1, 6, 7]) ?_
   refine CW_region ?_
   refine RW_m ?_
   refine RW_l (Yl_nilCheck rfl) ?_
   refine RW_l (Yl_field rfl fo_93_8) ?_
   refine RW_h (Yh_ld (v := pv S.br) sc_78) ?_
   refine RW_l (Yl_nilCheck rfl) ?_
   refine RW_l (Yl_field rfl fo_89_1) ?_
   refine RW_h (Yh_lh (v := uv S.ss) sc_67 h.rd1) ?_
   refine RW_l (Yl_conv (c := ((S.ss : Nat) : Int)) rfl in_67 in_2 (wi64 (by omega) (by omega))) ?_
   refine RW_a ?_
   refine RW_nil ?_
   first
    | exact QW_cut (true, sz / 64 + 2, 64) ⟨hm1.symm, by simp only [hm2], hm2.symm⟩ (by repeat (first | exact Prm.nil _ | exact Rem.here _ _ | apply Rem.there | apply Prm.cons)) (.cons rfl (.cons rfl (.cons rfl (.cons rfl (.cons rfl .nil)))))
    | exact QW_cut (false, sz / S.ss + 2, S.ss) ⟨hm1.symm, by simp only [hm2], hm2.symm⟩ (by repeat (first | exact Prm.nil _ | exact Rem.here _ _ | apply Rem.there | apply Prm.cons)) (.cons rfl (.cons rfl (.cons rfl (.cons rfl (.cons rfl .nil)))))
 ·rintro ⟨b, l, u⟩ ⟨hb, hl, hu⟩
  simp only at hb hl hu ⊢
  subst hb hu
  have hl2 : 2 ≤ l := by rw [hl]; exact Nat.le_add_left _ _
  have hl4 : l ≤ 20000 := by have := Nat.div_le_div_left (a := sz) (show 64 ≤ S.u by omega) (by omega); omega
  refine CW_sr ?_
  refine RW_m ?_
  refine RW_fx rfl rfl rfl (Fx_makeSlice (z0 := .int .i64 0) (m := 2) (l := 0) (c := (l : Int)) rfl rfl sl_125 by_128 ze_128 rfl rfl (by omega) (by omega) (by omega) (by omega)) ?_
  rintro _ _ ⟨g, rfl, rfl⟩
  refine RW_a ?_
  refine RW_lv (ks := [0, 1, 6, 8, 9]) ?_
  refine CW_sr ?_
  refine RW_a ?_
  refine RW_a ?_
  refine RW_lv (ks := [0, 1, 6, 8, 9, 10, 11]) ?_
  refine CW_cut (σ := Nat × Nat × Nat × List (Nat × Nat) × List Value) (fun q => [(0, pv S.bf), (1, nv sz), (6, .bool S.mini), (8, nv S.u), (9, .slice (some ⟨g, 0, none⟩) q.2.2.2.1.length l), (10, nv q.2.2.1), (11, nv q.1)]) (fun q => (g, blk (prs q.2.2.2.1 ++ q.2.2.2.2) 128) :: S.fb (pos) (q.2.1) (0) :: S.rb :: (S.G ++ F)) (fun q => q.2.1 * S.u = k * S.u + r + q.1 ∧ q.1 < sz ∧ Run S.ad (k * S.u + r) q.2.2.2.1 (k * S.u + r + q.1) ∧ Small q.2.2.2.1 ∧ (prs q.2.2.2.1 ++ q.2.2.2.2).length = l * 2 ∧ q.2.2.2.1.length = q.2.2.1 ∧ q.2.2.1 * S.u ≤ q.1 + S.u) ?_ ?_
  ·skip
   refine CW_sr ?_
   refine RW_m ?_
   refine RW_l (Yl_nilCheck rfl) ?_
   refine RW_l (Yl_field rfl fo_93_6) ?_
   refine RW_h (Yh_ld (v := nv (r)) sc_2) ?_
   refine RW_l (Yl_gtr rfl rfl) ?_
   refine RW_lv (ks := [0, 1, 6, 8, 9, 10, 11, 49]) ?_
   refine CW_cond rfl (fun hc2 => ?_) (fun hc2 => ?_)
   ·replace hc2 := of_decide_eq_true hc2
    have hofk := h.of1 k (by omega)
    refine CW_seq ?_
    refine CW_draw [] _ mixed (Sub.refl _) ?_
    refine RD_l 0 rfl (Yl_move rfl) ?_
    refine RD_l 1 rfl (Yl_nilCheck rfl) ?_
    refine RD_l 2 rfl (Yl_field rfl fo_93_8) ?_
    refine RD_l 4 rfl (Yl_move rfl) ?_
    refine RD_l 5 rfl (Yl_nilCheck rfl) ?_
    refine RD_l 6 rfl (Yl_field rfl fo_93_5) ?_
    refine RD_l 8 rfl (Yl_move rfl) ?_
    refine RD_h (i := 3) #[true, true, true, false, true, true, true, true, true, false, false, false, false, false, false] rfl rfl rfl rfl (by kernel_rfl) (fun _ _ _ h => h) (Yh_ld (v := pv S.br) sc_78) ?_
    refine RD_h (i := 7) #[true, true, true, true, true, true, true, false, true, false, false, false, false, false, false] rfl rfl rfl rfl (by kernel_rfl) (fun _ _ _ h => h) (Yh_ld (v := uv (snx S.cs (k))) sc_67) ?_
    refine RD_one (i := 9) (by kernel_rfl) ?_
    refine RO_fx rfl rfl rfl rfl (Fx_callQ ok_62 (vs := [pv S.br, uv (snx S.cs (k)), .bool S.mini]) (R := fun v => v = .tuple #[nv (S.of_ (k)), .nilIface]) rfl (Pick.cons (.there _ (.there _ (.here _ _))) (pick_mid _ [_, _] _)) (h.off (k) (by omega))) ?_
    rintro _ _ ⟨rfl, rfl⟩
    refine ⟨Or.inr (Sub.refl _), ?_⟩
    refine RD_l 10 rfl (Yl_move rfl) ?_
    refine RD_l 11 rfl (Yl_extract (v := nv (S.of_ k)) rfl rfl) ?_
    refine RD_l 12 rfl (Yl_extract (v := .nilIface) rfl rfl) ?_
    refine RD_l 13 rfl (Yl_assign rfl) ?_
    refine RD_l 14 rfl (Yl_assign rfl) ?_
    refine (RD_done (by kernel_rfl) (QW_lv (ks := [0, 1, 6, 8, 9, 10, 11, 12, 13]) ?_))
    refine CW_seq ?_
    refine CW_sr ?_
    refine RW_m ?_
    refine RW_l (Yl_ifNeNil rfl if_105) ?_
    refine RW_lv (ks := [0, 1, 6, 8, 9, 10, 11, 12, 13, 64]) ?_
    refine CW_cond rfl (fun hc3 => ?_) (fun hc3 => ?_)
    ·skip
     exact absurd hc3 (by decide)
    ·skip
     refine (CW_skip (QW_lv (ks := [0, 1, 6, 8, 9, 10, 11, 12]) ?_))
     refine CW_cut (σ := Nat × List Value) (fun q => [(0, pv S.bf), (1, nv sz), (6, .bool S.mini), (8, nv S.u), (9, .slice (some ⟨g, 0, none⟩) 1 l), (10, nv 0), (11, nv 0)]) (fun q => (g, blk (prs [(S.of_ k + r, q.1)] ++ q.2) 128) :: S.fb (pos) (k) (r) :: S.rb :: (S.G ++ F)) (fun q => q.1 = min sz (S.u - r) ∧ (prs [(S.of_ k + r, q.1)] ++ q.2).length = l * 2) ?_ ?_
     ·skip
      refine CW_sr ?_
      refine RW_m ?_
      refine RW_m ?_
      refine RW_l (Yl_nilCheck rfl) ?_
      refine RW_l (Yl_field rfl fo_93_6) ?_
      refine RW_h (Yh_ld (v := nv (r)) sc_2) ?_
      refine RW_l (Yl_sub (c := ((S.u - r : Nat) : Int)) rfl rfl (by rw [wi64 (by omega) (by omega)]; omega)) ?_
      refine RW_m ?_
      refine RW_l (Yl_geq rfl rfl) ?_
      refine RW_lv (ks := [0, 1, 6, 8, 9, 10, 11, 12, 73]) ?_
      refine CW_cond rfl (fun hc4 => ?_) (fun hc4 => ?_)
      ·replace hc4 := of_decide_eq_true hc4
       refine CW_region ?_
       refine RW_m ?_
       refine RW_m ?_
       refine RW_m ?_
       refine RW_l (Yl_nilCheck rfl) ?_
       refine RW_l (Yl_field rfl fo_93_6) ?_
       refine RW_h (Yh_ld (v := nv (r)) sc_2) ?_
       refine RW_l (Yl_add (c := ((S.of_ k + r : Nat) : Int)) rfl rfl (wi64 (by omega) (by omega))) ?_
       refine RW_m ?_
       refine RW_l (Yl_buildA (cs := [nv (S.of_ k + r), nv (sz)]) un_128 sz_2 ze_128 rfl rfl) ?_
       refine RW_fx rfl rfl rfl (Fx_lit (vs := [.agg [nv (S.of_ k + r), nv (sz)].toArray]) (css := [[nv (S.of_ k + r), nv (sz)]]) (cs := [nv (S.of_ k + r), nv (sz)]) sl_125 ze_128 rfl rfl rfl rfl rfl (by intro c hc; rw [List.mem_singleton.1 hc]; rfl) rfl) ?_
       rintro _ _ ⟨b83, rfl, rfl⟩
       refine RW_fx rfl rfl rfl (Fx_appR (g := g) (xs := prs []) (r := (List.replicate (l * 2) (.int .i64 0))) (news := [nv (S.of_ k + r), nv (sz)]) (T := 128) (n := 0) (cap := l) (m := 1) (c := 1) rfl rfl sl_125 (.here _ _) (.here _ _) (by simp) (length_prs _) rfl (by intro u hu; simp only [List.mem_cons, List.not_mem_nil, or_false] at hu; rcases hu with rfl | rfl <;> rfl) (by omega)) ?_
       rintro _ _ ⟨r1, rfl, hl1, rfl⟩
       refine RW_a ?_
       refine RW_nil ?_
       first
        | exact QW_cut (sz, r1) ⟨by simp only; omega, hl1⟩ (by repeat (first | exact Prm.nil _ | exact Rem.here _ _ | apply Rem.there | apply Prm.cons)) (.cons rfl (.cons rfl (.cons rfl (.cons rfl (.cons rfl (.cons rfl (.cons rfl .nil)))))))
        | exact QW_cut (S.u - r, r1) ⟨by simp only; omega, hl1⟩ (by repeat (first | exact Prm.nil _ | exact Rem.here _ _ | apply Rem.there | apply Prm.cons)) (.cons rfl (.cons rfl (.cons rfl (.cons rfl (.cons rfl (.cons rfl (.cons rfl .nil)))))))
      ·replace hc4 := of_decide_eq_false hc4
       refine CW_draw [15] _ mixed (Sub.refl _) ?_
       refine RD_l 0 rfl (Yl_move rfl) ?_
       refine RD_l 1 rfl (Yl_move rfl) ?_
       refine RD_l 2 rfl (Yl_move rfl) ?_
       refine RD_l 3 rfl (Yl_nilCheck rfl) ?_
       refine RD_l 4 rfl (Yl_field rfl fo_93_6) ?_
       refine RD_l 7 rfl (Yl_move rfl) ?_
       refine RD_l 8 rfl (Yl_move rfl) ?_
       refine RD_l 9 rfl (Yl_nilCheck rfl) ?_
       refine RD_l 10 rfl (Yl_field rfl fo_93_6) ?_
       refine RD_h (i := 5) #[true, true, true, true, true, false, false, true, true, true, true, true, true, false, false, false, false] rfl rfl rfl rfl (by kernel_rfl) (fun _ _ _ h => h) (Yh_ld (v := nv (r)) sc_2) ?_
       refine RD_l 6 rfl (Yl_add (c := ((S.of_ k + r : Nat) : Int)) rfl rfl (wi64 (by omega) (by omega))) ?_
       refine RD_h (i := 11) #[true, true, true, true, true, true, true, true, true, true, true, false, false, false, false, false, false] rfl rfl rfl rfl (by kernel_rfl) (fun _ _ _ h => h) (Yh_ld (v := nv (r)) sc_2) ?_
       refine RD_l 12 rfl (Yl_sub (c := ((S.u - r : Nat) : Int)) rfl rfl (by rw [wi64 (by omega) (by omega)]; omega)) ?_
       refine RD_l 13 rfl (Yl_buildA (cs := [nv (S.of_ k + r), nv (S.u - r)]) un_128 sz_2 ze_128 rfl rfl) ?_
       refine RD_one (i := 14) (by kernel_rfl) ?_
       refine RO_fx rfl rfl rfl rfl (Fx_lit (vs := [.agg [nv (S.of_ k + r), nv (S.u - r)].toArray]) (css := [[nv (S.of_ k + r), nv (S.u - r)]]) (cs := [nv (S.of_ k + r), nv (S.u - r)]) sl_125 ze_128 rfl rfl rfl rfl rfl (by intro c hc; rw [List.mem_singleton.1 hc]; rfl) rfl) ?_
       rintro _ _ ⟨b99, rfl, rfl⟩
       refine ⟨Or.inr (Sub.more (Sub.refl _)), ?_⟩
       refine RD_one (i := 15) (by kernel_rfl) ?_
       refine RO_fx rfl rfl rfl rfl (Fx_appR (g := g) (xs := prs []) (r := (List.replicate (l * 2) (.int .i64 0))) (news := [nv (S.of_ k + r), nv (S.u - r)]) (T := 128) (n := 0) (cap := l) (m := 1) (c := 1) rfl rfl sl_125 (.here _ _) (.here _ _) (by simp) (length_prs _) rfl (by intro u hu; simp only [List.mem_cons, List.not_mem_nil, or_false] at hu; rcases hu with rfl | rfl <;> rfl) (by omega)) ?_
       rintro _ _ ⟨r1, rfl, hl1, rfl⟩
       refine ⟨Or.inl (by kernel_rfl), ?_⟩
       refine RD_l 16 rfl (Yl_assign rfl) ?_
       refine RD_done (by kernel_rfl) ?_
       first
        | exact QW_cut (sz, r1) ⟨by simp only; omega, hl1⟩ (by repeat (first | exact Prm.nil _ | exact Rem.here _ _ | apply Rem.there | apply Prm.cons)) (.cons rfl (.cons rfl (.cons rfl (.cons rfl (.cons rfl (.cons rfl (.cons rfl .nil)))))))
        | exact QW_cut (S.u - r, r1) ⟨by simp only; omega, hl1⟩ (by repeat (first | exact Prm.nil _ | exact Rem.here _ _ | apply Rem.there | apply Prm.cons)) (.cons rfl (.cons rfl (.cons rfl (.cons rfl (.cons rfl (.cons rfl (.cons rfl .nil)))))))
     ·rintro ⟨ln, rr⟩ ⟨hln, hlen1⟩
      simp only at hln hlen1 ⊢
      have hrun1 : Run S.ad (k * S.u + r) [(S.of_ k + r, ln)] (k * S.u + r + ln) := h.piece (.nil _) rfl (by omega) (by omega)
      have hsm1 : Small [(S.of_ k + r, ln)] := Small.snoc (L := []) (by intro k hk; simp at hk) (by omega) (by omega)
      refine CW_cut (σ := Nat × Nat × Nat) (fun q => [(0, pv S.bf), (1, nv sz), (6, .bool S.mini), (8, nv S.u), (9, .slice (some ⟨g, 0, none⟩) 1 l), (10, nv 0), (11, nv q.2.2)]) (fun q => (g, blk (prs [(S.of_ k + r, ln)] ++ rr) 128) :: S.fb (pos) (q.1) (q.2.1) :: S.rb :: (S.G ++ F)) (fun q => (S.u - r ≤ sz ∧ q.1 = k + 1 ∧ q.2.1 = 0 ∧ q.2.2 = S.u - r) ∨ (sz < S.u - r ∧ q.1 = k ∧ q.2.1 = r + sz ∧ q.2.2 = 0)) ?_ ?_
      ·skip
       refine CW_sr ?_
       refine RW_m ?_
       refine RW_m ?_
       refine RW_l (Yl_nilCheck rfl) ?_
       refine RW_l (Yl_field rfl fo_93_6) ?_
       refine RW_h (Yh_ld (v := nv (r)) sc_2) ?_
       refine RW_l (Yl_sub (c := ((S.u - r : Nat) : Int)) rfl rfl (by rw [wi64 (by omega) (by omega)]; omega)) ?_
       refine RW_m ?_
       refine RW_l (Yl_leq rfl rfl) ?_
       refine RW_lv (ks := [0, 1, 6, 8, 9, 10, 11, 108]) ?_
       refine CW_cond rfl (fun hc5 => ?_) (fun hc5 => ?_)
       ·replace hc5 := of_decide_eq_true hc5
        refine CW_seq ?_
        refine CW_draw [16] _ mixed (Sub.refl _) ?_
        refine RD_l 0 rfl (Yl_move rfl) ?_
        refine RD_l 1 rfl (Yl_move rfl) ?_
        refine RD_l 2 rfl (Yl_nilCheck rfl) ?_
        refine RD_l 3 rfl (Yl_field rfl fo_93_8) ?_
        refine RD_l 5 rfl (Yl_move rfl) ?_
        refine RD_l 6 rfl (Yl_nilCheck rfl) ?_
        refine RD_l 7 rfl (Yl_field rfl fo_93_5) ?_
        refine RD_l 9 rfl (Yl_move rfl) ?_
        refine RD_h (i := 4) #[true, true, true, true, false, true, true, true, true, true, false, false, false, false, false, false, false, false] rfl rfl rfl rfl (by kernel_rfl) (fun _ _ _ h => h) (Yh_ld (v := pv S.br) sc_78) ?_
        refine RD_h (i := 8) #[true, true, true, true, true, true, true, true, false, true, false, false, false, false, false, false, false, false] rfl rfl rfl rfl (by kernel_rfl) (fun _ _ _ h => h) (Yh_ld (v := uv (snx S.cs (k))) sc_67) ?_
        refine RD_one (i := 10) (by kernel_rfl) ?_
        refine RO_fx rfl rfl rfl rfl (Fx_callQ ok_60 (vs := [pv S.br, uv (snx S.cs (k)), .bool S.mini]) (R := fun v => v = .tuple #[uv (snx S.cs (k + 1)), .nilIface]) rfl (Pick.cons (.there _ (.there _ (.here _ _))) (pick_mid _ [_, _] _)) (h.nx (k) (by omega))) ?_
        rintro _ _ ⟨rfl, rfl⟩
        refine ⟨Or.inr (Sub.refl _), ?_⟩
        refine RD_l 11 rfl (Yl_move rfl) ?_
        refine RD_l 12 rfl (Yl_extract (v := uv (snx S.cs (k + 1))) rfl rfl) ?_
        refine RD_l 13 rfl (Yl_extract (v := .nilIface) rfl rfl) ?_
        refine RD_l 14 rfl (Yl_nilCheck rfl) ?_
        refine RD_l 15 rfl (Yl_field rfl fo_93_5) ?_
        refine RD_one (i := 16) (by kernel_rfl) ?_
        refine RO_fx0 rfl rfl rfl (Fx_store (v := uv (snx S.cs (k + 1))) rfl rfl sz_67 rfl (by repeat (first | exact Rep.here _ _ _ | apply Rep.there)) (by simp [fiF])) ?_
        rintro _ _ rfl
        refine ⟨Or.inl (by kernel_rfl), ?_⟩
        refine RD_l 17 rfl (Yl_assign rfl) ?_
        refine (RD_done (by kernel_rfl) (QW_lv (ks := [0, 1, 6, 8, 9, 10, 11, 13]) ?_))
        refine CW_seq ?_
        refine CW_sr ?_
        refine RW_m ?_
        refine RW_l (Yl_ifNeNil rfl if_105) ?_
        refine RW_lv (ks := [0, 1, 6, 8, 9, 10, 11, 13, 126]) ?_
        refine CW_cond rfl (fun hc6 => ?_) (fun hc6 => ?_)
        ·skip
         exact absurd hc6 (by decide)
        ·skip
         refine (CW_skip (QW_lv (ks := [0, 1, 6, 8, 9, 10, 11]) ?_))
         refine CW_sr ?_
         refine RW_m ?_
         refine RW_m ?_
         refine RW_m ?_
         refine RW_l (Yl_nilCheck rfl) ?_
         refine RW_l (Yl_field rfl fo_93_6) ?_
         refine RW_h (Yh_ld (v := nv (r)) sc_2) ?_
         refine RW_l (Yl_sub (c := ((S.u - r : Nat) : Int)) rfl rfl (by rw [wi64 (by omega) (by omega)]; omega)) ?_
         refine RW_l (Yl_add (c := ((S.u - r : Nat) : Int)) rfl rfl (by rw [wi64 (by omega) (by omega)]; omega)) ?_
         refine RW_a ?_
         refine RW_lv (ks := [0, 1, 6, 8, 9, 10, 11]) ?_
         refine CW_region ?_
         refine RW_m ?_
         refine RW_l (Yl_nilCheck rfl) ?_
         refine RW_l (Yl_field rfl fo_93_6) ?_
         refine RW_fx0 rfl rfl (Fx_store (v := nv 0) rfl rfl sz_2 rfl (by repeat (first | exact Rep.here _ _ _ | apply Rep.there)) (by simp [fiF])) ?_
         rintro _ _ rfl
         refine RW_nil ?_
         first
          | exact QW_cut (k + 1, 0, S.u - r) (.inl ⟨by omega, rfl, rfl, rfl⟩) (by repeat (first | exact Prm.nil _ | exact Rem.here _ _ | apply Rem.there | apply Prm.cons)) (.cons rfl (.cons rfl (.cons rfl (.cons rfl (.cons rfl (.cons rfl (.cons rfl .nil)))))))
          | exact QW_cut (k, r + sz, 0) (.inr ⟨by omega, rfl, rfl, rfl⟩) (by repeat (first | exact Prm.nil _ | exact Rem.here _ _ | apply Rem.there | apply Prm.cons)) (.cons rfl (.cons rfl (.cons rfl (.cons rfl (.cons rfl (.cons rfl (.cons rfl .nil)))))))
       ·replace hc5 := of_decide_eq_false hc5
        refine CW_region ?_
        refine RW_m ?_
        refine RW_l (Yl_nilCheck rfl) ?_
        refine RW_l (Yl_field rfl fo_93_6) ?_
        refine RW_h (Yh_ld (v := nv (r)) sc_2) ?_
        refine RW_m ?_
        refine RW_l (Yl_add (c := ((r + sz : Nat) : Int)) rfl rfl (wi64 (by omega) (by omega))) ?_
        refine RW_l (Yl_nilCheck rfl) ?_
        refine RW_l (Yl_field rfl fo_93_6) ?_
        refine RW_fx0 rfl rfl (Fx_store (v := nv (r + sz)) rfl rfl sz_2 rfl (by repeat (first | exact Rep.here _ _ _ | apply Rep.there)) (by simp [fiF])) ?_
        rintro _ _ rfl
        refine RW_nil ?_
        first
         | exact QW_cut (k + 1, 0, S.u - r) (.inl ⟨by omega, rfl, rfl, rfl⟩) (by repeat (first | exact Prm.nil _ | exact Rem.here _ _ | apply Rem.there | apply Prm.cons)) (.cons rfl (.cons rfl (.cons rfl (.cons rfl (.cons rfl (.cons rfl (.cons rfl .nil)))))))
         | exact QW_cut (k, r + sz, 0) (.inr ⟨by omega, rfl, rfl, rfl⟩) (by repeat (first | exact Prm.nil _ | exact Rem.here _ _ | apply Rem.there | apply Prm.cons)) (.cons rfl (.cons rfl (.cons rfl (.cons rfl (.cons rfl (.cons rfl (.cons rfl .nil)))))))
      ·rintro ⟨k1, r1, j1⟩ hd
       simp only at hd ⊢
       refine CW_seq ?_
       refine CW_sr ?_
       refine RW_m ?_
       refine RW_l (Yl_indexN (b := g) (off := 0) (i := 0) (o' := 0) rfl rfl sl_125 (by omega) rfl) ?_
       refine RW_l (Yl_indexAN (b := g) (off := 0) (i := 1) (o' := 1) rfl rfl ar_128 (by omega) rfl) ?_
       refine RW_h (Yh_ld (v := nv ln) sc_2) ?_
       refine RW_m ?_
       refine RW_l (Yl_eql rfl rfl) ?_
       refine RW_lv (ks := [0, 1, 6, 8, 9, 10, 11, 152]) ?_
       refine CW_cond rfl (fun hc7 => ?_) (fun hc7 => ?_)
       ·replace hc7 := of_decide_eq_true hc7
        have hk9 : k1 * S.u + r1 = k * S.u + r + sz ∧ r1 < S.u := by rcases hd with ⟨a, b, c, d⟩ | ⟨a, b, c, d⟩ <;> subst b <;> omega
        have hrun9 : Run S.ad (k * S.u + r) [(S.of_ k + r, ln)] (k * S.u + r + sz) := by rw [show sz = ln by omega]; exact hrun1
        refine CW_sr ?_
        refine RW_m ?_
        refine RW_a ?_
        refine RW_a ?_
        refine RW_lv (ks := [4, 5]) ?_
        refine CW_ret ?_
        refine QW_ret_then ?_
        refine QW_ret_then ?_
        first
         | exact QW_ret2 rfl rfl rfl ((g, blk (prs l2 ++ r2) 128) :: S.fb (pos) (k1 + 1) (0) :: S.rb :: S.G) ⟨k1 + 1, 0, g, l2, r2, l, by omega, by omega, hrun3, hsm3, hlen3, by omega, rfl, rfl⟩ (Prm.nil _)
         | exact QW_ret2 rfl rfl rfl ((g, blk (prs l2 ++ r2) 128) :: S.fb (pos) (k1) (sz - j) :: S.rb :: S.G) ⟨k1, sz - j, g, l2, r2, l, by omega, by omega, hrun3, hsm3, hlen3, by omega, rfl, rfl⟩ (Prm.nil _)
         | exact QW_ret2 rfl rfl rfl ((g, blk (prs [(S.of_ k + r, ln)] ++ rr) 128) :: S.fb (pos) (k1) (r1) :: S.rb :: S.G) ⟨k1, r1, g, [(S.of_ k + r, ln)], rr, l, by omega, by omega, hrun9, hsm1, hlen1, by omega, rfl, rfl⟩ (Prm.nil _)
       ·replace hc7 := of_decide_eq_false hc7
        have hd2 : S.u - r < sz ∧ k1 = k + 1 ∧ r1 = 0 ∧ ln = j1 ∧ ln = S.u - r := by omega
        obtain ⟨hd3, rfl, rfl, rfl, hlnu⟩ := hd2
        obtain ⟨k1, hk1⟩ : ∃ k1, k1 = k + 1 := ⟨_, rfl⟩
        have hk1u : k1 * S.u = k * S.u + S.u := by rw [hk1]; exact hku
        rw [← hk1]
        refine (CW_skip (QW_lv (ks := [0, 1, 6, 8, 9, 10, 11]) ?_))
        refine CW_seq ?_
        refine CW_sr ?_
        refine RW_m ?_
        refine RW_l (Yl_nilCheck rfl) ?_
        refine RW_l (Yl_field rfl fo_93_5) ?_
        refine RW_h (Yh_ld (v := uv (snx S.cs (k1))) sc_67) ?_
        refine RW_l (Yl_eql rfl rfl) ?_
        refine RW_lv (ks := [0, 1, 6, 8, 9, 10, 11, 158]) ?_
        refine CW_cond rfl (fun hc8 => ?_) (fun hc8 => ?_)
        ·replace hc8 := of_decide_eq_true hc8
         exact absurd hc8 (by have := h.cs1 k1 (by omega); omega)
        ·replace hc8 := of_decide_eq_false hc8
         refine (CW_skip (QW_lv (ks := [0, 1, 6, 8, 9, 10, 11]) ?_))
         refine CW_region ?_
         refine RW_m ?_
         refine RW_l (Yl_add (c := ((1 : Nat) : Int)) rfl rfl (by rw [wi64 (by omega) (by omega)]; omega)) ?_
         refine RW_a ?_
         refine RW_nil ?_
         first
          | exact QW_cut (ln, k1, 1, [(S.of_ k + r, ln)], rr) ⟨by simp only; omega, by simp only; omega, hrun1, hsm1, hlen1, rfl, by simp only; omega⟩ (by repeat (first | exact Prm.nil _ | exact Rem.here _ _ | apply Rem.there | apply Prm.cons)) (.cons rfl (.cons rfl (.cons rfl (.cons rfl (.cons rfl (.cons rfl (.cons rfl .nil)))))))
          | (have e0 : r = 0 := (by omega); subst e0; exact QW_cut (0, k, 0, [], List.replicate (l * 2) (.int .i64 0)) ⟨by simp only; omega, by simp only; omega, .nil _, (by intro k hk; simp at hk), by simp, rfl, by simp⟩ (by repeat (first | exact Prm.nil _ | exact Rem.here _ _ | apply Rem.there | apply Prm.cons)) (.cons rfl (.cons rfl (.cons rfl (.cons rfl (.cons rfl (.cons rfl (.cons rfl .nil))))))))
   ·replace hc2 := of_decide_eq_false hc2
    refine CW_skip ?_
    first
     | exact QW_cut (ln, k1, 1, [(S.of_ k + r, ln)], rr) ⟨by simp only; omega, by simp only; omega, hrun1, hsm1, hlen1, rfl, by simp only; omega⟩ (by repeat (first | exact Prm.nil _ | exact Rem.here _ _ | apply Rem.there | apply Prm.cons)) (.cons rfl (.cons rfl (.cons rfl (.cons rfl (.cons rfl (.cons rfl (.cons rfl .nil)))))))
     | (have e0 : r = 0 := (by omega); subst e0; exact QW_cut (0, k, 0, [], List.replicate (l * 2) (.int .i64 0)) ⟨by simp only; omega, by simp only; omega, .nil _, (by intro k hk; simp at hk), by simp, rfl, by simp⟩ (by repeat (first | exact Prm.nil _ | exact Rem.here _ _ | apply Rem.there | apply Prm.cons)) (.cons rfl (.cons rfl (.cons rfl (.cons rfl (.cons rfl (.cons rfl (.cons rfl .nil))))))))
  ·rintro ⟨j0, k0, i0, ls0, rr0⟩ ⟨hk0, hj0, hrun0, hsm0, hlen0, hls0, hi0⟩
   simp only at hk0 hj0 hrun0 hsm0 hlen0 hls0 hi0 ⊢
   refine CW_block ?_
   refine CW_lp (σ := Nat × Nat × Nat × List (Nat × Nat) × List Value) (fun q => [(0, pv S.bf), (1, nv sz), (6, .bool S.mini), (8, nv S.u), (9, .slice (some ⟨g, 0, none⟩) q.2.2.2.1.length l), (10, nv q.2.2.1), (11, nv q.1)]) (fun q => (g, blk (prs q.2.2.2.1 ++ q.2.2.2.2) 128) :: S.fb (pos) (q.2.1) (0) :: S.rb :: (S.G ++ F)) (fun q => q.2.1 * S.u = k * S.u + r + q.1 ∧ q.1 < sz ∧ Run S.ad (k * S.u + r) q.2.2.2.1 (k * S.u + r + q.1) ∧ Small q.2.2.2.1 ∧ (prs q.2.2.2.1 ++ q.2.2.2.2).length = l * 2 ∧ q.2.2.2.1.length = q.2.2.1 ∧ q.2.2.1 * S.u ≤ q.1 + S.u) (fun q => sz - q.1) (j0, k0, i0, ls0, rr0) ⟨hk0, hj0, hrun0, hsm0, hlen0, hls0, hi0⟩ ?_
   rintro ⟨j, k1, i, ls, rr⟩ ⟨hk1, hj1, hrun, hsm, hlen, hls, hi1⟩
   simp only at hk1 hj1 hrun hsm hlen hls hi1 ⊢
   subst hls
   have hku1 : (k1 + 1) * S.u = k1 * S.u + S.u := Nat.succ_mul _ _
   have hiu1 : (ls.length + 1) * S.u = ls.length * S.u + S.u := Nat.succ_mul _ _
   have hroom := few_parts (by omega) hi1 hj1
   have hof := h.of1 k1 (by omega)
   refine CW_block ?_
   refine CW_seq ?_
   refine CW_sr ?_
   refine RW_m ?_
   refine RW_m ?_
   refine RW_l (Yl_cap rfl sl_125) ?_
   refine RW_l (Yl_geq rfl rfl) ?_
   refine RW_lv (ks := [0, 1, 6, 8, 9, 10, 11, 171]) ?_
   refine CW_cond rfl (fun hc9 => ?_) (fun hc9 => ?_)
   ·replace hc9 := of_decide_eq_true hc9
    exfalso; omega
   ·replace hc9 := of_decide_eq_false hc9
    refine (CW_skip (QW_lv (ks := [0, 1, 6, 8, 9, 10, 11]) ?_))
    refine CW_seq ?_
    refine CW_draw [] _ mixed (Sub.refl _) ?_
    refine RD_l 0 rfl (Yl_move rfl) ?_
    refine RD_l 1 rfl (Yl_nilCheck rfl) ?_
    refine RD_l 2 rfl (Yl_field rfl fo_93_8) ?_
    refine RD_l 4 rfl (Yl_move rfl) ?_
    refine RD_l 5 rfl (Yl_nilCheck rfl) ?_
    refine RD_l 6 rfl (Yl_field rfl fo_93_5) ?_
    refine RD_l 8 rfl (Yl_move rfl) ?_
    refine RD_h (i := 3) #[true, true, true, false, true, true, true, true, true, false, false, false, false, false, false] rfl rfl rfl rfl (by kernel_rfl) (fun _ _ _ h => h) (Yh_ld (v := pv S.br) sc_78) ?_
    refine RD_h (i := 7) #[true, true, true, true, true, true, true, false, true, false, false, false, false, false, false] rfl rfl rfl rfl (by kernel_rfl) (fun _ _ _ h => h) (Yh_ld (v := uv (snx S.cs (k1))) sc_67) ?_
    refine RD_one (i := 9) (by kernel_rfl) ?_
    refine RO_fx rfl rfl rfl rfl (Fx_callQ ok_62 (vs := [pv S.br, uv (snx S.cs (k1)), .bool S.mini]) (R := fun v => v = .tuple #[nv (S.of_ (k1)), .nilIface]) rfl (Pick.cons (.there _ (.there _ (.here _ _))) (pick_mid _ [_, _] _)) (h.off (k1) (by omega))) ?_
    rintro _ _ ⟨rfl, rfl⟩
    refine ⟨Or.inr (Sub.refl _), ?_⟩
    refine RD_l 10 rfl (Yl_move rfl) ?_
    refine RD_l 11 rfl (Yl_extract (v := nv (S.of_ k1)) rfl rfl) ?_
    refine RD_l 12 rfl (Yl_extract (v := .nilIface) rfl rfl) ?_
    refine RD_l 13 rfl (Yl_assign rfl) ?_
    refine RD_l 14 rfl (Yl_assign rfl) ?_
    refine (RD_done (by kernel_rfl) (QW_lv (ks := [0, 1, 6, 8, 9, 10, 11, 14, 15]) ?_))
    refine CW_seq ?_
    refine CW_sr ?_
    refine RW_m ?_
    refine RW_l (Yl_ifNeNil rfl if_105) ?_
    refine RW_lv (ks := [0, 1, 6, 8, 9, 10, 11, 14, 15, 189]) ?_
    refine CW_cond rfl (fun hc10 => ?_) (fun hc10 => ?_)
    ·skip
     exact absurd hc10 (by decide)
    ·skip
     refine (CW_skip (QW_lv (ks := [0, 1, 6, 8, 9, 10, 11, 14]) ?_))
     refine CW_seq ?_
     refine CW_sr ?_
     refine RW_m ?_
     refine RW_m ?_
     refine RW_l (Yl_sub (c := ((sz - j : Nat) : Int)) rfl rfl (by rw [wi64 (by omega) (by omega)]; omega)) ?_
     refine RW_m ?_
     refine RW_l (Yl_lss rfl rfl) ?_
     refine RW_lv (ks := [0, 1, 6, 8, 9, 10, 11, 14, 195]) ?_
     refine CW_cond rfl (fun hc11 => ?_) (fun hc11 => ?_)
     ·replace hc11 := of_decide_eq_true hc11
      refine CW_sr ?_
      refine RW_m ?_
      refine RW_m ?_
      refine RW_m ?_
      refine RW_m ?_
      refine RW_l (Yl_sub (c := ((sz - j : Nat) : Int)) rfl rfl (by rw [wi64 (by omega) (by omega)]; omega)) ?_
      refine RW_l (Yl_buildA (cs := [nv (S.of_ k1), nv (sz - j)]) un_128 sz_2 ze_128 rfl rfl) ?_
      refine RW_fx rfl rfl rfl (Fx_lit (vs := [.agg [nv (S.of_ k1), nv (sz - j)].toArray]) (css := [[nv (S.of_ k1), nv (sz - j)]]) (cs := [nv (S.of_ k1), nv (sz - j)]) sl_125 ze_128 rfl rfl rfl rfl rfl (by intro c hc; rw [List.mem_singleton.1 hc]; rfl) rfl) ?_
      rintro _ _ ⟨b202, rfl, rfl⟩
      refine RW_fx rfl rfl rfl (Fx_appR (g := g) (xs := prs ls) (r := rr) (news := [nv (S.of_ k1), nv (sz - j)]) (T := 128) (n := ls.length) (cap := l) (m := 1) (c := 1) rfl rfl sl_125 (.here _ _) (.here _ _) hlen (length_prs _) rfl (by intro u hu; simp only [List.mem_cons, List.not_mem_nil, or_false] at hu; rcases hu with rfl | rfl <;> rfl) (by omega)) ?_
      rintro _ _ ⟨r1, rfl, hl1, rfl⟩
      rw [prs_snoc] at hl1
      rw [prs_snoc]
      have hrun2 : Run S.ad (k * S.u + r) (ls ++ [(S.of_ k1, sz - j)]) (k * S.u + r + (j + (sz - j))) := by
       have := h.piece (k := k1) (r := 0) (l := sz - j) hrun (by omega) (by omega) (by omega)
       rw [Nat.add_zero, Nat.add_assoc] at this
       exact this
      have hsm2 : Small (ls ++ [(S.of_ k1, sz - j)]) := hsm.snoc (by omega) (by omega)
      refine RW_a ?_
      refine RW_lv (ks := [0, 1, 9, 11]) ?_
      refine CW_sr ?_
      refine RW_m ?_
      refine RW_m ?_
      refine RW_m ?_
      refine RW_l (Yl_sub (c := ((sz - j : Nat) : Int)) rfl rfl (by rw [wi64 (by omega) (by omega)]; omega)) ?_
      refine RW_l (Yl_nilCheck rfl) ?_
      refine RW_l (Yl_field rfl fo_93_6) ?_
      refine RW_fx0 rfl rfl (Fx_store (v := nv (sz - j)) rfl rfl sz_2 rfl (by repeat (first | exact Rep.here _ _ _ | apply Rep.there)) (by simp [fiF])) ?_
      rintro _ _ rfl
      refine RW_lv (ks := [9]) ?_
      refine CW_seq ?_
      have hjs : k * S.u + r + (j + (sz - j)) = k * S.u + r + sz := by omega
      rw [hjs] at hrun2
      refine CW_region ?_
      refine RW_m ?_
      refine RW_fx rfl rfl rfl (Fx_call ok_63 (vs := [.slice (some ⟨g, 0, none⟩) (ls.length + 1) l]) rfl (Pick.cons (.here _ _) (Pick.nil _)) (compress_ct (k * S.u + r) (k * S.u + r + sz) g (ls.length + 1) l (ls ++ [(S.of_ k1, sz - j)]) r1 (by simp) hrun2 hsm2 hl1 (by omega) (by omega))) ?_
      rintro _ _ ⟨_, ⟨l2, r2, hrun3, hsm3, hlen3, rfl, rfl⟩, rfl⟩
      refine RW_a ?_
      refine RW_a ?_
      refine RW_lv (ks := [4, 5]) ?_
      refine CW_ret ?_
      refine QW_ret_then ?_
      refine QW_ret_block ?_
      refine QW_ret_then ?_
      refine QW_ret_block ?_
      first
       | exact QW_ret2 rfl rfl rfl ((g, blk (prs l2 ++ r2) 128) :: S.fb (pos) (k1 + 1) (0) :: S.rb :: S.G) ⟨k1 + 1, 0, g, l2, r2, l, by omega, by omega, hrun3, hsm3, hlen3, by omega, rfl, rfl⟩ (Prm.nil _)
       | exact QW_ret2 rfl rfl rfl ((g, blk (prs l2 ++ r2) 128) :: S.fb (pos) (k1) (sz - j) :: S.rb :: S.G) ⟨k1, sz - j, g, l2, r2, l, by omega, by omega, hrun3, hsm3, hlen3, by omega, rfl, rfl⟩ (Prm.nil _)
       | exact QW_ret2 rfl rfl rfl ((g, blk (prs [(S.of_ k + r, ln)] ++ rr) 128) :: S.fb (pos) (k1) (r1) :: S.rb :: S.G) ⟨k1, r1, g, [(S.of_ k + r, ln)], rr, l, by omega, by omega, hrun9, hsm1, hlen1, by omega, rfl, rfl⟩ (Prm.nil _)
     ·replace hc11 := of_decide_eq_false hc11
      refine CW_sr ?_
      refine RW_m ?_
      refine RW_m ?_
      refine RW_m ?_
      refine RW_l (Yl_buildA (cs := [nv (S.of_ k1), nv (S.u)]) un_128 sz_2 ze_128 rfl rfl) ?_
      refine RW_fx rfl rfl rfl (Fx_lit (vs := [.agg [nv (S.of_ k1), nv (S.u)].toArray]) (css := [[nv (S.of_ k1), nv (S.u)]]) (cs := [nv (S.of_ k1), nv (S.u)]) sl_125 ze_128 rfl rfl rfl rfl rfl (by intro c hc; rw [List.mem_singleton.1 hc]; rfl) rfl) ?_
      rintro _ _ ⟨b216, rfl, rfl⟩
      refine RW_fx rfl rfl rfl (Fx_appR (g := g) (xs := prs ls) (r := rr) (news := [nv (S.of_ k1), nv (S.u)]) (T := 128) (n := ls.length) (cap := l) (m := 1) (c := 1) rfl rfl sl_125 (.here _ _) (.here _ _) hlen (length_prs _) rfl (by intro u hu; simp only [List.mem_cons, List.not_mem_nil, or_false] at hu; rcases hu with rfl | rfl <;> rfl) (by omega)) ?_
      rintro _ _ ⟨r1, rfl, hl1, rfl⟩
      rw [prs_snoc] at hl1
      rw [prs_snoc]
      have hrun2 : Run S.ad (k * S.u + r) (ls ++ [(S.of_ k1, S.u)]) (k * S.u + r + (j + (S.u))) := by
       have := h.piece (k := k1) (r := 0) (l := S.u) hrun (by omega) (by omega) (by omega)
       rw [Nat.add_zero, Nat.add_assoc] at this
       exact this
      have hsm2 : Small (ls ++ [(S.of_ k1, S.u)]) := hsm.snoc (by omega) (by omega)
      refine RW_a ?_
      refine RW_lv (ks := [0, 1, 6, 8, 9, 10, 11]) ?_
      refine CW_sr ?_
      refine RW_m ?_
      refine RW_m ?_
      refine RW_l (Yl_add (c := ((j + S.u : Nat) : Int)) rfl rfl (wi64 (by omega) (by omega))) ?_
      refine RW_a ?_
      refine RW_lv (ks := [0, 1, 6, 8, 9, 10, 11]) ?_
      refine CW_seq ?_
      refine CW_draw [16] _ mixed (Sub.refl _) ?_
      refine RD_l 0 rfl (Yl_move rfl) ?_
      refine RD_l 1 rfl (Yl_move rfl) ?_
      refine RD_l 2 rfl (Yl_nilCheck rfl) ?_
      refine RD_l 3 rfl (Yl_field rfl fo_93_8) ?_
      refine RD_l 5 rfl (Yl_move rfl) ?_
      refine RD_l 6 rfl (Yl_nilCheck rfl) ?_
      refine RD_l 7 rfl (Yl_field rfl fo_93_5) ?_
      refine RD_l 9 rfl (Yl_move rfl) ?_
      refine RD_h (i := 4) #[true, true, true, true, false, true, true, true, true, true, false, false, false, false, false, false, false, false] rfl rfl rfl rfl (by kernel_rfl) (fun _ _ _ h => h) (Yh_ld (v := pv S.br) sc_78) ?_
      refine RD_h (i := 8) #[true, true, true, true, true, true, true, true, false, true, false, false, false, false, false, false, false, false] rfl rfl rfl rfl (by kernel_rfl) (fun _ _ _ h => h) (Yh_ld (v := uv (snx S.cs (k1))) sc_67) ?_
      refine RD_one (i := 10) (by kernel_rfl) ?_
      refine RO_fx rfl rfl rfl rfl (Fx_callQ ok_60 (vs := [pv S.br, uv (snx S.cs (k1)), .bool S.mini]) (R := fun v => v = .tuple #[uv (snx S.cs (k1 + 1)), .nilIface]) rfl (Pick.cons (.there _ (.there _ (.here _ _))) (pick_mid _ [_, _] _)) (h.nx (k1) (by omega))) ?_
      rintro _ _ ⟨rfl, rfl⟩
      refine ⟨Or.inr (Sub.refl _), ?_⟩
      refine RD_l 11 rfl (Yl_move rfl) ?_
      refine RD_l 12 rfl (Yl_extract (v := uv (snx S.cs (k1 + 1))) rfl rfl) ?_
      refine RD_l 13 rfl (Yl_extract (v := .nilIface) rfl rfl) ?_
      refine RD_l 14 rfl (Yl_nilCheck rfl) ?_
      refine RD_l 15 rfl (Yl_field rfl fo_93_5) ?_
      refine RD_one (i := 16) (by kernel_rfl) ?_
      refine RO_fx0 rfl rfl rfl (Fx_store (v := uv (snx S.cs (k1 + 1))) rfl rfl sz_67 rfl (by repeat (first | exact Rep.here _ _ _ | apply Rep.there)) (by simp [fiF])) ?_
      rintro _ _ rfl
      refine ⟨Or.inl (by kernel_rfl), ?_⟩
      refine RD_l 17 rfl (Yl_assign rfl) ?_
      refine (RD_done (by kernel_rfl) (QW_lv (ks := [0, 1, 6, 8, 9, 10, 11, 15]) ?_))
      refine CW_seq ?_
      refine CW_sr ?_
      refine RW_m ?_
      refine RW_l (Yl_ifNeNil rfl if_105) ?_
      refine RW_lv (ks := [0, 1, 6, 8, 9, 10, 11, 15, 238]) ?_
      refine CW_cond rfl (fun hc12 => ?_) (fun hc12 => ?_)
      ·skip
       exact absurd hc12 (by decide)
      ·skip
       refine (CW_skip (QW_lv (ks := [0, 1, 6, 8, 9, 10, 11]) ?_))
       refine CW_sr ?_
       refine RW_m ?_
       refine RW_m ?_
       refine RW_l (Yl_eql rfl rfl) ?_
       refine RW_lv (ks := [0, 1, 6, 8, 9, 10, 11, 242]) ?_
       refine CW_cond rfl (fun hc13 => ?_) (fun hc13 => ?_)
       ·replace hc13 := of_decide_eq_true hc13
        refine CW_seq ?_
        have hjs : k * S.u + r + (j + S.u) = k * S.u + r + sz := by omega
        rw [hjs] at hrun2
        refine CW_region ?_
        refine RW_m ?_
        refine RW_fx rfl rfl rfl (Fx_call ok_63 (vs := [.slice (some ⟨g, 0, none⟩) (ls.length + 1) l]) rfl (Pick.cons (.here _ _) (Pick.nil _)) (compress_ct (k * S.u + r) (k * S.u + r + sz) g (ls.length + 1) l (ls ++ [(S.of_ k1, S.u)]) r1 (by simp) hrun2 hsm2 hl1 (by omega) (by omega))) ?_
        rintro _ _ ⟨_, ⟨l2, r2, hrun3, hsm3, hlen3, rfl, rfl⟩, rfl⟩
        refine RW_a ?_
        refine RW_a ?_
        refine RW_lv (ks := [4, 5]) ?_
        refine CW_ret ?_
        refine QW_ret_then ?_
        refine QW_ret_block ?_
        refine QW_ret_then ?_
        refine QW_ret_block ?_
        first
         | exact QW_ret2 rfl rfl rfl ((g, blk (prs l2 ++ r2) 128) :: S.fb (pos) (k1 + 1) (0) :: S.rb :: S.G) ⟨k1 + 1, 0, g, l2, r2, l, by omega, by omega, hrun3, hsm3, hlen3, by omega, rfl, rfl⟩ (Prm.nil _)
         | exact QW_ret2 rfl rfl rfl ((g, blk (prs l2 ++ r2) 128) :: S.fb (pos) (k1) (sz - j) :: S.rb :: S.G) ⟨k1, sz - j, g, l2, r2, l, by omega, by omega, hrun3, hsm3, hlen3, by omega, rfl, rfl⟩ (Prm.nil _)
         | exact QW_ret2 rfl rfl rfl ((g, blk (prs [(S.of_ k + r, ln)] ++ rr) 128) :: S.fb (pos) (k1) (r1) :: S.rb :: S.G) ⟨k1, r1, g, [(S.of_ k + r, ln)], rr, l, by omega, by omega, hrun9, hsm1, hlen1, by omega, rfl, rfl⟩ (Prm.nil _)
       ·replace hc13 := of_decide_eq_false hc13
        refine (CW_skip (QW_lv (ks := [0, 1, 6, 8, 9, 10, 11]) ?_))
        refine CW_region ?_
        refine RW_m ?_
        refine RW_l (Yl_add (c := ((ls.length + 1 : Nat) : Int)) rfl rfl (wi64 (by omega) (by omega))) ?_
        refine RW_a ?_
        refine RW_nil ?_
        refine QW_normal_block ?_
        exact QW_round (j + S.u, k1 + 1, ls.length + 1, ls ++ [(S.of_ k1, S.u)], r1) ⟨by simp only; omega, by simp only; omega, hrun2, hsm2, hl1, by simp, by simp only; omega⟩ (by simp only; omega) (by repeat (first | exact Prm.nil _ | exact Rem.here _ _ | apply Rem.there | apply Prm.cons)) (.cons rfl (.cons rfl (.cons rfl (.cons rfl (.cons (by simp only [List.length_append, List.length_singleton]; rfl) (.cons rfl (.cons rfl .nil)))))))

/-! Walks: Seek. -/
theorem Seek_ct (S : Src) (h : S.Ok) (p k r to wh : Nat) (off : Int) (dc : List Value) (hbd : (S.bd, blk dc 112) ∈ S.G) (hdc : dc[60]? = some (uv (snx S.cs 0))) (hr : r < S.u) (hp : k * S.u + r = p) (hp2 : p ≤ S.size) (hto : to < S.size) (hw : (wh = 0 ∧ off = (to : Int)) ∨ (wh = 1 ∧ (p : Int) + off = (to : Int))) :
  Ct Tryd.prog 42 [pv S.bf, .int .i64 off, nv wh] (S.fb (p) (k) (r) :: S.rb :: S.G) (fun v q => v = .tuple #[nv to, .nilIface] ∧ ∃ k' r', r' < S.u ∧ k' * S.u + r' = to ∧ q = S.fb to k' r' :: S.rb :: S.G) := by
 have hu1 := h.u1
 have hs2 := h.ss2
 have hsz1 := h.sz
 have hku : (k + 1) * S.u = k * S.u + S.u := Nat.succ_mul _ _
 refine Ct_of Tryd.func42 rfl Tryd.ntmps42 rfl ?_
 intro E F
 simp only [numL, List.nil_append, List.cons_append]
 refine CW_sr ?_
 refine RW_a ?_
 refine RW_a ?_
 refine RW_lv (ks := [0, 1, 2]) ?_
 refine CW_sr ?_
 refine RW_a ?_
 refine RW_lv (ks := [0, 1, 2]) ?_
 refine CW_seq ?_
 refine CW_sr ?_
 refine RW_m ?_
 refine RW_lv (ks := [0, 1, 2, 10]) ?_
 refine CW_block ?_
 refine CW_sr ?_
 refine RW_l (Yl_eql rfl rfl) ?_
 refine RW_a ?_
 refine RW_lv (ks := [0, 1, 2, 10, 14]) ?_
 refine CW_cond rfl (fun hc1 => ?_) (fun hc1 => ?_)
 ·replace hc1 := of_decide_eq_true hc1
  obtain rfl : off = ((to : Nat) : Int) := by omega
  refine CW_region ?_
  refine RW_m ?_
  refine RW_a ?_
  refine RW_nil ?_
  refine QW_normal_block ?_
  refine (QW_lv (ks := [0, 8]) ?_)
  refine CW_seq ?_
  refine CW_block ?_
  refine CW_sr ?_
  refine RW_m ?_
  refine RW_l (Yl_lss rfl rfl) ?_
  refine RW_a ?_
  refine RW_lv (ks := [0, 8, 33]) ?_
  refine CW_cond rfl (fun hc2 => ?_) (fun hc2 => ?_)
  ·replace hc2 := of_decide_eq_true hc2
   exfalso; omega
  ·replace hc2 := of_decide_eq_false hc2
   refine CW_sr ?_
   refine RW_m ?_
   refine RW_m ?_
   refine RW_l (Yl_nilCheck rfl) ?_
   refine RW_l (Yl_field rfl fo_93_3) ?_
   refine RW_h (Yh_ld (v := nv S.size) sc_2) ?_
   refine RW_l (Yl_geq rfl rfl) ?_
   refine RW_a ?_
   refine RW_lv (ks := [0, 8, 43]) ?_
   refine CW_cond rfl (fun hc3 => ?_) (fun hc3 => ?_)
   ·replace hc3 := of_decide_eq_true hc3
    exfalso; omega
   ·replace hc3 := of_decide_eq_false hc3
    refine CW_sr ?_
    refine RW_m ?_
    refine RW_m ?_
    refine RW_l (Yl_nilCheck rfl) ?_
    refine RW_l (Yl_field rfl fo_93_4) ?_
    refine RW_h (Yh_ld (v := nv (p)) sc_2) ?_
    refine RW_l (Yl_eql rfl rfl) ?_
    refine RW_a ?_
    refine RW_lv (ks := [0, 8, 57]) ?_
    refine CW_cond rfl (fun hc4 => ?_) (fun hc4 => ?_)
    ·replace hc4 := of_decide_eq_true hc4
     have hpt : to = p := by omega
     subst hpt
     refine CW_sr ?_
     refine RW_m ?_
     refine RW_a ?_
     refine RW_a ?_
     refine RW_lv (ks := [6, 7]) ?_
     refine CW_ret ?_
     refine QW_ret_block ?_
     refine QW_ret_then ?_
     first
      | exact QW_ret2 rfl rfl rfl (S.fb (to) (k') (r') :: S.rb :: S.G) ⟨rfl, k', r', by omega, by omega, rfl⟩ (Prm.nil _)
      | exact QW_ret2 rfl rfl rfl (S.fb (to) (k) (r) :: S.rb :: S.G) ⟨rfl, k, r, by omega, by omega, rfl⟩ (Prm.nil _)
      | exact QW_ret2 rfl rfl rfl (S.fb (to) (k) (r - (p - to)) :: S.rb :: S.G) ⟨rfl, k, r - (p - to), by omega, by omega, rfl⟩ (Prm.nil _)
    ·replace hc4 := of_decide_eq_false hc4
     refine CW_sr ?_
     refine RW_m ?_
     refine RW_m ?_
     refine RW_l (Yl_nilCheck rfl) ?_
     refine RW_l (Yl_field rfl fo_93_4) ?_
     refine RW_h (Yh_ld (v := nv (p)) sc_2) ?_
     refine RW_l (Yl_gtr rfl rfl) ?_
     refine RW_a ?_
     refine RW_lv (ks := [0, 8, 65]) ?_
     refine CW_cond rfl (fun hc5 => ?_) (fun hc5 => ?_)
     ·replace hc5 := of_decide_eq_true hc5
      refine CW_sr ?_
      refine RW_m ?_
      refine RW_l (Yl_nilCheck rfl) ?_
      refine RW_l (Yl_field rfl fo_93_4) ?_
      refine RW_h (Yh_ld (v := nv (p)) sc_2) ?_
      refine RW_a ?_
      refine RW_lv (ks := [0, 8, 9]) ?_
      refine CW_sr ?_
      refine RW_m ?_
      refine RW_m ?_
      refine RW_l (Yl_nilCheck rfl) ?_
      refine RW_l (Yl_field rfl fo_93_4) ?_
      refine RW_fx0 rfl rfl (Fx_store (v := nv to) rfl rfl sz_2 rfl (by repeat (first | exact Rep.here _ _ _ | apply Rep.there)) (by simp [fiF])) ?_
      rintro _ _ rfl
      refine RW_lv (ks := [0, 8, 9]) ?_
      refine CW_seq ?_
      refine CW_draw [8] _ mixed (Sub.refl _) ?_
      refine RD_l 0 rfl (Yl_move rfl) ?_
      refine RD_l 1 rfl (Yl_nilCheck rfl) ?_
      refine RD_l 2 rfl (Yl_field rfl fo_93_4) ?_
      refine RD_l 4 rfl (Yl_move rfl) ?_
      refine RD_l 5 rfl (Yl_move rfl) ?_
      refine RD_l 6 rfl (Yl_move rfl) ?_
      refine RD_l 7 rfl (Yl_sub (c := ((to - p : Nat) : Int)) rfl rfl (by rw [wi64 (by omega) (by omega)]; omega)) ?_
      refine RD_two (i := 3) (j := 8) (by kernel_rfl) ?_ ?_
      ·skip
       refine RO_fx rfl rfl rfl rfl (Yh.fx (Yh_ld (v := nv (to)) sc_2)) ?_
       rintro _ _ ⟨rfl, rfl⟩
       refine ⟨Or.inr (Sub.refl _), ?_⟩
       refine RD_one (i := 8) (by kernel_rfl) ?_
       refine RO_fx rfl rfl rfl rfl (Fx_call ok_53 (vs := [pv S.bf, nv (to - p)]) rfl (Pick.cons (.here _ _) (Pick.cons (.here _ _) (pick_app S.G F))) (seek_ct S h to k r (to - p) hr (by omega))) ?_
       rintro _ _ ⟨_, ⟨rfl, k', r', hr', hk', rfl⟩, rfl⟩
       simp only [List.cons_append]
       refine ⟨Or.inl (by kernel_rfl), ?_⟩
       refine RD_l 9 rfl (Yl_assign rfl) ?_
       refine RD_l 10 rfl (Yl_assign rfl) ?_
       refine (RD_done (by kernel_rfl) (QW_lv (ks := [6, 7]) ?_))
       refine CW_ret ?_
       refine QW_ret_block ?_
       refine QW_ret_then ?_
       first
        | exact QW_ret2 rfl rfl rfl (S.fb (to) (k') (r') :: S.rb :: S.G) ⟨rfl, k', r', by omega, by omega, rfl⟩ (Prm.nil _)
        | exact QW_ret2 rfl rfl rfl (S.fb (to) (k) (r) :: S.rb :: S.G) ⟨rfl, k, r, by omega, by omega, rfl⟩ (Prm.nil _)
        | exact QW_ret2 rfl rfl rfl (S.fb (to) (k) (r - (p - to)) :: S.rb :: S.G) ⟨rfl, k, r - (p - to), by omega, by omega, rfl⟩ (Prm.nil _)
      ·skip
       refine RO_fx rfl rfl rfl rfl (Fx_call ok_53 (vs := [pv S.bf, nv (to - p)]) rfl (Pick.cons (.here _ _) (Pick.cons (.here _ _) (pick_app S.G F))) (seek_ct S h to k r (to - p) hr (by omega))) ?_
       rintro _ _ ⟨_, ⟨rfl, k', r', hr', hk', rfl⟩, rfl⟩
       simp only [List.cons_append]
       refine ⟨Or.inl (by kernel_rfl), ?_⟩
       refine RD_one (i := 3) (by kernel_rfl) ?_
       refine RO_fx rfl rfl rfl rfl (Yh.fx (Yh_ld (v := nv (to)) sc_2)) ?_
       rintro _ _ ⟨rfl, rfl⟩
       refine ⟨Or.inl (by kernel_rfl), ?_⟩
       refine RD_l 9 rfl (Yl_assign rfl) ?_
       refine RD_l 10 rfl (Yl_assign rfl) ?_
       refine (RD_done (by kernel_rfl) (QW_lv (ks := [6, 7]) ?_))
       refine CW_ret ?_
       refine QW_ret_block ?_
       refine QW_ret_then ?_
       first
        | exact QW_ret2 rfl rfl rfl (S.fb (to) (k') (r') :: S.rb :: S.G) ⟨rfl, k', r', by omega, by omega, rfl⟩ (Prm.nil _)
        | exact QW_ret2 rfl rfl rfl (S.fb (to) (k) (r) :: S.rb :: S.G) ⟨rfl, k, r, by omega, by omega, rfl⟩ (Prm.nil _)
        | exact QW_ret2 rfl rfl rfl (S.fb (to) (k) (r - (p - to)) :: S.rb :: S.G) ⟨rfl, k, r - (p - to), by omega, by omega, rfl⟩ (Prm.nil _)
     ·replace hc5 := of_decide_eq_false hc5
      refine CW_skip ?_
      refine QW_normal_block ?_
      refine (QW_lv (ks := [0, 8]) ?_)
      refine CW_seq ?_
      refine CW_seq ?_
      refine CW_draw [] _ mixed (Sub.refl _) ?_
      refine RD_l 0 rfl (Yl_move rfl) ?_
      refine RD_l 1 rfl (Yl_nilCheck rfl) ?_
      refine RD_l 2 rfl (Yl_field rfl fo_93_6) ?_
      refine RD_l 4 rfl (Yl_move rfl) ?_
      refine RD_l 5 rfl (Yl_nilCheck rfl) ?_
      refine RD_l 6 rfl (Yl_field rfl fo_93_4) ?_
      refine RD_l 8 rfl (Yl_move rfl) ?_
      refine RD_h (i := 3) #[true, true, true, false, true, true, true, true, true, true, false] rfl rfl rfl rfl (by kernel_rfl) (fun _ _ _ h => h) (Yh_ld (v := nv (r)) sc_2) ?_
      refine RD_h (i := 7) #[true, true, true, true, true, true, true, false, true, false, false] rfl rfl rfl rfl (by kernel_rfl) (fun _ _ _ h => h) (Yh_ld (v := nv (p)) sc_2) ?_
      refine RD_l 9 rfl (Yl_sub (c := ((p - to : Nat) : Int)) rfl rfl (by rw [wi64 (by omega) (by omega)]; omega)) ?_
      refine RD_l 10 rfl (Yl_geq rfl rfl) ?_
      refine (RD_done (by kernel_rfl) (QW_lv (ks := [0, 8, 99]) ?_))
      refine CW_cond rfl (fun hc6 => ?_) (fun hc6 => ?_)
      ·replace hc6 := of_decide_eq_true hc6
       refine CW_seq ?_
       refine CW_draw [14] _ mixed (Sub.refl _) ?_
       refine RD_l 0 rfl (Yl_move rfl) ?_
       refine RD_l 1 rfl (Yl_move rfl) ?_
       refine RD_l 2 rfl (Yl_nilCheck rfl) ?_
       refine RD_l 3 rfl (Yl_field rfl fo_93_6) ?_
       refine RD_l 5 rfl (Yl_move rfl) ?_
       refine RD_l 6 rfl (Yl_nilCheck rfl) ?_
       refine RD_l 7 rfl (Yl_field rfl fo_93_4) ?_
       refine RD_l 9 rfl (Yl_move rfl) ?_
       refine RD_h (i := 4) #[true, true, true, true, false, true, true, true, true, true, true, false, false, false, false] rfl rfl rfl rfl (by kernel_rfl) (fun _ _ _ h => h) (Yh_ld (v := nv (r)) sc_2) ?_
       refine RD_h (i := 8) #[true, true, true, true, true, true, true, true, false, true, false, false, false, false, false] rfl rfl rfl rfl (by kernel_rfl) (fun _ _ _ h => h) (Yh_ld (v := nv (p)) sc_2) ?_
       refine RD_l 10 rfl (Yl_sub (c := ((p - to : Nat) : Int)) rfl rfl (by rw [wi64 (by omega) (by omega)]; omega)) ?_
       refine RD_l 11 rfl (Yl_sub (c := ((r - (p - to) : Nat) : Int)) rfl rfl (by rw [wi64 (by omega) (by omega)]; omega)) ?_
       refine RD_l 12 rfl (Yl_nilCheck rfl) ?_
       refine RD_l 13 rfl (Yl_field rfl fo_93_6) ?_
       refine RD_one (i := 14) (by kernel_rfl) ?_
       refine RO_fx0 rfl rfl rfl (Fx_store (v := nv (r - (p - to))) rfl rfl sz_2 rfl (by repeat (first | exact Rep.here _ _ _ | apply Rep.there)) (by simp [fiF])) ?_
       rintro _ _ rfl
       refine ⟨Or.inl (by kernel_rfl), ?_⟩
       refine (RD_done (by kernel_rfl) (QW_lv (ks := [0, 8]) ?_))
       refine CW_sr ?_
       refine RW_m ?_
       refine RW_m ?_
       refine RW_l (Yl_nilCheck rfl) ?_
       refine RW_l (Yl_field rfl fo_93_4) ?_
       refine RW_fx0 rfl rfl (Fx_store (v := nv to) rfl rfl sz_2 rfl (by repeat (first | exact Rep.here _ _ _ | apply Rep.there)) (by simp [fiF])) ?_
       rintro _ _ rfl
       refine RW_lv (ks := [0]) ?_
       refine CW_sr ?_
       refine RW_m ?_
       refine RW_l (Yl_nilCheck rfl) ?_
       refine RW_l (Yl_field rfl fo_93_4) ?_
       refine RW_h (Yh_ld (v := nv (to)) sc_2) ?_
       refine RW_a ?_
       refine RW_a ?_
       refine RW_lv (ks := [6, 7]) ?_
       refine CW_ret ?_
       refine QW_ret_then ?_
       first
        | exact QW_ret2 rfl rfl rfl (S.fb (to) (k') (r') :: S.rb :: S.G) ⟨rfl, k', r', by omega, by omega, rfl⟩ (Prm.nil _)
        | exact QW_ret2 rfl rfl rfl (S.fb (to) (k) (r) :: S.rb :: S.G) ⟨rfl, k, r, by omega, by omega, rfl⟩ (Prm.nil _)
        | exact QW_ret2 rfl rfl rfl (S.fb (to) (k) (r - (p - to)) :: S.rb :: S.G) ⟨rfl, k, r - (p - to), by omega, by omega, rfl⟩ (Prm.nil _)
      ·replace hc6 := of_decide_eq_false hc6
       refine (CW_skip (QW_lv (ks := [0, 8]) ?_))
       refine CW_sr ?_
       refine RW_m ?_
       refine RW_l (Yl_nilCheck rfl) ?_
       refine RW_l (Yl_field rfl fo_93_6) ?_
       refine RW_fx0 rfl rfl (Fx_store (v := nv 0) rfl rfl sz_2 rfl (by repeat (first | exact Rep.here _ _ _ | apply Rep.there)) (by simp [fiF])) ?_
       rintro _ _ rfl
       refine RW_lv (ks := [0, 8]) ?_
       refine CW_sr ?_
       refine RW_m ?_
       refine RW_m ?_
       refine RW_l (Yl_nilCheck rfl) ?_
       refine RW_l (Yl_field rfl fo_93_7) ?_
       refine RW_h (Yh_ld (v := pv S.bd) sc_91) ?_
       refine RW_l (Yl_nilCheck rfl) ?_
       refine RW_l (Yl_field rfl fo_112_11) ?_
       refine RW_h (Yh_load (v := uv (snx S.cs 0)) rfl sc_67 (List.mem_cons_of_mem _ (List.mem_cons_of_mem _ (List.mem_append_left _ hbd))) hdc) ?_
       refine RW_l (Yl_nilCheck rfl) ?_
       refine RW_l (Yl_field rfl fo_93_5) ?_
       refine RW_fx0 rfl rfl (Fx_store (v := uv (snx S.cs 0)) rfl rfl sz_67 rfl (by repeat (first | exact Rep.here _ _ _ | apply Rep.there)) (by simp [fiF])) ?_
       rintro _ _ rfl
       refine RW_lv (ks := [0, 8]) ?_
       refine CW_sr ?_
       refine RW_m ?_
       refine RW_m ?_
       refine RW_l (Yl_nilCheck rfl) ?_
       refine RW_l (Yl_field rfl fo_93_4) ?_
       refine RW_fx0 rfl rfl (Fx_store (v := nv to) rfl rfl sz_2 rfl (by repeat (first | exact Rep.here _ _ _ | apply Rep.there)) (by simp [fiF])) ?_
       rintro _ _ rfl
       refine RW_lv (ks := [0, 8]) ?_
       refine CW_seq ?_
       refine CW_draw [6] _ mixed (Sub.refl _) ?_
       refine RD_l 0 rfl (Yl_move rfl) ?_
       refine RD_l 1 rfl (Yl_nilCheck rfl) ?_
       refine RD_l 2 rfl (Yl_field rfl fo_93_4) ?_
       refine RD_l 4 rfl (Yl_move rfl) ?_
       refine RD_l 5 rfl (Yl_move rfl) ?_
       refine RD_two (i := 3) (j := 6) (by kernel_rfl) ?_ ?_
       ·skip
        refine RO_fx rfl rfl rfl rfl (Yh.fx (Yh_ld (v := nv (to)) sc_2)) ?_
        rintro _ _ ⟨rfl, rfl⟩
        refine ⟨Or.inr (Sub.refl _), ?_⟩
        refine RD_one (i := 6) (by kernel_rfl) ?_
        refine RO_fx rfl rfl rfl rfl (Fx_call ok_53 (vs := [pv S.bf, nv (to)]) rfl (Pick.cons (.here _ _) (Pick.cons (.here _ _) (pick_app S.G F))) (seek_ct S h to 0 0 (to) (by omega) (by omega))) ?_
        rintro _ _ ⟨_, ⟨rfl, k', r', hr', hk', rfl⟩, rfl⟩
        simp only [List.cons_append]
        refine ⟨Or.inl (by kernel_rfl), ?_⟩
        refine RD_l 7 rfl (Yl_assign rfl) ?_
        refine RD_l 8 rfl (Yl_assign rfl) ?_
        refine (RD_done (by kernel_rfl) (QW_lv (ks := [6, 7]) ?_))
        refine CW_ret ?_
        first
         | exact QW_ret2 rfl rfl rfl (S.fb (to) (k') (r') :: S.rb :: S.G) ⟨rfl, k', r', by omega, by omega, rfl⟩ (Prm.nil _)
         | exact QW_ret2 rfl rfl rfl (S.fb (to) (k) (r) :: S.rb :: S.G) ⟨rfl, k, r, by omega, by omega, rfl⟩ (Prm.nil _)
         | exact QW_ret2 rfl rfl rfl (S.fb (to) (k) (r - (p - to)) :: S.rb :: S.G) ⟨rfl, k, r - (p - to), by omega, by omega, rfl⟩ (Prm.nil _)
       ·skip
        refine RO_fx rfl rfl rfl rfl (Fx_call ok_53 (vs := [pv S.bf, nv (to)]) rfl (Pick.cons (.here _ _) (Pick.cons (.here _ _) (pick_app S.G F))) (seek_ct S h to 0 0 (to) (by omega) (by omega))) ?_
        rintro _ _ ⟨_, ⟨rfl, k', r', hr', hk', rfl⟩, rfl⟩
        simp only [List.cons_append]
        refine ⟨Or.inl (by kernel_rfl), ?_⟩
        refine RD_one (i := 3) (by kernel_rfl) ?_
        refine RO_fx rfl rfl rfl rfl (Yh.fx (Yh_ld (v := nv (to)) sc_2)) ?_
        rintro _ _ ⟨rfl, rfl⟩
        refine ⟨Or.inl (by kernel_rfl), ?_⟩
        refine RD_l 7 rfl (Yl_assign rfl) ?_
        refine RD_l 8 rfl (Yl_assign rfl) ?_
        refine (RD_done (by kernel_rfl) (QW_lv (ks := [6, 7]) ?_))
        refine CW_ret ?_
        first
         | exact QW_ret2 rfl rfl rfl (S.fb (to) (k') (r') :: S.rb :: S.G) ⟨rfl, k', r', by omega, by omega, rfl⟩ (Prm.nil _)
         | exact QW_ret2 rfl rfl rfl (S.fb (to) (k) (r) :: S.rb :: S.G) ⟨rfl, k, r, by omega, by omega, rfl⟩ (Prm.nil _)
         | exact QW_ret2 rfl rfl rfl (S.fb (to) (k) (r - (p - to)) :: S.rb :: S.G) ⟨rfl, k, r - (p - to), by omega, by omega, rfl⟩ (Prm.nil _)
 ·replace hc1 := of_decide_eq_false hc1
  refine CW_sr ?_
  refine RW_l (Yl_eql rfl rfl) ?_
  refine RW_a ?_
  refine RW_lv (ks := [0, 1, 2, 10, 17]) ?_
  refine CW_cond rfl (fun hc7 => ?_) (fun hc7 => ?_)
  ·replace hc7 := of_decide_eq_true hc7
   refine CW_region ?_
   refine RW_m ?_
   refine RW_l (Yl_nilCheck rfl) ?_
   refine RW_l (Yl_field rfl fo_93_4) ?_
   refine RW_h (Yh_ld (v := nv (p)) sc_2) ?_
   refine RW_m ?_
   refine RW_l (Yl_add (c := ((to : Nat) : Int)) rfl rfl (by rw [wi64 (by omega) (by omega)]; omega)) ?_
   refine RW_a ?_
   refine RW_nil ?_
   refine QW_normal_block ?_
   refine (QW_lv (ks := [0, 8]) ?_)
   refine CW_seq ?_
   refine CW_block ?_
   refine CW_sr ?_
   refine RW_m ?_
   refine RW_l (Yl_lss rfl rfl) ?_
   refine RW_a ?_
   refine RW_lv (ks := [0, 8, 33]) ?_
   refine CW_cond rfl (fun hc8 => ?_) (fun hc8 => ?_)
   ·replace hc8 := of_decide_eq_true hc8
    exfalso; omega
   ·replace hc8 := of_decide_eq_false hc8
    refine CW_sr ?_
    refine RW_m ?_
    refine RW_m ?_
    refine RW_l (Yl_nilCheck rfl) ?_
    refine RW_l (Yl_field rfl fo_93_3) ?_
    refine RW_h (Yh_ld (v := nv S.size) sc_2) ?_
    refine RW_l (Yl_geq rfl rfl) ?_
    refine RW_a ?_
    refine RW_lv (ks := [0, 8, 43]) ?_
    refine CW_cond rfl (fun hc9 => ?_) (fun hc9 => ?_)
    ·replace hc9 := of_decide_eq_true hc9
     exfalso; omega
    ·replace hc9 := of_decide_eq_false hc9
     refine CW_sr ?_
     refine RW_m ?_
     refine RW_m ?_
     refine RW_l (Yl_nilCheck rfl) ?_
     refine RW_l (Yl_field rfl fo_93_4) ?_
     refine RW_h (Yh_ld (v := nv (p)) sc_2) ?_
     refine RW_l (Yl_eql rfl rfl) ?_
     refine RW_a ?_
     refine RW_lv (ks := [0, 8, 57]) ?_
     refine CW_cond rfl (fun hc10 => ?_) (fun hc10 => ?_)
     ·replace hc10 := of_decide_eq_true hc10
      have hpt : to = p := by omega
      subst hpt
      refine CW_sr ?_
      refine RW_m ?_
      refine RW_a ?_
      refine RW_a ?_
      refine RW_lv (ks := [6, 7]) ?_
      refine CW_ret ?_
      refine QW_ret_block ?_
      refine QW_ret_then ?_
      first
       | exact QW_ret2 rfl rfl rfl (S.fb (to) (k') (r') :: S.rb :: S.G) ⟨rfl, k', r', by omega, by omega, rfl⟩ (Prm.nil _)
       | exact QW_ret2 rfl rfl rfl (S.fb (to) (k) (r) :: S.rb :: S.G) ⟨rfl, k, r, by omega, by omega, rfl⟩ (Prm.nil _)
       | exact QW_ret2 rfl rfl rfl (S.fb (to) (k) (r - (p - to)) :: S.rb :: S.G) ⟨rfl, k, r - (p - to), by omega, by omega, rfl⟩ (Prm.nil _)
     ·replace hc10 := of_decide_eq_false hc10
      refine CW_sr ?_
      refine RW_m ?_
      refine RW_m ?_
      refine RW_l (Yl_nilCheck rfl) ?_
      refine RW_l (Yl_field rfl fo_93_4) ?_
      refine RW_h (Yh_ld (v := nv (p)) sc_2) ?_
      refine RW_l (Yl_gtr rfl rfl) ?_
      refine RW_a ?_
      refine RW_lv (ks := [0, 8, 65]) ?_
      refine CW_cond rfl (fun hc11 => ?_) (fun hc11 => ?_)
      ·replace hc11 := of_decide_eq_true hc11
       refine CW_sr ?_
       refine RW_m ?_
       refine RW_l (Yl_nilCheck rfl) ?_
       refine RW_l (Yl_field rfl fo_93_4) ?_
       refine RW_h (Yh_ld (v := nv (p)) sc_2) ?_
       refine RW_a ?_
       refine RW_lv (ks := [0, 8, 9]) ?_
       refine CW_sr ?_
       refine RW_m ?_
       refine RW_m ?_
       refine RW_l (Yl_nilCheck rfl) ?_
       refine RW_l (Yl_field rfl fo_93_4) ?_
       refine RW_fx0 rfl rfl (Fx_store (v := nv to) rfl rfl sz_2 rfl (by repeat (first | exact Rep.here _ _ _ | apply Rep.there)) (by simp [fiF])) ?_
       rintro _ _ rfl
       refine RW_lv (ks := [0, 8, 9]) ?_
       refine CW_seq ?_
       refine CW_draw [8] _ mixed (Sub.refl _) ?_
       refine RD_l 0 rfl (Yl_move rfl) ?_
       refine RD_l 1 rfl (Yl_nilCheck rfl) ?_
       refine RD_l 2 rfl (Yl_field rfl fo_93_4) ?_
       refine RD_l 4 rfl (Yl_move rfl) ?_
       refine RD_l 5 rfl (Yl_move rfl) ?_
       refine RD_l 6 rfl (Yl_move rfl) ?_
       refine RD_l 7 rfl (Yl_sub (c := ((to - p : Nat) : Int)) rfl rfl (by rw [wi64 (by omega) (by omega)]; omega)) ?_
       refine RD_two (i := 3) (j := 8) (by kernel_rfl) ?_ ?_
       ·skip
        refine RO_fx rfl rfl rfl rfl (Yh.fx (Yh_ld (v := nv (to)) sc_2)) ?_
        rintro _ _ ⟨rfl, rfl⟩
        refine ⟨Or.inr (Sub.refl _), ?_⟩
        refine RD_one (i := 8) (by kernel_rfl) ?_
        refine RO_fx rfl rfl rfl rfl (Fx_call ok_53 (vs := [pv S.bf, nv (to - p)]) rfl (Pick.cons (.here _ _) (Pick.cons (.here _ _) (pick_app S.G F))) (seek_ct S h to k r (to - p) hr (by omega))) ?_
        rintro _ _ ⟨_, ⟨rfl, k', r', hr', hk', rfl⟩, rfl⟩
        simp only [List.cons_append]
        refine ⟨Or.inl (by kernel_rfl), ?_⟩
        refine RD_l 9 rfl (Yl_assign rfl) ?_
        refine RD_l 10 rfl (Yl_assign rfl) ?_
        refine (RD_done (by kernel_rfl) (QW_lv (ks := [6, 7]) ?_))
        refine CW_ret ?_
        refine QW_ret_block ?_
        refine QW_ret_then ?_
        first
         | exact QW_ret2 rfl rfl rfl (S.fb (to) (k') (r') :: S.rb :: S.G) ⟨rfl, k', r', by omega, by omega, rfl⟩ (Prm.nil _)
         | exact QW_ret2 rfl rfl rfl (S.fb (to) (k) (r) :: S.rb :: S.G) ⟨rfl, k, r, by omega, by omega, rfl⟩ (Prm.nil _)
         | exact QW_ret2 rfl rfl rfl (S.fb (to) (k) (r - (p - to)) :: S.rb :: S.G) ⟨rfl, k, r - (p - to), by omega, by omega, rfl⟩ (Prm.nil _)
       ·skip
        refine RO_fx rfl rfl rfl rfl (Fx_call ok_53 (vs := [pv S.bf, nv (to - p)]) rfl (Pick.cons (.here _ _) (Pick.cons (.here _ _) (pick_app S.G F))) (seek_ct S h to k r (to - p) hr (by omega))) ?_
        rintro _ _ ⟨_, ⟨rfl, k', r', hr', hk', rfl⟩, rfl⟩
        simp only [List.cons_append]
        refine ⟨Or.inl (by kernel_rfl), ?_⟩
        refine RD_one (i := 3) (by kernel_rfl) ?_
        refine RO_fx rfl rfl rfl rfl (Yh.fx (Yh_ld (v := nv (to)) sc_2)) ?_
        rintro _ _ ⟨rfl, rfl⟩
        refine ⟨Or.inl (by kernel_rfl), ?_⟩
        refine RD_l 9 rfl (Yl_assign rfl) ?_
        refine RD_l 10 rfl (Yl_assign rfl) ?_
        refine (RD_done (by kernel_rfl) (QW_lv (ks := [6, 7]) ?_))
        refine CW_ret ?_
        refine QW_ret_block ?_
        refine QW_ret_then ?_
        first
         | exact QW_ret2 rfl rfl rfl (S.fb (to) (k') (r') :: S.rb :: S.G) ⟨rfl, k', r', by omega, by omega, rfl⟩ (Prm.nil _)
         | exact QW_ret2 rfl rfl rfl (S.fb (to) (k) (r) :: S.rb :: S.G) ⟨rfl, k, r, by omega, by omega, rfl⟩ (Prm.nil _)
         | exact QW_ret2 rfl rfl rfl (S.fb (to) (k) (r - (p - to)) :: S.rb :: S.G) ⟨rfl, k, r - (p - to), by omega, by omega, rfl⟩ (Prm.nil _)
      ·replace hc11 := of_decide_eq_false hc11
       refine CW_skip ?_
       refine QW_normal_block ?_
       refine (QW_lv (ks := [0, 8]) ?_)
       refine CW_seq ?_
       refine CW_seq ?_
       refine CW_draw [] _ mixed (Sub.refl _) ?_
       refine RD_l 0 rfl (Yl_move rfl) ?_
       refine RD_l 1 rfl (Yl_nilCheck rfl) ?_
       refine RD_l 2 rfl (Yl_field rfl fo_93_6) ?_
       refine RD_l 4 rfl (Yl_move rfl) ?_
       refine RD_l 5 rfl (Yl_nilCheck rfl) ?_
       refine RD_l 6 rfl (Yl_field rfl fo_93_4) ?_
       refine RD_l 8 rfl (Yl_move rfl) ?_
       refine RD_h (i := 3) #[true, true, true, false, true, true, true, true, true, true, false] rfl rfl rfl rfl (by kernel_rfl) (fun _ _ _ h => h) (Yh_ld (v := nv (r)) sc_2) ?_
       refine RD_h (i := 7) #[true, true, true, true, true, true, true, false, true, false, false] rfl rfl rfl rfl (by kernel_rfl) (fun _ _ _ h => h) (Yh_ld (v := nv (p)) sc_2) ?_
       refine RD_l 9 rfl (Yl_sub (c := ((p - to : Nat) : Int)) rfl rfl (by rw [wi64 (by omega) (by omega)]; omega)) ?_
       refine RD_l 10 rfl (Yl_geq rfl rfl) ?_
       refine (RD_done (by kernel_rfl) (QW_lv (ks := [0, 8, 99]) ?_))
       refine CW_cond rfl (fun hc12 => ?_) (fun hc12 => ?_)
       ·replace hc12 := of_decide_eq_true hc12
        refine CW_seq ?_
        refine CW_draw [14] _ mixed (Sub.refl _) ?_
        refine RD_l 0 rfl (Yl_move rfl) ?_
        refine RD_l 1 rfl (Yl_move rfl) ?_
        refine RD_l 2 rfl (Yl_nilCheck rfl) ?_
        refine RD_l 3 rfl (Yl_field rfl fo_93_6) ?_
        refine RD_l 5 rfl (Yl_move rfl) ?_
        refine RD_l 6 rfl (Yl_nilCheck rfl) ?_
        refine RD_l 7 rfl (Yl_field rfl fo_93_4) ?_
        refine RD_l 9 rfl (Yl_move rfl) ?_
        refine RD_h (i := 4) #[true, true, true, true, false, true, true, true, true, true, true, false, false, false, false] rfl rfl rfl rfl (by kernel_rfl) (fun _ _ _ h => h) (Yh_ld (v := nv (r)) sc_2) ?_
        refine RD_h (i := 8) #[true, true, true, true, true, true, true, true, false, true, false, false, false, false, false] rfl rfl rfl rfl (by kernel_rfl) (fun _ _ _ h => h) (Yh_ld (v := nv (p)) sc_2) ?_
        refine RD_l 10 rfl (Yl_sub (c := ((p - to : Nat) : Int)) rfl rfl (by rw [wi64 (by omega) (by omega)]; omega)) ?_
        refine RD_l 11 rfl (Yl_sub (c := ((r - (p - to) : Nat) : Int)) rfl rfl (by rw [wi64 (by omega) (by omega)]; omega)) ?_
        refine RD_l 12 rfl (Yl_nilCheck rfl) ?_
        refine RD_l 13 rfl (Yl_field rfl fo_93_6) ?_
        refine RD_one (i := 14) (by kernel_rfl) ?_
        refine RO_fx0 rfl rfl rfl (Fx_store (v := nv (r - (p - to))) rfl rfl sz_2 rfl (by repeat (first | exact Rep.here _ _ _ | apply Rep.there)) (by simp [fiF])) ?_
        rintro _ _ rfl
        refine ⟨Or.inl (by kernel_rfl), ?_⟩
        refine (RD_done (by kernel_rfl) (QW_lv (ks := [0, 8]) ?_))
        refine CW_sr ?_
        refine RW_m ?_
        refine RW_m ?_
        refine RW_l (Yl_nilCheck rfl) ?_
        refine RW_l (Yl_field rfl fo_93_4) ?_
        refine RW_fx0 rfl rfl (Fx_store (v := nv to) rfl rfl sz_2 rfl (by repeat (first | exact Rep.here _ _ _ | apply Rep.there)) (by simp [fiF])) ?_
        rintro _ _ rfl
        refine RW_lv (ks := [0]) ?_
        refine CW_sr ?_
        refine RW_m ?_
        refine RW_l (Yl_nilCheck rfl) ?_
        refine RW_l (Yl_field rfl fo_93_4) ?_
        refine RW_h (Yh_ld (v := nv (to)) sc_2) ?_
        refine RW_a ?_
        refine RW_a ?_
        refine RW_lv (ks := [6, 7]) ?_
        refine CW_ret ?_
        refine QW_ret_then ?_
        first
         | exact QW_ret2 rfl rfl rfl (S.fb (to) (k') (r') :: S.rb :: S.G) ⟨rfl, k', r', by omega, by omega, rfl⟩ (Prm.nil _)
         | exact QW_ret2 rfl rfl rfl (S.fb (to) (k) (r) :: S.rb :: S.G) ⟨rfl, k, r, by omega, by omega, rfl⟩ (Prm.nil _)
         | exact QW_ret2 rfl rfl rfl (S.fb (to) (k) (r - (p - to)) :: S.rb :: S.G) ⟨rfl, k, r - (p - to), by omega, by omega, rfl⟩ (Prm.nil _)
       ·replace hc12 := of_decide_eq_false hc12
        refine (CW_skip (QW_lv (ks := [0, 8]) ?_))
        refine CW_sr ?_
        refine RW_m ?_
        refine RW_l (Yl_nilCheck rfl) ?_
        refine RW_l (Yl_field rfl fo_93_6) ?_
        refine RW_fx0 rfl rfl (Fx_store (v := nv 0) rfl rfl sz_2 rfl (by repeat (first | exact Rep.here _ _ _ | apply Rep.there)) (by simp [fiF])) ?_
        rintro _ _ rfl
        refine RW_lv (ks := [0, 8]) ?_
        refine CW_sr ?_
        refine RW_m ?_
        refine RW_m ?_
        refine RW_l (Yl_nilCheck rfl) ?_
        refine RW_l (Yl_field rfl fo_93_7) ?_
        refine RW_h (Yh_ld (v := pv S.bd) sc_91) ?_
        refine RW_l (Yl_nilCheck rfl) ?_
        refine RW_l (Yl_field rfl fo_112_11) ?_
        refine RW_h (Yh_load (v := uv (snx S.cs 0)) rfl sc_67 (List.mem_cons_of_mem _ (List.mem_cons_of_mem _ (List.mem_append_left _ hbd))) hdc) ?_
        refine RW_l (Yl_nilCheck rfl) ?_
        refine RW_l (Yl_field rfl fo_93_5) ?_
        refine RW_fx0 rfl rfl (Fx_store (v := uv (snx S.cs 0)) rfl rfl sz_67 rfl (by repeat (first | exact Rep.here _ _ _ | apply Rep.there)) (by simp [fiF])) ?_
        rintro _ _ rfl
        refine RW_lv (ks := [0, 8]) ?_
        refine CW_sr ?_
        refine RW_m ?_
        refine RW_m ?_
        refine RW_l (Yl_nilCheck rfl) ?_
        refine RW_l (Yl_field rfl fo_93_4) ?_
        refine RW_fx0 rfl rfl (Fx_store (v := nv to) rfl rfl sz_2 rfl (by repeat (first | exact Rep.here _ _ _ | apply Rep.there)) (by simp [fiF])) ?_
        rintro _ _ rfl
        refine RW_lv (ks := [0, 8]) ?_
        refine CW_seq ?_
        refine CW_draw [6] _ mixed (Sub.refl _) ?_
        refine RD_l 0 rfl (Yl_move rfl) ?_
        refine RD_l 1 rfl (Yl_nilCheck rfl) ?_
        refine RD_l 2 rfl (Yl_field rfl fo_93_4) ?_
        refine RD_l 4 rfl (Yl_move rfl) ?_
        refine RD_l 5 rfl (Yl_move rfl) ?_
        refine RD_two (i := 3) (j := 6) (by kernel_rfl) ?_ ?_
        ·skip
         refine RO_fx rfl rfl rfl rfl (Yh.fx (Yh_ld (v := nv (to)) sc_2)) ?_
         rintro _ _ ⟨rfl, rfl⟩
         refine ⟨Or.inr (Sub.refl _), ?_⟩
         refine RD_one (i := 6) (by kernel_rfl) ?_
         refine RO_fx rfl rfl rfl rfl (Fx_call ok_53 (vs := [pv S.bf, nv (to)]) rfl (Pick.cons (.here _ _) (Pick.cons (.here _ _) (pick_app S.G F))) (seek_ct S h to 0 0 (to) (by omega) (by omega))) ?_
         rintro _ _ ⟨_, ⟨rfl, k', r', hr', hk', rfl⟩, rfl⟩
         simp only [List.cons_append]
         refine ⟨Or.inl (by kernel_rfl), ?_⟩
         refine RD_l 7 rfl (Yl_assign rfl) ?_
         refine RD_l 8 rfl (Yl_assign rfl) ?_
         refine (RD_done (by kernel_rfl) (QW_lv (ks := [6, 7]) ?_))
         refine CW_ret ?_
         first
          | exact QW_ret2 rfl rfl rfl (S.fb (to) (k') (r') :: S.rb :: S.G) ⟨rfl, k', r', by omega, by omega, rfl⟩ (Prm.nil _)
          | exact QW_ret2 rfl rfl rfl (S.fb (to) (k) (r) :: S.rb :: S.G) ⟨rfl, k, r, by omega, by omega, rfl⟩ (Prm.nil _)
          | exact QW_ret2 rfl rfl rfl (S.fb (to) (k) (r - (p - to)) :: S.rb :: S.G) ⟨rfl, k, r - (p - to), by omega, by omega, rfl⟩ (Prm.nil _)
        ·skip
         refine RO_fx rfl rfl rfl rfl (Fx_call ok_53 (vs := [pv S.bf, nv (to)]) rfl (Pick.cons (.here _ _) (Pick.cons (.here _ _) (pick_app S.G F))) (seek_ct S h to 0 0 (to) (by omega) (by omega))) ?_
         rintro _ _ ⟨_, ⟨rfl, k', r', hr', hk', rfl⟩, rfl⟩
         simp only [List.cons_append]
         refine ⟨Or.inl (by kernel_rfl), ?_⟩
         refine RD_one (i := 3) (by kernel_rfl) ?_
         refine RO_fx rfl rfl rfl rfl (Yh.fx (Yh_ld (v := nv (to)) sc_2)) ?_
         rintro _ _ ⟨rfl, rfl⟩
         refine ⟨Or.inl (by kernel_rfl), ?_⟩
         refine RD_l 7 rfl (Yl_assign rfl) ?_
         refine RD_l 8 rfl (Yl_assign rfl) ?_
         refine (RD_done (by kernel_rfl) (QW_lv (ks := [6, 7]) ?_))
         refine CW_ret ?_
         first
          | exact QW_ret2 rfl rfl rfl (S.fb (to) (k') (r') :: S.rb :: S.G) ⟨rfl, k', r', by omega, by omega, rfl⟩ (Prm.nil _)
          | exact QW_ret2 rfl rfl rfl (S.fb (to) (k) (r) :: S.rb :: S.G) ⟨rfl, k, r, by omega, by omega, rfl⟩ (Prm.nil _)
          | exact QW_ret2 rfl rfl rfl (S.fb (to) (k) (r - (p - to)) :: S.rb :: S.G) ⟨rfl, k, r - (p - to), by omega, by omega, rfl⟩ (Prm.nil _)
  ·replace hc7 := of_decide_eq_false hc7
   exfalso; omega

/-! Values: a buffer that is filled piece by piece. -/
theorem spl_app {α : Type} {o : Nat} {a b l : List α} (h : o + a.length + b.length ≤ l.length) : spl (o + a.length) b (spl o a l) = spl o (a ++ b) l := by
  apply List.ext_getElem?
  intro i
  rw [getElem?_spl (by rw [length_spl (by omega)]; exact h), getElem?_spl (by omega), getElem?_spl (by rw [List.length_append]; omega), List.length_append]
  by_cases h1 : i < o
  · rw [if_pos (by omega), if_pos h1, if_pos h1]
  · rw [if_neg h1, if_neg h1]
    by_cases h2 : i < o + a.length
    · rw [if_pos h2, if_pos h2, if_pos (by omega), List.getElem?_append_left (by omega)]
    · rw [if_neg h2]
      by_cases h3 : i < o + a.length + b.length
      · rw [if_pos h3, if_pos (by omega), List.getElem?_append_right (by omega)]
        congr 1; omega
      · rw [if_neg h3, if_neg h2, if_neg (by omega)]
/-- A piece more. -/
theorem spl_piece {o t l p : Nat} {D : List UInt8} {lb : List Value} (h1 : p + t + l ≤ D.length) (h2 : o + t + l ≤ lb.length) :
    spl (o + t) (bys ((D.drop (p + t)).take l)) (spl o (bys ((D.drop p).take t)) lb) = spl o (bys ((D.drop p).take (t + l))) lb := by
  have e1 : (bys ((D.drop p).take t)).length = t := by simp; omega
  have e2 : (bys ((D.drop (p + t)).take l)).length = l := by simp; omega
  have := spl_app (o := o) (a := bys ((D.drop p).take t)) (b := bys ((D.drop (p + t)).take l)) (l := lb) (by omega)
  rw [e1] at this
  rw [this, List.take_add, List.drop_drop]
  simp [bys]
theorem spl_none {o p : Nat} {D : List UInt8} {lb : List Value} : spl o (bys ((D.drop p).take 0)) lb = lb := by simp [spl]
/-- The bytes of the file that a stream's reader reads. -/
structure Src.Rd (S : Src) (bs N : Nat) (B : List UInt8) : Prop where
  rd7 : S.rd[7]? = some (.iface 79 (.pointer (some ⟨bs, 0, none⟩)))
  len : B.length = N
  ra : ∀ bp o m c off lp T, 0 < m → off + m ≤ N → o + m ≤ lp.length → Ct Tryd.prog 93 [.pointer (some ⟨bs, 0, none⟩), .slice (some ⟨bp, o, none⟩) m c, nv off] ((bp, blk lp T) :: S.G) (fun v q => v = .tuple #[nv m, .nilIface] ∧ q = (bp, blk (spl o (bys ((B.drop off).take m)) lp) T) :: S.G)
theorem p_rd (a b c d e : Nat × Obj) (G F : Heap) : (a :: b :: c :: (G ++ (d :: e :: F))).Perm (a :: b :: c :: d :: e :: (G ++ F)) :=
  (((perm_front G [d, e] F).cons c).cons b).cons a
theorem p_rd2 (x a b c d e : Nat × Obj) (G F : Heap) : (x :: (G ++ (a :: b :: c :: d :: e :: F))).Perm (a :: b :: c :: d :: e :: x :: (G ++ F)) :=
  perm_front (x :: G) [a, b, c, d, e] F

/-! Walks: Read. -/
theorem Read_end (S : Src) (p k r : Nat) (hp : S.size ≤ p) (U : TypeId) (u : Value) (T0 : TypeId) (fz0 : Nat × Nat) (pa : Option Addr) (m c : Nat) :
  Ct Tryd.prog 41 [pv S.bf, .slice pa m c] [S.fb (p) (k) (r), (0, Obj.cells [.iface U u].toArray T0 fz0)] (fun v q => v = .tuple #[nv 0, .iface U u] ∧ q = [S.fb (p) (k) (r), (0, Obj.cells [.iface U u].toArray T0 fz0)]) := by
 refine Ct_of Tryd.func41 rfl Tryd.ntmps41 rfl ?_
 intro E F
 simp only [numL, List.nil_append, List.cons_append]
 refine CW_sr ?_
 refine RW_a ?_
 refine RW_a ?_
 refine RW_lv (ks := [0, 1]) ?_
 refine CW_seq ?_
 refine CW_seq ?_
 refine CW_draw [] _ mixed (Sub.refl _) ?_
 refine RD_l 0 rfl (Yl_move rfl) ?_
 refine RD_l 1 rfl (Yl_nilCheck rfl) ?_
 refine RD_l 2 rfl (Yl_field rfl fo_93_3) ?_
 refine RD_h (i := 3) #[true, true, true, false, false, false, false, false, false, false, false, false, false, false, false, false] rfl rfl rfl rfl (by kernel_rfl) (fun _ _ _ h => h) (Yh_ld (v := nv S.size) sc_2) ?_
 refine RD_l 4 rfl (Yl_lss rfl rfl) ?_
 refine RD_l 5 rfl (Yl_move rfl) ?_
 refine RD_bool 21 rfl (fun hg1 => ?_) (fun hg1 => ?_)
 ·replace hg1 := of_decide_eq_true hg1
  refine RD_skip (i := 6) rfl rfl rfl rfl (by kernel_rfl) (fun _ _ _ h => h) ?_
  refine RD_skip (i := 7) rfl rfl rfl rfl (by kernel_rfl) (fun _ _ _ h => h) ?_
  refine RD_skip (i := 8) rfl rfl rfl rfl (by kernel_rfl) (fun _ _ _ h => h) ?_
  refine RD_skip (i := 9) rfl rfl rfl rfl (by kernel_rfl) (fun _ _ _ h => h) ?_
  refine RD_skip (i := 10) rfl rfl rfl rfl (by kernel_rfl) (fun _ _ _ h => h) ?_
  refine RD_skip (i := 11) rfl rfl rfl rfl (by kernel_rfl) (fun _ _ _ h => h) ?_
  refine RD_skip (i := 12) rfl rfl rfl rfl (by kernel_rfl) (fun _ _ _ h => h) ?_
  refine RD_skip (i := 13) rfl rfl rfl rfl (by kernel_rfl) (fun _ _ _ h => h) ?_
  refine RD_skip (i := 14) rfl rfl rfl rfl (by kernel_rfl) (fun _ _ _ h => h) ?_
  refine RD_l 15 rfl (Yl_pick_t rfl rfl) ?_
  refine (RD_done (by kernel_rfl) (QW_lv (ks := [0, 1, 31]) ?_))
  refine CW_true rfl ?_
  refine CW_seq ?_
  refine CW_draw [] _ mixed (Sub.refl _) ?_
  refine RD_l 1 rfl (Yl_assign rfl) ?_
  refine RD_h (i := 0) #[false, true, false] rfl rfl rfl rfl (by kernel_rfl) (fun _ _ _ h => h) (Yh_ld (v := .iface U u) sc_105) ?_
  refine RD_l 2 rfl (Yl_assign rfl) ?_
  refine (RD_done (by kernel_rfl) (QW_lv (ks := [4, 5]) ?_))
  refine CW_ret ?_
  refine QW_ret_then ?_
  exact QW_ret2 rfl rfl rfl [_, _] ⟨rfl, rfl⟩ (Prm.nil _)
 ·replace hg1 := of_decide_eq_false hg1
  refine RD_l 6 rfl (Yl_move rfl) ?_
  refine RD_l 7 rfl (Yl_nilCheck rfl) ?_
  refine RD_l 8 rfl (Yl_field rfl fo_93_4) ?_
  refine RD_l 10 rfl (Yl_move rfl) ?_
  refine RD_l 11 rfl (Yl_nilCheck rfl) ?_
  refine RD_l 12 rfl (Yl_field rfl fo_93_3) ?_
  refine RD_h (i := 9) #[true, true, true, true, true, true, true, true, true, false, true, true, true, true, false, false] rfl rfl rfl rfl (by kernel_rfl) (fun _ _ _ h => h) (Yh_ld (v := nv (p)) sc_2) ?_
  refine RD_h (i := 13) #[true, true, true, true, true, true, true, true, true, true, true, true, true, false, false, false] rfl rfl rfl rfl (by kernel_rfl) (fun _ _ _ h => h) (Yh_ld (v := nv S.size) sc_2) ?_
  refine RD_l 14 rfl (Yl_geq rfl rfl) ?_
  refine RD_l 15 rfl (Yl_pick_f rfl rfl) ?_
  refine (RD_done (by kernel_rfl) (QW_lv (ks := [0, 1, 31]) ?_))
  refine CW_cond rfl (fun hc2 => ?_) (fun hc2 => ?_)
  ·replace hc2 := of_decide_eq_true hc2
   refine CW_seq ?_
   refine CW_draw [] _ mixed (Sub.refl _) ?_
   refine RD_l 1 rfl (Yl_assign rfl) ?_
   refine RD_h (i := 0) #[false, true, false] rfl rfl rfl rfl (by kernel_rfl) (fun _ _ _ h => h) (Yh_ld (v := .iface U u) sc_105) ?_
   refine RD_l 2 rfl (Yl_assign rfl) ?_
   refine (RD_done (by kernel_rfl) (QW_lv (ks := [4, 5]) ?_))
   refine CW_ret ?_
   refine QW_ret_then ?_
   exact QW_ret2 rfl rfl rfl [_, _] ⟨rfl, rfl⟩ (Prm.nil _)
  ·replace hc2 := of_decide_eq_false hc2
   exfalso; omega
theorem Read_ct (S : Src) (h : S.Ok) (bs N : Nat) (B : List UInt8) (hR : S.Rd bs N B) (D : List UInt8) (hD : Dat S.ad B D) (hDl : D.length = S.size) (p k r n m : Nat) (hr : r < S.u) (hp : k * S.u + r = p) (hlt : p < S.size) (hn : 0 < n) (hm : m = min n (S.size - p))
  (bb o c : Nat) (lb : List Value) (Tb : TypeId) (hnc : n ≤ c) (hc : c ≤ 1000000) (hlb : o + n ≤ lb.length) (U : TypeId) (u : Value) (T0 : TypeId) (fz0 : Nat × Nat) :
  Ct Tryd.prog 41 [pv S.bf, .slice (some ⟨bb, o, none⟩) n c] (S.fb (p) (k) (r) :: S.rb :: (0, Obj.cells [.iface U u].toArray T0 fz0) :: (bb, blk lb Tb) :: S.G)
   (fun v q => ∃ k' r', r' < S.u ∧ k' * S.u + r' = p + m ∧ v = .tuple #[nv m, if n ≤ S.size - p then .nilIface else .iface U u] ∧ q = S.fb (p + m) k' r' :: S.rb :: (0, Obj.cells [.iface U u].toArray T0 fz0) :: (bb, blk (spl o (bys ((D.drop p).take (m))) lb) Tb) :: S.G) := by
 have hsz1 := h.sz
 refine Ct_of Tryd.func41 rfl Tryd.ntmps41 rfl ?_
 intro E F
 simp only [numL, List.nil_append, List.cons_append]
 refine CW_sr ?_
 refine RW_a ?_
 refine RW_a ?_
 refine RW_lv (ks := [0, 1]) ?_
 refine CW_seq ?_
 refine CW_seq ?_
 refine CW_draw [] _ mixed (Sub.refl _) ?_
 refine RD_l 0 rfl (Yl_move rfl) ?_
 refine RD_l 1 rfl (Yl_nilCheck rfl) ?_
 refine RD_l 2 rfl (Yl_field rfl fo_93_3) ?_
 refine RD_h (i := 3) #[true, true, true, false, false, false, false, false, false, false, false, false, false, false, false, false] rfl rfl rfl rfl (by kernel_rfl) (fun _ _ _ h => h) (Yh_ld (v := nv S.size) sc_2) ?_
 refine RD_l 4 rfl (Yl_lss rfl rfl) ?_
 refine RD_l 5 rfl (Yl_move rfl) ?_
 refine RD_bool 21 rfl (fun hg1 => ?_) (fun hg1 => ?_)
 ·replace hg1 := of_decide_eq_true hg1
  exfalso; omega
 ·replace hg1 := of_decide_eq_false hg1
  refine RD_l 6 rfl (Yl_move rfl) ?_
  refine RD_l 7 rfl (Yl_nilCheck rfl) ?_
  refine RD_l 8 rfl (Yl_field rfl fo_93_4) ?_
  refine RD_l 10 rfl (Yl_move rfl) ?_
  refine RD_l 11 rfl (Yl_nilCheck rfl) ?_
  refine RD_l 12 rfl (Yl_field rfl fo_93_3) ?_
  refine RD_h (i := 9) #[true, true, true, true, true, true, true, true, true, false, true, true, true, true, false, false] rfl rfl rfl rfl (by kernel_rfl) (fun _ _ _ h => h) (Yh_ld (v := nv (p)) sc_2) ?_
  refine RD_h (i := 13) #[true, true, true, true, true, true, true, true, true, true, true, true, true, false, false, false] rfl rfl rfl rfl (by kernel_rfl) (fun _ _ _ h => h) (Yh_ld (v := nv S.size) sc_2) ?_
  refine RD_l 14 rfl (Yl_geq rfl rfl) ?_
  refine RD_l 15 rfl (Yl_pick_f rfl rfl) ?_
  refine (RD_done (by kernel_rfl) (QW_lv (ks := [0, 1, 31]) ?_))
  refine CW_cond rfl (fun hc2 => ?_) (fun hc2 => ?_)
  ·replace hc2 := of_decide_eq_true hc2
   exfalso; omega
  ·replace hc2 := of_decide_eq_false hc2
   refine (CW_skip (QW_lv (ks := [0, 1]) ?_))
   refine CW_sr ?_
   refine RW_m ?_
   refine RW_l (Yl_len rfl sl_23) ?_
   refine RW_a ?_
   refine RW_lv (ks := [0, 1, 6]) ?_
   refine CW_cut (σ := Unit) (fun _ => [(0, pv S.bf), (1, .slice (some ⟨bb, o, none⟩) n c), (6, nv m)]) (fun _ => S.fb (p) (k) (r) :: S.rb :: (0, Obj.cells [.iface U u].toArray T0 fz0) :: (bb, blk lb Tb) :: (S.G ++ F)) (fun _ => True) ?_ ?_
   ·skip
    refine CW_seq ?_
    refine CW_draw [] _ mixed (Sub.refl _) ?_
    refine RD_l 0 rfl (Yl_move rfl) ?_
    refine RD_l 1 rfl (Yl_move rfl) ?_
    refine RD_l 2 rfl (Yl_nilCheck rfl) ?_
    refine RD_l 3 rfl (Yl_field rfl fo_93_3) ?_
    refine RD_l 5 rfl (Yl_move rfl) ?_
    refine RD_l 6 rfl (Yl_nilCheck rfl) ?_
    refine RD_l 7 rfl (Yl_field rfl fo_93_4) ?_
    refine RD_h (i := 4) #[true, true, true, true, false, true, true, true, true, false, false] rfl rfl rfl rfl (by kernel_rfl) (fun _ _ _ h => h) (Yh_ld (v := nv S.size) sc_2) ?_
    refine RD_h (i := 8) #[true, true, true, true, true, true, true, true, false, false, false] rfl rfl rfl rfl (by kernel_rfl) (fun _ _ _ h => h) (Yh_ld (v := nv (p)) sc_2) ?_
    refine RD_l 9 rfl (Yl_sub (c := ((S.size - p : Nat) : Int)) rfl rfl (by rw [wi64 (by omega) (by omega)]; omega)) ?_
    refine RD_l 10 rfl (Yl_gtr rfl rfl) ?_
    refine (RD_done (by kernel_rfl) (QW_lv (ks := [0, 1, 6, 45]) ?_))
    refine CW_cond rfl (fun hc3 => ?_) (fun hc3 => ?_)
    ·replace hc3 := of_decide_eq_true hc3
     refine CW_draw [] _ mixed (Sub.refl _) ?_
     refine RD_l 0 rfl (Yl_move rfl) ?_
     refine RD_l 1 rfl (Yl_nilCheck rfl) ?_
     refine RD_l 2 rfl (Yl_field rfl fo_93_3) ?_
     refine RD_l 4 rfl (Yl_move rfl) ?_
     refine RD_l 5 rfl (Yl_nilCheck rfl) ?_
     refine RD_l 6 rfl (Yl_field rfl fo_93_4) ?_
     refine RD_h (i := 3) #[true, true, true, false, true, true, true, true, false, false] rfl rfl rfl rfl (by kernel_rfl) (fun _ _ _ h => h) (Yh_ld (v := nv S.size) sc_2) ?_
     refine RD_h (i := 7) #[true, true, true, true, true, true, true, false, false, false] rfl rfl rfl rfl (by kernel_rfl) (fun _ _ _ h => h) (Yh_ld (v := nv (p)) sc_2) ?_
     refine RD_l 8 rfl (Yl_sub (c := ((S.size - p : Nat) : Int)) rfl rfl (by rw [wi64 (by omega) (by omega)]; omega)) ?_
     refine RD_l 9 rfl (Yl_assign rfl) ?_
     refine RD_done (by kernel_rfl) ?_
     first
      | (have e1 : m = n := (by omega); subst e1; exact QW_cut () trivial (by repeat (first | exact Prm.nil _ | exact Rem.here _ _ | apply Rem.there | apply Prm.cons)) (.cons rfl (.cons rfl (.cons rfl .nil))))
      | (have e1 : m = S.size - p := (by omega); subst e1; exact QW_cut () trivial (by repeat (first | exact Prm.nil _ | exact Rem.here _ _ | apply Rem.there | apply Prm.cons)) (.cons rfl (.cons rfl (.cons rfl .nil))))
    ·replace hc3 := of_decide_eq_false hc3
     refine CW_skip ?_
     first
      | (have e1 : m = n := (by omega); subst e1; exact QW_cut () trivial (by repeat (first | exact Prm.nil _ | exact Rem.here _ _ | apply Rem.there | apply Prm.cons)) (.cons rfl (.cons rfl (.cons rfl .nil))))
      | (have e1 : m = S.size - p := (by omega); subst e1; exact QW_cut () trivial (by repeat (first | exact Prm.nil _ | exact Rem.here _ _ | apply Rem.there | apply Prm.cons)) (.cons rfl (.cons rfl (.cons rfl .nil))))
   ·rintro ⟨⟩ -
    refine CW_sr ?_
    refine RW_m ?_
    refine RW_m ?_
    refine RW_fx rfl rfl rfl (Fx_call ok_52 (vs := [pv S.bf, nv m]) rfl (Pick.cons (.here _ _) (Pick.cons (.here _ _) (pick_mid S.G [_, _] F))) (stream_ct S h p k r m hr (by omega) (by omega))) ?_
    rintro _ _ ⟨_, ⟨k', r', g, l2, r2, cap, hr', hk', hrun, hsm, hlen, hcap, rfl, rfl⟩, rfl⟩
    simp only [List.cons_append, List.nil_append]
    refine RW_heap (p_rd _ _ _ _ _ _ _) ?_
    rw [hp] at hrun hk'
    refine RW_m ?_
    refine RW_l (Yl_extract (v := .slice (some ⟨g, 0, none⟩) l2.length cap) rfl rfl) ?_
    refine RW_l (Yl_extract (v := .nilIface) rfl rfl) ?_
    refine RW_a ?_
    refine RW_a ?_
    refine RW_lv (ks := [0, 1, 6, 7, 8]) ?_
    refine CW_seq ?_
    refine CW_sr ?_
    refine RW_m ?_
    refine RW_l (Yl_ifNeNil rfl if_105) ?_
    refine RW_lv (ks := [0, 1, 6, 7, 8, 62]) ?_
    refine CW_cond rfl (fun hc4 => ?_) (fun hc4 => ?_)
    ·skip
     exact absurd hc4 (by decide)
    ·skip
     refine (CW_skip (QW_lv (ks := [0, 1, 6, 7, 8]) ?_))
     refine CW_sr ?_
     refine RW_a ?_
     refine RW_a ?_
     refine RW_lv (ks := [0, 1, 6, 7, 8, 9, 10]) ?_
     refine CW_seq ?_
     refine CW_sr ?_
     refine RW_m ?_
     refine RW_l (Yl_len rfl sl_125) ?_
     refine RW_m ?_
     refine RW_lv (ks := [0, 1, 6, 8, 9, 10, 64, 65, 66]) ?_
     refine CW_block ?_
     refine CW_loop (σ := Nat) (fun x => [(0, pv S.bf), (1, .slice (some ⟨bb, o, none⟩) n c), (6, nv m), (8, .nilIface), (9, nv (tot l2 x)), (10, nv (tot l2 x)), (64, .slice (some ⟨g, 0, none⟩) l2.length cap), (65, nv l2.length), (66, nv x)]) (fun x => (g, blk (prs l2 ++ r2) 128) :: S.fb (p) (k') (r') :: S.rb :: (0, Obj.cells [.iface U u].toArray T0 fz0) :: (bb, blk (spl o (bys ((D.drop p).take (tot l2 x))) lb) Tb) :: (S.G ++ F)) (fun x => x ≤ l2.length) (fun x => l2.length - x) 0 (Nat.zero_le _) (by rw [show tot l2 0 = 0 from rfl, spl_none]; exact Prm.nil _) (.cons rfl (.cons rfl (.cons rfl (.cons rfl (.cons rfl (.cons rfl (.cons rfl (.cons rfl (.cons rfl .nil))))))))) ?_
     rintro x hx
     refine CW_sr ?_
     refine RW_l (Yl_lss rfl rfl) ?_
     refine RW_lv (ks := [0, 1, 6, 8, 9, 10, 64, 65, 66, 67]) ?_
     refine CW_seq ?_
     refine CW_cond rfl (fun hc5 => ?_) (fun hc5 => ?_)
     ·replace hc5 := of_decide_eq_true hc5
      refine (CW_skip (QW_lv (ks := [0, 1, 6, 8, 9, 10, 64, 65, 66]) ?_))
      refine CW_seq ?_
      refine CW_block ?_
      refine CW_seq ?_
      obtain ⟨hg1, hg2⟩ := hrun.get x (by omega)
      have hts := tot_succ l2 x (by omega)
      have hfs := hrun.fits (k := x + 1) (by omega)
      have hcl : l2.length ≤ cap := by rw [List.length_append, length_prs] at hlen; omega
      have hfit : (l2.getD x default).1 + (l2.getD x default).2 ≤ N := by rw [← hR.len]; exact hD.fits hg1 hg2 (by omega)
      have hpc := hD.piece hg2 (by omega)
      refine CW_region ?_
      refine RW_l (Yl_indexN (b := g) (off := 0) (i := x) (o' := x * 2) rfl rfl sl_125 (by omega) (by omega)) ?_
      refine RW_h (Yh_loadE (cs := [nv (l2.getD x default).1, nv (l2.getD x default).2]) rfl ag_128 (by repeat (first | exact List.Mem.head _ | apply List.Mem.tail)) (by rw [List.length_append, length_prs]; omega) (prs_cut (by omega))) ?_
      refine RW_fx rfl rfl rfl (Fx_alloc (zs := zs_128) ze_128 rfl) ?_
      rintro _ _ ⟨b12, rfl, rfl⟩
      refine RW_fx0 rfl rfl (Fx_storeA (b := b12) (off := 0) (l := zs_128) (T := 128) (cs := [nv (l2.getD x default).1, nv (l2.getD x default).2]) rfl rfl sz_128 (by intro u hu; simp only [List.mem_cons, List.not_mem_nil, or_false] at hu; rcases hu with rfl | rfl <;> rfl) (by repeat (first | exact Rep.here _ _ _ | apply Rep.there)) (Nat.le_refl 2)) ?_
      rintro _ _ rfl
      rw [spl_full _ _ (by rfl)]
      refine RW_lv (ks := [0, 1, 6, 8, 9, 10, 12, 64, 65, 66]) ?_
      refine CW_sr ?_
      refine RW_m ?_
      refine RW_l (Yl_indexAN (b := b12) (off := 0) (i := 1) (o' := 1) rfl rfl ar_128 (by omega) rfl) ?_
      refine RW_h (Yh_ld (v := nv (l2.getD x default).2) sc_2) ?_
      refine RW_l (Yl_add (c := ((tot l2 (x + 1) : Nat) : Int)) rfl rfl (by rw [wi64 (by omega) (by omega)]; omega)) ?_
      refine RW_a ?_
      refine RW_lv (ks := [0, 1, 6, 8, 9, 10, 12, 13, 64, 65, 66]) ?_
      refine CW_seq ?_
      refine CW_sr ?_
      refine RW_m ?_
      refine RW_m ?_
      refine RW_l (Yl_lss rfl rfl) ?_
      refine RW_m ?_
      refine RW_bool 77 rfl (fun hg6 => ?_) (fun hg6 => ?_)
      ·replace hg6 := of_decide_eq_true hg6
       exfalso; omega
      ·replace hg6 := of_decide_eq_false hg6
       refine RW_gy rfl rfl rfl (Yl.h (Yl_move rfl)) ?_
       refine RW_gy rfl rfl rfl (Yl.h (Yl_move rfl)) ?_
       refine RW_gy rfl rfl rfl (Yl.h (Yl_gtr rfl rfl)) ?_
       refine RW_l (Yl_pick_f rfl rfl) ?_
       refine RW_lv (ks := [0, 1, 6, 8, 9, 10, 12, 13, 64, 65, 66, 81]) ?_
       refine CW_cond rfl (fun hc7 => ?_) (fun hc7 => ?_)
       ·replace hc7 := of_decide_eq_true hc7
        exfalso; omega
       ·replace hc7 := of_decide_eq_false hc7
        refine (CW_skip (QW_lv (ks := [0, 1, 6, 8, 9, 10, 12, 13, 64, 65, 66]) ?_))
        refine CW_seq ?_
        refine CW_draw [15] _ mixed (Sub.refl _) ?_
        refine RD_l 0 rfl (Yl_move rfl) ?_
        refine RD_l 1 rfl (Yl_nilCheck rfl) ?_
        refine RD_l 2 rfl (Yl_field rfl fo_93_8) ?_
        refine RD_l 7 rfl (Yl_move rfl) ?_
        refine RD_l 8 rfl (Yl_move rfl) ?_
        refine RD_l 9 rfl (Yl_move rfl) ?_
        refine RD_l 10 rfl (Yl_cutLHN (l := tot l2 x) (h := tot l2 (x + 1)) (o' := o + tot l2 x) (m' := (l2.getD x default).2) rfl rfl rfl sl_23 (by omega) (by omega) (by omega) (by omega) (by omega)) ?_
        refine RD_l 11 rfl (Yl_indexAN (b := b12) (off := 0) (i := 0) (o' := 0) rfl rfl ar_128 (by omega) rfl) ?_
        refine RD_h (i := 3) #[true, true, true, false, false, false, false, true, true, true, true, true, true, false, false, false, false, false, false, false, false] rfl rfl rfl rfl (by kernel_rfl) (fun _ _ _ h => h) (Yh_ld (v := pv S.br) sc_78) ?_
        refine RD_l 4 rfl (Yl_nilCheck rfl) ?_
        refine RD_l 5 rfl (Yl_field rfl fo_89_7) ?_
        refine RD_h (i := 6) #[true, true, true, true, true, true, false, true, true, true, true, true, true, false, false, false, false, false, false, false, false] rfl rfl rfl rfl (by kernel_rfl) (fun _ _ _ h => h) (Yh_lh (v := .iface 79 (.pointer (some ⟨bs, 0, none⟩))) sc_85 hR.rd7) ?_
        refine RD_l 13 rfl (Yl_nilCheckI rfl) ?_
        refine RD_l 14 rfl (Yl_move rfl) ?_
        refine RD_h (i := 12) #[true, true, true, true, true, true, true, true, true, true, true, true, false, true, true, false, false, false, false, false, false] rfl rfl rfl rfl (by kernel_rfl) (fun _ _ _ h => h) (Yh_ld (v := nv (l2.getD x default).1) sc_2) ?_
        refine RD_one (i := 15) (by kernel_rfl) ?_
        refine RO_fx rfl rfl rfl rfl (Fx_invoke (T := 79) (v := .pointer (some ⟨bs, 0, none⟩)) (vs := [.slice (some ⟨bb, o + tot l2 x, none⟩) (l2.getD x default).2 (c - tot l2 x), nv (l2.getD x default).1]) rfl mt_79 pt_79 ok_93 rfl (Pick.cons (.there _ (.there _ (.there _ (.there _ (.there _ (.here _ _)))))) (pick_mid S.G [_, _, _, _, _] F)) (hR.ra bb (o + tot l2 x) (l2.getD x default).2 (c - tot l2 x) (l2.getD x default).1 _ Tb hg1 hfit (by rw [length_spl (by simp; omega)]; omega))) ?_
        rintro _ _ ⟨_, ⟨rfl, rfl⟩, rfl⟩
        simp only [List.cons_append, List.nil_append]
        refine ⟨Or.inl (by kernel_rfl), ?_⟩
        refine RD_l 16 rfl (Yl_move rfl) ?_
        refine RD_l 17 rfl (Yl_extract (v := nv (l2.getD x default).2) rfl rfl) ?_
        refine RD_l 18 rfl (Yl_extract (v := .nilIface) rfl rfl) ?_
        refine RD_l 19 rfl (Yl_assign rfl) ?_
        refine RD_l 20 rfl (Yl_assign rfl) ?_
        refine (RD_done (by kernel_rfl) (QW_lv (ks := [0, 1, 6, 8, 9, 10, 13, 14, 15, 64, 65, 66]) ?_))
        refine CW_seq ?_
        refine CW_heap (p_rd2 _ _ _ _ _ _ _ _) ?_
        rw [hpc, spl_piece (by omega) (by omega), ← hts]
        refine CW_region ?_
        refine RW_m ?_
        refine RW_m ?_
        refine RW_l (Yl_add (c := ((tot l2 (x + 1) : Nat) : Int)) rfl rfl (by rw [wi64 (by omega) (by omega)]; omega)) ?_
        refine RW_a ?_
        refine RW_lv (ks := [0, 1, 6, 8, 9, 10, 13, 15, 64, 65, 66]) ?_
        refine CW_seq ?_
        refine CW_sr ?_
        refine RW_m ?_
        refine RW_l (Yl_ifNeNil rfl if_105) ?_
        refine RW_lv (ks := [0, 1, 6, 8, 9, 10, 13, 15, 64, 65, 66, 108]) ?_
        refine CW_cond rfl (fun hc8 => ?_) (fun hc8 => ?_)
        ·skip
         exact absurd hc8 (by decide)
        ·skip
         refine (CW_skip (QW_lv (ks := [0, 1, 6, 8, 10, 13, 64, 65, 66]) ?_))
         refine CW_region ?_
         refine RW_m ?_
         refine RW_a ?_
         refine RW_nil ?_
         refine QW_normal_block ?_
         refine (QW_lv (ks := [0, 1, 6, 8, 9, 10, 64, 65, 66]) ?_)
         refine CW_region ?_
         refine RW_l (Yl_add (c := ((x + 1 : Nat) : Int)) rfl rfl (wi64 (by omega) (by omega))) ?_
         refine RW_m ?_
         refine RW_nil ?_
         refine QW_dropB (e := (b12, _)) (by repeat (first | exact Rem.here _ _ | apply Rem.there)) ?_
         exact QW_rn (x + 1) (by omega) (by omega)
     ·replace hc5 := of_decide_eq_false hc5
      refine CW_exit ?_
      refine QW_exit_then ?_
      refine QW_exit_then ?_
      refine QW_exit_block ?_
      refine (QW_lv (ks := [0, 1, 6, 8, 10]) ?_)
      refine CW_seq ?_
      have hxl : x = l2.length := by omega
      subst hxl
      have hall := hrun.all
      have htm : tot l2 l2.length = m := by omega
      rw [htm]
      refine CW_region ?_
      refine RW_m ?_
      refine RW_l (Yl_nilCheck rfl) ?_
      refine RW_l (Yl_field rfl fo_93_4) ?_
      refine RW_h (Yh_ld (v := nv (p)) sc_2) ?_
      refine RW_m ?_
      refine RW_l (Yl_add (c := ((p + m : Nat) : Int)) rfl rfl (by rw [wi64 (by omega) (by omega)]; omega)) ?_
      refine RW_l (Yl_nilCheck rfl) ?_
      refine RW_l (Yl_field rfl fo_93_4) ?_
      refine RW_fx0 rfl rfl (Fx_store (v := nv (p + m)) rfl rfl sz_2 rfl (by repeat (first | exact Rep.here _ _ _ | apply Rep.there)) (by simp [fiF])) ?_
      rintro _ _ rfl
      refine RW_lv (ks := [1, 6, 8, 10]) ?_
      refine CW_cut (σ := Unit) (fun _ => [(8, if n ≤ S.size - p then .nilIface else .iface U u), (10, nv m)]) (fun _ => (g, blk (prs l2 ++ r2) 128) :: S.fb (p + m) (k') (r') :: S.rb :: (0, Obj.cells [.iface U u].toArray T0 fz0) :: (bb, blk (spl o (bys ((D.drop p).take (m))) lb) Tb) :: (S.G ++ F)) (fun _ => True) ?_ ?_
      ·skip
       refine CW_sr ?_
       refine RW_m ?_
       refine RW_m ?_
       refine RW_l (Yl_neq rfl rfl) ?_
       refine RW_lv (ks := [1, 8, 10, 137]) ?_
       refine CW_cond rfl (fun hc9 => ?_) (fun hc9 => ?_)
       ·replace hc9 := of_decide_eq_true hc9
        exfalso; omega
       ·replace hc9 := of_decide_eq_false hc9
        refine CW_sr ?_
        refine RW_m ?_
        refine RW_m ?_
        refine RW_l (Yl_len rfl sl_23) ?_
        refine RW_l (Yl_lss rfl rfl) ?_
        refine RW_lv (ks := [8, 10, 144]) ?_
        refine CW_cond rfl (fun hc10 => ?_) (fun hc10 => ?_)
        ·replace hc10 := of_decide_eq_true hc10
         refine CW_region ?_
         refine RW_h (Yh_ld (v := .iface U u) sc_105) ?_
         refine RW_a ?_
         refine RW_nil ?_
         first
          | exact QW_cut () trivial (by repeat (first | exact Prm.nil _ | exact Rem.here _ _ | apply Rem.there | apply Prm.cons)) (.cons (by rw [if_pos (by omega)]; rfl) (.cons rfl .nil))
          | exact QW_cut () trivial (by repeat (first | exact Prm.nil _ | exact Rem.here _ _ | apply Rem.there | apply Prm.cons)) (.cons (by rw [if_neg (by omega)]; rfl) (.cons rfl .nil))
        ·replace hc10 := of_decide_eq_false hc10
         refine CW_skip ?_
         first
          | exact QW_cut () trivial (by repeat (first | exact Prm.nil _ | exact Rem.here _ _ | apply Rem.there | apply Prm.cons)) (.cons (by rw [if_pos (by omega)]; rfl) (.cons rfl .nil))
          | exact QW_cut () trivial (by repeat (first | exact Prm.nil _ | exact Rem.here _ _ | apply Rem.there | apply Prm.cons)) (.cons (by rw [if_neg (by omega)]; rfl) (.cons rfl .nil))
      ·rintro ⟨⟩ -
       refine CW_sr ?_
       refine RW_m ?_
       refine RW_m ?_
       refine RW_a ?_
       refine RW_a ?_
       refine RW_lv (ks := [4, 5]) ?_
       refine CW_ret ?_
       refine QW_dropB (e := (g, _)) (by repeat (first | exact Rem.here _ _ | apply Rem.there)) ?_
       exact QW_ret2 rfl rfl rfl (S.fb (p + m) (k') (r') :: S.rb :: (0, Obj.cells [.iface U u].toArray T0 fz0) :: (bb, blk (spl o (bys ((D.drop p).take (m))) lb) Tb) :: S.G) ⟨k', r', hr', by omega, rfl, rfl⟩ (Prm.nil _)

/-! Walks: ReadAt; steps that read and seek. -/
theorem p_rdb (a b d e : Nat × Obj) (G F : Heap) : (a :: b :: (G ++ (d :: e :: F))).Perm (a :: b :: d :: e :: (G ++ F)) := ((perm_front G [d, e] F).cons b).cons a
theorem p_on (a b c d x y : Nat × Obj) (G F : Heap) : (a :: b :: c :: d :: (G ++ (x :: y :: F))).Perm (x :: y :: a :: b :: c :: d :: (G ++ F)) := perm_front (a :: b :: c :: d :: G) [x, y] F
theorem code_eof (b : Prop) [Decidable b] (U : TypeId) (u : Value) (hU : Nat.beq U 123 = false) : Ct Tryd.prog 40 [if b then .nilIface else .iface U u] [] (fun v q => v = nv (if b then 0 else 6) ∧ q = []) := by
 by_cases h : b
 ·rw [if_pos h, if_pos h]; exact code_nil
 ·rw [if_neg h, if_neg h]; exact code_other U u hU
theorem ReadAt_ct (S : Src) (h : S.Ok) (bs N : Nat) (B : List UInt8) (hR : S.Rd bs N B) (D : List UInt8) (hD : Dat S.ad B D) (hDl : D.length = S.size) (p k r : Nat) (hr : r < S.u) (hp : k * S.u + r = p) (hp2 : p ≤ S.size) (dc : List Value) (hbd : (S.bd, blk dc 112) ∈ S.G) (hdc : dc[60]? = some (uv (snx S.cs 0))) (n m a : Nat) (ha : a < S.size) (hn : 0 < n) (hm : m = min n (S.size - a)) (bb o c : Nat) (lb : List Value) (Tb : TypeId) (hnc : n ≤ c) (hc : c ≤ 1000000) (hlb : o + n ≤ lb.length) (U : TypeId) (u : Value) (T0 : TypeId) (fz0 : Nat × Nat) :
  Ct Tryd.prog 43 [pv S.bf, .slice (some ⟨bb, o, none⟩) n c, nv a] (S.fb (p) (k) (r) :: S.rb :: (0, Obj.cells [.iface U u].toArray T0 fz0) :: (bb, blk lb Tb) :: S.G)
   (fun v q => v = .tuple #[nv m, if n ≤ S.size - a then .nilIface else .iface U u] ∧ q = S.fb (p) (k) (r) :: S.rb :: (0, Obj.cells [.iface U u].toArray T0 fz0) :: (bb, blk (spl o (bys ((D.drop (a)).take (m))) lb) Tb) :: S.G) := by
 refine Ct_of Tryd.func43 rfl Tryd.ntmps43 rfl ?_
 intro E F
 simp only [numL, List.nil_append, List.cons_append]
 refine CW_sr ?_
 refine RW_a ?_
 refine RW_a ?_
 refine RW_lv (ks := [0, 1, 2, 6]) ?_
 refine CW_seq ?_
 refine CW_draw [] _ mixed (Sub.refl _) ?_
 refine RD_l 0 rfl (Yl_move rfl) ?_
 refine RD_l 1 rfl (Yl_nilCheck rfl) ?_
 refine RD_l 2 rfl (Yl_field rfl fo_93_4) ?_
 refine RD_l 4 rfl (Yl_move rfl) ?_
 refine RD_l 5 rfl (Yl_nilCheck rfl) ?_
 refine RD_l 6 rfl (Yl_field rfl fo_93_6) ?_
 refine RD_l 8 rfl (Yl_move rfl) ?_
 refine RD_l 9 rfl (Yl_nilCheck rfl) ?_
 refine RD_l 10 rfl (Yl_field rfl fo_93_5) ?_
 refine RD_h (i := 3) #[true, true, true, false, true, true, true, true, true, true, true, true, false, false, false] rfl rfl rfl rfl (by kernel_rfl) (fun _ _ _ h => h) (Yh_ld (v := nv (p)) sc_2) ?_
 refine RD_l 12 rfl (Yl_assign rfl) ?_
 refine RD_h (i := 7) #[true, true, true, true, true, true, true, false, true, true, true, true, true, false, false] rfl rfl rfl rfl (by kernel_rfl) (fun _ _ _ h => h) (Yh_ld (v := nv (r)) sc_2) ?_
 refine RD_l 13 rfl (Yl_assign rfl) ?_
 refine RD_h (i := 11) #[true, true, true, true, true, true, true, true, true, true, true, false, true, true, false] rfl rfl rfl rfl (by kernel_rfl) (fun _ _ _ h => h) (Yh_ld (v := uv (snx S.cs (k))) sc_67) ?_
 refine RD_l 14 rfl (Yl_assign rfl) ?_
 refine (RD_done (by kernel_rfl) (QW_lv (ks := [0, 1, 2, 6, 8, 9, 10]) ?_))
 refine CW_sr ?_
 refine RW_m ?_
 refine RW_m ?_
 refine RW_fx rfl rfl rfl (Fx_call ok_42 (vs := [pv S.bf, nv a, nv 0]) rfl (Pick.cons (.here _ _) (Pick.cons (.here _ _) (pick_mid S.G [_, _] F))) (Seek_ct S h p k r a 0 (a : Int) dc hbd hdc hr hp hp2 ha (.inl ⟨rfl, rfl⟩))) ?_
 rintro _ _ ⟨_, ⟨rfl, k', r', hr', hk', rfl⟩, rfl⟩
 simp only [List.cons_append]
 refine RW_heap (p_rdb _ _ _ _ _ _) ?_
 refine RW_m ?_
 refine RW_l (Yl_extract (v := nv a) rfl rfl) ?_
 refine RW_l (Yl_extract (v := .nilIface) rfl rfl) ?_
 refine RW_a ?_
 refine RW_lv (ks := [0, 1, 6, 7, 8, 9, 10]) ?_
 refine CW_seq ?_
 refine CW_sr ?_
 refine RW_m ?_
 refine RW_l (Yl_ifEqNil rfl if_105) ?_
 refine RW_lv (ks := [0, 1, 6, 7, 8, 9, 10, 30]) ?_
 refine CW_cond rfl (fun hc1 => ?_) (fun hc1 => ?_)
 ·skip
  refine CW_region ?_
  refine RW_m ?_
  refine RW_m ?_
  refine RW_fx rfl rfl rfl (Fx_call ok_41 (vs := [pv S.bf, .slice (some ⟨bb, o, none⟩) n c]) rfl (Pick.cons (.here _ _) (Pick.cons (.here _ _) (Pick.cons (.here _ _) (Pick.cons (.here _ _) (pick_app S.G F))))) (Read_ct S h bs N B hR D hD hDl a k' r' n m hr' hk' ha hn hm bb o c lb Tb hnc hc hlb U u T0 fz0)) ?_
  rintro _ _ ⟨_, ⟨k2, r2, hr2, hk2, rfl, rfl⟩, rfl⟩
  simp only [List.cons_append]
  refine RW_m ?_
  refine RW_l (Yl_extract (v := nv m) rfl rfl) ?_
  refine RW_l (Yl_extract (v := if n ≤ S.size - a then .nilIface else .iface U u) rfl rfl) ?_
  refine RW_a ?_
  refine RW_a ?_
  refine RW_lv (ks := [0, 6, 7, 8, 9, 10]) ?_
  refine CW_sr ?_
  refine RW_m ?_
  refine RW_m ?_
  refine RW_m ?_
  refine RW_m ?_
  refine RW_m ?_
  refine RW_m ?_
  refine RW_l (Yl_nilCheck rfl) ?_
  refine RW_l (Yl_field rfl fo_93_4) ?_
  refine RW_fx0 rfl rfl (Fx_store (v := nv p) rfl rfl sz_2 rfl (by repeat (first | exact Rep.here _ _ _ | apply Rep.there)) (by simp [fiF])) ?_
  rintro _ _ rfl
  refine RW_l (Yl_nilCheck rfl) ?_
  refine RW_l (Yl_field rfl fo_93_6) ?_
  refine RW_fx0 rfl rfl (Fx_store (v := nv r) rfl rfl sz_2 rfl (by repeat (first | exact Rep.here _ _ _ | apply Rep.there)) (by simp [fiF])) ?_
  rintro _ _ rfl
  refine RW_l (Yl_nilCheck rfl) ?_
  refine RW_l (Yl_field rfl fo_93_5) ?_
  refine RW_fx0 rfl rfl (Fx_store (v := uv (snx S.cs k)) rfl rfl sz_67 rfl (by repeat (first | exact Rep.here _ _ _ | apply Rep.there)) (by simp [fiF])) ?_
  rintro _ _ rfl
  refine RW_lv (ks := [6, 7]) ?_
  refine CW_sr ?_
  refine RW_m ?_
  refine RW_m ?_
  refine RW_a ?_
  refine RW_a ?_
  refine RW_lv (ks := [6, 7]) ?_
  refine CW_ret ?_
  exact QW_ret2 rfl rfl rfl (S.fb (p) (k) (r) :: S.rb :: (0, Obj.cells [.iface U u].toArray T0 fz0) :: (bb, blk (spl o (bys ((D.drop (a)).take (m))) lb) Tb) :: S.G) ⟨rfl, rfl⟩ (Prm.nil _)
 ·skip
  exact absurd hc1 (by decide)
theorem app_eq {l2 rz : List Value} {c : List UInt8} {m : Nat} (hl : c.length = m) (h : l2.take (m * 1) = ((bys c ++ rz).drop 0).take (m * 1)) : l2 = bys c ++ l2.drop m := by
 subst hl
 rw [Nat.mul_one, List.drop_zero] at h
 have e : (bys c ++ rz).take c.length = bys c := by rw [List.take_append_of_le_length (by simp), List.take_of_length_le (by simp)]
 rw [e] at h
 conv => lhs; rw [← List.take_append_drop c.length l2, h]
theorem spl_front {c l : List Value} (h : c.length ≤ l.length) : spl 0 c l = c ++ l.drop c.length := by simp [spl]
theorem p_mv (x b4 b3 a b c d : Nat × Obj) {R : Heap} : (x :: b4 :: b3 :: a :: b :: c :: d :: R).Perm (a :: b :: c :: x :: b4 :: b3 :: d :: R) :=
 (perm_front [x, b4, b3] [a, b, c] (d :: R))
theorem one_read (S : Src) (h : S.Ok) (bs N : Nat) (B : List UInt8) (hR : S.Rd bs N B) (D : List UInt8) (hD : Dat S.ad B D) (hDl : D.length = S.size) (p k r : Nat) (hr : r < S.u) (hp : k * S.u + r = p) (hlt : p < S.size) (n m : Nat) (hn : 0 < n) (hn2 : n ≤ 65536) (hm : m = min n (S.size - p)) (U : TypeId) (u : Value) (T0 : TypeId) (fz0 : Nat × Nat) (hU : Nat.beq U 123 = false) :
  Ct Tryd.prog 37 [pv S.bf, .agg [nv 0, nv n, .int .i64 0, nv 0, .slice none 0 0].toArray] (S.fb (p) (k) (r) :: S.rb :: (0, Obj.cells [.iface U u].toArray T0 fz0) :: S.G) (fun v q => ∃ k' r', r' < S.u ∧ k' * S.u + r' = p + m ∧ ∃ b98 cap rx, v = .tuple #[.agg [.slice (some ⟨b98, 0, none⟩) m cap, nv m, nv (if n ≤ S.size - p then 0 else 6)].toArray, .bool true] ∧ q = S.fb (p + m) k' r' :: S.rb :: (0, Obj.cells [.iface U u].toArray T0 fz0) :: (b98, blk (bys ((D.drop (p)).take m) ++ rx) 5) :: S.G) := by
 refine Ct_of Tryd.func37 rfl Tryd.ntmps37 rfl ?_
 intro E F
 simp only [numL, List.nil_append, List.cons_append]
 refine CW_sr ?_
 refine RW_fx rfl rfl rfl (Fx_box (zs := [nv 0, nv n, .int .i64 0, nv 0, .slice none 0 0]) rfl rfl) ?_
 rintro _ _ ⟨b3, rfl, rfl⟩
 refine RW_fx rfl rfl rfl (Fx_alloc (zs := zs_58) ze_58 rfl) ?_
 rintro _ _ ⟨b4, rfl, rfl⟩
 refine RW_a ?_
 refine RW_lv (ks := [0, 3, 4]) ?_
 refine CW_seq ?_
 refine CW_sr ?_
 refine RW_l (Yl_field rfl fo_53_1) ?_
 refine RW_h (Yh_ld (v := nv n) sc_3) ?_
 refine RW_l (Yl_lssB false rfl rfl (decide_eq_false (by omega))) ?_
 refine RW_m ?_
 refine RW_gy rfl rfl rfl (Yl.h (Yl_field rfl fo_53_1)) ?_
 refine RW_gy rfl rfl rfl (Yh_ld (v := nv n) sc_3) ?_
 refine RW_gy rfl rfl rfl (Yl.h (Yl_gtrB false rfl rfl (decide_eq_false (by omega)))) ?_
 refine RW_l (Yl_pick_f rfl rfl) ?_
 refine RW_m ?_
 refine RW_gy rfl rfl rfl (Yl.h (Yl_field rfl fo_53_4)) ?_
 refine RW_gy rfl rfl rfl (Yh_ld (v := .slice none 0 0) sc_23) ?_
 refine RW_gy rfl rfl rfl (Yl.h (Yl_len rfl sl_23)) ?_
 refine RW_gy rfl rfl rfl (Yl.h (Yl_gtrB false rfl rfl (decide_eq_false (by omega)))) ?_
 refine RW_l (Yl_pick_f rfl rfl) ?_
 refine RW_lv (ks := [0, 3, 4, 24]) ?_
 refine CW_false rfl ?_
 refine (CW_skip (QW_lv (ks := [0, 3, 4]) ?_))
 refine CW_sr ?_
 refine RW_l (Yl_field rfl fo_53_1) ?_
 refine RW_h (Yh_ld (v := nv n) sc_3) ?_
 refine RW_fx rfl rfl rfl (Fx_makeU8 n rfl rfl (by omega)) ?_
 rintro _ _ ⟨b28, rfl, rfl⟩
 refine RW_a ?_
 refine RW_lv (ks := [0, 3, 4, 6]) ?_
 refine CW_sr ?_
 refine RW_a ?_
 refine RW_lv (ks := [0, 3, 4, 6]) ?_
 refine CW_sr ?_
 refine RW_a ?_
 refine RW_lv (ks := [0, 3, 4, 6]) ?_
 refine CW_seq ?_
 refine CW_sr ?_
 refine RW_l (Yl_field rfl fo_53_0) ?_
 refine RW_h (Yh_ld (v := nv 0) sc_3) ?_
 refine RW_lv (ks := [0, 3, 4, 6, 30]) ?_
 refine CW_block ?_
 refine CW_sr ?_
 refine RW_l (Yl_eqlB true rfl rfl (decide_eq_true (by omega))) ?_
 refine RW_a ?_
 refine RW_lv (ks := [0, 3, 4, 6, 30, 32]) ?_
 refine CW_true rfl ?_
 refine CW_region ?_
 refine RW_m ?_
 refine RW_m ?_
 refine RW_fx rfl rfl rfl (Fx_call ok_41 (vs := [pv S.bf, .slice (some ⟨b28, 0, none⟩) n n]) rfl (Pick.cons (.there _ (.there _ (.there _ (.here _ _)))) (Pick.cons (.there _ (.there _ (.there _ (.here _ _)))) (Pick.cons (.there _ (.there _ (.there _ (.here _ _)))) (Pick.cons (.here _ _) (pick_mid S.G [_, _] F))))) (Read_ct S h bs N B hR D hD hDl p k r n m hr hp hlt hn hm b28 0 n (bys (List.replicate n 0)) 5 (Nat.le_refl _) (by omega) (by simp) U u T0 fz0)) ?_
 rintro _ _ ⟨_, ⟨k', r', hr', hk', rfl, rfl⟩, rfl⟩
 simp only [List.cons_append]
 refine RW_heap (p_on _ _ _ _ _ _ _ _) ?_
 rw [spl_front (by simp; omega)]
 refine RW_m ?_
 refine RW_l (Yl_extract (v := nv m) rfl rfl) ?_
 refine RW_l (Yl_extract (v := if n ≤ S.size - p then .nilIface else .iface U u) rfl rfl) ?_
 refine RW_a ?_
 refine RW_a ?_
 refine RW_nil ?_
 refine QW_normal_block ?_
 refine (QW_lv (ks := [4, 6, 7, 8]) ?_)
 refine CW_seq ?_
 obtain ⟨rz, hrz⟩ : ∃ rz, rz = (bys (List.replicate n 0)).drop (bys ((D.drop (p)).take m)).length := ⟨_, rfl⟩
 rw [← hrz]
 refine CW_region ?_
 refine RW_m ?_
 refine RW_m ?_
 refine RW_l (Yl_cutHN (h := m) rfl rfl sl_23 (by omega)) ?_
 refine RW_fx rfl rfl rfl (Fx_append_nil (z0 := .int .u8 0) (q := 1) (lx := bys ((D.drop (p)).take m) ++ rz) (offx := 0) rfl rfl sl_23 by_5 ze_5 rfl rfl (by repeat (first | exact List.Mem.head _ | apply List.Mem.tail)) (by rw [List.length_append, List.length_map]; simp; omega) (by omega) (by omega) (by omega)) ?_
 rintro _ _ ⟨b98, l2, cap, rfl, hc1, hc2, hc3, rfl⟩
 refine RW_m ?_
 refine RW_m ?_
 refine RW_fx rfl rfl rfl (Fx_callQ ok_40 (vs := [if n ≤ S.size - p then .nilIface else .iface U u]) (R := fun v => v = nv (if n ≤ S.size - p then 0 else 6)) rfl (Pick.nil _) (code_eof _ U u hU)) ?_
 rintro _ _ ⟨rfl, rfl⟩
 refine RW_l (Yl_build (cs := [.slice (some ⟨b98, 0, none⟩) m cap, nv m, nv (if n ≤ S.size - p then 0 else 6)]) pl_58 ze_58 rfl rfl) ?_
 refine RW_fx0 rfl rfl (Fx_storeA (b := b4) (off := 0) (l := zs_58) (T := 58) (cs := [.slice (some ⟨b98, 0, none⟩) m cap, nv m, nv (if n ≤ S.size - p then 0 else 6)]) rfl rfl sz_58 (by intro u hu; simp only [List.mem_cons, List.not_mem_nil, or_false] at hu; rcases hu with hu | hu | hu <;> rw [hu] <;> rfl) (by repeat (first | exact Rep.here _ _ _ | apply Rep.there)) (Nat.le_refl 3)) ?_
 rintro _ _ rfl
 refine RW_a ?_
 refine RW_lv (ks := [4, 5]) ?_
 refine CW_ret ?_
 have e2 : l2 = bys ((D.drop (p)).take m) ++ l2.drop m := app_eq (by simp; omega) hc3
 refine QW_retCt rfl rfl rfl (b := b4) (T := 58) (cs := [.slice (some ⟨b98, 0, none⟩) m cap, nv m, nv (if n ≤ S.size - p then 0 else 6)]) (by repeat (first | exact List.Mem.head _ | apply List.Mem.tail)) ag_58 (S.fb (p + m) k' r' :: S.rb :: (0, Obj.cells [.iface U u].toArray T0 fz0) :: (b98, blk (bys ((D.drop (p)).take m) ++ l2.drop m) 5) :: S.G) ⟨k', r', hr', hk', b98, cap, l2.drop m, rfl, rfl⟩ (fun w h => ?_)
 rw [← e2]
 refine HA.sub (h.perm (p_mv _ _ _ _ _ _ _)) ?_
 exact .cons_cons _ (.cons_cons _ (.cons_cons _ (.cons_cons _ (.cons _ (.cons _ (.cons _ (.refl _)))))))
theorem one_readAt (S : Src) (h : S.Ok) (bs N : Nat) (B : List UInt8) (hR : S.Rd bs N B) (D : List UInt8) (hD : Dat S.ad B D) (hDl : D.length = S.size) (p k r : Nat) (hr : r < S.u) (hp : k * S.u + r = p) (hp2 : p ≤ S.size) (dc : List Value) (hbd : (S.bd, blk dc 112) ∈ S.G) (hdc : dc[60]? = some (uv (snx S.cs 0))) (n m a : Nat) (ha : a < S.size) (hn : 0 < n) (hn2 : n ≤ 65536) (hm : m = min n (S.size - a)) (U : TypeId) (u : Value) (T0 : TypeId) (fz0 : Nat × Nat) (hU : Nat.beq U 123 = false) :
  Ct Tryd.prog 37 [pv S.bf, .agg [nv 2, nv n, nv a, nv 0, .slice none 0 0].toArray] (S.fb (p) (k) (r) :: S.rb :: (0, Obj.cells [.iface U u].toArray T0 fz0) :: S.G) (fun v q => ∃ b98 cap rx, v = .tuple #[.agg [.slice (some ⟨b98, 0, none⟩) m cap, nv m, nv (if n ≤ S.size - a then 0 else 6)].toArray, .bool true] ∧ q = S.fb (p) (k) (r) :: S.rb :: (0, Obj.cells [.iface U u].toArray T0 fz0) :: (b98, blk (bys ((D.drop (a)).take m) ++ rx) 5) :: S.G) := by
 have hsz1 := h.sz
 refine Ct_of Tryd.func37 rfl Tryd.ntmps37 rfl ?_
 intro E F
 simp only [numL, List.nil_append, List.cons_append]
 refine CW_sr ?_
 refine RW_fx rfl rfl rfl (Fx_box (zs := [nv 2, nv n, nv a, nv 0, .slice none 0 0]) rfl rfl) ?_
 rintro _ _ ⟨b3, rfl, rfl⟩
 refine RW_fx rfl rfl rfl (Fx_alloc (zs := zs_58) ze_58 rfl) ?_
 rintro _ _ ⟨b4, rfl, rfl⟩
 refine RW_a ?_
 refine RW_lv (ks := [0, 3, 4]) ?_
 refine CW_seq ?_
 refine CW_sr ?_
 refine RW_l (Yl_field rfl fo_53_1) ?_
 refine RW_h (Yh_ld (v := nv n) sc_3) ?_
 refine RW_l (Yl_lssB false rfl rfl (decide_eq_false (by omega))) ?_
 refine RW_m ?_
 refine RW_gy rfl rfl rfl (Yl.h (Yl_field rfl fo_53_1)) ?_
 refine RW_gy rfl rfl rfl (Yh_ld (v := nv n) sc_3) ?_
 refine RW_gy rfl rfl rfl (Yl.h (Yl_gtrB false rfl rfl (decide_eq_false (by omega)))) ?_
 refine RW_l (Yl_pick_f rfl rfl) ?_
 refine RW_m ?_
 refine RW_gy rfl rfl rfl (Yl.h (Yl_field rfl fo_53_4)) ?_
 refine RW_gy rfl rfl rfl (Yh_ld (v := .slice none 0 0) sc_23) ?_
 refine RW_gy rfl rfl rfl (Yl.h (Yl_len rfl sl_23)) ?_
 refine RW_gy rfl rfl rfl (Yl.h (Yl_gtrB false rfl rfl (decide_eq_false (by omega)))) ?_
 refine RW_l (Yl_pick_f rfl rfl) ?_
 refine RW_lv (ks := [0, 3, 4, 24]) ?_
 refine CW_false rfl ?_
 refine (CW_skip (QW_lv (ks := [0, 3, 4]) ?_))
 refine CW_sr ?_
 refine RW_l (Yl_field rfl fo_53_1) ?_
 refine RW_h (Yh_ld (v := nv n) sc_3) ?_
 refine RW_fx rfl rfl rfl (Fx_makeU8 n rfl rfl (by omega)) ?_
 rintro _ _ ⟨b28, rfl, rfl⟩
 refine RW_a ?_
 refine RW_lv (ks := [0, 3, 4, 6]) ?_
 refine CW_sr ?_
 refine RW_a ?_
 refine RW_lv (ks := [0, 3, 4, 6]) ?_
 refine CW_sr ?_
 refine RW_a ?_
 refine RW_lv (ks := [0, 3, 4, 6]) ?_
 refine CW_seq ?_
 refine CW_sr ?_
 refine RW_l (Yl_field rfl fo_53_0) ?_
 refine RW_h (Yh_ld (v := nv 2) sc_3) ?_
 refine RW_lv (ks := [0, 3, 4, 6, 30]) ?_
 refine CW_block ?_
 refine CW_sr ?_
 refine RW_l (Yl_eqlB false rfl rfl (decide_eq_false (by omega))) ?_
 refine RW_a ?_
 refine RW_lv (ks := [0, 3, 4, 6, 30, 32]) ?_
 refine CW_false rfl ?_
 refine CW_sr ?_
 refine RW_l (Yl_eqlB false rfl rfl (decide_eq_false (by omega))) ?_
 refine RW_a ?_
 refine RW_lv (ks := [0, 3, 4, 6, 30, 40]) ?_
 refine CW_false rfl ?_
 refine CW_sr ?_
 refine RW_l (Yl_eqlB true rfl rfl (decide_eq_true (by omega))) ?_
 refine RW_a ?_
 refine RW_lv (ks := [0, 3, 4, 6, 30, 55]) ?_
 refine CW_true rfl ?_
 refine CW_region ?_
 refine RW_m ?_
 refine RW_m ?_
 refine RW_l (Yl_field rfl fo_53_2) ?_
 refine RW_h (Yh_ld (v := nv a) sc_2) ?_
 refine RW_fx rfl rfl rfl (Fx_call ok_43 (vs := [pv S.bf, .slice (some ⟨b28, 0, none⟩) n n, nv a]) rfl (Pick.cons (.there _ (.there _ (.there _ (.here _ _)))) (Pick.cons (.there _ (.there _ (.there _ (.here _ _)))) (Pick.cons (.there _ (.there _ (.there _ (.here _ _)))) (Pick.cons (.here _ _) (pick_mid S.G [_, _] F))))) (ReadAt_ct S h bs N B hR D hD hDl p k r hr hp hp2 dc hbd hdc n m a ha hn hm b28 0 n (bys (List.replicate n 0)) 5 (Nat.le_refl _) (by omega) (by simp) U u T0 fz0)) ?_
 rintro _ _ ⟨_, ⟨rfl, rfl⟩, rfl⟩
 simp only [List.cons_append]
 refine RW_heap (p_on _ _ _ _ _ _ _ _) ?_
 rw [spl_front (by simp; omega)]
 refine RW_m ?_
 refine RW_l (Yl_extract (v := nv m) rfl rfl) ?_
 refine RW_l (Yl_extract (v := if n ≤ S.size - a then .nilIface else .iface U u) rfl rfl) ?_
 refine RW_a ?_
 refine RW_a ?_
 refine RW_nil ?_
 refine QW_normal_block ?_
 refine (QW_lv (ks := [4, 6, 7, 8]) ?_)
 refine CW_seq ?_
 obtain ⟨rz, hrz⟩ : ∃ rz, rz = (bys (List.replicate n 0)).drop (bys ((D.drop (a)).take m)).length := ⟨_, rfl⟩
 rw [← hrz]
 refine CW_region ?_
 refine RW_m ?_
 refine RW_m ?_
 refine RW_l (Yl_cutHN (h := m) rfl rfl sl_23 (by omega)) ?_
 refine RW_fx rfl rfl rfl (Fx_append_nil (z0 := .int .u8 0) (q := 1) (lx := bys ((D.drop (a)).take m) ++ rz) (offx := 0) rfl rfl sl_23 by_5 ze_5 rfl rfl (by repeat (first | exact List.Mem.head _ | apply List.Mem.tail)) (by rw [List.length_append, List.length_map]; simp; omega) (by omega) (by omega) (by omega)) ?_
 rintro _ _ ⟨b98, l2, cap, rfl, hc1, hc2, hc3, rfl⟩
 refine RW_m ?_
 refine RW_m ?_
 refine RW_fx rfl rfl rfl (Fx_callQ ok_40 (vs := [if n ≤ S.size - a then .nilIface else .iface U u]) (R := fun v => v = nv (if n ≤ S.size - a then 0 else 6)) rfl (Pick.nil _) (code_eof _ U u hU)) ?_
 rintro _ _ ⟨rfl, rfl⟩
 refine RW_l (Yl_build (cs := [.slice (some ⟨b98, 0, none⟩) m cap, nv m, nv (if n ≤ S.size - a then 0 else 6)]) pl_58 ze_58 rfl rfl) ?_
 refine RW_fx0 rfl rfl (Fx_storeA (b := b4) (off := 0) (l := zs_58) (T := 58) (cs := [.slice (some ⟨b98, 0, none⟩) m cap, nv m, nv (if n ≤ S.size - a then 0 else 6)]) rfl rfl sz_58 (by intro u hu; simp only [List.mem_cons, List.not_mem_nil, or_false] at hu; rcases hu with hu | hu | hu <;> rw [hu] <;> rfl) (by repeat (first | exact Rep.here _ _ _ | apply Rep.there)) (Nat.le_refl 3)) ?_
 rintro _ _ rfl
 refine RW_a ?_
 refine RW_lv (ks := [4, 5]) ?_
 refine CW_ret ?_
 have e2 : l2 = bys ((D.drop (a)).take m) ++ l2.drop m := app_eq (by simp; omega) hc3
 refine QW_retCt rfl rfl rfl (b := b4) (T := 58) (cs := [.slice (some ⟨b98, 0, none⟩) m cap, nv m, nv (if n ≤ S.size - a then 0 else 6)]) (by repeat (first | exact List.Mem.head _ | apply List.Mem.tail)) ag_58 (S.fb (p) (k) (r) :: S.rb :: (0, Obj.cells [.iface U u].toArray T0 fz0) :: (b98, blk (bys ((D.drop (a)).take m) ++ l2.drop m) 5) :: S.G) ⟨b98, cap, l2.drop m, rfl, rfl⟩ (fun w h => ?_)
 rw [← e2]
 refine HA.sub (h.perm (p_mv _ _ _ _ _ _ _)) ?_
 exact .cons_cons _ (.cons_cons _ (.cons_cons _ (.cons_cons _ (.cons _ (.cons _ (.cons _ (.refl _)))))))
theorem rep_r2 {H H' : Heap} {x y : Nat × Obj} (a b : Nat × Obj) (G : Heap) (h : Rep H x y H') : Rep (a :: b :: (G ++ H)) x y (a :: b :: (G ++ H')) := .there a (.there b (rep_r G h))
theorem one_seek (S : Src) (h : S.Ok) (p k r : Nat) (hr : r < S.u) (hp : k * S.u + r = p) (hp2 : p ≤ S.size) (dc : List Value) (hbd : (S.bd, blk dc 112) ∈ S.G) (hdc : dc[60]? = some (uv (snx S.cs 0))) (to wh : Nat) (off : Int) (hto : to < S.size) (hw : (wh = 0 ∧ off = (to : Int)) ∨ (wh = 1 ∧ (p : Int) + off = (to : Int))) :
  Ct Tryd.prog 37 [pv S.bf, .agg [nv 1, nv 0, .int .i64 off, nv wh, .slice none 0 0].toArray] (S.fb (p) (k) (r) :: S.rb :: S.G) (fun v q => ∃ k' r', r' < S.u ∧ k' * S.u + r' = to ∧ v = .tuple #[.agg [.slice none 0 0, nv to, nv 0].toArray, .bool true] ∧ q = S.fb to k' r' :: S.rb :: S.G) := by
 refine Ct_of Tryd.func37 rfl Tryd.ntmps37 rfl ?_
 intro E F
 simp only [numL, List.nil_append, List.cons_append]
 refine CW_sr ?_
 refine RW_fx rfl rfl rfl (Fx_box (zs := [nv 1, nv 0, .int .i64 off, nv wh, .slice none 0 0]) rfl rfl) ?_
 rintro _ _ ⟨b3, rfl, rfl⟩
 refine RW_fx rfl rfl rfl (Fx_alloc (zs := zs_58) ze_58 rfl) ?_
 rintro _ _ ⟨b4, rfl, rfl⟩
 refine RW_a ?_
 refine RW_lv (ks := [0, 3, 4]) ?_
 refine CW_seq ?_
 refine CW_sr ?_
 refine RW_l (Yl_field rfl fo_53_1) ?_
 refine RW_h (Yh_ld (v := nv 0) sc_3) ?_
 refine RW_l (Yl_lssB false rfl rfl (decide_eq_false (by omega))) ?_
 refine RW_m ?_
 refine RW_gy rfl rfl rfl (Yl.h (Yl_field rfl fo_53_1)) ?_
 refine RW_gy rfl rfl rfl (Yh_ld (v := nv 0) sc_3) ?_
 refine RW_gy rfl rfl rfl (Yl.h (Yl_gtrB false rfl rfl (decide_eq_false (by omega)))) ?_
 refine RW_l (Yl_pick_f rfl rfl) ?_
 refine RW_m ?_
 refine RW_gy rfl rfl rfl (Yl.h (Yl_field rfl fo_53_4)) ?_
 refine RW_gy rfl rfl rfl (Yh_ld (v := .slice none 0 0) sc_23) ?_
 refine RW_gy rfl rfl rfl (Yl.h (Yl_len rfl sl_23)) ?_
 refine RW_gy rfl rfl rfl (Yl.h (Yl_gtrB false rfl rfl (decide_eq_false (by omega)))) ?_
 refine RW_l (Yl_pick_f rfl rfl) ?_
 refine RW_lv (ks := [0, 3, 4, 24]) ?_
 refine CW_false rfl ?_
 refine (CW_skip (QW_lv (ks := [0, 3, 4]) ?_))
 refine CW_sr ?_
 refine RW_l (Yl_field rfl fo_53_1) ?_
 refine RW_h (Yh_ld (v := nv 0) sc_3) ?_
 refine RW_fx rfl rfl rfl (Fx_makeU8 0 rfl rfl (by omega)) ?_
 rintro _ _ ⟨b28, rfl, rfl⟩
 refine RW_a ?_
 refine RW_lv (ks := [0, 3, 4, 6]) ?_
 refine CW_sr ?_
 refine RW_a ?_
 refine RW_lv (ks := [0, 3, 4, 6]) ?_
 refine CW_sr ?_
 refine RW_a ?_
 refine RW_lv (ks := [0, 3, 4, 6]) ?_
 refine CW_seq ?_
 refine CW_sr ?_
 refine RW_l (Yl_field rfl fo_53_0) ?_
 refine RW_h (Yh_ld (v := nv 1) sc_3) ?_
 refine RW_lv (ks := [0, 3, 4, 6, 30]) ?_
 refine CW_block ?_
 refine CW_sr ?_
 refine RW_l (Yl_eqlB false rfl rfl (decide_eq_false (by omega))) ?_
 refine RW_a ?_
 refine RW_lv (ks := [0, 3, 4, 6, 30, 32]) ?_
 refine CW_false rfl ?_
 refine CW_sr ?_
 refine RW_l (Yl_eqlB true rfl rfl (decide_eq_true (by omega))) ?_
 refine RW_a ?_
 refine RW_lv (ks := [0, 3, 4, 6, 30, 40]) ?_
 refine CW_true rfl ?_
 refine CW_sr ?_
 refine RW_m ?_
 refine RW_l (Yl_field rfl fo_53_2) ?_
 refine RW_h (Yh_ld (v := .int .i64 off) sc_2) ?_
 refine RW_l (Yl_field rfl fo_53_3) ?_
 refine RW_h (Yh_ld (v := nv wh) sc_3) ?_
 refine RW_fx rfl rfl rfl (Fx_call ok_42 (vs := [pv S.bf, .int .i64 off, nv wh]) rfl (Pick.cons (.there _ (.there _ (.there _ (.here _ _)))) (Pick.cons (.there _ (.there _ (.there _ (.here _ _)))) (pick_mid S.G [_, _, _] F))) (Seek_ct S h p k r to wh off dc hbd hdc hr hp hp2 hto hw)) ?_
 rintro _ _ ⟨_, ⟨rfl, k', r', hr', hk', rfl⟩, rfl⟩
 simp only [List.cons_append]
 refine RW_m ?_
 refine RW_l (Yl_extract (v := nv to) rfl rfl) ?_
 refine RW_l (Yl_extract (v := .nilIface) rfl rfl) ?_
 refine RW_a ?_
 refine RW_a ?_
 refine RW_lv (ks := [4, 9, 10]) ?_
 refine CW_sr ?_
 refine RW_m ?_
 refine RW_m ?_
 refine RW_fx rfl rfl rfl (Fx_callQ ok_40 (vs := [.nilIface]) (R := fun v => v = nv 0) rfl (Pick.nil _) code_nil) ?_
 rintro _ _ ⟨rfl, rfl⟩
 refine RW_l (Yl_build (cs := [.slice none 0 0, nv to, nv 0]) pl_58 ze_58 rfl rfl) ?_
 refine RW_fx0 rfl rfl (Fx_storeA (b := b4) (off := 0) (l := zs_58) (T := 58) (cs := [.slice none 0 0, nv to, nv 0]) rfl rfl sz_58 (by intro u hu; simp only [List.mem_cons, List.not_mem_nil, or_false] at hu; rcases hu with hu | hu | hu <;> rw [hu] <;> rfl) (rep_r2 _ _ _ (.there _ (.here _ _ _))) (Nat.le_refl 3)) ?_
 rintro _ _ rfl
 refine RW_a ?_
 refine RW_lv (ks := [4, 5]) ?_
 refine CW_ret ?_
 refine QW_ret_block ?_
 refine QW_ret_then ?_
 refine QW_retCt rfl rfl rfl (b := b4) (T := 58) (cs := [.slice none 0 0, nv to, nv 0]) (List.mem_cons_of_mem _ (List.mem_cons_of_mem _ (List.mem_append_right _ (List.mem_cons_of_mem _ (List.mem_cons_self ..))))) ag_58 (S.fb to k' r' :: S.rb :: S.G) ⟨k', r', hr', hk', rfl, rfl⟩ (fun w h => ?_)
 refine HA.sub h ?_
 exact .cons_cons _ (.cons_cons _ (List.Sublist.append_left (.cons _ (.cons _ (.cons _ (.refl _)))) _))
theorem one_end (S : Src) (p k r n : Nat) (hpe : S.size ≤ p) (hn2 : n ≤ 65536) (U : TypeId) (u : Value) (T0 : TypeId) (fz0 : Nat × Nat) (hU : Nat.beq U 123 = false) :
  Ct Tryd.prog 37 [pv S.bf, .agg [nv 0, nv n, .int .i64 0, nv 0, .slice none 0 0].toArray] [S.fb (p) (k) (r), (0, Obj.cells [.iface U u].toArray T0 fz0)] (fun v q => v = .tuple #[.agg [.slice none 0 0, nv 0, nv 6].toArray, .bool true] ∧ q = [S.fb (p) (k) (r), (0, Obj.cells [.iface U u].toArray T0 fz0)]) := by
 refine Ct_of Tryd.func37 rfl Tryd.ntmps37 rfl ?_
 intro E F
 simp only [numL, List.nil_append, List.cons_append]
 refine CW_sr ?_
 refine RW_fx rfl rfl rfl (Fx_box (zs := [nv 0, nv n, .int .i64 0, nv 0, .slice none 0 0]) rfl rfl) ?_
 rintro _ _ ⟨b3, rfl, rfl⟩
 refine RW_fx rfl rfl rfl (Fx_alloc (zs := zs_58) ze_58 rfl) ?_
 rintro _ _ ⟨b4, rfl, rfl⟩
 refine RW_a ?_
 refine RW_lv (ks := [0, 3, 4]) ?_
 refine CW_seq ?_
 refine CW_sr ?_
 refine RW_l (Yl_field rfl fo_53_1) ?_
 refine RW_h (Yh_ld (v := nv n) sc_3) ?_
 refine RW_l (Yl_lssB false rfl rfl (decide_eq_false (by omega))) ?_
 refine RW_m ?_
 refine RW_gy rfl rfl rfl (Yl.h (Yl_field rfl fo_53_1)) ?_
 refine RW_gy rfl rfl rfl (Yh_ld (v := nv n) sc_3) ?_
 refine RW_gy rfl rfl rfl (Yl.h (Yl_gtrB false rfl rfl (decide_eq_false (by omega)))) ?_
 refine RW_l (Yl_pick_f rfl rfl) ?_
 refine RW_m ?_
 refine RW_gy rfl rfl rfl (Yl.h (Yl_field rfl fo_53_4)) ?_
 refine RW_gy rfl rfl rfl (Yh_ld (v := .slice none 0 0) sc_23) ?_
 refine RW_gy rfl rfl rfl (Yl.h (Yl_len rfl sl_23)) ?_
 refine RW_gy rfl rfl rfl (Yl.h (Yl_gtrB false rfl rfl (decide_eq_false (by omega)))) ?_
 refine RW_l (Yl_pick_f rfl rfl) ?_
 refine RW_lv (ks := [0, 3, 4, 24]) ?_
 refine CW_false rfl ?_
 refine (CW_skip (QW_lv (ks := [0, 3, 4]) ?_))
 refine CW_sr ?_
 refine RW_l (Yl_field rfl fo_53_1) ?_
 refine RW_h (Yh_ld (v := nv n) sc_3) ?_
 refine RW_fx rfl rfl rfl (Fx_makeU8 n rfl rfl (by omega)) ?_
 rintro _ _ ⟨b28, rfl, rfl⟩
 refine RW_a ?_
 refine RW_lv (ks := [0, 3, 4, 6]) ?_
 refine CW_sr ?_
 refine RW_a ?_
 refine RW_lv (ks := [0, 3, 4, 6]) ?_
 refine CW_sr ?_
 refine RW_a ?_
 refine RW_lv (ks := [0, 3, 4, 6]) ?_
 refine CW_seq ?_
 refine CW_sr ?_
 refine RW_l (Yl_field rfl fo_53_0) ?_
 refine RW_h (Yh_ld (v := nv 0) sc_3) ?_
 refine RW_lv (ks := [0, 3, 4, 6, 30]) ?_
 refine CW_block ?_
 refine CW_sr ?_
 refine RW_l (Yl_eqlB true rfl rfl (decide_eq_true (by omega))) ?_
 refine RW_a ?_
 refine RW_lv (ks := [0, 3, 4, 6, 30, 32]) ?_
 refine CW_true rfl ?_
 refine CW_region ?_
 refine RW_m ?_
 refine RW_m ?_
 refine RW_fx rfl rfl rfl (Fx_callQ ok_41 (vs := [pv S.bf, .slice (some ⟨b28, 0, none⟩) n n]) (R := fun v => v = .tuple #[nv 0, .iface U u]) rfl (Pick.cons (by repeat (first | exact Rem.here _ _ | apply Rem.there)) (Pick.cons (by repeat (first | exact Rem.here _ _ | apply Rem.there)) (Pick.nil _))) (Read_end S p k r hpe U u T0 fz0 _ n n)) ?_
 rintro _ _ ⟨rfl, rfl⟩
 refine RW_m ?_
 refine RW_l (Yl_extract (v := nv 0) rfl rfl) ?_
 refine RW_l (Yl_extract (v := .iface U u) rfl rfl) ?_
 refine RW_a ?_
 refine RW_a ?_
 refine RW_nil ?_
 refine QW_normal_block ?_
 refine (QW_lv (ks := [4, 6, 7, 8]) ?_)
 refine CW_sr ?_
 refine RW_m ?_
 refine RW_m ?_
 refine RW_l (Yl_cutHN (h := 0) rfl rfl sl_23 (Nat.zero_le _)) ?_
 refine RW_l (Yl_append0 rfl rfl sl_23 (Nat.le_refl _)) ?_
 refine RW_m ?_
 refine RW_m ?_
 refine RW_fx rfl rfl rfl (Fx_callQ ok_40 (vs := [.iface U u]) (R := fun v => v = nv 6) rfl (Pick.nil _) (code_other U u hU)) ?_
 rintro _ _ ⟨rfl, rfl⟩
 refine RW_l (Yl_build (cs := [.slice none 0 0, nv 0, nv 6]) pl_58 ze_58 rfl rfl) ?_
 refine RW_fx0 rfl rfl (Fx_storeA (b := b4) (off := 0) (l := zs_58) (T := 58) (cs := [.slice none 0 0, nv 0, nv 6]) rfl rfl sz_58 (by intro u hu; simp only [List.mem_cons, List.not_mem_nil, or_false] at hu; rcases hu with hu | hu | hu <;> rw [hu] <;> rfl) (by repeat (first | exact Rep.here _ _ _ | apply Rep.there)) (Nat.le_refl 3)) ?_
 rintro _ _ rfl
 refine RW_a ?_
 refine RW_lv (ks := [4, 5]) ?_
 refine CW_ret ?_
 refine QW_retCt rfl rfl rfl (b := b4) (T := 58) (cs := [.slice none 0 0, nv 0, nv 6]) (by repeat (first | exact List.Mem.head _ | apply List.Mem.tail)) ag_58 [S.fb (p) (k) (r), (0, Obj.cells [.iface U u].toArray T0 fz0)] ⟨rfl, rfl⟩ (fun w h => ?_)
 refine HA.sub h ?_
 exact .cons _ (.cons _ (.cons _ (.refl _)))

end Go.Proofs.YtgoddcicbpjknaaDoor
