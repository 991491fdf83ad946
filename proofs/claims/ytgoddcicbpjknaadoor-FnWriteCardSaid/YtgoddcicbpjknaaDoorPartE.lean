/- Walks: Order, whole. Values: what a file of linked nodes tells. Values: rows of what is told; arrays that are the same. Values: a text's first sign; kinds of nodes. Values: comparisons of which one knows what they give. Values: steps that are done one behind the other. Walks: Steps. Values: bytes as a text. Steps that read an entry of no bytes. Walks: compressChain. Values: a stream in a reader, and where it is read. Walks: getOffset, seek. Walks: stream. Walks: Seek. Values: a buffer that is filled piece by piece. Walks: ReadAt; steps that read and seek. Plain: where a stream's bytes lie in the file that Write makes. No program in sight. Plain: bytes are written into a stream of the file that Write makes: it is the file of the stream with these bytes. No program in sight. A stream of the file that Write makes, as a reader that has been opened holds it. Steps that read a stream and seek in it, one behind the other. The reader's steps over a stream: what they tell. Values: slices of bytes wherever they lie, as texts. Walks: streamOf; same, wherever the bytes lie. A stream's node; a stream is read piece by piece. Plans: steps that read a stream, seek in it, read it at a place; what they tell. From a contract to a row: slices of numbers of two bytes; three slices. From a contract to a row: numbers of two bytes in a heap of more blocks. Values: a stream that is written. Walks: a stream is written. -/
import Derived.Test.YtgoddcicbpjknaaDoorPartD
import Derived.ChangeKeysEq
import Derived.Laws.BytesString
set_option maxRecDepth 20000
set_option maxHeartbeats 4000000

namespace Go.Proofs.YtgoddcicbpjknaaDoor
open Go
open Cfb

/-! Walks: Order, whole. -/
theorem Order_ct (ns : List Nm) (g cap : Nat) (rn : List Value) (o : List (Nat × List (List UInt8))) (hk2 : ns.length ≤ 1000) (hol : o.length ≤ 1000) (ho : OT (lfF ns) (rtF ns) (chdF ns) (nmOf ns) ((0 : Nat) : Int) [] o) (hk : ∀ k ∈ o.map Prod.fst, k < ns.length) :
  Ct Tryd.prog 17 [.slice (some ⟨g, 0, none⟩) ns.length cap] [(g, blk (nms ns ++ rn) 43)] (fun v q => ∃ vs go co ro gp cp rp pp, v = .tuple #[.slice (some ⟨go, 0, none⟩) o.length co, .slice (some ⟨gp, 0, none⟩) o.length cp] ∧ VsOk pp vs (o.map Prod.snd) ∧ (nats (o.map Prod.fst) ++ ro).length = co ∧ (vs ++ rp).length = cp ∧ q = (g, blk (nms ns ++ rn) 43) :: (go, blk (nats (o.map Prod.fst) ++ ro) 3) :: (gp, blk (vs ++ rp) 36) :: pp) := by
 refine Ct_of Tryd.func17 rfl Tryd.ntmps17 rfl ?_
 intro E F
 simp only [numL, List.nil_append, List.cons_append]
 refine CW_sr ?_
 refine RW_fx rfl rfl rfl (Fx_box (zs := [.slice (some ⟨g, 0, none⟩) ns.length cap]) rfl rfl) ?_
 rintro _ _ ⟨bn, rfl, rfl⟩
 refine RW_a ?_
 refine RW_a ?_
 refine RW_lv (ks := [1]) ?_
 refine CW_sr ?_
 refine RW_fx rfl rfl rfl (Fx_buildSlice0 sl_29) ?_
 rintro _ _ ⟨go, rfl, rfl⟩
 refine RW_fx rfl rfl rfl (Fx_buildSlice0 sl_30) ?_
 rintro _ _ ⟨gp, rfl, rfl⟩
 refine RW_fx rfl rfl rfl (Fx_alloc (zs := [.slice none 0 0]) ze_29 rfl) ?_
 rintro _ _ ⟨bo, rfl, rfl⟩
 refine RW_fx rfl rfl rfl (Fx_alloc (zs := [.slice none 0 0]) ze_30 rfl) ?_
 rintro _ _ ⟨bp, rfl, rfl⟩
 refine RW_fx0 rfl rfl (Fx_store (v := .slice (some ⟨go, 0, none⟩) 0 0) (b := bo) (off := 0) rfl rfl sz_29 rfl rep_ (by simp)) ?_
 rintro _ _ rfl
 refine RW_fx0 rfl rfl (Fx_store (v := .slice (some ⟨gp, 0, none⟩) 0 0) (b := bp) (off := 0) rfl rfl sz_30 rfl rep_ (by simp)) ?_
 rintro _ _ rfl
 refine RW_lv (ks := [1, 4, 5]) ?_
 refine CW_sr ?_
 refine RW_fx rfl rfl rfl (Fx_alloc (zs := [.nilFunc]) ze_77 rfl) ?_
 rintro _ _ ⟨bF, rfl, rfl⟩
 refine RW_lv (ks := [1, 4, 5, 6]) ?_
 refine CW_sr ?_
 refine RW_l (Yl_makeFunc (us := []) (vs := [pv bF, pv bn, pv bo, pv bp]) rfl rfl) ?_
 refine RW_fx0 rfl rfl (Fx_store (v := .func (.func 30) #[] #[pv bF, pv bn, pv bo, pv bp]) (b := bF) (off := 0) rfl rfl sz_77 rfl rep_ (by simp)) ?_
 rintro _ _ rfl
 refine RW_lv (ks := [4, 5, 6]) ?_
 refine CW_seq ?_
 have hih := order_any ns g cap bF bn bo bp rn hk2 ho hk [] [] go 0 gp 0 [] [] [] (.slice none 0 0) (.inl ⟨rfl, rfl⟩) (VsOk.nil _) rfl rfl (by simp; omega) (by simp; omega)
 refine CW_region ?_
 refine RW_h (Yh_ld (v := .func (.func 30) #[] #[pv bF, pv bn, pv bo, pv bp]) sc_77) ?_
 refine RW_fx rfl rfl rfl (Fx_callV ok_30 (fs := []) (cs := [pv bF, pv bn, pv bo, pv bp]) (vs := [iv ((0 : Nat) : Int), .slice none 0 0]) rfl rfl (by exact (Pick.cons rem_ (Pick.cons rem_ (Pick.cons rem_ (Pick.cons rem_ (Pick.cons rem_ (Pick.cons rem_ (Pick.cons rem_ (pick_app [] F))))))))) hih) ?_
 rintro _ _ ⟨_, ⟨rfl, vs1, go1, co1, gp1, cp1, ro1, rp1, pp1, hvs1, hro1, hrp1, hsub1, rfl⟩, rfl⟩
 simp only [List.cons_append, List.nil_append]
 rw [List.nil_append] at hvs1 hro1
 refine RW_lv (ks := [4, 5]) ?_
 refine CW_seq ?_
 refine CW_draw [] _ mixed (Sub.refl _) ?_
 refine RD_h (i := 0) #[false, true, false, false] rfl rfl rfl rfl kr_ (fun _ _ _ h => h) (Yh_ld (v := .slice (some ⟨go1, 0, none⟩) o.length co1) sc_29) ?_
 refine RD_l 2 rfl (Yl_assign rfl) ?_
 refine RD_h (i := 1) #[true, false, true, false] rfl rfl rfl rfl kr_ (fun _ _ _ h => h) (Yh_ld (v := .slice (some ⟨gp1, 0, none⟩) o.length cp1) sc_30) ?_
 refine RD_l 3 rfl (Yl_assign rfl) ?_
 refine (RD_done kr_ (QW_lv (ks := [2, 3]) ?_))
 refine CW_ret ?_
 refine QW_sub (H' := (g, blk (nms ns ++ rn) 43) :: (go1, blk (nats (o.map Prod.fst) ++ ro1) 3) :: (gp1, blk (vs1 ++ rp1) 36) :: (pp1 ++ F)) ?_ ?_
 ·exact .cons _ (.cons _ (.cons_cons _ (.cons _ (.cons_cons _ (.cons _ (.cons_cons _ (.refl _)))))))
 ·exact QW_ret2 rfl rfl rfl ((g, blk (nms ns ++ rn) 43) :: (go1, blk (nats (o.map Prod.fst) ++ ro1) 3) :: (gp1, blk (vs1 ++ rp1) 36) :: pp1) ⟨vs1, go1, co1, ro1, gp1, cp1, rp1, pp1, rfl, hvs1, hro1, hrp1, rfl⟩ (Prm.nil _)

/-! Values: what a file of linked nodes tells. -/
theorem STree.links {L R : Nat → Int} {pl : List Nat} {t : Int} (h : STree L R pl t) : ∀ k ∈ pl, (L k = -1 ∨ ∃ j ∈ pl, L k = (j : Int)) ∧ (R k = -1 ∨ ∃ j ∈ pl, R k = (j : Int)) := by
  induction h with
  | nil => intro k hk; cases hk
  | node ha hb iha ihb =>
    rename_i a b m
    intro k hk
    have up : ∀ {q : List Nat} {z : Int}, (∀ x ∈ q, x ∈ a ++ m :: b) → (z = -1 ∨ ∃ j ∈ q, z = (j : Int)) → (z = -1 ∨ ∃ j ∈ a ++ m :: b, z = (j : Int)) := fun hs h => h.imp id fun ⟨j, h1, h2⟩ => ⟨j, hs j h1, h2⟩
    have sa : ∀ x ∈ a, x ∈ a ++ m :: b := fun x hx => List.mem_append_left _ hx
    have sb : ∀ x ∈ b, x ∈ a ++ m :: b := fun x hx => List.mem_append_right _ (List.mem_cons_of_mem _ hx)
    have top : ∀ {q : List Nat} {z : Int}, STree L R q z → (z = -1 ∨ ∃ j ∈ q, z = (j : Int)) := fun h => h.top.imp (fun h => h.2) id
    rcases List.mem_append.1 hk with hk | hk
    · exact ⟨up sa (iha k hk).1, up sa (iha k hk).2⟩
    · rcases List.mem_cons.1 hk with rfl | hk
      · exact ⟨up sa (top ha), up sb (top hb)⟩
      · exact ⟨up sb (ihb k hk).1, up sb (ihb k hk).2⟩
section
variable {ns : List Nm}
theorem Lnk.bound {ls : Nat → List Nat} {par : Nat → Nat} (h : Lnk ns ls par) {k : Nat} (hk : k < ns.length) (hn : ns.length ≤ 100000) : (-1 ≤ lfF ns k ∧ lfF ns k ≤ 100000) ∧ (-1 ≤ rtF ns k ∧ rtF ns k ≤ 100000) ∧ (-1 ≤ chdF ns k ∧ chdF ns k ≤ 100000) := by
  have b : ∀ {q : Nat} {z : Int}, (z = -1 ∨ ∃ j ∈ ls q, z = (j : Int)) → -1 ≤ z ∧ z ≤ 100000 := by
    intro q z hz
    rcases hz with hz | ⟨j, hj, hz⟩
    · omega
    · have := (h.pl.mem q j).1 hj; omega
  have hc : chdF ns k = -1 ∨ ∃ j ∈ ls k, chdF ns k = (j : Int) := (h.tree k hk).top.imp (fun h => h.2) id
  rcases Nat.eq_zero_or_pos k with h0 | h0
  · subst h0
    have := h.root
    exact ⟨by omega, by omega, b hc⟩
  · have hl := h.pl.lt k h0 hk
    have hm : k ∈ ls (par k) := (h.pl.mem _ k).2 ⟨h0, hk, rfl⟩
    have h1 := STree.links (h.tree (par k) om_) k hm
    exact ⟨b h1.1, b h1.2, b hc⟩
theorem root_ok {l r c : Int} (hl : -1 ≤ l ∧ l ≤ 100000) (hr : -1 ≤ r ∧ r ≤ 100000) (hc : -1 ≤ c ∧ c ≤ 100000) : (rootNm.turn l r c).ok :=
  ⟨fun _ => rfl, by simp [rootNm, mkNm, Nm.turn], by simp [rootNm, mkNm, Nm.turn], by simp [rootNm, mkNm, Nm.turn], hl, hr, hc, by simp [rootNm, mkNm, Nm.turn], by simp [rootNm, mkNm, Nm.turn]⟩
theorem NodesOk.ok_at (h : NodesOk ns) {k : Nat} (hk : k < ns.length) : (ns.getD k default).ok := by
  obtain ⟨ls, par, hL⟩ := h.lnk
  have hn := h.len
  have hb := hL.bound hk om_
  unfold lfF rtF chdF at hb
  rcases Nat.eq_zero_or_pos k with h0 | h0
  · subst h0
    obtain ⟨c, e⟩ := h.root
    rw [e] at hb ⊢
    exact root_ok om_ om_ hb.2.2
  · obtain ⟨y, l, r, c, hy, e⟩ := h.made k h0 hk
    rw [e] at hb ⊢
    exact (hy.nd.turn hb.1 hb.2.1 hb.2.2).ok
theorem NodesOk.ok (h : NodesOk ns) : ∀ x ∈ ns, x.ok := by
  intro x hx
  obtain ⟨k, hk, rfl⟩ := List.mem_iff_getElem.1 hx
  have := h.ok_at hk
  rwa [List.getD_eq_getElem?_getD, List.getElem?_eq_getElem hk] at this
theorem NodesOk.xs (h : NodesOk ns) : Ok (ns.map Nm.nd) := by
  refine ⟨by simp; exact h.len, ?_⟩
  intro x hx
  obtain ⟨y, hy, rfl⟩ := List.mem_map.1 hx
  exact (h.ok y hy).small
theorem NodesOk.lnks (h : NodesOk ns) : ∀ x ∈ ns.map Nm.nd, x.left ≤ 4294967295 ∧ x.right ≤ 4294967295 ∧ x.child ≤ 4294967295 := by
  intro x hx
  obtain ⟨y, hy, rfl⟩ := List.mem_map.1 hx
  have := h.ok y hy
  have h1 := this.left
  have h2 := this.right
  have h3 := this.child
  omega
theorem NodesOk.name (h : NodesOk ns) {k : Nat} (hk : k < ns.length) : 1 ≤ (nmOf ns k).length ∧ (nmOf ns k).length ≤ 31 ∧ (∀ c ∈ nmOf ns k, c.toNat < 128) ∧ (65 ≤ ((nmOf ns k).getD 0 0).toNat ∧ ((nmOf ns k).getD 0 0).toNat ≤ 90) := by
  unfold nmOf
  rcases Nat.eq_zero_or_pos k with h0 | h0
  · subst h0
    obtain ⟨c, e⟩ := h.root
    rw [e]
    show 1 ≤ ([82, 111, 111, 116, 32, 69, 110, 116, 114, 121] : List UInt8).length ∧ ([82, 111, 111, 116, 32, 69, 110, 116, 114, 121] : List UInt8).length ≤ 31 ∧ (∀ c ∈ ([82, 111, 111, 116, 32, 69, 110, 116, 114, 121] : List UInt8), c.toNat < 128) ∧ (65 ≤ (([82, 111, 111, 116, 32, 69, 110, 116, 114, 121] : List UInt8).getD 0 0).toNat ∧ (([82, 111, 111, 116, 32, 69, 110, 116, 114, 121] : List UInt8).getD 0 0).toNat ≤ 90)
    exact ⟨by decide, by decide, by decide, by decide, by decide⟩
  · obtain ⟨y, l, r, c, hy, e⟩ := h.made k h0 hk
    rw [e]
    show 1 ≤ y.nd.name.length ∧ _ ∧ (∀ c ∈ y.nd.name, _) ∧ (65 ≤ (y.nd.name.getD 0 0).toNat ∧ (y.nd.name.getD 0 0).toNat ≤ 90)
    have h1 := hy.nd.nm
    have h2 := hy.nd.cap
    refine ⟨by omega, by show y.nd.name.length ≤ 31; omega, fun c hc => by have := h2 c hc; omega, ?_⟩
    refine h2 _ ?_
    rw [List.getD_eq_getElem?_getD, List.getElem?_eq_getElem om_]
    exact List.getElem_mem _
theorem NodesOk.names {ps : List Value} (hp : PsOk ps) (h : NodesOk ns) : ∀ k, k < (ns.map Nm.nd).length → NmOk ps ((ns.map Nm.nd).getD k default) (nmOf ns k) := by
  intro k hk
  have hk' : k < ns.length := by simpa using hk
  obtain ⟨h1, h2, h3, h4⟩ := h.name hk'
  have e : (ns.map Nm.nd).getD k default = (ns.getD k default).nd := nd_at ns k hk'
  rw [e]
  exact nmOk_cap (x := (ns.getD k default).nd) hp h1 h2 h3 h4
theorem NodesOk.data (h : NodesOk ns) {k : Nat} (hk : k < ns.length) (hs : (ns.getD k default).nd.stream = false) : (ns.getD k default).nd.data = [] := by
  rcases Nat.eq_zero_or_pos k with h0 | h0
  · subst h0
    obtain ⟨c, e⟩ := h.root
    rw [e]; rfl
  · obtain ⟨y, l, r, c, hy, e⟩ := h.made k h0 hk
    rw [e] at hs ⊢
    exact hy.data hs
/-- How a node leads on, read back. -/
theorem NodesOk.tn (h : NodesOk ns) (v : Nat) {k : Nat} (hk : k < ns.length) : k < (tnsF v (ns.map Nm.nd) (nmOf ns)).length ∧ (tnsF v (ns.map Nm.nd) (nmOf ns)).getD k default = ⟨nmOf ns k, lnkF (lfF ns k), lnkF (chdF ns k), lnkF (rtF ns k)⟩ := by
  have hc := cnt_le (v := v) h.xs
  have hl : (ns.map Nm.nd).length = ns.length := by simp
  refine ⟨by rw [tns_len]; omega, ?_⟩
  rw [show (tnsF v (ns.map Nm.nd) (nmOf ns)).getD k default = tnF (ns.map Nm.nd) (nmOf ns) k from range_getD _ om_]
  unfold tnF
  rw [if_pos om_, nd_at ns k hk]
  rfl
/-- The entries are gone through in the nodes' order. -/
theorem NodesOk.travs (h : NodesOk ns) (v : Nat) : ∃ o, OT (lfF ns) (rtF ns) (chdF ns) (nmOf ns) ((0 : Nat) : Int) [] o ∧ (∀ k, k ∈ o.map Prod.fst ↔ k < ns.length) ∧ (o.map Prod.fst).Nodup ∧ o.length ≤ ns.length ∧
    (STv (tnsF v (ns.map Nm.nd) (nmOf ns))).bad = false ∧ (STv (tnsF v (ns.map Nm.nd) (nmOf ns))).out = o.map Prod.fst ∧ ∀ x ∈ o, (STv (tnsF v (ns.map Nm.nd) (nmOf ns))).pth x.1 = x.2 := by
  obtain ⟨ls, par, hL⟩ := h.lnk
  obtain ⟨o, h1, h2, h3, h4⟩ := hL.order h.len.1 (nmOf ns)
  have hc := cnt_le (v := v) h.xs
  have hl : (ns.map Nm.nd).length = ns.length := by simp
  have ht := tns_len v (ns.map Nm.nd) (nmOf ns)
  obtain ⟨s', e, b, _, ou, _, pt⟩ := trav_ot (es := tnsF v (ns.map Nm.nd) (nmOf ns)) (by rw [ht]; omega) h1 ((tnsF v (ns.map Nm.nd) (nmOf ns)).length + 1) S0 rfl (by rw [ht]; show 0 + _ ≤ _; omega) (by rw [ht]; omega) (fun k hk => h.tn v ((h3 k).1 hk)) h2
  have e0 : s' = STv (tnsF v (ns.map Nm.nd) (nmOf ns)) := by
    rw [e]
    show (if lnkF ((0 : Nat) : Int) = 4294967295 then _ else Cfb.trav _ _ (lnkF ((0 : Nat) : Int)) _ _) = _
    rw [lnkF_nat, if_neg om_]
  rw [e0] at b ou pt
  exact ⟨o, h1, h3, h2, h4, b, by rw [ou]; rfl, pt⟩
end
theorem RowsOk.get {fs : List Fil} {pth : Nat → List (List UInt8)} {pp : Heap} {o : List Nat} {rows : List (List Value)} (h : RowsOk fs pth pp o rows) : ∀ i, i < o.length → ∃ f v, fs[o.getD i 0]? = some f ∧ DcOk f.en ∧ PathC pp v (pth (o.getD i 0)) ∧ rows.getD i [] = entC f.en v := by
  induction h with
  | nil => intro i hi; simp at hi
  | snoc h hf hd hp ih =>
    rename_i o rows k f v
    intro i hi
    have hl := h.len.2
    rw [List.length_append, List.length_singleton] at hi
    by_cases e : i = o.length
    · subst e
      refine ⟨f, v, ?_, hd, ?_, ?_⟩
      · simpa [List.getD_eq_getElem?_getD] using hf
      · simpa [List.getD_eq_getElem?_getD] using hp
      · rw [List.getD_eq_getElem?_getD, List.getElem?_append_right om_, hl]; simp
    · obtain ⟨f2, v2, h1, h2, h3, h4⟩ := ih i om_
      have e1 : (o ++ [k]).getD i 0 = o.getD i 0 := by rw [List.getD_eq_getElem?_getD, List.getElem?_append_left om_, ← List.getD_eq_getElem?_getD]
      have e2 : (rows ++ [entC f.en v]).getD i [] = rows.getD i [] := by rw [List.getD_eq_getElem?_getD, List.getElem?_append_left om_, ← List.getD_eq_getElem?_getD]
      rw [e1, e2]
      exact ⟨f2, v2, h1, h2, h3, h4⟩

/-! Values: rows of what is told; arrays that are the same. -/
section
variable {E : World} {L : Fra} {H : Heap} {dst : Option Tmp} {ty : TypeId} {pos : String} {aft : Array Edge} {gd : Option (Nat × Bool)}
theorem Yh_loadE {P : Program} {x : Operand} {t T : TypeId} {b off k : Nat} {l cs : List Value} {fz : Nat × Nat} (hx : ev L x = some (.pointer (some ⟨b, off, none⟩))) (ht : agOf P t = some k)
    (hm : (b, Obj.cells l.toArray T fz) ∈ H) (hv : off + k ≤ l.length) (hc : (l.drop off).take k = cs) : Yh P E L H ⟨dst, .load t x, ty, pos, aft, gd⟩ (.agg cs.toArray) := by
  subst hc
  exact Yh_loadA hx ht hm hv
end
theorem PathC.slice {pp : Heap} {v : Value} {p : List (List UInt8)} (h : PathC pp v p) : ∃ q c, v = .slice q p.length c := by
  rcases h with ⟨rfl, rfl⟩ | ⟨b, cap, r, _, rfl, _⟩
  · exact ⟨_, _, rfl⟩
  · exact ⟨_, _, rfl⟩
theorem PathC.some {pp : Heap} {v : Value} {p : List (List UInt8)} (h : PathC pp v p) (hp : 0 < p.length) : ∃ b cap r, v = .slice (some ⟨b, 0, none⟩) p.length cap ∧ (b, blk (strs p ++ r) 9) ∈ pp := by
  rcases h with ⟨rfl, rfl⟩ | ⟨b, cap, r, _, rfl, hm⟩
  · simp at hp
  · exact ⟨b, cap, r, rfl, hm⟩
def szN (ns : List Nm) (k : Nat) : Nat := szOfN (ns.map Nm.nd) k
theorem NodesOk.size {ns : List Nm} (h : NodesOk ns) {k : Nat} (hk : k < ns.length) (h0 : k ≠ 0) : szN ns k = (ns.getD k default).nd.data.length := by
  have e : (ns.map Nm.nd).getD k default = (ns.getD k default).nd := nd_at ns k hk
  unfold szN szOfN kdF lnF
  rw [if_neg h0, if_neg h0, e]
  by_cases hs : (ns.getD k default).nd.stream = true
  · rw [if_pos hs, if_pos (show UInt8.toNat 2 = 2 from rfl), if_pos hs]
  · rw [if_neg hs, if_neg (by decide), h.data hk (by simpa using hs)]; rfl

/-! Values: a text's first sign; kinds of nodes. -/
theorem fst_at {o : List (Nat × List (List UInt8))} {r : List Value} {i k : Nat} (h : i < o.length) (hk : (o.getD i default).1 = k) : (nats (o.map Prod.fst) ++ r)[i]? = some (nv k) := by
  rw [List.getElem?_append_left (by simpa using h), ← hk]; simp [List.getD_eq_getElem?_getD, h]

/-! Values: comparisons of which one knows what they give. -/
section
variable {P : Program} {L : Fra} {dst : Option Tmp} {ty : TypeId} {pos : String} {aft : Array Edge} {gd : Option (Nat × Bool)} {x y : Operand} {k : IntKind} {m n : Int} {t u : TypeId}
theorem Yl_lssB (b : Bool) (hx : ev L x = some (.int k m)) (hy : ev L y = some (.int k n)) (h : decide (m < n) = b) : Yl P L ⟨dst, .binOp .lss t x y u, ty, pos, aft, gd⟩ (.bool b) := by
  rw [← h]; exact Yl_lss hx hy
theorem Yl_gtrB (b : Bool) (hx : ev L x = some (.int k m)) (hy : ev L y = some (.int k n)) (h : decide (m > n) = b) : Yl P L ⟨dst, .binOp .gtr t x y u, ty, pos, aft, gd⟩ (.bool b) := by
  rw [← h]; exact Yl_gtr hx hy
theorem Yl_geqB (b : Bool) (hx : ev L x = some (.int k m)) (hy : ev L y = some (.int k n)) (h : decide (m ≥ n) = b) : Yl P L ⟨dst, .binOp .geq t x y u, ty, pos, aft, gd⟩ (.bool b) := by
  rw [← h]; exact Yl_geq hx hy
theorem Yl_eqlB (b : Bool) (hx : ev L x = some (.int k m)) (hy : ev L y = some (.int k n)) (h : decide (m = n) = b) : Yl P L ⟨dst, .binOp .eql t x y u, ty, pos, aft, gd⟩ (.bool b) := by
  rw [← h]; exact Yl_eql hx hy
theorem Yl_neqB (b : Bool) (hx : ev L x = some (.int k m)) (hy : ev L y = some (.int k n)) (h : decide (m ≠ n) = b) : Yl P L ⟨dst, .binOp .neq t x y u, ty, pos, aft, gd⟩ (.bool b) := by
  rw [← h]; exact Yl_neq hx hy
end

/-! Values: steps that are done one behind the other. -/
/-- Parts of one size, one behind the other. -/
theorem chunk_at (s : Nat) : ∀ (rows : List (List Value)) (r : List Value) (k : Nat), (∀ x ∈ rows, x.length = s) → k < rows.length → ((rows.flatten ++ r).drop (k * s)).take s = rows.getD k [] := by
  intro rows
  induction rows with
  | nil => intro r k _ h; simp at h
  | cons x l ih =>
    intro r k hl h
    have hx := hl x (by simp)
    cases k with
    | zero =>
      simp only [List.flatten_cons, Nat.zero_mul, List.drop_zero, List.append_assoc, List.getD_cons_zero]
      rw [List.take_append_of_le_length om_, List.take_of_length_le om_]
    | succ k =>
      have h1 := ih r k (fun y hy => hl y (by simp [hy])) (by simpa using h)
      simp only [List.flatten_cons, List.append_assoc, List.getD_cons_succ]
      rw [show (k + 1) * s = x.length + k * s by rw [hx, Nat.add_mul]; omega, List.drop_append]
      simp only [Nat.add_sub_cancel_left]
      rw [List.drop_of_length_le om_, List.nil_append]
      exact h1
theorem chunk_len (s : Nat) : ∀ (rows : List (List Value)), (∀ x ∈ rows, x.length = s) → rows.flatten.length = rows.length * s := by
  intro rows
  induction rows with
  | nil => intro _; simp
  | cons x l ih =>
    intro h
    rw [List.flatten_cons, List.length_append, h x (by simp), ih (fun y hy => h y (by simp [hy])), List.length_cons, Nat.add_mul]; omega
theorem rep_r {H H' : Heap} {x y : Nat × Obj} (G : Heap) (h : Rep H x y H') : Rep (G ++ H) x y (G ++ H') := by
  induction G with
  | nil => exact h
  | cons a G ih => exact .there a ih
theorem p_open (a b : Nat × Obj) (R E F : Heap) : (a :: (R ++ (b :: (E ++ F)))).Perm ((R ++ E) ++ (a :: b :: F)) := by
  have h1 : (b :: (E ++ F)).Perm (E ++ (b :: F)) := List.perm_middle.symm
  have h2 : (a :: (R ++ (b :: (E ++ F)))).Perm (a :: (R ++ (E ++ (b :: F)))) := (h1.append_left R).cons a
  refine h2.trans ?_
  rw [← List.append_assoc]
  exact List.perm_middle.symm
theorem p_app (x a b : Nat × Obj) (q O F : Heap) : (x :: (q ++ (a :: b :: (O ++ F)))).Perm (O ++ (x :: (q ++ (a :: b :: F)))) := by
  have h := perm_front (x :: (q ++ [a, b])) O F
  simpa only [List.cons_append, List.append_assoc, List.nil_append] using h
theorem p_back (g a b : Nat × Obj) (q F : Heap) : (g :: (q ++ (a :: b :: F))).Perm (q ++ (a :: b :: (g :: F))) := by
  have h := perm_front (q ++ [a, b]) [g] F
  have h2 := h.symm
  simpa only [List.cons_append, List.append_assoc, List.nil_append] using h2
/-- What is known of a reader that has just been opened. -/
structure ROk (R : Rdr) (ps : List Value) (T : TypeId) (B : List UInt8) (N ss : Nat) (es : List En) (tn : List Tn) (mi : Option (List Nat × List Nat)) : Prop where
  ok : ∃ er, R.Ok es (STv tn) mi er
  hB : R.B = B
  hN : R.N = N
  hss : R.ss = ss
  hps : R.ps = ps
  hT : R.T = T
  hcN : N ≤ R.cN
  hlen : (bys R.B ++ R.rB).length = R.cN
/-- What steps do: after j of them, the results rs, the blocks H. -/
structure Stp (R : Rdr) (i n : Nat) (sts : List (List Value)) (Inv : Nat → List (List Value) → List UInt8 → Heap → Prop) : Prop where
  mem : ∀ j rs B H, Inv j rs B H → (∃ wa, (R.br, blk (Rdr.cells { R with wa := wa }) 89) ∈ H) ∧ (R.bo, blk (outs R.bfs R.out ++ R.ro) 90) ∈ H ∧ (R.bs, blk [.slice (some ⟨R.bB, 0, none⟩) R.N R.cN] 103) ∈ H ∧ B.length = R.N ∧ (R.bB, blk (bys B ++ R.rB) 5) ∈ H
  step : ∀ j rs B H, Inv j rs B H → j < n → Ct Tryd.prog 37 [pv (R.bfs.getD (R.out.getD i 0) 0), .agg (sts.getD j []).toArray] H (fun v q => ∃ (r : List Value) (B2 : List UInt8), v = .tuple #[.agg r.toArray, .bool true] ∧ r.length = 3 ∧ (∀ u ∈ r, u.oneCell' = true) ∧ Inv (j + 1) (rs ++ [r]) B2 q)
structure SSt where
  j : Nat
  H : Heap
  B : List UInt8
  rs : List (List Value)
  g : Option Nat
  cap : Nat
  r : List Value

/-! Walks: Steps. -/
theorem outs_at (bfs : List Nat) (o : List Nat) (r : List Value) {i : Nat} (h : i < o.length) : (outs bfs o ++ r)[i]? = some (pv (bfs.getD (o.getD i 0) 0)) := by
 rw [List.getElem?_append_left (by simpa using h)]; simp [List.getD_eq_getElem?_getD, h]
theorem Steps_ct (gI cI : Nat) (rI : List Value) (N ss ver sh nd nf dl ml nm num_ : Nat) (B : List UInt8) (ps : List Value) (T : TypeId) (sns : List Nat) (es : List En) (tn : List Tn) (mi : Option (List Nat × List Nat)) (h : FileIn ps B N ss ver sh nd nf dl ml nm num_ sns es tn mi) (hN1 : N ≤ 131072) (hT0 : 2 ≠ gI) (hb : (STv tn).bad = false) (bst n cst : Nat) (sts : List (List Value)) (rst : List Value) (E0 : Heap) (i : Nat) (hsn : sts.length = n) (hn : n ≤ 100000) (hs5 : ∀ x ∈ sts, x.length = 5) (hs1 : ∀ x ∈ sts, ∀ u ∈ x, u.oneCell' = true) (hi : i < (STv tn).out.length) (hol0 : (STv tn).out.length ≤ 1000000)
  (Inv : Rdr → Nat → List (List Value) → List UInt8 → Heap → Prop) (hinv : ∀ R, ROk R ps T B N ss es tn mi → Inv R 0 [] B (R.H ++ E0)) (hstp : ∀ R, ROk R ps T B N ss es tn mi → Stp R i n sts (Inv R)) :
  Ct Tryd.prog 20 [.slice (some ⟨gI, 0, none⟩) N cI, nv i, .slice (some ⟨bst, 0, none⟩) n cst] ((gI, blk (bys B ++ rI) 5) :: (2, blk ps T) :: (bst, blk (sts.flatten ++ rst) 53) :: E0)
   (fun v q => ∃ (R : Rdr) (g : Option Nat) (cap : Nat) (r : List Value) (rs : List (List Value)) (b2 cap2 : Nat) (r2 : List Value) (B2 : List UInt8) (H : Heap), ROk R ps T B N ss es tn mi ∧ v = .tuple #[osl g n cap, .slice (some ⟨b2, 0, none⟩) N cap2, .bool true] ∧ Inv R n rs B2 H ∧ rs.length = n ∧ oOk g rs.flatten r n cap 3 ∧ B2.length = N ∧ (R.bB, blk (bys B2 ++ R.rB) 5) ∈ H ∧
    q = (b2, blk (bys B2 ++ r2) 5) :: (H ++ ((gI, blk (bys B ++ rI) 5) :: (bst, blk (sts.flatten ++ rst) 53) :: oH g (rs.flatten ++ r) 58))) := by
 have hop := opened_ct gI cI rI N ss ver sh nd nf dl ml nm num_ B ps T sns es tn mi h hN1 hT0
 refine Ct_of Tryd.func20 rfl Tryd.ntmps20 rfl ?_
 intro E F
 simp only [numL, List.nil_append, List.cons_append]
 refine CW_sr ?_
 refine RW_a ?_
 refine RW_a ?_
 refine RW_a ?_
 refine RW_lv (ks := [0, 1, 2]) ?_
 refine CW_sr ?_
 refine RW_m ?_
 refine RW_fx rfl rfl rfl (Fx_call ok_31 (vs := [.slice (some ⟨gI, 0, none⟩) N cI]) rfl (Pick.cons (.here _ _) (Pick.cons (.here _ _) (Pick.nil _))) hop) ?_
 rintro _ _ ⟨_, ⟨R, er, hok, hRB, hRN, hRs, hRp, hRT, hRc, hRr, hve, rfl⟩, rfl⟩
 rw [if_neg (by rw [hb]; decide), if_neg (by rw [hb]; decide)] at hve
 subst hve
 simp only [List.cons_append]
 refine RW_m ?_
 refine RW_l (Yl_extract (v := pv R.br) rfl rfl) ?_
 refine RW_l (Yl_extract (v := pv R.bs) rfl rfl) ?_
 refine RW_l (Yl_extract (v := nv 0) rfl rfl) ?_
 refine RW_a ?_
 refine RW_a ?_
 refine RW_a ?_
 refine RW_lv (ks := [1, 2, 9, 10, 11]) ?_
 refine CW_seq ?_
 refine CW_seq ?_
 have hro : ROk R ps T B N ss es tn mi := ⟨⟨er, hok⟩, hRB, hRN, hRs, hRp, hRT, hRc, hRr⟩
 have hol : R.out.length = (STv tn).out.length := by rw [hok.out]
 refine CW_heap (p_open _ _ _ _ _) ?_
 refine CW_region ?_
 refine RW_m ?_
 refine RW_l (Yl_neqB false rfl rfl (decide_eq_false (fun h => h rfl))) ?_
 refine RW_m ?_
 refine RW_gy rfl rfl rfl (Yl.h (Yl_move rfl)) ?_
 refine RW_gy rfl rfl rfl (Yl.h (Yl_lssB false rfl rfl (decide_eq_false om_))) ?_
 refine RW_l (Yl_pick_f rfl rfl) ?_
 refine RW_m ?_
 refine RW_gy rfl rfl rfl (Yl.h (Yl_move rfl)) ?_
 refine RW_gy rfl rfl rfl (Yl.h (Yl_move rfl)) ?_
 refine RW_gy rfl rfl rfl (Yl.h (Yl_nilCheck rfl)) ?_
 refine RW_gy rfl rfl rfl (Yl.h (Yl_field rfl fo_89_4)) ?_
 refine RW_gy rfl rfl rfl (Yh_load (v := .slice (some ⟨R.bo, 0, none⟩) R.out.length R.capo) rfl sc_83 (by repeat (first | exact List.mem_append_left _ (List.mem_append_left _ (List.Mem.head _)) | apply List.Mem.tail)) rfl) ?_
 refine RW_gy rfl rfl rfl (Yl.h (Yl_len rfl sl_83)) ?_
 refine RW_gy rfl rfl rfl (Yl.h (Yl_geqB false rfl rfl (decide_eq_false om_))) ?_
 refine RW_l (Yl_pick_f rfl rfl) ?_
 refine RW_lv (ks := [1, 2, 9, 10, 37]) ?_
 refine CW_false rfl ?_
 refine (CW_skip (QW_lv (ks := [1, 2, 9, 10]) ?_))
 refine CW_sr ?_
 refine RW_a ?_
 refine RW_lv (ks := [1, 2, 9, 10, 12]) ?_
 refine CW_seq ?_
 refine CW_sr ?_
 refine RW_m ?_
 refine RW_l (Yl_len rfl sl_51) ?_
 refine RW_m ?_
 refine RW_lv (ks := [1, 9, 10, 12, 38, 39, 40]) ?_
 refine CW_block ?_
 refine CW_loop (σ := SSt) (fun q => [(1, nv i), (9, pv R.br), (10, pv R.bs), (12, osl q.g q.j q.cap), (38, .slice (some ⟨bst, 0, none⟩) n cst), (39, nv n), (40, nv q.j)]) (fun q => q.H ++ ((gI, blk (bys B ++ rI) 5) :: (bst, blk (sts.flatten ++ rst) 53) :: (oH q.g (q.rs.flatten ++ q.r) 58 ++ F))) (fun q => q.j ≤ n ∧ Inv R q.j q.rs q.B q.H ∧ q.rs.length = q.j ∧ oOk q.g q.rs.flatten q.r q.j q.cap 3) (fun q => n - q.j) ⟨0, R.H ++ E0, B, [], none, 0, []⟩ ⟨by simp, hinv R hro, rfl, ⟨rfl, rfl⟩⟩ (Prm.nil _) kp_ ?_
 rintro ⟨j, H, B2, rs, g, cap, r⟩ ⟨hj, hI, hrl, ho⟩
 simp only at hj hI hrl ho ⊢
 obtain ⟨⟨wa2, hm1⟩, hm2, hm3, hB2, hm4⟩ := (hstp R hro).mem j rs B2 H hI
 refine CW_sr ?_
 refine RW_l (Yl_lss rfl rfl) ?_
 refine RW_lv (ks := [1, 9, 10, 12, 38, 39, 40, 41]) ?_
 refine CW_seq ?_
 refine CW_cond rfl (fun hc1 => ?_) (fun hc1 => ?_)
 ·replace hc1 := of_decide_eq_true hc1
  refine (CW_skip (QW_lv (ks := [1, 9, 10, 12, 38, 39, 40]) ?_))
  refine CW_seq ?_
  refine CW_block ?_
  refine CW_seq ?_
  obtain ⟨st, hst⟩ : ∃ st, sts.getD j [] = st := ⟨_, rfl⟩
  have hstm : st ∈ sts := by rw [← hst, List.getD_eq_getElem?_getD, List.getElem?_eq_getElem om_]; exact List.getElem_mem _
  have hst5 := hs5 st hstm
  have hst1 := hs1 st hstm
  refine CW_region ?_
  refine RW_l (Yl_indexN (b := bst) (off := 0) (i := j) (o' := j * 5) rfl rfl sl_51 om_ om_) ?_
  refine RW_h (Yh_loadE (cs := st) rfl ag_53 (List.mem_append_right _ (List.Mem.tail _ (List.Mem.head _))) (by rw [List.length_append, chunk_len 5 _ hs5]; omega) (by rw [chunk_at 5 _ _ _ hs5 om_]; exact hst)) ?_
  refine RW_fx rfl rfl rfl (Fx_alloc (zs := zs_53) ze_53 rfl) ?_
  rintro _ _ ⟨b14, rfl, rfl⟩
  refine RW_fx0 rfl rfl (Fx_storeA (b := b14) (off := 0) (l := zs_53) (T := 53) (cs := st) rfl rfl (by rw [hst5]; exact sz_53) hst1 (.here _ _ _) (by rw [hst5]; exact Nat.le_refl 5)) ?_
  rintro _ _ rfl
  refine RW_lv (ks := [1, 9, 10, 12, 14, 38, 39, 40]) ?_
  rw [spl_full _ _ (by rw [hst5]; rfl)]
  have hone := (hstp R hro).step j rs B2 H hI om_
  rw [hst] at hone
  refine CW_cut (σ := Nat × Heap × List Value × List UInt8) (fun q => [(1, nv i), (9, pv R.br), (10, pv R.bs), (12, osl g j cap), (15, pv q.1), (16, .bool true), (38, .slice (some ⟨bst, 0, none⟩) n cst), (39, nv n), (40, nv j)]) (fun q => (q.1, blk q.2.2.1 58) :: (q.2.1 ++ ((gI, blk (bys B ++ rI) 5) :: (bst, blk (sts.flatten ++ rst) 53) :: (oH g (rs.flatten ++ r) 58 ++ F)))) (fun q => q.2.2.1.length = 3 ∧ (∀ u ∈ q.2.2.1, u.oneCell' = true) ∧ Inv R (j + 1) (rs ++ [q.2.2.1]) q.2.2.2 q.2.1) ?_ ?_
  ·skip
   refine CW_draw [8] _ mixed (Sub.refl _) ?_
   refine RD_l 0 rfl (Yl_move rfl) ?_
   refine RD_l 1 rfl (Yl_nilCheck rfl) ?_
   refine RD_l 2 rfl (Yl_field rfl fo_89_4) ?_
   refine RD_l 4 rfl (Yl_move rfl) ?_
   refine RD_h (i := 3) #[true, true, true, false, true, false, false, true, false, false, false, false, true, false, false] rfl rfl rfl rfl kr_ (fun _ _ _ h => h) (Yh_load (v := .slice (some ⟨R.bo, 0, none⟩) R.out.length R.capo) rfl sc_83 (by repeat (first | exact List.mem_append_left _ hm1 | apply List.Mem.tail)) rfl) ?_
   refine RD_l 5 rfl (Yl_indexN (b := R.bo) (off := 0) (i := i) (o' := i) rfl rfl sl_83 om_ om_) ?_
   refine RD_h (i := 6) #[true, true, true, true, true, true, false, true, false, false, false, false, true, false, false] rfl rfl rfl rfl kr_ (fun _ _ _ h => h) (Yh_load (v := pv (R.bfs.getD (R.out.getD i 0) 0)) rfl sc_90 (by repeat (first | exact List.mem_append_left _ hm2 | apply List.Mem.tail)) (outs_at _ _ _ om_)) ?_
   refine RD_h (i := 7) #[true, true, true, true, true, true, true, false, false, false, false, false, true, false, false] rfl rfl rfl rfl kr_ (fun _ _ _ h => h) (Yh_loadAll (b := b14) (k := 5) (T := 53) (fz := (0, 0)) (l := st) rfl ag_53 mem_ hst5) ?_
   refine RD_two (i := 8) (j := 12) kr_ ?_ ?_
   ·skip
    refine RO_fx rfl rfl rfl rfl (Fx_call ok_37 (vs := [pv (R.bfs.getD (R.out.getD i 0) 0), .agg st.toArray]) rfl (by first | exact pick_mid _ [_] _ | exact pick_mid _ [_, _] _) hone) ?_
    rintro _ _ ⟨_, ⟨rr, B3, rfl, hr3, hr1, hI2⟩, rfl⟩
    refine ⟨Or.inl kr_, ?_⟩
    refine RD_l 9 rfl (Yl_move rfl) ?_
    refine RD_l 10 rfl (Yl_extract (v := .agg rr.toArray) rfl rfl) ?_
    refine RD_l 11 rfl (Yl_extract (v := .bool true) rfl rfl) ?_
    refine RD_one (i := 12) kr_ ?_
    refine RO_fx rfl rfl rfl rfl (Fx_alloc (zs := zs_58) ze_58 rfl) ?_
    rintro _ _ ⟨b15, rfl, rfl⟩
    refine ⟨Or.inl kr_, ?_⟩
    refine RD_one (i := 13) kr_ ?_
    refine RO_fx0 rfl rfl rfl (Fx_storeA (b := b15) (off := 0) (l := zs_58) (T := 58) (cs := rr) rfl rfl (by rw [hr3]; exact sz_58) hr1 (by first | exact Rep.here _ _ _ | exact rep_r _ (Rep.here _ _ _)) (by rw [hr3]; exact Nat.le_refl 3)) ?_
    rintro _ _ rfl
    rw [spl_full _ _ (by rw [hr3]; rfl)]
    refine ⟨Or.inl kr_, ?_⟩
    refine RD_l 14 rfl (Yl_assign rfl) ?_
    refine RD_done kr_ ?_
    first
     | (refine QW_sub (List.Sublist.append_left (.cons_cons _ (.cons _ (.refl _))) _) ?_; refine QW_heap List.perm_middle ?_; exact QW_cut (b15, _, rr, B3) ⟨hr3, hr1, hI2⟩ (Prm.nil _) (.cons rfl (.cons rfl (.cons rfl (.cons rfl (.cons rfl (.cons rfl (.cons rfl (.cons rfl (.cons rfl .nil))))))))))
     | (refine QW_sub (.cons_cons _ (List.Sublist.append_left (.cons _ (.refl _)) _)) ?_; exact QW_cut (b15, _, rr, B3) ⟨hr3, hr1, hI2⟩ (Prm.nil _) (.cons rfl (.cons rfl (.cons rfl (.cons rfl (.cons rfl (.cons rfl (.cons rfl (.cons rfl (.cons rfl .nil))))))))))
   ·skip
    refine RO_fx rfl rfl rfl rfl (Fx_alloc (zs := zs_58) ze_58 rfl) ?_
    rintro _ _ ⟨b15, rfl, rfl⟩
    refine ⟨Or.inr (Sub.more (Sub.refl _)), ?_⟩
    refine RD_one (i := 8) kr_ ?_
    refine RO_fx rfl rfl rfl rfl (Fx_call ok_37 (vs := [pv (R.bfs.getD (R.out.getD i 0) 0), .agg st.toArray]) rfl (by first | exact pick_mid _ [_] _ | exact pick_mid _ [_, _] _) hone) ?_
    rintro _ _ ⟨_, ⟨rr, B3, rfl, hr3, hr1, hI2⟩, rfl⟩
    refine ⟨Or.inl kr_, ?_⟩
    refine RD_l 9 rfl (Yl_move rfl) ?_
    refine RD_l 10 rfl (Yl_extract (v := .agg rr.toArray) rfl rfl) ?_
    refine RD_l 11 rfl (Yl_extract (v := .bool true) rfl rfl) ?_
    refine RD_one (i := 13) kr_ ?_
    refine RO_fx0 rfl rfl rfl (Fx_storeA (b := b15) (off := 0) (l := zs_58) (T := 58) (cs := rr) rfl rfl (by rw [hr3]; exact sz_58) hr1 (by first | exact Rep.here _ _ _ | exact rep_r _ (Rep.here _ _ _)) (by rw [hr3]; exact Nat.le_refl 3)) ?_
    rintro _ _ rfl
    rw [spl_full _ _ (by rw [hr3]; rfl)]
    refine ⟨Or.inl kr_, ?_⟩
    refine RD_l 14 rfl (Yl_assign rfl) ?_
    refine RD_done kr_ ?_
    first
     | (refine QW_sub (List.Sublist.append_left (.cons_cons _ (.cons _ (.refl _))) _) ?_; refine QW_heap List.perm_middle ?_; exact QW_cut (b15, _, rr, B3) ⟨hr3, hr1, hI2⟩ (Prm.nil _) (.cons rfl (.cons rfl (.cons rfl (.cons rfl (.cons rfl (.cons rfl (.cons rfl (.cons rfl (.cons rfl .nil))))))))))
     | (refine QW_sub (.cons_cons _ (List.Sublist.append_left (.cons _ (.refl _)) _)) ?_; exact QW_cut (b15, _, rr, B3) ⟨hr3, hr1, hI2⟩ (Prm.nil _) (.cons rfl (.cons rfl (.cons rfl (.cons rfl (.cons rfl (.cons rfl (.cons rfl (.cons rfl (.cons rfl .nil))))))))))
  ·rintro ⟨b15, q, rr, B3⟩ ⟨hr3, hr1, hI2⟩
   simp only at hr3 hr1 hI2 ⊢
   refine CW_seq ?_
   refine CW_sr ?_
   refine RW_m ?_
   refine RW_l (Yl_not rfl) ?_
   refine RW_lv (ks := [1, 9, 10, 12, 15, 38, 39, 40, 57]) ?_
   refine CW_cond rfl (fun hc2 => ?_) (fun hc2 => ?_)
   ·skip
    exact absurd hc2 (by decide)
   ·skip
    refine (CW_skip (QW_lv (ks := [1, 9, 10, 12, 15, 38, 39, 40]) ?_))
    refine CW_region ?_
    refine RW_m ?_
    refine RW_h (Yh_loadAll (b := b15) (k := 3) (T := 58) (fz := (0, 0)) (l := rr) rfl ag_58 mem_ hr3) ?_
    refine RW_fx rfl rfl rfl (Fx_lit (vs := [.agg rr.toArray]) (css := [rr]) (cs := rr) sl_54 ze_58 rfl rfl rfl rfl rfl (by intro c hc; rw [List.mem_singleton.1 hc]; exact hr3) (by simp)) ?_
    rintro _ _ ⟨b60, rfl, rfl⟩
    refine RW_fx rfl rfl rfl (Fx_appOG (o := g) (xs := rs.flatten) (r := r) (news := rr) (T := 58) (n := j) (cap := cap) (m := 1) (c := 1) (R := (b15, blk rr 58) :: (q ++ ((gI, blk (bys B ++ rI) 5) :: (bst, blk (sts.flatten ++ rst) 53) :: F))) rfl rfl sl_54 by_58 ze_58 rfl (.here _ _) (p_app _ _ _ _ _ _) ho hr3 hr1 om_ om_ om_ om_) ?_
    rintro _ _ ⟨g', cap', r', rfl, ho', rfl⟩
    refine RW_a ?_
    refine RW_nil ?_
    refine QW_normal_block ?_
    refine (QW_lv (ks := [1, 9, 10, 12, 38, 39, 40]) ?_)
    refine CW_region ?_
    refine RW_l (Yl_add (c := ((j + 1 : Nat) : Int)) rfl rfl (wi64 om_ om_)) ?_
    refine RW_m ?_
    refine RW_nil ?_
    refine QW_sub (H' := (g', blk ((rs.flatten ++ rr) ++ r') 58) :: (q ++ ((gI, blk (bys B ++ rI) 5) :: (bst, blk (sts.flatten ++ rst) 53) :: F))) (.cons_cons _ (.cons _ (.refl _))) ?_
    refine QW_heap (p_back _ _ _ _ _) ?_
    refine QW_round (σ := SSt) ⟨j + 1, q, B3, rs ++ [rr], some g', cap', r'⟩ ⟨by simp only; omega, hI2, by simp [hrl], ?_⟩ (by simp only; omega) ?_ kp_
    ·simp only [List.flatten_append, List.flatten_cons, List.flatten_nil, List.append_nil]; exact ho'
    ·simp only [List.flatten_append, List.flatten_cons, List.flatten_nil, List.append_nil, List.cons_append, List.nil_append]; exact Prm.nil _
 ·replace hc1 := of_decide_eq_false hc1
  refine CW_exit ?_
  refine QW_exit_then ?_
  refine QW_exit_then ?_
  refine QW_exit_block ?_
  refine (QW_lv (ks := [10, 12]) ?_)
  refine CW_seq ?_
  have hN5 := h.hN5
  refine CW_region ?_
  refine RW_m ?_
  refine RW_m ?_
  refine RW_l (Yl_nilCheck rfl) ?_
  refine RW_l (Yl_field rfl fo_103_0) ?_
  refine RW_h (Yh_load (v := .slice (some ⟨R.bB, 0, none⟩) R.N R.cN) rfl sc_23 (List.mem_append_left _ hm3) rfl) ?_
  refine RW_fx rfl rfl rfl (Fx_append_nil (z0 := .int .u8 0) (q := 1) (lx := bys B2 ++ R.rB) (offx := 0) rfl rfl sl_23 by_5 ze_5 rfl rfl (List.mem_append_left _ hm4) (by rw [List.length_append, List.length_map]; omega) om_ om_ om_) ?_
  rintro _ _ ⟨b2, l2, cap2, rfl, hc1, hc2, hc3, rfl⟩
  refine RW_a ?_
  refine RW_a ?_
  refine RW_a ?_
  refine RW_lv (ks := [6, 7, 8]) ?_
  refine CW_ret ?_
  have hjn : j = n := by omega
  rw [hjn] at hI ho hrl
  have hN5 := h.hN5
  have e2 : l2 = bys B2 ++ l2.drop R.N := by
   have h4 : (bys B2 ++ R.rB).take R.N = bys B2 := by rw [List.take_append_of_le_length (by simp; omega), List.take_of_length_le (by simp; omega)]
   rw [Nat.mul_one, List.drop_zero, h4] at hc3
   have := List.take_append_drop R.N l2
   rw [hc3] at this; exact this.symm
  rw [e2]
  exact QW_ret3 rfl rfl rfl rfl ((b2, blk (bys B2 ++ l2.drop R.N) 5) :: (H ++ ((gI, blk (bys B ++ rI) 5) :: (bst, blk (sts.flatten ++ rst) 53) :: oH g (rs.flatten ++ r) 58))) ⟨R, g, cap, r, rs, b2, cap2, l2.drop R.N, B2, H, hro, by rw [hjn, hRN], hI, hrl, ho, by rw [hB2, hRN], hm4, rfl⟩ (by simp only [List.cons_append, List.append_assoc]; exact Prm.nil _)

/-! Values: bytes as a text. -/
theorem fold_push : ∀ (d : List UInt8) (s : ByteArray), (d.map fun y => (y.toNat : Int)).foldl (fun r n => r.push (UInt8.ofNat n.toNat)) s = ⟨s.data ++ d.toArray⟩ := by
  intro d
  induction d with
  | nil => intro s; simp
  | cons y r ih =>
    intro s
    simp only [List.map_cons, List.foldl_cons]
    rw [ih]
    have : UInt8.ofNat ((y.toNat : Int)).toNat = y := by simp
    rw [this]
    simp [ByteArray.push]
section
variable {P : Program} {E : World} {L : Fra} {H : Heap} {dst : Option Tmp} {ty : TypeId} {pos : String} {aft : Array Edge} {gd : Option (Nat × Bool)}
theorem Yh_bytesStr {x : Operand} {t u e : TypeId} {sz b off m c : Nat} {l : List Value} {T : TypeId} {fz : Nat × Nat} {d : List UInt8} (hx : ev L x = some (.slice (some ⟨b, off, none⟩) m c)) (ht : slOf P t = some (e, sz)) (he : inOf P e = some .u8) (hu : isStr P u = true)
    (hm : (b, Obj.cells l.toArray T fz) ∈ H) (hd : (l.drop off).take m = bys d) (hl : d.length = m) : Yh P E L H ⟨dst, .convert t u x, ty, pos, aft, gd⟩ (.string (bar d)) := by
  intro _ a w hf hh
  obtain ⟨inf, h1, _, _⟩ := slOf_u ht
  have h2 := inOf_u he
  have h3 := isStr_u hu
  have hload := run_loadCells_list (P := P) w ⟨b, off, none⟩ _ (hh.cellsAt hm (offx := off) (k := m))
  rw [hd] at hload
  have hlen : (bys d).length = m := by simp [hl]
  rw [hlen] at hload
  have hc : (bys d) = (d.map fun y => (y.toNat : Int)).map (Value.int .u8) := by simp [bys, bv, Function.comp_def]
  rw [hc] at hload
  have hr := run_convert_bytes_string (P := P) w t u e (some ⟨b, off, none⟩) m c h1 h2 h3
  rw [run_bytesToString w _ m c _ hload, fold_push] at hr
  have hb : (⟨ByteArray.empty.data ++ d.toArray⟩ : ByteArray) = bar d := by
    simp [bar, ByteArray.empty, ByteArray.emptyWithCapacity]
    rfl
  rw [hb] at hr
  simp only [execOp, hf.eval hx, Sem.run_bind, hr, Result.andThen_ok]
  rfl
theorem Yl_strEqT {x y : Operand} {s : ByteArray} {t u : TypeId} (hx : ev L x = some (.string s)) (hy : ev L y = some (.string s)) :
    Yl P L ⟨dst, .binOp .eql t x y u, ty, pos, aft, gd⟩ (.bool true) := by
  have := Yl_strEq (P := P) (dst := dst) (ty := ty) (pos := pos) (aft := aft) (gd := gd) (t := t) (u := u) hx hy
  simpa using this
end

/-! Steps that read an entry of no bytes. -/
/-- One of the reader's files, its blocks ahead. -/
theorem Rdr.split {R : Rdr} {k : Nat} {f : Fil} (hf : R.fs[k]? = some f) (E0 : Heap) : ∃ G, (R.H ++ E0).Perm (enB R.br f.bf f.bd f.en :: (E0 ++ G)) := by
  obtain ⟨G1, hG⟩ := filsH_split (br := R.br) hf
  unfold Rdr.H
  generalize (R.br, blk R.cells 89) = a1
  generalize (R.bh, blk R.hcells 137) = a2
  generalize (R.bhf, blk R.hc 142) = a3
  generalize (R.bb, blk R.lb 5) = a4
  generalize (R.bs, blk [Value.slice (some ⟨R.bB, 0, none⟩) R.N R.cN] 103) = a5
  generalize (R.bB, blk (bys R.B ++ R.rB) 5) = a6
  generalize (2, blk R.ps R.T) = a7
  generalize (R.g, blk (R.bfs.map pv ++ R.rn) 90) = a8
  generalize (R.bo, blk (outs R.bfs R.out ++ R.ro) 90) = a9
  generalize psH R.pth ++ R.X = Z
  obtain ⟨Y, hY⟩ : ∃ Y, Y = (f.bd, blk f.en.dc 112) :: G1 := ⟨_, rfl⟩
  rw [← hY] at hG
  refine ⟨[a1, a2, a3, a4, a5, a6, a7, a8, a9] ++ (Y ++ Z), ?_⟩
  have h1 : ([a1, a2, a3, a4, a5, a6, a7, a8, a9] ++ (filsH R.br R.fs ++ Z)).Perm ([a1, a2, a3, a4, a5, a6, a7, a8, a9] ++ (enB R.br f.bf f.bd f.en :: (Y ++ Z))) := (hG.append_right Z).append_left _
  have h2 : ([a1, a2, a3, a4, a5, a6, a7, a8, a9] ++ (enB R.br f.bf f.bd f.en :: (Y ++ Z))).Perm (enB R.br f.bf f.bd f.en :: ([a1, a2, a3, a4, a5, a6, a7, a8, a9] ++ (Y ++ Z))) := List.perm_middle
  have h3 := (h1.trans h2).append_right E0
  refine h3.trans ?_
  exact List.Perm.cons _ List.perm_append_comm
section
variable {ps : List Value} {T : TypeId} {four : Bool} {st : Nat} {ns : List Nm} {o : List (Nat × List (List UInt8))}
/-- The file of an entry, where the reader stands. -/
theorem ROk.file (h : NodesOk ns) (hk : ∀ k, k ∈ o.map Prod.fst ↔ k < ns.length) (ho : (STv (tnsF (verF four) (ns.map Nm.nd) (nmOf ns))).out = o.map Prod.fst) {R : Rdr} {B : List UInt8} {N ss : Nat} {mi : Option (List Nat × List Nat)}
    (hr : ROk R ps T B N ss (esF (verF four) st (ns.map Nm.nd) (nmOf ns)) (tnsF (verF four) (ns.map Nm.nd) (nmOf ns)) mi) {i : Nat} (hi : i < o.length) :
    ∃ f, R.fs[(o.getD i default).1]? = some f ∧ R.bfs.getD (R.out.getD i 0) 0 = f.bf ∧ (o.getD i default).1 < ns.length ∧ f.en.noPath = (enF (verF four) st (ns.map Nm.nd) (nmOf ns) (o.getD i default).1).noPath := by
  obtain ⟨er, hok⟩ := hr.ok
  have hoi : o.getD i default ∈ o := by rw [List.getD_eq_getElem?_getD, List.getElem?_eq_getElem hi]; exact List.getElem_mem _
  have hkk : (o.getD i default).1 < ns.length := (hk _).1 (List.mem_map.2 ⟨_, hoi, rfl⟩)
  have hcn := cnt_le (v := verF four) h.xs
  have hxl : (ns.map Nm.nd).length = ns.length := by simp
  have hes : (esF (verF four) st (ns.map Nm.nd) (nmOf ns)).length = cntF (verF four) (ns.map Nm.nd) := by simp [esF]
  have hlen : R.fs.length = (esF (verF four) st (ns.map Nm.nd) (nmOf ns)).length := by have := congrArg List.length hok.tok.rest; simpa using this
  have e1 : R.out.getD i 0 = (o.getD i default).1 := by
    rw [hok.out, ho]; simp [List.getD_eq_getElem?_getD, hi]
  have hkf : (o.getD i default).1 < R.fs.length := by omega
  obtain ⟨f, hf⟩ : ∃ f, R.fs[(o.getD i default).1]? = some f := ⟨_, List.getElem?_eq_getElem hkf⟩
  refine ⟨f, hf, ?_, hkk, ?_⟩
  · rw [e1, ← hok.tok.bf, List.getD_eq_getElem?_getD, List.getElem?_map, hf]; rfl
  · have := congrArg (fun l => l[(o.getD i default).1]?) hok.tok.rest
    simp only [List.getElem?_map, hf, Option.map_some] at this
    unfold esF at this
    rw [List.getElem?_map, List.getElem?_range om_] at this
    exact Option.some.inj this
end

/-! Walks: compressChain. -/
theorem prs_last (l : List (Nat × Nat)) (z : Nat × Nat) (r : List Value) : prs (l ++ [z]) ++ r = prs l ++ (prs [z] ++ r) := by simp [prs]
theorem compress_ct {ad : Nat → Nat} (q0 e g m cap : Nat) (l0 : List (Nat × Nat)) (r0 : List Value) (hm : m = l0.length) (hrun : Run ad q0 l0 e) (hsm : Small l0) (hlen : (prs l0 ++ r0).length = cap * 2) (he : e ≤ 1000000) (hcap : cap ≤ 1000000) :
  Ct Tryd.prog 63 [.slice (some ⟨g, 0, none⟩) m cap] [(g, blk (prs l0 ++ r0) 128)] (fun v q => ∃ l r, Run ad q0 l e ∧ Small l ∧ (prs l ++ r).length = cap * 2 ∧ v = .slice (some ⟨g, 0, none⟩) l.length cap ∧ q = [(g, blk (prs l ++ r) 128)]) := by
 have hm0 : l0.length ≤ cap := by rw [List.length_append, length_prs] at hlen; omega
 refine Ct_of Tryd.func63 rfl Tryd.ntmps63 rfl ?_
 intro E F
 simp only [numL, List.nil_append, List.cons_append]
 refine CW_sr ?_
 refine RW_a ?_
 refine RW_lv (ks := [0]) ?_
 refine CW_sr ?_
 refine RW_m ?_
 refine RW_l (Yl_len rfl sl_125) ?_
 refine RW_a ?_
 refine RW_lv (ks := [0, 3]) ?_
 refine CW_seq ?_
 refine CW_sr ?_
 refine RW_a ?_
 refine RW_a ?_
 refine RW_lv (ks := [0, 3, 4, 5]) ?_
 refine CW_block ?_
 refine CW_loop (σ := Nat × Nat × List (Nat × Nat) × List Value) (fun q => [(0, .slice (some ⟨g, 0, none⟩) q.2.2.1.length cap), (3, nv m), (4, nv q.1), (5, nv q.2.1)]) (fun q => (g, blk (prs q.2.2.1 ++ q.2.2.2) 128) :: F) (fun q => q.1 ≤ m ∧ q.2.1 ≤ q.2.2.1.length ∧ Run ad q0 q.2.2.1 e ∧ Small q.2.2.1 ∧ (prs q.2.2.1 ++ q.2.2.2).length = cap * 2) (fun q => m - q.1) (0, 0, l0, r0) ⟨Nat.zero_le _, Nat.zero_le _, hrun, hsm, hlen⟩ prm_ (.cons (by rw [hm]; rfl) kp_) ?_
 rintro ⟨i, x, l, r⟩ ⟨hi, hx, hrun, hsm, hlen⟩
 simp only at hi hx hrun hsm hlen ⊢
 have hcl : l.length ≤ cap := by rw [List.length_append, length_prs] at hlen; omega
 refine CW_seq ?_
 refine CW_sr ?_
 refine RW_m ?_
 refine RW_m ?_
 refine RW_l (Yl_lss rfl rfl) ?_
 refine RW_m ?_
 refine RW_bool 12 rfl (fun hg1 => ?_) (fun hg1 => ?_)
 ·replace hg1 := of_decide_eq_true hg1
  refine RW_gy rfl rfl rfl (Yl.h (Yl_move rfl)) ?_
  refine RW_gy rfl rfl rfl (Yl.h (Yl_add (c := ((x + 1 : Nat) : Int)) rfl rfl (wi64 om_ om_))) ?_
  refine RW_gy rfl rfl rfl (Yl.h (Yl_move rfl)) ?_
  refine RW_gy rfl rfl rfl (Yl.h (Yl_len rfl sl_125)) ?_
  refine RW_gy rfl rfl rfl (Yl.h (Yl_lss rfl rfl)) ?_
  refine RW_l (Yl_pick_t rfl rfl) ?_
  refine RW_lv (ks := [0, 3, 4, 5, 18]) ?_
  refine CW_cond rfl (fun hc2 => ?_) (fun hc2 => ?_)
  ·replace hc2 := of_decide_eq_true hc2
   refine (CW_skip (QW_lv (ks := [0, 3, 4, 5]) ?_))
   refine CW_seq ?_
   refine CW_block ?_
   refine CW_seq ?_
   have h1 := hsm x om_
   have h2 := hsm (x + 1) om_
   have h3 := Run.two hrun (k := x) om_
   refine CW_draw [] _ mixed (Sub.refl _) ?_
   refine RD_l 0 rfl (Yl_move rfl) ?_
   refine RD_l 1 rfl (Yl_move rfl) ?_
   refine RD_l 2 rfl (Yl_indexN (b := g) (off := 0) (i := x) (o' := x * 2) rfl rfl sl_125 om_ om_) ?_
   refine RD_l 3 rfl (Yl_indexAN (b := g) (off := x * 2) (i := 0) (o' := x * 2) rfl rfl ar_128 om_ om_) ?_
   refine RD_l 5 rfl (Yl_move rfl) ?_
   refine RD_l 6 rfl (Yl_move rfl) ?_
   refine RD_l 7 rfl (Yl_indexN (b := g) (off := 0) (i := x) (o' := x * 2) rfl rfl sl_125 om_ om_) ?_
   refine RD_l 8 rfl (Yl_indexAN (b := g) (off := x * 2) (i := 1) (o' := x * 2 + 1) rfl rfl ar_128 om_ om_) ?_
   refine RD_l 11 rfl (Yl_move rfl) ?_
   refine RD_l 12 rfl (Yl_move rfl) ?_
   refine RD_l 13 rfl (Yl_add (c := ((x + 1 : Nat) : Int)) rfl rfl (wi64 om_ om_)) ?_
   refine RD_l 14 rfl (Yl_indexN (b := g) (off := 0) (i := x + 1) (o' := (x + 1) * 2) rfl rfl sl_125 om_ om_) ?_
   refine RD_l 15 rfl (Yl_indexAN (b := g) (off := (x + 1) * 2) (i := 0) (o' := (x + 1) * 2) rfl rfl ar_128 om_ om_) ?_
   refine RD_h (i := 4) #[true, true, true, true, false, true, true, true, true, true, false, true, true, true, true, true, true, false] rfl rfl rfl rfl kr_ (fun _ _ _ h => h) (Yh_load (v := nv (l.getD x default).1) rfl sc_2 mem_ (prs_at1 l r x om_)) ?_
   refine RD_h (i := 9) #[true, true, true, true, true, true, true, true, true, false, false, true, true, true, true, true, true, false] rfl rfl rfl rfl kr_ (fun _ _ _ h => h) (Yh_load (v := nv (l.getD x default).2) rfl sc_2 mem_ (prs_at2 l r x om_)) ?_
   refine RD_l 10 rfl (Yl_add (c := (((l.getD x default).1 + (l.getD x default).2 : Nat) : Int)) rfl rfl (wi64 om_ om_)) ?_
   refine RD_h (i := 16) #[true, true, true, true, true, true, true, true, true, true, true, true, true, true, true, true, false, false] rfl rfl rfl rfl kr_ (fun _ _ _ h => h) (Yh_load (v := nv (l.getD (x + 1) default).1) rfl sc_2 mem_ (prs_at1 l r (x + 1) om_)) ?_
   refine RD_l 17 rfl (Yl_eql rfl rfl) ?_
   refine (RD_done kr_ (QW_lv (ks := [0, 3, 4, 5, 38]) ?_))
   refine CW_cond rfl (fun hc3 => ?_) (fun hc3 => ?_)
   ·replace hc3 := of_decide_eq_true hc3
    refine CW_seq ?_
    refine CW_draw [16] _ mixed (Sub.refl _) ?_
    refine RD_l 0 rfl (Yl_move rfl) ?_
    refine RD_l 1 rfl (Yl_move rfl) ?_
    refine RD_l 2 rfl (Yl_move rfl) ?_
    refine RD_l 3 rfl (Yl_move rfl) ?_
    refine RD_l 4 rfl (Yl_indexN (b := g) (off := 0) (i := x) (o' := x * 2) rfl rfl sl_125 om_ om_) ?_
    refine RD_l 5 rfl (Yl_indexAN (b := g) (off := x * 2) (i := 1) (o' := x * 2 + 1) rfl rfl ar_128 om_ om_) ?_
    refine RD_l 7 rfl (Yl_move rfl) ?_
    refine RD_l 8 rfl (Yl_move rfl) ?_
    refine RD_l 9 rfl (Yl_add (c := ((x + 1 : Nat) : Int)) rfl rfl (wi64 om_ om_)) ?_
    refine RD_l 10 rfl (Yl_indexN (b := g) (off := 0) (i := x + 1) (o' := (x + 1) * 2) rfl rfl sl_125 om_ om_) ?_
    refine RD_l 11 rfl (Yl_indexAN (b := g) (off := (x + 1) * 2) (i := 1) (o' := (x + 1) * 2 + 1) rfl rfl ar_128 om_ om_) ?_
    refine RD_l 14 rfl (Yl_indexN (b := g) (off := 0) (i := x) (o' := x * 2) rfl rfl sl_125 om_ om_) ?_
    refine RD_h (i := 6) #[true, true, true, true, true, true, false, true, true, true, true, true, true, false, true, false, false] rfl rfl rfl rfl kr_ (fun _ _ _ h => h) (Yh_load (v := nv (l.getD x default).2) rfl sc_2 mem_ (prs_at2 l r x om_)) ?_
    refine RD_h (i := 12) #[true, true, true, true, true, true, true, true, true, true, true, true, false, false, true, false, false] rfl rfl rfl rfl kr_ (fun _ _ _ h => h) (Yh_load (v := nv (l.getD (x + 1) default).2) rfl sc_2 mem_ (prs_at2 l r (x + 1) om_)) ?_
    refine RD_l 13 rfl (Yl_add (c := (((l.getD x default).2 + (l.getD (x + 1) default).2 : Nat) : Int)) rfl rfl (wi64 om_ om_)) ?_
    refine RD_l 15 rfl (Yl_indexAN (b := g) (off := x * 2) (i := 1) (o' := x * 2 + 1) rfl rfl ar_128 om_ om_) ?_
    refine RD_one (i := 16) kr_ ?_
    refine RO_fx0 rfl rfl rfl (Fx_store (v := nv ((l.getD x default).2 + (l.getD (x + 1) default).2)) rfl rfl sz_2 rfl rep_ (by rw [List.length_append, length_prs]; omega)) ?_
    rintro _ _ rfl
    rw [prs_set2 (k := x) om_ rfl]
    refine ⟨Or.inl kr_, ?_⟩
    refine (RD_done kr_ (QW_lv (ks := [0, 3, 4, 5]) ?_))
    refine CW_seq ?_
    refine CW_sr ?_
    refine RW_m ?_
    refine RW_m ?_
    refine RW_l (Yl_add (c := ((x + 1 : Nat) : Int)) rfl rfl (wi64 om_ om_)) ?_
    refine RW_m ?_
    refine RW_l (Yl_len rfl sl_125) ?_
    refine RW_l (Yl_sub (c := ((l.length - 1 : Nat) : Int)) rfl rfl (by rw [wi64 om_ om_]; omega)) ?_
    refine RW_l (Yl_cutLHN (l := x + 1) (h := l.length - 1) (o' := (x + 1) * 2) (m' := l.length - 1 - (x + 1)) rfl rfl rfl sl_125 om_ om_ om_ om_ rfl) ?_
    refine RW_l (Yl_len rfl sl_125) ?_
    refine RW_m ?_
    refine RW_lv (ks := [0, 3, 4, 5, 62, 63]) ?_
    refine CW_block ?_
    refine CW_lp (σ := Nat × List (Nat × Nat)) (fun q => [(0, .slice (some ⟨g, 0, none⟩) l.length cap), (3, nv m), (4, nv i), (5, nv x), (62, nv (l.length - 1 - (x + 1))), (63, nv q.1)]) (fun q => (g, blk (prs q.2 ++ r) 128) :: F) (fun q => x + 2 + q.1 ≤ l.length ∧ Sh (l.set x ((l.getD x default).1, (l.getD x default).2 + (l.getD (x + 1) default).2)) q.2 x q.1) (fun q => l.length - q.1) (0, (l.set x ((l.getD x default).1, (l.getD x default).2 + (l.getD (x + 1) default).2))) ⟨by simp only; omega, Sh.zero _ _⟩ ?_
    rintro ⟨j, M⟩ ⟨hj, hM⟩
    simp only at hj hM ⊢
    have hMl : M.length = l.length := by rw [hM.len, List.length_set]
    refine CW_sr ?_
    refine RW_l (Yl_lss rfl rfl) ?_
    refine RW_lv (ks := [0, 3, 4, 5, 62, 63, 64]) ?_
    refine CW_seq ?_
    refine CW_cond rfl (fun hc4 => ?_) (fun hc4 => ?_)
    ·replace hc4 := of_decide_eq_true hc4
     refine (CW_skip (QW_lv (ks := [0, 3, 4, 5, 62, 63]) ?_))
     refine CW_seq ?_
     refine CW_block ?_
     refine CW_sr ?_
     refine RW_m ?_
     refine RW_a ?_
     refine RW_lv (ks := [0, 3, 4, 5, 6, 62, 63]) ?_
     refine CW_region ?_
     refine RW_m ?_
     refine RW_m ?_
     refine RW_l (Yl_add (c := ((x + 1 : Nat) : Int)) rfl rfl (wi64 om_ om_)) ?_
     refine RW_m ?_
     refine RW_l (Yl_add (c := ((x + 1 + j : Nat) : Int)) rfl rfl (wi64 om_ om_)) ?_
     refine RW_m ?_
     refine RW_m ?_
     refine RW_m ?_
     refine RW_l (Yl_add (c := ((j + x : Nat) : Int)) rfl rfl (wi64 om_ om_)) ?_
     refine RW_l (Yl_add (c := ((j + x + 2 : Nat) : Int)) rfl rfl (wi64 om_ om_)) ?_
     refine RW_l (Yl_indexN (b := g) (off := 0) (i := j + x + 2) (o' := (x + 2 + j) * 2) rfl rfl sl_125 om_ om_) ?_
     refine RW_h (Yh_loadE (cs := [nv (M.getD (x + 2 + j) default).1, nv (M.getD (x + 2 + j) default).2]) rfl ag_128 mem_ (by rw [List.length_append, length_prs]; omega) (prs_cut om_)) ?_
     refine RW_l (Yl_indexN (b := g) (off := 0) (i := x + 1 + j) (o' := (x + 1 + j) * 2) rfl rfl sl_125 om_ om_) ?_
     refine RW_fx0 rfl rfl (Fx_storeA (cs := [nv (M.getD (x + 2 + j) default).1, nv (M.getD (x + 2 + j) default).2]) rfl rfl sz_128 (by intro u hu; simp only [List.mem_cons, List.not_mem_nil, or_false] at hu; rcases hu with rfl | rfl <;> rfl) rep_ (by rw [List.length_append, length_prs]; simp only [List.length_cons, List.length_nil]; omega)) ?_
     rintro _ _ rfl
     rw [prs_spl _ _ _ _ _ om_]
     refine RW_nil ?_
     refine QW_normal_block ?_
     refine (QW_lv (ks := [0, 3, 4, 5, 62, 63]) ?_)
     refine CW_region ?_
     refine RW_l (Yl_add (c := ((j + 1 : Nat) : Int)) rfl rfl (wi64 om_ om_)) ?_
     refine RW_m ?_
     refine RW_nil ?_
     exact QW_rn (j + 1, M.set (x + 1 + j) (M.getD (x + 2 + j) default)) ⟨by simp only; omega, Sh.next hM (by rw [List.length_set]; omega)⟩ (by simp only; omega)
    ·replace hc4 := of_decide_eq_false hc4
     refine CW_exit ?_
     refine QW_exit_then ?_
     refine QW_exit_then ?_
     refine QW_exit_block ?_
     refine (QW_lv (ks := [0, 3, 4, 5]) ?_)
     have hj2 : x + 2 + j = l.length := by omega
     obtain ⟨z, hz⟩ := Sh.done hM (by rw [List.length_set]; omega) (by rw [List.length_set]; exact hj2)
     subst hz
     have hE : (((l.set x ((l.getD x default).1, (l.getD x default).2 + (l.getD (x + 1) default).2))).eraseIdx (x + 1)).length = l.length - 1 := by rw [List.length_eraseIdx_of_lt (by rw [List.length_set]; omega), List.length_set]
     have hrun2 : Run ad q0 (((l.set x ((l.getD x default).1, (l.getD x default).2 + (l.getD (x + 1) default).2))).eraseIdx (x + 1)) e := Run.joinAt hrun om_ om_
     have hsm2 : Small (((l.set x ((l.getD x default).1, (l.getD x default).2 + (l.getD (x + 1) default).2))).eraseIdx (x + 1)) := Small.join hsm om_ om_
     have hlen2 : (prs (((l.set x ((l.getD x default).1, (l.getD x default).2 + (l.getD (x + 1) default).2))).eraseIdx (x + 1)) ++ (prs [z] ++ r)).length = cap * 2 := by
      simp only [List.length_append, length_prs, hE, List.length_singleton] at hlen ⊢
      omega
     rw [prs_last]
     refine CW_region ?_
     refine RW_m ?_
     refine RW_m ?_
     refine RW_l (Yl_len rfl sl_125) ?_
     refine RW_l (Yl_sub (c := ((l.length - 1 : Nat) : Int)) rfl rfl (by rw [wi64 om_ om_]; omega)) ?_
     refine RW_l (Yl_cutHN (h := l.length - 1) rfl rfl sl_125 om_) ?_
     refine RW_a ?_
     refine RW_nil ?_
     refine QW_normal_block ?_
     refine (QW_lv (ks := [0, 3, 4, 5]) ?_)
     refine CW_region ?_
     refine RW_m ?_
     refine RW_l (Yl_add (c := ((i + 1 : Nat) : Int)) rfl rfl (wi64 om_ om_)) ?_
     refine RW_a ?_
     refine RW_nil ?_
     first
      | exact QW_round (i + 1, x, ((l.set x ((l.getD x default).1, (l.getD x default).2 + (l.getD (x + 1) default).2))).eraseIdx (x + 1), prs [z] ++ r) ⟨by simp only; omega, by simp only; rw [hE]; omega, hrun2, hsm2, hlen2⟩ (by simp only; omega) (by repeat (first | exact Prm.nil _ | exact Rem.here _ _ | apply Rem.there | apply Prm.cons)) (.cons (by rw [hE]; rfl) (.cons rfl (.cons rfl (.cons rfl .nil))))
      | exact QW_round (i + 1, x + 1, l, r) ⟨by simp only; omega, by simp only; omega, hrun, hsm, hlen⟩ (by simp only; omega) (by repeat (first | exact Prm.nil _ | exact Rem.here _ _ | apply Rem.there | apply Prm.cons)) (.cons rfl (.cons rfl (.cons rfl (.cons rfl .nil))))
   ·replace hc3 := of_decide_eq_false hc3
    refine CW_region ?_
    refine RW_m ?_
    refine RW_l (Yl_add (c := ((x + 1 : Nat) : Int)) rfl rfl (wi64 om_ om_)) ?_
    refine RW_a ?_
    refine RW_nil ?_
    refine QW_normal_block ?_
    refine (QW_lv (ks := [0, 3, 4, 5]) ?_)
    refine CW_region ?_
    refine RW_m ?_
    refine RW_l (Yl_add (c := ((i + 1 : Nat) : Int)) rfl rfl (wi64 om_ om_)) ?_
    refine RW_a ?_
    refine RW_nil ?_
    first
     | exact QW_round (i + 1, x, ((l.set x ((l.getD x default).1, (l.getD x default).2 + (l.getD (x + 1) default).2))).eraseIdx (x + 1), prs [z] ++ r) ⟨by simp only; omega, by simp only; rw [hE]; omega, hrun2, hsm2, hlen2⟩ (by simp only; omega) (by repeat (first | exact Prm.nil _ | exact Rem.here _ _ | apply Rem.there | apply Prm.cons)) (.cons (by rw [hE]; rfl) (.cons rfl (.cons rfl (.cons rfl .nil))))
     | exact QW_round (i + 1, x + 1, l, r) ⟨by simp only; omega, by simp only; omega, hrun, hsm, hlen⟩ (by simp only; omega) (by repeat (first | exact Prm.nil _ | exact Rem.here _ _ | apply Rem.there | apply Prm.cons)) (.cons rfl (.cons rfl (.cons rfl (.cons rfl .nil))))
  ·replace hc2 := of_decide_eq_false hc2
   refine CW_exit ?_
   refine QW_exit_then ?_
   refine QW_exit_then ?_
   refine QW_exit_block ?_
   refine (QW_lv (ks := [0]) ?_)
   refine CW_sr ?_
   refine RW_m ?_
   refine RW_a ?_
   refine RW_lv (ks := [2]) ?_
   refine CW_ret ?_
   exact QW_ret1 rfl rfl [_] ⟨l, r, hrun, hsm, hlen, rfl, rfl⟩ (Prm.nil _)
 ·replace hg1 := of_decide_eq_false hg1
  refine RW_skip rfl rfl rfl ?_
  refine RW_skip rfl rfl rfl ?_
  refine RW_skip rfl rfl rfl ?_
  refine RW_skip rfl rfl rfl ?_
  refine RW_skip rfl rfl rfl ?_
  refine RW_l (Yl_pick_f rfl rfl) ?_
  refine RW_lv (ks := [0, 3, 4, 5, 18]) ?_
  refine CW_false rfl ?_
  refine CW_exit ?_
  refine QW_exit_then ?_
  refine QW_exit_then ?_
  refine QW_exit_block ?_
  refine (QW_lv (ks := [0]) ?_)
  refine CW_sr ?_
  refine RW_m ?_
  refine RW_a ?_
  refine RW_lv (ks := [2]) ?_
  refine CW_ret ?_
  exact QW_ret1 rfl rfl [_] ⟨l, r, hrun, hsm, hlen, rfl, rfl⟩ (Prm.nil _)

/-! Values: a stream in a reader, and where it is read. -/
/-- A stream: its file's block, its reader's, the reader's other blocks, its parts. -/
structure Src where
  bf : Nat
  bd : Nat
  br : Nat
  ini : Nat
  ss : Nat
  u : Nat
  size : Nat
  nm : List UInt8
  path : Value
  rd : List Value
  G : Heap
  cs : List Nat
  of_ : Nat → Nat
  mini : Bool
/-- The file's block where pos bytes have been read, and the next one is the r-th of the k-th part. -/
@[reducible] def Src.fb (S : Src) (pos k r : Nat) : Nat × Obj := (S.bf, blk (fiF S.nm S.ini S.path ((S.size : Nat) : Int) ((pos : Nat) : Int) (snx S.cs k) ((r : Nat) : Int) S.bd S.br) 93)
@[reducible] def Src.rb (S : Src) : Nat × Obj := (S.br, blk S.rd 89)
/-- Where a byte lies. -/
def Src.ad (S : Src) (i : Nat) : Nat := S.of_ (i / S.u) + i % S.u
structure Src.Ok (S : Src) : Prop where
  sel : (S.mini = true ∧ S.size < 4096 ∧ S.u = 64) ∨ (S.mini = false ∧ 4096 ≤ S.size ∧ S.u = S.ss)
  rd1 : S.rd[1]? = some (uv S.ss)
  ss2 : 512 ≤ S.ss ∧ S.ss ≤ 4096
  sz : S.size ≤ 1000000
  cs1 : ∀ j, j * S.u < S.size → snx S.cs j ≤ 1000000
  of1 : ∀ j, j * S.u < S.size → S.of_ j ≤ 100000000
  nx : ∀ j, j * S.u < S.size → Ct Tryd.prog 60 [pv S.br, uv (snx S.cs j), .bool S.mini] (S.rb :: S.G) (fun v q => v = .tuple #[uv (snx S.cs (j + 1)), .nilIface] ∧ q = S.rb :: S.G)
  off : ∀ j, j * S.u < S.size → Ct Tryd.prog 62 [pv S.br, uv (snx S.cs j), .bool S.mini] (S.rb :: S.G) (fun v q => v = .tuple #[nv (S.of_ j), .nilIface] ∧ q = S.rb :: S.G)
theorem Src.Ok.u1 {S : Src} (h : S.Ok) : 64 ≤ S.u ∧ S.u ≤ 4096 := by
  have h1 := h.ss2
  rcases h.sel with ⟨_, _, e⟩ | ⟨_, _, e⟩ <;> omega
theorem Src.ad_part {S : Src} {k r j : Nat} (h : r + j < S.u) : S.ad (k * S.u + r + j) = S.of_ k + r + j := by
  unfold Src.ad
  rw [Nat.add_assoc (k * S.u), Nat.mul_comm k, Nat.mul_add_div om_, Nat.div_eq_of_lt h, Nat.mul_add_mod, Nat.mod_eq_of_lt h, Nat.add_zero]
  omega
theorem few_parts {u sz j i : Nat} (hu : 0 < u) (h : i * u ≤ j + u) (hj : j < sz) : i + 1 ≤ sz / u + 2 := by
  rcases Nat.lt_or_ge i (sz / u + 2) with h1 | h1
  · omega
  · exfalso
    have h2 := Nat.mul_le_mul_right u h1
    have h3 := Nat.lt_div_mul_add (a := sz) hu
    rw [Nat.add_mul] at h2
    omega
/-- One part more. -/
theorem Src.Ok.piece {S : Src} (h : S.Ok) {q k r l e : Nat} {L : List (Nat × Nat)} (hr : Run S.ad q L e) (he : k * S.u + r = e) (h0 : 0 < l) (hl : r + l ≤ S.u) : Run S.ad q (L ++ [(S.of_ k + r, l)]) (e + l) :=
  Run.snoc hr h0 (fun j hj => by subst he; exact Src.ad_part om_)

/-! Walks: getOffset, seek. -/
theorem getOffsetM_ct (br bh bm ss sn loc n c : Nat) (rd hd lm : List Value) (T : TypeId) (h1 : rd[1]? = some (uv ss)) (h3 : rd[3]? = some (.pointer (some ⟨bh, 0, none⟩))) (hm : hd[3]? = some (.slice (some ⟨bm, 0, none⟩) n c)) (hlm : lm[sn / (ss / 64)]? = some (uv loc)) (hsn : sn / (ss / 64) < n) (hn : n ≤ 100000000) (hss : 512 ≤ ss ∧ ss ≤ 4096) (hsnb : sn ≤ 4294967295) (hloc : loc ≤ 1000000) :
  Ct Tryd.prog 62 [pv br, uv sn, .bool true] [(br, blk rd 89), (bh, blk hd 137), (bm, blk lm T)] (fun v q => v = .tuple #[nv ((loc + 1) * ss + sn % (ss / 64) * 64), .nilIface] ∧ q = [(br, blk rd 89), (bh, blk hd 137), (bm, blk lm T)]) := by
 obtain ⟨e, he⟩ : ∃ e, e = ss / 64 := ⟨_, rfl⟩
 have hq4 : 8 ≤ e ∧ e ≤ 64 := by omega
 rw [← he] at hlm hsn
 obtain ⟨q, hq⟩ : ∃ q, q = sn / e := ⟨_, rfl⟩
 obtain ⟨r, hr⟩ : ∃ r, r = sn % e := ⟨_, rfl⟩
 rw [← hq] at hlm hsn
 have hdl : q ≤ sn := by rw [hq]; exact Nat.div_le_self sn e
 have hml : r < e := by rw [hr]; exact Nat.mod_lt sn om_
 have hprod : (loc + 1) * ss ≤ 1000001 * 4096 := Nat.mul_le_mul om_ om_
 refine Ct_of Tryd.func62 rfl Tryd.ntmps62 rfl ?_
 intro E F
 simp only [numL, List.nil_append, List.cons_append]
 refine CW_sr ?_
 refine RW_a ?_
 refine RW_a ?_
 refine RW_lv (ks := [0, 1, 2]) ?_
 refine CW_seq ?_
 refine CW_sr ?_
 refine RW_m ?_
 refine RW_lv (ks := [0, 1, 11]) ?_
 refine CW_cond rfl (fun hc1 => ?_) (fun hc1 => ?_)
 ·skip
  refine CW_sr ?_
  refine RW_m ?_
  refine RW_l (Yl_nilCheck rfl) ?_
  refine RW_l (Yl_field rfl fo_89_1) ?_
  refine RW_h (Yh_lh (v := uv ss) sc_67 h1) ?_
  refine RW_l (Yl_quo (c := (e : Int)) rfl rfl om_ (by rw [he]; exact quo32 (b := 64) om_)) ?_
  refine RW_a ?_
  refine RW_lv (ks := [0, 1, 8]) ?_
  refine CW_sr ?_
  refine RW_m ?_
  refine RW_m ?_
  refine RW_l (Yl_quo (c := (q : Int)) rfl rfl om_ (by rw [hq]; exact quo32 (a := sn) (b := e) om_)) ?_
  refine RW_l (Yl_conv (c := ((q : Nat) : Int)) rfl in_67 in_3 (wi64 om_ om_)) ?_
  refine RW_a ?_
  refine RW_lv (ks := [0, 1, 8, 9]) ?_
  refine CW_seq ?_
  refine CW_sr ?_
  refine RW_m ?_
  refine RW_m ?_
  refine RW_l (Yl_nilCheck rfl) ?_
  refine RW_l (Yl_field rfl fo_89_3) ?_
  refine RW_h (Yh_lh (v := .pointer (some ⟨bh, 0, none⟩)) sc_82 h3) ?_
  refine RW_l (Yl_nilCheck rfl) ?_
  refine RW_l (Yl_field rfl fo_137_3) ?_
  refine RW_h (Yh_lh (v := .slice (some ⟨bm, 0, none⟩) n c) sc_22 hm) ?_
  refine RW_l (Yl_len rfl sl_22) ?_
  refine RW_l (Yl_geq rfl rfl) ?_
  refine RW_lv (ks := [0, 1, 8, 9, 30]) ?_
  refine CW_cond rfl (fun hc2 => ?_) (fun hc2 => ?_)
  ·replace hc2 := of_decide_eq_true hc2
   exfalso; omega
  ·replace hc2 := of_decide_eq_false hc2
   refine (CW_skip (QW_lv (ks := [0, 1, 8, 9]) ?_))
   refine CW_sr ?_
   refine RW_m ?_
   refine RW_m ?_
   refine RW_l (Yl_rem (c := (r : Int)) rfl rfl om_ (by rw [hr]; exact remN sn e)) ?_
   refine RW_a ?_
   refine RW_lv (ks := [0, 9, 10]) ?_
   refine CW_seq ?_
   refine CW_draw [] _ mixed (Sub.refl _) ?_
   refine RD_l 0 rfl (Yl_move rfl) ?_
   refine RD_l 1 rfl (Yl_nilCheck rfl) ?_
   refine RD_l 2 rfl (Yl_field rfl fo_89_3) ?_
   refine RD_l 7 rfl (Yl_move rfl) ?_
   refine RD_l 12 rfl (Yl_move rfl) ?_
   refine RD_l 13 rfl (Yl_nilCheck rfl) ?_
   refine RD_l 14 rfl (Yl_field rfl fo_89_1) ?_
   refine RD_l 18 rfl (Yl_move rfl) ?_
   refine RD_l 19 rfl (Yl_conv (c := ((r : Nat) : Int)) rfl in_67 in_2 (wi64 om_ om_)) ?_
   refine RD_l 20 rfl (Yl_mul (c := ((r * 64 : Nat) : Int)) rfl rfl (mulN (a := r) (b := 64) om_)) ?_
   refine RD_h (i := 3) #[true, true, true, false, false, false, false, true, false, false, false, false, true, true, true, true, true, false, true, true, true, false, false, false] rfl rfl rfl rfl kr_ (fun _ _ _ h => h) (Yh_lh (v := .pointer (some ⟨bh, 0, none⟩)) sc_82 h3) ?_
   refine RD_l 4 rfl (Yl_nilCheck rfl) ?_
   refine RD_l 5 rfl (Yl_field rfl fo_137_3) ?_
   refine RD_h (i := 6) #[true, true, true, true, true, true, false, true, false, false, false, false, true, true, true, true, true, false, true, true, true, false, false, false] rfl rfl rfl rfl kr_ (fun _ _ _ h => h) (Yh_lh (v := .slice (some ⟨bm, 0, none⟩) n c) sc_22 hm) ?_
   refine RD_l 8 rfl (Yl_indexN (b := bm) (off := 0) (i := q) (o' := q) rfl rfl sl_22 om_ om_) ?_
   refine RD_h (i := 9) #[true, true, true, true, true, true, true, true, true, false, false, false, true, true, true, true, true, false, true, true, true, false, false, false] rfl rfl rfl rfl kr_ (fun _ _ _ h => h) (Yh_lh (v := uv loc) sc_67 hlm) ?_
   refine RD_l 10 rfl (Yl_add (c := ((loc + 1 : Nat) : Int)) rfl rfl (wu32 om_ om_)) ?_
   refine RD_l 11 rfl (Yl_conv (c := ((loc + 1 : Nat) : Int)) rfl in_67 in_2 (wi64 om_ om_)) ?_
   refine RD_h (i := 15) #[true, true, true, true, true, true, true, true, true, true, true, true, true, true, true, false, false, false, true, true, true, false, false, false] rfl rfl rfl rfl kr_ (fun _ _ _ h => h) (Yh_lh (v := uv ss) sc_67 h1) ?_
   refine RD_l 16 rfl (Yl_conv (c := ((ss : Nat) : Int)) rfl in_67 in_2 (wi64 om_ om_)) ?_
   refine RD_l 17 rfl (Yl_mul (c := (((loc + 1) * ss : Nat) : Int)) rfl rfl (mulN (a := loc + 1) (b := ss) om_)) ?_
   refine RD_l 21 rfl (Yl_add (c := (((loc + 1) * ss + r * 64 : Nat) : Int)) rfl rfl (wi64 om_ om_)) ?_
   refine RD_l 22 rfl (Yl_assign rfl) ?_
   refine RD_l 23 rfl (Yl_assign rfl) ?_
   refine (RD_done kr_ (QW_lv (ks := [6, 7]) ?_))
   refine CW_ret ?_
   refine QW_ret_then ?_
   exact QW_ret2 rfl rfl rfl [_, _, _] ⟨by rw [hr, he]; rfl, rfl⟩ (Prm.nil _)
 ·skip
  exact absurd hc1 (by decide)
theorem getOffsetL_ct (br ss sn : Nat) (rd : List Value) (h1 : rd[1]? = some (uv ss)) (hss : 512 ≤ ss ∧ ss ≤ 4096) (hsnb : sn ≤ 1000000) :
  Ct Tryd.prog 62 [pv br, uv sn, .bool false] [(br, blk rd 89)] (fun v q => v = .tuple #[nv ((sn + 1) * ss), .nilIface] ∧ q = [(br, blk rd 89)]) := by
 have hprod : (sn + 1) * ss ≤ 1000001 * 4096 := Nat.mul_le_mul om_ om_
 refine Ct_of Tryd.func62 rfl Tryd.ntmps62 rfl ?_
 intro E F
 simp only [numL, List.nil_append, List.cons_append]
 refine CW_sr ?_
 refine RW_a ?_
 refine RW_a ?_
 refine RW_lv (ks := [0, 1, 2]) ?_
 refine CW_seq ?_
 refine CW_sr ?_
 refine RW_m ?_
 refine RW_lv (ks := [0, 1, 11]) ?_
 refine CW_cond rfl (fun hc1 => ?_) (fun hc1 => ?_)
 ·skip
  exact absurd hc1 (by decide)
 ·skip
  refine (CW_skip (QW_lv (ks := [0, 1]) ?_))
  refine CW_sr ?_
  refine RW_m ?_
  refine RW_l (Yl_nilCheck rfl) ?_
  refine RW_l (Yl_field rfl fo_89_1) ?_
  refine RW_h (Yh_lh (v := uv ss) sc_67 h1) ?_
  refine RW_m ?_
  refine RW_fx rfl rfl rfl (Fx_callQ ok_56 (vs := [uv ss, uv sn]) rfl pk_ (fileOffset_ct ss sn om_ om_ om_)) ?_
  rintro _ _ ⟨rfl, rfl⟩
  refine RW_a ?_
  refine RW_a ?_
  refine RW_lv (ks := [6, 7]) ?_
  refine CW_ret ?_
  exact QW_ret2 rfl rfl rfl [_] ⟨rfl, rfl⟩ (Prm.nil _)
theorem seek_ct (S : Src) (h : S.Ok) (pos k r sz : Nat) (hr : r < S.u) (hsz : k * S.u + r + sz < S.size) :
  Ct Tryd.prog 53 [pv S.bf, nv sz] (S.fb (pos) (k) (r) :: S.rb :: S.G) (fun v q => v = .nilIface ∧ ∃ k' r', r' < S.u ∧ k' * S.u + r' = k * S.u + r + sz ∧ q = S.fb pos k' r' :: S.rb :: S.G) := by
 have hu1 := h.u1
 have hs2 := h.ss2
 have hsz1 := h.sz
 have hku : (k + 1) * S.u = k * S.u + S.u := Nat.succ_mul _ _
 refine Ct_of Tryd.func53 rfl Tryd.ntmps53 rfl ?_
 intro E F
 simp only [numL, List.nil_append, List.cons_append]
 refine CW_sr ?_
 refine RW_a ?_
 refine RW_lv (ks := [0, 1]) ?_
 refine CW_sr ?_
 refine RW_a ?_
 refine RW_lv (ks := [0, 1, 5]) ?_
 refine CW_sr ?_
 refine RW_a ?_
 refine RW_lv (ks := [0, 1, 5]) ?_
 refine CW_cut (σ := Bool × Nat) (fun q => [(0, pv S.bf), (1, nv sz), (5, .bool q.1), (6, nv q.2)]) (fun _ => S.fb (pos) (k) (r) :: S.rb :: (S.G ++ F)) (fun q => q.1 = S.mini ∧ q.2 = S.u) ?_ ?_
 ·skip
  refine CW_sr ?_
  refine RW_m ?_
  refine RW_l (Yl_nilCheck rfl) ?_
  refine RW_l (Yl_field rfl fo_93_3) ?_
  refine RW_h (Yh_ld (v := nv S.size) sc_2) ?_
  refine RW_l (Yl_lss rfl rfl) ?_
  refine RW_lv (ks := [0, 1, 5, 13]) ?_
  refine CW_cond rfl (fun hc1 => ?_) (fun hc1 => ?_)
  ·replace hc1 := of_decide_eq_true hc1
   obtain ⟨hm1, hm2⟩ : S.mini = true ∧ S.u = 64 := by rcases h.sel with ⟨e1, e2, e3⟩ | ⟨e1, e2, e3⟩; exact ⟨e1, e3⟩; omega
   refine CW_sr ?_
   refine RW_a ?_
   refine RW_lv (ks := [0, 1, 5]) ?_
   refine CW_region ?_
   refine RW_a ?_
   refine RW_nil ?_
   first
    | exact QW_cut (true, 64) ⟨hm1.symm, hm2.symm⟩ (by repeat (first | exact Prm.nil _ | exact Rem.here _ _ | apply Rem.there | apply Prm.cons)) (.cons rfl (.cons rfl (.cons rfl (.cons rfl .nil))))
    | exact QW_cut (false, S.ss) ⟨hm1.symm, hm2.symm⟩ (by repeat (first | exact Prm.nil _ | exact Rem.here _ _ | apply Rem.there | apply Prm.cons)) (.cons rfl (.cons rfl (.cons rfl (.cons rfl .nil))))
  ·replace hc1 := of_decide_eq_false hc1
   obtain ⟨hm1, hm2⟩ : S.mini = false ∧ S.u = S.ss := by rcases h.sel with ⟨e1, e2, e3⟩ | ⟨e1, e2, e3⟩; omega; exact ⟨e1, e3⟩
   refine CW_region ?_
   refine RW_m ?_
   refine RW_l (Yl_nilCheck rfl) ?_
   refine RW_l (Yl_field rfl fo_93_8) ?_
   refine RW_h (Yh_ld (v := pv S.br) sc_78) ?_
   refine RW_l (Yl_nilCheck rfl) ?_
   refine RW_l (Yl_field rfl fo_89_1) ?_
   refine RW_h (Yh_lh (v := uv S.ss) sc_67 h.rd1) ?_
   refine RW_l (Yl_conv (c := ((S.ss : Nat) : Int)) rfl in_67 in_2 (wi64 om_ om_)) ?_
   refine RW_a ?_
   refine RW_nil ?_
   first
    | exact QW_cut (true, 64) ⟨hm1.symm, hm2.symm⟩ (by repeat (first | exact Prm.nil _ | exact Rem.here _ _ | apply Rem.there | apply Prm.cons)) (.cons rfl (.cons rfl (.cons rfl (.cons rfl .nil))))
    | exact QW_cut (false, S.ss) ⟨hm1.symm, hm2.symm⟩ (by repeat (first | exact Prm.nil _ | exact Rem.here _ _ | apply Rem.there | apply Prm.cons)) (.cons rfl (.cons rfl (.cons rfl (.cons rfl .nil))))
 ·rintro ⟨b, u⟩ ⟨hb, hu⟩
  simp only at hb hu
  subst hb hu
  refine CW_sr ?_
  refine RW_a ?_
  refine RW_lv (ks := [0, 1, 5, 6, 7]) ?_
  refine CW_sr ?_
  refine RW_a ?_
  refine RW_lv (ks := [0, 1, 5, 6, 7]) ?_
  refine CW_cut (σ := Nat × Nat) (fun q => [(0, pv S.bf), (1, nv sz), (5, .bool S.mini), (6, nv S.u), (7, nv q.1)]) (fun q => S.fb (pos) (q.2) (0) :: S.rb :: (S.G ++ F)) (fun q => q.2 * S.u = k * S.u + r + q.1 ∧ q.1 ≤ sz) ?_ ?_
  ·skip
   refine CW_sr ?_
   refine RW_m ?_
   refine RW_l (Yl_nilCheck rfl) ?_
   refine RW_l (Yl_field rfl fo_93_6) ?_
   refine RW_h (Yh_ld (v := nv (r)) sc_2) ?_
   refine RW_l (Yl_gtr rfl rfl) ?_
   refine RW_lv (ks := [0, 1, 5, 6, 7, 26]) ?_
   refine CW_cond rfl (fun hc2 => ?_) (fun hc2 => ?_)
   ·replace hc2 := of_decide_eq_true hc2
    refine CW_seq ?_
    refine CW_sr ?_
    refine RW_m ?_
    refine RW_m ?_
    refine RW_l (Yl_nilCheck rfl) ?_
    refine RW_l (Yl_field rfl fo_93_6) ?_
    refine RW_h (Yh_ld (v := nv (r)) sc_2) ?_
    refine RW_l (Yl_sub (c := ((S.u - r : Nat) : Int)) rfl rfl (by rw [wi64 om_ om_]; omega)) ?_
    refine RW_m ?_
    refine RW_l (Yl_leq rfl rfl) ?_
    refine RW_lv (ks := [0, 1, 5, 6, 7, 34]) ?_
    refine CW_cond rfl (fun hc3 => ?_) (fun hc3 => ?_)
    ·replace hc3 := of_decide_eq_true hc3
     refine CW_seq ?_
     refine CW_draw [16] _ mixed (Sub.refl _) ?_
     refine RD_l 0 rfl (Yl_move rfl) ?_
     refine RD_l 1 rfl (Yl_move rfl) ?_
     refine RD_l 2 rfl (Yl_nilCheck rfl) ?_
     refine RD_l 3 rfl (Yl_field rfl fo_93_8) ?_
     refine RD_l 5 rfl (Yl_move rfl) ?_
     refine RD_l 6 rfl (Yl_nilCheck rfl) ?_
     refine RD_l 7 rfl (Yl_field rfl fo_93_5) ?_
     refine RD_l 9 rfl (Yl_move rfl) ?_
     refine RD_h (i := 4) #[true, true, true, true, false, true, true, true, true, true, false, false, false, false, false, false, false, false] rfl rfl rfl rfl kr_ (fun _ _ _ h => h) (Yh_ld (v := pv S.br) sc_78) ?_
     refine RD_h (i := 8) #[true, true, true, true, true, true, true, true, false, true, false, false, false, false, false, false, false, false] rfl rfl rfl rfl kr_ (fun _ _ _ h => h) (Yh_ld (v := uv (snx S.cs (k))) sc_67) ?_
     refine RD_one (i := 10) kr_ ?_
     refine RO_fx rfl rfl rfl rfl (Fx_callQ ok_60 (vs := [pv S.br, uv (snx S.cs (k)), .bool S.mini]) (R := fun v => v = .tuple #[uv (snx S.cs (k + 1)), .nilIface]) rfl (Pick.cons (.there _ (.here _ _)) (pick_mid _ [_] _)) (h.nx (k) om_)) ?_
     rintro _ _ ⟨rfl, rfl⟩
     refine ⟨Or.inr (Sub.refl _), ?_⟩
     refine RD_l 11 rfl (Yl_move rfl) ?_
     refine RD_l 12 rfl (Yl_extract (v := uv (snx S.cs (k + 1))) rfl rfl) ?_
     refine RD_l 13 rfl (Yl_extract (v := .nilIface) rfl rfl) ?_
     refine RD_l 14 rfl (Yl_nilCheck rfl) ?_
     refine RD_l 15 rfl (Yl_field rfl fo_93_5) ?_
     refine RD_one (i := 16) kr_ ?_
     refine RO_fx0 rfl rfl rfl (Fx_store (v := uv (snx S.cs (k + 1))) rfl rfl sz_67 rfl rep_ (by simp [fiF])) ?_
     rintro _ _ rfl
     refine ⟨Or.inl kr_, ?_⟩
     refine RD_l 17 rfl (Yl_assign rfl) ?_
     refine (RD_done kr_ (QW_lv (ks := [0, 1, 5, 6, 7, 8]) ?_))
     refine CW_seq ?_
     refine CW_sr ?_
     refine RW_m ?_
     refine RW_l (Yl_ifNeNil rfl if_105) ?_
     refine RW_lv (ks := [0, 1, 5, 6, 7, 8, 52]) ?_
     refine CW_cond rfl (fun hc4 => ?_) (fun hc4 => ?_)
     ·skip
      exact absurd hc4 (by decide)
     ·skip
      refine (CW_skip (QW_lv (ks := [0, 1, 5, 6, 7]) ?_))
      refine CW_sr ?_
      refine RW_m ?_
      refine RW_m ?_
      refine RW_m ?_
      refine RW_l (Yl_nilCheck rfl) ?_
      refine RW_l (Yl_field rfl fo_93_6) ?_
      refine RW_h (Yh_ld (v := nv (r)) sc_2) ?_
      refine RW_l (Yl_sub (c := ((S.u - r : Nat) : Int)) rfl rfl (by rw [wi64 om_ om_]; omega)) ?_
      refine RW_l (Yl_add (c := ((S.u - r : Nat) : Int)) rfl rfl (by rw [wi64 om_ om_]; omega)) ?_
      refine RW_a ?_
      refine RW_lv (ks := [0, 1, 5, 6, 7]) ?_
      refine CW_sr ?_
      refine RW_m ?_
      refine RW_l (Yl_nilCheck rfl) ?_
      refine RW_l (Yl_field rfl fo_93_6) ?_
      refine RW_fx0 rfl rfl (Fx_store (v := nv 0) rfl rfl sz_2 rfl rep_ (by simp [fiF])) ?_
      rintro _ _ rfl
      refine RW_lv (ks := [0, 1, 5, 6, 7]) ?_
      refine CW_sr ?_
      refine RW_m ?_
      refine RW_m ?_
      refine RW_l (Yl_eql rfl rfl) ?_
      refine RW_lv (ks := [0, 1, 5, 6, 7, 67]) ?_
      refine CW_cond rfl (fun hc5 => ?_) (fun hc5 => ?_)
      ·replace hc5 := of_decide_eq_true hc5
       refine CW_sr ?_
       refine RW_a ?_
       refine RW_lv (ks := [4]) ?_
       refine CW_ret ?_
       refine QW_ret_then ?_
       refine QW_ret_then ?_
       first
        | exact QW_ret1 rfl rfl (S.fb (pos) (k + 1) (0) :: S.rb :: S.G) ⟨rfl, k + 1, 0, by omega, by omega, rfl⟩ (Prm.nil _)
        | exact QW_ret1 rfl rfl (S.fb (pos) (k) (r + sz) :: S.rb :: S.G) ⟨rfl, k, r + sz, by omega, by omega, rfl⟩ (Prm.nil _)
        | exact QW_ret1 rfl rfl (S.fb (pos) (k1 + 1) (0) :: S.rb :: S.G) ⟨rfl, k1 + 1, 0, by omega, by omega, rfl⟩ (Prm.nil _)
        | exact QW_ret1 rfl rfl (S.fb (pos) (k1) (sz - j) :: S.rb :: S.G) ⟨rfl, k1, sz - j, by omega, by omega, rfl⟩ (Prm.nil _)
      ·replace hc5 := of_decide_eq_false hc5
       refine (CW_skip (QW_lv (ks := [0, 1, 5, 6, 7]) ?_))
       refine CW_sr ?_
       refine RW_m ?_
       refine RW_l (Yl_nilCheck rfl) ?_
       refine RW_l (Yl_field rfl fo_93_5) ?_
       refine RW_h (Yh_ld (v := uv (snx S.cs (k + 1))) sc_67) ?_
       refine RW_l (Yl_eql rfl rfl) ?_
       refine RW_lv (ks := [0, 1, 5, 6, 7, 80]) ?_
       refine CW_cond rfl (fun hc6 => ?_) (fun hc6 => ?_)
       ·replace hc6 := of_decide_eq_true hc6
        exact absurd hc6 (by have := h.cs1 (k + 1) om_; omega)
       ·replace hc6 := of_decide_eq_false hc6
        refine CW_skip ?_
        first
         | exact QW_cut (S.u - r, k + 1) ⟨by simp only; omega, by simp only; omega⟩ (by repeat (first | exact Prm.nil _ | exact Rem.here _ _ | apply Rem.there | apply Prm.cons)) (.cons rfl (.cons rfl (.cons rfl (.cons rfl (.cons rfl .nil)))))
         | (have e0 : r = 0 := (by omega); subst e0; exact QW_cut (0, k) ⟨by simp only; omega, Nat.zero_le _⟩ (by repeat (first | exact Prm.nil _ | exact Rem.here _ _ | apply Rem.there | apply Prm.cons)) (.cons rfl (.cons rfl (.cons rfl (.cons rfl (.cons rfl .nil))))))
    ·replace hc3 := of_decide_eq_false hc3
     refine CW_sr ?_
     refine RW_m ?_
     refine RW_l (Yl_nilCheck rfl) ?_
     refine RW_l (Yl_field rfl fo_93_6) ?_
     refine RW_h (Yh_ld (v := nv (r)) sc_2) ?_
     refine RW_m ?_
     refine RW_l (Yl_add (c := ((r + sz : Nat) : Int)) rfl rfl (wi64 om_ om_)) ?_
     refine RW_l (Yl_nilCheck rfl) ?_
     refine RW_l (Yl_field rfl fo_93_6) ?_
     refine RW_fx0 rfl rfl (Fx_store (v := nv (r + sz)) rfl rfl sz_2 rfl rep_ (by simp [fiF])) ?_
     rintro _ _ rfl
     refine RW_lv (ks := []) ?_
     refine CW_sr ?_
     refine RW_a ?_
     refine RW_lv (ks := [4]) ?_
     refine CW_ret ?_
     refine QW_ret_then ?_
     refine QW_ret_then ?_
     first
      | exact QW_ret1 rfl rfl (S.fb (pos) (k + 1) (0) :: S.rb :: S.G) ⟨rfl, k + 1, 0, by omega, by omega, rfl⟩ (Prm.nil _)
      | exact QW_ret1 rfl rfl (S.fb (pos) (k) (r + sz) :: S.rb :: S.G) ⟨rfl, k, r + sz, by omega, by omega, rfl⟩ (Prm.nil _)
      | exact QW_ret1 rfl rfl (S.fb (pos) (k1 + 1) (0) :: S.rb :: S.G) ⟨rfl, k1 + 1, 0, by omega, by omega, rfl⟩ (Prm.nil _)
      | exact QW_ret1 rfl rfl (S.fb (pos) (k1) (sz - j) :: S.rb :: S.G) ⟨rfl, k1, sz - j, by omega, by omega, rfl⟩ (Prm.nil _)
   ·replace hc2 := of_decide_eq_false hc2
    refine CW_skip ?_
    first
     | exact QW_cut (S.u - r, k + 1) ⟨by simp only; omega, by simp only; omega⟩ (by repeat (first | exact Prm.nil _ | exact Rem.here _ _ | apply Rem.there | apply Prm.cons)) (.cons rfl (.cons rfl (.cons rfl (.cons rfl (.cons rfl .nil)))))
     | (have e0 : r = 0 := (by omega); subst e0; exact QW_cut (0, k) ⟨by simp only; omega, Nat.zero_le _⟩ (by repeat (first | exact Prm.nil _ | exact Rem.here _ _ | apply Rem.there | apply Prm.cons)) (.cons rfl (.cons rfl (.cons rfl (.cons rfl (.cons rfl .nil))))))
  ·rintro ⟨j0, k0⟩ ⟨hk0, hj0⟩
   simp only at hk0 hj0 ⊢
   refine CW_block ?_
   refine CW_lp (σ := Nat × Nat) (fun q => [(0, pv S.bf), (1, nv sz), (5, .bool S.mini), (6, nv S.u), (7, nv q.1)]) (fun q => S.fb (pos) (q.2) (0) :: S.rb :: (S.G ++ F)) (fun q => q.2 * S.u = k * S.u + r + q.1 ∧ q.1 ≤ sz) (fun q => sz - q.1) (j0, k0) ⟨hk0, hj0⟩ ?_
   rintro ⟨j, k1⟩ ⟨hk1, hj1⟩
   simp only at hk1 hj1 ⊢
   have hku1 : (k1 + 1) * S.u = k1 * S.u + S.u := Nat.succ_mul _ _
   refine CW_block ?_
   refine CW_sr ?_
   refine RW_m ?_
   refine RW_m ?_
   refine RW_l (Yl_sub (c := ((sz - j : Nat) : Int)) rfl rfl (by rw [wi64 om_ om_]; omega)) ?_
   refine RW_m ?_
   refine RW_l (Yl_lss rfl rfl) ?_
   refine RW_lv (ks := [0, 1, 5, 6, 7, 92]) ?_
   refine CW_cond rfl (fun hc7 => ?_) (fun hc7 => ?_)
   ·replace hc7 := of_decide_eq_true hc7
    refine CW_sr ?_
    refine RW_m ?_
    refine RW_m ?_
    refine RW_m ?_
    refine RW_l (Yl_sub (c := ((sz - j : Nat) : Int)) rfl rfl (by rw [wi64 om_ om_]; omega)) ?_
    refine RW_l (Yl_nilCheck rfl) ?_
    refine RW_l (Yl_field rfl fo_93_6) ?_
    refine RW_fx0 rfl rfl (Fx_store (v := nv (sz - j)) rfl rfl sz_2 rfl rep_ (by simp [fiF])) ?_
    rintro _ _ rfl
    refine RW_lv (ks := []) ?_
    refine CW_sr ?_
    refine RW_a ?_
    refine RW_lv (ks := [4]) ?_
    refine CW_ret ?_
    refine QW_ret_block ?_
    refine QW_ret_then ?_
    refine QW_ret_block ?_
    first
     | exact QW_ret1 rfl rfl (S.fb (pos) (k + 1) (0) :: S.rb :: S.G) ⟨rfl, k + 1, 0, by omega, by omega, rfl⟩ (Prm.nil _)
     | exact QW_ret1 rfl rfl (S.fb (pos) (k) (r + sz) :: S.rb :: S.G) ⟨rfl, k, r + sz, by omega, by omega, rfl⟩ (Prm.nil _)
     | exact QW_ret1 rfl rfl (S.fb (pos) (k1 + 1) (0) :: S.rb :: S.G) ⟨rfl, k1 + 1, 0, by omega, by omega, rfl⟩ (Prm.nil _)
     | exact QW_ret1 rfl rfl (S.fb (pos) (k1) (sz - j) :: S.rb :: S.G) ⟨rfl, k1, sz - j, by omega, by omega, rfl⟩ (Prm.nil _)
   ·replace hc7 := of_decide_eq_false hc7
    refine CW_sr ?_
    refine RW_m ?_
    refine RW_m ?_
    refine RW_l (Yl_add (c := ((j + S.u : Nat) : Int)) rfl rfl (wi64 om_ om_)) ?_
    refine RW_a ?_
    refine RW_lv (ks := [0, 1, 5, 6, 7]) ?_
    refine CW_seq ?_
    refine CW_draw [16] _ mixed (Sub.refl _) ?_
    refine RD_l 0 rfl (Yl_move rfl) ?_
    refine RD_l 1 rfl (Yl_move rfl) ?_
    refine RD_l 2 rfl (Yl_nilCheck rfl) ?_
    refine RD_l 3 rfl (Yl_field rfl fo_93_8) ?_
    refine RD_l 5 rfl (Yl_move rfl) ?_
    refine RD_l 6 rfl (Yl_nilCheck rfl) ?_
    refine RD_l 7 rfl (Yl_field rfl fo_93_5) ?_
    refine RD_l 9 rfl (Yl_move rfl) ?_
    refine RD_h (i := 4) #[true, true, true, true, false, true, true, true, true, true, false, false, false, false, false, false, false, false] rfl rfl rfl rfl kr_ (fun _ _ _ h => h) (Yh_ld (v := pv S.br) sc_78) ?_
    refine RD_h (i := 8) #[true, true, true, true, true, true, true, true, false, true, false, false, false, false, false, false, false, false] rfl rfl rfl rfl kr_ (fun _ _ _ h => h) (Yh_ld (v := uv (snx S.cs (k1))) sc_67) ?_
    refine RD_one (i := 10) kr_ ?_
    refine RO_fx rfl rfl rfl rfl (Fx_callQ ok_60 (vs := [pv S.br, uv (snx S.cs (k1)), .bool S.mini]) (R := fun v => v = .tuple #[uv (snx S.cs (k1 + 1)), .nilIface]) rfl (Pick.cons (.there _ (.here _ _)) (pick_mid _ [_] _)) (h.nx (k1) om_)) ?_
    rintro _ _ ⟨rfl, rfl⟩
    refine ⟨Or.inr (Sub.refl _), ?_⟩
    refine RD_l 11 rfl (Yl_move rfl) ?_
    refine RD_l 12 rfl (Yl_extract (v := uv (snx S.cs (k1 + 1))) rfl rfl) ?_
    refine RD_l 13 rfl (Yl_extract (v := .nilIface) rfl rfl) ?_
    refine RD_l 14 rfl (Yl_nilCheck rfl) ?_
    refine RD_l 15 rfl (Yl_field rfl fo_93_5) ?_
    refine RD_one (i := 16) kr_ ?_
    refine RO_fx0 rfl rfl rfl (Fx_store (v := uv (snx S.cs (k1 + 1))) rfl rfl sz_67 rfl rep_ (by simp [fiF])) ?_
    rintro _ _ rfl
    refine ⟨Or.inl kr_, ?_⟩
    refine RD_l 17 rfl (Yl_assign rfl) ?_
    refine (RD_done kr_ (QW_lv (ks := [0, 1, 5, 6, 7, 8]) ?_))
    refine CW_seq ?_
    refine CW_sr ?_
    refine RW_m ?_
    refine RW_l (Yl_ifNeNil rfl if_105) ?_
    refine RW_lv (ks := [0, 1, 5, 6, 7, 8, 119]) ?_
    refine CW_cond rfl (fun hc8 => ?_) (fun hc8 => ?_)
    ·skip
     exact absurd hc8 (by decide)
    ·skip
     refine (CW_skip (QW_lv (ks := [0, 1, 5, 6, 7]) ?_))
     refine CW_sr ?_
     refine RW_m ?_
     refine RW_m ?_
     refine RW_l (Yl_eql rfl rfl) ?_
     refine RW_lv (ks := [0, 1, 5, 6, 7, 123]) ?_
     refine CW_cond rfl (fun hc9 => ?_) (fun hc9 => ?_)
     ·replace hc9 := of_decide_eq_true hc9
      refine CW_sr ?_
      refine RW_a ?_
      refine RW_lv (ks := [4]) ?_
      refine CW_ret ?_
      refine QW_ret_block ?_
      refine QW_ret_then ?_
      refine QW_ret_block ?_
      first
       | exact QW_ret1 rfl rfl (S.fb (pos) (k + 1) (0) :: S.rb :: S.G) ⟨rfl, k + 1, 0, by omega, by omega, rfl⟩ (Prm.nil _)
       | exact QW_ret1 rfl rfl (S.fb (pos) (k) (r + sz) :: S.rb :: S.G) ⟨rfl, k, r + sz, by omega, by omega, rfl⟩ (Prm.nil _)
       | exact QW_ret1 rfl rfl (S.fb (pos) (k1 + 1) (0) :: S.rb :: S.G) ⟨rfl, k1 + 1, 0, by omega, by omega, rfl⟩ (Prm.nil _)
       | exact QW_ret1 rfl rfl (S.fb (pos) (k1) (sz - j) :: S.rb :: S.G) ⟨rfl, k1, sz - j, by omega, by omega, rfl⟩ (Prm.nil _)
     ·replace hc9 := of_decide_eq_false hc9
      refine CW_skip ?_
      refine QW_normal_block ?_
      exact QW_rn (j + S.u, k1 + 1) ⟨by simp only; omega, by simp only; omega⟩ (by simp only; omega)

/-! Walks: stream. -/
theorem stream_ct (S : Src) (h : S.Ok) (pos k r sz : Nat) (hr : r < S.u) (h0 : 0 < sz) (hsz : k * S.u + r + sz ≤ S.size) :
  Ct Tryd.prog 52 [pv S.bf, nv sz] (S.fb (pos) (k) (r) :: S.rb :: S.G) (fun v q => ∃ k' r' g l2 r2 cap, r' < S.u ∧ k' * S.u + r' = k * S.u + r + sz ∧ Run S.ad (k * S.u + r) l2 (k * S.u + r + sz) ∧ Small l2 ∧ (prs l2 ++ r2).length = cap * 2 ∧ cap ≤ 20000 ∧ v = .tuple #[.slice (some ⟨g, 0, none⟩) l2.length cap, .nilIface] ∧ q = (g, blk (prs l2 ++ r2) 128) :: S.fb pos k' r' :: S.rb :: S.G) := by
 have hdv := Nat.div_le_self sz S.ss
 have hdv0 : (0 : Int) ≤ ((sz / S.ss : Nat) : Int) := Int.natCast_nonneg _
 have hu1 := h.u1
 have hs2 := h.ss2
 have hsz1 := h.sz
 have hku : (k + 1) * S.u = k * S.u + S.u := Nat.succ_mul _ _
 refine Ct_of Tryd.func52 rfl Tryd.ntmps52 rfl ?_
 intro E F
 simp only [numL, List.nil_append, List.cons_append]
 refine CW_sr ?_
 refine RW_a ?_
 refine RW_a ?_
 refine RW_lv (ks := [0, 1]) ?_
 refine CW_sr ?_
 refine RW_a ?_
 refine RW_lv (ks := [0, 1, 6]) ?_
 refine CW_sr ?_
 refine RW_a ?_
 refine RW_lv (ks := [0, 1, 6]) ?_
 refine CW_sr ?_
 refine RW_a ?_
 refine RW_lv (ks := [0, 1, 6]) ?_
 refine CW_cut (σ := Bool × Nat × Nat) (fun q => [(0, pv S.bf), (1, nv sz), (6, .bool q.1), (7, nv q.2.1), (8, nv q.2.2)]) (fun _ => S.fb (pos) (k) (r) :: S.rb :: (S.G ++ F)) (fun q => q.1 = S.mini ∧ q.2.1 = sz / S.u + 2 ∧ q.2.2 = S.u) ?_ ?_
 ·skip
  refine CW_sr ?_
  refine RW_m ?_
  refine RW_l (Yl_nilCheck rfl) ?_
  refine RW_l (Yl_field rfl fo_93_3) ?_
  refine RW_h (Yh_ld (v := nv S.size) sc_2) ?_
  refine RW_l (Yl_lss rfl rfl) ?_
  refine RW_lv (ks := [0, 1, 6, 20]) ?_
  refine CW_cond rfl (fun hc1 => ?_) (fun hc1 => ?_)
  ·replace hc1 := of_decide_eq_true hc1
   obtain ⟨hm1, hm2⟩ : S.mini = true ∧ S.u = 64 := by rcases h.sel with ⟨e1, e2, e3⟩ | ⟨e1, e2, e3⟩; exact ⟨e1, e3⟩; omega
   refine CW_sr ?_
   refine RW_a ?_
   refine RW_lv (ks := [0, 1, 6]) ?_
   refine CW_sr ?_
   refine RW_m ?_
   refine RW_l (Yl_quo (c := ((sz / 64 : Nat) : Int)) rfl rfl om_ (quoN (b := 64) om_)) ?_
   refine RW_l (Yl_add (c := ((sz / 64 + 2 : Nat) : Int)) rfl rfl (wi64 om_ om_)) ?_
   refine RW_a ?_
   refine RW_lv (ks := [0, 1, 6, 7]) ?_
   refine CW_region ?_
   refine RW_a ?_
   refine RW_nil ?_
   first
    | exact QW_cut (true, sz / 64 + 2, 64) ⟨hm1.symm, by simp only [hm2], hm2.symm⟩ (by repeat (first | exact Prm.nil _ | exact Rem.here _ _ | apply Rem.there | apply Prm.cons)) (.cons rfl (.cons rfl (.cons rfl (.cons rfl (.cons rfl .nil)))))
    | exact QW_cut (false, sz / S.ss + 2, S.ss) ⟨hm1.symm, by simp only [hm2], hm2.symm⟩ (by repeat (first | exact Prm.nil _ | exact Rem.here _ _ | apply Rem.there | apply Prm.cons)) (.cons rfl (.cons rfl (.cons rfl (.cons rfl (.cons rfl .nil)))))
  ·replace hc1 := of_decide_eq_false hc1
   obtain ⟨hm1, hm2⟩ : S.mini = false ∧ S.u = S.ss := by rcases h.sel with ⟨e1, e2, e3⟩ | ⟨e1, e2, e3⟩; omega; exact ⟨e1, e3⟩
   refine CW_sr ?_
   refine RW_m ?_
   refine RW_m ?_
   refine RW_l (Yl_nilCheck rfl) ?_
   refine RW_l (Yl_field rfl fo_93_8) ?_
   refine RW_h (Yh_ld (v := pv S.br) sc_78) ?_
   refine RW_l (Yl_nilCheck rfl) ?_
   refine RW_l (Yl_field rfl fo_89_1) ?_
   refine RW_h (Yh_lh (v := uv S.ss) sc_67 h.rd1) ?_
   refine RW_l (Yl_conv (c := ((S.ss : Nat) : Int)) rfl in_67 in_3 (wi64 om_ om_)) ?_
   refine RW_l (Yl_quo (c := ((sz / S.ss : Nat) : Int)) rfl rfl om_ (quoN (b := S.ss) om_)) ?_
   refine RW_l (Yl_add (c := ((sz / S.ss + 2 : Nat) : Int)) rfl rfl (wi64 om_ om_)) ?_
   refine RW_a ?_
   refine RW_lv (ks := [0, 1, 6, 7]) ?_
   refine CW_region ?_
   refine RW_m ?_
   refine RW_l (Yl_nilCheck rfl) ?_
   refine RW_l (Yl_field rfl fo_93_8) ?_
   refine RW_h (Yh_ld (v := pv S.br) sc_78) ?_
   refine RW_l (Yl_nilCheck rfl) ?_
   refine RW_l (Yl_field rfl fo_89_1) ?_
   refine RW_h (Yh_lh (v := uv S.ss) sc_67 h.rd1) ?_
   refine RW_l (Yl_conv (c := ((S.ss : Nat) : Int)) rfl in_67 in_2 (wi64 om_ om_)) ?_
   refine RW_a ?_
   refine RW_nil ?_
   first
    | exact QW_cut (true, sz / 64 + 2, 64) ⟨hm1.symm, by simp only [hm2], hm2.symm⟩ (by repeat (first | exact Prm.nil _ | exact Rem.here _ _ | apply Rem.there | apply Prm.cons)) (.cons rfl (.cons rfl (.cons rfl (.cons rfl (.cons rfl .nil)))))
    | exact QW_cut (false, sz / S.ss + 2, S.ss) ⟨hm1.symm, by simp only [hm2], hm2.symm⟩ (by repeat (first | exact Prm.nil _ | exact Rem.here _ _ | apply Rem.there | apply Prm.cons)) (.cons rfl (.cons rfl (.cons rfl (.cons rfl (.cons rfl .nil)))))
 ·rintro ⟨b, l, u⟩ ⟨hb, hl, hu⟩
  simp only at hb hl hu ⊢
  subst hb hu
  have hl2 : 2 ≤ l := by rw [hl]; exact Nat.le_add_left _ _
  have hl4 : l ≤ 20000 := by have := Nat.div_le_div_left (a := sz) (show 64 ≤ S.u by omega) om_; omega
  refine CW_sr ?_
  refine RW_m ?_
  refine RW_fx rfl rfl rfl (Fx_makeSlice (z0 := .int .i64 0) (m := 2) (l := 0) (c := (l : Int)) rfl rfl sl_125 by_128 ze_128 rfl rfl om_ om_ om_ om_) ?_
  rintro _ _ ⟨g, rfl, rfl⟩
  refine RW_a ?_
  refine RW_lv (ks := [0, 1, 6, 8, 9]) ?_
  refine CW_sr ?_
  refine RW_a ?_
  refine RW_a ?_
  refine RW_lv (ks := [0, 1, 6, 8, 9, 10, 11]) ?_
  refine CW_cut (σ := Nat × Nat × Nat × List (Nat × Nat) × List Value) (fun q => [(0, pv S.bf), (1, nv sz), (6, .bool S.mini), (8, nv S.u), (9, .slice (some ⟨g, 0, none⟩) q.2.2.2.1.length l), (10, nv q.2.2.1), (11, nv q.1)]) (fun q => (g, blk (prs q.2.2.2.1 ++ q.2.2.2.2) 128) :: S.fb (pos) (q.2.1) (0) :: S.rb :: (S.G ++ F)) (fun q => q.2.1 * S.u = k * S.u + r + q.1 ∧ q.1 < sz ∧ Run S.ad (k * S.u + r) q.2.2.2.1 (k * S.u + r + q.1) ∧ Small q.2.2.2.1 ∧ (prs q.2.2.2.1 ++ q.2.2.2.2).length = l * 2 ∧ q.2.2.2.1.length = q.2.2.1 ∧ q.2.2.1 * S.u ≤ q.1 + S.u) ?_ ?_
  ·skip
   refine CW_sr ?_
   refine RW_m ?_
   refine RW_l (Yl_nilCheck rfl) ?_
   refine RW_l (Yl_field rfl fo_93_6) ?_
   refine RW_h (Yh_ld (v := nv (r)) sc_2) ?_
   refine RW_l (Yl_gtr rfl rfl) ?_
   refine RW_lv (ks := [0, 1, 6, 8, 9, 10, 11, 49]) ?_
   refine CW_cond rfl (fun hc2 => ?_) (fun hc2 => ?_)
   ·replace hc2 := of_decide_eq_true hc2
    have hofk := h.of1 k om_
    refine CW_seq ?_
    refine CW_draw [] _ mixed (Sub.refl _) ?_
    refine RD_l 0 rfl (Yl_move rfl) ?_
    refine RD_l 1 rfl (Yl_nilCheck rfl) ?_
    refine RD_l 2 rfl (Yl_field rfl fo_93_8) ?_
    refine RD_l 4 rfl (Yl_move rfl) ?_
    refine RD_l 5 rfl (Yl_nilCheck rfl) ?_
    refine RD_l 6 rfl (Yl_field rfl fo_93_5) ?_
    refine RD_l 8 rfl (Yl_move rfl) ?_
    refine RD_h (i := 3) #[true, true, true, false, true, true, true, true, true, false, false, false, false, false, false] rfl rfl rfl rfl kr_ (fun _ _ _ h => h) (Yh_ld (v := pv S.br) sc_78) ?_
    refine RD_h (i := 7) #[true, true, true, true, true, true, true, false, true, false, false, false, false, false, false] rfl rfl rfl rfl kr_ (fun _ _ _ h => h) (Yh_ld (v := uv (snx S.cs (k))) sc_67) ?_
    refine RD_one (i := 9) kr_ ?_
    refine RO_fx rfl rfl rfl rfl (Fx_callQ ok_62 (vs := [pv S.br, uv (snx S.cs (k)), .bool S.mini]) (R := fun v => v = .tuple #[nv (S.of_ (k)), .nilIface]) rfl (Pick.cons (.there _ (.there _ (.here _ _))) (pick_mid _ [_, _] _)) (h.off (k) om_)) ?_
    rintro _ _ ⟨rfl, rfl⟩
    refine ⟨Or.inr (Sub.refl _), ?_⟩
    refine RD_l 10 rfl (Yl_move rfl) ?_
    refine RD_l 11 rfl (Yl_extract (v := nv (S.of_ k)) rfl rfl) ?_
    refine RD_l 12 rfl (Yl_extract (v := .nilIface) rfl rfl) ?_
    refine RD_l 13 rfl (Yl_assign rfl) ?_
    refine RD_l 14 rfl (Yl_assign rfl) ?_
    refine (RD_done kr_ (QW_lv (ks := [0, 1, 6, 8, 9, 10, 11, 12, 13]) ?_))
    refine CW_seq ?_
    refine CW_sr ?_
    refine RW_m ?_
    refine RW_l (Yl_ifNeNil rfl if_105) ?_
    refine RW_lv (ks := [0, 1, 6, 8, 9, 10, 11, 12, 13, 64]) ?_
    refine CW_cond rfl (fun hc3 => ?_) (fun hc3 => ?_)
    ·skip
     exact absurd hc3 (by decide)
    ·skip
     refine (CW_skip (QW_lv (ks := [0, 1, 6, 8, 9, 10, 11, 12]) ?_))
     refine CW_cut (σ := Nat × List Value) (fun q => [(0, pv S.bf), (1, nv sz), (6, .bool S.mini), (8, nv S.u), (9, .slice (some ⟨g, 0, none⟩) 1 l), (10, nv 0), (11, nv 0)]) (fun q => (g, blk (prs [(S.of_ k + r, q.1)] ++ q.2) 128) :: S.fb (pos) (k) (r) :: S.rb :: (S.G ++ F)) (fun q => q.1 = min sz (S.u - r) ∧ (prs [(S.of_ k + r, q.1)] ++ q.2).length = l * 2) ?_ ?_
     ·skip
      refine CW_sr ?_
      refine RW_m ?_
      refine RW_m ?_
      refine RW_l (Yl_nilCheck rfl) ?_
      refine RW_l (Yl_field rfl fo_93_6) ?_
      refine RW_h (Yh_ld (v := nv (r)) sc_2) ?_
      refine RW_l (Yl_sub (c := ((S.u - r : Nat) : Int)) rfl rfl (by rw [wi64 om_ om_]; omega)) ?_
      refine RW_m ?_
      refine RW_l (Yl_geq rfl rfl) ?_
      refine RW_lv (ks := [0, 1, 6, 8, 9, 10, 11, 12, 73]) ?_
      refine CW_cond rfl (fun hc4 => ?_) (fun hc4 => ?_)
      ·replace hc4 := of_decide_eq_true hc4
       refine CW_region ?_
       refine RW_m ?_
       refine RW_m ?_
       refine RW_m ?_
       refine RW_l (Yl_nilCheck rfl) ?_
       refine RW_l (Yl_field rfl fo_93_6) ?_
       refine RW_h (Yh_ld (v := nv (r)) sc_2) ?_
       refine RW_l (Yl_add (c := ((S.of_ k + r : Nat) : Int)) rfl rfl (wi64 om_ om_)) ?_
       refine RW_m ?_
       refine RW_l (Yl_buildA (cs := [nv (S.of_ k + r), nv (sz)]) un_128 sz_2 ze_128 rfl rfl) ?_
       refine RW_fx rfl rfl rfl (Fx_lit (vs := [.agg [nv (S.of_ k + r), nv (sz)].toArray]) (css := [[nv (S.of_ k + r), nv (sz)]]) (cs := [nv (S.of_ k + r), nv (sz)]) sl_125 ze_128 rfl rfl rfl rfl rfl (by intro c hc; rw [List.mem_singleton.1 hc]; rfl) rfl) ?_
       rintro _ _ ⟨b83, rfl, rfl⟩
       refine RW_fx rfl rfl rfl (Fx_appR (g := g) (xs := prs []) (r := (List.replicate (l * 2) (.int .i64 0))) (news := [nv (S.of_ k + r), nv (sz)]) (T := 128) (n := 0) (cap := l) (m := 1) (c := 1) rfl rfl sl_125 (.here _ _) (.here _ _) (by simp) (length_prs _) rfl (by intro u hu; simp only [List.mem_cons, List.not_mem_nil, or_false] at hu; rcases hu with rfl | rfl <;> rfl) om_) ?_
       rintro _ _ ⟨r1, rfl, hl1, rfl⟩
       refine RW_a ?_
       refine RW_nil ?_
       first
        | exact QW_cut (sz, r1) ⟨by simp only; omega, hl1⟩ (by repeat (first | exact Prm.nil _ | exact Rem.here _ _ | apply Rem.there | apply Prm.cons)) (.cons rfl (.cons rfl (.cons rfl (.cons rfl (.cons rfl (.cons rfl (.cons rfl .nil)))))))
        | exact QW_cut (S.u - r, r1) ⟨by simp only; omega, hl1⟩ (by repeat (first | exact Prm.nil _ | exact Rem.here _ _ | apply Rem.there | apply Prm.cons)) (.cons rfl (.cons rfl (.cons rfl (.cons rfl (.cons rfl (.cons rfl (.cons rfl .nil)))))))
      ·replace hc4 := of_decide_eq_false hc4
       refine CW_draw [15] _ mixed (Sub.refl _) ?_
       refine RD_l 0 rfl (Yl_move rfl) ?_
       refine RD_l 1 rfl (Yl_move rfl) ?_
       refine RD_l 2 rfl (Yl_move rfl) ?_
       refine RD_l 3 rfl (Yl_nilCheck rfl) ?_
       refine RD_l 4 rfl (Yl_field rfl fo_93_6) ?_
       refine RD_l 7 rfl (Yl_move rfl) ?_
       refine RD_l 8 rfl (Yl_move rfl) ?_
       refine RD_l 9 rfl (Yl_nilCheck rfl) ?_
       refine RD_l 10 rfl (Yl_field rfl fo_93_6) ?_
       refine RD_h (i := 5) #[true, true, true, true, true, false, false, true, true, true, true, true, true, false, false, false, false] rfl rfl rfl rfl kr_ (fun _ _ _ h => h) (Yh_ld (v := nv (r)) sc_2) ?_
       refine RD_l 6 rfl (Yl_add (c := ((S.of_ k + r : Nat) : Int)) rfl rfl (wi64 om_ om_)) ?_
       refine RD_h (i := 11) #[true, true, true, true, true, true, true, true, true, true, true, false, false, false, false, false, false] rfl rfl rfl rfl kr_ (fun _ _ _ h => h) (Yh_ld (v := nv (r)) sc_2) ?_
       refine RD_l 12 rfl (Yl_sub (c := ((S.u - r : Nat) : Int)) rfl rfl (by rw [wi64 om_ om_]; omega)) ?_
       refine RD_l 13 rfl (Yl_buildA (cs := [nv (S.of_ k + r), nv (S.u - r)]) un_128 sz_2 ze_128 rfl rfl) ?_
       refine RD_one (i := 14) kr_ ?_
       refine RO_fx rfl rfl rfl rfl (Fx_lit (vs := [.agg [nv (S.of_ k + r), nv (S.u - r)].toArray]) (css := [[nv (S.of_ k + r), nv (S.u - r)]]) (cs := [nv (S.of_ k + r), nv (S.u - r)]) sl_125 ze_128 rfl rfl rfl rfl rfl (by intro c hc; rw [List.mem_singleton.1 hc]; rfl) rfl) ?_
       rintro _ _ ⟨b99, rfl, rfl⟩
       refine ⟨Or.inr (Sub.more (Sub.refl _)), ?_⟩
       refine RD_one (i := 15) kr_ ?_
       refine RO_fx rfl rfl rfl rfl (Fx_appR (g := g) (xs := prs []) (r := (List.replicate (l * 2) (.int .i64 0))) (news := [nv (S.of_ k + r), nv (S.u - r)]) (T := 128) (n := 0) (cap := l) (m := 1) (c := 1) rfl rfl sl_125 (.here _ _) (.here _ _) (by simp) (length_prs _) rfl (by intro u hu; simp only [List.mem_cons, List.not_mem_nil, or_false] at hu; rcases hu with rfl | rfl <;> rfl) om_) ?_
       rintro _ _ ⟨r1, rfl, hl1, rfl⟩
       refine ⟨Or.inl kr_, ?_⟩
       refine RD_l 16 rfl (Yl_assign rfl) ?_
       refine RD_done kr_ ?_
       first
        | exact QW_cut (sz, r1) ⟨by simp only; omega, hl1⟩ (by repeat (first | exact Prm.nil _ | exact Rem.here _ _ | apply Rem.there | apply Prm.cons)) (.cons rfl (.cons rfl (.cons rfl (.cons rfl (.cons rfl (.cons rfl (.cons rfl .nil)))))))
        | exact QW_cut (S.u - r, r1) ⟨by simp only; omega, hl1⟩ (by repeat (first | exact Prm.nil _ | exact Rem.here _ _ | apply Rem.there | apply Prm.cons)) (.cons rfl (.cons rfl (.cons rfl (.cons rfl (.cons rfl (.cons rfl (.cons rfl .nil)))))))
     ·rintro ⟨ln, rr⟩ ⟨hln, hlen1⟩
      simp only at hln hlen1 ⊢
      have hrun1 : Run S.ad (k * S.u + r) [(S.of_ k + r, ln)] (k * S.u + r + ln) := h.piece (.nil _) rfl om_ om_
      have hsm1 : Small [(S.of_ k + r, ln)] := Small.snoc (L := []) (by intro k hk; simp at hk) om_ om_
      refine CW_cut (σ := Nat × Nat × Nat) (fun q => [(0, pv S.bf), (1, nv sz), (6, .bool S.mini), (8, nv S.u), (9, .slice (some ⟨g, 0, none⟩) 1 l), (10, nv 0), (11, nv q.2.2)]) (fun q => (g, blk (prs [(S.of_ k + r, ln)] ++ rr) 128) :: S.fb (pos) (q.1) (q.2.1) :: S.rb :: (S.G ++ F)) (fun q => (S.u - r ≤ sz ∧ q.1 = k + 1 ∧ q.2.1 = 0 ∧ q.2.2 = S.u - r) ∨ (sz < S.u - r ∧ q.1 = k ∧ q.2.1 = r + sz ∧ q.2.2 = 0)) ?_ ?_
      ·skip
       refine CW_sr ?_
       refine RW_m ?_
       refine RW_m ?_
       refine RW_l (Yl_nilCheck rfl) ?_
       refine RW_l (Yl_field rfl fo_93_6) ?_
       refine RW_h (Yh_ld (v := nv (r)) sc_2) ?_
       refine RW_l (Yl_sub (c := ((S.u - r : Nat) : Int)) rfl rfl (by rw [wi64 om_ om_]; omega)) ?_
       refine RW_m ?_
       refine RW_l (Yl_leq rfl rfl) ?_
       refine RW_lv (ks := [0, 1, 6, 8, 9, 10, 11, 108]) ?_
       refine CW_cond rfl (fun hc5 => ?_) (fun hc5 => ?_)
       ·replace hc5 := of_decide_eq_true hc5
        refine CW_seq ?_
        refine CW_draw [16] _ mixed (Sub.refl _) ?_
        refine RD_l 0 rfl (Yl_move rfl) ?_
        refine RD_l 1 rfl (Yl_move rfl) ?_
        refine RD_l 2 rfl (Yl_nilCheck rfl) ?_
        refine RD_l 3 rfl (Yl_field rfl fo_93_8) ?_
        refine RD_l 5 rfl (Yl_move rfl) ?_
        refine RD_l 6 rfl (Yl_nilCheck rfl) ?_
        refine RD_l 7 rfl (Yl_field rfl fo_93_5) ?_
        refine RD_l 9 rfl (Yl_move rfl) ?_
        refine RD_h (i := 4) #[true, true, true, true, false, true, true, true, true, true, false, false, false, false, false, false, false, false] rfl rfl rfl rfl kr_ (fun _ _ _ h => h) (Yh_ld (v := pv S.br) sc_78) ?_
        refine RD_h (i := 8) #[true, true, true, true, true, true, true, true, false, true, false, false, false, false, false, false, false, false] rfl rfl rfl rfl kr_ (fun _ _ _ h => h) (Yh_ld (v := uv (snx S.cs (k))) sc_67) ?_
        refine RD_one (i := 10) kr_ ?_
        refine RO_fx rfl rfl rfl rfl (Fx_callQ ok_60 (vs := [pv S.br, uv (snx S.cs (k)), .bool S.mini]) (R := fun v => v = .tuple #[uv (snx S.cs (k + 1)), .nilIface]) rfl (Pick.cons (.there _ (.there _ (.here _ _))) (pick_mid _ [_, _] _)) (h.nx (k) om_)) ?_
        rintro _ _ ⟨rfl, rfl⟩
        refine ⟨Or.inr (Sub.refl _), ?_⟩
        refine RD_l 11 rfl (Yl_move rfl) ?_
        refine RD_l 12 rfl (Yl_extract (v := uv (snx S.cs (k + 1))) rfl rfl) ?_
        refine RD_l 13 rfl (Yl_extract (v := .nilIface) rfl rfl) ?_
        refine RD_l 14 rfl (Yl_nilCheck rfl) ?_
        refine RD_l 15 rfl (Yl_field rfl fo_93_5) ?_
        refine RD_one (i := 16) kr_ ?_
        refine RO_fx0 rfl rfl rfl (Fx_store (v := uv (snx S.cs (k + 1))) rfl rfl sz_67 rfl rep_ (by simp [fiF])) ?_
        rintro _ _ rfl
        refine ⟨Or.inl kr_, ?_⟩
        refine RD_l 17 rfl (Yl_assign rfl) ?_
        refine (RD_done kr_ (QW_lv (ks := [0, 1, 6, 8, 9, 10, 11, 13]) ?_))
        refine CW_seq ?_
        refine CW_sr ?_
        refine RW_m ?_
        refine RW_l (Yl_ifNeNil rfl if_105) ?_
        refine RW_lv (ks := [0, 1, 6, 8, 9, 10, 11, 13, 126]) ?_
        refine CW_cond rfl (fun hc6 => ?_) (fun hc6 => ?_)
        ·skip
         exact absurd hc6 (by decide)
        ·skip
         refine (CW_skip (QW_lv (ks := [0, 1, 6, 8, 9, 10, 11]) ?_))
         refine CW_sr ?_
         refine RW_m ?_
         refine RW_m ?_
         refine RW_m ?_
         refine RW_l (Yl_nilCheck rfl) ?_
         refine RW_l (Yl_field rfl fo_93_6) ?_
         refine RW_h (Yh_ld (v := nv (r)) sc_2) ?_
         refine RW_l (Yl_sub (c := ((S.u - r : Nat) : Int)) rfl rfl (by rw [wi64 om_ om_]; omega)) ?_
         refine RW_l (Yl_add (c := ((S.u - r : Nat) : Int)) rfl rfl (by rw [wi64 om_ om_]; omega)) ?_
         refine RW_a ?_
         refine RW_lv (ks := [0, 1, 6, 8, 9, 10, 11]) ?_
         refine CW_region ?_
         refine RW_m ?_
         refine RW_l (Yl_nilCheck rfl) ?_
         refine RW_l (Yl_field rfl fo_93_6) ?_
         refine RW_fx0 rfl rfl (Fx_store (v := nv 0) rfl rfl sz_2 rfl rep_ (by simp [fiF])) ?_
         rintro _ _ rfl
         refine RW_nil ?_
         first
          | exact QW_cut (k + 1, 0, S.u - r) (.inl ⟨by omega, rfl, rfl, rfl⟩) (by repeat (first | exact Prm.nil _ | exact Rem.here _ _ | apply Rem.there | apply Prm.cons)) (.cons rfl (.cons rfl (.cons rfl (.cons rfl (.cons rfl (.cons rfl (.cons rfl .nil)))))))
          | exact QW_cut (k, r + sz, 0) (.inr ⟨by omega, rfl, rfl, rfl⟩) (by repeat (first | exact Prm.nil _ | exact Rem.here _ _ | apply Rem.there | apply Prm.cons)) (.cons rfl (.cons rfl (.cons rfl (.cons rfl (.cons rfl (.cons rfl (.cons rfl .nil)))))))
       ·replace hc5 := of_decide_eq_false hc5
        refine CW_region ?_
        refine RW_m ?_
        refine RW_l (Yl_nilCheck rfl) ?_
        refine RW_l (Yl_field rfl fo_93_6) ?_
        refine RW_h (Yh_ld (v := nv (r)) sc_2) ?_
        refine RW_m ?_
        refine RW_l (Yl_add (c := ((r + sz : Nat) : Int)) rfl rfl (wi64 om_ om_)) ?_
        refine RW_l (Yl_nilCheck rfl) ?_
        refine RW_l (Yl_field rfl fo_93_6) ?_
        refine RW_fx0 rfl rfl (Fx_store (v := nv (r + sz)) rfl rfl sz_2 rfl rep_ (by simp [fiF])) ?_
        rintro _ _ rfl
        refine RW_nil ?_
        first
         | exact QW_cut (k + 1, 0, S.u - r) (.inl ⟨by omega, rfl, rfl, rfl⟩) (by repeat (first | exact Prm.nil _ | exact Rem.here _ _ | apply Rem.there | apply Prm.cons)) (.cons rfl (.cons rfl (.cons rfl (.cons rfl (.cons rfl (.cons rfl (.cons rfl .nil)))))))
         | exact QW_cut (k, r + sz, 0) (.inr ⟨by omega, rfl, rfl, rfl⟩) (by repeat (first | exact Prm.nil _ | exact Rem.here _ _ | apply Rem.there | apply Prm.cons)) (.cons rfl (.cons rfl (.cons rfl (.cons rfl (.cons rfl (.cons rfl (.cons rfl .nil)))))))
      ·rintro ⟨k1, r1, j1⟩ hd
       simp only at hd ⊢
       refine CW_seq ?_
       refine CW_sr ?_
       refine RW_m ?_
       refine RW_l (Yl_indexN (b := g) (off := 0) (i := 0) (o' := 0) rfl rfl sl_125 om_ rfl) ?_
       refine RW_l (Yl_indexAN (b := g) (off := 0) (i := 1) (o' := 1) rfl rfl ar_128 om_ rfl) ?_
       refine RW_h (Yh_ld (v := nv ln) sc_2) ?_
       refine RW_m ?_
       refine RW_l (Yl_eql rfl rfl) ?_
       refine RW_lv (ks := [0, 1, 6, 8, 9, 10, 11, 152]) ?_
       refine CW_cond rfl (fun hc7 => ?_) (fun hc7 => ?_)
       ·replace hc7 := of_decide_eq_true hc7
        have hk9 : k1 * S.u + r1 = k * S.u + r + sz ∧ r1 < S.u := by rcases hd with ⟨a, b, c, d⟩ | ⟨a, b, c, d⟩ <;> subst b <;> omega
        have hrun9 : Run S.ad (k * S.u + r) [(S.of_ k + r, ln)] (k * S.u + r + sz) := by rw [show sz = ln by omega]; exact hrun1
        refine CW_sr ?_
        refine RW_m ?_
        refine RW_a ?_
        refine RW_a ?_
        refine RW_lv (ks := [4, 5]) ?_
        refine CW_ret ?_
        refine QW_ret_then ?_
        refine QW_ret_then ?_
        first
         | exact QW_ret2 rfl rfl rfl ((g, blk (prs l2 ++ r2) 128) :: S.fb (pos) (k1 + 1) (0) :: S.rb :: S.G) ⟨k1 + 1, 0, g, l2, r2, l, by omega, by omega, hrun3, hsm3, hlen3, by omega, rfl, rfl⟩ (Prm.nil _)
         | exact QW_ret2 rfl rfl rfl ((g, blk (prs l2 ++ r2) 128) :: S.fb (pos) (k1) (sz - j) :: S.rb :: S.G) ⟨k1, sz - j, g, l2, r2, l, by omega, by omega, hrun3, hsm3, hlen3, by omega, rfl, rfl⟩ (Prm.nil _)
         | exact QW_ret2 rfl rfl rfl ((g, blk (prs [(S.of_ k + r, ln)] ++ rr) 128) :: S.fb (pos) (k1) (r1) :: S.rb :: S.G) ⟨k1, r1, g, [(S.of_ k + r, ln)], rr, l, by omega, by omega, hrun9, hsm1, hlen1, by omega, rfl, rfl⟩ (Prm.nil _)
       ·replace hc7 := of_decide_eq_false hc7
        have hd2 : S.u - r < sz ∧ k1 = k + 1 ∧ r1 = 0 ∧ ln = j1 ∧ ln = S.u - r := by omega
        obtain ⟨hd3, rfl, rfl, rfl, hlnu⟩ := hd2
        obtain ⟨k1, hk1⟩ : ∃ k1, k1 = k + 1 := ⟨_, rfl⟩
        have hk1u : k1 * S.u = k * S.u + S.u := by rw [hk1]; exact hku
        rw [← hk1]
        refine (CW_skip (QW_lv (ks := [0, 1, 6, 8, 9, 10, 11]) ?_))
        refine CW_seq ?_
        refine CW_sr ?_
        refine RW_m ?_
        refine RW_l (Yl_nilCheck rfl) ?_
        refine RW_l (Yl_field rfl fo_93_5) ?_
        refine RW_h (Yh_ld (v := uv (snx S.cs (k1))) sc_67) ?_
        refine RW_l (Yl_eql rfl rfl) ?_
        refine RW_lv (ks := [0, 1, 6, 8, 9, 10, 11, 158]) ?_
        refine CW_cond rfl (fun hc8 => ?_) (fun hc8 => ?_)
        ·replace hc8 := of_decide_eq_true hc8
         exact absurd hc8 (by have := h.cs1 k1 om_; omega)
        ·replace hc8 := of_decide_eq_false hc8
         refine (CW_skip (QW_lv (ks := [0, 1, 6, 8, 9, 10, 11]) ?_))
         refine CW_region ?_
         refine RW_m ?_
         refine RW_l (Yl_add (c := ((1 : Nat) : Int)) rfl rfl (by rw [wi64 om_ om_]; omega)) ?_
         refine RW_a ?_
         refine RW_nil ?_
         first
          | exact QW_cut (ln, k1, 1, [(S.of_ k + r, ln)], rr) ⟨by simp only; omega, by simp only; omega, hrun1, hsm1, hlen1, rfl, by simp only; omega⟩ (by repeat (first | exact Prm.nil _ | exact Rem.here _ _ | apply Rem.there | apply Prm.cons)) (.cons rfl (.cons rfl (.cons rfl (.cons rfl (.cons rfl (.cons rfl (.cons rfl .nil)))))))
          | (have e0 : r = 0 := (by omega); subst e0; exact QW_cut (0, k, 0, [], List.replicate (l * 2) (.int .i64 0)) ⟨by simp only; omega, by simp only; omega, .nil _, (by intro k hk; simp at hk), by simp, rfl, by simp⟩ (by repeat (first | exact Prm.nil _ | exact Rem.here _ _ | apply Rem.there | apply Prm.cons)) (.cons rfl (.cons rfl (.cons rfl (.cons rfl (.cons rfl (.cons rfl (.cons rfl .nil))))))))
   ·replace hc2 := of_decide_eq_false hc2
    refine CW_skip ?_
    first
     | exact QW_cut (ln, k1, 1, [(S.of_ k + r, ln)], rr) ⟨by simp only; omega, by simp only; omega, hrun1, hsm1, hlen1, rfl, by simp only; omega⟩ (by repeat (first | exact Prm.nil _ | exact Rem.here _ _ | apply Rem.there | apply Prm.cons)) (.cons rfl (.cons rfl (.cons rfl (.cons rfl (.cons rfl (.cons rfl (.cons rfl .nil)))))))
     | (have e0 : r = 0 := (by omega); subst e0; exact QW_cut (0, k, 0, [], List.replicate (l * 2) (.int .i64 0)) ⟨by simp only; omega, by simp only; omega, .nil _, (by intro k hk; simp at hk), by simp, rfl, by simp⟩ (by repeat (first | exact Prm.nil _ | exact Rem.here _ _ | apply Rem.there | apply Prm.cons)) (.cons rfl (.cons rfl (.cons rfl (.cons rfl (.cons rfl (.cons rfl (.cons rfl .nil))))))))
  ·rintro ⟨j0, k0, i0, ls0, rr0⟩ ⟨hk0, hj0, hrun0, hsm0, hlen0, hls0, hi0⟩
   simp only at hk0 hj0 hrun0 hsm0 hlen0 hls0 hi0 ⊢
   refine CW_block ?_
   refine CW_lp (σ := Nat × Nat × Nat × List (Nat × Nat) × List Value) (fun q => [(0, pv S.bf), (1, nv sz), (6, .bool S.mini), (8, nv S.u), (9, .slice (some ⟨g, 0, none⟩) q.2.2.2.1.length l), (10, nv q.2.2.1), (11, nv q.1)]) (fun q => (g, blk (prs q.2.2.2.1 ++ q.2.2.2.2) 128) :: S.fb (pos) (q.2.1) (0) :: S.rb :: (S.G ++ F)) (fun q => q.2.1 * S.u = k * S.u + r + q.1 ∧ q.1 < sz ∧ Run S.ad (k * S.u + r) q.2.2.2.1 (k * S.u + r + q.1) ∧ Small q.2.2.2.1 ∧ (prs q.2.2.2.1 ++ q.2.2.2.2).length = l * 2 ∧ q.2.2.2.1.length = q.2.2.1 ∧ q.2.2.1 * S.u ≤ q.1 + S.u) (fun q => sz - q.1) (j0, k0, i0, ls0, rr0) ⟨hk0, hj0, hrun0, hsm0, hlen0, hls0, hi0⟩ ?_
   rintro ⟨j, k1, i, ls, rr⟩ ⟨hk1, hj1, hrun, hsm, hlen, hls, hi1⟩
   simp only at hk1 hj1 hrun hsm hlen hls hi1 ⊢
   subst hls
   have hku1 : (k1 + 1) * S.u = k1 * S.u + S.u := Nat.succ_mul _ _
   have hiu1 : (ls.length + 1) * S.u = ls.length * S.u + S.u := Nat.succ_mul _ _
   have hroom := few_parts om_ hi1 hj1
   have hof := h.of1 k1 om_
   refine CW_block ?_
   refine CW_seq ?_
   refine CW_sr ?_
   refine RW_m ?_
   refine RW_m ?_
   refine RW_l (Yl_cap rfl sl_125) ?_
   refine RW_l (Yl_geq rfl rfl) ?_
   refine RW_lv (ks := [0, 1, 6, 8, 9, 10, 11, 171]) ?_
   refine CW_cond rfl (fun hc9 => ?_) (fun hc9 => ?_)
   ·replace hc9 := of_decide_eq_true hc9
    exfalso; omega
   ·replace hc9 := of_decide_eq_false hc9
    refine (CW_skip (QW_lv (ks := [0, 1, 6, 8, 9, 10, 11]) ?_))
    refine CW_seq ?_
    refine CW_draw [] _ mixed (Sub.refl _) ?_
    refine RD_l 0 rfl (Yl_move rfl) ?_
    refine RD_l 1 rfl (Yl_nilCheck rfl) ?_
    refine RD_l 2 rfl (Yl_field rfl fo_93_8) ?_
    refine RD_l 4 rfl (Yl_move rfl) ?_
    refine RD_l 5 rfl (Yl_nilCheck rfl) ?_
    refine RD_l 6 rfl (Yl_field rfl fo_93_5) ?_
    refine RD_l 8 rfl (Yl_move rfl) ?_
    refine RD_h (i := 3) #[true, true, true, false, true, true, true, true, true, false, false, false, false, false, false] rfl rfl rfl rfl kr_ (fun _ _ _ h => h) (Yh_ld (v := pv S.br) sc_78) ?_
    refine RD_h (i := 7) #[true, true, true, true, true, true, true, false, true, false, false, false, false, false, false] rfl rfl rfl rfl kr_ (fun _ _ _ h => h) (Yh_ld (v := uv (snx S.cs (k1))) sc_67) ?_
    refine RD_one (i := 9) kr_ ?_
    refine RO_fx rfl rfl rfl rfl (Fx_callQ ok_62 (vs := [pv S.br, uv (snx S.cs (k1)), .bool S.mini]) (R := fun v => v = .tuple #[nv (S.of_ (k1)), .nilIface]) rfl (Pick.cons (.there _ (.there _ (.here _ _))) (pick_mid _ [_, _] _)) (h.off (k1) om_)) ?_
    rintro _ _ ⟨rfl, rfl⟩
    refine ⟨Or.inr (Sub.refl _), ?_⟩
    refine RD_l 10 rfl (Yl_move rfl) ?_
    refine RD_l 11 rfl (Yl_extract (v := nv (S.of_ k1)) rfl rfl) ?_
    refine RD_l 12 rfl (Yl_extract (v := .nilIface) rfl rfl) ?_
    refine RD_l 13 rfl (Yl_assign rfl) ?_
    refine RD_l 14 rfl (Yl_assign rfl) ?_
    refine (RD_done kr_ (QW_lv (ks := [0, 1, 6, 8, 9, 10, 11, 14, 15]) ?_))
    refine CW_seq ?_
    refine CW_sr ?_
    refine RW_m ?_
    refine RW_l (Yl_ifNeNil rfl if_105) ?_
    refine RW_lv (ks := [0, 1, 6, 8, 9, 10, 11, 14, 15, 189]) ?_
    refine CW_cond rfl (fun hc10 => ?_) (fun hc10 => ?_)
    ·skip
     exact absurd hc10 (by decide)
    ·skip
     refine (CW_skip (QW_lv (ks := [0, 1, 6, 8, 9, 10, 11, 14]) ?_))
     refine CW_seq ?_
     refine CW_sr ?_
     refine RW_m ?_
     refine RW_m ?_
     refine RW_l (Yl_sub (c := ((sz - j : Nat) : Int)) rfl rfl (by rw [wi64 om_ om_]; omega)) ?_
     refine RW_m ?_
     refine RW_l (Yl_lss rfl rfl) ?_
     refine RW_lv (ks := [0, 1, 6, 8, 9, 10, 11, 14, 195]) ?_
     refine CW_cond rfl (fun hc11 => ?_) (fun hc11 => ?_)
     ·replace hc11 := of_decide_eq_true hc11
      refine CW_sr ?_
      refine RW_m ?_
      refine RW_m ?_
      refine RW_m ?_
      refine RW_m ?_
      refine RW_l (Yl_sub (c := ((sz - j : Nat) : Int)) rfl rfl (by rw [wi64 om_ om_]; omega)) ?_
      refine RW_l (Yl_buildA (cs := [nv (S.of_ k1), nv (sz - j)]) un_128 sz_2 ze_128 rfl rfl) ?_
      refine RW_fx rfl rfl rfl (Fx_lit (vs := [.agg [nv (S.of_ k1), nv (sz - j)].toArray]) (css := [[nv (S.of_ k1), nv (sz - j)]]) (cs := [nv (S.of_ k1), nv (sz - j)]) sl_125 ze_128 rfl rfl rfl rfl rfl (by intro c hc; rw [List.mem_singleton.1 hc]; rfl) rfl) ?_
      rintro _ _ ⟨b202, rfl, rfl⟩
      refine RW_fx rfl rfl rfl (Fx_appR (g := g) (xs := prs ls) (r := rr) (news := [nv (S.of_ k1), nv (sz - j)]) (T := 128) (n := ls.length) (cap := l) (m := 1) (c := 1) rfl rfl sl_125 (.here _ _) (.here _ _) hlen (length_prs _) rfl (by intro u hu; simp only [List.mem_cons, List.not_mem_nil, or_false] at hu; rcases hu with rfl | rfl <;> rfl) om_) ?_
      rintro _ _ ⟨r1, rfl, hl1, rfl⟩
      rw [prs_snoc] at hl1
      rw [prs_snoc]
      have hrun2 : Run S.ad (k * S.u + r) (ls ++ [(S.of_ k1, sz - j)]) (k * S.u + r + (j + (sz - j))) := by
       have := h.piece (k := k1) (r := 0) (l := sz - j) hrun om_ om_ om_
       rw [Nat.add_zero, Nat.add_assoc] at this
       exact this
      have hsm2 : Small (ls ++ [(S.of_ k1, sz - j)]) := hsm.snoc om_ om_
      refine RW_a ?_
      refine RW_lv (ks := [0, 1, 9, 11]) ?_
      refine CW_sr ?_
      refine RW_m ?_
      refine RW_m ?_
      refine RW_m ?_
      refine RW_l (Yl_sub (c := ((sz - j : Nat) : Int)) rfl rfl (by rw [wi64 om_ om_]; omega)) ?_
      refine RW_l (Yl_nilCheck rfl) ?_
      refine RW_l (Yl_field rfl fo_93_6) ?_
      refine RW_fx0 rfl rfl (Fx_store (v := nv (sz - j)) rfl rfl sz_2 rfl rep_ (by simp [fiF])) ?_
      rintro _ _ rfl
      refine RW_lv (ks := [9]) ?_
      refine CW_seq ?_
      have hjs : k * S.u + r + (j + (sz - j)) = k * S.u + r + sz := by omega
      rw [hjs] at hrun2
      refine CW_region ?_
      refine RW_m ?_
      refine RW_fx rfl rfl rfl (Fx_call ok_63 (vs := [.slice (some ⟨g, 0, none⟩) (ls.length + 1) l]) rfl (Pick.cons (.here _ _) (Pick.nil _)) (compress_ct (k * S.u + r) (k * S.u + r + sz) g (ls.length + 1) l (ls ++ [(S.of_ k1, sz - j)]) r1 (by simp) hrun2 hsm2 hl1 om_ om_)) ?_
      rintro _ _ ⟨_, ⟨l2, r2, hrun3, hsm3, hlen3, rfl, rfl⟩, rfl⟩
      refine RW_a ?_
      refine RW_a ?_
      refine RW_lv (ks := [4, 5]) ?_
      refine CW_ret ?_
      refine QW_ret_then ?_
      refine QW_ret_block ?_
      refine QW_ret_then ?_
      refine QW_ret_block ?_
      first
       | exact QW_ret2 rfl rfl rfl ((g, blk (prs l2 ++ r2) 128) :: S.fb (pos) (k1 + 1) (0) :: S.rb :: S.G) ⟨k1 + 1, 0, g, l2, r2, l, by omega, by omega, hrun3, hsm3, hlen3, by omega, rfl, rfl⟩ (Prm.nil _)
       | exact QW_ret2 rfl rfl rfl ((g, blk (prs l2 ++ r2) 128) :: S.fb (pos) (k1) (sz - j) :: S.rb :: S.G) ⟨k1, sz - j, g, l2, r2, l, by omega, by omega, hrun3, hsm3, hlen3, by omega, rfl, rfl⟩ (Prm.nil _)
       | exact QW_ret2 rfl rfl rfl ((g, blk (prs [(S.of_ k + r, ln)] ++ rr) 128) :: S.fb (pos) (k1) (r1) :: S.rb :: S.G) ⟨k1, r1, g, [(S.of_ k + r, ln)], rr, l, by omega, by omega, hrun9, hsm1, hlen1, by omega, rfl, rfl⟩ (Prm.nil _)
     ·replace hc11 := of_decide_eq_false hc11
      refine CW_sr ?_
      refine RW_m ?_
      refine RW_m ?_
      refine RW_m ?_
      refine RW_l (Yl_buildA (cs := [nv (S.of_ k1), nv (S.u)]) un_128 sz_2 ze_128 rfl rfl) ?_
      refine RW_fx rfl rfl rfl (Fx_lit (vs := [.agg [nv (S.of_ k1), nv (S.u)].toArray]) (css := [[nv (S.of_ k1), nv (S.u)]]) (cs := [nv (S.of_ k1), nv (S.u)]) sl_125 ze_128 rfl rfl rfl rfl rfl (by intro c hc; rw [List.mem_singleton.1 hc]; rfl) rfl) ?_
      rintro _ _ ⟨b216, rfl, rfl⟩
      refine RW_fx rfl rfl rfl (Fx_appR (g := g) (xs := prs ls) (r := rr) (news := [nv (S.of_ k1), nv (S.u)]) (T := 128) (n := ls.length) (cap := l) (m := 1) (c := 1) rfl rfl sl_125 (.here _ _) (.here _ _) hlen (length_prs _) rfl (by intro u hu; simp only [List.mem_cons, List.not_mem_nil, or_false] at hu; rcases hu with rfl | rfl <;> rfl) om_) ?_
      rintro _ _ ⟨r1, rfl, hl1, rfl⟩
      rw [prs_snoc] at hl1
      rw [prs_snoc]
      have hrun2 : Run S.ad (k * S.u + r) (ls ++ [(S.of_ k1, S.u)]) (k * S.u + r + (j + (S.u))) := by
       have := h.piece (k := k1) (r := 0) (l := S.u) hrun om_ om_ om_
       rw [Nat.add_zero, Nat.add_assoc] at this
       exact this
      have hsm2 : Small (ls ++ [(S.of_ k1, S.u)]) := hsm.snoc om_ om_
      refine RW_a ?_
      refine RW_lv (ks := [0, 1, 6, 8, 9, 10, 11]) ?_
      refine CW_sr ?_
      refine RW_m ?_
      refine RW_m ?_
      refine RW_l (Yl_add (c := ((j + S.u : Nat) : Int)) rfl rfl (wi64 om_ om_)) ?_
      refine RW_a ?_
      refine RW_lv (ks := [0, 1, 6, 8, 9, 10, 11]) ?_
      refine CW_seq ?_
      refine CW_draw [16] _ mixed (Sub.refl _) ?_
      refine RD_l 0 rfl (Yl_move rfl) ?_
      refine RD_l 1 rfl (Yl_move rfl) ?_
      refine RD_l 2 rfl (Yl_nilCheck rfl) ?_
      refine RD_l 3 rfl (Yl_field rfl fo_93_8) ?_
      refine RD_l 5 rfl (Yl_move rfl) ?_
      refine RD_l 6 rfl (Yl_nilCheck rfl) ?_
      refine RD_l 7 rfl (Yl_field rfl fo_93_5) ?_
      refine RD_l 9 rfl (Yl_move rfl) ?_
      refine RD_h (i := 4) #[true, true, true, true, false, true, true, true, true, true, false, false, false, false, false, false, false, false] rfl rfl rfl rfl kr_ (fun _ _ _ h => h) (Yh_ld (v := pv S.br) sc_78) ?_
      refine RD_h (i := 8) #[true, true, true, true, true, true, true, true, false, true, false, false, false, false, false, false, false, false] rfl rfl rfl rfl kr_ (fun _ _ _ h => h) (Yh_ld (v := uv (snx S.cs (k1))) sc_67) ?_
      refine RD_one (i := 10) kr_ ?_
      refine RO_fx rfl rfl rfl rfl (Fx_callQ ok_60 (vs := [pv S.br, uv (snx S.cs (k1)), .bool S.mini]) (R := fun v => v = .tuple #[uv (snx S.cs (k1 + 1)), .nilIface]) rfl (Pick.cons (.there _ (.there _ (.here _ _))) (pick_mid _ [_, _] _)) (h.nx (k1) om_)) ?_
      rintro _ _ ⟨rfl, rfl⟩
      refine ⟨Or.inr (Sub.refl _), ?_⟩
      refine RD_l 11 rfl (Yl_move rfl) ?_
      refine RD_l 12 rfl (Yl_extract (v := uv (snx S.cs (k1 + 1))) rfl rfl) ?_
      refine RD_l 13 rfl (Yl_extract (v := .nilIface) rfl rfl) ?_
      refine RD_l 14 rfl (Yl_nilCheck rfl) ?_
      refine RD_l 15 rfl (Yl_field rfl fo_93_5) ?_
      refine RD_one (i := 16) kr_ ?_
      refine RO_fx0 rfl rfl rfl (Fx_store (v := uv (snx S.cs (k1 + 1))) rfl rfl sz_67 rfl rep_ (by simp [fiF])) ?_
      rintro _ _ rfl
      refine ⟨Or.inl kr_, ?_⟩
      refine RD_l 17 rfl (Yl_assign rfl) ?_
      refine (RD_done kr_ (QW_lv (ks := [0, 1, 6, 8, 9, 10, 11, 15]) ?_))
      refine CW_seq ?_
      refine CW_sr ?_
      refine RW_m ?_
      refine RW_l (Yl_ifNeNil rfl if_105) ?_
      refine RW_lv (ks := [0, 1, 6, 8, 9, 10, 11, 15, 238]) ?_
      refine CW_cond rfl (fun hc12 => ?_) (fun hc12 => ?_)
      ·skip
       exact absurd hc12 (by decide)
      ·skip
       refine (CW_skip (QW_lv (ks := [0, 1, 6, 8, 9, 10, 11]) ?_))
       refine CW_sr ?_
       refine RW_m ?_
       refine RW_m ?_
       refine RW_l (Yl_eql rfl rfl) ?_
       refine RW_lv (ks := [0, 1, 6, 8, 9, 10, 11, 242]) ?_
       refine CW_cond rfl (fun hc13 => ?_) (fun hc13 => ?_)
       ·replace hc13 := of_decide_eq_true hc13
        refine CW_seq ?_
        have hjs : k * S.u + r + (j + S.u) = k * S.u + r + sz := by omega
        rw [hjs] at hrun2
        refine CW_region ?_
        refine RW_m ?_
        refine RW_fx rfl rfl rfl (Fx_call ok_63 (vs := [.slice (some ⟨g, 0, none⟩) (ls.length + 1) l]) rfl (Pick.cons (.here _ _) (Pick.nil _)) (compress_ct (k * S.u + r) (k * S.u + r + sz) g (ls.length + 1) l (ls ++ [(S.of_ k1, S.u)]) r1 (by simp) hrun2 hsm2 hl1 om_ om_)) ?_
        rintro _ _ ⟨_, ⟨l2, r2, hrun3, hsm3, hlen3, rfl, rfl⟩, rfl⟩
        refine RW_a ?_
        refine RW_a ?_
        refine RW_lv (ks := [4, 5]) ?_
        refine CW_ret ?_
        refine QW_ret_then ?_
        refine QW_ret_block ?_
        refine QW_ret_then ?_
        refine QW_ret_block ?_
        first
         | exact QW_ret2 rfl rfl rfl ((g, blk (prs l2 ++ r2) 128) :: S.fb (pos) (k1 + 1) (0) :: S.rb :: S.G) ⟨k1 + 1, 0, g, l2, r2, l, by omega, by omega, hrun3, hsm3, hlen3, by omega, rfl, rfl⟩ (Prm.nil _)
         | exact QW_ret2 rfl rfl rfl ((g, blk (prs l2 ++ r2) 128) :: S.fb (pos) (k1) (sz - j) :: S.rb :: S.G) ⟨k1, sz - j, g, l2, r2, l, by omega, by omega, hrun3, hsm3, hlen3, by omega, rfl, rfl⟩ (Prm.nil _)
         | exact QW_ret2 rfl rfl rfl ((g, blk (prs [(S.of_ k + r, ln)] ++ rr) 128) :: S.fb (pos) (k1) (r1) :: S.rb :: S.G) ⟨k1, r1, g, [(S.of_ k + r, ln)], rr, l, by omega, by omega, hrun9, hsm1, hlen1, by omega, rfl, rfl⟩ (Prm.nil _)
       ·replace hc13 := of_decide_eq_false hc13
        refine (CW_skip (QW_lv (ks := [0, 1, 6, 8, 9, 10, 11]) ?_))
        refine CW_region ?_
        refine RW_m ?_
        refine RW_l (Yl_add (c := ((ls.length + 1 : Nat) : Int)) rfl rfl (wi64 om_ om_)) ?_
        refine RW_a ?_
        refine RW_nil ?_
        refine QW_normal_block ?_
        exact QW_round (j + S.u, k1 + 1, ls.length + 1, ls ++ [(S.of_ k1, S.u)], r1) ⟨by simp only; omega, by simp only; omega, hrun2, hsm2, hl1, by simp, by simp only; omega⟩ (by simp only; omega) prm_ (.cons rfl (.cons rfl (.cons rfl (.cons rfl (.cons (by simp only [List.length_append, List.length_singleton]; rfl) (.cons rfl (.cons rfl .nil)))))))

/-! Walks: Seek. -/
theorem Seek_ct (S : Src) (h : S.Ok) (p k r to wh : Nat) (off : Int) (dc : List Value) (hbd : (S.bd, blk dc 112) ∈ S.G) (hdc : dc[60]? = some (uv (snx S.cs 0))) (hr : r < S.u) (hp : k * S.u + r = p) (hp2 : p ≤ S.size) (hto : to < S.size) (hw : (wh = 0 ∧ off = (to : Int)) ∨ (wh = 1 ∧ (p : Int) + off = (to : Int))) :
  Ct Tryd.prog 42 [pv S.bf, .int .i64 off, nv wh] (S.fb (p) (k) (r) :: S.rb :: S.G) (fun v q => v = .tuple #[nv to, .nilIface] ∧ ∃ k' r', r' < S.u ∧ k' * S.u + r' = to ∧ q = S.fb to k' r' :: S.rb :: S.G) := by
 have hu1 := h.u1
 have hs2 := h.ss2
 have hsz1 := h.sz
 have hku : (k + 1) * S.u = k * S.u + S.u := Nat.succ_mul _ _
 refine Ct_of Tryd.func42 rfl Tryd.ntmps42 rfl ?_
 intro E F
 simp only [numL, List.nil_append, List.cons_append]
 refine CW_sr ?_
 refine RW_a ?_
 refine RW_a ?_
 refine RW_lv (ks := [0, 1, 2]) ?_
 refine CW_sr ?_
 refine RW_a ?_
 refine RW_lv (ks := [0, 1, 2]) ?_
 refine CW_seq ?_
 refine CW_sr ?_
 refine RW_m ?_
 refine RW_lv (ks := [0, 1, 2, 10]) ?_
 refine CW_block ?_
 refine CW_sr ?_
 refine RW_l (Yl_eql rfl rfl) ?_
 refine RW_a ?_
 refine RW_lv (ks := [0, 1, 2, 10, 14]) ?_
 refine CW_cond rfl (fun hc1 => ?_) (fun hc1 => ?_)
 ·replace hc1 := of_decide_eq_true hc1
  obtain rfl : off = ((to : Nat) : Int) := by omega
  refine CW_region ?_
  refine RW_m ?_
  refine RW_a ?_
  refine RW_nil ?_
  refine QW_normal_block ?_
  refine (QW_lv (ks := [0, 8]) ?_)
  refine CW_seq ?_
  refine CW_block ?_
  refine CW_sr ?_
  refine RW_m ?_
  refine RW_l (Yl_lss rfl rfl) ?_
  refine RW_a ?_
  refine RW_lv (ks := [0, 8, 33]) ?_
  refine CW_cond rfl (fun hc2 => ?_) (fun hc2 => ?_)
  ·replace hc2 := of_decide_eq_true hc2
   exfalso; omega
  ·replace hc2 := of_decide_eq_false hc2
   refine CW_sr ?_
   refine RW_m ?_
   refine RW_m ?_
   refine RW_l (Yl_nilCheck rfl) ?_
   refine RW_l (Yl_field rfl fo_93_3) ?_
   refine RW_h (Yh_ld (v := nv S.size) sc_2) ?_
   refine RW_l (Yl_geq rfl rfl) ?_
   refine RW_a ?_
   refine RW_lv (ks := [0, 8, 43]) ?_
   refine CW_cond rfl (fun hc3 => ?_) (fun hc3 => ?_)
   ·replace hc3 := of_decide_eq_true hc3
    exfalso; omega
   ·replace hc3 := of_decide_eq_false hc3
    refine CW_sr ?_
    refine RW_m ?_
    refine RW_m ?_
    refine RW_l (Yl_nilCheck rfl) ?_
    refine RW_l (Yl_field rfl fo_93_4) ?_
    refine RW_h (Yh_ld (v := nv (p)) sc_2) ?_
    refine RW_l (Yl_eql rfl rfl) ?_
    refine RW_a ?_
    refine RW_lv (ks := [0, 8, 57]) ?_
    refine CW_cond rfl (fun hc4 => ?_) (fun hc4 => ?_)
    ·replace hc4 := of_decide_eq_true hc4
     have hpt : to = p := by omega
     subst hpt
     refine CW_sr ?_
     refine RW_m ?_
     refine RW_a ?_
     refine RW_a ?_
     refine RW_lv (ks := [6, 7]) ?_
     refine CW_ret ?_
     refine QW_ret_block ?_
     refine QW_ret_then ?_
     first
      | exact QW_ret2 rfl rfl rfl (S.fb (to) (k') (r') :: S.rb :: S.G) ⟨rfl, k', r', by omega, by omega, rfl⟩ (Prm.nil _)
      | exact QW_ret2 rfl rfl rfl (S.fb (to) (k) (r) :: S.rb :: S.G) ⟨rfl, k, r, by omega, by omega, rfl⟩ (Prm.nil _)
      | exact QW_ret2 rfl rfl rfl (S.fb (to) (k) (r - (p - to)) :: S.rb :: S.G) ⟨rfl, k, r - (p - to), by omega, by omega, rfl⟩ (Prm.nil _)
    ·replace hc4 := of_decide_eq_false hc4
     refine CW_sr ?_
     refine RW_m ?_
     refine RW_m ?_
     refine RW_l (Yl_nilCheck rfl) ?_
     refine RW_l (Yl_field rfl fo_93_4) ?_
     refine RW_h (Yh_ld (v := nv (p)) sc_2) ?_
     refine RW_l (Yl_gtr rfl rfl) ?_
     refine RW_a ?_
     refine RW_lv (ks := [0, 8, 65]) ?_
     refine CW_cond rfl (fun hc5 => ?_) (fun hc5 => ?_)
     ·replace hc5 := of_decide_eq_true hc5
      refine CW_sr ?_
      refine RW_m ?_
      refine RW_l (Yl_nilCheck rfl) ?_
      refine RW_l (Yl_field rfl fo_93_4) ?_
      refine RW_h (Yh_ld (v := nv (p)) sc_2) ?_
      refine RW_a ?_
      refine RW_lv (ks := [0, 8, 9]) ?_
      refine CW_sr ?_
      refine RW_m ?_
      refine RW_m ?_
      refine RW_l (Yl_nilCheck rfl) ?_
      refine RW_l (Yl_field rfl fo_93_4) ?_
      refine RW_fx0 rfl rfl (Fx_store (v := nv to) rfl rfl sz_2 rfl rep_ (by simp [fiF])) ?_
      rintro _ _ rfl
      refine RW_lv (ks := [0, 8, 9]) ?_
      refine CW_seq ?_
      refine CW_draw [8] _ mixed (Sub.refl _) ?_
      refine RD_l 0 rfl (Yl_move rfl) ?_
      refine RD_l 1 rfl (Yl_nilCheck rfl) ?_
      refine RD_l 2 rfl (Yl_field rfl fo_93_4) ?_
      refine RD_l 4 rfl (Yl_move rfl) ?_
      refine RD_l 5 rfl (Yl_move rfl) ?_
      refine RD_l 6 rfl (Yl_move rfl) ?_
      refine RD_l 7 rfl (Yl_sub (c := ((to - p : Nat) : Int)) rfl rfl (by rw [wi64 om_ om_]; omega)) ?_
      refine RD_two (i := 3) (j := 8) kr_ ?_ ?_
      ·skip
       refine RO_fx rfl rfl rfl rfl (Yh.fx (Yh_ld (v := nv (to)) sc_2)) ?_
       rintro _ _ ⟨rfl, rfl⟩
       refine ⟨Or.inr (Sub.refl _), ?_⟩
       refine RD_one (i := 8) kr_ ?_
       refine RO_fx rfl rfl rfl rfl (Fx_call ok_53 (vs := [pv S.bf, nv (to - p)]) rfl (Pick.cons (.here _ _) (Pick.cons (.here _ _) (pick_app S.G F))) (seek_ct S h to k r (to - p) hr om_)) ?_
       rintro _ _ ⟨_, ⟨rfl, k', r', hr', hk', rfl⟩, rfl⟩
       simp only [List.cons_append]
       refine ⟨Or.inl kr_, ?_⟩
       refine RD_l 9 rfl (Yl_assign rfl) ?_
       refine RD_l 10 rfl (Yl_assign rfl) ?_
       refine (RD_done kr_ (QW_lv (ks := [6, 7]) ?_))
       refine CW_ret ?_
       refine QW_ret_block ?_
       refine QW_ret_then ?_
       first
        | exact QW_ret2 rfl rfl rfl (S.fb (to) (k') (r') :: S.rb :: S.G) ⟨rfl, k', r', by omega, by omega, rfl⟩ (Prm.nil _)
        | exact QW_ret2 rfl rfl rfl (S.fb (to) (k) (r) :: S.rb :: S.G) ⟨rfl, k, r, by omega, by omega, rfl⟩ (Prm.nil _)
        | exact QW_ret2 rfl rfl rfl (S.fb (to) (k) (r - (p - to)) :: S.rb :: S.G) ⟨rfl, k, r - (p - to), by omega, by omega, rfl⟩ (Prm.nil _)
      ·skip
       refine RO_fx rfl rfl rfl rfl (Fx_call ok_53 (vs := [pv S.bf, nv (to - p)]) rfl (Pick.cons (.here _ _) (Pick.cons (.here _ _) (pick_app S.G F))) (seek_ct S h to k r (to - p) hr om_)) ?_
       rintro _ _ ⟨_, ⟨rfl, k', r', hr', hk', rfl⟩, rfl⟩
       simp only [List.cons_append]
       refine ⟨Or.inl kr_, ?_⟩
       refine RD_one (i := 3) kr_ ?_
       refine RO_fx rfl rfl rfl rfl (Yh.fx (Yh_ld (v := nv (to)) sc_2)) ?_
       rintro _ _ ⟨rfl, rfl⟩
       refine ⟨Or.inl kr_, ?_⟩
       refine RD_l 9 rfl (Yl_assign rfl) ?_
       refine RD_l 10 rfl (Yl_assign rfl) ?_
       refine (RD_done kr_ (QW_lv (ks := [6, 7]) ?_))
       refine CW_ret ?_
       refine QW_ret_block ?_
       refine QW_ret_then ?_
       first
        | exact QW_ret2 rfl rfl rfl (S.fb (to) (k') (r') :: S.rb :: S.G) ⟨rfl, k', r', by omega, by omega, rfl⟩ (Prm.nil _)
        | exact QW_ret2 rfl rfl rfl (S.fb (to) (k) (r) :: S.rb :: S.G) ⟨rfl, k, r, by omega, by omega, rfl⟩ (Prm.nil _)
        | exact QW_ret2 rfl rfl rfl (S.fb (to) (k) (r - (p - to)) :: S.rb :: S.G) ⟨rfl, k, r - (p - to), by omega, by omega, rfl⟩ (Prm.nil _)
     ·replace hc5 := of_decide_eq_false hc5
      refine CW_skip ?_
      refine QW_normal_block ?_
      refine (QW_lv (ks := [0, 8]) ?_)
      refine CW_seq ?_
      refine CW_seq ?_
      refine CW_draw [] _ mixed (Sub.refl _) ?_
      refine RD_l 0 rfl (Yl_move rfl) ?_
      refine RD_l 1 rfl (Yl_nilCheck rfl) ?_
      refine RD_l 2 rfl (Yl_field rfl fo_93_6) ?_
      refine RD_l 4 rfl (Yl_move rfl) ?_
      refine RD_l 5 rfl (Yl_nilCheck rfl) ?_
      refine RD_l 6 rfl (Yl_field rfl fo_93_4) ?_
      refine RD_l 8 rfl (Yl_move rfl) ?_
      refine RD_h (i := 3) #[true, true, true, false, true, true, true, true, true, true, false] rfl rfl rfl rfl kr_ (fun _ _ _ h => h) (Yh_ld (v := nv (r)) sc_2) ?_
      refine RD_h (i := 7) #[true, true, true, true, true, true, true, false, true, false, false] rfl rfl rfl rfl kr_ (fun _ _ _ h => h) (Yh_ld (v := nv (p)) sc_2) ?_
      refine RD_l 9 rfl (Yl_sub (c := ((p - to : Nat) : Int)) rfl rfl (by rw [wi64 om_ om_]; omega)) ?_
      refine RD_l 10 rfl (Yl_geq rfl rfl) ?_
      refine (RD_done kr_ (QW_lv (ks := [0, 8, 99]) ?_))
      refine CW_cond rfl (fun hc6 => ?_) (fun hc6 => ?_)
      ·replace hc6 := of_decide_eq_true hc6
       refine CW_seq ?_
       refine CW_draw [14] _ mixed (Sub.refl _) ?_
       refine RD_l 0 rfl (Yl_move rfl) ?_
       refine RD_l 1 rfl (Yl_move rfl) ?_
       refine RD_l 2 rfl (Yl_nilCheck rfl) ?_
       refine RD_l 3 rfl (Yl_field rfl fo_93_6) ?_
       refine RD_l 5 rfl (Yl_move rfl) ?_
       refine RD_l 6 rfl (Yl_nilCheck rfl) ?_
       refine RD_l 7 rfl (Yl_field rfl fo_93_4) ?_
       refine RD_l 9 rfl (Yl_move rfl) ?_
       refine RD_h (i := 4) #[true, true, true, true, false, true, true, true, true, true, true, false, false, false, false] rfl rfl rfl rfl kr_ (fun _ _ _ h => h) (Yh_ld (v := nv (r)) sc_2) ?_
       refine RD_h (i := 8) #[true, true, true, true, true, true, true, true, false, true, false, false, false, false, false] rfl rfl rfl rfl kr_ (fun _ _ _ h => h) (Yh_ld (v := nv (p)) sc_2) ?_
       refine RD_l 10 rfl (Yl_sub (c := ((p - to : Nat) : Int)) rfl rfl (by rw [wi64 om_ om_]; omega)) ?_
       refine RD_l 11 rfl (Yl_sub (c := ((r - (p - to) : Nat) : Int)) rfl rfl (by rw [wi64 om_ om_]; omega)) ?_
       refine RD_l 12 rfl (Yl_nilCheck rfl) ?_
       refine RD_l 13 rfl (Yl_field rfl fo_93_6) ?_
       refine RD_one (i := 14) kr_ ?_
       refine RO_fx0 rfl rfl rfl (Fx_store (v := nv (r - (p - to))) rfl rfl sz_2 rfl rep_ (by simp [fiF])) ?_
       rintro _ _ rfl
       refine ⟨Or.inl kr_, ?_⟩
       refine (RD_done kr_ (QW_lv (ks := [0, 8]) ?_))
       refine CW_sr ?_
       refine RW_m ?_
       refine RW_m ?_
       refine RW_l (Yl_nilCheck rfl) ?_
       refine RW_l (Yl_field rfl fo_93_4) ?_
       refine RW_fx0 rfl rfl (Fx_store (v := nv to) rfl rfl sz_2 rfl rep_ (by simp [fiF])) ?_
       rintro _ _ rfl
       refine RW_lv (ks := [0]) ?_
       refine CW_sr ?_
       refine RW_m ?_
       refine RW_l (Yl_nilCheck rfl) ?_
       refine RW_l (Yl_field rfl fo_93_4) ?_
       refine RW_h (Yh_ld (v := nv (to)) sc_2) ?_
       refine RW_a ?_
       refine RW_a ?_
       refine RW_lv (ks := [6, 7]) ?_
       refine CW_ret ?_
       refine QW_ret_then ?_
       first
        | exact QW_ret2 rfl rfl rfl (S.fb (to) (k') (r') :: S.rb :: S.G) ⟨rfl, k', r', by omega, by omega, rfl⟩ (Prm.nil _)
        | exact QW_ret2 rfl rfl rfl (S.fb (to) (k) (r) :: S.rb :: S.G) ⟨rfl, k, r, by omega, by omega, rfl⟩ (Prm.nil _)
        | exact QW_ret2 rfl rfl rfl (S.fb (to) (k) (r - (p - to)) :: S.rb :: S.G) ⟨rfl, k, r - (p - to), by omega, by omega, rfl⟩ (Prm.nil _)
      ·replace hc6 := of_decide_eq_false hc6
       refine (CW_skip (QW_lv (ks := [0, 8]) ?_))
       refine CW_sr ?_
       refine RW_m ?_
       refine RW_l (Yl_nilCheck rfl) ?_
       refine RW_l (Yl_field rfl fo_93_6) ?_
       refine RW_fx0 rfl rfl (Fx_store (v := nv 0) rfl rfl sz_2 rfl rep_ (by simp [fiF])) ?_
       rintro _ _ rfl
       refine RW_lv (ks := [0, 8]) ?_
       refine CW_sr ?_
       refine RW_m ?_
       refine RW_m ?_
       refine RW_l (Yl_nilCheck rfl) ?_
       refine RW_l (Yl_field rfl fo_93_7) ?_
       refine RW_h (Yh_ld (v := pv S.bd) sc_91) ?_
       refine RW_l (Yl_nilCheck rfl) ?_
       refine RW_l (Yl_field rfl fo_112_11) ?_
       refine RW_h (Yh_load (v := uv (snx S.cs 0)) rfl sc_67 (List.mem_cons_of_mem _ (List.mem_cons_of_mem _ (List.mem_append_left _ hbd))) hdc) ?_
       refine RW_l (Yl_nilCheck rfl) ?_
       refine RW_l (Yl_field rfl fo_93_5) ?_
       refine RW_fx0 rfl rfl (Fx_store (v := uv (snx S.cs 0)) rfl rfl sz_67 rfl rep_ (by simp [fiF])) ?_
       rintro _ _ rfl
       refine RW_lv (ks := [0, 8]) ?_
       refine CW_sr ?_
       refine RW_m ?_
       refine RW_m ?_
       refine RW_l (Yl_nilCheck rfl) ?_
       refine RW_l (Yl_field rfl fo_93_4) ?_
       refine RW_fx0 rfl rfl (Fx_store (v := nv to) rfl rfl sz_2 rfl rep_ (by simp [fiF])) ?_
       rintro _ _ rfl
       refine RW_lv (ks := [0, 8]) ?_
       refine CW_seq ?_
       refine CW_draw [6] _ mixed (Sub.refl _) ?_
       refine RD_l 0 rfl (Yl_move rfl) ?_
       refine RD_l 1 rfl (Yl_nilCheck rfl) ?_
       refine RD_l 2 rfl (Yl_field rfl fo_93_4) ?_
       refine RD_l 4 rfl (Yl_move rfl) ?_
       refine RD_l 5 rfl (Yl_move rfl) ?_
       refine RD_two (i := 3) (j := 6) kr_ ?_ ?_
       ·skip
        refine RO_fx rfl rfl rfl rfl (Yh.fx (Yh_ld (v := nv (to)) sc_2)) ?_
        rintro _ _ ⟨rfl, rfl⟩
        refine ⟨Or.inr (Sub.refl _), ?_⟩
        refine RD_one (i := 6) kr_ ?_
        refine RO_fx rfl rfl rfl rfl (Fx_call ok_53 (vs := [pv S.bf, nv (to)]) rfl (Pick.cons (.here _ _) (Pick.cons (.here _ _) (pick_app S.G F))) (seek_ct S h to 0 0 (to) om_ om_)) ?_
        rintro _ _ ⟨_, ⟨rfl, k', r', hr', hk', rfl⟩, rfl⟩
        simp only [List.cons_append]
        refine ⟨Or.inl kr_, ?_⟩
        refine RD_l 7 rfl (Yl_assign rfl) ?_
        refine RD_l 8 rfl (Yl_assign rfl) ?_
        refine (RD_done kr_ (QW_lv (ks := [6, 7]) ?_))
        refine CW_ret ?_
        first
         | exact QW_ret2 rfl rfl rfl (S.fb (to) (k') (r') :: S.rb :: S.G) ⟨rfl, k', r', by omega, by omega, rfl⟩ (Prm.nil _)
         | exact QW_ret2 rfl rfl rfl (S.fb (to) (k) (r) :: S.rb :: S.G) ⟨rfl, k, r, by omega, by omega, rfl⟩ (Prm.nil _)
         | exact QW_ret2 rfl rfl rfl (S.fb (to) (k) (r - (p - to)) :: S.rb :: S.G) ⟨rfl, k, r - (p - to), by omega, by omega, rfl⟩ (Prm.nil _)
       ·skip
        refine RO_fx rfl rfl rfl rfl (Fx_call ok_53 (vs := [pv S.bf, nv (to)]) rfl (Pick.cons (.here _ _) (Pick.cons (.here _ _) (pick_app S.G F))) (seek_ct S h to 0 0 (to) om_ om_)) ?_
        rintro _ _ ⟨_, ⟨rfl, k', r', hr', hk', rfl⟩, rfl⟩
        simp only [List.cons_append]
        refine ⟨Or.inl kr_, ?_⟩
        refine RD_one (i := 3) kr_ ?_
        refine RO_fx rfl rfl rfl rfl (Yh.fx (Yh_ld (v := nv (to)) sc_2)) ?_
        rintro _ _ ⟨rfl, rfl⟩
        refine ⟨Or.inl kr_, ?_⟩
        refine RD_l 7 rfl (Yl_assign rfl) ?_
        refine RD_l 8 rfl (Yl_assign rfl) ?_
        refine (RD_done kr_ (QW_lv (ks := [6, 7]) ?_))
        refine CW_ret ?_
        first
         | exact QW_ret2 rfl rfl rfl (S.fb (to) (k') (r') :: S.rb :: S.G) ⟨rfl, k', r', by omega, by omega, rfl⟩ (Prm.nil _)
         | exact QW_ret2 rfl rfl rfl (S.fb (to) (k) (r) :: S.rb :: S.G) ⟨rfl, k, r, by omega, by omega, rfl⟩ (Prm.nil _)
         | exact QW_ret2 rfl rfl rfl (S.fb (to) (k) (r - (p - to)) :: S.rb :: S.G) ⟨rfl, k, r - (p - to), by omega, by omega, rfl⟩ (Prm.nil _)
 ·replace hc1 := of_decide_eq_false hc1
  refine CW_sr ?_
  refine RW_l (Yl_eql rfl rfl) ?_
  refine RW_a ?_
  refine RW_lv (ks := [0, 1, 2, 10, 17]) ?_
  refine CW_cond rfl (fun hc7 => ?_) (fun hc7 => ?_)
  ·replace hc7 := of_decide_eq_true hc7
   refine CW_region ?_
   refine RW_m ?_
   refine RW_l (Yl_nilCheck rfl) ?_
   refine RW_l (Yl_field rfl fo_93_4) ?_
   refine RW_h (Yh_ld (v := nv (p)) sc_2) ?_
   refine RW_m ?_
   refine RW_l (Yl_add (c := ((to : Nat) : Int)) rfl rfl (by rw [wi64 om_ om_]; omega)) ?_
   refine RW_a ?_
   refine RW_nil ?_
   refine QW_normal_block ?_
   refine (QW_lv (ks := [0, 8]) ?_)
   refine CW_seq ?_
   refine CW_block ?_
   refine CW_sr ?_
   refine RW_m ?_
   refine RW_l (Yl_lss rfl rfl) ?_
   refine RW_a ?_
   refine RW_lv (ks := [0, 8, 33]) ?_
   refine CW_cond rfl (fun hc8 => ?_) (fun hc8 => ?_)
   ·replace hc8 := of_decide_eq_true hc8
    exfalso; omega
   ·replace hc8 := of_decide_eq_false hc8
    refine CW_sr ?_
    refine RW_m ?_
    refine RW_m ?_
    refine RW_l (Yl_nilCheck rfl) ?_
    refine RW_l (Yl_field rfl fo_93_3) ?_
    refine RW_h (Yh_ld (v := nv S.size) sc_2) ?_
    refine RW_l (Yl_geq rfl rfl) ?_
    refine RW_a ?_
    refine RW_lv (ks := [0, 8, 43]) ?_
    refine CW_cond rfl (fun hc9 => ?_) (fun hc9 => ?_)
    ·replace hc9 := of_decide_eq_true hc9
     exfalso; omega
    ·replace hc9 := of_decide_eq_false hc9
     refine CW_sr ?_
     refine RW_m ?_
     refine RW_m ?_
     refine RW_l (Yl_nilCheck rfl) ?_
     refine RW_l (Yl_field rfl fo_93_4) ?_
     refine RW_h (Yh_ld (v := nv (p)) sc_2) ?_
     refine RW_l (Yl_eql rfl rfl) ?_
     refine RW_a ?_
     refine RW_lv (ks := [0, 8, 57]) ?_
     refine CW_cond rfl (fun hc10 => ?_) (fun hc10 => ?_)
     ·replace hc10 := of_decide_eq_true hc10
      have hpt : to = p := by omega
      subst hpt
      refine CW_sr ?_
      refine RW_m ?_
      refine RW_a ?_
      refine RW_a ?_
      refine RW_lv (ks := [6, 7]) ?_
      refine CW_ret ?_
      refine QW_ret_block ?_
      refine QW_ret_then ?_
      first
       | exact QW_ret2 rfl rfl rfl (S.fb (to) (k') (r') :: S.rb :: S.G) ⟨rfl, k', r', by omega, by omega, rfl⟩ (Prm.nil _)
       | exact QW_ret2 rfl rfl rfl (S.fb (to) (k) (r) :: S.rb :: S.G) ⟨rfl, k, r, by omega, by omega, rfl⟩ (Prm.nil _)
       | exact QW_ret2 rfl rfl rfl (S.fb (to) (k) (r - (p - to)) :: S.rb :: S.G) ⟨rfl, k, r - (p - to), by omega, by omega, rfl⟩ (Prm.nil _)
     ·replace hc10 := of_decide_eq_false hc10
      refine CW_sr ?_
      refine RW_m ?_
      refine RW_m ?_
      refine RW_l (Yl_nilCheck rfl) ?_
      refine RW_l (Yl_field rfl fo_93_4) ?_
      refine RW_h (Yh_ld (v := nv (p)) sc_2) ?_
      refine RW_l (Yl_gtr rfl rfl) ?_
      refine RW_a ?_
      refine RW_lv (ks := [0, 8, 65]) ?_
      refine CW_cond rfl (fun hc11 => ?_) (fun hc11 => ?_)
      ·replace hc11 := of_decide_eq_true hc11
       refine CW_sr ?_
       refine RW_m ?_
       refine RW_l (Yl_nilCheck rfl) ?_
       refine RW_l (Yl_field rfl fo_93_4) ?_
       refine RW_h (Yh_ld (v := nv (p)) sc_2) ?_
       refine RW_a ?_
       refine RW_lv (ks := [0, 8, 9]) ?_
       refine CW_sr ?_
       refine RW_m ?_
       refine RW_m ?_
       refine RW_l (Yl_nilCheck rfl) ?_
       refine RW_l (Yl_field rfl fo_93_4) ?_
       refine RW_fx0 rfl rfl (Fx_store (v := nv to) rfl rfl sz_2 rfl rep_ (by simp [fiF])) ?_
       rintro _ _ rfl
       refine RW_lv (ks := [0, 8, 9]) ?_
       refine CW_seq ?_
       refine CW_draw [8] _ mixed (Sub.refl _) ?_
       refine RD_l 0 rfl (Yl_move rfl) ?_
       refine RD_l 1 rfl (Yl_nilCheck rfl) ?_
       refine RD_l 2 rfl (Yl_field rfl fo_93_4) ?_
       refine RD_l 4 rfl (Yl_move rfl) ?_
       refine RD_l 5 rfl (Yl_move rfl) ?_
       refine RD_l 6 rfl (Yl_move rfl) ?_
       refine RD_l 7 rfl (Yl_sub (c := ((to - p : Nat) : Int)) rfl rfl (by rw [wi64 om_ om_]; omega)) ?_
       refine RD_two (i := 3) (j := 8) kr_ ?_ ?_
       ·skip
        refine RO_fx rfl rfl rfl rfl (Yh.fx (Yh_ld (v := nv (to)) sc_2)) ?_
        rintro _ _ ⟨rfl, rfl⟩
        refine ⟨Or.inr (Sub.refl _), ?_⟩
        refine RD_one (i := 8) kr_ ?_
        refine RO_fx rfl rfl rfl rfl (Fx_call ok_53 (vs := [pv S.bf, nv (to - p)]) rfl (Pick.cons (.here _ _) (Pick.cons (.here _ _) (pick_app S.G F))) (seek_ct S h to k r (to - p) hr om_)) ?_
        rintro _ _ ⟨_, ⟨rfl, k', r', hr', hk', rfl⟩, rfl⟩
        simp only [List.cons_append]
        refine ⟨Or.inl kr_, ?_⟩
        refine RD_l 9 rfl (Yl_assign rfl) ?_
        refine RD_l 10 rfl (Yl_assign rfl) ?_
        refine (RD_done kr_ (QW_lv (ks := [6, 7]) ?_))
        refine CW_ret ?_
        refine QW_ret_block ?_
        refine QW_ret_then ?_
        first
         | exact QW_ret2 rfl rfl rfl (S.fb (to) (k') (r') :: S.rb :: S.G) ⟨rfl, k', r', by omega, by omega, rfl⟩ (Prm.nil _)
         | exact QW_ret2 rfl rfl rfl (S.fb (to) (k) (r) :: S.rb :: S.G) ⟨rfl, k, r, by omega, by omega, rfl⟩ (Prm.nil _)
         | exact QW_ret2 rfl rfl rfl (S.fb (to) (k) (r - (p - to)) :: S.rb :: S.G) ⟨rfl, k, r - (p - to), by omega, by omega, rfl⟩ (Prm.nil _)
       ·skip
        refine RO_fx rfl rfl rfl rfl (Fx_call ok_53 (vs := [pv S.bf, nv (to - p)]) rfl (Pick.cons (.here _ _) (Pick.cons (.here _ _) (pick_app S.G F))) (seek_ct S h to k r (to - p) hr om_)) ?_
        rintro _ _ ⟨_, ⟨rfl, k', r', hr', hk', rfl⟩, rfl⟩
        simp only [List.cons_append]
        refine ⟨Or.inl kr_, ?_⟩
        refine RD_one (i := 3) kr_ ?_
        refine RO_fx rfl rfl rfl rfl (Yh.fx (Yh_ld (v := nv (to)) sc_2)) ?_
        rintro _ _ ⟨rfl, rfl⟩
        refine ⟨Or.inl kr_, ?_⟩
        refine RD_l 9 rfl (Yl_assign rfl) ?_
        refine RD_l 10 rfl (Yl_assign rfl) ?_
        refine (RD_done kr_ (QW_lv (ks := [6, 7]) ?_))
        refine CW_ret ?_
        refine QW_ret_block ?_
        refine QW_ret_then ?_
        first
         | exact QW_ret2 rfl rfl rfl (S.fb (to) (k') (r') :: S.rb :: S.G) ⟨rfl, k', r', by omega, by omega, rfl⟩ (Prm.nil _)
         | exact QW_ret2 rfl rfl rfl (S.fb (to) (k) (r) :: S.rb :: S.G) ⟨rfl, k, r, by omega, by omega, rfl⟩ (Prm.nil _)
         | exact QW_ret2 rfl rfl rfl (S.fb (to) (k) (r - (p - to)) :: S.rb :: S.G) ⟨rfl, k, r - (p - to), by omega, by omega, rfl⟩ (Prm.nil _)
      ·replace hc11 := of_decide_eq_false hc11
       refine CW_skip ?_
       refine QW_normal_block ?_
       refine (QW_lv (ks := [0, 8]) ?_)
       refine CW_seq ?_
       refine CW_seq ?_
       refine CW_draw [] _ mixed (Sub.refl _) ?_
       refine RD_l 0 rfl (Yl_move rfl) ?_
       refine RD_l 1 rfl (Yl_nilCheck rfl) ?_
       refine RD_l 2 rfl (Yl_field rfl fo_93_6) ?_
       refine RD_l 4 rfl (Yl_move rfl) ?_
       refine RD_l 5 rfl (Yl_nilCheck rfl) ?_
       refine RD_l 6 rfl (Yl_field rfl fo_93_4) ?_
       refine RD_l 8 rfl (Yl_move rfl) ?_
       refine RD_h (i := 3) #[true, true, true, false, true, true, true, true, true, true, false] rfl rfl rfl rfl kr_ (fun _ _ _ h => h) (Yh_ld (v := nv (r)) sc_2) ?_
       refine RD_h (i := 7) #[true, true, true, true, true, true, true, false, true, false, false] rfl rfl rfl rfl kr_ (fun _ _ _ h => h) (Yh_ld (v := nv (p)) sc_2) ?_
       refine RD_l 9 rfl (Yl_sub (c := ((p - to : Nat) : Int)) rfl rfl (by rw [wi64 om_ om_]; omega)) ?_
       refine RD_l 10 rfl (Yl_geq rfl rfl) ?_
       refine (RD_done kr_ (QW_lv (ks := [0, 8, 99]) ?_))
       refine CW_cond rfl (fun hc12 => ?_) (fun hc12 => ?_)
       ·replace hc12 := of_decide_eq_true hc12
        refine CW_seq ?_
        refine CW_draw [14] _ mixed (Sub.refl _) ?_
        refine RD_l 0 rfl (Yl_move rfl) ?_
        refine RD_l 1 rfl (Yl_move rfl) ?_
        refine RD_l 2 rfl (Yl_nilCheck rfl) ?_
        refine RD_l 3 rfl (Yl_field rfl fo_93_6) ?_
        refine RD_l 5 rfl (Yl_move rfl) ?_
        refine RD_l 6 rfl (Yl_nilCheck rfl) ?_
        refine RD_l 7 rfl (Yl_field rfl fo_93_4) ?_
        refine RD_l 9 rfl (Yl_move rfl) ?_
        refine RD_h (i := 4) #[true, true, true, true, false, true, true, true, true, true, true, false, false, false, false] rfl rfl rfl rfl kr_ (fun _ _ _ h => h) (Yh_ld (v := nv (r)) sc_2) ?_
        refine RD_h (i := 8) #[true, true, true, true, true, true, true, true, false, true, false, false, false, false, false] rfl rfl rfl rfl kr_ (fun _ _ _ h => h) (Yh_ld (v := nv (p)) sc_2) ?_
        refine RD_l 10 rfl (Yl_sub (c := ((p - to : Nat) : Int)) rfl rfl (by rw [wi64 om_ om_]; omega)) ?_
        refine RD_l 11 rfl (Yl_sub (c := ((r - (p - to) : Nat) : Int)) rfl rfl (by rw [wi64 om_ om_]; omega)) ?_
        refine RD_l 12 rfl (Yl_nilCheck rfl) ?_
        refine RD_l 13 rfl (Yl_field rfl fo_93_6) ?_
        refine RD_one (i := 14) kr_ ?_
        refine RO_fx0 rfl rfl rfl (Fx_store (v := nv (r - (p - to))) rfl rfl sz_2 rfl rep_ (by simp [fiF])) ?_
        rintro _ _ rfl
        refine ⟨Or.inl kr_, ?_⟩
        refine (RD_done kr_ (QW_lv (ks := [0, 8]) ?_))
        refine CW_sr ?_
        refine RW_m ?_
        refine RW_m ?_
        refine RW_l (Yl_nilCheck rfl) ?_
        refine RW_l (Yl_field rfl fo_93_4) ?_
        refine RW_fx0 rfl rfl (Fx_store (v := nv to) rfl rfl sz_2 rfl rep_ (by simp [fiF])) ?_
        rintro _ _ rfl
        refine RW_lv (ks := [0]) ?_
        refine CW_sr ?_
        refine RW_m ?_
        refine RW_l (Yl_nilCheck rfl) ?_
        refine RW_l (Yl_field rfl fo_93_4) ?_
        refine RW_h (Yh_ld (v := nv (to)) sc_2) ?_
        refine RW_a ?_
        refine RW_a ?_
        refine RW_lv (ks := [6, 7]) ?_
        refine CW_ret ?_
        refine QW_ret_then ?_
        first
         | exact QW_ret2 rfl rfl rfl (S.fb (to) (k') (r') :: S.rb :: S.G) ⟨rfl, k', r', by omega, by omega, rfl⟩ (Prm.nil _)
         | exact QW_ret2 rfl rfl rfl (S.fb (to) (k) (r) :: S.rb :: S.G) ⟨rfl, k, r, by omega, by omega, rfl⟩ (Prm.nil _)
         | exact QW_ret2 rfl rfl rfl (S.fb (to) (k) (r - (p - to)) :: S.rb :: S.G) ⟨rfl, k, r - (p - to), by omega, by omega, rfl⟩ (Prm.nil _)
       ·replace hc12 := of_decide_eq_false hc12
        refine (CW_skip (QW_lv (ks := [0, 8]) ?_))
        refine CW_sr ?_
        refine RW_m ?_
        refine RW_l (Yl_nilCheck rfl) ?_
        refine RW_l (Yl_field rfl fo_93_6) ?_
        refine RW_fx0 rfl rfl (Fx_store (v := nv 0) rfl rfl sz_2 rfl rep_ (by simp [fiF])) ?_
        rintro _ _ rfl
        refine RW_lv (ks := [0, 8]) ?_
        refine CW_sr ?_
        refine RW_m ?_
        refine RW_m ?_
        refine RW_l (Yl_nilCheck rfl) ?_
        refine RW_l (Yl_field rfl fo_93_7) ?_
        refine RW_h (Yh_ld (v := pv S.bd) sc_91) ?_
        refine RW_l (Yl_nilCheck rfl) ?_
        refine RW_l (Yl_field rfl fo_112_11) ?_
        refine RW_h (Yh_load (v := uv (snx S.cs 0)) rfl sc_67 (List.mem_cons_of_mem _ (List.mem_cons_of_mem _ (List.mem_append_left _ hbd))) hdc) ?_
        refine RW_l (Yl_nilCheck rfl) ?_
        refine RW_l (Yl_field rfl fo_93_5) ?_
        refine RW_fx0 rfl rfl (Fx_store (v := uv (snx S.cs 0)) rfl rfl sz_67 rfl rep_ (by simp [fiF])) ?_
        rintro _ _ rfl
        refine RW_lv (ks := [0, 8]) ?_
        refine CW_sr ?_
        refine RW_m ?_
        refine RW_m ?_
        refine RW_l (Yl_nilCheck rfl) ?_
        refine RW_l (Yl_field rfl fo_93_4) ?_
        refine RW_fx0 rfl rfl (Fx_store (v := nv to) rfl rfl sz_2 rfl rep_ (by simp [fiF])) ?_
        rintro _ _ rfl
        refine RW_lv (ks := [0, 8]) ?_
        refine CW_seq ?_
        refine CW_draw [6] _ mixed (Sub.refl _) ?_
        refine RD_l 0 rfl (Yl_move rfl) ?_
        refine RD_l 1 rfl (Yl_nilCheck rfl) ?_
        refine RD_l 2 rfl (Yl_field rfl fo_93_4) ?_
        refine RD_l 4 rfl (Yl_move rfl) ?_
        refine RD_l 5 rfl (Yl_move rfl) ?_
        refine RD_two (i := 3) (j := 6) kr_ ?_ ?_
        ·skip
         refine RO_fx rfl rfl rfl rfl (Yh.fx (Yh_ld (v := nv (to)) sc_2)) ?_
         rintro _ _ ⟨rfl, rfl⟩
         refine ⟨Or.inr (Sub.refl _), ?_⟩
         refine RD_one (i := 6) kr_ ?_
         refine RO_fx rfl rfl rfl rfl (Fx_call ok_53 (vs := [pv S.bf, nv (to)]) rfl (Pick.cons (.here _ _) (Pick.cons (.here _ _) (pick_app S.G F))) (seek_ct S h to 0 0 (to) om_ om_)) ?_
         rintro _ _ ⟨_, ⟨rfl, k', r', hr', hk', rfl⟩, rfl⟩
         simp only [List.cons_append]
         refine ⟨Or.inl kr_, ?_⟩
         refine RD_l 7 rfl (Yl_assign rfl) ?_
         refine RD_l 8 rfl (Yl_assign rfl) ?_
         refine (RD_done kr_ (QW_lv (ks := [6, 7]) ?_))
         refine CW_ret ?_
         first
          | exact QW_ret2 rfl rfl rfl (S.fb (to) (k') (r') :: S.rb :: S.G) ⟨rfl, k', r', by omega, by omega, rfl⟩ (Prm.nil _)
          | exact QW_ret2 rfl rfl rfl (S.fb (to) (k) (r) :: S.rb :: S.G) ⟨rfl, k, r, by omega, by omega, rfl⟩ (Prm.nil _)
          | exact QW_ret2 rfl rfl rfl (S.fb (to) (k) (r - (p - to)) :: S.rb :: S.G) ⟨rfl, k, r - (p - to), by omega, by omega, rfl⟩ (Prm.nil _)
        ·skip
         refine RO_fx rfl rfl rfl rfl (Fx_call ok_53 (vs := [pv S.bf, nv (to)]) rfl (Pick.cons (.here _ _) (Pick.cons (.here _ _) (pick_app S.G F))) (seek_ct S h to 0 0 (to) om_ om_)) ?_
         rintro _ _ ⟨_, ⟨rfl, k', r', hr', hk', rfl⟩, rfl⟩
         simp only [List.cons_append]
         refine ⟨Or.inl kr_, ?_⟩
         refine RD_one (i := 3) kr_ ?_
         refine RO_fx rfl rfl rfl rfl (Yh.fx (Yh_ld (v := nv (to)) sc_2)) ?_
         rintro _ _ ⟨rfl, rfl⟩
         refine ⟨Or.inl kr_, ?_⟩
         refine RD_l 7 rfl (Yl_assign rfl) ?_
         refine RD_l 8 rfl (Yl_assign rfl) ?_
         refine (RD_done kr_ (QW_lv (ks := [6, 7]) ?_))
         refine CW_ret ?_
         first
          | exact QW_ret2 rfl rfl rfl (S.fb (to) (k') (r') :: S.rb :: S.G) ⟨rfl, k', r', by omega, by omega, rfl⟩ (Prm.nil _)
          | exact QW_ret2 rfl rfl rfl (S.fb (to) (k) (r) :: S.rb :: S.G) ⟨rfl, k, r, by omega, by omega, rfl⟩ (Prm.nil _)
          | exact QW_ret2 rfl rfl rfl (S.fb (to) (k) (r - (p - to)) :: S.rb :: S.G) ⟨rfl, k, r - (p - to), by omega, by omega, rfl⟩ (Prm.nil _)
  ·replace hc7 := of_decide_eq_false hc7
   exfalso; omega

/-! Values: a buffer that is filled piece by piece. -/
theorem spl_app {α : Type} {o : Nat} {a b l : List α} (h : o + a.length + b.length ≤ l.length) : spl (o + a.length) b (spl o a l) = spl o (a ++ b) l := by
  apply List.ext_getElem?
  intro i
  rw [getElem?_spl (by rw [length_spl om_]; exact h), getElem?_spl om_, getElem?_spl (by rw [List.length_append]; omega), List.length_append]
  by_cases h1 : i < o
  · rw [if_pos om_, if_pos h1, if_pos h1]
  · rw [if_neg h1, if_neg h1]
    by_cases h2 : i < o + a.length
    · rw [if_pos h2, if_pos h2, if_pos om_, List.getElem?_append_left om_]
    · rw [if_neg h2]
      by_cases h3 : i < o + a.length + b.length
      · rw [if_pos h3, if_pos om_, List.getElem?_append_right om_]
        congr 1; omega
      · rw [if_neg h3, if_neg h2, if_neg om_]
/-- The bytes of the file that a stream's reader reads. -/
structure Src.Rd (S : Src) (bs N : Nat) (B : List UInt8) : Prop where
  rd7 : S.rd[7]? = some (.iface 79 (.pointer (some ⟨bs, 0, none⟩)))
  len : B.length = N
  ra : ∀ bp o m c off lp T, 0 < m → off + m ≤ N → o + m ≤ lp.length → Ct Tryd.prog 93 [.pointer (some ⟨bs, 0, none⟩), .slice (some ⟨bp, o, none⟩) m c, nv off] ((bp, blk lp T) :: S.G) (fun v q => v = .tuple #[nv m, .nilIface] ∧ q = (bp, blk (spl o (bys ((B.drop off).take m)) lp) T) :: S.G)

/-! Walks: ReadAt; steps that read and seek. -/
theorem app_eq {l2 rz : List Value} {c : List UInt8} {m : Nat} (hl : c.length = m) (h : l2.take (m * 1) = ((bys c ++ rz).drop 0).take (m * 1)) : l2 = bys c ++ l2.drop m := by
 subst hl
 rw [Nat.mul_one, List.drop_zero] at h
 have e : (bys c ++ rz).take c.length = bys c := by rw [List.take_append_of_le_length (by simp), List.take_of_length_le (by simp)]
 rw [e] at h
 conv => lhs; rw [← List.take_append_drop c.length l2, h]

/-! Plain: where a stream's bytes lie in the file that Write makes. No program in sight. -/
section
variable (v st : Nat) (xs : List Nd) (k : Nat)
/-- The small parts of a node. -/
def mnF : List Nat := (List.range ((smF xs).getD k 0)).map fun j => (mplF st xs).getD (((smF xs).take k).sum + j) 0
abbrev dtF : List UInt8 := (xs.getD k default).data
/-- A part's size, the chain of the parts, where each begins, where each byte lies. -/
def uF : Nat := if (dtF xs k).length < 4096 then 64 else sizeF v
def cnF : List Nat := if (dtF xs k).length < 4096 then mnF st xs k else snF v st xs (3 + k)
def ofF (j : Nat) : Nat := if (dtF xs k).length < 4096 then (snx (snF v st xs 2) (snx (mnF st xs k) j / (sizeF v / 64)) + 1) * sizeF v + snx (mnF st xs k) j % (sizeF v / 64) * 64 else (snx (snF v st xs (3 + k)) j + 1) * sizeF v
def adF (i : Nat) : Nat := ofF v st xs k (i / uF v xs k) + i % uF v xs k
end
section
variable {v st : Nat} {xs : List Nd} {k : Nat}
theorem length_mnF : (mnF st xs k).length = (smF xs).getD k 0 := by simp [mnF]
theorem mnF_at {j : Nat} (hj : j < (smF xs).getD k 0) : (mnF st xs k).getD j 0 = (mplF st xs).getD (((smF xs).take k).sum + j) 0 := by
  unfold mnF
  rw [List.getD_eq_getElem?_getD, List.getElem?_map, List.getElem?_range hj]; rfl
theorem uF_or : uF v xs k = 64 ∨ uF v xs k = 512 ∨ uF v xs k = 4096 := by
  unfold uF
  split
  · exact .inl rfl
  · exact .inr (sizeF_or v)
theorem sm_count (hk : k < xs.length) (hs : (xs.getD k default).stream = true) (hl : (dtF xs k).length < 4096) : (smF xs).getD k 0 = partsF (dtF xs k).length 64 := by
  rw [sm_at xs hk]; unfold smallF; rw [if_pos ⟨hs, hl⟩]
theorem length_cnF (hk : k < xs.length) (hs : (xs.getD k default).stream = true) : (cnF v st xs k).length = partsF (dtF xs k).length (uF v xs k) := by
  unfold cnF uF
  split
  · rename_i hl; rw [length_mnF, sm_count hk hs hl]
  · rename_i hl; rw [length_snF, ← parts_large hk hs hl]
theorem in_cnF (hk : k < xs.length) (hs : (xs.getD k default).stream = true) {i : Nat} (hi : i < (dtF xs k).length) : i / uF v xs k < (cnF v st xs k).length := by
  have hu := uF_or (v := v) (xs := xs) (k := k)
  rw [length_cnF hk hs, lt_partsF om_]
  have := Nat.div_mul_le_self i (uF v xs k)
  omega
/-- Small parts in the small table. -/
theorem mch_at (h : Ok xs) (hk : k < xs.length) {j : Nat} (hj : j < (smF xs).getD k 0) : walkP (mchF v st xs).table ((mchF v st xs).outs.getD k 0) j = snx (mnF st xs k) j := by
  rw [mch_walk h hk hj, snx_in _ (by rw [length_mnF]; exact hj), mnF_at hj]
theorem mch_end (h : Ok xs) (hk : k < xs.length) : walkP (mchF v st xs).table ((mchF v st xs).outs.getD k 0) ((smF xs).getD k 0) = CE := by
  have h1 := mfF_le (v := v) h
  refine chain_end (pl := mplF st xs) (mixedF_nodup _ _) (t := mtbF v xs) (from_ := 0) (cs := smF xs) ?_ ?_ (by simpa [smF] using hk)
  · intro x hx; have := mixedF_lt _ _ x hx; simp [mtbF]; omega
  · simp [mplF, miF]
theorem mn_next (h : Ok xs) (hk : k < xs.length) {j : Nat} (hj : j < (smF xs).getD k 0) : (mchF v st xs).table.getD (snx (mnF st xs k) j) 0 = snx (mnF st xs k) (j + 1) := by
  rw [← mch_at (v := v) h hk hj]
  show walkP (mchF v st xs).table ((mchF v st xs).outs.getD k 0) (j + 1) = _
  by_cases e : j + 1 < (smF xs).getD k 0
  · exact mch_at h hk e
  · have e2 : j + 1 = (smF xs).getD k 0 := by omega
    rw [e2, mch_end h hk, snx_end _ (by rw [length_mnF])]
theorem mn_lt (h : Ok xs) (hk : k < xs.length) {j : Nat} (hj : j < (smF xs).getD k 0) : snx (mnF st xs k) j < miF xs := by
  rw [snx_in _ (by rw [length_mnF]; exact hj), mnF_at hj]
  refine getD_lt (mixedF_lt _ _) ?_
  have h2 := sum_take_succ (smF xs) k (by simpa [smF] using hk)
  simp [mplF, miF]; omega
theorem tabF_at {t : List Nat} {i : Nat} (hi : i < t.length) : Holds (4 * t.length) (4 * i) (le (t.getD i 0) 4) (tabF t) := by
  unfold tabF tabTo
  have := iter_make (P := fun l => Holds (4 * t.length) (0 + 4 * i) (le (t.getD i 0) 4) l) (I := fun l => l.length = 4 * t.length) (fun j l => putF (0 + 4 * j) (t.getD j 0) 4 l) i t.length (List.replicate (4 * t.length) 0) hi (by simp)
    (fun q l' hq h' => by rw [length_putF om_]; exact h') (fun l' h' => put_self h' om_) (fun q l' h1 h2 h' => put_other h' (.inl (by rw [length_le]; omega)) om_)
  rw [Nat.zero_add] at this
  exact this
/-- What the small table tells, in the file. -/
theorem mini_next (h : Ok xs) (hn : ∀ x ∈ xs, x.name.length ≤ 31) (hk : k < xs.length) {j o : Nat} (hj : j < (smF xs).getD k 0) (ho : o = (snx (snF v st xs 1) (snx (mnF st xs k) j / (sizeF v / 4)) + 1) * sizeF v + snx (mnF st xs k) j % (sizeF v / 4) * 4) :
    snx (mnF st xs k) j / (sizeF v / 4) < (snF v st xs 1).length ∧ o + 4 ≤ NF v xs ∧ num (((writeF v st xs).drop o).take 4) = snx (mnF st xs k) (j + 1) := by
  have hz := size_ge v
  have hp4 := per4 v
  have hp : sizeF v / 4 = perF v := rfl
  have hm := mfF_le (v := v) h
  have hml := mn_lt (st := st) h hk hj
  have hlm := length_mch (v := v) (st := st) h
  rw [hp] at ho ⊢
  obtain ⟨mp, hmp⟩ : ∃ mp, mp = snx (mnF st xs k) j := ⟨_, rfl⟩
  have hnx := mn_next (v := v) (st := st) h hk hj
  rw [← hmp] at ho hml hnx ⊢
  obtain ⟨q, hq⟩ : ∃ q, q = mp / perF v := ⟨_, rfl⟩
  obtain ⟨r, hr⟩ : ∃ r, r = mp % perF v := ⟨_, rfl⟩
  have hqr : q * perF v + r = mp := by rw [hq, hr, Nat.mul_comm]; exact Nat.div_add_mod _ _
  have hrl : r < perF v := by rw [hr]; exact Nat.mod_lt _ om_
  rw [← hq, ← hr] at ho
  have hq1 : q < mfF v xs := by rw [hq]; exact (Nat.div_lt_iff_lt_mul om_).2 om_
  have hq2 : q < (csF v xs).getD 1 0 := hq1
  have hqs : q < (snF v st xs 1).length := by rw [length_snF]; exact hq2
  have h1 := write_mtab (v := v) (st := st) h hn hq1
  have h2 := tabF_at (t := (mchF v st xs).table) (i := mp) (by rw [hlm.1]; omega)
  have h3 : Holds (sizeF v) (r * 4) (le ((mchF v st xs).table.getD mp 0) 4) (((tabF (mchF v st xs).table).drop (q * sizeF v)).take (sizeF v)) := by
    refine h2.window' (a := q * sizeF v) ?_ (by rw [length_le]; omega) ?_
    · rw [← hp4, ← hqr]; rw [Nat.mul_add, Nat.mul_left_comm, Nat.mul_comm r]
    · rw [hlm.1, ← hp4, ← Nat.mul_left_comm]
      have := Nat.mul_le_mul_right (perF v) (show q + 1 ≤ mfF v xs by omega)
      rw [Nat.succ_mul] at this
      omega
  have h4 := h1.sub (a := r * 4) (b := 4) (by rw [h3.len]; omega)
  rw [h3.cut' (n := 4) (length_le _ _), hnx] at h4
  have e1 : seF v st xs (ixF v xs 1 q) = (snx (snF v st xs 1) q + 1) * sizeF v := by
    rw [snx_in _ hqs, snF_at hq2]; unfold seF; rw [Nat.mul_comm, Nat.add_comm 1]
  rw [e1, ← ho] at h4
  refine ⟨by rw [← hq]; exact hqs, by have := h4.fit; rw [length_le] at this; exact this, h4.num ?_⟩
  have e4 : (256 : Nat) ^ 4 = 4294967296 := rfl
  by_cases e : j + 1 < (smF xs).getD k 0
  · have := mn_lt (st := st) h hk e
    have := miF_le h
    omega
  · rw [snx_end _ (by rw [length_mnF]; omega)]; decide
/-- Small parts lie in the small stream's sectors. -/
theorem mini_sec (h : Ok xs) (hk : k < xs.length) {j : Nat} (hj : j < (smF xs).getD k 0) : snx (mnF st xs k) j / (sizeF v / 64) < (csF v xs).getD 2 0 := by
  have hz := size_ge v
  have hml := mn_lt (st := st) h hk hj
  rw [cs_2, lt_partsF om_]
  have h1 := Nat.div_mul_le_self (snx (mnF st xs k) j) (sizeF v / 64)
  have h2 : sizeF v / 64 * 64 = sizeF v := by rcases sizeF_or v with e | e <;> rw [e]
  have h3 : snx (mnF st xs k) j / (sizeF v / 64) * sizeF v = snx (mnF st xs k) j / (sizeF v / 64) * (sizeF v / 64) * 64 := by rw [Nat.mul_assoc, h2]
  rw [h3]
  omega
theorem of_mini (h : Ok xs) (hk : k < xs.length) (hl : (dtF xs k).length < 4096) {j : Nat} (hj : j < (smF xs).getD k 0) : ofF v st xs k j = seF v st xs (ixF v xs 2 (snx (mnF st xs k) j / (sizeF v / 64))) + snx (mnF st xs k) j % (sizeF v / 64) * 64 := by
  have h1 := mini_sec (v := v) (st := st) h hk hj
  unfold ofF
  rw [if_pos hl, snx_in (snF v st xs 2) (by rw [length_snF]; exact h1), snF_at h1]
  unfold seF; rw [Nat.mul_comm (sizeF v), Nat.add_comm 1]
theorem of_large (hl : ¬ (dtF xs k).length < 4096) {j : Nat} (hj : j < (csF v xs).getD (3 + k) 0) : ofF v st xs k j = seF v st xs (ixF v xs (3 + k) j) := by
  unfold ofF
  rw [if_neg hl, snx_in _ (by rw [length_snF]; exact hj), snF_at hj]
  unfold seF; rw [Nat.mul_comm (sizeF v), Nat.add_comm 1]
/-- Parts of the small stream, in its chains. -/
theorem mpl_ne {k' j j' : Nat} (hk : k < xs.length) (hk' : k' < xs.length) (hj : j < (smF xs).getD k 0) (hj' : j' < (smF xs).getD k' 0) (e : snx (mnF st xs k) j = snx (mnF st xs k') j') : k = k' ∧ j = j' := by
  rw [snx_in _ (by rw [length_mnF]; exact hj), mnF_at hj, snx_in _ (by rw [length_mnF]; exact hj'), mnF_at hj'] at e
  have hl : (smF xs).length = xs.length := by simp [smF]
  have h1 := sum_take_succ (smF xs) k om_
  have h2 := sum_take_succ (smF xs) k' om_
  have h3 : (mplF st xs).length = (smF xs).sum := by simp [mplF, miF]
  have e2 := nodup_getD (pl := mplF st xs) (mixedF_nodup _ _) (by rw [h3]; omega) (by rw [h3]; omega) e
  rcases Nat.lt_trichotomy k k' with h | h | h
  · have := take_mono (smF xs) h om_; omega
  · subst h; exact ⟨rfl, by omega⟩
  · have := take_mono (smF xs) h om_; omega
/-- What stands in the small stream. -/
theorem nTo_mini (h : Ok xs) (hn : ∀ x ∈ xs, x.name.length ≤ 31) (hk : k < xs.length) (hk0 : k ≠ 0) (hs : (xs.getD k default).stream = true) (hl : (dtF xs k).length < 4096) {j : Nat} (hj : j < (smF xs).getD k 0) : ∀ m, k < m → m ≤ xs.length →
    Holds (64 * miF xs) (64 * snx (mnF st xs k) j) (((dtF xs k).drop (j * 64)).take 64) (nTo v st xs m).2.1 := by
  intro m
  have fits : ∀ k' j', k' < xs.length → j' < (smF xs).getD k' 0 → 64 * walkP (mchF v st xs).table ((mchF v st xs).outs.getD k' 0) j' + 64 ≤ 64 * miF xs := fun k' j' h1 h2 => by
    rw [mch_at h h1 h2]; have := mn_lt (st := st) h h1 h2; omega
  induction m with
  | zero => intro h; omega
  | succ m ih =>
    intro h1 h2
    have hlen := (nTo_len (v := v) (st := st) h hn (show m ≤ xs.length by omega)).2.1
    rw [nTo_small]
    by_cases e : m = k
    · subst e
      rw [if_pos ⟨hk0, hs, hl⟩]
      have hc := sm_count hk hs hl
      have := fill0To_self (mt := (mchF v st xs).table) (start := (mchF v st xs).outs.getD m 0) (data := dtF xs m) hlen (j := j) ((smF xs).getD m 0) hj (fun a b ha hb e => by
        rw [mch_at h hk ha, mch_at h hk hb] at e
        exact (mpl_ne hk hk ha hb e).2) (fun a ha => fits m a hk ha)
      rw [mch_at h hk hj] at this
      unfold fill0F
      rw [← hc]; exact this
    · split
      · rename_i hc
        have hc2 := sm_count (show m < xs.length by omega) hc.2.1 hc.2.2
        refine fill0To_other (ih om_ om_) _ (fun a ha => ?_) (fun a ha => fits m a om_ (by rw [hc2]; exact ha))
        have ha' : a < (smF xs).getD m 0 := by rw [hc2]; exact ha
        rw [mch_at h om_ ha']
        have hne : snx (mnF st xs k) j ≠ snx (mnF st xs m) a := fun e2 => e (mpl_ne hk om_ hj ha' e2).1.symm
        have hcl := chunk_le (dtF xs k) (j * 64) 64
        omega
      · exact ih om_ om_
/-- The file holds a node's bytes. -/
theorem write_mini (h : Ok xs) (hn : ∀ x ∈ xs, x.name.length ≤ 31) (hk : k < xs.length) (hk0 : k ≠ 0) (hs : (xs.getD k default).stream = true) (hl : (dtF xs k).length < 4096) {j : Nat} (hj : j < (smF xs).getD k 0) :
    Holds (NF v xs) (ofF v st xs k j) (((dtF xs k).drop (j * 64)).take 64) (writeF v st xs) := by
  have hz := size_ge v
  have hml := mn_lt (st := st) h hk hj
  have h1 := nTo_mini (v := v) (st := st) h hn hk hk0 hs hl hj xs.length hk (Nat.le_refl _)
  rw [nTo_all] at h1
  obtain ⟨mp, hmp⟩ : ∃ mp, mp = snx (mnF st xs k) j := ⟨_, rfl⟩
  have hsec := mini_sec (v := v) (st := st) h hk hj
  rw [of_mini h hk hl hj]
  rw [← hmp] at h1 hml hsec ⊢
  obtain ⟨p, hp⟩ : ∃ p, p = sizeF v / 64 := ⟨_, rfl⟩
  have hp64 : p * 64 = sizeF v := by rw [hp]; rcases sizeF_or v with e | e <;> rw [e]
  rw [← hp] at hsec ⊢
  obtain ⟨q, hq⟩ : ∃ q, q = mp / p := ⟨_, rfl⟩
  obtain ⟨r, hr⟩ : ∃ r, r = mp % p := ⟨_, rfl⟩
  have hqr : q * p + r = mp := by rw [hq, hr, Nat.mul_comm]; exact Nat.div_add_mod _ _
  have hrl : r < p := by rw [hr]; exact Nat.mod_lt _ om_
  rw [← hq] at hsec ⊢
  rw [← hr]
  have hcl := chunk_le (dtF xs k) (j * 64) 64
  have eq1 : q * sizeF v = q * p * 64 := by rw [← hp64, Nat.mul_assoc]
  have h2 := write_small (v := v) (st := st) h hn (j := q) (by rw [eq1]; omega)
  have hlen := (nTo_len (v := v) (st := st) h hn (Nat.le_refl _)).2.1
  rw [nTo_all] at hlen
  have hcut : ((((ndsF v st xs).2.1.drop (q * sizeF v)).take (sizeF v)).drop (r * 64)).take ((((dtF xs k).drop (j * 64)).take 64).length) = ((dtF xs k).drop (j * 64)).take 64 := by
    rw [List.drop_take, List.drop_drop, List.take_take, Nat.min_eq_left om_]
    have := h1.cut
    rw [← this]
    congr 2
    rw [eq1]; omega
  have h3 := h2.sub (a := r * 64) (b := (((dtF xs k).drop (j * 64)).take 64).length) (by
    have h5 := h1.fit
    rw [List.length_take (l := List.drop (q * sizeF v) _), List.length_drop (l := (ndsF v st xs).2.1), hlen, eq1]
    omega)
  rw [hcut] at h3
  exact h3
theorem dat (h : Ok xs) (hn : ∀ x ∈ xs, x.name.length ≤ 31) (hk : k < xs.length) (hk0 : k ≠ 0) (hs : (xs.getD k default).stream = true) : Dat (adF v st xs k) (writeF v st xs) (dtF xs k) := by
  intro i hi
  have hu := uF_or (v := v) (xs := xs) (k := k)
  have hup : 0 < uF v xs k := by omega
  have hin := in_cnF (v := v) (st := st) hk hs hi
  have hm := Nat.mod_lt i hup
  have hdm : i / uF v xs k * uF v xs k + i % uF v xs k = i := by rw [Nat.mul_comm]; exact Nat.div_add_mod _ _
  have key : Holds (NF v xs) (ofF v st xs k (i / uF v xs k)) (((dtF xs k).drop (i / uF v xs k * uF v xs k)).take (uF v xs k)) (writeF v st xs) := by
    by_cases hl : (dtF xs k).length < 4096
    · have eu : uF v xs k = 64 := by unfold uF; rw [if_pos hl]
      unfold cnF at hin
      rw [if_pos hl, length_mnF] at hin
      rw [eu] at hin ⊢
      exact write_mini h hn hk hk0 hs hl hin
    · have eu : uF v xs k = sizeF v := by unfold uF; rw [if_neg hl]
      unfold cnF at hin
      rw [if_neg hl, length_snF] at hin
      rw [eu] at hin hdm hm ⊢
      rw [of_large hl hin]
      exact write_large h hn hk hk0 hs hl (show i / sizeF v * sizeF v < (dtF xs k).length by omega)
  have hlen : i % uF v xs k < (((dtF xs k).drop (i / uF v xs k * uF v xs k)).take (uF v xs k)).length := by
    rw [List.length_take, List.length_drop]; omega
  have h1 := key.at_ (i % uF v xs k) hlen
  rw [chunk_at' _ _ _ _ hm, hdm] at h1
  exact h1
end

/-! Plain: bytes are written into a stream of the file that Write makes: it is the file of the stream with these bytes. No program in sight. -/
/-- A node's bytes are others. -/
def setD (xs : List Nd) (k : Nat) (D : List UInt8) : List Nd := xs.set k { xs.getD k default with data := D }
section
variable {v st : Nat} {xs : List Nd} {k : Nat} {D : List UInt8}
theorem len_set : (setD xs k D).length = xs.length := by simp [setD]
theorem get_self (hk : k < xs.length) : (setD xs k D).getD k default = { xs.getD k default with data := D } := by
  unfold setD
  rw [List.getD_eq_getElem?_getD, List.getElem?_set_self hk]; rfl
theorem get_ne {i : Nat} (h : i ≠ k) : (setD xs k D).getD i default = xs.getD i default := by
  unfold setD
  rw [List.getD_eq_getElem?_getD, List.getElem?_set_ne om_, ← List.getD_eq_getElem?_getD]
theorem map_set (f : Nd → Nat) (hk : k < xs.length) (hf : f { xs.getD k default with data := D } = f (xs.getD k default)) : (setD xs k D).map f = xs.map f := by
  unfold setD
  rw [List.map_set, hf]
  apply List.ext_getElem?
  intro i
  by_cases e : i = k
  · subst e
    rw [List.getElem?_set_self (by simpa using hk), List.getElem?_map, List.getElem?_eq_getElem hk]
    simp [List.getD_eq_getElem?_getD, hk]
  · rw [List.getElem?_set_ne om_]
theorem sm_set (hk : k < xs.length) (hD : D.length = (dtF xs k).length) : smF (setD xs k D) = smF xs := map_set _ hk (by unfold smallF; simp only [hD])
theorem lg_set (hk : k < xs.length) (hD : D.length = (dtF xs k).length) : lgF v (setD xs k D) = lgF v xs := map_set _ hk (by unfold largeF; simp only [hD])
theorem mi_set (hk : k < xs.length) (hD : D.length = (dtF xs k).length) : miF (setD xs k D) = miF xs := by unfold miF; rw [sm_set hk hD]
theorem cs_set (hk : k < xs.length) (hD : D.length = (dtF xs k).length) : csF v (setD xs k D) = csF v xs := by unfold csF; rw [mi_set hk hD, lg_set hk hD, len_set]
theorem ft_set (hk : k < xs.length) (hD : D.length = (dtF xs k).length) : ftF v (setD xs k D) = ftF v xs := by unfold ftF; rw [cs_set hk hD]
theorem T_set (hk : k < xs.length) (hD : D.length = (dtF xs k).length) : TF v (setD xs k D) = TF v xs := by unfold TF; rw [cs_set hk hD, ft_set hk hD]
theorem pl_set (hk : k < xs.length) (hD : D.length = (dtF xs k).length) : plF v st (setD xs k D) = plF v st xs := by unfold plF; rw [T_set hk hD]
theorem ch_set (hk : k < xs.length) (hD : D.length = (dtF xs k).length) : chF v st (setD xs k D) = chF v st xs := by unfold chF tbF; rw [pl_set hk hD, ft_set hk hD, cs_set hk hD]
theorem mf_set (hk : k < xs.length) (hD : D.length = (dtF xs k).length) : mfF v (setD xs k D) = mfF v xs := by unfold mfF; rw [mi_set hk hD]
theorem mpl_set (hk : k < xs.length) (hD : D.length = (dtF xs k).length) : mplF st (setD xs k D) = mplF st xs := by unfold mplF; rw [mi_set hk hD]
theorem mch_set (hk : k < xs.length) (hD : D.length = (dtF xs k).length) : mchF v st (setD xs k D) = mchF v st xs := by unfold mchF mtbF; rw [mpl_set hk hD, mf_set hk hD, sm_set hk hD]
theorem N_set (hk : k < xs.length) (hD : D.length = (dtF xs k).length) : NF v (setD xs k D) = NF v xs := by unfold NF; rw [T_set hk hD]
theorem ds_set : dsF v (setD xs k D) = dsF v xs := by unfold dsF; rw [len_set]
theorem out2_set (hk : k < xs.length) (hD : D.length = (dtF xs k).length) : out2F v st (setD xs k D) = out2F v st xs := by
  unfold out2F out1F out0F
  rw [ch_set hk hD, mch_set hk hD, pl_set hk hD, ft_set hk hD, ds_set, mf_set hk hD, N_set hk hD]
theorem ix_set (hk : k < xs.length) (hD : D.length = (dtF xs k).length) (i j : Nat) : ixF v (setD xs k D) i j = ixF v xs i j := by unfold ixF; rw [ft_set hk hD, cs_set hk hD]
theorem sn_set (hk : k < xs.length) (hD : D.length = (dtF xs k).length) (i : Nat) : snF v st (setD xs k D) i = snF v st xs i := by
  unfold snF; rw [cs_set hk hD, pl_set hk hD]
  simp only [ix_set hk hD]
theorem mn_set (hk : k < xs.length) (hD : D.length = (dtF xs k).length) (i : Nat) : mnF st (setD xs k D) i = mnF st xs i := by
  unfold mnF; rw [sm_set hk hD, mpl_set hk hD]
theorem dt_set (hk : k < xs.length) : dtF (setD xs k D) k = D := by unfold dtF; rw [get_self hk]
theorem of_set (hk : k < xs.length) (hD : D.length = (dtF xs k).length) (j : Nat) : ofF v st (setD xs k D) k j = ofF v st xs k j := by
  unfold ofF; rw [dt_set hk, hD, sn_set hk hD, sn_set hk hD, mn_set hk hD]
theorem u_set (hk : k < xs.length) (hD : D.length = (dtF xs k).length) : uF v (setD xs k D) k = uF v xs k := by
  unfold uF; rw [dt_set hk, hD]
theorem ad_set (hk : k < xs.length) (hD : D.length = (dtF xs k).length) (i : Nat) : adF v st (setD xs k D) k i = adF v st xs k i := by
  unfold adF; rw [u_set hk hD, of_set hk hD]
theorem cn_set (hk : k < xs.length) (hD : D.length = (dtF xs k).length) : cnF v st (setD xs k D) k = cnF v st xs k := by
  unfold cnF; rw [dt_set hk, hD, sn_set hk hD, mn_set hk hD]
theorem set_at (hk : k < xs.length) (hD : D.length = (dtF xs k).length) (i : Nat) : ∃ d, (setD xs k D).getD i default = { xs.getD i default with data := d } ∧ d.length = (dtF xs i).length ∧ (i ≠ k → d = dtF xs i) := by
  by_cases e : i = k
  · subst e; exact ⟨D, get_self hk, hD, fun h => absurd rfl h⟩
  · exact ⟨dtF xs i, get_ne e, rfl, fun _ => rfl⟩
theorem ok_set (h : Ok xs) (hk : k < xs.length) (hD : D.length = (dtF xs k).length) : Ok (setD xs k D) := by
  refine ⟨by rw [len_set]; exact h.len, fun x hx => ?_⟩
  obtain ⟨i, hi, rfl⟩ := List.mem_iff_getElem.1 hx
  rw [len_set] at hi
  obtain ⟨d, e, hd, _⟩ := set_at hk hD i
  rw [List.getD_eq_getElem?_getD, List.getElem?_eq_getElem (by rw [len_set]; exact hi)] at e
  have e' : (setD xs k D)[i]'(by rw [len_set]; exact hi) = { xs.getD i default with data := d } := e
  rw [e']
  show d.length ≤ 9000
  rw [hd]; exact small_at h hi
theorem names_set (hn : ∀ x ∈ xs, x.name.length ≤ 31) (hk : k < xs.length) (hD : D.length = (dtF xs k).length) : ∀ x ∈ setD xs k D, x.name.length ≤ 31 := by
  intro x hx
  obtain ⟨i, hi, rfl⟩ := List.mem_iff_getElem.1 hx
  rw [len_set] at hi
  obtain ⟨d, e, hd, _⟩ := set_at hk hD i
  rw [List.getD_eq_getElem?_getD, List.getElem?_eq_getElem (by rw [len_set]; exact hi)] at e
  have e' : (setD xs k D)[i]'(by rw [len_set]; exact hi) = { xs.getD i default with data := d } := e
  rw [e']
  exact name_at hn hi
theorem kd_set (hk : k < xs.length) (hD : D.length = (dtF xs k).length) (i : Nat) : kdF (setD xs k D) i = kdF xs i := by
  obtain ⟨d, e, hd, _⟩ := set_at hk hD i
  unfold kdF; rw [e]
theorem st_set (hk : k < xs.length) (hD : D.length = (dtF xs k).length) (i : Nat) : stF v st (setD xs k D) i = stF v st xs i := by
  obtain ⟨d, e, hd, _⟩ := set_at hk hD i
  unfold stF; rw [e, ch_set hk hD, mch_set hk hD]; simp only [hd]
theorem ln_set (hk : k < xs.length) (hD : D.length = (dtF xs k).length) (i : Nat) : lnF (setD xs k D) i = lnF xs i := by
  obtain ⟨d, e, hd, _⟩ := set_at hk hD i
  unfold lnF; rw [e, mi_set hk hD]; simp only [hd]
/-- The places of a stream's bytes in the small stream. -/
def inMini (st : Nat) (xs : List Nd) (k x : Nat) : Prop := ∃ j i, j < (smF xs).getD k 0 ∧ i < 64 ∧ j * 64 + i < (dtF xs k).length ∧ x = 64 * snx (mnF st xs k) j + i
def inFile (v st : Nat) (xs : List Nd) (k x : Nat) : Prop := ∃ i, i < (dtF xs k).length ∧ adF v st xs k i = x
theorem nTo_set (h : Ok xs) (hn : ∀ x ∈ xs, x.name.length ≤ 31) (hk : k < xs.length) (hs : (xs.getD k default).stream = true) (hD : D.length = (dtF xs k).length) : ∀ m, m ≤ xs.length →
    (nTo v st (setD xs k D) m).1 = (nTo v st xs m).1 ∧ Eqo (fun x => (dtF xs k).length < 4096 ∧ inMini st xs k x) (nTo v st (setD xs k D) m).2.1 (nTo v st xs m).2.1 ∧
    Eqo (fun x => ¬ (dtF xs k).length < 4096 ∧ inFile v st xs k x) (nTo v st (setD xs k D) m).2.2 (nTo v st xs m).2.2 := by
  intro m
  induction m with
  | zero =>
    intro _
    refine ⟨?_, ?_, ?_⟩
    · show dir0F v (setD xs k D) = dir0F v xs
      unfold dir0F; rw [ds_set]
    · show Eqo _ (List.replicate (64 * miF (setD xs k D)) 0) (List.replicate (64 * miF xs) 0)
      rw [mi_set hk hD]; exact .refl _
    · show Eqo _ (out2F v st (setD xs k D)) (out2F v st xs)
      rw [out2_set hk hD]; exact .refl _
  | succ m ih =>
    intro hm
    obtain ⟨i1, i2, i3⟩ := ih om_
    obtain ⟨d, e, hd, hne⟩ := set_at (D := D) hk hD m
    have hlen := nTo_len (v := v) (st := st) (ok_set h hk hD) (names_set hn hk hD) (show m ≤ (setD xs k D).length by rw [len_set]; omega)
    refine ⟨?_, ?_, ?_⟩
    · rw [nTo_dir, nTo_dir, e, i1, kd_set hk hD, st_set hk hD, ln_set hk hD]; rfl
    · rw [nTo_small, nTo_small, e, mch_set hk hD]
      show Eqo _ (if m ≠ 0 ∧ (xs.getD m default).stream = true ∧ d.length < 4096 then _ else _) _
      rw [hd]
      split
      · rename_i hc
        have hcnt := sm_count (show m < xs.length by omega) hc.2.1 hc.2.2
        unfold fill0F
        rw [show ({ xs.getD m default with data := d } : Nd).data.length = (dtF xs m).length from hd, ← hcnt]
        refine Eqo.fill0To i2 hd _ (fun j hj => ?_) (fun j hj i hi hji => ?_)
        · rw [hlen.2.1, mi_set hk hD, mch_at h om_ hj]
          have := mn_lt (st := st) h (show m < xs.length by omega) hj; omega
        · by_cases em : m = k
          · subst em
            refine .inl ⟨hc.2.2, j, i, hj, hi, ?_, by rw [mch_at h hk hj]⟩
            rw [← hd]; exact hji
          · right; rw [hne em]
      · exact i2
    · rw [nTo_out, nTo_out, e, ch_set hk hD]
      show Eqo _ (if m ≠ 0 ∧ (xs.getD m default).stream = true ∧ ¬ d.length < 4096 then _ else _) _
      rw [hd]
      split
      · rename_i hc
        have hp := parts_large (v := v) (show m < xs.length by omega) hc.2.1 hc.2.2
        unfold fillF
        rw [show ({ xs.getD m default with data := d } : Nd).data.length = (dtF xs m).length from hd, show partsF (xs.getD m default).data.length (sizeF v) = (csF v xs).getD (3 + m) 0 from hp]
        refine Eqo.fillTo i3 hd _ (fun j hj => ?_) (fun j hj i hi hji => ?_)
        · rw [hlen.2.2, N_set hk hD, walk_ix h om_ hj, sec_end]
          exact se_le h (ix_lt h om_ hj)
        · by_cases em : m = k
          · subst em
            have hz := size_ge v
            refine .inl ⟨hc.2.2, j * sizeF v + i, ?_, ?_⟩
            · rw [← hd]; exact hji
            · have eu : uF v xs m = sizeF v := by unfold uF; rw [if_neg hc.2.2]
              unfold adF
              rw [eu, Nat.mul_comm j, Nat.mul_add_div om_, Nat.div_eq_of_lt hi, Nat.mul_add_mod, Nat.mod_eq_of_lt hi, Nat.add_zero, of_large hc.2.2 hj, walk_ix h om_ hj]
              rfl
          · right; rw [hne em]
      · exact i3
/-- The file is the same but for the stream's bytes. -/
theorem write_set (h : Ok xs) (hn : ∀ x ∈ xs, x.name.length ≤ 31) (hk : k < xs.length) (hs : (xs.getD k default).stream = true) (hD : D.length = (dtF xs k).length) : Eqo (inFile v st xs k) (writeF v st (setD xs k D)) (writeF v st xs) := by
  obtain ⟨n1, n2, n3⟩ := nTo_set (v := v) (st := st) h hn hk hs hD xs.length (Nat.le_refl _)
  have hz := size_ge v
  have e0 : nTo v st (setD xs k D) xs.length = ndsF v st (setD xs k D) := by rw [← len_set (xs := xs) (k := k) (D := D)]; rfl
  rw [e0] at n1 n2 n3
  rw [nTo_all] at n1 n2 n3
  obtain ⟨l1, l2, l3⟩ := nTo_len (v := v) (st := st) h hn (Nat.le_refl _)
  rw [nTo_all] at l1 l2 l3
  have h3 : Eqo (inFile v st xs k) (ndsF v st (setD xs k D)).2.2 (ndsF v st xs).2.2 := ⟨n3.len, fun x hx => n3.at_ x (fun hc => hx hc.2)⟩
  have hfit2 : ∀ j, j < (csF v xs).getD 2 0 → sizeF v * (2 + walkP (chF v st xs).table ((chF v st xs).outs.getD 2 0) j) ≤ NF v xs := fun j hj => by
    rw [walk_ix h om_ hj, sec_end]; exact se_le h (ix_lt h om_ hj)
  have hfit0 : ∀ j, j < (csF v xs).getD 0 0 → sizeF v * (2 + walkP (chF v st xs).table ((chF v st xs).outs.getD 0 0) j) ≤ NF v xs := fun j hj => by
    rw [walk_ix h om_ hj, sec_end]; exact se_le h (ix_lt h om_ hj)
  have p2 : partsF (ndsF v st xs).2.1.length (sizeF v) = (csF v xs).getD 2 0 := by rw [l2, cs_2, Nat.mul_comm]
  have p0 : partsF (ndsF v st xs).1.length (sizeF v) = (csF v xs).getD 0 0 := by rw [l1, cs_0, partsF_mul om_]
  have h2 : Eqo (inFile v st xs k) (fillF (chF v st xs).table (sizeF v) (ndsF v st (setD xs k D)).2.1 ((chF v st xs).outs.getD 2 0) (ndsF v st (setD xs k D)).2.2) (fillF (chF v st xs).table (sizeF v) (ndsF v st xs).2.1 ((chF v st xs).outs.getD 2 0) (ndsF v st xs).2.2) := by
    unfold fillF
    rw [n2.len, p2]
    refine Eqo.fillTo h3 n2.len _ (fun j hj => by rw [h3.len, l3]; exact hfit2 j hj) (fun j hj i hi hji => ?_)
    by_cases hc : (dtF xs k).length < 4096 ∧ inMini st xs k (j * sizeF v + i)
    · left
      obtain ⟨hl, a, b, ha, hb, hab, hx⟩ := hc
      refine ⟨a * 64 + b, hab, ?_⟩
      have eu : uF v xs k = 64 := by unfold uF; rw [if_pos hl]
      unfold adF
      rw [eu, Nat.mul_comm a, Nat.mul_add_div om_, Nat.div_eq_of_lt hb, Nat.mul_add_mod, Nat.mod_eq_of_lt hb, Nat.add_zero, of_mini h hk hl ha]
      obtain ⟨mp, hmp⟩ : ∃ mp, mp = snx (mnF st xs k) a := ⟨_, rfl⟩
      rw [← hmp] at hx ⊢
      obtain ⟨p, hp⟩ : ∃ p, p = sizeF v / 64 := ⟨_, rfl⟩
      have hp64 : p * 64 = sizeF v := by rw [hp]; rcases sizeF_or v with e | e <;> rw [e]
      rw [← hp]
      have e1 : mp / p = j := by
        have h5 : (j * sizeF v + i) / sizeF v = j := by rw [Nat.mul_comm, Nat.mul_add_div om_, Nat.div_eq_of_lt hi, Nat.add_zero]
        rw [hx, ← hp64, Nat.mul_comm p 64, ← Nat.div_div_eq_div_mul, Nat.mul_add_div om_, Nat.div_eq_of_lt hb, Nat.add_zero] at h5
        exact h5
      have e2 := Nat.div_add_mod mp p
      rw [e1] at e2
      rw [e1, walk_ix h om_ hj]
      unfold seF
      have e3 : j * sizeF v = p * j * 64 := by rw [← hp64, Nat.mul_comm p j, Nat.mul_assoc]
      omega
    · right; exact n2.at_ _ hc
  unfold writeF
  rw [ch_set hk hD, n1]
  unfold fillF at h2 ⊢
  refine Eqo.fillTo h2 rfl _ (fun j hj => ?_) (fun j hj i hi hji => .inr rfl)
  rw [p0] at hj
  rw [h2.len, length_fillTo _ (fun j hj => by rw [p2] at hj; rw [l3]; exact hfit2 j hj), l3]
  exact hfit0 j hj
/-- Bytes that are written where a stream's lie. -/
theorem write_piece (h : Ok xs) (hn : ∀ x ∈ xs, x.name.length ≤ 31) (hk : k < xs.length) (hk0 : k ≠ 0) (hs : (xs.getD k default).stream = true) {q o : Nat} {c : List UInt8} (h1 : ∀ j, j < c.length → adF v st xs k (q + j) = o + j) (h2 : q + c.length ≤ (dtF xs k).length) (h0 : 0 < c.length) :
    spl o c (writeF v st xs) = writeF v st (setD xs k (spl q c (dtF xs k))) := by
  have hD : (spl q c (dtF xs k)).length = (dtF xs k).length := length_spl h2
  have hd := dat (v := v) (st := st) h hn hk hk0 hs
  have hl := length_writeF (v := v) (st := st) h hn
  have hfit := hd.fits h0 h1 h2
  have hE := write_set (v := v) (st := st) h hn hk hs hD
  have hk' : k < (setD xs k (spl q c (dtF xs k))).length := by rw [len_set]; exact hk
  have hd2 := dat (v := v) (st := st) (ok_set h hk hD) (names_set hn hk hD) hk' hk0 (by rw [get_self hk]; exact hs)
  rw [dt_set hk] at hd2
  apply List.ext_getElem?
  intro x
  rw [getElem?_spl hfit]
  by_cases hin : o ≤ x ∧ x < o + c.length
  · rw [if_neg om_, if_pos hin.2]
    have h3 := hd2 (q + (x - o)) om_
    rw [ad_set hk hD, h1 _ om_, show o + (x - o) = x by omega, getElem?_spl h2, if_neg om_, if_pos om_, show q + (x - o) - q = x - o by omega] at h3
    exact h3.symm
  · have e1 : (if x < o then (writeF v st xs)[x]? else if x < o + c.length then c[x - o]? else (writeF v st xs)[x]?) = (writeF v st xs)[x]? := by
      split
      · rfl
      · rw [if_neg om_]
    rw [e1]
    by_cases hx : inFile v st xs k x
    · obtain ⟨i, hi, rfl⟩ := hx
      have h3 := hd2 i om_
      rw [ad_set hk hD] at h3
      rw [h3, hd i hi, getElem?_spl h2]
      by_cases hq : i < q
      · rw [if_pos hq]
      · rw [if_neg hq]
        by_cases hq2 : i < q + c.length
        · exfalso
          have h4 := h1 (i - q) om_
          rw [show q + (i - q) = i by omega] at h4
          omega
        · rw [if_neg hq2]
    · exact (hE.at_ x hx).symm
end

/-! A stream of the file that Write makes, as a reader that has been opened holds it. -/
theorem Ct.inside {P : Program} {f : FuncId} {args : List Value} {pre H : Heap} {R : Value → Prop} (h : Ct P f args pre (fun v q => R v ∧ q = pre)) (hp : ∃ G, Pick H pre G) : Ct P f args H (fun v q => R v ∧ q = H) := by
  obtain ⟨G, hp⟩ := hp
  exact h.conseq hp.perm (by rintro v post ⟨hR, rfl⟩; exact ⟨H, ⟨hR, rfl⟩, hp.perm.symm⟩)
/-- The stream of a node. -/
def Rdr.src (R : Rdr) (f : Fil) (Z : Heap) (v st : Nat) (xs : List Nd) (k : Nat) : Src :=
  { bf := f.bf, bd := f.bd, br := R.br, ini := f.en.ini, ss := sizeF v, u := uF v xs k, size := (dtF xs k).length, nm := f.en.nm, path := f.en.path, rd := R.cells,
    G := (R.bh, blk R.hcells 137) :: (R.bhf, blk R.hc 142) :: (R.bs, blk [.slice (some ⟨R.bB, 0, none⟩) R.N R.cN] 103) :: (R.bB, blk (bys R.B ++ R.rB) 5) :: (f.bd, blk f.en.dc 112) :: (R.X ++ Z),
    cs := cnF v st xs k, of_ := ofF v st xs k, mini := decide ((dtF xs k).length < 4096) }
/-- What is asked of the reader, that it holds the file of the nodes xs. -/
structure Rdr.Of (R : Rdr) (v st : Nat) (xs : List Nd) : Prop where
  ok : Cfb.Ok xs
  nm : ∀ x ∈ xs, x.name.length ≤ 31
  B : R.B = writeF v st xs
  N : R.N = NF v xs
  cN : R.N ≤ R.cN
  ss : R.ss = sizeF v
  mi : MiniOk (miniF v st xs) R.m1 R.m2 R.X
  hc : R.hc = hcF ((R.B.drop 0).take 512) 109
section
variable {R : Rdr} {f : Fil} {Z : Heap} {v st : Nat} {xs : List Nd} {k : Nat}
theorem in_part {i u len : Nat} (hu : 0 < u) (h : i * u < len) : i < partsF len u := (lt_partsF hu).2 h
theorem src_ok (h : R.Of v st xs) (hk : k < xs.length) (hk0 : k ≠ 0) (hs : (xs.getD k default).stream = true) (hpos : 0 < (dtF xs k).length) : (R.src f Z v st xs k).Ok := by
  have hB := h.B
  have hN := h.N
  have hcN := h.cN
  have hss := h.ss
  have hz := size_ge v
  have hNF := NF_le (v := v) h.ok
  have hlen : R.B.length = R.N := by rw [hB, hN]; exact length_writeF h.ok h.nm
  have h9 : (dtF xs k).length ≤ 9000 := small_at h.ok hk
  have hu := uF_or (v := v) (xs := xs) (k := k)
  have rd1 : R.cells[1]? = some (uv (sizeF v)) := by rw [← hss]; rfl
  have hlc := length_cnF (v := v) (st := st) hk hs
  have inC : ∀ j, j * uF v xs k < (dtF xs k).length → j < (cnF v st xs k).length := fun j hj => by rw [hlc]; exact in_part om_ hj
  by_cases hl : (dtF xs k).length < 4096
  · have eu : uF v xs k = 64 := by unfold uF; rw [if_pos hl]
    have ec : cnF v st xs k = mnF st xs k := by unfold cnF; rw [if_pos hl]
    have inM : ∀ j, j * uF v xs k < (dtF xs k).length → j < (smF xs).getD k 0 := fun j hj => by have := inC j hj; rwa [ec, length_mnF] at this
    have hm0 : miF xs ≠ 0 := by
      have h1 := inM 0 om_
      have h2 := sum_take_succ (smF xs) k (by simpa [smF] using hk)
      unfold miF; omega
    have hmi := h.mi
    unfold miniF at hmi
    rw [if_neg hm0] at hmi
    obtain ⟨bm1, Tl, g2, cap2, r2, t1, t2, t3, t4, t5, t6⟩ := hmi
    have ht1 : ∀ q, q < (snF v st xs 1).length → Tl[q]? = some (uv (snx (snF v st xs 1) q)) := t2
    have c1 := chainOk (st := st) h.ok h.nm (show 1 < xs.length + 3 by omega) (v := v)
    have c2 := chainOk (st := st) h.ok h.nm (show 2 < xs.length + 3 by omega) (v := v)
    have hmi2 := miF_le h.ok
    refine ⟨.inl ⟨by simp [Rdr.src, hl], hl, eu⟩, rd1, hz, by show (dtF xs k).length ≤ _; omega, fun j hj => ?_, fun j hj => ?_, fun j hj => ?_, fun j hj => ?_⟩
    · show snx (cnF v st xs k) j ≤ _
      rw [ec]
      have := mn_lt (st := st) h.ok hk (inM j hj)
      omega
    · show ofF v st xs k j ≤ _
      unfold ofF
      rw [if_pos hl]
      have h1 := mini_sec (v := v) (st := st) h.ok hk (inM j hj)
      have h2 := c2.small (snx (mnF st xs k) j / (sizeF v / 64)) (by rw [length_snF]; exact h1)
      have h3 := c2.fit (snx (mnF st xs k) j / (sizeF v / 64)) (by rw [length_snF]; exact h1)
      have h4 := Nat.mod_lt (snx (mnF st xs k) j) (show 0 < sizeF v / 64 by omega)
      omega
    · have hj' := inM j hj
      obtain ⟨n1, n2, n3⟩ := mini_next (v := v) (st := st) h.ok h.nm hk hj' rfl
      have n4 := c1.small _ n1
      have hml := mn_lt (st := st) h.ok hk hj'
      have hl1 : (snF v st xs 1).length ≤ 10 := by rw [length_snF, cs_1]; exact (mfF_le (v := v) h.ok).1
      have hct := findNextM_ct R.br R.bh bm1 R.bs R.bB (sizeF v) (snx (mnF st xs k) j) (snx (snF v st xs 1) (snx (mnF st xs k) j / (sizeF v / 4))) 0 (snF v st xs 1).length (snF v st xs 1).length _ R.N R.cN R.B R.rB R.cells R.hcells Tl 67 rd1 rfl rfl (by rw [← t4]; rfl)
        (by rw [Nat.zero_add]; exact ht1 _ n1) n1 om_ hz om_ n4 rfl (by rw [hN]; exact n2) hlen hcN om_
      rw [hB, n3] at hct
      show Ct Tryd.prog 60 [pv R.br, uv (snx (cnF v st xs k) j), .bool (decide ((dtF xs k).length < 4096))] _ (fun v' q => v' = .tuple #[uv (snx (cnF v st xs k) (j + 1)), .nilIface] ∧ _)
      rw [ec, decide_eq_true hl]
      refine Ct.inside hct ?_
      show ∃ G, Pick ((R.br, blk R.cells 89) :: (R.bh, blk R.hcells 137) :: (R.bhf, blk R.hc 142) :: (R.bs, blk [.slice (some ⟨R.bB, 0, none⟩) R.N R.cN] 103) :: (R.bB, blk (bys R.B ++ R.rB) 5) :: (f.bd, blk f.en.dc 112) :: (R.X ++ Z)) _ G
      rw [t6, hB]
      exact ⟨_, Pick.cons (.here _ _) (Pick.cons (.here _ _) (Pick.cons (.there _ (.there _ (.there _ (.there _ (.here _ _))))) (Pick.cons (.there _ (.here _ _)) (Pick.cons (.there _ (.here _ _)) (Pick.nil _)))))⟩
    · have hj' := inM j hj
      have h1 := mini_sec (v := v) (st := st) h.ok hk hj'
      have h2 := c2.small (snx (mnF st xs k) j / (sizeF v / 64)) (by rw [length_snF]; exact h1)
      have hml := mn_lt (st := st) h.ok hk hj'
      have hl2 : (snF v st xs 2).length ≤ 160 := by rw [length_snF, cs_2]; exact cs2_le (v := v) h.ok
      have hat : (u32s (snF v st xs 2) ++ r2)[snx (mnF st xs k) j / (sizeF v / 64)]? = some (uv (snx (snF v st xs 2) (snx (mnF st xs k) j / (sizeF v / 64)))) := by
        rw [List.getElem?_append_left (by simp [length_snF]; exact h1), snx_in (snF v st xs 2) (by rw [length_snF]; exact h1)]
        exact at_u32s (by rw [length_snF]; exact h1) rfl
      have hct := getOffsetM_ct R.br R.bh g2 (sizeF v) (snx (mnF st xs k) j) (snx (snF v st xs 2) (snx (mnF st xs k) j / (sizeF v / 64))) (snF v st xs 2).length cap2 R.cells R.hcells (u32s (snF v st xs 2) ++ r2) 67 rd1 rfl (by rw [← t5]; rfl) hat
        (by rw [length_snF]; exact h1) om_ hz om_ h2
      show Ct Tryd.prog 62 [pv R.br, uv (snx (cnF v st xs k) j), .bool (decide ((dtF xs k).length < 4096))] _ (fun v' q => v' = .tuple #[nv (ofF v st xs k j), .nilIface] ∧ _)
      unfold ofF
      rw [ec, decide_eq_true hl, if_pos hl]
      refine Ct.inside hct ?_
      show ∃ G, Pick ((R.br, blk R.cells 89) :: (R.bh, blk R.hcells 137) :: (R.bhf, blk R.hc 142) :: (R.bs, blk [.slice (some ⟨R.bB, 0, none⟩) R.N R.cN] 103) :: (R.bB, blk (bys R.B ++ R.rB) 5) :: (f.bd, blk f.en.dc 112) :: (R.X ++ Z)) _ G
      rw [t6]
      exact ⟨_, Pick.cons (.here _ _) (Pick.cons (.here _ _) (Pick.cons (.there _ (.there _ (.there _ (.there _ (.there _ (.here _ _)))))) (Pick.nil _)))⟩
  · have eu : uF v xs k = sizeF v := by unfold uF; rw [if_neg hl]
    have ec : cnF v st xs k = snF v st xs (3 + k) := by unfold cnF; rw [if_neg hl]
    have inL : ∀ j, j * uF v xs k < (dtF xs k).length → j < (snF v st xs (3 + k)).length := fun j hj => by have := inC j hj; rwa [ec] at this
    have c3 := chainOk (st := st) h.ok h.nm (show 3 + k < xs.length + 3 by omega) (v := v)
    refine ⟨.inr ⟨by simp [Rdr.src, hl], by show 4096 ≤ (dtF xs k).length; omega, eu⟩, rd1, hz, by show (dtF xs k).length ≤ _; omega, fun j hj => ?_, fun j hj => ?_, fun j hj => ?_, fun j hj => ?_⟩
    · show snx (cnF v st xs k) j ≤ _
      rw [ec]; exact c3.small j (inL j hj)
    · show ofF v st xs k j ≤ _
      unfold ofF
      rw [if_neg hl]
      have := c3.fit j (inL j hj)
      omega
    · obtain ⟨sect, o, n1, n2, n3, n4, n5, n6⟩ := c3.next j (inL j hj)
      have n7 := c3.small j (inL j hj)
      have hct := findNext_ct R.br R.bh R.bhf R.bs R.bB (sizeF v) (snx (snF v st xs (3 + k)) j) sect 45 109 109 o R.N R.cN R.B R.rB R.cells R.hcells R.hc 142 rd1 rfl rfl rfl (by rw [h.hc, hB]; exact n1) n2 om_ hz om_ n3 n4 (by rw [hN]; exact n5) hlen hcN om_
      rw [hB, n6] at hct
      show Ct Tryd.prog 60 [pv R.br, uv (snx (cnF v st xs k) j), .bool (decide ((dtF xs k).length < 4096))] _ (fun v' q => v' = .tuple #[uv (snx (cnF v st xs k) (j + 1)), .nilIface] ∧ _)
      rw [ec, decide_eq_false hl]
      refine Ct.inside hct ?_
      show ∃ G, Pick ((R.br, blk R.cells 89) :: (R.bh, blk R.hcells 137) :: (R.bhf, blk R.hc 142) :: (R.bs, blk [.slice (some ⟨R.bB, 0, none⟩) R.N R.cN] 103) :: (R.bB, blk (bys R.B ++ R.rB) 5) :: (f.bd, blk f.en.dc 112) :: (R.X ++ Z)) _ G
      rw [hB]
      exact ⟨_, Pick.cons (.here _ _) (Pick.cons (.here _ _) (Pick.cons (.here _ _) (Pick.cons (.here _ _) (Pick.cons (.here _ _) (Pick.nil _)))))⟩
    · have n7 := c3.small j (inL j hj)
      have hct := getOffsetL_ct R.br (sizeF v) (snx (snF v st xs (3 + k)) j) R.cells rd1 hz n7
      show Ct Tryd.prog 62 [pv R.br, uv (snx (cnF v st xs k) j), .bool (decide ((dtF xs k).length < 4096))] _ (fun v' q => v' = .tuple #[nv (ofF v st xs k j), .nilIface] ∧ _)
      unfold ofF
      rw [ec, decide_eq_false hl, if_neg hl]
      exact Ct.inside hct ⟨_, Pick.cons (.here _ _) (Pick.nil _)⟩
/-- A reader's blocks, those of a stream ahead. -/
theorem src_split (hf : R.fs[k]? = some f) : ∃ Z, (2, blk R.ps R.T) ∈ Z ∧ (R.bo, blk (outs R.bfs R.out ++ R.ro) 90) ∈ Z ∧ ∀ v st xs i, R.H.Perm (enB R.br f.bf f.bd f.en :: (R.src f Z v st xs i).rb :: (R.src f Z v st xs i).G) := by
  obtain ⟨G1, hG⟩ := filsH_split (br := R.br) hf
  refine ⟨(R.bb, blk R.lb 5) :: (2, blk R.ps R.T) :: (R.g, blk (R.bfs.map pv ++ R.rn) 90) :: (R.bo, blk (outs R.bfs R.out ++ R.ro) 90) :: (G1 ++ psH R.pth), List.mem_cons_of_mem _ (List.mem_cons_self ..), List.mem_cons_of_mem _ (List.mem_cons_of_mem _ (List.mem_cons_of_mem _ (List.mem_cons_self ..))), fun v st xs i => ?_⟩
  unfold Rdr.H Rdr.src Src.rb
  generalize (R.br, blk R.cells 89) = a1
  generalize (R.bh, blk R.hcells 137) = a2
  generalize (R.bhf, blk R.hc 142) = a3
  generalize (R.bb, blk R.lb 5) = a4
  generalize (R.bs, blk [Value.slice (some ⟨R.bB, 0, none⟩) R.N R.cN] 103) = a5
  generalize (R.bB, blk (bys R.B ++ R.rB) 5) = a6
  generalize (2, blk R.ps R.T) = a7
  generalize (R.g, blk (R.bfs.map pv ++ R.rn) 90) = a8
  generalize (R.bo, blk (outs R.bfs R.out ++ R.ro) 90) = a9
  generalize (f.bd, blk f.en.dc 112) = b1 at hG
  generalize enB R.br f.bf f.bd f.en = b2 at hG
  have h1 : (filsH R.br R.fs ++ (psH R.pth ++ R.X)).Perm (b2 :: b1 :: (G1 ++ (psH R.pth ++ R.X))) := hG.append_right _
  have h2 : (G1 ++ (psH R.pth ++ R.X)).Perm (R.X ++ (G1 ++ psH R.pth)) := by rw [← List.append_assoc]; exact List.perm_append_comm
  have h3 : ([a1, a2, a3, a4, a5, a6, a7, a8, a9] ++ (filsH R.br R.fs ++ (psH R.pth ++ R.X))).Perm ([a1, a2, a3, a4, a5, a6, a7, a8, a9] ++ (b2 :: b1 :: (R.X ++ (G1 ++ psH R.pth)))) := (h1.trans ((h2.cons _).cons _)).append_left _
  refine h3.trans ?_
  have h4 : (R.X ++ (a4 :: a7 :: a8 :: a9 :: (G1 ++ psH R.pth))).Perm (a4 :: a7 :: a8 :: a9 :: (R.X ++ (G1 ++ psH R.pth))) := perm_front R.X [a4, a7, a8, a9] (G1 ++ psH R.pth)
  refine List.Perm.trans ?_ ((((((((h4.symm).cons b1).cons a6).cons a5).cons a3).cons a2).cons a1).cons b2)
  refine Prm.perm ?_
  show Prm (a1 :: a2 :: a3 :: a4 :: a5 :: a6 :: a7 :: a8 :: a9 :: b2 :: b1 :: (R.X ++ (G1 ++ psH R.pth))) _
  repeat (first | exact Prm.nil _ | exact Rem.here _ _ | apply Rem.there | apply Prm.cons)
end

/-! Steps that read a stream and seek in it, one behind the other. -/
/-- A slice of bytes, from its block's start. -/
def Sl (H : Heap) (v : Value) (d : List UInt8) : Prop := (d = [] ∧ v = .slice none 0 0) ∨ ∃ b cap rx, v = .slice (some ⟨b, 0, none⟩) d.length cap ∧ (b, blk (bys d ++ rx) 5) ∈ H
theorem Sl.more {H H' : Heap} {v : Value} {d : List UInt8} (h : Sl H v d) (hs : ∀ x ∈ H, x ∈ H') : Sl H' v d := h.imp id fun ⟨b, cap, rx, h1, h2⟩ => ⟨b, cap, rx, h1, hs _ h2⟩
theorem Sl.one {H : Heap} {v : Value} {d : List UInt8} (h : Sl H v d) : v.oneCell' = true := by
  rcases h with ⟨_, rfl⟩ | ⟨_, _, _, rfl, _⟩ <;> rfl
/-- S is a stream of the bytes D in a file of the bytes B. -/
structure Src.Of (S : Src) (B D : List UInt8) : Prop where
  size : D.length = S.size
  u0 : 0 < S.u
  ok : 0 < S.size → S.Ok
  rd : 0 < S.size → ∃ bs N, S.Rd bs N B
  dat : 0 < S.size → Dat S.ad B D
  bd : 0 < S.size → ∃ dc, (S.bd, blk dc 112) ∈ S.G ∧ dc[60]? = some (uv (snx S.cs 0))
/-- What a step does, and tells. -/
def Does (S : Src) (e0 : Nat × Obj) (st : List Value) (p p' : Nat) (d : List UInt8) (n c : Nat) : Prop :=
  ∀ k r, r < S.u → k * S.u + r = p → Ct Tryd.prog 37 [pv S.bf, .agg st.toArray] (S.fb p k r :: S.rb :: e0 :: S.G)
    (fun v q => ∃ k' r' dv RB, r' < S.u ∧ k' * S.u + r' = p' ∧ v = .tuple #[.agg [dv, nv n, nv c].toArray, .bool true] ∧ Sl RB dv d ∧ q = S.fb p' k' r' :: S.rb :: e0 :: (RB ++ S.G))
/-- What is known after j steps. -/
structure RInv (S : Src) (e0 : Nat × Obj) (B : List UInt8) (p : Nat → Nat) (d : Nat → List UInt8) (n c : Nat → Nat) (j : Nat) (rs : List (List Value)) (B2 : List UInt8) (H : Heap) : Prop where
  hB : B2 = B
  len : rs.length = j
  at_ : ∃ k r RB, r < S.u ∧ k * S.u + r = p j ∧ H.Perm (S.fb (p j) k r :: S.rb :: e0 :: (RB ++ S.G)) ∧ ∀ i, i < j → ∃ dv, rs.getD i [] = [dv, nv (n i), nv (c i)] ∧ Sl RB dv (d i)
theorem RInv.step {S : Src} {e0 : Nat × Obj} {B : List UInt8} {p : Nat → Nat} {d : Nat → List UInt8} {n c : Nat → Nat} {j : Nat} {rs : List (List Value)} {B2 : List UInt8} {H : Heap} (h : RInv S e0 B p d n c j rs B2 H) {st : List Value} (hd : Does S e0 st (p j) (p (j + 1)) (d j) (n j) (c j)) :
    Ct Tryd.prog 37 [pv S.bf, .agg st.toArray] H (fun v q => ∃ (r : List Value) (B2 : List UInt8), v = .tuple #[.agg r.toArray, .bool true] ∧ r.length = 3 ∧ (∀ u ∈ r, u.oneCell' = true) ∧ RInv S e0 B p d n c (j + 1) (rs ++ [r]) B2 q) := by
  obtain ⟨k, r, RB, h1, h2, h3, h4⟩ := h.at_
  have hl := h.len
  have hp1 : H.Perm ((S.fb (p j) k r :: S.rb :: e0 :: S.G) ++ RB) := h3.trans (((List.perm_append_comm.cons _).cons _).cons _)
  refine (hd k r h1 h2).conseq hp1 ?_
  rintro v post ⟨k', r', dv, RB1, g1, g2, rfl, g3, rfl⟩
  refine ⟨S.fb (p (j + 1)) k' r' :: S.rb :: e0 :: ((RB1 ++ RB) ++ S.G), ⟨[dv, nv (n j), nv (c j)], B, rfl, rfl, ?_, rfl, by simp [hl], k', r', RB1 ++ RB, g1, g2, .refl _, ?_⟩, ?_⟩
  · intro u hu
    simp only [List.mem_cons, List.not_mem_nil, or_false] at hu
    rcases hu with rfl | rfl | rfl
    · exact g3.one
    · rfl
    · rfl
  · intro i hi
    by_cases e : i < j
    · obtain ⟨dv', h5, h6⟩ := h4 i e
      refine ⟨dv', ?_, h6.more fun x hx => List.mem_append_right _ hx⟩
      rw [List.getD_eq_getElem?_getD, List.getElem?_append_left om_, ← List.getD_eq_getElem?_getD]; exact h5
    · have : i = j := by omega
      subst this
      refine ⟨dv, ?_, g3.more fun x hx => List.mem_append_left _ hx⟩
      rw [List.getD_eq_getElem?_getD, List.getElem?_append_right om_, hl, Nat.sub_self]; rfl
  · show (S.fb (p (j + 1)) k' r' :: S.rb :: e0 :: ((RB1 ++ S.G) ++ RB)).Perm _
    refine ((List.Perm.cons _ ?_).cons _).cons _
    rw [List.append_assoc, List.append_assoc]
    exact List.Perm.append_left _ List.perm_append_comm
/-! ### the reader's stream -/
section
variable {ps : List Value} {T : TypeId} {four : Bool} {st : Nat} {ns : List Nm} {o : List (Nat × List (List UInt8))}
theorem ROk.rdr {R : Rdr} {tn : List Tn} {es : List En} {v : Nat} {xs : List Nd} (hx : Ok xs) (hn : ∀ x ∈ xs, x.name.length ≤ 31) (hr : ROk R ps T (writeF v st xs) (NF v xs) (sizeF v) es tn (miniF v st xs)) : R.Of v st xs := by
  obtain ⟨er, hok⟩ := hr.ok
  exact ⟨hx, hn, hr.hB, hr.hN, by rw [hr.hN]; exact hr.hcN, hr.hss, hok.mini, hok.hc⟩
theorem st_start {v : Nat} {xs : List Nd} (hx : Ok xs) {k : Nat} (hk : k < xs.length) (hk0 : k ≠ 0) (hs : (xs.getD k default).stream = true) : stF v st xs k = snx (cnF v st xs k) 0 := by
  unfold stF cnF
  rw [if_neg hk0, if_pos hs]
  by_cases hl : (dtF xs k).length < 4096
  · rw [if_pos hl, if_pos hl]
    by_cases h0 : 0 < (smF xs).getD k 0
    · exact mch_at hx hk h0
    · have e0 : (smF xs).getD k 0 = 0 := by omega
      have := mch_end (v := v) (st := st) hx hk
      rw [e0] at this
      rw [snx_end _ (by rw [length_mnF]; omega)]
      exact this
  · rw [if_neg hl, if_neg hl, out_start hx om_]
    have hz := size_ge v
    have hc : 0 < (csF v xs).getD (3 + k) 0 := by
      rw [← parts_large hk hs hl]
      exact in_part om_ (show 0 * sizeF v < (dtF xs k).length by omega)
    rw [if_neg om_, snx_in _ (by rw [length_snF]; exact hc), snF_at hc]
/-- A file of the reader, as it stands when the reader has been opened. -/
theorem src_file {R : Rdr} {f : Fil} {Z : Heap} {v : Nat} {xs : List Nd} {nm : Nat → List UInt8} (hx : Ok xs) {k : Nat} (hk : k < xs.length) (hk0 : k ≠ 0) (hs : (xs.getD k default).stream = true) (he : f.en.noPath = (enF v st xs nm k).noPath) (hn : ∀ x ∈ xs, x.name.length ≤ 31) :
    enB R.br f.bf f.bd f.en = (R.src f Z v st xs k).fb 0 0 0 ∧ f.en.dc[60]? = some (uv (snx (cnF v st xs k) 0)) := by
  have e1 : (enF v st xs nm k).noPath = ⟨nm k, ((xs.getD k default).name.getD 0 0).toNat, .nilIface, (szOfN xs k : Int), 0, stF v st xs k, 0, de12F (dsecF v st xs (k / (sizeF v / 128))) (k % (sizeF v / 128) * 128)⟩ := by
    unfold enF En.noPath
    rw [if_pos hk]
  rw [e1] at he
  have n3 : f.en.size = (szOfN xs k : Int) := by have := congrArg En.size he; exact this
  have n4 : f.en.pos = 0 := by have := congrArg En.pos he; exact this
  have n5 : f.en.cur = stF v st xs k := by have := congrArg En.cur he; exact this
  have n6 : f.en.rem = 0 := by have := congrArg En.rem he; exact this
  have n7 : f.en.dc = de12F (dsecF v st xs (k / (sizeF v / 128))) (k % (sizeF v / 128) * 128) := by have := congrArg En.dc he; exact this
  have hsz : szOfN xs k = (dtF xs k).length := by
    unfold szOfN kdF lnF
    rw [if_neg hk0, if_neg hk0, if_pos hs, if_pos (show UInt8.toNat 2 = 2 from rfl), if_pos hs]
  have hst := st_start (v := v) (st := st) hx hk hk0 hs
  refine ⟨?_, ?_⟩
  · unfold enB
    rw [n3, n4, n5, n6, hsz, hst]
    rfl
  · have hz : sizeF v / 128 * 128 = sizeF v := by rcases sizeF_or v with e | e <;> rw [e]
    have hpos : 0 < sizeF v / 128 := by rcases sizeF_or v with e | e <;> rw [e] <;> omega
    have hkc : k < cntF v xs := by have := cnt_le (v := v) hx; omega
    have hj : k / (sizeF v / 128) < dsF v xs := (Nat.div_lt_iff_lt_mul hpos).2 hkc
    have hi : k % (sizeF v / 128) < sizeF v / 128 := Nat.mod_lt _ hpos
    have hkk : k = k / (sizeF v / 128) * (sizeF v / 128) + k % (sizeF v / 128) := by rw [Nat.mul_comm]; exact (Nat.div_add_mod _ _).symm
    have ha := ent_X (st := st) hx hn hj hi hkk hk
    have hX : k % (sizeF v / 128) * 128 + 128 ≤ (dsecF v st xs (k / (sizeF v / 128))).length := by unfold dsecF; rw [ha.st.len]; omega
    have p4 : (256 : Nat) ^ 4 = 4294967296 := rfl
    rw [n7, de_st _ _ hX]
    have hl := stF_lt (v := v) (st := st) hx hk
    have := ha.st.num om_
    unfold dsecF
    rw [this, hst]
end

/-! The reader's steps over a stream: what they tell. -/
theorem Ct.cutP {P : Program} {f : FuncId} {args : List Value} {pre : Heap} {R R' : Value → Heap → Prop} (h : Ct P f args pre R) (hr : ∀ v post, R v post → ∃ post' Z, R' v post' ∧ post.Perm (post' ++ Z)) : Ct P f args pre R' := by
  intro E F w hh
  refine (h E F w hh).mono ?_
  rintro e w' ⟨v, post, he, hR, ha⟩
  obtain ⟨post', Z, h1, h2⟩ := hr v post hR
  refine ⟨v, post', he, h1, ?_⟩
  have h3 := ha.perm (List.Perm.append_right F h2)
  rw [List.append_assoc] at h3
  exact h3.sub (List.Sublist.append_left (List.sublist_append_right Z F) _)
section
variable {ps : List Value} {T : TypeId} {four : Bool} {st : Nat} {ns : List Nm} {o : List (Nat × List (List UInt8))}
abbrev nmF4 (four : Bool) (ns : List Nm) : Nat := NF (verF four) (ns.map Nm.nd)
abbrev wrF4 (four : Bool) (st : Nat) (ns : List Nm) : List UInt8 := writeF (verF four) st (ns.map Nm.nd)
end

/-! Values: slices of bytes wherever they lie, as texts. -/
/-- A slice of the bytes d, wherever it lies. -/
def By (H : Heap) (v : Value) (d : List UInt8) : Prop := ∃ p n c, v = .slice p n c ∧ d.length = n ∧ (n = 0 ∨ ∃ b off l T fz, p = some ⟨b, off, none⟩ ∧ (b, Obj.cells (List.toArray l) T fz) ∈ H ∧ (l.drop off).take n = bys d)
theorem By.more {H H' : Heap} {v : Value} {d : List UInt8} (h : By H v d) (hs : ∀ x ∈ H, x ∈ H') : By H' v d := by
  obtain ⟨p, n, c, h1, h2, h3⟩ := h
  exact ⟨p, n, c, h1, h2, h3.imp id fun ⟨b, off, l, T, fz, g1, g2, g3⟩ => ⟨b, off, l, T, fz, g1, hs _ g2, g3⟩⟩
theorem Sl.by {H : Heap} {v : Value} {d : List UInt8} (h : Sl H v d) : By H v d := by
  rcases h with ⟨rfl, rfl⟩ | ⟨b, cap, rx, rfl, h2⟩
  · exact ⟨_, _, _, rfl, rfl, .inl rfl⟩
  · refine ⟨_, _, _, rfl, rfl, .inr ⟨b, 0, _, _, _, rfl, h2, ?_⟩⟩
    rw [List.drop_zero, List.take_append_of_le_length (by simp), List.take_of_length_le (by simp)]
/-- A part of a slice. -/
theorem By.part {H : Heap} {b off n : Nat} {l : List Value} {T : TypeId} {fz : Nat × Nat} {d : List UInt8} (hm : (b, Obj.cells l.toArray T fz) ∈ H) (hd : (l.drop off).take d.length = bys d) {a z c' : Nat} (ha : a ≤ z) (hz : z ≤ d.length) (hn : n = z - a) {o' : Nat} (ho : o' = off + a) :
    By H (.slice (some ⟨b, o', none⟩) n c') ((d.drop a).take (z - a)) := by
  subst hn ho
  refine ⟨_, _, _, rfl, by simp; omega, .inr ⟨b, off + a, l, T, fz, rfl, hm, ?_⟩⟩
  have : bys ((d.drop a).take (z - a)) = ((bys d).drop a).take (z - a) := by simp [bys, List.map_take, List.map_drop]
  rw [this, ← hd, List.drop_take, List.take_take, List.drop_drop, Nat.min_eq_left om_]
theorem pick_all : ∀ (H : Heap), Pick H H []
  | [] => .nil _
  | a :: H => .cons (.here _ _) (pick_all H)
section
variable {E : World} {L : Fra} {H : Heap} {dst : Option Tmp} {ty : TypeId} {pos : String} {aft : Array Edge} {gd : Option (Nat × Bool)}
theorem Yh_by {x : Operand} {v : Value} {d : List UInt8} (hx : ev L x = some v) (h : By H v d) : Yh Tryd.prog E L H ⟨dst, .convert 23 9 x, ty, pos, aft, gd⟩ (.string (bar d)) := by
  obtain ⟨p, n, c, rfl, h2, h3⟩ := h
  rcases h3 with rfl | ⟨b, off, l, T, fz, rfl, hm, h4⟩
  · intro _ a w hf hh
    obtain ⟨inf, h1, _, _⟩ := slOf_u sl_23
    have h2' := inOf_u in_5
    have h3 := isStr_u st_9
    have hr := run_convert_bytes_string (P := Tryd.prog) w 23 9 5 p 0 c h1 h2' h3
    have hd : d = [] := List.length_eq_zero_iff.1 h2
    subst hd
    have hb : (Conv.bytesToString (.slice p 0 c)).run Tryd.prog w = .ok (.string (bar [])) w := by
      cases p with
      | none => rfl
      | some a => exact run_bytesToString (P := Tryd.prog) w a 0 c [] (by simp [loadCells, loadCellsFrom])
    simp only [execOp, hf.eval hx, Sem.run_bind, hr, hb, Result.andThen_ok]
    rfl
  · exact Yh_bytesStr hx sl_23 in_5 st_9 hm h4 h2
end

/-! Walks: streamOf; same, wherever the bytes lie. -/
theorem streamOf_ct (ns : List Nm) (g cap tn : Nat) (rn : List Value) (o : List (Nat × List (List UInt8))) (htn : tn ≤ 255) (hk2 : ns.length ≤ 1000) (hol : o.length ≤ 1000) (ho : OT (lfF ns) (rtF ns) (chdF ns) (nmOf ns) ((0 : Nat) : Int) [] o) (hk : ∀ k ∈ o.map Prod.fst, k < ns.length) :
  Ct Tryd.prog 19 [.slice (some ⟨g, 0, none⟩) ns.length cap, .int .u8 (tn : Int)] [(g, blk (nms ns ++ rn) 43)] (fun v q => ∃ e k b, v = .tuple #[nv e, nv k, .bool b] ∧ (b = true → e < o.length ∧ (o.getD e default).1 = k ∧ (ns.getD k default).nd.stream = true) ∧ q = [(g, blk (nms ns ++ rn) 43)]) := by
 refine Ct_of Tryd.func19 rfl Tryd.ntmps19 rfl ?_
 intro E F
 simp only [numL, List.nil_append, List.cons_append]
 refine CW_sr ?_
 refine RW_a ?_
 refine RW_a ?_
 refine RW_a ?_
 refine RW_lv (ks := [0, 1]) ?_
 refine CW_sr ?_
 refine RW_m ?_
 refine RW_fx rfl rfl rfl (Fx_call ok_17 (vs := [.slice (some ⟨g, 0, none⟩) ns.length cap]) rfl (Pick.cons (.here _ _) (Pick.nil _)) (Order_ct ns g cap rn o hk2 hol ho hk)) ?_
 rintro _ _ ⟨_, ⟨vs, oO, co, ro, oP, cp, rp, ppO, rfl, hvs, hro, hrp, rfl⟩, rfl⟩
 simp only [List.cons_append]
 refine RW_m ?_
 refine RW_l (Yl_extract (v := .slice (some ⟨oO, 0, none⟩) o.length co) rfl rfl) ?_
 refine RW_l (Yl_extract (v := .slice (some ⟨oP, 0, none⟩) o.length cp) rfl rfl) ?_
 refine RW_a ?_
 refine RW_a ?_
 refine RW_lv (ks := [0, 1, 7]) ?_
 refine CW_seq ?_
 refine CW_seq ?_
 refine CW_drop (H' := (g, blk (nms ns ++ rn) 43) :: (oO, blk (nats (o.map Prod.fst) ++ ro) 3) :: F) (.cons_cons _ (.cons_cons _ (.cons _ (List.sublist_append_right _ _)))) ?_
 refine CW_region ?_
 refine RW_m ?_
 refine RW_l (Yl_len rfl sl_29) ?_
 refine RW_m ?_
 refine RW_lv (ks := [0, 1, 7, 17, 18]) ?_
 refine CW_block ?_
 refine CW_lp (σ := Nat) (fun x => [(0, .slice (some ⟨g, 0, none⟩) ns.length cap), (1, .int .u8 (tn : Int)), (7, .slice (some ⟨oO, 0, none⟩) o.length co), (17, nv o.length), (18, nv x)]) (fun _ => (g, blk (nms ns ++ rn) 43) :: (oO, blk (nats (o.map Prod.fst) ++ ro) 3) :: F) (fun x => x ≤ o.length) (fun x => o.length - x) 0 (Nat.zero_le _) ?_
 rintro x hx
 refine CW_sr ?_
 refine RW_l (Yl_lss rfl rfl) ?_
 refine RW_lv (ks := [0, 1, 7, 17, 18, 19]) ?_
 refine CW_seq ?_
 refine CW_cond rfl (fun hc1 => ?_) (fun hc1 => ?_)
 ·replace hc1 := of_decide_eq_true hc1
  refine (CW_skip (QW_lv (ks := [0, 1, 7, 17, 18]) ?_))
  refine CW_seq ?_
  refine CW_block ?_
  refine CW_sr ?_
  refine RW_m ?_
  refine RW_a ?_
  refine RW_lv (ks := [0, 1, 7, 9, 17, 18]) ?_
  refine CW_sr ?_
  refine RW_m ?_
  refine RW_l (Yl_conv (c := (tn : Int)) rfl in_5 in_3 (wi64 om_ om_)) ?_
  refine RW_m ?_
  refine RW_l (Yl_add (c := ((tn + x : Nat) : Int)) rfl rfl (wi64 om_ om_)) ?_
  refine RW_m ?_
  refine RW_l (Yl_len rfl sl_29) ?_
  refine RW_l (Yl_rem (c := (((tn + x) % o.length : Nat) : Int)) rfl rfl om_ (remN (tn + x) o.length)) ?_
  refine RW_a ?_
  refine RW_lv (ks := [0, 1, 7, 10, 17, 18]) ?_
  refine CW_seq ?_
  obtain ⟨ix, hixe⟩ : ∃ ix, ix = (tn + x) % o.length := ⟨_, rfl⟩
  have hix : ix < o.length := by rw [hixe]; exact Nat.mod_lt _ om_
  rw [← hixe]
  obtain ⟨k, hk1⟩ : ∃ k, (o.getD ix default).1 = k := ⟨_, rfl⟩
  have hkn : k < ns.length := by
   have hoi : o.getD ix default ∈ o := by rw [List.getD_eq_getElem?_getD, List.getElem?_eq_getElem hix]; exact List.getElem_mem _
   rw [← hk1]; exact hk _ (List.mem_map.2 ⟨_, hoi, rfl⟩)
  refine CW_region ?_
  refine RW_m ?_
  refine RW_m ?_
  refine RW_m ?_
  refine RW_l (Yl_indexN (b := oO) (off := 0) (i := ix) (o' := ix) rfl rfl sl_29 om_ om_) ?_
  refine RW_h (Yh_lh (v := nv k) sc_3 (fst_at hix hk1)) ?_
  refine RW_l (Yl_indexN (b := g) (off := 0) (i := k) (o' := k * 28) rfl rfl sl_25 hkn om_) ?_
  refine RW_l (Yl_field rfl fo_43_1) ?_
  refine RW_h (Yh_load (v := .bool (ns.getD k default).nd.stream) rfl sc_4 mem_ (by rw [nms_cell _ _ _ 1 hkn om_]; rfl)) ?_
  refine RW_lv (ks := [0, 1, 7, 10, 17, 18, 35]) ?_
  refine CW_cond rfl (fun hc2 => ?_) (fun hc2 => ?_)
  ·skip
   have hstr : (ns.getD k default).nd.stream = true := hc2
   refine CW_seq ?_
   refine CW_draw [] _ mixed (Sub.refl _) ?_
   refine RD_l 0 rfl (Yl_move rfl) ?_
   refine RD_l 1 rfl (Yl_move rfl) ?_
   refine RD_l 2 rfl (Yl_move rfl) ?_
   refine RD_l 3 rfl (Yl_indexN (b := oO) (off := 0) (i := ix) (o' := ix) rfl rfl sl_29 om_ om_) ?_
   refine RD_l 5 rfl (Yl_assign rfl) ?_
   refine RD_h (i := 4) #[true, true, true, true, false, true, false, false] rfl rfl rfl rfl kr_ (fun _ _ _ h => h) (Yh_lh (v := nv k) sc_3 (fst_at hix hk1)) ?_
   refine RD_l 6 rfl (Yl_assign rfl) ?_
   refine RD_l 7 rfl (Yl_assign rfl) ?_
   refine (RD_done kr_ (QW_lv (ks := [4, 5, 6]) ?_))
   refine CW_ret ?_
   refine QW_ret_block ?_
   refine QW_ret_then ?_
   refine QW_ret_then ?_
   refine QW_ret_block ?_
   refine QW_ret_then ?_
   refine QW_dropB (e := (oO, _)) rem_ ?_
   first
    | exact QW_ret3 rfl rfl rfl rfl [(g, blk (nms ns ++ rn) 43)] ⟨ix, k, true, rfl, fun _ => ⟨hix, hk1, hstr⟩, rfl⟩ (Prm.nil _)
    | exact QW_ret3 rfl rfl rfl rfl [(g, blk (nms ns ++ rn) 43)] ⟨0, 0, false, rfl, fun h => (by cases h), rfl⟩ (Prm.nil _)
  ·skip
   refine CW_skip ?_
   refine QW_normal_block ?_
   refine (QW_lv (ks := [0, 1, 7, 17, 18]) ?_)
   refine CW_region ?_
   refine RW_l (Yl_add (c := ((x + 1 : Nat) : Int)) rfl rfl (wi64 om_ om_)) ?_
   refine RW_m ?_
   refine RW_nil ?_
   exact QW_rn (x + 1) om_ om_
 ·replace hc1 := of_decide_eq_false hc1
  refine CW_exit ?_
  refine QW_exit_then ?_
  refine QW_exit_then ?_
  refine QW_exit_block ?_
  refine (QW_lv (ks := []) ?_)
  refine CW_sr ?_
  refine RW_a ?_
  refine RW_a ?_
  refine RW_a ?_
  refine RW_lv (ks := [4, 5, 6]) ?_
  refine CW_ret ?_
  refine QW_dropB (e := (oO, _)) rem_ ?_
  first
   | exact QW_ret3 rfl rfl rfl rfl [(g, blk (nms ns ++ rn) 43)] ⟨ix, k, true, rfl, fun _ => ⟨hix, hk1, hstr⟩, rfl⟩ (Prm.nil _)
   | exact QW_ret3 rfl rfl rfl rfl [(g, blk (nms ns ++ rn) 43)] ⟨0, 0, false, rfl, fun h => (by cases h), rfl⟩ (Prm.nil _)
theorem same_by (H : Heap) (v1 v2 : Value) (d : List UInt8) (h1 : By H v1 d) (h2 : By H v2 d) : Ct Tryd.prog 21 [v1, v2] H (fun v q => v = .bool true ∧ q = H) := by
 refine Ct_of Tryd.func21 rfl Tryd.ntmps21 rfl ?_
 intro E F
 simp only [numL, List.nil_append, List.cons_append]
 refine CW_sr ?_
 refine RW_a ?_
 refine RW_lv (ks := [0, 1]) ?_
 refine CW_sr ?_
 refine RW_m ?_
 refine RW_h (Yh_by rfl (h1.more fun x hx => List.mem_append_left _ hx)) ?_
 refine RW_m ?_
 refine RW_h (Yh_by rfl (h2.more fun x hx => List.mem_append_left _ hx)) ?_
 refine RW_l (Yl_strEqT rfl rfl) ?_
 refine RW_a ?_
 refine RW_lv (ks := [4]) ?_
 refine CW_ret ?_
 exact QW_ret1 rfl rfl H ⟨rfl, rfl⟩ (Prm.nil _)

/-! A stream's node; a stream is read piece by piece. -/
theorem NodesOk.notroot {ns : List Nm} (h : NodesOk ns) {k : Nat} (hs : (ns.getD k default).nd.stream = true) : k ≠ 0 := by
  rintro rfl
  obtain ⟨c, e⟩ := h.root
  rw [e] at hs
  exact Bool.noConfusion (show false = true from hs)
/-- A part of a node's bytes. -/
@[reducible] def Nm.cut (x : Nm) (a z : Nat) : Value := .slice (cutAt (x.b.map fun b => ⟨b, 0, none⟩) x.cap a 1) (z - a) (x.cap - a)
theorem nmsH_mem {ns : List Nm} {k : Nat} (hk : k < ns.length) : ∀ e ∈ (ns.getD k default).heap, e ∈ nmsH ns := by
  intro e he
  refine List.mem_flatMap.2 ⟨_, ?_, he⟩
  rw [List.getD_eq_getElem?_getD, List.getElem?_eq_getElem hk]; exact List.getElem_mem _

/-! Plans: steps that read a stream, seek in it, read it at a place; what they tell. -/
inductive Pl where
  | rd (n : Nat)
  | ra (a n : Nat)
  | sk (wh : Nat) (off : Int) (to : Nat)
instance : Inhabited Pl := ⟨.rd 0⟩
def Pl.cells : Pl → List Value
  | .rd n => [nv 0, nv n, .int .i64 0, nv 0, .slice none 0 0]
  | .ra a n => [nv 2, nv n, nv a, nv 0, .slice none 0 0]
  | .sk wh off _ => [nv 1, nv 0, .int .i64 off, nv wh, .slice none 0 0]
def Pl.next (sz p : Nat) : Pl → Nat
  | .rd n => p + min n (sz - p)
  | .ra _ _ => p
  | .sk _ _ to => to
def Pl.dat (D : List UInt8) (p : Nat) : Pl → List UInt8
  | .rd n => (D.drop p).take n
  | .ra a n => (D.drop a).take n
  | .sk _ _ _ => []
def Pl.num (sz p : Nat) : Pl → Nat
  | .rd n => min n (sz - p)
  | .ra a n => min n (sz - a)
  | .sk _ _ to => to
def Pl.ok (sz p : Nat) : Pl → Prop
  | .rd n => 0 < n ∧ n ≤ 65536
  | .ra a n => a < sz ∧ 0 < n ∧ n ≤ 65536
  | .sk wh off to => to < sz ∧ ((wh = 0 ∧ off = (to : Int)) ∨ (wh = 1 ∧ (p : Int) + off = (to : Int)))
/-- Where the stream stands after j steps. -/
def posA (sz : Nat) (pl : List Pl) (j : Nat) : Nat := (pl.take j).foldl (fun p s => s.next sz p) 0
theorem posA_succ (sz : Nat) (pl : List Pl) {j : Nat} (h : j < pl.length) : posA sz pl (j + 1) = (pl.getD j default).next sz (posA sz pl j) := by
  unfold posA
  rw [List.take_succ_eq_append_getElem h, List.foldl_append]
  simp [List.getD_eq_getElem?_getD, h]
theorem posA_app (sz : Nat) (pl more : List Pl) {j : Nat} (h : j ≤ pl.length) : posA sz (pl ++ more) j = posA sz pl j := by
  unfold posA; rw [List.take_append_of_le_length h]
/-- A plan that can be carried out. -/
def Plan (sz : Nat) (pl : List Pl) : Prop := ∀ j, j < pl.length → (pl.getD j default).ok sz (posA sz pl j)
theorem Plan.nil (sz : Nat) : Plan sz [] := fun j h => by simp at h
theorem Plan.snoc {sz : Nat} {pl : List Pl} {s : Pl} (h : Plan sz pl) (hs : s.ok sz (posA sz pl pl.length)) : Plan sz (pl ++ [s]) := by
  intro j hj
  rw [List.length_append, List.length_singleton] at hj
  by_cases e : j < pl.length
  · rw [List.getD_eq_getElem?_getD, List.getElem?_append_left e, ← List.getD_eq_getElem?_getD, posA_app _ _ _ om_]; exact h j e
  · have : j = pl.length := by omega
    subst this
    rw [List.getD_eq_getElem?_getD, List.getElem?_append_right om_, posA_app _ _ _ om_, Nat.sub_self]; exact hs
theorem Plan.pos {sz : Nat} {pl : List Pl} (h : Plan sz pl) : ∀ j, j ≤ pl.length → posA sz pl j ≤ sz := by
  intro j
  induction j with
  | zero => intro _; exact Nat.zero_le _
  | succ j ih =>
    intro hj
    have h1 := ih om_
    have h2 := h j om_
    rw [posA_succ sz pl om_]
    generalize pl.getD j default = s at h2
    cases s with
    | rd n => show _ + _ ≤ _; omega
    | ra a n => exact h1
    | sk wh off to => exact Nat.le_of_lt h2.1
theorem Pl.len5 (s : Pl) : s.cells.length = 5 := by cases s <;> rfl
theorem Pl.one5 (s : Pl) : ∀ u ∈ s.cells, u.oneCell' = true := by
  intro u hu
  cases s <;> (simp only [Pl.cells, List.mem_cons, List.not_mem_nil, or_false] at hu; rcases hu with rfl | rfl | rfl | rfl | rfl <;> rfl)
/-- Numbers of two bytes, in memory. -/
def U16Ok (H : Heap) (p : Option Addr) (zs : List Nat) : Prop := zs = [] ∨ ∃ b off l T fz, p = some ⟨b, off, none⟩ ∧ (b, Obj.cells (List.toArray l) T fz) ∈ H ∧ ∀ i, i < zs.length → zs.getD i 0 ≤ 65535 ∧ l[off + i]? = some (.int .u16 ((zs.getD i 0 : Nat) : Int))

end Go.Proofs.YtgoddcicbpjknaaDoor

/-! From a contract to a row: slices of numbers of two bytes; three slices. -/
set_option maxRecDepth 100000
namespace Go.Proofs.YtgoddcicbpjknaaDoor
open Go
open Cfb
open Go.ChangeShapes Go.WideShapes Go.ChangeAt Go.RowKit
theorem un_61 : Tryd.prog.underlying 61 = some (.slice 47) := by kernel_rfl
theorem un_47 : Tryd.prog.underlying 47 = some (.int .u16) := by kernel_rfl
theorem cells47 : Tryd.prog.cellsOf 47 = 1 := by kernel_rfl
theorem u16s_end {W : World} {L : Heap} {p : Option Addr} {n : Nat} (hm : ∀ p ∈ L, W.heap[p.1]? = some p.2) (hn : (L.map Prod.fst).Nodup)
    (h : n = 0 ∨ ∃ b off l T fz, ∃ zs : Nat → Int, p = some ⟨b, off, none⟩ ∧ W.heap[b]? = some (Obj.cells l T fz) ∧ ∀ i, i < n → l[off + i]? = some (.int .u16 (zs i)) ∧ (Lit.int .u16 (zs i)).wf = true) :
    ∃ N zs, (∀ p ∈ L ++ N, W.heap[p.1]? = some p.2) ∧ ((L ++ N).map Prod.fst).Nodup ∧ zs.length = n ∧ U16Ok (L ++ N) p zs := by
  rcases h with rfl | ⟨b, off, l, T, fz, zs, rfl, hb, hz⟩
  · exact ⟨[], [], by simpa using hm, by simpa using hn, rfl, .inl rfl⟩
  · obtain ⟨N, h1, h2, h3⟩ := add_end hm hn hb
    obtain ⟨l⟩ := l
    refine ⟨N, (List.range n).map fun i => (zs i).toNat, h1, h2, by simp, .inr ⟨b, off, l, T, fz, rfl, h3, fun i hi => ?_⟩⟩
    have hi' : i < n := by simpa using hi
    obtain ⟨h5, h6⟩ := hz i hi'
    have h7 : 0 ≤ zs i ∧ zs i ≤ 65535 := by simpa [Lit.wf, IntKind.min, IntKind.max, IntKind.signed, IntKind.bits] using h6
    have e : ((List.range n).map fun i => (zs i).toNat).getD i 0 = (zs i).toNat := by simp [List.getD_eq_getElem?_getD, hi']
    rw [e]
    refine ⟨by omega, ?_⟩
    have h8 : l[off + i]? = some (.int .u16 (zs i)) := by simpa using h5
    rw [h8]
    congr 2
    omega
theorem BytOk.mono' {H H' : Heap} {p : Option Addr} {n : Nat} (h : BytOk H p n) (hs : ∀ x ∈ H, x ∈ H') : BytOk H' p n := by
  rcases h with h | ⟨b, off, l, T, fz, h1, h2, h3⟩
  · exact .inl h
  · exact .inr ⟨b, off, l, T, fz, h1, hs _ h2, h3⟩
end Go.Proofs.YtgoddcicbpjknaaDoor

/-! From a contract to a row: numbers of two bytes in a heap of more blocks. -/
set_option maxRecDepth 100000
namespace Go.Proofs.YtgoddcicbpjknaaDoor
open Go
open Cfb
theorem U16Ok.mono' {H H' : Heap} {p : Option Addr} {zs : List Nat} (h : U16Ok H p zs) (hs : ∀ x ∈ H, x ∈ H') : U16Ok H' p zs := by
  rcases h with h | ⟨b, off, l, T, fz, h1, h2, h3⟩
  · exact .inl h
  · exact .inr ⟨b, off, l, T, fz, h1, hs _ h2, h3⟩
end Go.Proofs.YtgoddcicbpjknaaDoor

namespace Go.Proofs.YtgoddcicbpjknaaDoor
open Go
open Cfb

/-! Values: a stream that is written. -/
theorem mt_79w : mtOf Tryd.prog 79 "WriteAt" = some (94, true) := by kernel_rfl
theorem ha_79 : hasAll Tryd.prog 87 79 = true := by kernel_rfl
def nilI : Value → Bool
  | .nilIface => true
  | _ => false
theorem Yl_ifEqW {P : Program} {L : Fra} {dst : Option Tmp} {ty : TypeId} {pos : String} {aft : Array Edge} {gd : Option (Nat × Bool)} {x : Operand} {t u T : TypeId} {v w : Value} (hx : ev L x = some w) (hw : w = .nilIface ∨ w = .iface T v) (ht : isIf P t = true) : Yl P L ⟨dst, .binOp .eql t x (.const .nilIface) u, ty, pos, aft, gd⟩ (.bool (nilI w)) := by
  rcases hw with rfl | rfl
  · exact Yl_ifEqNil hx ht
  · exact Yl_ifEq hx ht
/-- A piece more is written. -/
theorem spl_more {p t l : Nat} {dd D : List UInt8} (h1 : t + l ≤ dd.length) (h2 : p + (t + l) ≤ D.length) : spl (p + t) ((dd.drop t).take l) (spl p (dd.take t) D) = spl p (dd.take (t + l)) D := by
  have e1 : (dd.take t).length = t := by simp; omega
  have e2 : ((dd.drop t).take l).length = l := by simp; omega
  have := spl_app (o := p) (a := dd.take t) (b := (dd.drop t).take l) (l := D) om_
  rw [e1] at this
  rw [this, List.take_add]
theorem spl_no {p : Nat} {dd D : List UInt8} : spl p (dd.take 0) D = D := by simp [spl]
@[reducible] def W8 (bs : Nat) : Value := .iface 79 (.pointer (some ⟨bs, 0, none⟩))
/-- The stream where its bytes are D, and w is the reader's writer. -/
@[reducible] def Src.sw (S : Src) (GD : List UInt8 → Heap) (w : Value) (D : List UInt8) : Src := { S with rd := S.rd.set 8 w, G := GD D }
@[reducible] def Src.rw (S : Src) (w : Value) : Nat × Obj := (S.br, blk (S.rd.set 8 w) 89)
structure Src.Wr (S : Src) (GD : List UInt8 → Heap) (bs : Nat) : Prop where
  ok : ∀ w D, D.length = S.size → (S.sw GD w D).Ok
  rd7 : S.rd[7]? = some (W8 bs)
  rd8 : 8 < S.rd.length
  bd : ∀ D, ∃ dc, (S.bd, blk dc 112) ∈ GD D ∧ dc[60]? = some (uv (snx S.cs 0))
  wr : ∀ D bp o m c off dd rx q, D.length = S.size → 0 < m → o + m ≤ dd.length → (∀ j, j < m → S.ad (q + j) = off + j) → q + m ≤ S.size →
    Ct Tryd.prog 94 [pv bs, .slice (some ⟨bp, o, none⟩) m c, nv off] ((bp, blk (bys dd ++ rx) 5) :: GD D) (fun v q' => v = .tuple #[nv m, .nilIface] ∧ q' = (bp, blk (bys dd ++ rx) 5) :: GD (spl q ((dd.drop o).take m) D))
section
variable {S : Src} {GD : List UInt8 → Heap} {bs : Nat}
theorem Src.Wr.u0 (h : S.Wr GD bs) : 64 ≤ S.u ∧ S.u ≤ 4096 := (h.ok .nilIface (List.replicate S.size 0) (by simp)).u1
theorem Src.Wr.size (h : S.Wr GD bs) : S.size ≤ 1000000 := (h.ok .nilIface (List.replicate S.size 0) (by simp)).sz
theorem Src.Wr.at8 (h : S.Wr GD bs) (w : Value) : (S.rd.set 8 w)[8]? = some w := List.getElem?_set_self h.rd8
theorem Src.Wr.at7 (h : S.Wr GD bs) (w : Value) : (S.rd.set 8 w)[7]? = some (W8 bs) := by rw [List.getElem?_set_ne (by decide)]; exact h.rd7
theorem Src.Wr.stream (h : S.Wr GD bs) (w : Value) (D : List UInt8) (hD : D.length = S.size) (pos k r sz : Nat) (hr : r < S.u) (h0 : 0 < sz) (hsz : k * S.u + r + sz ≤ S.size) :
    Ct Tryd.prog 52 [pv S.bf, nv sz] (S.fb pos k r :: S.rw w :: GD D) (fun v q => ∃ k' r' g l2 r2 cap, r' < S.u ∧ k' * S.u + r' = k * S.u + r + sz ∧ Run S.ad (k * S.u + r) l2 (k * S.u + r + sz) ∧ Small l2 ∧ (prs l2 ++ r2).length = cap * 2 ∧ cap ≤ 20000 ∧ v = .tuple #[.slice (some ⟨g, 0, none⟩) l2.length cap, .nilIface] ∧ q = (g, blk (prs l2 ++ r2) 128) :: S.fb pos k' r' :: S.rw w :: GD D) :=
  stream_ct (S.sw GD w D) (h.ok w D hD) pos k r sz hr h0 hsz
theorem Src.Wr.seek (h : S.Wr GD bs) (w : Value) (D : List UInt8) (hD : D.length = S.size) (p k r a : Nat) (hr : r < S.u) (hp : k * S.u + r = p) (hp2 : p ≤ S.size) (ha : a < S.size) :
    Ct Tryd.prog 42 [pv S.bf, nv a, nv 0] (S.fb p k r :: S.rw w :: GD D) (fun v q => v = .tuple #[nv a, .nilIface] ∧ ∃ k' r', r' < S.u ∧ k' * S.u + r' = a ∧ q = S.fb a k' r' :: S.rw w :: GD D) := by
  obtain ⟨dc, h1, h2⟩ := h.bd D
  exact Seek_ct (S.sw GD w D) (h.ok w D hD) p k r a 0 (a : Int) dc h1 h2 hr hp hp2 ha (.inl ⟨rfl, rfl⟩)
end
theorem p_rd3 (a b c d : Nat × Obj) (G F : Heap) : (a :: b :: c :: (G ++ (d :: F))).Perm (a :: b :: c :: d :: (G ++ F)) := perm_front (a :: b :: c :: G) [d] F |>.trans (List.Perm.refl _) |> fun h => h.trans (by
  refine Prm.perm ?_
  repeat (first | exact Prm.nil _ | exact Rem.here _ _ | apply Rem.there | apply Prm.cons))
theorem p_rd4 (x a b c d : Nat × Obj) (G F : Heap) : (x :: (G ++ (a :: b :: c :: d :: F))).Perm (a :: b :: c :: d :: x :: (G ++ F)) := perm_front (x :: G) [a, b, c, d] F

/-! Walks: a stream is written. -/
theorem spl_left {α : Type} {o : Nat} {a l r : List α} (h : o + a.length ≤ l.length) : spl o a (l ++ r) = spl o a l ++ r := by
 unfold spl
 rw [List.take_append_of_le_length om_, List.drop_append_of_le_length om_]
 simp
theorem storeWriteAt_ct (bs bB bp o m c N cN off : Nat) (B dd : List UInt8) (rB rx : List Value) (hB : B.length = N) (hcN : N ≤ cN) (hN : N ≤ 1000000000) (hm : 0 < m) (hoff : off + m ≤ N) (hlp : o + m ≤ dd.length) :
  Ct Tryd.prog 94 [.pointer (some ⟨bs, 0, none⟩), .slice (some ⟨bp, o, none⟩) m c, nv off] [(bs, blk [.slice (some ⟨bB, 0, none⟩) N cN] 103), (bB, blk (bys (B) ++ rB) 5), (bp, blk (bys dd ++ rx) 5)] (fun v q => v = .tuple #[nv m, .nilIface] ∧ q = [(bs, blk [.slice (some ⟨bB, 0, none⟩) N cN] 103), (bB, blk (bys (spl off ((dd.drop o).take m) B) ++ rB) 5), (bp, blk (bys dd ++ rx) 5)]) := by
 refine Ct_of Tryd.func94 rfl Tryd.ntmps94 rfl ?_
 intro E F
 simp only [numL, List.nil_append, List.cons_append]
 refine CW_sr ?_
 refine RW_a ?_
 refine RW_a ?_
 refine RW_lv (ks := [0, 1, 2]) ?_
 refine CW_seq ?_
 refine CW_sr ?_
 refine RW_m ?_
 refine RW_l (Yl_lssB false rfl rfl (decide_eq_false om_)) ?_
 refine RW_m ?_
 refine RW_gy rfl rfl rfl (Yl.h (Yl_move rfl)) ?_
 refine RW_gy rfl rfl rfl (Yl.h (Yl_move rfl)) ?_
 refine RW_gy rfl rfl rfl (Yl.h (Yl_nilCheck rfl)) ?_
 refine RW_gy rfl rfl rfl (Yl.h (Yl_field rfl fo_103_0)) ?_
 refine RW_gy rfl rfl rfl (Yh_ld (v := .slice (some ⟨bB, 0, none⟩) N cN) sc_23) ?_
 refine RW_gy rfl rfl rfl (Yl.h (Yl_len rfl sl_23)) ?_
 refine RW_gy rfl rfl rfl (Yl.h (Yl_gtrB false rfl rfl (decide_eq_false om_))) ?_
 refine RW_l (Yl_pick_f rfl rfl) ?_
 refine RW_lv (ks := [0, 1, 2, 19]) ?_
 refine CW_false rfl ?_
 refine (CW_skip (QW_lv (ks := [0, 1, 2]) ?_))
 refine CW_seq ?_
 have hcp : ((bys dd ++ rx).drop o).take (min m (N - off) * 1) = bys ((dd.drop o).take m) := by
  rw [Nat.min_eq_left om_, Nat.mul_one, List.drop_append_of_le_length (by simp; omega), List.take_append_of_le_length (by simp; omega)]; simp [bys, List.map_take, List.map_drop]
 have hsp : spl off (bys ((dd.drop o).take m)) (bys B ++ rB) = bys (spl off ((dd.drop o).take m) B) ++ rB := by
  have e1 : ((dd.drop o).take m).length = m := by simp; omega
  rw [spl_left (by simp; omega)]
  simp [spl, bys]
 refine CW_region ?_
 refine RW_m ?_
 refine RW_l (Yl_nilCheck rfl) ?_
 refine RW_l (Yl_field rfl fo_103_0) ?_
 refine RW_h (Yh_ld (v := .slice (some ⟨bB, 0, none⟩) N cN) sc_23) ?_
 refine RW_m ?_
 refine RW_l (Yl_cutLL (l := off) (o' := off) (m' := N - off) (c' := cN - off) rfl rfl sl_23 om_ om_ om_ rfl rfl) ?_
 refine RW_m ?_
 refine RW_fx rfl rfl rfl (Fx_copy (b := bB) (m := N - off) (ms := m) (offs := o) (off := off) (l := bys B ++ rB) (ls := bys dd ++ rx) rfl rfl sl_23 mem_ (by simp; omega) rep_ (by simp; omega) (by rw [hcp]; exact one_map one_bv _)) ?_
 rintro _ _ ⟨rfl, rfl⟩
 rw [hcp, hsp, Nat.min_eq_left (show m ≤ N - off by omega)]
 refine RW_a ?_
 refine RW_lv (ks := [1, 8]) ?_
 refine CW_seq ?_
 refine CW_sr ?_
 refine RW_m ?_
 refine RW_m ?_
 refine RW_l (Yl_len rfl sl_23) ?_
 refine RW_l (Yl_lssB false rfl rfl (decide_eq_false om_)) ?_
 refine RW_lv (ks := [8, 32]) ?_
 refine CW_false rfl ?_
 refine (CW_skip (QW_lv (ks := [8]) ?_))
 refine CW_sr ?_
 refine RW_m ?_
 refine RW_a ?_
 refine RW_a ?_
 refine RW_lv (ks := [6, 7]) ?_
 refine CW_ret ?_
 exact QW_ret2 rfl rfl rfl [_, _, _] ⟨rfl, rfl⟩ prm_
theorem Write_ct (S : Src) (GD : List UInt8 → Heap) (bs : Nat) (hW : S.Wr GD bs) (w : Value) (hw : w = .nilIface ∨ w = W8 bs) (D : List UInt8) (hDl : D.length = S.size) (p k r n : Nat) (hr : r < S.u) (hp : k * S.u + r = p) (hn : 0 < n) (hpn : p + n ≤ S.size) (bb c : Nat) (dd : List UInt8) (rx : List Value) (hdd : dd.length = n) (hnc : n ≤ c) :
  Ct Tryd.prog 44 [pv S.bf, .slice (some ⟨bb, 0, none⟩) n c] (S.fb (p) (k) (r) :: S.rw w :: (bb, blk (bys dd ++ rx) 5) :: GD D)
   (fun v q => ∃ k' r', r' < S.u ∧ k' * S.u + r' = p + n ∧ v = .tuple #[nv n, .nilIface] ∧ q = S.fb (p + n) (k') (r') :: S.rw (W8 bs) :: (bb, blk (bys dd ++ rx) 5) :: GD (spl p dd D)) := by
 have hsz1 := hW.size
 have hu1 := hW.u0
 refine Ct_of Tryd.func44 rfl Tryd.ntmps44 rfl ?_
 intro E F
 simp only [numL, List.nil_append, List.cons_append]
 refine CW_sr ?_
 refine RW_a ?_
 refine RW_a ?_
 refine RW_lv (ks := [0, 1]) ?_
 refine CW_seq ?_
 refine CW_seq ?_
 refine CW_draw [] _ mixed (Sub.refl _) ?_
 refine RD_l 0 rfl (Yl_move rfl) ?_
 refine RD_l 1 rfl (Yl_nilCheck rfl) ?_
 refine RD_l 2 rfl (Yl_field rfl fo_93_3) ?_
 refine RD_h (i := 3) #[true, true, true, false, false, false, false, false, false, false, false, false, false, false, false, false] rfl rfl rfl rfl kr_ (fun _ _ _ h => h) (Yh_ld (v := nv S.size) sc_2) ?_
 refine RD_l 4 rfl (Yl_lssB false rfl rfl (decide_eq_false om_)) ?_
 refine RD_l 5 rfl (Yl_move rfl) ?_
 refine RD_l 6 rfl (Yl_move rfl) ?_
 refine RD_l 7 rfl (Yl_nilCheck rfl) ?_
 refine RD_l 8 rfl (Yl_field rfl fo_93_4) ?_
 refine RD_l 10 rfl (Yl_move rfl) ?_
 refine RD_l 11 rfl (Yl_nilCheck rfl) ?_
 refine RD_l 12 rfl (Yl_field rfl fo_93_3) ?_
 refine RD_h (i := 9) #[true, true, true, true, true, true, true, true, true, false, true, true, true, true, false, false] rfl rfl rfl rfl kr_ (fun _ _ _ h => h) (Yh_ld (v := nv (p)) sc_2) ?_
 refine RD_h (i := 13) #[true, true, true, true, true, true, true, true, true, true, true, true, true, false, false, false] rfl rfl rfl rfl kr_ (fun _ _ _ h => h) (Yh_ld (v := nv S.size) sc_2) ?_
 refine RD_l 14 rfl (Yl_geqB false rfl rfl (decide_eq_false om_)) ?_
 refine RD_l 15 rfl (Yl_pick_f rfl rfl) ?_
 refine (RD_done kr_ (QW_lv (ks := [0, 1, 33]) ?_))
 refine CW_false rfl ?_
 refine (CW_skip (QW_lv (ks := [0, 1]) ?_))
 refine CW_cut (σ := Unit) (fun _ => [(0, pv S.bf), (1, .slice (some ⟨bb, 0, none⟩) n c)]) (fun _ => S.fb (p) (k) (r) :: S.rw (W8 bs) :: (bb, blk (bys dd ++ rx) 5) :: (GD (D) ++ F)) (fun _ => True) ?_ ?_
 ·skip
  refine CW_sr ?_
  refine RW_m ?_
  refine RW_l (Yl_nilCheck rfl) ?_
  refine RW_l (Yl_field rfl fo_93_8) ?_
  refine RW_h (Yh_ld (v := pv S.br) sc_78) ?_
  refine RW_l (Yl_nilCheck rfl) ?_
  refine RW_l (Yl_field rfl fo_89_8) ?_
  refine RW_h (Yh_lh (v := w) sc_87 (hW.at8 w)) ?_
  refine RW_l (Yl_ifEqW rfl hw if_87) ?_
  refine RW_lv (ks := [0, 1, 42]) ?_
  refine CW_cond rfl (fun hc1 => ?_) (fun hc1 => ?_)
  ·skip
   obtain rfl : w = .nilIface := by rcases hw with e | e; exact e; subst e; exact absurd hc1 (by simp [nilI])
   refine CW_sr ?_
   refine RW_m ?_
   refine RW_l (Yl_nilCheck rfl) ?_
   refine RW_l (Yl_field rfl fo_93_8) ?_
   refine RW_h (Yh_ld (v := pv S.br) sc_78) ?_
   refine RW_l (Yl_nilCheck rfl) ?_
   refine RW_l (Yl_field rfl fo_89_7) ?_
   refine RW_h (Yh_lh (v := W8 bs) sc_85 (hW.at7 _)) ?_
   refine RW_l (Yl_assertHas rfl ha_79) ?_
   refine RW_m ?_
   refine RW_l (Yl_extract (v := W8 bs) rfl rfl) ?_
   refine RW_l (Yl_extract (v := .bool true) rfl rfl) ?_
   refine RW_a ?_
   refine RW_a ?_
   refine RW_lv (ks := [0, 1, 6, 7]) ?_
   refine CW_seq ?_
   refine CW_sr ?_
   refine RW_m ?_
   refine RW_l (Yl_not rfl) ?_
   refine RW_lv (ks := [0, 1, 6, 55]) ?_
   refine CW_cond rfl (fun hc2 => ?_) (fun hc2 => ?_)
   ·skip
    exact absurd hc2 (by decide)
   ·skip
    refine (CW_skip (QW_lv (ks := [0, 1, 6]) ?_))
    refine CW_region ?_
    refine RW_m ?_
    refine RW_l (Yl_nilCheck rfl) ?_
    refine RW_l (Yl_field rfl fo_93_8) ?_
    refine RW_h (Yh_ld (v := pv S.br) sc_78) ?_
    refine RW_m ?_
    refine RW_l (Yl_nilCheck rfl) ?_
    refine RW_l (Yl_field rfl fo_89_8) ?_
    refine RW_fx0 rfl rfl (Fx_store (v := W8 bs) rfl rfl sz_87 rfl rep_ (by simpa using hW.rd8)) ?_
    rintro _ _ rfl
    refine RW_nil ?_
    first
     | (rw [List.set_set]; exact QW_cut () trivial (by repeat (first | exact Prm.nil _ | exact Rem.here _ _ | apply Rem.there | apply Prm.cons)) (.cons rfl (.cons rfl .nil)))
     | exact QW_cut () trivial (by repeat (first | exact Prm.nil _ | exact Rem.here _ _ | apply Rem.there | apply Prm.cons)) (.cons rfl (.cons rfl .nil))
  ·skip
   obtain rfl : w = W8 bs := by rcases hw with e | e; subst e; exact absurd hc1 (by simp [nilI]); exact e
   refine CW_skip ?_
   first
    | (rw [List.set_set]; exact QW_cut () trivial (by repeat (first | exact Prm.nil _ | exact Rem.here _ _ | apply Rem.there | apply Prm.cons)) (.cons rfl (.cons rfl .nil)))
    | exact QW_cut () trivial (by repeat (first | exact Prm.nil _ | exact Rem.here _ _ | apply Rem.there | apply Prm.cons)) (.cons rfl (.cons rfl .nil))
 ·rintro ⟨⟩ -
  refine CW_sr ?_
  refine RW_m ?_
  refine RW_l (Yl_len rfl sl_23) ?_
  refine RW_a ?_
  refine RW_lv (ks := [0, 1, 8]) ?_
  refine CW_seq ?_
  refine CW_seq ?_
  refine CW_draw [] _ mixed (Sub.refl _) ?_
  refine RD_l 0 rfl (Yl_move rfl) ?_
  refine RD_l 1 rfl (Yl_move rfl) ?_
  refine RD_l 2 rfl (Yl_nilCheck rfl) ?_
  refine RD_l 3 rfl (Yl_field rfl fo_93_3) ?_
  refine RD_l 5 rfl (Yl_move rfl) ?_
  refine RD_l 6 rfl (Yl_nilCheck rfl) ?_
  refine RD_l 7 rfl (Yl_field rfl fo_93_4) ?_
  refine RD_h (i := 4) #[true, true, true, true, false, true, true, true, true, false, false] rfl rfl rfl rfl kr_ (fun _ _ _ h => h) (Yh_ld (v := nv S.size) sc_2) ?_
  refine RD_h (i := 8) #[true, true, true, true, true, true, true, true, false, false, false] rfl rfl rfl rfl kr_ (fun _ _ _ h => h) (Yh_ld (v := nv (p)) sc_2) ?_
  refine RD_l 9 rfl (Yl_sub (c := ((S.size - p : Nat) : Int)) rfl rfl (by rw [wi64 om_ om_]; omega)) ?_
  refine RD_l 10 rfl (Yl_gtrB false rfl rfl (decide_eq_false om_)) ?_
  refine (RD_done kr_ (QW_lv (ks := [0, 1, 8, 77]) ?_))
  refine CW_false rfl ?_
  refine (CW_skip (QW_lv (ks := [0, 1, 8]) ?_))
  refine CW_sr ?_
  refine RW_m ?_
  refine RW_m ?_
  refine RW_fx rfl rfl rfl (Fx_call ok_52 (vs := [pv S.bf, nv n]) rfl (Pick.cons (.here _ _) (Pick.cons (.here _ _) (pick_mid (GD D) [_] F))) (hW.stream (W8 bs) D hDl p k r n hr hn om_)) ?_
  rintro _ _ ⟨_, ⟨k', r', g, l2, r2, cap, hr', hk', hrun, hsm, hlen, hcap, rfl, rfl⟩, rfl⟩
  simp only [List.cons_append, List.nil_append]
  refine RW_heap (p_rd3 _ _ _ _ _ _) ?_
  rw [hp] at hrun hk'
  refine RW_m ?_
  refine RW_l (Yl_extract (v := .slice (some ⟨g, 0, none⟩) l2.length cap) rfl rfl) ?_
  refine RW_l (Yl_extract (v := .nilIface) rfl rfl) ?_
  refine RW_a ?_
  refine RW_a ?_
  refine RW_lv (ks := [0, 1, 8, 9, 10]) ?_
  refine CW_seq ?_
  refine CW_sr ?_
  refine RW_m ?_
  refine RW_l (Yl_ifNeNil rfl if_105) ?_
  refine RW_lv (ks := [0, 1, 8, 9, 10, 94]) ?_
  refine CW_cond rfl (fun hc3 => ?_) (fun hc3 => ?_)
  ·skip
   exact absurd hc3 (by decide)
  ·skip
   refine (CW_skip (QW_lv (ks := [0, 1, 8, 9, 10]) ?_))
   refine CW_sr ?_
   refine RW_a ?_
   refine RW_a ?_
   refine RW_lv (ks := [0, 1, 8, 9, 10, 11, 12]) ?_
   refine CW_seq ?_
   refine CW_sr ?_
   refine RW_m ?_
   refine RW_l (Yl_len rfl sl_125) ?_
   refine RW_m ?_
   refine RW_lv (ks := [0, 1, 8, 10, 11, 12, 96, 97, 98]) ?_
   refine CW_block ?_
   refine CW_loop (σ := Nat) (fun x => [(0, pv S.bf), (1, .slice (some ⟨bb, 0, none⟩) n c), (8, nv n), (10, .nilIface), (11, nv (tot l2 x)), (12, nv (tot l2 x)), (96, .slice (some ⟨g, 0, none⟩) l2.length cap), (97, nv l2.length), (98, nv x)]) (fun x => (g, blk (prs l2 ++ r2) 128) :: S.fb (p) (k') (r') :: S.rw (W8 bs) :: (bb, blk (bys dd ++ rx) 5) :: (GD (spl p (dd.take (tot l2 (x))) D) ++ F)) (fun x => x ≤ l2.length) (fun x => l2.length - x) 0 (Nat.zero_le _) (by rw [show tot l2 0 = 0 from rfl, spl_no]; repeat (first | exact Prm.nil _ | exact Rem.here _ _ | apply Rem.there | apply Prm.cons)) kp_ ?_
   rintro x hx
   refine CW_sr ?_
   refine RW_l (Yl_lss rfl rfl) ?_
   refine RW_lv (ks := [0, 1, 8, 10, 11, 12, 96, 97, 98, 99]) ?_
   refine CW_seq ?_
   refine CW_cond rfl (fun hc4 => ?_) (fun hc4 => ?_)
   ·replace hc4 := of_decide_eq_true hc4
    refine (CW_skip (QW_lv (ks := [0, 1, 8, 10, 11, 12, 96, 97, 98]) ?_))
    refine CW_seq ?_
    refine CW_block ?_
    refine CW_seq ?_
    obtain ⟨hg1, hg2⟩ := hrun.get x om_
    have hts := tot_succ l2 x om_
    have hfs := hrun.fits (k := x + 1) om_
    have hcl : l2.length ≤ cap := by rw [List.length_append, length_prs] at hlen; omega
    have hfx := hrun.fits (k := x) om_
    have hDx : (spl p (dd.take (tot l2 (x))) D).length = S.size := by rw [length_spl (by simp; omega)]; exact hDl
    refine CW_region ?_
    refine RW_l (Yl_indexN (b := g) (off := 0) (i := x) (o' := x * 2) rfl rfl sl_125 om_ om_) ?_
    refine RW_h (Yh_loadE (cs := [nv (l2.getD x default).1, nv (l2.getD x default).2]) rfl ag_128 mem_ (by rw [List.length_append, length_prs]; omega) (prs_cut om_)) ?_
    refine RW_fx rfl rfl rfl (Fx_alloc (zs := zs_128) ze_128 rfl) ?_
    rintro _ _ ⟨b14, rfl, rfl⟩
    refine RW_fx0 rfl rfl (Fx_storeA (b := b14) (off := 0) (l := zs_128) (T := 128) (cs := [nv (l2.getD x default).1, nv (l2.getD x default).2]) rfl rfl sz_128 (by intro u hu; simp only [List.mem_cons, List.not_mem_nil, or_false] at hu; rcases hu with rfl | rfl <;> rfl) rep_ (Nat.le_refl 2)) ?_
    rintro _ _ rfl
    rw [spl_full _ _ (by rfl)]
    refine RW_lv (ks := [0, 1, 8, 10, 11, 12, 14, 96, 97, 98]) ?_
    refine CW_sr ?_
    refine RW_m ?_
    refine RW_l (Yl_indexAN (b := b14) (off := 0) (i := 1) (o' := 1) rfl rfl ar_128 om_ rfl) ?_
    refine RW_h (Yh_ld (v := nv (l2.getD x default).2) sc_2) ?_
    refine RW_l (Yl_add (c := ((tot l2 (x + 1) : Nat) : Int)) rfl rfl (by rw [wi64 om_ om_]; omega)) ?_
    refine RW_a ?_
    refine RW_lv (ks := [0, 1, 8, 10, 11, 12, 14, 15, 96, 97, 98]) ?_
    refine CW_seq ?_
    refine CW_sr ?_
    refine RW_m ?_
    refine RW_m ?_
    refine RW_l (Yl_lssB false rfl rfl (decide_eq_false om_)) ?_
    refine RW_m ?_
    refine RW_gy rfl rfl rfl (Yl.h (Yl_move rfl)) ?_
    refine RW_gy rfl rfl rfl (Yl.h (Yl_move rfl)) ?_
    refine RW_gy rfl rfl rfl (Yl.h (Yl_gtrB false rfl rfl (decide_eq_false om_))) ?_
    refine RW_l (Yl_pick_f rfl rfl) ?_
    refine RW_lv (ks := [0, 1, 8, 10, 11, 12, 14, 15, 96, 97, 98, 113]) ?_
    refine CW_false rfl ?_
    refine (CW_skip (QW_lv (ks := [0, 1, 8, 10, 11, 12, 14, 15, 96, 97, 98]) ?_))
    refine CW_seq ?_
    refine CW_draw [15] _ mixed (Sub.refl _) ?_
    refine RD_l 0 rfl (Yl_move rfl) ?_
    refine RD_l 1 rfl (Yl_nilCheck rfl) ?_
    refine RD_l 2 rfl (Yl_field rfl fo_93_8) ?_
    refine RD_l 7 rfl (Yl_move rfl) ?_
    refine RD_l 8 rfl (Yl_move rfl) ?_
    refine RD_l 9 rfl (Yl_move rfl) ?_
    refine RD_l 10 rfl (Yl_cutLHN (l := tot l2 x) (h := tot l2 (x + 1)) (o' := tot l2 x) (m' := (l2.getD x default).2) rfl rfl rfl sl_23 om_ om_ om_ om_ om_) ?_
    refine RD_l 11 rfl (Yl_indexAN (b := b14) (off := 0) (i := 0) (o' := 0) rfl rfl ar_128 om_ rfl) ?_
    refine RD_h (i := 3) #[true, true, true, false, false, false, false, true, true, true, true, true, true, false, false, false, false, false, false, false, false] rfl rfl rfl rfl kr_ (fun _ _ _ h => h) (Yh_ld (v := pv S.br) sc_78) ?_
    refine RD_l 4 rfl (Yl_nilCheck rfl) ?_
    refine RD_l 5 rfl (Yl_field rfl fo_89_8) ?_
    refine RD_h (i := 6) #[true, true, true, true, true, true, false, true, true, true, true, true, true, false, false, false, false, false, false, false, false] rfl rfl rfl rfl kr_ (fun _ _ _ h => h) (Yh_lh (v := W8 bs) sc_87 (hW.at8 _)) ?_
    refine RD_l 13 rfl (Yl_nilCheckI rfl) ?_
    refine RD_l 14 rfl (Yl_move rfl) ?_
    refine RD_h (i := 12) #[true, true, true, true, true, true, true, true, true, true, true, true, false, true, true, false, false, false, false, false, false] rfl rfl rfl rfl kr_ (fun _ _ _ h => h) (Yh_ld (v := nv (l2.getD x default).1) sc_2) ?_
    refine RD_one (i := 15) kr_ ?_
    refine RO_fx rfl rfl rfl rfl (Fx_invoke (T := 79) (v := .pointer (some ⟨bs, 0, none⟩)) (vs := [.slice (some ⟨bb, tot l2 x, none⟩) (l2.getD x default).2 (c - tot l2 x), nv (l2.getD x default).1]) rfl mt_79w pt_79 ok_94 rfl (Pick.cons (.there _ (.there _ (.there _ (.there _ (.here _ _))))) (pick_mid (GD _) [_, _, _, _] F)) (hW.wr (spl p (dd.take (tot l2 (x))) D) bb (tot l2 x) (l2.getD x default).2 (c - tot l2 x) (l2.getD x default).1 dd rx (p + tot l2 x) hDx hg1 om_ hg2 om_)) ?_
    rintro _ _ ⟨_, ⟨rfl, rfl⟩, rfl⟩
    simp only [List.cons_append, List.nil_append]
    refine ⟨Or.inl kr_, ?_⟩
    refine RD_l 16 rfl (Yl_move rfl) ?_
    refine RD_l 17 rfl (Yl_extract (v := nv (l2.getD x default).2) rfl rfl) ?_
    refine RD_l 18 rfl (Yl_extract (v := .nilIface) rfl rfl) ?_
    refine RD_l 19 rfl (Yl_assign rfl) ?_
    refine RD_l 20 rfl (Yl_assign rfl) ?_
    refine (RD_done kr_ (QW_lv (ks := [0, 1, 8, 10, 11, 12, 15, 16, 17, 96, 97, 98]) ?_))
    refine CW_seq ?_
    refine CW_heap (p_rd4 _ _ _ _ _ _ _) ?_
    rw [spl_more om_ om_, ← hts]
    refine CW_region ?_
    refine RW_m ?_
    refine RW_m ?_
    refine RW_l (Yl_add (c := ((tot l2 (x + 1) : Nat) : Int)) rfl rfl (by rw [wi64 om_ om_]; omega)) ?_
    refine RW_a ?_
    refine RW_lv (ks := [0, 1, 8, 10, 11, 12, 15, 17, 96, 97, 98]) ?_
    refine CW_seq ?_
    refine CW_sr ?_
    refine RW_m ?_
    refine RW_l (Yl_ifNeNil rfl if_105) ?_
    refine RW_lv (ks := [0, 1, 8, 10, 11, 12, 15, 17, 96, 97, 98, 140]) ?_
    refine CW_cond rfl (fun hc5 => ?_) (fun hc5 => ?_)
    ·skip
     exact absurd hc5 (by decide)
    ·skip
     refine (CW_skip (QW_lv (ks := [0, 1, 8, 10, 12, 15, 96, 97, 98]) ?_))
     refine CW_region ?_
     refine RW_m ?_
     refine RW_a ?_
     refine RW_nil ?_
     refine QW_normal_block ?_
     refine (QW_lv (ks := [0, 1, 8, 10, 11, 12, 96, 97, 98]) ?_)
     refine CW_region ?_
     refine RW_l (Yl_add (c := ((x + 1 : Nat) : Int)) rfl rfl (wi64 om_ om_)) ?_
     refine RW_m ?_
     refine RW_nil ?_
     refine QW_dropB (e := (b14, _)) rem_ ?_
     exact QW_rn (x + 1) om_ om_
   ·replace hc4 := of_decide_eq_false hc4
    refine CW_exit ?_
    refine QW_exit_then ?_
    refine QW_exit_then ?_
    refine QW_exit_block ?_
    refine (QW_lv (ks := [0, 1, 8, 10, 12]) ?_)
    refine CW_seq ?_
    have hxl : x = l2.length := by omega
    subst hxl
    have hall := hrun.all
    have htm : tot l2 l2.length = n := by omega
    rw [htm, List.take_of_length_le om_]
    refine CW_region ?_
    refine RW_m ?_
    refine RW_l (Yl_nilCheck rfl) ?_
    refine RW_l (Yl_field rfl fo_93_4) ?_
    refine RW_h (Yh_ld (v := nv (p)) sc_2) ?_
    refine RW_m ?_
    refine RW_l (Yl_add (c := ((p + n : Nat) : Int)) rfl rfl (by rw [wi64 om_ om_]; omega)) ?_
    refine RW_l (Yl_nilCheck rfl) ?_
    refine RW_l (Yl_field rfl fo_93_4) ?_
    refine RW_fx0 rfl rfl (Fx_store (v := nv (p + n)) rfl rfl sz_2 rfl rep_ (by simp [fiF])) ?_
    rintro _ _ rfl
    refine RW_lv (ks := [1, 8, 10, 12]) ?_
    refine CW_seq ?_
    refine CW_sr ?_
    refine RW_m ?_
    refine RW_m ?_
    refine RW_l (Yl_neq rfl rfl) ?_
    refine RW_lv (ks := [1, 10, 12, 169]) ?_
    refine CW_cond rfl (fun hc6 => ?_) (fun hc6 => ?_)
    ·replace hc6 := of_decide_eq_true hc6
     exfalso; omega
    ·replace hc6 := of_decide_eq_false hc6
     refine CW_sr ?_
     refine RW_m ?_
     refine RW_m ?_
     refine RW_l (Yl_len rfl sl_23) ?_
     refine RW_l (Yl_lss rfl rfl) ?_
     refine RW_lv (ks := [10, 12, 176]) ?_
     refine CW_cond rfl (fun hc7 => ?_) (fun hc7 => ?_)
     ·replace hc7 := of_decide_eq_true hc7
      exfalso; omega
     ·replace hc7 := of_decide_eq_false hc7
      refine (CW_skip (QW_lv (ks := [10, 12]) ?_))
      refine CW_sr ?_
      refine RW_m ?_
      refine RW_m ?_
      refine RW_a ?_
      refine RW_a ?_
      refine RW_lv (ks := [4, 5]) ?_
      refine CW_ret ?_
      refine QW_dropB (e := (g, _)) rem_ ?_
      exact QW_ret2 rfl rfl rfl (S.fb (p + n) (k') (r') :: S.rw (W8 bs) :: (bb, blk (bys dd ++ rx) 5) :: GD (spl p dd D)) ⟨k', r', hr', by omega, rfl, rfl⟩ (Prm.nil _)
theorem p_rd5 (a b d : Nat × Obj) (G F : Heap) : (a :: b :: (G ++ (d :: F))).Perm (a :: b :: d :: (G ++ F)) := ((List.perm_middle).cons b).cons a
theorem WriteAt_ct (S : Src) (GD : List UInt8 → Heap) (bs : Nat) (hW : S.Wr GD bs) (w : Value) (hw : w = .nilIface ∨ w = W8 bs) (D : List UInt8) (hDl : D.length = S.size) (p k r n : Nat) (hr : r < S.u) (hp : k * S.u + r = p) (hn : 0 < n) (hp2 : p ≤ S.size) (a : Nat) (han : a + n ≤ S.size) (bb c : Nat) (dd : List UInt8) (rx : List Value) (hdd : dd.length = n) (hnc : n ≤ c) :
  Ct Tryd.prog 45 [pv S.bf, .slice (some ⟨bb, 0, none⟩) n c, nv a] (S.fb (p) (k) (r) :: S.rw w :: (bb, blk (bys dd ++ rx) 5) :: GD D)
   (fun v q => v = .tuple #[nv n, .nilIface] ∧ q = S.fb (p) (k) (r) :: S.rw (W8 bs) :: (bb, blk (bys dd ++ rx) 5) :: GD (spl a dd D)) := by
 refine Ct_of Tryd.func45 rfl Tryd.ntmps45 rfl ?_
 intro E F
 simp only [numL, List.nil_append, List.cons_append]
 refine CW_sr ?_
 refine RW_a ?_
 refine RW_a ?_
 refine RW_lv (ks := [0, 1, 2, 6]) ?_
 refine CW_seq ?_
 refine CW_draw [] _ mixed (Sub.refl _) ?_
 refine RD_l 0 rfl (Yl_move rfl) ?_
 refine RD_l 1 rfl (Yl_nilCheck rfl) ?_
 refine RD_l 2 rfl (Yl_field rfl fo_93_4) ?_
 refine RD_l 4 rfl (Yl_move rfl) ?_
 refine RD_l 5 rfl (Yl_nilCheck rfl) ?_
 refine RD_l 6 rfl (Yl_field rfl fo_93_6) ?_
 refine RD_l 8 rfl (Yl_move rfl) ?_
 refine RD_l 9 rfl (Yl_nilCheck rfl) ?_
 refine RD_l 10 rfl (Yl_field rfl fo_93_5) ?_
 refine RD_h (i := 3) #[true, true, true, false, true, true, true, true, true, true, true, true, false, false, false] rfl rfl rfl rfl kr_ (fun _ _ _ h => h) (Yh_ld (v := nv (p)) sc_2) ?_
 refine RD_l 12 rfl (Yl_assign rfl) ?_
 refine RD_h (i := 7) #[true, true, true, true, true, true, true, false, true, true, true, true, true, false, false] rfl rfl rfl rfl kr_ (fun _ _ _ h => h) (Yh_ld (v := nv (r)) sc_2) ?_
 refine RD_l 13 rfl (Yl_assign rfl) ?_
 refine RD_h (i := 11) #[true, true, true, true, true, true, true, true, true, true, true, false, true, true, false] rfl rfl rfl rfl kr_ (fun _ _ _ h => h) (Yh_ld (v := uv (snx S.cs (k))) sc_67) ?_
 refine RD_l 14 rfl (Yl_assign rfl) ?_
 refine (RD_done kr_ (QW_lv (ks := [0, 1, 2, 6, 8, 9, 10]) ?_))
 refine CW_sr ?_
 refine RW_m ?_
 refine RW_m ?_
 refine RW_fx rfl rfl rfl (Fx_call ok_42 (vs := [pv S.bf, nv a, nv 0]) rfl (Pick.cons (.here _ _) (Pick.cons (.here _ _) (pick_mid (GD D) [_] F))) (hW.seek w D hDl p k r a hr hp hp2 om_)) ?_
 rintro _ _ ⟨_, ⟨rfl, k', r', hr', hk', rfl⟩, rfl⟩
 simp only [List.cons_append, List.nil_append]
 refine RW_heap (p_rd5 _ _ _ _ _) ?_
 refine RW_m ?_
 refine RW_l (Yl_extract (v := nv a) rfl rfl) ?_
 refine RW_l (Yl_extract (v := .nilIface) rfl rfl) ?_
 refine RW_a ?_
 refine RW_lv (ks := [0, 1, 6, 7, 8, 9, 10]) ?_
 refine CW_seq ?_
 refine CW_sr ?_
 refine RW_m ?_
 refine RW_l (Yl_ifEqNil rfl if_105) ?_
 refine RW_lv (ks := [0, 1, 6, 7, 8, 9, 10, 30]) ?_
 refine CW_cond rfl (fun hc1 => ?_) (fun hc1 => ?_)
 ·skip
  refine CW_region ?_
  refine RW_m ?_
  refine RW_m ?_
  refine RW_fx rfl rfl rfl (Fx_call ok_44 (vs := [pv S.bf, .slice (some ⟨bb, 0, none⟩) n c]) rfl (Pick.cons (.here _ _) (Pick.cons (.here _ _) (Pick.cons (.here _ _) (pick_app (GD D) F)))) (Write_ct S GD bs hW w hw D hDl a k' r' n hr' hk' hn han bb c dd rx hdd hnc)) ?_
  rintro _ _ ⟨_, ⟨k2, r2, hr2, hk2, rfl, rfl⟩, rfl⟩
  simp only [List.cons_append]
  refine RW_m ?_
  refine RW_l (Yl_extract (v := nv n) rfl rfl) ?_
  refine RW_l (Yl_extract (v := .nilIface) rfl rfl) ?_
  refine RW_a ?_
  refine RW_a ?_
  refine RW_lv (ks := [0, 6, 7, 8, 9, 10]) ?_
  refine CW_sr ?_
  refine RW_m ?_
  refine RW_m ?_
  refine RW_m ?_
  refine RW_m ?_
  refine RW_m ?_
  refine RW_m ?_
  refine RW_l (Yl_nilCheck rfl) ?_
  refine RW_l (Yl_field rfl fo_93_4) ?_
  refine RW_fx0 rfl rfl (Fx_store (v := nv p) rfl rfl sz_2 rfl rep_ (by simp [fiF])) ?_
  rintro _ _ rfl
  refine RW_l (Yl_nilCheck rfl) ?_
  refine RW_l (Yl_field rfl fo_93_6) ?_
  refine RW_fx0 rfl rfl (Fx_store (v := nv r) rfl rfl sz_2 rfl rep_ (by simp [fiF])) ?_
  rintro _ _ rfl
  refine RW_l (Yl_nilCheck rfl) ?_
  refine RW_l (Yl_field rfl fo_93_5) ?_
  refine RW_fx0 rfl rfl (Fx_store (v := uv (snx S.cs k)) rfl rfl sz_67 rfl rep_ (by simp [fiF])) ?_
  rintro _ _ rfl
  refine RW_lv (ks := [6, 7]) ?_
  refine CW_sr ?_
  refine RW_m ?_
  refine RW_m ?_
  refine RW_a ?_
  refine RW_a ?_
  refine RW_lv (ks := [6, 7]) ?_
  refine CW_ret ?_
  exact QW_ret2 rfl rfl rfl (S.fb (p) (k) (r) :: S.rw (W8 bs) :: (bb, blk (bys dd ++ rx) 5) :: GD (spl a dd D)) ⟨rfl, rfl⟩ (Prm.nil _)
 ·skip
  exact absurd hc1 (by decide)
theorem rep_r3 {H H' : Heap} {x y : Nat × Obj} (a b c : Nat × Obj) {G : Heap} (h : Rep H x y H') : Rep (a :: b :: c :: (G ++ H)) x y (a :: b :: c :: (G ++ H')) := .there a (.there b (.there c (rep_r G h)))
theorem mem_r3 {H : Heap} {x : Nat × Obj} (a b c : Nat × Obj) {G : Heap} (h : x ∈ H) : x ∈ a :: b :: c :: (G ++ H) := List.mem_cons_of_mem _ (List.mem_cons_of_mem _ (List.mem_cons_of_mem _ (List.mem_append_right _ h)))
theorem p_wr (a b c x y z d : Nat × Obj) (G F : Heap) : (a :: b :: c :: (G ++ (x :: y :: z :: d :: F))).Perm ((a :: b :: d :: G) ++ (c :: x :: y :: z :: F)) := by
 have h1 : (G ++ (x :: y :: z :: d :: F)).Perm (d :: (G ++ (x :: y :: z :: F))) := by
  have := perm_front (G ++ [x, y, z]) [d] F
  simpa only [List.append_assoc, List.cons_append, List.nil_append] using this
 have h2 : (c :: (d :: (G ++ (x :: y :: z :: F)))).Perm (d :: (G ++ (c :: x :: y :: z :: F))) := ((List.Perm.swap _ _ _)).trans ((List.perm_middle.symm).cons d)
 exact (((h1.cons c).trans h2).cons b).cons a
theorem one_write (S : Src) (GD : List UInt8 → Heap) (bs : Nat) (hW : S.Wr GD bs) (w : Value) (hw : w = .nilIface ∨ w = W8 bs) (D : List UInt8) (hDl : D.length = S.size) (p k r n : Nat) (hr : r < S.u) (hp : k * S.u + r = p) (hn : 0 < n) (hpn : p + n ≤ S.size) (bw cw : Nat) (dd : List UInt8) (rw0 : List Value) (hdd : dd.length = n) (hn2 : n ≤ 65536) :
  Ct Tryd.prog 37 [pv S.bf, .agg [nv 3, nv 0, .int .i64 0, nv 0, .slice (some ⟨bw, 0, none⟩) n cw].toArray] (S.fb (p) (k) (r) :: S.rw w :: (bw, blk (bys dd ++ rw0) 5) :: GD D)
   (fun v q => ∃ k' r', r' < S.u ∧ k' * S.u + r' = p + n ∧ v = .tuple #[.agg [.slice none 0 0, nv n, nv 0].toArray, .bool true] ∧ q = S.fb (p + n) (k') (r') :: S.rw (W8 bs) :: (bw, blk (bys dd ++ rw0) 5) :: GD (spl p dd D)) := by
 refine Ct_of Tryd.func37 rfl Tryd.ntmps37 rfl ?_
 intro E F
 simp only [numL, List.nil_append, List.cons_append]
 refine CW_sr ?_
 refine RW_fx rfl rfl rfl (Fx_box (zs := [nv 3, nv 0, .int .i64 0, nv 0, .slice (some ⟨bw, 0, none⟩) n cw]) rfl rfl) ?_
 rintro _ _ ⟨b3, rfl, rfl⟩
 refine RW_fx rfl rfl rfl (Fx_alloc (zs := zs_58) ze_58 rfl) ?_
 rintro _ _ ⟨b4, rfl, rfl⟩
 refine RW_a ?_
 refine RW_lv (ks := [0, 3, 4]) ?_
 refine CW_seq ?_
 refine CW_sr ?_
 refine RW_l (Yl_field rfl fo_53_1) ?_
 refine RW_h (Yh_ld (v := nv 0) sc_3) ?_
 refine RW_l (Yl_lssB false rfl rfl (decide_eq_false om_)) ?_
 refine RW_m ?_
 refine RW_gy rfl rfl rfl (Yl.h (Yl_field rfl fo_53_1)) ?_
 refine RW_gy rfl rfl rfl (Yh_ld (v := nv 0) sc_3) ?_
 refine RW_gy rfl rfl rfl (Yl.h (Yl_gtrB false rfl rfl (decide_eq_false om_))) ?_
 refine RW_l (Yl_pick_f rfl rfl) ?_
 refine RW_m ?_
 refine RW_gy rfl rfl rfl (Yl.h (Yl_field rfl fo_53_4)) ?_
 refine RW_gy rfl rfl rfl (Yh_ld (v := .slice (some ⟨bw, 0, none⟩) n cw) sc_23) ?_
 refine RW_gy rfl rfl rfl (Yl.h (Yl_len rfl sl_23)) ?_
 refine RW_gy rfl rfl rfl (Yl.h (Yl_gtrB false rfl rfl (decide_eq_false om_))) ?_
 refine RW_l (Yl_pick_f rfl rfl) ?_
 refine RW_lv (ks := [0, 3, 4, 24]) ?_
 refine CW_false rfl ?_
 refine (CW_skip (QW_lv (ks := [0, 3, 4]) ?_))
 refine CW_sr ?_
 refine RW_l (Yl_field rfl fo_53_1) ?_
 refine RW_h (Yh_ld (v := nv 0) sc_3) ?_
 refine RW_fx rfl rfl rfl (Fx_makeU8 0 rfl rfl om_) ?_
 rintro _ _ ⟨b28, rfl, rfl⟩
 refine RW_a ?_
 refine RW_lv (ks := [0, 3, 4, 6]) ?_
 refine CW_sr ?_
 refine RW_a ?_
 refine RW_lv (ks := [0, 3, 4, 6]) ?_
 refine CW_sr ?_
 refine RW_a ?_
 refine RW_lv (ks := [0, 3, 4, 6]) ?_
 refine CW_seq ?_
 refine CW_sr ?_
 refine RW_l (Yl_field rfl fo_53_0) ?_
 refine RW_h (Yh_ld (v := nv 3) sc_3) ?_
 refine RW_lv (ks := [0, 3, 4, 6, 30]) ?_
 refine CW_block ?_
 refine CW_sr ?_
 refine RW_l (Yl_eqlB false rfl rfl (decide_eq_false om_)) ?_
 refine RW_a ?_
 refine RW_lv (ks := [0, 3, 4, 6, 30, 32]) ?_
 refine CW_false rfl ?_
 refine CW_sr ?_
 refine RW_l (Yl_eqlB false rfl rfl (decide_eq_false om_)) ?_
 refine RW_a ?_
 refine RW_lv (ks := [0, 3, 4, 6, 30, 40]) ?_
 refine CW_false rfl ?_
 refine CW_sr ?_
 refine RW_l (Yl_eqlB false rfl rfl (decide_eq_false om_)) ?_
 refine RW_a ?_
 refine RW_lv (ks := [0, 3, 4, 6, 30, 55]) ?_
 refine CW_false rfl ?_
 refine CW_sr ?_
 refine RW_l (Yl_eqlB true rfl rfl (decide_eq_true om_)) ?_
 refine RW_a ?_
 refine RW_lv (ks := [0, 3, 4, 30, 65]) ?_
 refine CW_true rfl ?_
 refine CW_sr ?_
 refine RW_m ?_
 refine RW_l (Yl_field rfl fo_53_4) ?_
 refine RW_h (Yh_ld (v := .slice (some ⟨bw, 0, none⟩) n cw) sc_23) ?_
 refine RW_fx rfl rfl rfl (Fx_append_nil (z0 := .int .u8 0) (q := 1) (lx := bys dd ++ rw0) (offx := 0) rfl rfl sl_23 by_5 ze_5 rfl rfl mem_ (by simp; omega) om_ om_ om_) ?_
 rintro _ _ ⟨b71, l2, cap, rfl, hc1, hc2, hc3, rfl⟩
 obtain ⟨rx2, rfl⟩ : ∃ r, l2 = bys dd ++ r := ⟨_, app_eq hdd hc3⟩
 refine RW_fx rfl rfl rfl (Fx_call ok_44 (vs := [pv S.bf, .slice (some ⟨b71, 0, none⟩) n cap]) rfl (Pick.cons (.there _ (.there _ (.there _ (.there _ (.here _ _))))) (Pick.cons (.there _ (.there _ (.there _ (.there _ (.here _ _))))) (Pick.cons (.here _ _) (pick_mid (GD D) [_, _, _, _] F)))) (Write_ct S GD bs hW w hw D hDl p k r n hr hp hn hpn b71 cap dd rx2 hdd hc1)) ?_
 rintro _ _ ⟨_, ⟨k', r', hr', hk', rfl, rfl⟩, rfl⟩
 simp only [List.cons_append, List.nil_append]
 refine RW_m ?_
 refine RW_l (Yl_extract (v := nv n) rfl rfl) ?_
 refine RW_l (Yl_extract (v := .nilIface) rfl rfl) ?_
 refine RW_a ?_
 refine RW_a ?_
 refine RW_lv (ks := [4, 7, 8]) ?_
 refine CW_sr ?_
 refine RW_m ?_
 refine RW_m ?_
 refine RW_fx rfl rfl rfl (Fx_callQ ok_40 (vs := [.nilIface]) (R := fun v => v = nv 0) rfl (Pick.nil _) code_nil) ?_
 rintro _ _ ⟨rfl, rfl⟩
 refine RW_l (Yl_build (cs := [.slice none 0 0, nv n, nv 0]) pl_58 ze_58 rfl rfl) ?_
 refine RW_fx0 rfl rfl (Fx_storeA (b := b4) (off := 0) (l := zs_58) (T := 58) (cs := [.slice none 0 0, nv n, nv 0]) rfl rfl sz_58 (by intro u hu; simp only [List.mem_cons, List.not_mem_nil, or_false] at hu; rcases hu with hu | hu | hu <;> rw [hu] <;> rfl) (rep_r3 _ _ _ (.there _ (.here _ _ _))) (Nat.le_refl 3)) ?_
 rintro _ _ rfl
 refine RW_a ?_
 refine RW_lv (ks := [4, 5]) ?_
 refine CW_ret ?_
 refine QW_ret_block ?_
 refine QW_ret_then ?_
 refine QW_retCt rfl rfl rfl (b := b4) (T := 58) (cs := [.slice none 0 0, nv n, nv 0]) (mem_r3 _ _ _ (List.mem_cons_of_mem _ (List.mem_cons_self ..))) ag_58 (S.fb (p + n) (k') (r') :: S.rw (W8 bs) :: (bw, blk (bys dd ++ rw0) 5) :: GD (spl p dd D)) ⟨k', r', hr', hk', rfl, rfl⟩ (fun w h => ?_)
 exact (h.perm (p_wr _ _ _ _ _ _ _ _ _)).sub (List.Sublist.append_left (.cons _ (.cons _ (.cons _ (.cons _ (.refl _))))) _)
theorem one_writeAt (S : Src) (GD : List UInt8 → Heap) (bs : Nat) (hW : S.Wr GD bs) (w : Value) (hw : w = .nilIface ∨ w = W8 bs) (D : List UInt8) (hDl : D.length = S.size) (p k r n : Nat) (hr : r < S.u) (hp : k * S.u + r = p) (hn : 0 < n) (hp2 : p ≤ S.size) (a : Nat) (han : a + n ≤ S.size) (bw cw : Nat) (dd : List UInt8) (rw0 : List Value) (hdd : dd.length = n) (hn2 : n ≤ 65536) :
  Ct Tryd.prog 37 [pv S.bf, .agg [nv 4, nv 0, nv a, nv 0, .slice (some ⟨bw, 0, none⟩) n cw].toArray] (S.fb (p) (k) (r) :: S.rw w :: (bw, blk (bys dd ++ rw0) 5) :: GD D)
   (fun v q => v = .tuple #[.agg [.slice none 0 0, nv n, nv 0].toArray, .bool true] ∧ q = S.fb (p) (k) (r) :: S.rw (W8 bs) :: (bw, blk (bys dd ++ rw0) 5) :: GD (spl a dd D)) := by
 refine Ct_of Tryd.func37 rfl Tryd.ntmps37 rfl ?_
 intro E F
 simp only [numL, List.nil_append, List.cons_append]
 refine CW_sr ?_
 refine RW_fx rfl rfl rfl (Fx_box (zs := [nv 4, nv 0, nv a, nv 0, .slice (some ⟨bw, 0, none⟩) n cw]) rfl rfl) ?_
 rintro _ _ ⟨b3, rfl, rfl⟩
 refine RW_fx rfl rfl rfl (Fx_alloc (zs := zs_58) ze_58 rfl) ?_
 rintro _ _ ⟨b4, rfl, rfl⟩
 refine RW_a ?_
 refine RW_lv (ks := [0, 3, 4]) ?_
 refine CW_seq ?_
 refine CW_sr ?_
 refine RW_l (Yl_field rfl fo_53_1) ?_
 refine RW_h (Yh_ld (v := nv 0) sc_3) ?_
 refine RW_l (Yl_lssB false rfl rfl (decide_eq_false om_)) ?_
 refine RW_m ?_
 refine RW_gy rfl rfl rfl (Yl.h (Yl_field rfl fo_53_1)) ?_
 refine RW_gy rfl rfl rfl (Yh_ld (v := nv 0) sc_3) ?_
 refine RW_gy rfl rfl rfl (Yl.h (Yl_gtrB false rfl rfl (decide_eq_false om_))) ?_
 refine RW_l (Yl_pick_f rfl rfl) ?_
 refine RW_m ?_
 refine RW_gy rfl rfl rfl (Yl.h (Yl_field rfl fo_53_4)) ?_
 refine RW_gy rfl rfl rfl (Yh_ld (v := .slice (some ⟨bw, 0, none⟩) n cw) sc_23) ?_
 refine RW_gy rfl rfl rfl (Yl.h (Yl_len rfl sl_23)) ?_
 refine RW_gy rfl rfl rfl (Yl.h (Yl_gtrB false rfl rfl (decide_eq_false om_))) ?_
 refine RW_l (Yl_pick_f rfl rfl) ?_
 refine RW_lv (ks := [0, 3, 4, 24]) ?_
 refine CW_false rfl ?_
 refine (CW_skip (QW_lv (ks := [0, 3, 4]) ?_))
 refine CW_sr ?_
 refine RW_l (Yl_field rfl fo_53_1) ?_
 refine RW_h (Yh_ld (v := nv 0) sc_3) ?_
 refine RW_fx rfl rfl rfl (Fx_makeU8 0 rfl rfl om_) ?_
 rintro _ _ ⟨b28, rfl, rfl⟩
 refine RW_a ?_
 refine RW_lv (ks := [0, 3, 4, 6]) ?_
 refine CW_sr ?_
 refine RW_a ?_
 refine RW_lv (ks := [0, 3, 4, 6]) ?_
 refine CW_sr ?_
 refine RW_a ?_
 refine RW_lv (ks := [0, 3, 4, 6]) ?_
 refine CW_seq ?_
 refine CW_sr ?_
 refine RW_l (Yl_field rfl fo_53_0) ?_
 refine RW_h (Yh_ld (v := nv 4) sc_3) ?_
 refine RW_lv (ks := [0, 3, 4, 6, 30]) ?_
 refine CW_block ?_
 refine CW_sr ?_
 refine RW_l (Yl_eqlB false rfl rfl (decide_eq_false om_)) ?_
 refine RW_a ?_
 refine RW_lv (ks := [0, 3, 4, 6, 30, 32]) ?_
 refine CW_false rfl ?_
 refine CW_sr ?_
 refine RW_l (Yl_eqlB false rfl rfl (decide_eq_false om_)) ?_
 refine RW_a ?_
 refine RW_lv (ks := [0, 3, 4, 6, 30, 40]) ?_
 refine CW_false rfl ?_
 refine CW_sr ?_
 refine RW_l (Yl_eqlB false rfl rfl (decide_eq_false om_)) ?_
 refine RW_a ?_
 refine RW_lv (ks := [0, 3, 4, 6, 30, 55]) ?_
 refine CW_false rfl ?_
 refine CW_sr ?_
 refine RW_l (Yl_eqlB false rfl rfl (decide_eq_false om_)) ?_
 refine RW_a ?_
 refine RW_lv (ks := [0, 3, 4, 30, 65]) ?_
 refine CW_false rfl ?_
 refine CW_sr ?_
 refine RW_l (Yl_eqlB true rfl rfl (decide_eq_true om_)) ?_
 refine RW_a ?_
 refine RW_lv (ks := [0, 3, 4, 79]) ?_
 refine CW_true rfl ?_
 refine CW_seq ?_
 refine CW_draw [3, 6] _ mixed (Sub.refl _) ?_
 refine RD_l 0 rfl (Yl_move rfl) ?_
 refine RD_l 1 rfl (Yl_field rfl fo_53_4) ?_
 refine RD_l 4 rfl (Yl_field rfl fo_53_2) ?_
 refine RD_h (i := 2) #[true, true, false, false, true, true, false, false, false, false, false, false] rfl rfl rfl rfl kr_ (fun _ _ _ h => h) (Yh_ld (v := .slice (some ⟨bw, 0, none⟩) n cw) sc_23) ?_
 refine RD_two (i := 3) (j := 5) kr_ ?_ ?_
 ·skip
  refine RO_fx rfl rfl rfl rfl (Fx_append_nil (z0 := .int .u8 0) (q := 1) (lx := bys dd ++ rw0) (offx := 0) rfl rfl sl_23 by_5 ze_5 rfl rfl mem_ (by simp; omega) om_ om_ om_) ?_
  rintro _ _ ⟨b71, l2, cap, rfl, hc1, hc2, hc3, rfl⟩
  obtain ⟨rx2, rfl⟩ : ∃ r, l2 = bys dd ++ r := ⟨_, app_eq hdd hc3⟩
  refine ⟨Or.inl kr_, ?_⟩
  refine RD_one (i := 5) kr_ ?_
  refine RO_fx rfl rfl rfl rfl (Yh.fx (Yh_ld (v := nv a) sc_2)) ?_
  rintro _ _ ⟨rfl, rfl⟩
  refine ⟨Or.inl kr_, ?_⟩
  refine RD_one (i := 6) kr_ ?_
  refine RO_fx rfl rfl rfl rfl (Fx_call ok_45 (vs := [pv S.bf, .slice (some ⟨b71, 0, none⟩) n cap, nv a]) rfl (Pick.cons (.there _ (.there _ (.there _ (.there _ (.here _ _))))) (Pick.cons (.there _ (.there _ (.there _ (.there _ (.here _ _))))) (Pick.cons (.here _ _) (pick_mid (GD D) [_, _, _, _] F)))) (WriteAt_ct S GD bs hW w hw D hDl p k r n hr hp hn hp2 a han b71 cap dd rx2 hdd hc1)) ?_
  rintro _ _ ⟨_, ⟨rfl, rfl⟩, rfl⟩
  simp only [List.cons_append, List.nil_append]
  refine ⟨Or.inl kr_, ?_⟩
  refine RD_l 7 rfl (Yl_move rfl) ?_
  refine RD_l 8 rfl (Yl_extract (v := nv n) rfl rfl) ?_
  refine RD_l 9 rfl (Yl_extract (v := .nilIface) rfl rfl) ?_
  refine RD_l 10 rfl (Yl_assign rfl) ?_
  refine RD_l 11 rfl (Yl_assign rfl) ?_
  refine (RD_done kr_ (QW_lv (ks := [4, 7, 8]) ?_))
  refine CW_sr ?_
  refine RW_m ?_
  refine RW_m ?_
  refine RW_fx rfl rfl rfl (Fx_callQ ok_40 (vs := [.nilIface]) (R := fun v => v = nv 0) rfl (Pick.nil _) code_nil) ?_
  rintro _ _ ⟨rfl, rfl⟩
  refine RW_l (Yl_build (cs := [.slice none 0 0, nv n, nv 0]) pl_58 ze_58 rfl rfl) ?_
  refine RW_fx0 rfl rfl (Fx_storeA (b := b4) (off := 0) (l := zs_58) (T := 58) (cs := [.slice none 0 0, nv n, nv 0]) rfl rfl sz_58 (by intro u hu; simp only [List.mem_cons, List.not_mem_nil, or_false] at hu; rcases hu with hu | hu | hu <;> rw [hu] <;> rfl) (rep_r3 _ _ _ (.there _ (.here _ _ _))) (Nat.le_refl 3)) ?_
  rintro _ _ rfl
  refine RW_a ?_
  refine RW_lv (ks := [4, 5]) ?_
  refine CW_ret ?_
  refine QW_ret_block ?_
  refine QW_ret_then ?_
  refine QW_retCt rfl rfl rfl (b := b4) (T := 58) (cs := [.slice none 0 0, nv n, nv 0]) (mem_r3 _ _ _ (List.mem_cons_of_mem _ (List.mem_cons_self ..))) ag_58 (S.fb (p) (k) (r) :: S.rw (W8 bs) :: (bw, blk (bys dd ++ rw0) 5) :: GD (spl a dd D)) ⟨rfl, rfl⟩ (fun w h => ?_)
  exact (h.perm (p_wr _ _ _ _ _ _ _ _ _)).sub (List.Sublist.append_left (.cons _ (.cons _ (.cons _ (.cons _ (.refl _))))) _)
 ·skip
  refine RO_fx rfl rfl rfl rfl (Yh.fx (Yh_ld (v := nv a) sc_2)) ?_
  rintro _ _ ⟨rfl, rfl⟩
  refine ⟨Or.inr (Sub.refl _), ?_⟩
  refine RD_one (i := 3) kr_ ?_
  refine RO_fx rfl rfl rfl rfl (Fx_append_nil (z0 := .int .u8 0) (q := 1) (lx := bys dd ++ rw0) (offx := 0) rfl rfl sl_23 by_5 ze_5 rfl rfl mem_ (by simp; omega) om_ om_ om_) ?_
  rintro _ _ ⟨b71, l2, cap, rfl, hc1, hc2, hc3, rfl⟩
  obtain ⟨rx2, rfl⟩ : ∃ r, l2 = bys dd ++ r := ⟨_, app_eq hdd hc3⟩
  refine ⟨Or.inl kr_, ?_⟩
  refine RD_one (i := 6) kr_ ?_
  refine RO_fx rfl rfl rfl rfl (Fx_call ok_45 (vs := [pv S.bf, .slice (some ⟨b71, 0, none⟩) n cap, nv a]) rfl (Pick.cons (.there _ (.there _ (.there _ (.there _ (.here _ _))))) (Pick.cons (.there _ (.there _ (.there _ (.there _ (.here _ _))))) (Pick.cons (.here _ _) (pick_mid (GD D) [_, _, _, _] F)))) (WriteAt_ct S GD bs hW w hw D hDl p k r n hr hp hn hp2 a han b71 cap dd rx2 hdd hc1)) ?_
  rintro _ _ ⟨_, ⟨rfl, rfl⟩, rfl⟩
  simp only [List.cons_append, List.nil_append]
  refine ⟨Or.inl kr_, ?_⟩
  refine RD_l 7 rfl (Yl_move rfl) ?_
  refine RD_l 8 rfl (Yl_extract (v := nv n) rfl rfl) ?_
  refine RD_l 9 rfl (Yl_extract (v := .nilIface) rfl rfl) ?_
  refine RD_l 10 rfl (Yl_assign rfl) ?_
  refine RD_l 11 rfl (Yl_assign rfl) ?_
  refine (RD_done kr_ (QW_lv (ks := [4, 7, 8]) ?_))
  refine CW_sr ?_
  refine RW_m ?_
  refine RW_m ?_
  refine RW_fx rfl rfl rfl (Fx_callQ ok_40 (vs := [.nilIface]) (R := fun v => v = nv 0) rfl (Pick.nil _) code_nil) ?_
  rintro _ _ ⟨rfl, rfl⟩
  refine RW_l (Yl_build (cs := [.slice none 0 0, nv n, nv 0]) pl_58 ze_58 rfl rfl) ?_
  refine RW_fx0 rfl rfl (Fx_storeA (b := b4) (off := 0) (l := zs_58) (T := 58) (cs := [.slice none 0 0, nv n, nv 0]) rfl rfl sz_58 (by intro u hu; simp only [List.mem_cons, List.not_mem_nil, or_false] at hu; rcases hu with hu | hu | hu <;> rw [hu] <;> rfl) (rep_r3 _ _ _ (.there _ (.here _ _ _))) (Nat.le_refl 3)) ?_
  rintro _ _ rfl
  refine RW_a ?_
  refine RW_lv (ks := [4, 5]) ?_
  refine CW_ret ?_
  refine QW_ret_block ?_
  refine QW_ret_then ?_
  refine QW_retCt rfl rfl rfl (b := b4) (T := 58) (cs := [.slice none 0 0, nv n, nv 0]) (mem_r3 _ _ _ (List.mem_cons_of_mem _ (List.mem_cons_self ..))) ag_58 (S.fb (p) (k) (r) :: S.rw (W8 bs) :: (bw, blk (bys dd ++ rw0) 5) :: GD (spl a dd D)) ⟨rfl, rfl⟩ (fun w h => ?_)
  exact (h.perm (p_wr _ _ _ _ _ _ _ _ _)).sub (List.Sublist.append_left (.cons _ (.cons _ (.cons _ (.cons _ (.refl _))))) _)

end Go.Proofs.YtgoddcicbpjknaaDoor
