/- FnStorage, as its card states it: whatever the numbers, the bytes, the choice, the step and the count, the call returns true and leaves all that was there as it was. Behind it: Values: what a file of linked nodes tells; Values: rows of what is told; arrays that are the same; Values: a text's first sign; kinds of nodes; Values: comparisons of which one knows what they give; Walks: a read of nothing; Values: steps that are done one behind the other; Walks: Steps; Values: bytes as a text; Walks: same; Steps that read an entry of no bytes; Walks: FnStorage. -/
import Derived.Test.YtgoddcicbpjknaaDoorPartE
import Derived.ChangeKeysEq
import Derived.Laws.BytesString
import Derived.Clock
import Derived.Lay
/-! Values: what a file of linked nodes tells. -/
set_option maxRecDepth 20000
namespace Go.Proofs.YtgoddcicbpjknaaDoor
open Go
open Cfb
theorem STree.links {L R : Nat → Int} {pl : List Nat} {t : Int} (h : STree L R pl t) : ∀ k ∈ pl, (L k = -1 ∨ ∃ j ∈ pl, L k = (j : Int)) ∧ (R k = -1 ∨ ∃ j ∈ pl, R k = (j : Int)) := by
  induction h with
  | nil => intro k hk; cases hk
  | node ha hb iha ihb =>
    rename_i a b m
    intro k hk
    have up : ∀ {q : List Nat} {z : Int}, (∀ x ∈ q, x ∈ a ++ m :: b) → (z = -1 ∨ ∃ j ∈ q, z = (j : Int)) → (z = -1 ∨ ∃ j ∈ a ++ m :: b, z = (j : Int)) := fun hs h => h.imp id fun ⟨j, h1, h2⟩ => ⟨j, hs j h1, h2⟩
    have sa : ∀ x ∈ a, x ∈ a ++ m :: b := fun x hx => List.mem_append_left _ hx
    have sb : ∀ x ∈ b, x ∈ a ++ m :: b := fun x hx => List.mem_append_right _ (List.mem_cons_of_mem _ hx)
    have top : ∀ {q : List Nat} {z : Int}, STree L R q z → (z = -1 ∨ ∃ j ∈ q, z = (j : Int)) := fun h => h.top.imp (fun h => h.2) id
    rcases List.mem_append.1 hk with hk | hk
    · exact ⟨up sa (iha k hk).1, up sa (iha k hk).2⟩
    · rcases List.mem_cons.1 hk with rfl | hk
      · exact ⟨up sa (top ha), up sb (top hb)⟩
      · exact ⟨up sb (ihb k hk).1, up sb (ihb k hk).2⟩
section
variable {ns : List Nm}
theorem Lnk.bound {ls : Nat → List Nat} {par : Nat → Nat} (h : Lnk ns ls par) {k : Nat} (hk : k < ns.length) (hn : ns.length ≤ 100000) : (-1 ≤ lfF ns k ∧ lfF ns k ≤ 100000) ∧ (-1 ≤ rtF ns k ∧ rtF ns k ≤ 100000) ∧ (-1 ≤ chdF ns k ∧ chdF ns k ≤ 100000) := by
  have b : ∀ {q : Nat} {z : Int}, (z = -1 ∨ ∃ j ∈ ls q, z = (j : Int)) → -1 ≤ z ∧ z ≤ 100000 := by
    intro q z hz
    rcases hz with hz | ⟨j, hj, hz⟩
    · omega
    · have := (h.pl.mem q j).1 hj; omega
  have hc : chdF ns k = -1 ∨ ∃ j ∈ ls k, chdF ns k = (j : Int) := (h.tree k hk).top.imp (fun h => h.2) id
  rcases Nat.eq_zero_or_pos k with h0 | h0
  · subst h0
    have := h.root
    exact ⟨by omega, by omega, b hc⟩
  · have hl := h.pl.lt k h0 hk
    have hm : k ∈ ls (par k) := (h.pl.mem _ k).2 ⟨h0, hk, rfl⟩
    have h1 := STree.links (h.tree (par k) (by omega)) k hm
    exact ⟨b h1.1, b h1.2, b hc⟩
theorem root_ok {l r c : Int} (hl : -1 ≤ l ∧ l ≤ 100000) (hr : -1 ≤ r ∧ r ≤ 100000) (hc : -1 ≤ c ∧ c ≤ 100000) : (rootNm.turn l r c).ok :=
  ⟨fun _ => rfl, by simp [rootNm, mkNm, Nm.turn], by simp [rootNm, mkNm, Nm.turn], by simp [rootNm, mkNm, Nm.turn], hl, hr, hc, by simp [rootNm, mkNm, Nm.turn], by simp [rootNm, mkNm, Nm.turn]⟩
theorem NodesOk.ok_at (h : NodesOk ns) {k : Nat} (hk : k < ns.length) : (ns.getD k default).ok := by
  obtain ⟨ls, par, hL⟩ := h.lnk
  have hn := h.len
  have hb := hL.bound hk (by omega)
  unfold lfF rtF chdF at hb
  rcases Nat.eq_zero_or_pos k with h0 | h0
  · subst h0
    obtain ⟨c, e⟩ := h.root
    rw [e] at hb ⊢
    exact root_ok (by omega) (by omega) hb.2.2
  · obtain ⟨y, l, r, c, hy, e⟩ := h.made k h0 hk
    rw [e] at hb ⊢
    exact (hy.nd.turn hb.1 hb.2.1 hb.2.2).ok
theorem NodesOk.ok (h : NodesOk ns) : ∀ x ∈ ns, x.ok := by
  intro x hx
  obtain ⟨k, hk, rfl⟩ := List.mem_iff_getElem.1 hx
  have := h.ok_at hk
  rwa [List.getD_eq_getElem?_getD, List.getElem?_eq_getElem hk] at this
theorem NodesOk.xs (h : NodesOk ns) : Ok (ns.map Nm.nd) := by
  refine ⟨by simp; exact h.len, ?_⟩
  intro x hx
  obtain ⟨y, hy, rfl⟩ := List.mem_map.1 hx
  exact (h.ok y hy).small
theorem NodesOk.lnks (h : NodesOk ns) : ∀ x ∈ ns.map Nm.nd, x.left ≤ 4294967295 ∧ x.right ≤ 4294967295 ∧ x.child ≤ 4294967295 := by
  intro x hx
  obtain ⟨y, hy, rfl⟩ := List.mem_map.1 hx
  have := h.ok y hy
  have h1 := this.left
  have h2 := this.right
  have h3 := this.child
  omega
theorem NodesOk.name (h : NodesOk ns) {k : Nat} (hk : k < ns.length) : 1 ≤ (nmOf ns k).length ∧ (nmOf ns k).length ≤ 31 ∧ (∀ c ∈ nmOf ns k, c.toNat < 128) ∧ (65 ≤ ((nmOf ns k).getD 0 0).toNat ∧ ((nmOf ns k).getD 0 0).toNat ≤ 90) := by
  unfold nmOf
  rcases Nat.eq_zero_or_pos k with h0 | h0
  · subst h0
    obtain ⟨c, e⟩ := h.root
    rw [e]
    show 1 ≤ ([82, 111, 111, 116, 32, 69, 110, 116, 114, 121] : List UInt8).length ∧ ([82, 111, 111, 116, 32, 69, 110, 116, 114, 121] : List UInt8).length ≤ 31 ∧ (∀ c ∈ ([82, 111, 111, 116, 32, 69, 110, 116, 114, 121] : List UInt8), c.toNat < 128) ∧ (65 ≤ (([82, 111, 111, 116, 32, 69, 110, 116, 114, 121] : List UInt8).getD 0 0).toNat ∧ (([82, 111, 111, 116, 32, 69, 110, 116, 114, 121] : List UInt8).getD 0 0).toNat ≤ 90)
    exact ⟨by decide, by decide, by decide, by decide, by decide⟩
  · obtain ⟨y, l, r, c, hy, e⟩ := h.made k h0 hk
    rw [e]
    show 1 ≤ y.nd.name.length ∧ _ ∧ (∀ c ∈ y.nd.name, _) ∧ (65 ≤ (y.nd.name.getD 0 0).toNat ∧ (y.nd.name.getD 0 0).toNat ≤ 90)
    have h1 := hy.nd.nm
    have h2 := hy.nd.cap
    refine ⟨by omega, by show y.nd.name.length ≤ 31; omega, fun c hc => by have := h2 c hc; omega, ?_⟩
    refine h2 _ ?_
    rw [List.getD_eq_getElem?_getD, List.getElem?_eq_getElem (by omega)]
    exact List.getElem_mem _
theorem NodesOk.names {ps : List Value} (hp : PsOk ps) (h : NodesOk ns) : ∀ k, k < (ns.map Nm.nd).length → NmOk ps ((ns.map Nm.nd).getD k default) (nmOf ns k) := by
  intro k hk
  have hk' : k < ns.length := by simpa using hk
  obtain ⟨h1, h2, h3, h4⟩ := h.name hk'
  have e : (ns.map Nm.nd).getD k default = (ns.getD k default).nd := nd_at ns k hk'
  rw [e]
  exact nmOk_cap (x := (ns.getD k default).nd) hp h1 h2 h3 h4
theorem NodesOk.data (h : NodesOk ns) {k : Nat} (hk : k < ns.length) (hs : (ns.getD k default).nd.stream = false) : (ns.getD k default).nd.data = [] := by
  rcases Nat.eq_zero_or_pos k with h0 | h0
  · subst h0
    obtain ⟨c, e⟩ := h.root
    rw [e]; rfl
  · obtain ⟨y, l, r, c, hy, e⟩ := h.made k h0 hk
    rw [e] at hs ⊢
    exact hy.data hs
/-- How a node leads on, read back. -/
theorem NodesOk.tn (h : NodesOk ns) (v : Nat) {k : Nat} (hk : k < ns.length) : k < (tnsF v (ns.map Nm.nd) (nmOf ns)).length ∧ (tnsF v (ns.map Nm.nd) (nmOf ns)).getD k default = ⟨nmOf ns k, lnkF (lfF ns k), lnkF (chdF ns k), lnkF (rtF ns k)⟩ := by
  have hc := cnt_le (v := v) h.xs
  have hl : (ns.map Nm.nd).length = ns.length := by simp
  refine ⟨by rw [tns_len]; omega, ?_⟩
  rw [show (tnsF v (ns.map Nm.nd) (nmOf ns)).getD k default = tnF (ns.map Nm.nd) (nmOf ns) k from range_getD _ (by omega)]
  unfold tnF
  rw [if_pos (by omega), nd_at ns k hk]
  rfl
/-- The entries are gone through in the nodes' order. -/
theorem NodesOk.travs (h : NodesOk ns) (v : Nat) : ∃ o, OT (lfF ns) (rtF ns) (chdF ns) (nmOf ns) ((0 : Nat) : Int) [] o ∧ (∀ k, k ∈ o.map Prod.fst ↔ k < ns.length) ∧ (o.map Prod.fst).Nodup ∧ o.length ≤ ns.length ∧
    (STv (tnsF v (ns.map Nm.nd) (nmOf ns))).bad = false ∧ (STv (tnsF v (ns.map Nm.nd) (nmOf ns))).out = o.map Prod.fst ∧ ∀ x ∈ o, (STv (tnsF v (ns.map Nm.nd) (nmOf ns))).pth x.1 = x.2 := by
  obtain ⟨ls, par, hL⟩ := h.lnk
  obtain ⟨o, h1, h2, h3, h4⟩ := hL.order h.len.1 (nmOf ns)
  have hc := cnt_le (v := v) h.xs
  have hl : (ns.map Nm.nd).length = ns.length := by simp
  have ht := tns_len v (ns.map Nm.nd) (nmOf ns)
  obtain ⟨s', e, b, _, ou, _, pt⟩ := trav_ot (es := tnsF v (ns.map Nm.nd) (nmOf ns)) (by rw [ht]; omega) h1 ((tnsF v (ns.map Nm.nd) (nmOf ns)).length + 1) S0 rfl (by rw [ht]; show 0 + _ ≤ _; omega) (by rw [ht]; omega) (fun k hk => h.tn v ((h3 k).1 hk)) h2
  have e0 : s' = STv (tnsF v (ns.map Nm.nd) (nmOf ns)) := by
    rw [e]
    show (if lnkF ((0 : Nat) : Int) = 4294967295 then _ else Cfb.trav _ _ (lnkF ((0 : Nat) : Int)) _ _) = _
    rw [lnkF_nat, if_neg (by omega)]
  rw [e0] at b ou pt
  exact ⟨o, h1, h3, h2, h4, b, by rw [ou]; rfl, pt⟩
end
/-- An entry as it is told. -/
def rowF (x : Nd) (kd : Nat) (size : Int) (pvv : Value) : List Value :=
  .string (bar x.name) :: pvv :: nv kd :: .int .i64 size :: .int .i64 ((x.name.getD 0 0).toNat : Int) :: (bys x.cls ++ (bys x.state ++ [.int .u64 (x.created : Int), .int .u64 (x.modified : Int)]))
theorem length_rowF (x : Nd) (kd : Nat) (size : Int) (pvv : Value) : (rowF x kd size pvv).length = 27 := by simp [rowF, x.h16, x.h4]
theorem row_cls (x : Nd) (kd : Nat) (size : Int) (pvv : Value) : ((rowF x kd size pvv).drop 5).take 16 = bys x.cls := by
  unfold rowF
  simp only [List.drop_succ_cons, List.drop_zero]
  rw [List.take_append_of_le_length (by simp [x.h16]), List.take_of_length_le (by simp [x.h16])]
theorem row_state (x : Nd) (kd : Nat) (size : Int) (pvv : Value) : ((rowF x kd size pvv).drop 21).take 4 = bys x.state := by
  unfold rowF
  simp only [List.drop_succ_cons]
  rw [List.drop_append_of_le_length (by simp [x.h16]), List.drop_of_length_le (by simp [x.h16]), List.nil_append, List.take_append_of_le_length (by simp [x.h4]), List.take_of_length_le (by simp [x.h4])]
theorem row_cr (x : Nd) (kd : Nat) (size : Int) (pvv : Value) : (rowF x kd size pvv)[25]? = some (.int .u64 (x.created : Int)) := by
  unfold rowF
  simp only [List.getElem?_cons_succ]
  rw [List.getElem?_append_right (by simp [x.h16]), List.getElem?_append_right (by simp [x.h16, x.h4])]
  simp [x.h16, x.h4]
theorem row_mo (x : Nd) (kd : Nat) (size : Int) (pvv : Value) : (rowF x kd size pvv)[26]? = some (.int .u64 (x.modified : Int)) := by
  unfold rowF
  simp only [List.getElem?_cons_succ]
  rw [List.getElem?_append_right (by simp [x.h16]), List.getElem?_append_right (by simp [x.h16, x.h4])]
  simp [x.h16, x.h4]
theorem RowsOk.get {fs : List Fil} {pth : Nat → List (List UInt8)} {pp : Heap} {o : List Nat} {rows : List (List Value)} (h : RowsOk fs pth pp o rows) : ∀ i, i < o.length → ∃ f v, fs[o.getD i 0]? = some f ∧ DcOk f.en ∧ PathC pp v (pth (o.getD i 0)) ∧ rows.getD i [] = entC f.en v := by
  induction h with
  | nil => intro i hi; simp at hi
  | snoc h hf hd hp ih =>
    rename_i o rows k f v
    intro i hi
    have hl := h.len.2
    rw [List.length_append, List.length_singleton] at hi
    by_cases e : i = o.length
    · subst e
      refine ⟨f, v, ?_, hd, ?_, ?_⟩
      · simpa [List.getD_eq_getElem?_getD] using hf
      · simpa [List.getD_eq_getElem?_getD] using hp
      · rw [List.getD_eq_getElem?_getD, List.getElem?_append_right (by omega), hl]; simp
    · obtain ⟨f2, v2, h1, h2, h3, h4⟩ := ih i (by omega)
      have e1 : (o ++ [k]).getD i 0 = o.getD i 0 := by rw [List.getD_eq_getElem?_getD, List.getElem?_append_left (by omega), ← List.getD_eq_getElem?_getD]
      have e2 : (rows ++ [entC f.en v]).getD i [] = rows.getD i [] := by rw [List.getD_eq_getElem?_getD, List.getElem?_append_left (by omega), ← List.getD_eq_getElem?_getD]
      rw [e1, e2]
      exact ⟨f2, v2, h1, h2, h3, h4⟩
theorem holds_bys {N o : Nat} {c l : List UInt8} (h : Holds N o c l) {j : Nat} (hj : j < c.length) : l.getD (o + j) 0 = c.getD j 0 := by
  simp only [List.getD_eq_getElem?_getD]; rw [h.at_ j hj]
theorem take_bys {L : List Value} {o n : Nat} {c : List UInt8} (hc : c.length = n) (hl : o + n ≤ L.length) (h : ∀ j, j < n → L[o + j]? = some (bv (c.getD j 0))) : (L.drop o).take n = bys c := by
  apply List.ext_getElem?
  intro j
  by_cases hj : j < n
  · rw [List.getElem?_take_of_lt hj, List.getElem?_drop, h j hj, List.getElem?_map, List.getElem?_eq_getElem (by omega)]
    simp [List.getD_eq_getElem?_getD, show j < c.length by omega]
  · rw [List.getElem?_eq_none (by simp; omega), List.getElem?_eq_none (by simp; omega)]
section
variable {v st : Nat} {xs : List Nd} {nmF : Nat → List UInt8}
/-- What is read back of a node. -/
theorem enF_row (ps : List Value) (h : Ok xs) (hnm : ∀ k, k < xs.length → NmOk ps (xs.getD k default) (nmF k)) {k : Nat} (hk : k < xs.length) (hcr : (xs.getD k default).created < 18446744073709551616) (hmo : (xs.getD k default).modified < 18446744073709551616) (hname : nmF k = (xs.getD k default).name)
    (e : En) (he : e.noPath = (enF v st xs nmF k).noPath) (pvv : Value) : entC e pvv = rowF (xs.getD k default) (kdF xs k).toNat (szOfN xs k : Int) pvv := by
  have hn := nds_at ps h hnm
  have hz : sizeF v / 128 * 128 = sizeF v := by rcases sizeF_or v with e | e <;> rw [e]
  have hpos : 0 < sizeF v / 128 := by rcases sizeF_or v with e | e <;> rw [e] <;> omega
  have hkc : k < cntF v xs := by have := cnt_le (v := v) h; omega
  have hj : k / (sizeF v / 128) < dsF v xs := (Nat.div_lt_iff_lt_mul hpos).2 hkc
  have hi : k % (sizeF v / 128) < sizeF v / 128 := Nat.mod_lt _ hpos
  have hkk : k = k / (sizeF v / 128) * (sizeF v / 128) + k % (sizeF v / 128) := by rw [Nat.mul_comm]; exact (Nat.div_add_mod _ _).symm
  have ha := ent_X (st := st) h hn hj hi hkk hk
  obtain ⟨X, hX0⟩ : ∃ X, X = dsecF v st xs (k / (sizeF v / 128)) := ⟨_, rfl⟩
  have ha' : EntAt (sizeF v) (k % (sizeF v / 128) * 128) (xs.getD k default) (kdF xs k) (stF v st xs k) (lnF xs k) X := by rw [hX0]; exact ha
  have hX : k % (sizeF v / 128) * 128 + 128 ≤ X.length := by rw [ha'.st.len]; omega
  have e1 : (enF v st xs nmF k).noPath = ⟨nmF k, ((xs.getD k default).name.getD 0 0).toNat, .nilIface, (szOfN xs k : Int), 0, stF v st xs k, 0, de12F X (k % (sizeF v / 128) * 128)⟩ := by
    unfold enF En.noPath
    rw [if_pos hk, hX0]
  rw [e1] at he
  have n1 : e.nm = nmF k := by have := congrArg En.nm he; exact this
  have n2 : e.ini = ((xs.getD k default).name.getD 0 0).toNat := by have := congrArg En.ini he; exact this
  have n3 : e.size = (szOfN xs k : Int) := by have := congrArg En.size he; exact this
  have n4 : e.dc = de12F X (k % (sizeF v / 128) * 128) := by have := congrArg En.dc he; exact this
  have h16 := (xs.getD k default).h16
  have h4 := (xs.getD k default).h4
  have hdl := length_de12F X (k % (sizeF v / 128) * 128)
  have c1 : (e.dc.drop 38).take 16 = bys (xs.getD k default).cls := by
    rw [n4]
    refine take_bys h16 (by rw [hdl]; omega) (fun j hj => ?_)
    rw [de_cls _ _ hX hj, holds_bys ha'.cls (by omega)]
  have c2 : (e.dc.drop 54).take 4 = bys (xs.getD k default).state := by
    rw [n4]
    refine take_bys h4 (by rw [hdl]; omega) (fun j hj => ?_)
    rw [de_state _ _ hX hj, holds_bys ha'.state (by omega)]
  have c3 : e.dc.getD 58 undef = .int .u64 ((xs.getD k default).created : Int) := by
    rw [n4, List.getD_eq_getElem?_getD, de_cr _ _ hX, ha'.cr.num (by have : (256 : Nat) ^ 8 = 18446744073709551616 := rfl
                                                                     omega)]
    rfl
  have c4 : e.dc.getD 59 undef = .int .u64 ((xs.getD k default).modified : Int) := by
    rw [n4, List.getD_eq_getElem?_getD, de_mo _ _ hX, ha'.mo.num (by have : (256 : Nat) ^ 8 = 18446744073709551616 := rfl
                                                                     omega)]
    rfl
  have c5 : otv e = (kdF xs k).toNat := by
    have : e.dc[33]? = some (bv (kdF xs k)) := by rw [n4, de_ot _ _ hX, ha'.kd.getD]
    exact otv_bv this
  unfold entC rowF
  rw [c1, c2, c3, c4, c5, n1, n2, n3, hname]
  simp
end
end Go.Proofs.YtgoddcicbpjknaaDoor

/-! Values: rows of what is told; arrays that are the same. -/
set_option maxRecDepth 20000
namespace Go.Proofs.YtgoddcicbpjknaaDoor
open Go
open Cfb
theorem un_37 : Tryd.prog.underlying 37 = some (.array 16 5) := by kernel_rfl
theorem un_38 : Tryd.prog.underlying 38 = some (.array 4 5) := by kernel_rfl
theorem un_5 : Tryd.prog.underlying 5 = some (.int .u8) := by kernel_rfl
theorem eg_37 : Tryd.prog.eqGuardType Tryd.prog.depth 37 = false := by kernel_rfl
theorem eg_38 : Tryd.prog.eqGuardType Tryd.prog.depth 38 = false := by kernel_rfl
theorem pk_5 : Tryd.prog.plainKey 5 = true := by kernel_rfl
theorem ce_5 : Tryd.prog.cellsOf 5 = 1 := by kernel_rfl
theorem items_same (d : Nat) (l : List UInt8) (w : World) : ∀ (is : List Nat), (∀ i ∈ is, i < l.length) → (Op.eqItems (d + 1) 5 1 (bys l).toArray (bys l).toArray is).run Tryd.prog w = .ok true w := by
  intro is
  induction is with
  | nil => intro _; simp [Op.eqItems]
  | cons i r ih =>
    intro h
    have hi := h i (by simp)
    have hx : (bys l).toArray[i * 1]? = some (bv l[i]) := by simp [hi]
    have hp := run_part_plain (P := Tryd.prog) w pk_5 hx
    have he := run_equalIn_int (P := Tryd.prog) w d 5 .u8 .u8 (l[i].toNat : Int) (l[i].toNat : Int) un_5
    simp only [Op.eqItems, Sem.run_bind, hp, Result.andThen_ok]
    have he2 : (Op.equalIn (d + 1) 5 (bv l[i]) (bv l[i])).run Tryd.prog w = .ok ((l[i].toNat : Int) == (l[i].toNat : Int)) w := he
    rw [he2]
    simp only [Result.andThen_ok, beq_self_eq_true, Bool.not_true, Bool.false_eq_true, if_false]
    exact ih (fun j hj => h j (by simp [hj]))
theorem run_same {t : TypeId} {n : Nat} (hu : Tryd.prog.underlying t = some (.array n 5)) (l : List UInt8) (hl : l.length = n) (w : World) : (binOp .neq t (.agg (bys l).toArray) (.agg (bys l).toArray)).run Tryd.prog w = .ok (.bool false) w := by
  obtain ⟨i, hi⟩ := info_of_underlying un_5
  rw [run_neq_struct, show (10000 : Nat) = 9998 + 1 + 1 from rfl, run_equalIn_array w (9998 + 1) _ _ hu hi, ce_5, items_same 9998 l w _ (fun i hi => by rw [hl]; exact List.mem_range.1 hi)]
  rfl
section
variable {E : World} {L : Fra} {H : Heap} {dst : Option Tmp} {ty : TypeId} {pos : String} {aft : Array Edge} {gd : Option (Nat × Bool)}
theorem Yl_arrNe {x y : Operand} {t u : TypeId} {n : Nat} {l : List UInt8} (hx : ev L x = some (.agg (bys l).toArray)) (hy : ev L y = some (.agg (bys l).toArray)) (hu : Tryd.prog.underlying t = some (.array n 5)) (hg : Tryd.prog.eqGuardType Tryd.prog.depth t = false) (hl : l.length = n) :
    Yl Tryd.prog L ⟨dst, .binOp .neq t x y u, ty, pos, aft, gd⟩ (.bool false) := by
  intro _ a w hf
  have h1 := run_same hu l hl w
  have h2 := run_eqGuard_agg (P := Tryd.prog) w .neq t x y (bys l).toArray (bys l).toArray hg
  simp only [execOp, hf.eval hx, hf.eval hy, Sem.run_bind, h2, Result.andThen_ok, h1]
  simp
theorem Yl_neqF {x y : Operand} {k : IntKind} {m n : Int} {t u : TypeId} (hx : ev L x = some (.int k m)) (hy : ev L y = some (.int k n)) (h : m = n) :
    Yl Tryd.prog L ⟨dst, .binOp .neq t x y u, ty, pos, aft, gd⟩ (.bool false) := by
  have := Yl_neq (P := Tryd.prog) (dst := dst) (ty := ty) (pos := pos) (aft := aft) (gd := gd) (t := t) (u := u) hx hy
  rw [h] at this
  simpa using this
theorem Yl_strNeF {x y : Operand} {s : ByteArray} {t u : TypeId} (hx : ev L x = some (.string s)) (hy : ev L y = some (.string s)) :
    Yl Tryd.prog L ⟨dst, .binOp .neq t x y u, ty, pos, aft, gd⟩ (.bool false) := by
  have := Yl_strNe (P := Tryd.prog) (dst := dst) (ty := ty) (pos := pos) (aft := aft) (gd := gd) (t := t) (u := u) hx hy
  simpa using this
theorem Yh_loadE {P : Program} {x : Operand} {t T : TypeId} {b off k : Nat} {l cs : List Value} {fz : Nat × Nat} (hx : ev L x = some (.pointer (some ⟨b, off, none⟩))) (ht : agOf P t = some k)
    (hm : (b, Obj.cells l.toArray T fz) ∈ H) (hv : off + k ≤ l.length) (hc : (l.drop off).take k = cs) : Yh P E L H ⟨dst, .load t x, ty, pos, aft, gd⟩ (.agg cs.toArray) := by
  subst hc
  exact Yh_loadA hx ht hm hv
end
theorem PathC.slice {pp : Heap} {v : Value} {p : List (List UInt8)} (h : PathC pp v p) : ∃ q c, v = .slice q p.length c := by
  rcases h with ⟨rfl, rfl⟩ | ⟨b, cap, r, _, rfl, _⟩
  · exact ⟨_, _, rfl⟩
  · exact ⟨_, _, rfl⟩
theorem PathC.some {pp : Heap} {v : Value} {p : List (List UInt8)} (h : PathC pp v p) (hp : 0 < p.length) : ∃ b cap r, v = .slice (some ⟨b, 0, none⟩) p.length cap ∧ (b, blk (strs p ++ r) 9) ∈ pp := by
  rcases h with ⟨rfl, rfl⟩ | ⟨b, cap, r, _, rfl, hm⟩
  · simp at hp
  · exact ⟨b, cap, r, rfl, hm⟩
theorem at_strs {p : List (List UInt8)} {r : List Value} {j : Nat} (h : j < p.length) : (strs p ++ r)[j]? = some (.string (bar (p.getD j []))) := by
  rw [List.getElem?_append_left (by simpa using h)]
  simp [List.getD_eq_getElem?_getD, h]
/-- Rows, one behind the other. -/
theorem rows_at : ∀ (rows : List (List Value)) (r : List Value) (k : Nat), (∀ x ∈ rows, x.length = 27) → k < rows.length → ((rows.flatten ++ r).drop (k * 27)).take 27 = rows.getD k [] := by
  intro rows
  induction rows with
  | nil => intro r k _ h; simp at h
  | cons x l ih =>
    intro r k hl h
    have hx := hl x (by simp)
    cases k with
    | zero =>
      simp only [List.flatten_cons, Nat.zero_mul, List.drop_zero, List.append_assoc, List.getD_cons_zero]
      rw [List.take_append_of_le_length (by omega), List.take_of_length_le (by omega)]
    | succ k =>
      have h1 := ih r k (fun y hy => hl y (by simp [hy])) (by simpa using h)
      simp only [List.flatten_cons, List.append_assoc, List.getD_cons_succ]
      rw [show (k + 1) * 27 = x.length + k * 27 by omega, List.drop_append]
      simp only [Nat.add_sub_cancel_left]
      rw [List.drop_of_length_le (by omega), List.nil_append]
      exact h1
theorem rows_len : ∀ (rows : List (List Value)), (∀ x ∈ rows, x.length = 27) → rows.flatten.length = rows.length * 27 := by
  intro rows
  induction rows with
  | nil => intro _; rfl
  | cons x l ih =>
    intro h
    rw [List.flatten_cons, List.length_append, h x (by simp), ih (fun y hy => h y (by simp [hy])), List.length_cons, Nat.add_mul]; omega
/-- What kind a node is, and its size as it is told. -/
def kdN (ns : List Nm) (k : Nat) : Nat := if k = 0 then 5 else if (ns.getD k default).nd.stream = true then 2 else 1
def szN (ns : List Nm) (k : Nat) : Nat := szOfN (ns.map Nm.nd) k
theorem NodesOk.size {ns : List Nm} (h : NodesOk ns) {k : Nat} (hk : k < ns.length) (h0 : k ≠ 0) : szN ns k = (ns.getD k default).nd.data.length := by
  have e : (ns.map Nm.nd).getD k default = (ns.getD k default).nd := nd_at ns k hk
  unfold szN szOfN kdF lnF
  rw [if_neg h0, if_neg h0, e]
  by_cases hs : (ns.getD k default).nd.stream = true
  · rw [if_pos hs, if_pos (show UInt8.toNat 2 = 2 from rfl), if_pos hs]
  · rw [if_neg hs, if_neg (by decide), h.data hk (by simpa using hs)]; rfl
theorem kdF_N {ns : List Nm} {k : Nat} (hk : k < ns.length) : (kdF (ns.map Nm.nd) k).toNat = kdN ns k := by
  have e : (ns.map Nm.nd).getD k default = (ns.getD k default).nd := nd_at ns k hk
  unfold kdF kdN
  rw [e]
  split
  · rfl
  · split <;> rfl
/-- What the reader tells of such a file. -/
theorem Entries_nodes {ps : List Value} {T : TypeId} {four : Bool} {st : Nat} {ns : List Nm} {o : List (Nat × List (List UInt8))} (hp : PsOk ps) (h : NodesOk ns) (hk : ∀ k, k ∈ o.map Prod.fst ↔ k < ns.length)
    (hb : (STv (tnsF (verF four) (ns.map Nm.nd) (nmOf ns))).bad = false) (ho : (STv (tnsF (verF four) (ns.map Nm.nd) (nmOf ns))).out = o.map Prod.fst) (hpt : ∀ x ∈ o, (STv (tnsF (verF four) (ns.map Nm.nd) (nmOf ns))).pth x.1 = x.2)
    (hN : NF (verF four) (ns.map Nm.nd) ≤ 131072) (gI : Nat) :
    Ct Tryd.prog 18 [.slice (some ⟨gI, 0, none⟩) (NF (verF four) (ns.map Nm.nd)) (NF (verF four) (ns.map Nm.nd))] [(gI, blk (bys (writeF (verF four) st (ns.map Nm.nd))) 5), (2, blk ps T)]
      (fun v q => ∃ (go cap : Nat) (r : List Value) (rows : List (List Value)) (pp : Heap), v = .tuple #[.slice (some ⟨go, 0, none⟩) o.length cap, nv 0] ∧ rows.length = o.length ∧ (∀ x ∈ rows, x.length = 27) ∧
        (∀ i, i < o.length → ∃ pvv, PathC pp pvv (o.getD i default).2 ∧ rows.getD i [] = rowF (ns.getD (o.getD i default).1 default).nd (kdN ns (o.getD i default).1) (szN ns (o.getD i default).1 : Int) pvv) ∧
        q = (gI, blk (bys (writeF (verF four) st (ns.map Nm.nd))) 5) :: (2, blk ps T) :: (go, blk (rows.flatten ++ r) 41) :: pp) := by
  have hl := h.len
  refine Ct.ne fun hg => (Entries_good h.xs (h.names hp) h.lnks hN gI hg hb).mono ?_
  rintro v post ⟨fs, pth, out, g, cap, r, rows, pp, hpth, hout, hes, hr, hok, rfl, rfl⟩
  rw [ho] at hout
  have hol : out.length = o.length := by rw [hout]; simp
  have hrl := hr.len
  have hget := hr.get
  have hopos : 0 < o.length := by
    have := (hk 0).2 (by omega)
    cases o with
    | nil => simp at this
    | cons a r => simp
  have key : ∀ i, i < o.length → ∃ pvv, PathC pp pvv (o.getD i default).2 ∧ rows.getD i [] = rowF (ns.getD (o.getD i default).1 default).nd (kdN ns (o.getD i default).1) (szN ns (o.getD i default).1 : Int) pvv := by
    intro i hi
    obtain ⟨f, v, h1, h2, h3, h4⟩ := hget i (by omega)
    have hoi : o.getD i default ∈ o := by rw [List.getD_eq_getElem?_getD, List.getElem?_eq_getElem hi]; exact List.getElem_mem _
    have e1 : out.getD i 0 = (o.getD i default).1 := by
      rw [hout]; simp [List.getD_eq_getElem?_getD, hi]
    have hkk : (o.getD i default).1 < ns.length := (hk _).1 (List.mem_map.2 ⟨_, hoi, rfl⟩)
    rw [e1] at h1 h3
    refine ⟨v, ?_, ?_⟩
    · rw [hpth, hpt _ hoi] at h3; exact h3
    · rw [h4]
      have hcn := cnt_le (v := verF four) h.xs
      have hxl : (ns.map Nm.nd).length = ns.length := by simp
      have e2 : (ns.map Nm.nd).getD (o.getD i default).1 default = (ns.getD (o.getD i default).1 default).nd := nd_at ns _ hkk
      have hox := h.ok_at hkk
      have e3 : f.en.noPath = (enF (verF four) st (ns.map Nm.nd) (nmOf ns) (o.getD i default).1).noPath := by
        have := congrArg (fun l => l[(o.getD i default).1]?) hes
        simp only [List.getElem?_map, h1, Option.map_some] at this
        unfold esF at this
        rw [List.getElem?_map, List.getElem?_range (by omega)] at this
        exact Option.some.inj this
      rw [enF_row ps h.xs (h.names hp) (by omega) (by rw [e2]; exact hox.created) (by rw [e2]; exact hox.modified) (by rw [e2]; rfl) f.en e3 v, e2, kdF_N hkk]
      rfl
  have h27 : ∀ x ∈ rows, x.length = 27 := by
    intro x hx
    obtain ⟨i, hi, rfl⟩ := List.mem_iff_getElem.1 hx
    obtain ⟨pvv, _, h6⟩ := key i (by omega)
    rw [List.getD_eq_getElem?_getD, List.getElem?_eq_getElem hi] at h6
    rw [show rows[i] = _ from h6]; exact length_rowF _ _ _ _
  cases g with
  | none => exact absurd hok.1 (by omega)
  | some go => exact ⟨go, cap, r, rows, pp, by rw [hol], by omega, h27, key, rfl⟩
end Go.Proofs.YtgoddcicbpjknaaDoor

/-! Values: a text's first sign; kinds of nodes. -/
set_option maxRecDepth 20000
namespace Go.Proofs.YtgoddcicbpjknaaDoor
open Go
open Cfb
theorem Yl_first {P : Program} {L : Fra} {dst : Option Tmp} {ty : TypeId} {pos : String} {aft : Array Edge} {gd : Option (Nat × Bool)} {x y : Operand} {t : TypeId} {l : List UInt8} {k : IntKind} (hx : ev L x = some (.string (bar l))) (hy : ev L y = some (.int k 0)) (ht : isStr P t = true) (h1 : 0 < l.length) :
    Yl P L ⟨dst, .index t x y, ty, pos, aft, gd⟩ (.int .u8 ((l.getD 0 0).toNat : Int)) := by
  have hs : (0 : Int).toNat < (bar l).size := by simpa using h1
  have h := Yl_indexS (P := P) (dst := dst) (ty := ty) (pos := pos) (aft := aft) (gd := gd) hx hy ht (Int.le_refl 0) hs
  have e : (bar l)[(0 : Int).toNat] = l.getD 0 0 := get_bar l 0 (by simpa using h1)
  rw [e] at h
  exact h
theorem kd_root (ns : List Nm) {k : Nat} (h : k = 0) : kdN ns k = 5 := by unfold kdN; rw [if_pos h]
theorem kd_str {ns : List Nm} {k : Nat} (h : k ≠ 0) (hs : (ns.getD k default).nd.stream = true) : kdN ns k = 2 := by unfold kdN; rw [if_neg h, if_pos hs]
theorem kd_sto {ns : List Nm} {k : Nat} (h : k ≠ 0) (hs : (ns.getD k default).nd.stream = false) : kdN ns k = 1 := by unfold kdN; rw [if_neg h, if_neg (by rw [hs]; decide)]
theorem kd_five {ns : List Nm} {k : Nat} (h : kdN ns k ≠ 5) : k ≠ 0 := fun e => h (kd_root ns e)
theorem kd_le (ns : List Nm) (k : Nat) : kdN ns k ≤ 5 := by unfold kdN; split <;> (try split) <;> omega
theorem at_vals {vs r : List Value} {i : Nat} {v : Value} (h : i < vs.length) (hv : vs.getD i undef = v) : (vs ++ r)[i]? = some v := by
  rw [List.getElem?_append_left h, ← hv]; simp [List.getD_eq_getElem?_getD, h]
theorem fst_at {o : List (Nat × List (List UInt8))} {r : List Value} {i k : Nat} (h : i < o.length) (hk : (o.getD i default).1 = k) : (nats (o.map Prod.fst) ++ r)[i]? = some (nv k) := by
  rw [List.getElem?_append_left (by simpa using h), ← hk]; simp [List.getD_eq_getElem?_getD, h]
theorem snd_at {o : List (Nat × List (List UInt8))} {i : Nat} (h : i < o.length) : (o.map Prod.snd).getD i [] = (o.getD i default).2 := by
  simp [List.getD_eq_getElem?_getD, h]
end Go.Proofs.YtgoddcicbpjknaaDoor

/-! Values: comparisons of which one knows what they give. -/
set_option maxRecDepth 20000
namespace Go.Proofs.YtgoddcicbpjknaaDoor
open Go
open Cfb
section
variable {P : Program} {L : Fra} {dst : Option Tmp} {ty : TypeId} {pos : String} {aft : Array Edge} {gd : Option (Nat × Bool)} {x y : Operand} {k : IntKind} {m n : Int} {t u : TypeId}
theorem Yl_lssB (b : Bool) (hx : ev L x = some (.int k m)) (hy : ev L y = some (.int k n)) (h : decide (m < n) = b) : Yl P L ⟨dst, .binOp .lss t x y u, ty, pos, aft, gd⟩ (.bool b) := by
  rw [← h]; exact Yl_lss hx hy
theorem Yl_gtrB (b : Bool) (hx : ev L x = some (.int k m)) (hy : ev L y = some (.int k n)) (h : decide (m > n) = b) : Yl P L ⟨dst, .binOp .gtr t x y u, ty, pos, aft, gd⟩ (.bool b) := by
  rw [← h]; exact Yl_gtr hx hy
theorem Yl_geqB (b : Bool) (hx : ev L x = some (.int k m)) (hy : ev L y = some (.int k n)) (h : decide (m ≥ n) = b) : Yl P L ⟨dst, .binOp .geq t x y u, ty, pos, aft, gd⟩ (.bool b) := by
  rw [← h]; exact Yl_geq hx hy
theorem Yl_leqB (b : Bool) (hx : ev L x = some (.int k m)) (hy : ev L y = some (.int k n)) (h : decide (m ≤ n) = b) : Yl P L ⟨dst, .binOp .leq t x y u, ty, pos, aft, gd⟩ (.bool b) := by
  rw [← h]; exact Yl_leq hx hy
theorem Yl_eqlB (b : Bool) (hx : ev L x = some (.int k m)) (hy : ev L y = some (.int k n)) (h : decide (m = n) = b) : Yl P L ⟨dst, .binOp .eql t x y u, ty, pos, aft, gd⟩ (.bool b) := by
  rw [← h]; exact Yl_eql hx hy
theorem Yl_neqB (b : Bool) (hx : ev L x = some (.int k m)) (hy : ev L y = some (.int k n)) (h : decide (m ≠ n) = b) : Yl P L ⟨dst, .binOp .neq t x y u, ty, pos, aft, gd⟩ (.bool b) := by
  rw [← h]; exact Yl_neq hx hy
end
end Go.Proofs.YtgoddcicbpjknaaDoor

/-! Walks: a read of nothing. -/
set_option maxRecDepth 20000
namespace Go.Proofs.YtgoddcicbpjknaaDoor
open Go
open Cfb
set_option maxHeartbeats 4000000 in
theorem code_other (U : TypeId) (u : Value) (hU : Nat.beq U 123 = false) : Ct Tryd.prog 40 [.iface U u] [] (fun v q => v = nv 6 ∧ q = []) := by
  refine Ct_of Tryd.func40 rfl Tryd.ntmps40 rfl ?_
  intro E F
  simp only [numL, List.nil_append, List.cons_append]
  refine CW_seq ?_
  refine CW_region ?_
  refine RW_a ?_
  refine RW_lv (ks := [0]) ?_
  refine CW_seq ?_
  refine CW_seq ?_
  refine CW_region ?_
  refine RW_m ?_
  refine RW_l (Yl_ifEq rfl if_105) ?_
  refine RW_lv (ks := [0, 6]) ?_
  refine CW_cond rfl (fun hc1 => ?_) (fun hc1 => ?_)
  · skip
    exact Bool.noConfusion hc1
  · skip
    refine (CW_skip (QW_lv (ks := [0]) ?_))
    refine CW_seq ?_
    refine CW_seq ?_
    refine CW_region ?_
    refine RW_m ?_
    refine RW_l (Yl_assertNot rfl co_123 hU ze_123) ?_
    refine RW_m ?_
    refine RW_l (Yl_extract (v := .agg zs_123.toArray) rfl rfl) ?_
    refine RW_l (Yl_extract (v := .bool false) rfl rfl) ?_
    refine RW_fx rfl rfl rfl (Fx_alloc (zs := zs_123) ze_123 rfl) ?_
    rintro _ _ ⟨b3, rfl, rfl⟩
    refine RW_fx0 rfl rfl (Fx_storeA (b := b3) (off := 0) (l := zs_123) (T := 123) (cs := zs_123) rfl rfl sz_123 (by intro u hu; exact List.all_eq_true.1 (show (zs_123.all Value.oneCell') = true from rfl) u hu) (by repeat (first | exact Rep.here _ _ _ | apply Rep.there)) (Nat.le_refl 3)) ?_
    rintro _ _ rfl
    refine RW_a ?_
    refine RW_lv (ks := [3, 4]) ?_
    refine CW_seq ?_
    refine CW_region ?_
    refine RW_m ?_
    refine RW_lv (ks := [3, 12]) ?_
    refine CW_false rfl ?_
    refine (CW_skip (QW_lv (ks := []) ?_))
    refine CW_seq ?_
    refine CW_region ?_
    refine RW_a ?_
    refine RW_lv (ks := [2]) ?_
    refine CW_ret ?_
    first
      | (refine QW_dropB (e := (b3, _)) (by repeat (first | exact Rem.here _ _ | apply Rem.there)) ?_; exact QW_ret1 rfl rfl [] ⟨rfl, rfl⟩ (Prm.nil _))
set_option maxHeartbeats 4000000 in
theorem Read_eof (bf bd br ini cur : Nat) (nm : List UInt8) (path : Value) (size pos rem : Int) (v0 : Value) (T0 : TypeId) (fz0 : Nat × Nat) (p : Option Addr) (m c : Nat) (hs : size < 1) :
    Ct Tryd.prog 41 [pv bf, .slice p m c] [(bf, blk (fiF nm ini path size pos cur rem bd br) 93), (0, Obj.cells [v0].toArray T0 fz0)] (fun v q => v = .tuple #[nv 0, v0] ∧ q = [(bf, blk (fiF nm ini path size pos cur rem bd br) 93), (0, Obj.cells [v0].toArray T0 fz0)]) := by
  refine Ct_of Tryd.func41 rfl Tryd.ntmps41 rfl ?_
  intro E F
  simp only [numL, List.nil_append, List.cons_append]
  refine CW_seq ?_
  refine CW_region ?_
  refine RW_a ?_
  refine RW_a ?_
  refine RW_lv (ks := [0, 1]) ?_
  refine CW_seq ?_
  refine CW_seq ?_
  refine CW_draw [] _ mixed (Sub.refl _) ?_
  refine RD_l 0 rfl (Yl_move rfl) ?_
  refine RD_l 1 rfl (Yl_nilCheck rfl) ?_
  refine RD_l 2 rfl (Yl_field rfl fo_93_3) ?_
  refine RD_h (i := 3) #[true, true, true, false, false, false, false, false, false, false, false, false, false, false, false, false] rfl rfl rfl rfl (by kernel_rfl) (fun _ _ _ h => h) (Yh_load (v := .int .i64 size) rfl sc_2 (by repeat (first | exact List.Mem.head _ | apply List.Mem.tail)) rfl) ?_
  refine RD_l 4 rfl (Yl_lssB true rfl rfl (decide_eq_true (by omega))) ?_
  refine RD_l 5 rfl (Yl_move rfl) ?_
  refine RD_skip (i := 6) rfl rfl rfl rfl (by kernel_rfl) (fun _ _ _ h => h) ?_
  refine RD_skip (i := 7) rfl rfl rfl rfl (by kernel_rfl) (fun _ _ _ h => h) ?_
  refine RD_skip (i := 8) rfl rfl rfl rfl (by kernel_rfl) (fun _ _ _ h => h) ?_
  refine RD_skip (i := 9) rfl rfl rfl rfl (by kernel_rfl) (fun _ _ _ h => h) ?_
  refine RD_skip (i := 10) rfl rfl rfl rfl (by kernel_rfl) (fun _ _ _ h => h) ?_
  refine RD_skip (i := 11) rfl rfl rfl rfl (by kernel_rfl) (fun _ _ _ h => h) ?_
  refine RD_skip (i := 12) rfl rfl rfl rfl (by kernel_rfl) (fun _ _ _ h => h) ?_
  refine RD_skip (i := 13) rfl rfl rfl rfl (by kernel_rfl) (fun _ _ _ h => h) ?_
  refine RD_skip (i := 14) rfl rfl rfl rfl (by kernel_rfl) (fun _ _ _ h => h) ?_
  refine RD_l 15 rfl (Yl_pick_t rfl rfl) ?_
  refine (RD_done (by kernel_rfl) (QW_lv (ks := [0, 1, 31]) ?_))
  refine CW_true rfl ?_
  refine CW_seq ?_
  refine CW_draw [] _ mixed (Sub.refl _) ?_
  refine RD_l 1 rfl (Yl_assign rfl) ?_
  refine RD_h (i := 0) #[false, true, false] rfl rfl rfl rfl (by kernel_rfl) (fun _ _ _ h => h) (Yh_load (v := v0) rfl sc_105 (by repeat (first | exact List.Mem.head _ | apply List.Mem.tail)) rfl) ?_
  refine RD_l 2 rfl (Yl_assign rfl) ?_
  refine (RD_done (by kernel_rfl) (QW_lv (ks := [4, 5]) ?_))
  refine CW_ret ?_
  refine QW_ret_then ?_
  exact QW_ret2 rfl rfl rfl [_, _] ⟨rfl, rfl⟩ (Prm.nil _)
set_option maxHeartbeats 4000000 in
theorem one_eof (bf bd br ini cur : Nat) (nm : List UInt8) (path : Value) (size pos rem : Int) (U : TypeId) (u : Value) (T0 : TypeId) (fz0 : Nat × Nat) (n : Nat) (off wh : Int) (hn : n ≤ 65536) (hs : size < 1) (hU : Nat.beq U 123 = false) :
    Ct Tryd.prog 37 [pv bf, .agg [nv 0, nv n, .int .i64 off, .int .i64 wh, .slice none 0 0].toArray] [(bf, blk (fiF nm ini path size pos cur rem bd br) 93), (0, Obj.cells [.iface U u].toArray T0 fz0)] (fun v q => v = .tuple #[.agg [.slice none 0 0, nv 0, nv 6].toArray, .bool true] ∧ q = [(bf, blk (fiF nm ini path size pos cur rem bd br) 93), (0, Obj.cells [.iface U u].toArray T0 fz0)]) := by
  refine Ct_of Tryd.func37 rfl Tryd.ntmps37 rfl ?_
  intro E F
  simp only [numL, List.nil_append, List.cons_append]
  refine CW_seq ?_
  refine CW_region ?_
  refine RW_fx rfl rfl rfl (Fx_box (zs := [nv 0, nv n, .int .i64 off, .int .i64 wh, .slice none 0 0]) rfl rfl) ?_
  rintro _ _ ⟨b3, rfl, rfl⟩
  refine RW_fx rfl rfl rfl (Fx_alloc (zs := zs_58) ze_58 rfl) ?_
  rintro _ _ ⟨b4, rfl, rfl⟩
  refine RW_a ?_
  refine RW_lv (ks := [0, 3, 4]) ?_
  refine CW_seq ?_
  refine CW_seq ?_
  refine CW_region ?_
  refine RW_l (Yl_field rfl fo_53_1) ?_
  refine RW_h (Yh_load (v := nv n) rfl sc_3 (by repeat (first | exact List.Mem.head _ | apply List.Mem.tail)) rfl) ?_
  refine RW_l (Yl_lssB false rfl rfl (decide_eq_false (by omega))) ?_
  refine RW_m ?_
  refine RW_gy rfl rfl rfl (Yl.h (Yl_field rfl fo_53_1)) ?_
  refine RW_gy rfl rfl rfl (Yh_load (v := nv n) rfl sc_3 (by repeat (first | exact List.Mem.head _ | apply List.Mem.tail)) rfl) ?_
  refine RW_gy rfl rfl rfl (Yl.h (Yl_gtrB false rfl rfl (decide_eq_false (by omega)))) ?_
  refine RW_l (Yl_pick_f rfl rfl) ?_
  refine RW_m ?_
  refine RW_gy rfl rfl rfl (Yl.h (Yl_field rfl fo_53_4)) ?_
  refine RW_gy rfl rfl rfl (Yh_load (v := .slice none 0 0) rfl sc_23 (by repeat (first | exact List.Mem.head _ | apply List.Mem.tail)) rfl) ?_
  refine RW_gy rfl rfl rfl (Yl.h (Yl_len rfl sl_23)) ?_
  refine RW_gy rfl rfl rfl (Yl.h (Yl_gtrB false rfl rfl (decide_eq_false (by omega)))) ?_
  refine RW_l (Yl_pick_f rfl rfl) ?_
  refine RW_lv (ks := [0, 3, 4, 24]) ?_
  refine CW_false rfl ?_
  refine (CW_skip (QW_lv (ks := [0, 3, 4]) ?_))
  refine CW_seq ?_
  refine CW_region ?_
  refine RW_l (Yl_field rfl fo_53_1) ?_
  refine RW_h (Yh_load (v := nv n) rfl sc_3 (by repeat (first | exact List.Mem.head _ | apply List.Mem.tail)) rfl) ?_
  refine RW_fx rfl rfl rfl (Fx_makeU8 n rfl rfl (by omega)) ?_
  rintro _ _ ⟨b28, rfl, rfl⟩
  refine RW_a ?_
  refine RW_lv (ks := [0, 3, 4, 6]) ?_
  refine CW_seq ?_
  refine CW_region ?_
  refine RW_a ?_
  refine RW_lv (ks := [0, 3, 4, 6]) ?_
  refine CW_seq ?_
  refine CW_region ?_
  refine RW_a ?_
  refine RW_lv (ks := [0, 3, 4, 6]) ?_
  refine CW_seq ?_
  refine CW_seq ?_
  refine CW_region ?_
  refine RW_l (Yl_field rfl fo_53_0) ?_
  refine RW_h (Yh_load (v := nv 0) rfl sc_3 (by repeat (first | exact List.Mem.head _ | apply List.Mem.tail)) rfl) ?_
  refine RW_lv (ks := [0, 3, 4, 6, 30]) ?_
  refine CW_block ?_
  refine CW_seq ?_
  refine CW_region ?_
  refine RW_l (Yl_eqlB true rfl rfl (decide_eq_true (by omega))) ?_
  refine RW_a ?_
  refine RW_lv (ks := [0, 3, 4, 6, 30, 32]) ?_
  refine CW_true rfl ?_
  refine CW_region ?_
  refine RW_m ?_
  refine RW_m ?_
  refine RW_fx rfl rfl rfl (Fx_callQ ok_41 (vs := [pv bf, .slice (some ⟨b28, 0, none⟩) n n]) (R := fun v => v = .tuple #[nv 0, .iface U u]) rfl (Pick.cons (by repeat (first | exact Rem.here _ _ | apply Rem.there)) (Pick.cons (by repeat (first | exact Rem.here _ _ | apply Rem.there)) (Pick.nil _))) (Read_eof bf bd br ini cur nm path size pos rem (.iface U u) T0 fz0 _ n n hs)) ?_
  rintro _ _ ⟨rfl, rfl⟩
  refine RW_m ?_
  refine RW_l (Yl_extract (v := nv 0) rfl rfl) ?_
  refine RW_l (Yl_extract (v := .iface U u) rfl rfl) ?_
  refine RW_a ?_
  refine RW_a ?_
  refine RW_nil ?_
  refine QW_normal_block ?_
  refine (QW_lv (ks := [4, 6, 7, 8]) ?_)
  refine CW_seq ?_
  refine CW_region ?_
  refine RW_m ?_
  refine RW_m ?_
  refine RW_l (Yl_cutHN (h := 0) rfl rfl sl_23 (Nat.zero_le _)) ?_
  refine RW_l (Yl_append0 rfl rfl sl_23 (Nat.le_refl _)) ?_
  refine RW_m ?_
  refine RW_m ?_
  refine RW_fx rfl rfl rfl (Fx_callQ ok_40 (vs := [.iface U u]) (R := fun v => v = nv 6) rfl (Pick.nil _) (code_other U u hU)) ?_
  rintro _ _ ⟨rfl, rfl⟩
  refine RW_l (Yl_build (cs := [.slice none 0 0, nv 0, nv 6]) pl_58 ze_58 rfl rfl) ?_
  refine RW_fx0 rfl rfl (Fx_storeA (b := b4) (off := 0) (l := zs_58) (T := 58) (cs := [.slice none 0 0, nv 0, nv 6]) rfl rfl sz_58 (by intro u hu; simp only [List.mem_cons, List.not_mem_nil, or_false] at hu; rcases hu with hu | hu | hu <;> rw [hu] <;> rfl) (by repeat (first | exact Rep.here _ _ _ | apply Rep.there)) (Nat.le_refl 3)) ?_
  rintro _ _ rfl
  refine RW_a ?_
  refine RW_lv (ks := [4, 5]) ?_
  refine CW_ret ?_
  refine QW_retCt rfl rfl rfl (b := b4) (T := 58) (cs := [.slice none 0 0, nv 0, nv 6]) (by repeat (first | exact List.Mem.head _ | apply List.Mem.tail)) ag_58 [(bf, blk (fiF nm ini path size pos cur rem bd br) 93), (0, Obj.cells [.iface U u].toArray T0 fz0)] ⟨rfl, rfl⟩ (fun w h => ?_)
  refine HA.sub h ?_
  exact .cons _ (.cons _ (.cons _ (.refl _)))
end Go.Proofs.YtgoddcicbpjknaaDoor

/-! Values: steps that are done one behind the other. -/
set_option maxRecDepth 20000
namespace Go.Proofs.YtgoddcicbpjknaaDoor
open Go
open Cfb
/-- Parts of one size, one behind the other. -/
theorem chunk_at (s : Nat) : ∀ (rows : List (List Value)) (r : List Value) (k : Nat), (∀ x ∈ rows, x.length = s) → k < rows.length → ((rows.flatten ++ r).drop (k * s)).take s = rows.getD k [] := by
  intro rows
  induction rows with
  | nil => intro r k _ h; simp at h
  | cons x l ih =>
    intro r k hl h
    have hx := hl x (by simp)
    cases k with
    | zero =>
      simp only [List.flatten_cons, Nat.zero_mul, List.drop_zero, List.append_assoc, List.getD_cons_zero]
      rw [List.take_append_of_le_length (by omega), List.take_of_length_le (by omega)]
    | succ k =>
      have h1 := ih r k (fun y hy => hl y (by simp [hy])) (by simpa using h)
      simp only [List.flatten_cons, List.append_assoc, List.getD_cons_succ]
      rw [show (k + 1) * s = x.length + k * s by rw [hx, Nat.add_mul]; omega, List.drop_append]
      simp only [Nat.add_sub_cancel_left]
      rw [List.drop_of_length_le (by omega), List.nil_append]
      exact h1
theorem chunk_len (s : Nat) : ∀ (rows : List (List Value)), (∀ x ∈ rows, x.length = s) → rows.flatten.length = rows.length * s := by
  intro rows
  induction rows with
  | nil => intro _; simp
  | cons x l ih =>
    intro h
    rw [List.flatten_cons, List.length_append, h x (by simp), ih (fun y hy => h y (by simp [hy])), List.length_cons, Nat.add_mul]; omega
theorem rep_r {H H' : Heap} {x y : Nat × Obj} (G : Heap) (h : Rep H x y H') : Rep (G ++ H) x y (G ++ H') := by
  induction G with
  | nil => exact h
  | cons a G ih => exact .there a ih
theorem p_open (a b : Nat × Obj) (R E F : Heap) : (a :: (R ++ (b :: (E ++ F)))).Perm ((R ++ E) ++ (a :: b :: F)) := by
  have h1 : (b :: (E ++ F)).Perm (E ++ (b :: F)) := List.perm_middle.symm
  have h2 : (a :: (R ++ (b :: (E ++ F)))).Perm (a :: (R ++ (E ++ (b :: F)))) := (h1.append_left R).cons a
  refine h2.trans ?_
  rw [← List.append_assoc]
  exact List.perm_middle.symm
theorem p_app (x a b : Nat × Obj) (q O F : Heap) : (x :: (q ++ (a :: b :: (O ++ F)))).Perm (O ++ (x :: (q ++ (a :: b :: F)))) := by
  have h := perm_front (x :: (q ++ [a, b])) O F
  simpa only [List.cons_append, List.append_assoc, List.nil_append] using h
theorem p_back (g a b : Nat × Obj) (q F : Heap) : (g :: (q ++ (a :: b :: F))).Perm (q ++ (a :: b :: (g :: F))) := by
  have h := perm_front (q ++ [a, b]) [g] F
  have h2 := h.symm
  simpa only [List.cons_append, List.append_assoc, List.nil_append] using h2
/-- What is known of a reader that has just been opened. -/
structure ROk (R : Rdr) (ps : List Value) (T : TypeId) (B : List UInt8) (N ss : Nat) (es : List En) (tn : List Tn) (mi : Option (List Nat × List Nat)) : Prop where
  ok : ∃ er, R.Ok es (STv tn) mi er
  hB : R.B = B
  hN : R.N = N
  hss : R.ss = ss
  hps : R.ps = ps
  hT : R.T = T
  hcN : N ≤ R.cN
  hlen : (bys R.B ++ R.rB).length = R.cN
/-- What steps do: after j of them, the results rs, the blocks H. -/
structure Stp (R : Rdr) (i n : Nat) (sts : List (List Value)) (Inv : Nat → List (List Value) → List UInt8 → Heap → Prop) : Prop where
  mem : ∀ j rs B H, Inv j rs B H → (R.br, blk R.cells 89) ∈ H ∧ (R.bo, blk (outs R.bfs R.out ++ R.ro) 90) ∈ H ∧ (R.bs, blk [.slice (some ⟨R.bB, 0, none⟩) R.N R.cN] 103) ∈ H ∧ B.length = R.N ∧ (R.bB, blk (bys B ++ R.rB) 5) ∈ H
  step : ∀ j rs B H, Inv j rs B H → j < n → Ct Tryd.prog 37 [pv (R.bfs.getD (R.out.getD i 0) 0), .agg (sts.getD j []).toArray] H (fun v q => ∃ (r : List Value) (B2 : List UInt8), v = .tuple #[.agg r.toArray, .bool true] ∧ r.length = 3 ∧ (∀ u ∈ r, u.oneCell' = true) ∧ Inv (j + 1) (rs ++ [r]) B2 q)
structure SSt where
  j : Nat
  H : Heap
  B : List UInt8
  rs : List (List Value)
  g : Option Nat
  cap : Nat
  r : List Value
end Go.Proofs.YtgoddcicbpjknaaDoor

/-! Walks: Steps. -/
set_option maxRecDepth 20000
namespace Go.Proofs.YtgoddcicbpjknaaDoor
open Go
open Cfb
theorem outs_at (bfs : List Nat) (o : List Nat) (r : List Value) {i : Nat} (h : i < o.length) : (outs bfs o ++ r)[i]? = some (pv (bfs.getD (o.getD i 0) 0)) := by
  rw [List.getElem?_append_left (by simpa using h)]; simp [List.getD_eq_getElem?_getD, h]
set_option maxHeartbeats 4000000 in
theorem Steps_ct (gI cI : Nat) (rI : List Value) (N ss ver sh nd nf dl ml nm num_ : Nat) (B : List UInt8) (ps : List Value) (T : TypeId) (sns : List Nat) (es : List En) (tn : List Tn) (mi : Option (List Nat × List Nat)) (h : FileIn ps B N ss ver sh nd nf dl ml nm num_ sns es tn mi) (hN1 : N ≤ 131072) (hT0 : 2 ≠ gI) (hb : (STv tn).bad = false) (bst n cst : Nat) (sts : List (List Value)) (rst : List Value) (E0 : Heap) (i : Nat) (hsn : sts.length = n) (hn : n ≤ 100000) (hs5 : ∀ x ∈ sts, x.length = 5) (hs1 : ∀ x ∈ sts, ∀ u ∈ x, u.oneCell' = true) (hi : i < (STv tn).out.length) (hol0 : (STv tn).out.length ≤ 1000000)
    (Inv : Rdr → Nat → List (List Value) → List UInt8 → Heap → Prop) (hinv : ∀ R, ROk R ps T B N ss es tn mi → Inv R 0 [] B (R.H ++ E0)) (hstp : ∀ R, ROk R ps T B N ss es tn mi → Stp R i n sts (Inv R)) :
    Ct Tryd.prog 20 [.slice (some ⟨gI, 0, none⟩) N cI, nv i, .slice (some ⟨bst, 0, none⟩) n cst] ((gI, blk (bys B ++ rI) 5) :: (2, blk ps T) :: (bst, blk (sts.flatten ++ rst) 53) :: E0)
      (fun v q => ∃ (R : Rdr) (g : Option Nat) (cap : Nat) (r : List Value) (rs : List (List Value)) (b2 cap2 : Nat) (r2 : List Value) (B2 : List UInt8) (H : Heap), ROk R ps T B N ss es tn mi ∧ v = .tuple #[osl g n cap, .slice (some ⟨b2, 0, none⟩) N cap2, .bool true] ∧ Inv R n rs B2 H ∧ rs.length = n ∧ oOk g rs.flatten r n cap 3 ∧ B2.length = N ∧ (R.bB, blk (bys B2 ++ R.rB) 5) ∈ H ∧
        q = (b2, blk (bys B2 ++ r2) 5) :: (H ++ ((gI, blk (bys B ++ rI) 5) :: (bst, blk (sts.flatten ++ rst) 53) :: oH g (rs.flatten ++ r) 58))) := by
  have hop := opened_ct gI cI rI N ss ver sh nd nf dl ml nm num_ B ps T sns es tn mi h hN1 hT0
  refine Ct_of Tryd.func20 rfl Tryd.ntmps20 rfl ?_
  intro E F
  simp only [numL, List.nil_append, List.cons_append]
  refine CW_seq ?_
  refine CW_region ?_
  refine RW_a ?_
  refine RW_a ?_
  refine RW_a ?_
  refine RW_lv (ks := [0, 1, 2]) ?_
  refine CW_seq ?_
  refine CW_region ?_
  refine RW_m ?_
  refine RW_fx rfl rfl rfl (Fx_call ok_31 (vs := [.slice (some ⟨gI, 0, none⟩) N cI]) rfl (Pick.cons (.here _ _) (Pick.cons (.here _ _) (Pick.nil _))) hop) ?_
  rintro _ _ ⟨_, ⟨R, er, hok, hRB, hRN, hRs, hRp, hRT, hRc, hRr, hve, rfl⟩, rfl⟩
  rw [if_neg (by rw [hb]; decide), if_neg (by rw [hb]; decide)] at hve
  subst hve
  simp only [List.cons_append]
  refine RW_m ?_
  refine RW_l (Yl_extract (v := pv R.br) rfl rfl) ?_
  refine RW_l (Yl_extract (v := pv R.bs) rfl rfl) ?_
  refine RW_l (Yl_extract (v := nv 0) rfl rfl) ?_
  refine RW_a ?_
  refine RW_a ?_
  refine RW_a ?_
  refine RW_lv (ks := [1, 2, 9, 10, 11]) ?_
  refine CW_seq ?_
  refine CW_seq ?_
  have hro : ROk R ps T B N ss es tn mi := ⟨⟨er, hok⟩, hRB, hRN, hRs, hRp, hRT, hRc, hRr⟩
  have hol : R.out.length = (STv tn).out.length := by rw [hok.out]
  refine CW_heap (p_open _ _ _ _ _) ?_
  refine CW_region ?_
  refine RW_m ?_
  refine RW_l (Yl_neqB false rfl rfl (decide_eq_false (fun h => h rfl))) ?_
  refine RW_m ?_
  refine RW_gy rfl rfl rfl (Yl.h (Yl_move rfl)) ?_
  refine RW_gy rfl rfl rfl (Yl.h (Yl_lssB false rfl rfl (decide_eq_false (by omega)))) ?_
  refine RW_l (Yl_pick_f rfl rfl) ?_
  refine RW_m ?_
  refine RW_gy rfl rfl rfl (Yl.h (Yl_move rfl)) ?_
  refine RW_gy rfl rfl rfl (Yl.h (Yl_move rfl)) ?_
  refine RW_gy rfl rfl rfl (Yl.h (Yl_nilCheck rfl)) ?_
  refine RW_gy rfl rfl rfl (Yl.h (Yl_field rfl fo_89_4)) ?_
  refine RW_gy rfl rfl rfl (Yh_load (v := .slice (some ⟨R.bo, 0, none⟩) R.out.length R.capo) rfl sc_83 (by repeat (first | exact List.mem_append_left _ (List.mem_append_left _ (List.Mem.head _)) | apply List.Mem.tail)) rfl) ?_
  refine RW_gy rfl rfl rfl (Yl.h (Yl_len rfl sl_83)) ?_
  refine RW_gy rfl rfl rfl (Yl.h (Yl_geqB false rfl rfl (decide_eq_false (by omega)))) ?_
  refine RW_l (Yl_pick_f rfl rfl) ?_
  refine RW_lv (ks := [1, 2, 9, 10, 37]) ?_
  refine CW_false rfl ?_
  refine (CW_skip (QW_lv (ks := [1, 2, 9, 10]) ?_))
  refine CW_seq ?_
  refine CW_region ?_
  refine RW_a ?_
  refine RW_lv (ks := [1, 2, 9, 10, 12]) ?_
  refine CW_seq ?_
  refine CW_seq ?_
  refine CW_region ?_
  refine RW_m ?_
  refine RW_l (Yl_len rfl sl_51) ?_
  refine RW_m ?_
  refine RW_lv (ks := [1, 9, 10, 12, 38, 39, 40]) ?_
  refine CW_block ?_
  refine CW_loop (σ := SSt) (fun q => [(1, nv i), (9, pv R.br), (10, pv R.bs), (12, osl q.g q.j q.cap), (38, .slice (some ⟨bst, 0, none⟩) n cst), (39, nv n), (40, nv q.j)]) (fun q => q.H ++ ((gI, blk (bys B ++ rI) 5) :: (bst, blk (sts.flatten ++ rst) 53) :: (oH q.g (q.rs.flatten ++ q.r) 58 ++ F))) (fun q => q.j ≤ n ∧ Inv R q.j q.rs q.B q.H ∧ q.rs.length = q.j ∧ oOk q.g q.rs.flatten q.r q.j q.cap 3) (fun q => n - q.j) ⟨0, R.H ++ E0, B, [], none, 0, []⟩ ⟨by simp, hinv R hro, rfl, ⟨rfl, rfl⟩⟩ (Prm.nil _) (.cons rfl (.cons rfl (.cons rfl (.cons rfl (.cons rfl (.cons rfl (.cons rfl .nil))))))) ?_
  rintro ⟨j, H, B2, rs, g, cap, r⟩ ⟨hj, hI, hrl, ho⟩
  simp only at hj hI hrl ho ⊢
  obtain ⟨hm1, hm2, hm3, hB2, hm4⟩ := (hstp R hro).mem j rs B2 H hI
  refine CW_seq ?_
  refine CW_region ?_
  refine RW_l (Yl_lss rfl rfl) ?_
  refine RW_lv (ks := [1, 9, 10, 12, 38, 39, 40, 41]) ?_
  refine CW_seq ?_
  refine CW_cond rfl (fun hc1 => ?_) (fun hc1 => ?_)
  · replace hc1 := of_decide_eq_true hc1
    refine (CW_skip (QW_lv (ks := [1, 9, 10, 12, 38, 39, 40]) ?_))
    refine CW_seq ?_
    refine CW_block ?_
    refine CW_seq ?_
    obtain ⟨st, hst⟩ : ∃ st, sts.getD j [] = st := ⟨_, rfl⟩
    have hstm : st ∈ sts := by rw [← hst, List.getD_eq_getElem?_getD, List.getElem?_eq_getElem (by omega)]; exact List.getElem_mem _
    have hst5 := hs5 st hstm
    have hst1 := hs1 st hstm
    refine CW_region ?_
    refine RW_l (Yl_indexN (b := bst) (off := 0) (i := j) (o' := j * 5) rfl rfl sl_51 (by omega) (by omega)) ?_
    refine RW_h (Yh_loadE (cs := st) rfl ag_53 (List.mem_append_right _ (List.Mem.tail _ (List.Mem.head _))) (by rw [List.length_append, chunk_len 5 _ hs5]; omega) (by rw [chunk_at 5 _ _ _ hs5 (by omega)]; exact hst)) ?_
    refine RW_fx rfl rfl rfl (Fx_alloc (zs := zs_53) ze_53 rfl) ?_
    rintro _ _ ⟨b14, rfl, rfl⟩
    refine RW_fx0 rfl rfl (Fx_storeA (b := b14) (off := 0) (l := zs_53) (T := 53) (cs := st) rfl rfl (by rw [hst5]; exact sz_53) hst1 (.here _ _ _) (by rw [hst5]; exact Nat.le_refl 5)) ?_
    rintro _ _ rfl
    refine RW_lv (ks := [1, 9, 10, 12, 14, 38, 39, 40]) ?_
    rw [spl_full _ _ (by rw [hst5]; rfl)]
    have hone := (hstp R hro).step j rs B2 H hI (by omega)
    rw [hst] at hone
    refine CW_cut (σ := Nat × Heap × List Value × List UInt8) (fun q => [(1, nv i), (9, pv R.br), (10, pv R.bs), (12, osl g j cap), (15, pv q.1), (16, .bool true), (38, .slice (some ⟨bst, 0, none⟩) n cst), (39, nv n), (40, nv j)]) (fun q => (q.1, blk q.2.2.1 58) :: (q.2.1 ++ ((gI, blk (bys B ++ rI) 5) :: (bst, blk (sts.flatten ++ rst) 53) :: (oH g (rs.flatten ++ r) 58 ++ F)))) (fun q => q.2.2.1.length = 3 ∧ (∀ u ∈ q.2.2.1, u.oneCell' = true) ∧ Inv R (j + 1) (rs ++ [q.2.2.1]) q.2.2.2 q.2.1) ?_ ?_
    · skip
      refine CW_draw [8] _ mixed (Sub.refl _) ?_
      refine RD_l 0 rfl (Yl_move rfl) ?_
      refine RD_l 1 rfl (Yl_nilCheck rfl) ?_
      refine RD_l 2 rfl (Yl_field rfl fo_89_4) ?_
      refine RD_l 4 rfl (Yl_move rfl) ?_
      refine RD_h (i := 3) #[true, true, true, false, true, false, false, true, false, false, false, false, true, false, false] rfl rfl rfl rfl (by kernel_rfl) (fun _ _ _ h => h) (Yh_load (v := .slice (some ⟨R.bo, 0, none⟩) R.out.length R.capo) rfl sc_83 (by repeat (first | exact List.mem_append_left _ hm1 | apply List.Mem.tail)) rfl) ?_
      refine RD_l 5 rfl (Yl_indexN (b := R.bo) (off := 0) (i := i) (o' := i) rfl rfl sl_83 (by omega) (by omega)) ?_
      refine RD_h (i := 6) #[true, true, true, true, true, true, false, true, false, false, false, false, true, false, false] rfl rfl rfl rfl (by kernel_rfl) (fun _ _ _ h => h) (Yh_load (v := pv (R.bfs.getD (R.out.getD i 0) 0)) rfl sc_90 (by repeat (first | exact List.mem_append_left _ hm2 | apply List.Mem.tail)) (outs_at _ _ _ (by omega))) ?_
      refine RD_h (i := 7) #[true, true, true, true, true, true, true, false, false, false, false, false, true, false, false] rfl rfl rfl rfl (by kernel_rfl) (fun _ _ _ h => h) (Yh_loadAll (b := b14) (k := 5) (T := 53) (fz := (0, 0)) (l := st) rfl ag_53 (by repeat (first | exact List.Mem.head _ | apply List.Mem.tail)) hst5) ?_
      refine RD_two (i := 8) (j := 12) (by kernel_rfl) ?_ ?_
      · skip
        refine RO_fx rfl rfl rfl rfl (Fx_call ok_37 (vs := [pv (R.bfs.getD (R.out.getD i 0) 0), .agg st.toArray]) rfl (by first | exact pick_mid _ [_] _ | exact pick_mid _ [_, _] _) hone) ?_
        rintro _ _ ⟨_, ⟨rr, B3, rfl, hr3, hr1, hI2⟩, rfl⟩
        refine ⟨Or.inl (by kernel_rfl), ?_⟩
        refine RD_l 9 rfl (Yl_move rfl) ?_
        refine RD_l 10 rfl (Yl_extract (v := .agg rr.toArray) rfl rfl) ?_
        refine RD_l 11 rfl (Yl_extract (v := .bool true) rfl rfl) ?_
        refine RD_one (i := 12) (by kernel_rfl) ?_
        refine RO_fx rfl rfl rfl rfl (Fx_alloc (zs := zs_58) ze_58 rfl) ?_
        rintro _ _ ⟨b15, rfl, rfl⟩
        refine ⟨Or.inl (by kernel_rfl), ?_⟩
        refine RD_one (i := 13) (by kernel_rfl) ?_
        refine RO_fx0 rfl rfl rfl (Fx_storeA (b := b15) (off := 0) (l := zs_58) (T := 58) (cs := rr) rfl rfl (by rw [hr3]; exact sz_58) hr1 (by first | exact Rep.here _ _ _ | exact rep_r _ (Rep.here _ _ _)) (by rw [hr3]; exact Nat.le_refl 3)) ?_
        rintro _ _ rfl
        rw [spl_full _ _ (by rw [hr3]; rfl)]
        refine ⟨Or.inl (by kernel_rfl), ?_⟩
        refine RD_l 14 rfl (Yl_assign rfl) ?_
        refine RD_done (by kernel_rfl) ?_
        first
          | (refine QW_sub (List.Sublist.append_left (.cons_cons _ (.cons _ (.refl _))) _) ?_; refine QW_heap List.perm_middle ?_; exact QW_cut (b15, _, rr, B3) ⟨hr3, hr1, hI2⟩ (Prm.nil _) (.cons rfl (.cons rfl (.cons rfl (.cons rfl (.cons rfl (.cons rfl (.cons rfl (.cons rfl (.cons rfl .nil))))))))))
          | (refine QW_sub (.cons_cons _ (List.Sublist.append_left (.cons _ (.refl _)) _)) ?_; exact QW_cut (b15, _, rr, B3) ⟨hr3, hr1, hI2⟩ (Prm.nil _) (.cons rfl (.cons rfl (.cons rfl (.cons rfl (.cons rfl (.cons rfl (.cons rfl (.cons rfl (.cons rfl .nil))))))))))
      · skip
        refine RO_fx rfl rfl rfl rfl (Fx_alloc (zs := zs_58) ze_58 rfl) ?_
        rintro _ _ ⟨b15, rfl, rfl⟩
        refine ⟨Or.inr (Sub.more (Sub.refl _)), ?_⟩
        refine RD_one (i := 8) (by kernel_rfl) ?_
        refine RO_fx rfl rfl rfl rfl (Fx_call ok_37 (vs := [pv (R.bfs.getD (R.out.getD i 0) 0), .agg st.toArray]) rfl (by first | exact pick_mid _ [_] _ | exact pick_mid _ [_, _] _) hone) ?_
        rintro _ _ ⟨_, ⟨rr, B3, rfl, hr3, hr1, hI2⟩, rfl⟩
        refine ⟨Or.inl (by kernel_rfl), ?_⟩
        refine RD_l 9 rfl (Yl_move rfl) ?_
        refine RD_l 10 rfl (Yl_extract (v := .agg rr.toArray) rfl rfl) ?_
        refine RD_l 11 rfl (Yl_extract (v := .bool true) rfl rfl) ?_
        refine RD_one (i := 13) (by kernel_rfl) ?_
        refine RO_fx0 rfl rfl rfl (Fx_storeA (b := b15) (off := 0) (l := zs_58) (T := 58) (cs := rr) rfl rfl (by rw [hr3]; exact sz_58) hr1 (by first | exact Rep.here _ _ _ | exact rep_r _ (Rep.here _ _ _)) (by rw [hr3]; exact Nat.le_refl 3)) ?_
        rintro _ _ rfl
        rw [spl_full _ _ (by rw [hr3]; rfl)]
        refine ⟨Or.inl (by kernel_rfl), ?_⟩
        refine RD_l 14 rfl (Yl_assign rfl) ?_
        refine RD_done (by kernel_rfl) ?_
        first
          | (refine QW_sub (List.Sublist.append_left (.cons_cons _ (.cons _ (.refl _))) _) ?_; refine QW_heap List.perm_middle ?_; exact QW_cut (b15, _, rr, B3) ⟨hr3, hr1, hI2⟩ (Prm.nil _) (.cons rfl (.cons rfl (.cons rfl (.cons rfl (.cons rfl (.cons rfl (.cons rfl (.cons rfl (.cons rfl .nil))))))))))
          | (refine QW_sub (.cons_cons _ (List.Sublist.append_left (.cons _ (.refl _)) _)) ?_; exact QW_cut (b15, _, rr, B3) ⟨hr3, hr1, hI2⟩ (Prm.nil _) (.cons rfl (.cons rfl (.cons rfl (.cons rfl (.cons rfl (.cons rfl (.cons rfl (.cons rfl (.cons rfl .nil))))))))))
    · rintro ⟨b15, q, rr, B3⟩ ⟨hr3, hr1, hI2⟩
      simp only at hr3 hr1 hI2 ⊢
      refine CW_seq ?_
      refine CW_seq ?_
      refine CW_region ?_
      refine RW_m ?_
      refine RW_l (Yl_not rfl) ?_
      refine RW_lv (ks := [1, 9, 10, 12, 15, 38, 39, 40, 57]) ?_
      refine CW_cond rfl (fun hc2 => ?_) (fun hc2 => ?_)
      · skip
        exact absurd hc2 (by decide)
      · skip
        refine (CW_skip (QW_lv (ks := [1, 9, 10, 12, 15, 38, 39, 40]) ?_))
        refine CW_region ?_
        refine RW_m ?_
        refine RW_h (Yh_loadAll (b := b15) (k := 3) (T := 58) (fz := (0, 0)) (l := rr) rfl ag_58 (by repeat (first | exact List.Mem.head _ | apply List.Mem.tail)) hr3) ?_
        refine RW_fx rfl rfl rfl (Fx_lit (vs := [.agg rr.toArray]) (css := [rr]) (cs := rr) sl_54 ze_58 rfl rfl rfl rfl rfl (by intro c hc; rw [List.mem_singleton.1 hc]; exact hr3) (by simp)) ?_
        rintro _ _ ⟨b60, rfl, rfl⟩
        refine RW_fx rfl rfl rfl (Fx_appOG (o := g) (xs := rs.flatten) (r := r) (news := rr) (T := 58) (n := j) (cap := cap) (m := 1) (c := 1) (R := (b15, blk rr 58) :: (q ++ ((gI, blk (bys B ++ rI) 5) :: (bst, blk (sts.flatten ++ rst) 53) :: F))) rfl rfl sl_54 by_58 ze_58 rfl (.here _ _) (p_app _ _ _ _ _ _) ho hr3 hr1 (by omega) (by omega) (by omega) (by omega)) ?_
        rintro _ _ ⟨g', cap', r', rfl, ho', rfl⟩
        refine RW_a ?_
        refine RW_nil ?_
        refine QW_normal_block ?_
        refine (QW_lv (ks := [1, 9, 10, 12, 38, 39, 40]) ?_)
        refine CW_region ?_
        refine RW_l (Yl_add (c := ((j + 1 : Nat) : Int)) rfl rfl (wi64 (by omega) (by omega))) ?_
        refine RW_m ?_
        refine RW_nil ?_
        refine QW_sub (H' := (g', blk ((rs.flatten ++ rr) ++ r') 58) :: (q ++ ((gI, blk (bys B ++ rI) 5) :: (bst, blk (sts.flatten ++ rst) 53) :: F))) (.cons_cons _ (.cons _ (.refl _))) ?_
        refine QW_heap (p_back _ _ _ _ _) ?_
        refine QW_round (σ := SSt) ⟨j + 1, q, B3, rs ++ [rr], some g', cap', r'⟩ ⟨by simp only; omega, hI2, by simp [hrl], ?_⟩ (by simp only; omega) ?_ (.cons rfl (.cons rfl (.cons rfl (.cons rfl (.cons rfl (.cons rfl (.cons rfl .nil)))))))
        · simp only [List.flatten_append, List.flatten_cons, List.flatten_nil, List.append_nil]; exact ho'
        · simp only [List.flatten_append, List.flatten_cons, List.flatten_nil, List.append_nil, List.cons_append, List.nil_append]; exact Prm.nil _
  · replace hc1 := of_decide_eq_false hc1
    refine CW_exit ?_
    refine QW_exit_then ?_
    refine QW_exit_then ?_
    refine QW_exit_block ?_
    refine (QW_lv (ks := [10, 12]) ?_)
    refine CW_seq ?_
    have hN5 := h.hN5
    refine CW_region ?_
    refine RW_m ?_
    refine RW_m ?_
    refine RW_l (Yl_nilCheck rfl) ?_
    refine RW_l (Yl_field rfl fo_103_0) ?_
    refine RW_h (Yh_load (v := .slice (some ⟨R.bB, 0, none⟩) R.N R.cN) rfl sc_23 (List.mem_append_left _ hm3) rfl) ?_
    refine RW_fx rfl rfl rfl (Fx_append_nil (z0 := .int .u8 0) (q := 1) (lx := bys B2 ++ R.rB) (offx := 0) rfl rfl sl_23 by_5 ze_5 rfl rfl (List.mem_append_left _ hm4) (by rw [List.length_append, List.length_map]; omega) (by omega) (by omega) (by omega)) ?_
    rintro _ _ ⟨b2, l2, cap2, rfl, hc1, hc2, hc3, rfl⟩
    refine RW_a ?_
    refine RW_a ?_
    refine RW_a ?_
    refine RW_lv (ks := [6, 7, 8]) ?_
    refine CW_ret ?_
    have hjn : j = n := by omega
    rw [hjn] at hI ho hrl
    have hN5 := h.hN5
    have e2 : l2 = bys B2 ++ l2.drop R.N := by
      have h4 : (bys B2 ++ R.rB).take R.N = bys B2 := by rw [List.take_append_of_le_length (by simp; omega), List.take_of_length_le (by simp; omega)]
      rw [Nat.mul_one, List.drop_zero, h4] at hc3
      have := List.take_append_drop R.N l2
      rw [hc3] at this; exact this.symm
    rw [e2]
    exact QW_ret3 rfl rfl rfl rfl ((b2, blk (bys B2 ++ l2.drop R.N) 5) :: (H ++ ((gI, blk (bys B ++ rI) 5) :: (bst, blk (sts.flatten ++ rst) 53) :: oH g (rs.flatten ++ r) 58))) ⟨R, g, cap, r, rs, b2, cap2, l2.drop R.N, B2, H, hro, by rw [hjn, hRN], hI, hrl, ho, by rw [hB2, hRN], hm4, rfl⟩ (by simp only [List.cons_append, List.append_assoc]; exact Prm.nil _)
end Go.Proofs.YtgoddcicbpjknaaDoor

/-! Values: bytes as a text. -/
set_option maxRecDepth 20000
namespace Go.Proofs.YtgoddcicbpjknaaDoor
open Go
open Cfb
theorem fold_push : ∀ (d : List UInt8) (s : ByteArray), (d.map fun y => (y.toNat : Int)).foldl (fun r n => r.push (UInt8.ofNat n.toNat)) s = ⟨s.data ++ d.toArray⟩ := by
  intro d
  induction d with
  | nil => intro s; simp
  | cons y r ih =>
    intro s
    simp only [List.map_cons, List.foldl_cons]
    rw [ih]
    have : UInt8.ofNat ((y.toNat : Int)).toNat = y := by simp
    rw [this]
    simp [ByteArray.push]
section
variable {P : Program} {E : World} {L : Fra} {H : Heap} {dst : Option Tmp} {ty : TypeId} {pos : String} {aft : Array Edge} {gd : Option (Nat × Bool)}
theorem Yh_bytesStr {x : Operand} {t u e : TypeId} {sz b off m c : Nat} {l : List Value} {T : TypeId} {fz : Nat × Nat} {d : List UInt8} (hx : ev L x = some (.slice (some ⟨b, off, none⟩) m c)) (ht : slOf P t = some (e, sz)) (he : inOf P e = some .u8) (hu : isStr P u = true)
    (hm : (b, Obj.cells l.toArray T fz) ∈ H) (hd : (l.drop off).take m = bys d) (hl : d.length = m) : Yh P E L H ⟨dst, .convert t u x, ty, pos, aft, gd⟩ (.string (bar d)) := by
  intro _ a w hf hh
  obtain ⟨inf, h1, _, _⟩ := slOf_u ht
  have h2 := inOf_u he
  have h3 := isStr_u hu
  have hload := run_loadCells_list (P := P) w ⟨b, off, none⟩ _ (hh.cellsAt hm (offx := off) (k := m))
  rw [hd] at hload
  have hlen : (bys d).length = m := by simp [hl]
  rw [hlen] at hload
  have hc : (bys d) = (d.map fun y => (y.toNat : Int)).map (Value.int .u8) := by simp [bys, bv, Function.comp_def]
  rw [hc] at hload
  have hr := run_convert_bytes_string (P := P) w t u e (some ⟨b, off, none⟩) m c h1 h2 h3
  rw [run_bytesToString w _ m c _ hload, fold_push] at hr
  have hb : (⟨ByteArray.empty.data ++ d.toArray⟩ : ByteArray) = bar d := by
    simp [bar, ByteArray.empty, ByteArray.emptyWithCapacity]
    rfl
  rw [hb] at hr
  simp only [execOp, hf.eval hx, Sem.run_bind, hr, Result.andThen_ok]
  rfl
theorem Yl_strEqT {x y : Operand} {s : ByteArray} {t u : TypeId} (hx : ev L x = some (.string s)) (hy : ev L y = some (.string s)) :
    Yl P L ⟨dst, .binOp .eql t x y u, ty, pos, aft, gd⟩ (.bool true) := by
  have := Yl_strEq (P := P) (dst := dst) (ty := ty) (pos := pos) (aft := aft) (gd := gd) (t := t) (u := u) hx hy
  simpa using this
end
end Go.Proofs.YtgoddcicbpjknaaDoor

/-! Walks: same. -/
set_option maxRecDepth 20000
namespace Go.Proofs.YtgoddcicbpjknaaDoor
open Go
open Cfb
set_option maxHeartbeats 4000000 in
theorem same_ct (b1 b2 N c1 c2 : Nat) (d : List UInt8) (r1 r2 : List Value) (hd : d.length = N) :
    Ct Tryd.prog 21 [.slice (some ⟨b1, 0, none⟩) N c1, .slice (some ⟨b2, 0, none⟩) N c2] [(b1, blk (bys d ++ r1) 5), (b2, blk (bys d ++ r2) 5)] (fun v q => v = .bool true ∧ q = [(b1, blk (bys d ++ r1) 5), (b2, blk (bys d ++ r2) 5)]) := by
  refine Ct_of Tryd.func21 rfl Tryd.ntmps21 rfl ?_
  intro E F
  simp only [numL, List.nil_append, List.cons_append]
  refine CW_seq ?_
  refine CW_region ?_
  refine RW_a ?_
  refine RW_lv (ks := [0, 1]) ?_
  refine CW_seq ?_
  refine CW_region ?_
  refine RW_m ?_
  refine RW_h (Yh_bytesStr (d := d) rfl sl_23 in_5 st_9 (by repeat (first | exact List.Mem.head _ | apply List.Mem.tail)) (by rw [List.drop_zero, List.take_append_of_le_length (by simp; omega), List.take_of_length_le (by simp; omega)]) hd) ?_
  refine RW_m ?_
  refine RW_h (Yh_bytesStr (d := d) rfl sl_23 in_5 st_9 (by repeat (first | exact List.Mem.head _ | apply List.Mem.tail)) (by rw [List.drop_zero, List.take_append_of_le_length (by simp; omega), List.take_of_length_le (by simp; omega)]) hd) ?_
  refine RW_l (Yl_strEqT rfl rfl) ?_
  refine RW_a ?_
  refine RW_lv (ks := [4]) ?_
  refine CW_ret ?_
  exact QW_ret1 rfl rfl [_, _] ⟨rfl, rfl⟩ (Prm.nil _)
end Go.Proofs.YtgoddcicbpjknaaDoor

/-! Steps that read an entry of no bytes. -/
set_option maxRecDepth 20000
namespace Go.Proofs.YtgoddcicbpjknaaDoor
open Go
open Cfb
theorem sub_len : ∀ (l m : List Nat), l.Nodup → (∀ x ∈ l, x ∈ m) → l.length ≤ m.length := by
  intro l
  induction l with
  | nil => intro m _ _; exact Nat.zero_le _
  | cons a r ih =>
    intro m hd h
    have ha := h a (by simp)
    have h1 := List.nodup_cons.1 hd
    have h2 := ih (m.erase a) h1.2 (fun x hx => by
      have hne : x ≠ a := fun e => h1.1 (e ▸ hx)
      exact (List.mem_erase_of_ne hne).2 (h x (by simp [hx])))
    rw [List.length_erase_of_mem ha] at h2
    have := List.length_pos_of_mem ha
    simp only [List.length_cons]
    omega
theorem order_len {o : List (Nat × List (List UInt8))} {n : Nat} (hd : (o.map Prod.fst).Nodup) (h : ∀ k, k ∈ o.map Prod.fst ↔ k < n) : o.length = n := by
  have h1 := nodup_len n _ hd (fun x hx => (h x).1 hx)
  have h2 := sub_len (List.range n) (o.map Prod.fst) List.nodup_range (fun x hx => (h x).2 (List.mem_range.1 hx))
  simp at h1 h2
  omega
/-- One of the reader's files, its blocks ahead. -/
theorem Rdr.split {R : Rdr} {k : Nat} {f : Fil} (hf : R.fs[k]? = some f) (E0 : Heap) : ∃ G, (R.H ++ E0).Perm (enB R.br f.bf f.bd f.en :: (E0 ++ G)) := by
  obtain ⟨G1, hG⟩ := filsH_split (br := R.br) hf
  unfold Rdr.H
  generalize (R.br, blk R.cells 89) = a1
  generalize (R.bh, blk R.hcells 137) = a2
  generalize (R.bhf, blk R.hc 142) = a3
  generalize (R.bb, blk R.lb 5) = a4
  generalize (R.bs, blk [Value.slice (some ⟨R.bB, 0, none⟩) R.N R.cN] 103) = a5
  generalize (R.bB, blk (bys R.B ++ R.rB) 5) = a6
  generalize (2, blk R.ps R.T) = a7
  generalize (R.g, blk (R.bfs.map pv ++ R.rn) 90) = a8
  generalize (R.bo, blk (outs R.bfs R.out ++ R.ro) 90) = a9
  generalize psH R.pth ++ R.X = Z
  obtain ⟨Y, hY⟩ : ∃ Y, Y = (f.bd, blk f.en.dc 112) :: G1 := ⟨_, rfl⟩
  rw [← hY] at hG
  refine ⟨[a1, a2, a3, a4, a5, a6, a7, a8, a9] ++ (Y ++ Z), ?_⟩
  have h1 : ([a1, a2, a3, a4, a5, a6, a7, a8, a9] ++ (filsH R.br R.fs ++ Z)).Perm ([a1, a2, a3, a4, a5, a6, a7, a8, a9] ++ (enB R.br f.bf f.bd f.en :: (Y ++ Z))) := (hG.append_right Z).append_left _
  have h2 : ([a1, a2, a3, a4, a5, a6, a7, a8, a9] ++ (enB R.br f.bf f.bd f.en :: (Y ++ Z))).Perm (enB R.br f.bf f.bd f.en :: ([a1, a2, a3, a4, a5, a6, a7, a8, a9] ++ (Y ++ Z))) := List.perm_middle
  have h3 := (h1.trans h2).append_right E0
  refine h3.trans ?_
  exact List.Perm.cons _ List.perm_append_comm
section
variable {ps : List Value} {T : TypeId} {four : Bool} {st : Nat} {ns : List Nm} {o : List (Nat × List (List UInt8))}
/-- The file of an entry, where the reader stands. -/
theorem ROk.file (h : NodesOk ns) (hk : ∀ k, k ∈ o.map Prod.fst ↔ k < ns.length) (ho : (STv (tnsF (verF four) (ns.map Nm.nd) (nmOf ns))).out = o.map Prod.fst) {R : Rdr} {B : List UInt8} {N ss : Nat} {mi : Option (List Nat × List Nat)}
    (hr : ROk R ps T B N ss (esF (verF four) st (ns.map Nm.nd) (nmOf ns)) (tnsF (verF four) (ns.map Nm.nd) (nmOf ns)) mi) {i : Nat} (hi : i < o.length) :
    ∃ f, R.fs[(o.getD i default).1]? = some f ∧ R.bfs.getD (R.out.getD i 0) 0 = f.bf ∧ (o.getD i default).1 < ns.length ∧ f.en.noPath = (enF (verF four) st (ns.map Nm.nd) (nmOf ns) (o.getD i default).1).noPath := by
  obtain ⟨er, hok⟩ := hr.ok
  have hoi : o.getD i default ∈ o := by rw [List.getD_eq_getElem?_getD, List.getElem?_eq_getElem hi]; exact List.getElem_mem _
  have hkk : (o.getD i default).1 < ns.length := (hk _).1 (List.mem_map.2 ⟨_, hoi, rfl⟩)
  have hcn := cnt_le (v := verF four) h.xs
  have hxl : (ns.map Nm.nd).length = ns.length := by simp
  have hes : (esF (verF four) st (ns.map Nm.nd) (nmOf ns)).length = cntF (verF four) (ns.map Nm.nd) := by simp [esF]
  have hlen : R.fs.length = (esF (verF four) st (ns.map Nm.nd) (nmOf ns)).length := by have := congrArg List.length hok.tok.rest; simpa using this
  have e1 : R.out.getD i 0 = (o.getD i default).1 := by
    rw [hok.out, ho]; simp [List.getD_eq_getElem?_getD, hi]
  have hkf : (o.getD i default).1 < R.fs.length := by omega
  obtain ⟨f, hf⟩ : ∃ f, R.fs[(o.getD i default).1]? = some f := ⟨_, List.getElem?_eq_getElem hkf⟩
  refine ⟨f, hf, ?_, hkk, ?_⟩
  · rw [e1, ← hok.tok.bf, List.getD_eq_getElem?_getD, List.getElem?_map, hf]; rfl
  · have := congrArg (fun l => l[(o.getD i default).1]?) hok.tok.rest
    simp only [List.getElem?_map, hf, Option.map_some] at this
    unfold esF at this
    rw [List.getElem?_map, List.getElem?_range (by omega)] at this
    exact Option.some.inj this
def stpR (n : Nat) : List Value := [nv 0, nv n, nv 0, nv 0, .slice none 0 0]
theorem Steps_eof (hp : PsOk ps) (h : NodesOk ns) (hk : ∀ k, k ∈ o.map Prod.fst ↔ k < ns.length) (hb : (STv (tnsF (verF four) (ns.map Nm.nd) (nmOf ns))).bad = false) (ho : (STv (tnsF (verF four) (ns.map Nm.nd) (nmOf ns))).out = o.map Prod.fst)
    (hol : o.length ≤ 1000) (hN : NF (verF four) (ns.map Nm.nd) ≤ 131072) (gI bst m i : Nat) (hi : i < o.length) (hm : m ≤ 65536) (hz : szN ns (o.getD i default).1 = 0) (U : TypeId) (u : Value) (hU : Nat.beq U 123 = false) (T0 : TypeId) (fz0 : Nat × Nat) :
    Ct Tryd.prog 20 [.slice (some ⟨gI, 0, none⟩) (NF (verF four) (ns.map Nm.nd)) (NF (verF four) (ns.map Nm.nd)), nv i, .slice (some ⟨bst, 0, none⟩) 1 1]
      [(gI, blk (bys (writeF (verF four) st (ns.map Nm.nd))) 5), (2, blk ps T), (bst, blk ([stpR m].flatten ++ []) 53), (0, Obj.cells [Value.iface U u].toArray T0 fz0)]
      (fun v q => ∃ (g cap : Nat) (r : List Value) (b2 cap2 : Nat) (r2 : List Value), v = .tuple #[.slice (some ⟨g, 0, none⟩) 1 cap, .slice (some ⟨b2, 0, none⟩) (NF (verF four) (ns.map Nm.nd)) cap2, .bool true] ∧
        q = [(b2, blk (bys (writeF (verF four) st (ns.map Nm.nd)) ++ r2) 5), (2, blk ps T), (0, Obj.cells [Value.iface U u].toArray T0 fz0), (gI, blk (bys (writeF (verF four) st (ns.map Nm.nd))) 5), (g, blk ([.slice none 0 0, nv 0, nv 6] ++ r) 58)]) := by
  refine Ct.ne fun hg => ?_
  have hf := fileIn (v := verF four) (st := st) ps h.xs (verF_or four) (h.names hp) h.lnks
  have hoo : (STv (tnsF (verF four) (ns.map Nm.nd) (nmOf ns))).out.length = o.length := by rw [ho]; simp
  have hs := Steps_ct gI (NF (verF four) (ns.map Nm.nd)) [] _ _ _ _ _ _ _ _ _ _ _ ps T _ _ _ _ hf hN hg hb bst 1 1 [stpR m] [] [(0, Obj.cells [Value.iface U u].toArray T0 fz0)] i rfl (by omega) (by intro x hx; rw [List.mem_singleton.1 hx]; rfl)
    (by intro x hx y hy; rw [List.mem_singleton.1 hx] at hy; exact List.all_eq_true.1 (show (stpR m).all Value.oneCell' = true from rfl) y hy) (by omega) (by omega)
    (fun R j rs B H => B = writeF (verF four) st (ns.map Nm.nd) ∧ H = R.H ++ [(0, Obj.cells [Value.iface U u].toArray T0 fz0)] ∧ rs = List.replicate j [.slice none 0 0, nv 0, nv 6]) (fun R _ => ⟨rfl, rfl, rfl⟩) ?_
  · rw [List.append_nil] at hs
    refine hs.less ?_
    rintro v post ⟨R, g, cap, r, rs, b2, cap2, r2, B2, H, hro, rfl, ⟨rfl, rfl, rfl⟩, hrl, hoo2, hB2, hBm, rfl⟩
    cases g with
    | none => exact absurd hoo2.1 (by omega)
    | some g =>
      refine ⟨_, ⟨g, cap, r, b2, cap2, r2, rfl, rfl⟩, ?_⟩
      have e1 := hro.hps
      have e2 := hro.hT
      refine .cons_cons _ ?_
      unfold Rdr.H
      rw [e1, e2]
      refine .cons _ (.cons _ (.cons _ (.cons _ (.cons _ (.cons _ (.cons_cons _ (.cons _ (.cons _ ?_))))))))
      exact List.Sublist.append (List.sublist_append_right _ [_]) (.cons_cons _ (.cons _ (.refl _)))
  · intro R hro
    obtain ⟨f, h1, h2, h3, h4⟩ := ROk.file (st := st) h hk ho hro hi
    refine ⟨?_, ?_⟩
    · rintro j rs B H ⟨rfl, rfl, rfl⟩
      have hB := hro.hB
      have hN2 := hro.hN
      have hl := hf.hB
      refine ⟨List.mem_append_left _ ?_, List.mem_append_left _ ?_, List.mem_append_left _ ?_, by rw [hN2]; exact hl, List.mem_append_left _ ?_⟩
      rotate_right
      · rw [← hB]; unfold Rdr.H; repeat (first | exact List.Mem.head _ | apply List.Mem.tail)
      all_goals unfold Rdr.H; repeat (first | exact List.Mem.head _ | apply List.Mem.tail)
    · rintro j rs B H ⟨rfl, rfl, rfl⟩ hj
      have hj0 : j = 0 := by omega
      subst hj0
      obtain ⟨G, hG⟩ := Rdr.split h1 [(0, Obj.cells [Value.iface U u].toArray T0 fz0)]
      have hsz : f.en.size < 1 := by
        have e1 := congrArg En.size h4
        have e2 : f.en.size = (enF (verF four) st (ns.map Nm.nd) (nmOf ns) (o.getD i default).1).size := e1
        unfold enF at e2
        rw [if_pos (by simpa using h3)] at e2
        rw [e2]
        have : szOfN (ns.map Nm.nd) (o.getD i default).1 = 0 := hz
        show ((szOfN (ns.map Nm.nd) (o.getD i default).1 : Nat) : Int) < 1
        omega
      rw [h2]
      refine Ct.conseq (one_eof f.bf f.bd R.br f.en.ini f.en.cur f.en.nm f.en.path f.en.size f.en.pos f.en.rem U u T0 fz0 m 0 0 hm hsz hU) hG ?_
      rintro v post ⟨rfl, rfl⟩
      refine ⟨_, ⟨[.slice none 0 0, nv 0, nv 6], _, rfl, rfl, by intro y hy; exact List.all_eq_true.1 (show ([.slice none 0 0, nv 0, nv 6] : List Value).all Value.oneCell' = true from rfl) y hy, rfl, rfl, rfl⟩, hG.symm⟩
end
end Go.Proofs.YtgoddcicbpjknaaDoor

/-! Walks: FnStorage. -/
set_option maxRecDepth 20000
namespace Go.Proofs.YtgoddcicbpjknaaDoor
open Go
open Cfb
theorem CW_sub {P : Program} {E : World} {n : Nat} {L : Fra} {H H' : Heap} {c : Code} {Q : Exit → Act → World → Prop} (hs : H'.Sublist H) (h : CW P E n L H' c Q) : CW P E n L H c Q := CW_drop hs h
set_option maxHeartbeats 4000000 in
theorem FnStorage_ct (nN cN nD cD st x : Nat) (pN pD : Option Addr) (four : Bool) (hst : st ≤ 255) (hx16 : x ≤ 65535) (ps : List Value) (T : TypeId) (hp : PsOk ps) (U : TypeId) (u : Value) (hU : Nat.beq U 123 = false) (T0 : TypeId) (fz0 : Nat × Nat) (D : Heap) (hN : NumOk ((2, blk ps T) :: (0, Obj.cells [Value.iface U u].toArray T0 fz0) :: D) pN nN) (hD : BytOk ((2, blk ps T) :: (0, Obj.cells [Value.iface U u].toArray T0 fz0) :: D) pD nD) (hcN : nN ≤ cN) :
    Ct Tryd.prog 12 [.slice pN nN cN, .slice pD nD cD, .bool four, .int .u8 (st : Int), .int .u16 (x : Int)] ((2, blk ps T) :: (0, Obj.cells [Value.iface U u].toArray T0 fz0) :: D) (fun v q => v = .bool true ∧ q = (2, blk ps T) :: (0, Obj.cells [Value.iface U u].toArray T0 fz0) :: D) := by
  refine Ct_of Tryd.func12 rfl Tryd.ntmps12 rfl ?_
  intro E F
  simp only [numL, List.nil_append, List.cons_append]
  refine CW_seq ?_
  refine CW_region ?_
  refine RW_a ?_
  refine RW_lv (ks := [0, 1, 2, 3, 4]) ?_
  refine CW_seq ?_
  refine CW_seq ?_
  refine CW_region ?_
  refine RW_m ?_
  refine RW_l (Yl_len rfl sl_22) ?_
  refine RW_l (Yl_gtr rfl rfl) ?_
  refine RW_m ?_
  refine RW_bool 25 rfl (fun hg1 => ?_) (fun hg1 => ?_)
  · replace hg1 := of_decide_eq_true hg1
    refine RW_skip rfl rfl rfl ?_
    refine RW_skip rfl rfl rfl ?_
    refine RW_skip rfl rfl rfl ?_
    refine RW_l (Yl_pick_t rfl rfl) ?_
    refine RW_lv (ks := [0, 1, 2, 3, 4, 29]) ?_
    refine CW_true rfl ?_
    refine CW_seq ?_
    refine CW_region ?_
    refine RW_a ?_
    refine RW_lv (ks := [10]) ?_
    refine CW_ret ?_
    refine QW_ret_then ?_
    first
      | exact QW_ret1 rfl rfl ((2, blk ps T) :: (0, Obj.cells [Value.iface U u].toArray T0 fz0) :: D) ⟨rfl, rfl⟩ (Prm.nil _)
      | (refine QW_sub (H' := (2, blk ps T) :: (0, Obj.cells [Value.iface U u].toArray T0 fz0) :: (D ++ F)) (.cons_cons _ (.cons_cons _ (.cons _ (.cons _ (List.sublist_append_right _ _))))) ?_; exact QW_ret1 rfl rfl ((2, blk ps T) :: (0, Obj.cells [Value.iface U u].toArray T0 fz0) :: D) ⟨rfl, rfl⟩ (Prm.nil _))
      | (refine QW_heap (H' := (2, blk ps T) :: (0, Obj.cells [Value.iface U u].toArray T0 fz0) :: (gI, blk (bys (writeF (verF four) st (ns.map Nm.nd))) 5) :: (gE, blk (rows.flatten ++ rr) 41) :: (ppR ++ ((g, blk (nms ns ++ rn) 43) :: (oO, blk (nats (o.map Prod.fst) ++ ro) 3) :: (ppO ++ (nmsH ns ++ (D ++ F)))))) ?_ ?_; exact hfinp; (refine QW_sub (H' := (2, blk ps T) :: (0, Obj.cells [Value.iface U u].toArray T0 fz0) :: (D ++ F)) (.cons_cons _ (.cons_cons _ (.cons _ (.cons _ (List.Sublist.trans (.cons _ (.cons _ (List.Sublist.trans (List.sublist_append_right _ _) (List.sublist_append_right _ _)))) (List.sublist_append_right _ _)))))) ?_; exact QW_ret1 rfl rfl ((2, blk ps T) :: (0, Obj.cells [Value.iface U u].toArray T0 fz0) :: D) ⟨rfl, rfl⟩ (Prm.nil _)))
  · replace hg1 := of_decide_eq_false hg1
    refine RW_gy rfl rfl rfl (Yl.h (Yl_move rfl)) ?_
    refine RW_gy rfl rfl rfl (Yl.h (Yl_len rfl sl_23)) ?_
    refine RW_gy rfl rfl rfl (Yl.h (Yl_gtr rfl rfl)) ?_
    refine RW_l (Yl_pick_f rfl rfl) ?_
    refine RW_lv (ks := [0, 1, 2, 3, 4, 29]) ?_
    refine CW_cond rfl (fun hc2 => ?_) (fun hc2 => ?_)
    · replace hc2 := of_decide_eq_true hc2
      refine CW_seq ?_
      refine CW_region ?_
      refine RW_a ?_
      refine RW_lv (ks := [10]) ?_
      refine CW_ret ?_
      refine QW_ret_then ?_
      first
        | exact QW_ret1 rfl rfl ((2, blk ps T) :: (0, Obj.cells [Value.iface U u].toArray T0 fz0) :: D) ⟨rfl, rfl⟩ (Prm.nil _)
        | (refine QW_sub (H' := (2, blk ps T) :: (0, Obj.cells [Value.iface U u].toArray T0 fz0) :: (D ++ F)) (.cons_cons _ (.cons_cons _ (.cons _ (.cons _ (List.sublist_append_right _ _))))) ?_; exact QW_ret1 rfl rfl ((2, blk ps T) :: (0, Obj.cells [Value.iface U u].toArray T0 fz0) :: D) ⟨rfl, rfl⟩ (Prm.nil _))
        | (refine QW_heap (H' := (2, blk ps T) :: (0, Obj.cells [Value.iface U u].toArray T0 fz0) :: (gI, blk (bys (writeF (verF four) st (ns.map Nm.nd))) 5) :: (gE, blk (rows.flatten ++ rr) 41) :: (ppR ++ ((g, blk (nms ns ++ rn) 43) :: (oO, blk (nats (o.map Prod.fst) ++ ro) 3) :: (ppO ++ (nmsH ns ++ (D ++ F)))))) ?_ ?_; exact hfinp; (refine QW_sub (H' := (2, blk ps T) :: (0, Obj.cells [Value.iface U u].toArray T0 fz0) :: (D ++ F)) (.cons_cons _ (.cons_cons _ (.cons _ (.cons _ (List.Sublist.trans (.cons _ (.cons _ (List.Sublist.trans (List.sublist_append_right _ _) (List.sublist_append_right _ _)))) (List.sublist_append_right _ _)))))) ?_; exact QW_ret1 rfl rfl ((2, blk ps T) :: (0, Obj.cells [Value.iface U u].toArray T0 fz0) :: D) ⟨rfl, rfl⟩ (Prm.nil _)))
    · replace hc2 := of_decide_eq_false hc2
      refine (CW_skip (QW_lv (ks := [0, 1, 2, 3, 4]) ?_))
      refine CW_seq ?_
      refine CW_seq ?_
      refine CW_region ?_
      refine RW_m ?_
      refine RW_m ?_
      refine RW_fx rfl rfl rfl (Fx_callQ ok_13 (vs := [.slice pN nN cN, .slice pD nD cD]) (R := fun v => v = .bool (decide (nN ≤ 100 ∧ nD ≤ 1000))) rfl (Pick.nil _) (few_ct pN pD nN cN nD cD)) ?_
      rintro _ _ ⟨rfl, rfl⟩
      refine RW_l (Yl_not rfl) ?_
      refine RW_lv (ks := [0, 1, 2, 3, 4, 33]) ?_
      refine CW_cond rfl (fun hc3 => ?_) (fun hc3 => ?_)
      · skip
        refine CW_seq ?_
        refine CW_region ?_
        refine RW_a ?_
        refine RW_lv (ks := [10]) ?_
        refine CW_ret ?_
        refine QW_ret_then ?_
        first
          | exact QW_ret1 rfl rfl ((2, blk ps T) :: (0, Obj.cells [Value.iface U u].toArray T0 fz0) :: D) ⟨rfl, rfl⟩ (Prm.nil _)
          | (refine QW_sub (H' := (2, blk ps T) :: (0, Obj.cells [Value.iface U u].toArray T0 fz0) :: (D ++ F)) (.cons_cons _ (.cons_cons _ (.cons _ (.cons _ (List.sublist_append_right _ _))))) ?_; exact QW_ret1 rfl rfl ((2, blk ps T) :: (0, Obj.cells [Value.iface U u].toArray T0 fz0) :: D) ⟨rfl, rfl⟩ (Prm.nil _))
          | (refine QW_heap (H' := (2, blk ps T) :: (0, Obj.cells [Value.iface U u].toArray T0 fz0) :: (gI, blk (bys (writeF (verF four) st (ns.map Nm.nd))) 5) :: (gE, blk (rows.flatten ++ rr) 41) :: (ppR ++ ((g, blk (nms ns ++ rn) 43) :: (oO, blk (nats (o.map Prod.fst) ++ ro) 3) :: (ppO ++ (nmsH ns ++ (D ++ F)))))) ?_ ?_; exact hfinp; (refine QW_sub (H' := (2, blk ps T) :: (0, Obj.cells [Value.iface U u].toArray T0 fz0) :: (D ++ F)) (.cons_cons _ (.cons_cons _ (.cons _ (.cons _ (List.Sublist.trans (.cons _ (.cons _ (List.Sublist.trans (List.sublist_append_right _ _) (List.sublist_append_right _ _)))) (List.sublist_append_right _ _)))))) ?_; exact QW_ret1 rfl rfl ((2, blk ps T) :: (0, Obj.cells [Value.iface U u].toArray T0 fz0) :: D) ⟨rfl, rfl⟩ (Prm.nil _)))
      · skip
        have hfew : nN ≤ 100 ∧ nD ≤ 1000 := by simpa using hc3
        refine (CW_skip (QW_lv (ks := [0, 1, 2, 3, 4]) ?_))
        refine CW_seq ?_
        have hnodes := nodesOf_ct nN cN nD cD pN pD ((2, blk ps T) :: (0, Obj.cells [Value.iface U u].toArray T0 fz0) :: D) hN hD (by omega) hcN (by omega)
        refine CW_region ?_
        refine RW_m ?_
        refine RW_m ?_
        refine RW_fx rfl rfl rfl (Fx_call ok_14 (vs := [.slice pN nN cN, .slice pD nD cD]) rfl (Pick.cons (by repeat (first | exact Rem.here _ _ | apply Rem.there)) (Pick.cons (by repeat (first | exact Rem.here _ _ | apply Rem.there)) (pick_app D F))) hnodes) ?_
        rintro _ _ ⟨_, ⟨ns, g, cap, rn, rfl, hno, hfit, rfl⟩, rfl⟩
        simp only [List.cons_append, List.append_assoc]
        refine RW_a ?_
        refine RW_lv (ks := [2, 3, 4, 11]) ?_
        refine CW_seq ?_
        have hxs := hno.xs
        have hw := write_ct g cap (verF four) st ns rn _ rfl hxs hno.ok (by rcases verF_or four with e | e <;> omega) (by omega)
        refine CW_region ?_
        refine RW_m ?_
        refine RW_m ?_
        refine RW_fx rfl rfl rfl (Fx_callQ ok_16 (vs := [.bool four]) (R := fun v => v = nv (verF four)) rfl (Pick.nil _) (versionOf_ct four)) ?_
        rintro _ _ ⟨rfl, rfl⟩
        refine RW_m ?_
        refine RW_l (Yl_conv (c := (st : Int)) rfl in_5 in_3 (wi64 (by omega) (by omega))) ?_
        refine RW_fx rfl rfl rfl (Fx_call ok_15 (vs := [.slice (some ⟨g, 0, none⟩) ns.length cap, nv (verF four), nv st]) rfl (Pick.cons (by repeat (first | exact Rem.here _ _ | apply Rem.there)) (pick_app (nmsH ns) _)) hw) ?_
        rintro _ _ ⟨_, ⟨gI, rfl, rfl⟩, rfl⟩
        simp only [List.cons_append]
        refine RW_a ?_
        refine RW_lv (ks := [4, 11, 12]) ?_
        refine CW_seq ?_
        refine CW_seq ?_
        refine CW_heap (perm_front ((gI, blk (bys (writeF (verF four) st (ns.map Nm.nd))) 5) :: (g, blk (nms ns ++ rn) 43) :: nmsH ns) [(2, blk ps T), (0, Obj.cells [Value.iface U u].toArray T0 fz0)] (D ++ F)) ?_
        simp only [List.cons_append, List.nil_append]
        refine CW_region ?_
        refine RW_m ?_
        refine RW_l (Yl_len rfl sl_23) ?_
        refine RW_l (Yl_gtr rfl rfl) ?_
        refine RW_lv (ks := [4, 11, 12, 45]) ?_
        refine CW_cond rfl (fun hc4 => ?_) (fun hc4 => ?_)
        · replace hc4 := of_decide_eq_true hc4
          refine CW_seq ?_
          refine CW_region ?_
          refine RW_a ?_
          refine RW_lv (ks := [10]) ?_
          refine CW_ret ?_
          refine QW_ret_then ?_
          first
            | exact QW_ret1 rfl rfl ((2, blk ps T) :: (0, Obj.cells [Value.iface U u].toArray T0 fz0) :: D) ⟨rfl, rfl⟩ (Prm.nil _)
            | (refine QW_sub (H' := (2, blk ps T) :: (0, Obj.cells [Value.iface U u].toArray T0 fz0) :: (D ++ F)) (.cons_cons _ (.cons_cons _ (.cons _ (.cons _ (List.sublist_append_right _ _))))) ?_; exact QW_ret1 rfl rfl ((2, blk ps T) :: (0, Obj.cells [Value.iface U u].toArray T0 fz0) :: D) ⟨rfl, rfl⟩ (Prm.nil _))
            | (refine QW_heap (H' := (2, blk ps T) :: (0, Obj.cells [Value.iface U u].toArray T0 fz0) :: (gI, blk (bys (writeF (verF four) st (ns.map Nm.nd))) 5) :: (gE, blk (rows.flatten ++ rr) 41) :: (ppR ++ ((g, blk (nms ns ++ rn) 43) :: (oO, blk (nats (o.map Prod.fst) ++ ro) 3) :: (ppO ++ (nmsH ns ++ (D ++ F)))))) ?_ ?_; exact hfinp; (refine QW_sub (H' := (2, blk ps T) :: (0, Obj.cells [Value.iface U u].toArray T0 fz0) :: (D ++ F)) (.cons_cons _ (.cons_cons _ (.cons _ (.cons _ (List.Sublist.trans (.cons _ (.cons _ (List.Sublist.trans (List.sublist_append_right _ _) (List.sublist_append_right _ _)))) (List.sublist_append_right _ _)))))) ?_; exact QW_ret1 rfl rfl ((2, blk ps T) :: (0, Obj.cells [Value.iface U u].toArray T0 fz0) :: D) ⟨rfl, rfl⟩ (Prm.nil _)))
        · replace hc4 := of_decide_eq_false hc4
          refine (CW_skip (QW_lv (ks := [4, 11, 12]) ?_))
          refine CW_seq ?_
          obtain ⟨o, ho, hok, hond, hol, hbad, hout, hpth⟩ := hno.travs (verF four)
          have hnl := hno.len
          have hord := Order_ct ns g cap rn o (by omega) (by omega) ho (fun k hk => (hok k).1 hk)
          have hoe := order_len hond hok
          have hfl : (writeF (verF four) st (ns.map Nm.nd)).length = (NF (verF four) (ns.map Nm.nd)) := (fileIn (v := (verF four)) (st := st) ps hxs (verF_or four) (hno.names hp) hno.lnks).hB
          refine CW_region ?_
          refine RW_m ?_
          refine RW_fx rfl rfl rfl (Fx_call ok_17 (vs := [.slice (some ⟨g, 0, none⟩) ns.length cap]) rfl (Pick.cons (by repeat (first | exact Rem.here _ _ | apply Rem.there)) (Pick.nil _)) hord) ?_
          rintro _ _ ⟨_, ⟨vs, oO, co, ro, oP, cp, rp, ppO, rfl, hvs, hro, hrp, rfl⟩, rfl⟩
          simp only [List.cons_append]
          refine RW_m ?_
          refine RW_l (Yl_extract (v := .slice (some ⟨oO, 0, none⟩) o.length co) rfl rfl) ?_
          refine RW_l (Yl_extract (v := .slice (some ⟨oP, 0, none⟩) o.length cp) rfl rfl) ?_
          refine RW_a ?_
          refine RW_a ?_
          refine RW_lv (ks := [4, 11, 12, 13]) ?_
          refine CW_seq ?_
          refine CW_seq ?_
          refine CW_sub (H' := (g, blk (nms ns ++ rn) 43) :: (oO, blk (nats (o.map Prod.fst) ++ ro) 3) :: (ppO ++ ((2, blk ps T) :: (0, Obj.cells [Value.iface U u].toArray T0 fz0) :: (gI, blk (bys (writeF (verF four) st (ns.map Nm.nd))) 5) :: (nmsH ns ++ (D ++ F))))) (.cons_cons _ (.cons_cons _ (.cons _ (.refl _)))) ?_
          refine CW_heap (H' := (g, blk (nms ns ++ rn) 43) :: (oO, blk (nats (o.map Prod.fst) ++ ro) 3) :: (gI, blk (bys (writeF (verF four) st (ns.map Nm.nd))) 5) :: (2, blk ps T) :: (0, Obj.cells [Value.iface U u].toArray T0 fz0) :: (ppO ++ (nmsH ns ++ (D ++ F)))) ?_ ?_
          · refine (((perm_front ppO [(2, blk ps T), (0, Obj.cells [Value.iface U u].toArray T0 fz0), (gI, blk (bys (writeF (verF four) st (ns.map Nm.nd))) 5)] (nmsH ns ++ (D ++ F))).trans ?_).cons _).cons _
            exact ((List.Perm.swap _ _ _).cons _).trans (List.Perm.swap _ _ _)
          refine CW_region ?_
          refine RW_m ?_
          refine RW_l (Yl_len rfl sl_29) ?_
          refine RW_m ?_
          refine RW_lv (ks := [4, 11, 12, 13, 51, 52, 53]) ?_
          refine CW_block ?_
          refine CW_loop (σ := Nat) (fun i => [(4, .int .u16 (x : Int)), (11, .slice (some ⟨g, 0, none⟩) ns.length cap), (12, .slice (some ⟨gI, 0, none⟩) (NF (verF four) (ns.map Nm.nd)) (NF (verF four) (ns.map Nm.nd))), (13, .slice (some ⟨oO, 0, none⟩) o.length co), (51, .slice (some ⟨oO, 0, none⟩) o.length co), (52, nv o.length), (53, nv i)]) (fun _ => (g, blk (nms ns ++ rn) 43) :: (oO, blk (nats (o.map Prod.fst) ++ ro) 3) :: (gI, blk (bys (writeF (verF four) st (ns.map Nm.nd))) 5) :: (2, blk ps T) :: (0, Obj.cells [Value.iface U u].toArray T0 fz0) :: (ppO ++ (nmsH ns ++ (D ++ F)))) (fun i => i ≤ o.length) (fun i => o.length - i) 0 (Nat.zero_le _) (by repeat (first | exact Prm.nil _ | exact Rem.here _ _ | apply Rem.there | apply Prm.cons)) (.cons rfl (.cons rfl (.cons rfl (.cons rfl (.cons rfl (.cons rfl (.cons rfl .nil))))))) ?_
          rintro i hi
          refine CW_seq ?_
          refine CW_region ?_
          refine RW_l (Yl_lss rfl rfl) ?_
          refine RW_lv (ks := [4, 11, 12, 13, 51, 52, 53, 54]) ?_
          refine CW_seq ?_
          refine CW_cond rfl (fun hc5 => ?_) (fun hc5 => ?_)
          · replace hc5 := of_decide_eq_true hc5
            refine (CW_skip (QW_lv (ks := [4, 11, 12, 13, 51, 52, 53]) ?_))
            refine CW_seq ?_
            refine CW_block ?_
            refine CW_seq ?_
            obtain ⟨k, hk⟩ : ∃ k, (o.getD i default).1 = k := ⟨_, rfl⟩
            have hoi : o.getD i default ∈ o := by rw [List.getD_eq_getElem?_getD, List.getElem?_eq_getElem (by omega)]; exact List.getElem_mem _
            have hkn : k < ns.length := (hok k).1 (List.mem_map.2 ⟨_, hoi, hk⟩)
            obtain ⟨x1, hx⟩ : ∃ x, ns.getD k default = x := ⟨_, rfl⟩
            refine CW_region ?_
            refine RW_m ?_
            refine RW_l (Yl_indexN (b := oO) (off := 0) (i := i) (o' := i) rfl rfl sl_29 (by omega) (by omega)) ?_
            refine RW_h (Yh_load (v := nv k) rfl sc_3 (by repeat (first | exact List.Mem.head _ | apply List.Mem.tail)) (fst_at (by omega) hk)) ?_
            refine RW_a ?_
            refine RW_a ?_
            refine RW_lv (ks := [4, 11, 12, 13, 15, 16, 51, 52, 53]) ?_
            refine CW_seq ?_
            refine CW_seq ?_
            refine CW_region ?_
            refine RW_m ?_
            refine RW_l (Yl_eql rfl rfl) ?_
            refine RW_m ?_
            refine RW_bool 60 rfl (fun hg6 => ?_) (fun hg6 => ?_)
            · replace hg6 := of_decide_eq_true hg6
              refine RW_skip rfl rfl rfl ?_
              refine RW_skip rfl rfl rfl ?_
              refine RW_skip rfl rfl rfl ?_
              refine RW_skip rfl rfl rfl ?_
              refine RW_skip rfl rfl rfl ?_
              refine RW_skip rfl rfl rfl ?_
              refine RW_skip rfl rfl rfl ?_
              refine RW_l (Yl_pick_t rfl rfl) ?_
              refine RW_lv (ks := [4, 11, 12, 13, 15, 51, 52, 53, 68]) ?_
              refine CW_true rfl ?_
              refine CW_exit ?_
              refine QW_exit_then ?_
              refine QW_exit_block ?_
              refine (QW_lv (ks := [4, 11, 12, 13, 51, 52, 53]) ?_)
              refine CW_region ?_
              refine RW_l (Yl_add (c := ((i + 1 : Nat) : Int)) rfl rfl (wi64 (by omega) (by omega))) ?_
              refine RW_m ?_
              refine RW_nil ?_
              first
                | (refine QW_dropB (e := (b2, _)) (by repeat (first | exact Rem.here _ _ | apply Rem.there)) ?_; refine QW_dropB (e := (gR, _)) (by repeat (first | exact Rem.here _ _ | apply Rem.there)) ?_; exact QW_round (i + 1) (by omega) (by omega) (by repeat (first | exact Prm.nil _ | exact Rem.here _ _ | apply Rem.there | apply Prm.cons)) (.cons rfl (.cons rfl (.cons rfl (.cons rfl (.cons rfl (.cons rfl (.cons rfl .nil))))))))
                | exact QW_round (i + 1) (by omega) (by omega) (by repeat (first | exact Prm.nil _ | exact Rem.here _ _ | apply Rem.there | apply Prm.cons)) (.cons rfl (.cons rfl (.cons rfl (.cons rfl (.cons rfl (.cons rfl (.cons rfl .nil)))))))
            · replace hg6 := of_decide_eq_false hg6
              refine RW_gy rfl rfl rfl (Yl.h (Yl_move rfl)) ?_
              refine RW_gy rfl rfl rfl (Yl.h (Yl_move rfl)) ?_
              refine RW_gy rfl rfl rfl (Yl.h (Yl_indexN (b := g) (off := 0) (i := k) (o' := k * 28) rfl rfl sl_25 hkn (by omega))) ?_
              refine RW_gy rfl rfl rfl (Yl.h (Yl_field rfl fo_43_2)) ?_
              refine RW_gy rfl rfl rfl (Yh_load (v := x1.slice) rfl sc_23 (by repeat (first | exact List.Mem.head _ | apply List.Mem.tail)) (by rw [nms_cell _ _ _ 2 hkn (by omega), hx]; rfl)) ?_
              refine RW_gy rfl rfl rfl (Yl.h (Yl_len rfl sl_23)) ?_
              refine RW_gy rfl rfl rfl (Yl.h (Yl_gtr rfl rfl)) ?_
              refine RW_l (Yl_pick_f rfl rfl) ?_
              refine RW_lv (ks := [4, 11, 12, 13, 15, 51, 52, 53, 68]) ?_
              refine CW_cond rfl (fun hc7 => ?_) (fun hc7 => ?_)
              · replace hc7 := of_decide_eq_true hc7
                refine CW_exit ?_
                refine QW_exit_then ?_
                refine QW_exit_block ?_
                refine (QW_lv (ks := [4, 11, 12, 13, 51, 52, 53]) ?_)
                refine CW_region ?_
                refine RW_l (Yl_add (c := ((i + 1 : Nat) : Int)) rfl rfl (wi64 (by omega) (by omega))) ?_
                refine RW_m ?_
                refine RW_nil ?_
                first
                  | (refine QW_dropB (e := (b2, _)) (by repeat (first | exact Rem.here _ _ | apply Rem.there)) ?_; refine QW_dropB (e := (gR, _)) (by repeat (first | exact Rem.here _ _ | apply Rem.there)) ?_; exact QW_round (i + 1) (by omega) (by omega) (by repeat (first | exact Prm.nil _ | exact Rem.here _ _ | apply Rem.there | apply Prm.cons)) (.cons rfl (.cons rfl (.cons rfl (.cons rfl (.cons rfl (.cons rfl (.cons rfl .nil))))))))
                  | exact QW_round (i + 1) (by omega) (by omega) (by repeat (first | exact Prm.nil _ | exact Rem.here _ _ | apply Rem.there | apply Prm.cons)) (.cons rfl (.cons rfl (.cons rfl (.cons rfl (.cons rfl (.cons rfl (.cons rfl .nil)))))))
              · replace hc7 := of_decide_eq_false hc7
                refine (CW_skip (QW_lv (ks := [4, 11, 12, 13, 15, 51, 52, 53]) ?_))
                refine CW_seq ?_
                have hsz : szN ns k = 0 := by rw [hno.size hkn (by omega), hx]; omega
                obtain ⟨m, hm⟩ : ∃ m, m = 1 + x % 1000 := ⟨_, rfl⟩
                have hst := fun b77 => Steps_eof (T := T) (st := st) hp hno hok hbad hout (by omega) (by omega) gI b77 m i (by omega) (by omega) (by rw [hk]; exact hsz) U u hU T0 fz0
                refine CW_region ?_
                refine RW_m ?_
                refine RW_m ?_
                refine RW_m ?_
                refine RW_l (Yl_conv (c := (x : Int)) rfl in_47 in_3 (wi64 (by omega) (by omega))) ?_
                refine RW_l (Yl_rem (c := ((x % 1000 : Nat) : Int)) rfl rfl (by omega) (remN x 1000)) ?_
                refine RW_l (Yl_add (c := (m : Int)) rfl rfl (by rw [hm]; exact wi64 (by omega) (by omega))) ?_
                refine RW_l (Yl_build (cs := stpR m) pl_53 ze_53 rfl rfl) ?_
                refine RW_fx rfl rfl rfl (Fx_lit (vs := [.agg (stpR m).toArray]) (css := [stpR m]) (cs := ([stpR m].flatten ++ [])) sl_51 ze_53 rfl rfl rfl rfl rfl (by intro c hc; rw [List.mem_singleton.1 hc]; rfl) (List.append_nil _).symm) ?_
                rintro _ _ ⟨b77, rfl, rfl⟩
                refine RW_fx rfl rfl rfl (Fx_call ok_20 (vs := [.slice (some ⟨gI, 0, none⟩) (NF (verF four) (ns.map Nm.nd)) (NF (verF four) (ns.map Nm.nd)), nv i, .slice (some ⟨b77, 0, none⟩) 1 1]) rfl (Pick.cons (by repeat (first | exact Rem.here _ _ | apply Rem.there)) (Pick.cons (by repeat (first | exact Rem.here _ _ | apply Rem.there)) (Pick.cons (by repeat (first | exact Rem.here _ _ | apply Rem.there)) (Pick.cons (by repeat (first | exact Rem.here _ _ | apply Rem.there)) (Pick.nil _))))) (hst b77)) ?_
                rintro _ _ ⟨_, ⟨gR, cR, rR, b2, cap2, r2, rfl, rfl⟩, rfl⟩
                simp only [List.cons_append, List.nil_append]
                refine RW_m ?_
                refine RW_l (Yl_extract (v := .slice (some ⟨gR, 0, none⟩) 1 cR) rfl rfl) ?_
                refine RW_l (Yl_extract (v := .slice (some ⟨b2, 0, none⟩) (NF (verF four) (ns.map Nm.nd)) cap2) rfl rfl) ?_
                refine RW_l (Yl_extract (v := .bool true) rfl rfl) ?_
                refine RW_a ?_
                refine RW_a ?_
                refine RW_a ?_
                refine RW_lv (ks := [4, 11, 12, 13, 17, 18, 19, 51, 52, 53]) ?_
                refine CW_seq ?_
                refine CW_region ?_
                refine RW_m ?_
                refine RW_l (Yl_not rfl) ?_
                refine RW_m ?_
                refine RW_gy rfl rfl rfl (Yl.h (Yl_move rfl)) ?_
                refine RW_gy rfl rfl rfl (Yl.h (Yl_len rfl sl_54)) ?_
                refine RW_gy rfl rfl rfl (Yl.h (Yl_neqB false rfl rfl (decide_eq_false (fun h => h rfl)))) ?_
                refine RW_l (Yl_pick_f rfl rfl) ?_
                refine RW_m ?_
                refine RW_gy rfl rfl rfl (Yl.h (Yl_move rfl)) ?_
                refine RW_gy rfl rfl rfl (Yl.h (Yl_indexN (b := gR) (off := 0) (i := 0) (o' := 0) rfl rfl sl_54 (by omega) (by omega))) ?_
                refine RW_gy rfl rfl rfl (Yl.h (Yl_field rfl fo_58_1)) ?_
                refine RW_gy rfl rfl rfl (Yh_load (v := nv 0) rfl sc_2 (by repeat (first | exact List.Mem.head _ | apply List.Mem.tail)) rfl) ?_
                refine RW_gy rfl rfl rfl (Yl.h (Yl_neqB false rfl rfl (decide_eq_false (fun h => h rfl)))) ?_
                refine RW_l (Yl_pick_f rfl rfl) ?_
                refine RW_m ?_
                refine RW_gy rfl rfl rfl (Yl.h (Yl_move rfl)) ?_
                refine RW_gy rfl rfl rfl (Yl.h (Yl_indexN (b := gR) (off := 0) (i := 0) (o' := 0) rfl rfl sl_54 (by omega) (by omega))) ?_
                refine RW_gy rfl rfl rfl (Yl.h (Yl_field rfl fo_58_0)) ?_
                refine RW_gy rfl rfl rfl (Yh_load (v := .slice none 0 0) rfl sc_23 (by repeat (first | exact List.Mem.head _ | apply List.Mem.tail)) rfl) ?_
                refine RW_gy rfl rfl rfl (Yl.h (Yl_len rfl sl_23)) ?_
                refine RW_gy rfl rfl rfl (Yl.h (Yl_neqB false rfl rfl (decide_eq_false (fun h => h rfl)))) ?_
                refine RW_l (Yl_pick_f rfl rfl) ?_
                refine RW_m ?_
                refine RW_gy rfl rfl rfl (Yl.h (Yl_move rfl)) ?_
                refine RW_gy rfl rfl rfl (Yl.h (Yl_indexN (b := gR) (off := 0) (i := 0) (o' := 0) rfl rfl sl_54 (by omega) (by omega))) ?_
                refine RW_gy rfl rfl rfl (Yl.h (Yl_field rfl fo_58_2)) ?_
                refine RW_gy rfl rfl rfl (Yh_load (v := nv 6) rfl sc_3 (by repeat (first | exact List.Mem.head _ | apply List.Mem.tail)) rfl) ?_
                refine RW_gy rfl rfl rfl (Yl.h (Yl_neqB false rfl rfl (decide_eq_false (fun h => h rfl)))) ?_
                refine RW_l (Yl_pick_f rfl rfl) ?_
                refine RW_m ?_
                refine RW_gy rfl rfl rfl (Yl.h (Yl_move rfl)) ?_
                refine RW_gy rfl rfl rfl (Yl.h (Yl_move rfl)) ?_
                refine RW_gfx rfl rfl rfl (Fx_callQ ok_21 (es := [(b2, blk (bys (writeF (verF four) st (ns.map Nm.nd)) ++ r2) 5), (gI, blk (bys (writeF (verF four) st (ns.map Nm.nd))) 5)]) (vs := [.slice (some ⟨b2, 0, none⟩) (NF (verF four) (ns.map Nm.nd)) cap2, .slice (some ⟨gI, 0, none⟩) (NF (verF four) (ns.map Nm.nd)) (NF (verF four) (ns.map Nm.nd))]) (R := fun v => v = .bool true) rfl (Pick.cons (by repeat (first | exact Rem.here _ _ | apply Rem.there)) (Pick.cons (by repeat (first | exact Rem.here _ _ | apply Rem.there)) (Pick.nil _))) (by have hz := same_ct b2 gI (NF (verF four) (ns.map Nm.nd)) cap2 (NF (verF four) (ns.map Nm.nd)) (writeF (verF four) st (ns.map Nm.nd)) r2 [] hfl; rw [List.append_nil] at hz; exact hz)) ?_
                rintro _ _ ⟨rfl, rfl⟩
                refine RW_gy rfl rfl rfl (Yl.h (Yl_not rfl)) ?_
                refine RW_l (Yl_pick_f rfl rfl) ?_
                refine RW_lv (ks := [4, 11, 12, 13, 51, 52, 53, 116]) ?_
                refine CW_false rfl ?_
                refine CW_skip ?_
                refine QW_normal_block ?_
                refine (QW_lv (ks := [4, 11, 12, 13, 51, 52, 53]) ?_)
                refine CW_region ?_
                refine RW_l (Yl_add (c := ((i + 1 : Nat) : Int)) rfl rfl (wi64 (by omega) (by omega))) ?_
                refine RW_m ?_
                refine RW_nil ?_
                first
                  | (refine QW_dropB (e := (b2, _)) (by repeat (first | exact Rem.here _ _ | apply Rem.there)) ?_; refine QW_dropB (e := (gR, _)) (by repeat (first | exact Rem.here _ _ | apply Rem.there)) ?_; exact QW_round (i + 1) (by omega) (by omega) (by repeat (first | exact Prm.nil _ | exact Rem.here _ _ | apply Rem.there | apply Prm.cons)) (.cons rfl (.cons rfl (.cons rfl (.cons rfl (.cons rfl (.cons rfl (.cons rfl .nil))))))))
                  | exact QW_round (i + 1) (by omega) (by omega) (by repeat (first | exact Prm.nil _ | exact Rem.here _ _ | apply Rem.there | apply Prm.cons)) (.cons rfl (.cons rfl (.cons rfl (.cons rfl (.cons rfl (.cons rfl (.cons rfl .nil)))))))
          · replace hc5 := of_decide_eq_false hc5
            refine CW_exit ?_
            refine QW_exit_then ?_
            refine QW_exit_then ?_
            refine QW_exit_block ?_
            refine (QW_lv (ks := [11, 12, 13]) ?_)
            refine CW_seq ?_
            have hent := Entries_nodes (T := T) (four := four) (st := st) hp hno hok hbad hout hpth (by omega) gI
            refine CW_region ?_
            refine RW_m ?_
            refine RW_fx rfl rfl rfl (Fx_call ok_18 (vs := [.slice (some ⟨gI, 0, none⟩) (NF (verF four) (ns.map Nm.nd)) (NF (verF four) (ns.map Nm.nd))]) rfl (Pick.cons (by repeat (first | exact Rem.here _ _ | apply Rem.there)) (Pick.cons (by repeat (first | exact Rem.here _ _ | apply Rem.there)) (Pick.nil _))) hent) ?_
            rintro _ _ ⟨_, ⟨gE, cE, rr, rows, ppR, rfl, hrl, hr27, hrows, rfl⟩, rfl⟩
            simp only [List.cons_append]
            refine RW_m ?_
            refine RW_l (Yl_extract (v := .slice (some ⟨gE, 0, none⟩) o.length cE) rfl rfl) ?_
            refine RW_l (Yl_extract (v := nv 0) rfl rfl) ?_
            refine RW_a ?_
            refine RW_a ?_
            refine RW_lv (ks := [11, 13, 21]) ?_
            refine CW_seq ?_
            have hfinp : ((gI, blk (bys (writeF (verF four) st (ns.map Nm.nd))) 5) :: (2, blk ps T) :: (gE, blk (rows.flatten ++ rr) 41) :: (ppR ++ ((g, blk (nms ns ++ rn) 43) :: (oO, blk (nats (o.map Prod.fst) ++ ro) 3) :: (0, Obj.cells [Value.iface U u].toArray T0 fz0) :: (ppO ++ (nmsH ns ++ (D ++ F)))))).Perm ((2, blk ps T) :: (0, Obj.cells [Value.iface U u].toArray T0 fz0) :: (gI, blk (bys (writeF (verF four) st (ns.map Nm.nd))) 5) :: (gE, blk (rows.flatten ++ rr) 41) :: (ppR ++ ((g, blk (nms ns ++ rn) 43) :: (oO, blk (nats (o.map Prod.fst) ++ ro) 3) :: (ppO ++ (nmsH ns ++ (D ++ F)))))) := by
              have h1 := perm_front ((gI, blk (bys (writeF (verF four) st (ns.map Nm.nd))) 5) :: (2, blk ps T) :: (gE, blk (rows.flatten ++ rr) 41) :: (ppR ++ [(g, blk (nms ns ++ rn) 43), (oO, blk (nats (o.map Prod.fst) ++ ro) 3)])) [(0, Obj.cells [Value.iface U u].toArray T0 fz0)] (ppO ++ (nmsH ns ++ (D ++ F)))
              simp only [List.cons_append, List.append_assoc, List.nil_append] at h1
              refine h1.trans ?_
              exact Prm.perm (by repeat (first | exact Prm.nil _ | exact Rem.here _ _ | apply Rem.there | apply Prm.cons))
            refine CW_region ?_
            refine RW_m ?_
            refine RW_l (Yl_eqlB true rfl rfl (decide_eq_true rfl)) ?_
            refine RW_m ?_
            refine RW_gy rfl rfl rfl (Yl.h (Yl_move rfl)) ?_
            refine RW_gy rfl rfl rfl (Yl.h (Yl_len rfl sl_29)) ?_
            refine RW_gy rfl rfl rfl (Yl.h (Yl_move rfl)) ?_
            refine RW_gy rfl rfl rfl (Yl.h (Yl_len rfl sl_25)) ?_
            refine RW_gy rfl rfl rfl (Yl.h (Yl_eqlB true rfl rfl (decide_eq_true (by omega)))) ?_
            refine RW_l (Yl_pick_t rfl rfl) ?_
            refine RW_a ?_
            refine RW_lv (ks := [10]) ?_
            refine CW_ret ?_
            first
              | exact QW_ret1 rfl rfl ((2, blk ps T) :: (0, Obj.cells [Value.iface U u].toArray T0 fz0) :: D) ⟨rfl, rfl⟩ (Prm.nil _)
              | (refine QW_sub (H' := (2, blk ps T) :: (0, Obj.cells [Value.iface U u].toArray T0 fz0) :: (D ++ F)) (.cons_cons _ (.cons_cons _ (.cons _ (.cons _ (List.sublist_append_right _ _))))) ?_; exact QW_ret1 rfl rfl ((2, blk ps T) :: (0, Obj.cells [Value.iface U u].toArray T0 fz0) :: D) ⟨rfl, rfl⟩ (Prm.nil _))
              | (refine QW_heap (H' := (2, blk ps T) :: (0, Obj.cells [Value.iface U u].toArray T0 fz0) :: (gI, blk (bys (writeF (verF four) st (ns.map Nm.nd))) 5) :: (gE, blk (rows.flatten ++ rr) 41) :: (ppR ++ ((g, blk (nms ns ++ rn) 43) :: (oO, blk (nats (o.map Prod.fst) ++ ro) 3) :: (ppO ++ (nmsH ns ++ (D ++ F)))))) ?_ ?_; exact hfinp; (refine QW_sub (H' := (2, blk ps T) :: (0, Obj.cells [Value.iface U u].toArray T0 fz0) :: (D ++ F)) (.cons_cons _ (.cons_cons _ (.cons _ (.cons _ (List.Sublist.trans (.cons _ (.cons _ (List.Sublist.trans (List.sublist_append_right _ _) (List.sublist_append_right _ _)))) (List.sublist_append_right _ _)))))) ?_; exact QW_ret1 rfl rfl ((2, blk ps T) :: (0, Obj.cells [Value.iface U u].toArray T0 fz0) :: D) ⟨rfl, rfl⟩ (Prm.nil _)))
end Go.Proofs.YtgoddcicbpjknaaDoor

/-! FnStorage, as its card states it: whatever the numbers, the bytes, the choice, the step and the count, the call returns true and leaves all that was there as it was. -/
set_option maxRecDepth 100000
namespace Go.Proofs.YtgoddcicbpjknaaDoor.fnStorage
open Go
open Cfb
open Go.ChangeShapes Go.WideShapes Go.ChangeAt Go.RowKit Go.Clock
theorem contract (H : Type) (enc : TypeId × Value → H) (W : World) (base : Nat) (args : Array Value) (ds gs : List (DataW H)) (before : List MemPlace)
    (hval : ∀ (j : Nat) t v, Tryd.f12.params[j]? = some t → args[j]? = some v → Value.okWide Tryd.prog W .any base t v)
    (hW : DataW.Whole enc Tryd.prog Tryd.f12.params.toList Rows.fnStorageSpec.vars false W args.toList ds gs before) (hL : laidMetH Tryd.prog Rows.fnStorageRow.laid W) (hS : W.ShapedOpen Tryd.prog) :
    Calls Tryd.prog 12 args W fun e W' => ∃ v, e = .returned v ∧ W'.os = W.os ∧ Rows.fnStorageSpec.post enc Tryd.prog Tryd.f12 false true false false W args v W' := by
  have hW' := hW
  obtain ⟨p, q, hA0, hV, rfl, hfz, hnd⟩ := hW
  have hA : DataW.TrodAll enc Tryd.prog W 0 (fun _ => true) true Tryd.f12.params.toList args.toList ds p := hA0
  have hlt : ∀ x ∈ p, x.block < W.heap.size := fun x hx => by simpa using hW'.lt x (List.mem_append_left _ hx)
  have again := fun W' hb => trodAll_again (W' := W') hb _ _ _ _ hA (by rw [Tryd.params12]; kernel_rfl) hlt
  rw [Tryd.params12] at hA hval
  obtain ⟨v0, vs0, d0, ds0, p0, q0, hargs, rfl, rfl, h0, r0⟩ := trodAll_cons hA
  obtain ⟨v1, vs1, d1, ds1, p1, q1, rfl, rfl, rfl, h1, r1⟩ := trodAll_cons r0
  obtain ⟨v2, vs2, d2, ds2, p2, q2, rfl, rfl, rfl, h2, r2⟩ := trodAll_cons r1
  obtain ⟨v3, vs3, d3, ds3, p3, q3, rfl, rfl, rfl, h3, r3⟩ := trodAll_cons r2
  obtain ⟨v4, vs4, d4, ds4, p4, q4, rfl, rfl, rfl, h4, r4⟩ := trodAll_cons r3
  obtain ⟨rfl, rfl, rfl⟩ := trodAll_nil r4
  obtain rfl : args = #[v0, v1, v2, v3, v4] := by cases args; simp_all
  obtain ⟨rfl, rfl⟩ := trodVars_none hV
  obtain ⟨a2, rfl, rfl, rfl⟩ := open_bool Tryd.underlying4 (hval 2 4 v2 rfl rfl) h2
  obtain ⟨a3, rfl, rfl, rfl, w3⟩ := open_int Tryd.underlying5 (hval 3 5 v3 rfl rfl) h3
  obtain ⟨a4, rfl, rfl, rfl, w4⟩ := open_int Tryd.underlying47 (hval 4 47 v4 rfl rfl) h4
  obtain ⟨T, hT⟩ := tab_block (props_tab2 hL) hS
  obtain ⟨U, u, T0, hU, hE⟩ := eof_block hL hS
  obtain ⟨s0, n0, c0, rfl, hc0, hs0⟩ := open_nums un_22 un_67 cells67 (hval 0 22 v0 rfl rfl) h0
  obtain ⟨s1, n1, c1, rfl, hc1, hs1⟩ := open_bytes (hval 1 23 v1 rfl rfl) h1
  obtain ⟨x3, rfl, b3⟩ := u8_nat w3
  obtain ⟨x4, rfl, b4⟩ := u16_nat w4
  have fin : Calls Tryd.prog 12 #[.slice s0 n0 c0, .slice s1 n1 c1, .bool a2, .int .u8 (x3 : Int), .int .u16 (x4 : Int)] W fun e w' => e = .returned (.bool true) ∧ Grown W w' ∧ Below W.heap.size W w' := by
    obtain ⟨N1, y1, z1, k1⟩ := nums_end (W := W) (L := [(2, blk propsV T), (0, blk [.iface U u] T0)]) (by intro p hp; simp only [List.mem_cons, List.not_mem_nil, or_false] at hp; rcases hp with rfl | rfl; exact hT; exact hE) (by simp) hs0
    obtain ⟨N2, y2, z2, k2⟩ := bytes_end y1 z1 hs1
    have e0 : ([(2, blk propsV T), (0, blk [.iface U u] T0)] ++ N1) ++ N2 = (2, blk propsV T) :: (0, Obj.cells [Value.iface U u].toArray T0 (0, 0)) :: (N1 ++ N2) := by simp
    have k1' := k1.mono (List.sublist_append_left _ N2)
    rw [e0] at y2 z2 k2 k1'
    exact (FnStorage_ct n0 c0 n1 c1 x3 x4 s0 s1 a2 b3 b4 propsV T propsV_ok U u hU T0 (0, 0) (N1 ++ N2) k1' k2 hc0).rowB y2 z2
  refine fin.mono fun e W' ⟨he, hg, hb⟩ => ?_
  subst he
  exact ⟨_, rfl, hg.1.1, ⟨_, _, _, [], _, [], hW', trodAll_cons_mk (shut_bool Tryd.underlying4 _) trodAll_mk0, again W' hb, rfl, hg.frame _, fun h => by cases h⟩⟩
/-- A world for the witness. -/
noncomputable def laidWorld (os : Os) : World := World.laidAll Tryd.prog os Rows.fnStorageRow.laid
theorem laid_met (os : Os) : laidMet Tryd.prog Rows.fnStorageRow.laid ((laidWorld os).forCall (fun _ _ => 0) ⟨#[], #[.slice none 0 0, .slice none 0 0, .bool false, .int .u8 0, .int .u16 0], []⟩).memory := laidMet_laidAll _ (by kernel_rfl) (by kernel_rfl)
theorem reads (os : Os) {H : Type} (enc : TypeId × Value → H) : ∃ places, DataW.whole enc Tryd.prog ((laidWorld os).forCall (fun _ _ => 0) ⟨#[], #[.slice none 0 0, .slice none 0 0, .bool false, .int .u8 0, .int .u16 0], []⟩).memory Tryd.f12.params.toList Rows.fnStorageSpec.vars false (#[.slice none 0 0, .slice none 0 0, .bool false, .int .u8 0, .int .u16 0] : Array Value).toList 8 = some ([.nil, .nil, .lit (.bool false), .lit (.int .u8 0), .lit (.int .u16 0)], [], places) :=
  ⟨[], by kernel_rfl⟩
theorem lifted (os : Os) (started : os.Started) (H : Type) (enc : TypeId × Value → H) (F : Stop.Interp) :
    ReturnsInHanded {} Tryd.checked os 12 .any ((OpenSpec.ofChange Rows.fnStorageSpec).preRow enc Tryd.prog Tryd.f12 Rows.fnStorageRow.domain false Rows.fnStorageRow.laid) (((OpenSpec.ofChange Rows.fnStorageSpec).at F).post enc Tryd.prog Tryd.f12 false true false false) := by
  obtain ⟨places, hx⟩ := reads os enc
  refine returnsInHanded_of_row (C := Tryd.checked) (s := OpenSpec.ofChange Rows.fnStorageSpec) own started (by kernel_rfl) Tryd.func12
    (witness_row_at (enc := enc) (C := Tryd.checked) false (laidWorld os) #[.slice none 0 0, .slice none 0 0, .bool false, .int .u8 0, .int .u16 0] (World.laidAll_os _ _ _) (by kernel_rfl) (by kernel_rfl) (by kernel_rfl)
      (OpenSpec.preRow_of_cond 8 hx (by kernel_rfl) (fun k hk => by cases hk) (by kernel_rfl) (laid_met os))) ?_
  intro W base args ds gs before hval hW _ _ _ hL hS _
  exact (contract H enc W base args ds gs before hval hW hL hS).mono fun _ _ ⟨v, he, _, hp⟩ => ⟨v, he, hp⟩
/-- The same, where the row lets time pass. -/
theorem liftedT (os : Os) (started : os.Started) (H : Type) (enc : TypeId × Value → H) (F : Stop.Interp) :
    ReturnsInHanded { calm := true } Tryd.checked os 12 .any (fun w args => (Rows.fnStorageSpec.pre enc Tryd.prog Tryd.f12 [] false w args ∧ laidMetH Tryd.prog Rows.fnStorageRow.laid w) ∧ sizedMet enc Tryd.prog Tryd.f12 (OpenSpec.ofChange Rows.fnStorageSpec) false w args)
      ((OpenSpec.ofChange Rows.fnStorageSpec).postWith enc Tryd.prog Tryd.f12 F (outsideKept [.timePasses]) false true false) := by
  refine returns_of_change (C := Tryd.checked) (X := fun w _ => laidMetH Tryd.prog Rows.fnStorageRow.laid w) (fun _ _ _ hh h => h.of_heap hh) own started (by kernel_rfl) Tryd.func12
    (witness_at (enc := enc) (C := Tryd.checked) (X := fun w _ => laidMetH Tryd.prog Rows.fnStorageRow.laid w) (World.laidAll Tryd.prog os Rows.fnStorageRow.laid) #[.slice none 0 0, .slice none 0 0, .bool false, .int .u8 0, .int .u16 0] 8 (World.laidAll_os _ _ _) (World.shaped_of_ZipB (by kernel_rfl) (by kernel_rfl)) (by kernel_rfl) (by kernel_rfl) (by kernel_rfl)
      (by rw [MakeChecks.laidMetH_plain _ _ _ (by kernel_rfl)]; exact laidMet_laidAll _ (by kernel_rfl) (by kernel_rfl))) ?_
  intro W base args ds gs before hval hW _ _ hL hS
  refine (contract H enc W base args ds gs before hval hW hL hS).mono ?_
  rintro e W' ⟨v, he, ho, hp⟩
  have hos : { W' with os := W.os } = W' := by rw [← ho]
  refine ⟨v, he, by rw [hos]; exact hp, by rw [ho]; exact Later.refl _⟩
theorem said : Rows.FnStorageSaid := by
  first
    | exact OpenClaim.holds_of_cond 12 Tryd.f12 rfl rfl rfl rfl rfl rfl rfl ⟨rfl, rfl, rfl, rfl, rfl⟩ rfl rfl rfl rfl rfl (by kernel_rfl) Tryd.func12 (by kernel_rfl)
        (of_decide_eq_true (by kernel_rfl)) (by unfold Func.isWrapper; first | (rw [if_pos (by decide +kernel)]; kernel_rfl) | (rw [if_neg (by decide +kernel)]; exact ⟨rfl, rfl⟩))
        (fun os started H enc _ F => by rw [OpenClaim.pre_eq_preRow]; exact lifted os started H enc F)
    | exact holds_of_wide_time 12 Tryd.f12 rfl rfl rfl rfl rfl rfl rfl ⟨rfl, rfl, rfl, rfl, rfl⟩ rfl rfl rfl rfl rfl (by kernel_rfl) Tryd.func12 (by kernel_rfl)
        (of_decide_eq_true (by kernel_rfl)) (by unfold Func.isWrapper; first | (rw [if_pos (by decide +kernel)]; kernel_rfl) | (rw [if_neg (by decide +kernel)]; exact ⟨rfl, rfl⟩))
        (fun os started H enc _ F => liftedT os started H enc F)
theorem plain (f : FuncId) (fn : Func) (hf : Tryd.pinned.checked.prog.funcNamed "loop.example/pub-g03453/laws.FnStorage" = some f) (hfn : Tryd.pinned.checked.prog.funcs[f]? = some fn) :
    true = Tryd.pinned.checked.prog.looks [] ∧ ∀ (j : Nat) t, fn.params[j]? = some t → Tryd.pinned.checked.prog.wantsStandIn t = false := by
  obtain rfl : f = 12 := Option.some.inj ((show Tryd.prog.funcNamed "loop.example/pub-g03453/laws.FnStorage" = some 12 by kernel_rfl).symm.trans hf) |>.symm
  obtain rfl : fn = Tryd.f12 := (Option.some.inj (Tryd.func12.symm.trans hfn)).symm
  refine ⟨by kernel_rfl, fun j t ht => ?_⟩
  rw [Tryd.params12] at ht
  have hm : t ∈ [22, 23, 4, 5, 47] := by simpa using Array.mem_of_getElem? ht
  have hall : ([22, 23, 4, 5, 47].all fun u => !Tryd.prog.wantsStandIn u) = true := by kernel_rfl
  exact (show Tryd.prog.wantsStandIn t = false by simpa using List.all_eq_true.1 hall t hm)
theorem card : Rows.FnStorageCardSaid :=
  Claim7.holds_tied_plain_at .later [] _ _ _ _ said (fun _ h => by cases h) (by kernel_rfl) (fun _ h => by cases h) fnStorage_row_tie rfl ⟨rfl, rfl⟩ (by kernel_rfl) rfl plain (by kernel_rfl)
#print axioms card
end Go.Proofs.YtgoddcicbpjknaaDoor.fnStorage
