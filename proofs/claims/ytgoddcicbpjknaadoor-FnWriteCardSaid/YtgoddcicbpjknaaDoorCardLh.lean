/- FnWrite, as its card states it: whatever the numbers, the bytes, the choice, the step, the turn, the places and the bytes to write, the call returns true and leaves all that was there as it was. Behind it: A stream of the file that Write makes is written: steps, one behind the other; The reader's steps that write a stream: what they tell, and the bytes that are left; The plan of FnReadAt: a byte, bytes at places, a byte; The plan of FnSeek: places that are sought, each with a reading behind it; What FnWrite's walk leans on: its steps in memory, the nodes with one stream's bytes changed; Walks: FnWrite. -/
import Derived.Test.YtgoddcicbpjknaaDoorPartE
import Derived.Clock
import Derived.Lay
set_option maxRecDepth 20000
set_option maxHeartbeats 4000000

namespace Go.Proofs.YtgoddcicbpjknaaDoor
open Go
open Cfb

/-! A stream of the file that Write makes is written: steps, one behind the other. -/
/-- A step that writes: where it stands or at a place; the bytes, and their block. -/
structure Wr where
  k3 : Bool
  a : Nat
  d : List UInt8
  b : Nat
  cap : Nat
  r : List Value
  deriving Inhabited
def Wr.st (w : Wr) : List Value := [nv (if w.k3 then 3 else 4), nv 0, nv (if w.k3 then 0 else w.a), nv 0, .slice (some ⟨w.b, 0, none⟩) w.d.length w.cap]
def Wr.bk (w : Wr) : Nat × Obj := (w.b, blk (bys w.d ++ w.r) 5)
/-- Where the stream stands, and its bytes, after these steps. -/
def posW (ws : List Wr) : Nat := (ws.map fun w => if w.k3 then w.d.length else 0).sum
def datW (D : List UInt8) (ws : List Wr) : List UInt8 := ws.foldl (fun D w => spl w.a w.d D) D
def OkW (sz : Nat) (ws : List Wr) : Prop := ∀ i, i < ws.length → 0 < (ws.getD i default).d.length ∧ (ws.getD i default).a + (ws.getD i default).d.length ≤ sz ∧ (ws.getD i default).d.length ≤ 65536 ∧ ((ws.getD i default).k3 = true → (ws.getD i default).a = posW (ws.take i))
theorem posW_snoc (ws : List Wr) (w : Wr) : posW (ws ++ [w]) = posW ws + if w.k3 then w.d.length else 0 := by simp [posW]
theorem datW_snoc (D : List UInt8) (ws : List Wr) (w : Wr) : datW D (ws ++ [w]) = spl w.a w.d (datW D ws) := by simp [datW]
theorem take_snoc {ws : List Wr} {i : Nat} (h : i < ws.length) : ws.take (i + 1) = ws.take i ++ [ws.getD i default] := by
  rw [List.take_add_one, List.getElem?_eq_getElem h, List.getD_eq_getElem?_getD, List.getElem?_eq_getElem h]; rfl
theorem Wr.len5 (w : Wr) : w.st.length = 5 := rfl
theorem Wr.one5 (w : Wr) : ∀ u ∈ w.st, u.oneCell' = true := by
  intro u hu
  simp only [Wr.st, List.mem_cons, List.not_mem_nil, or_false] at hu
  rcases hu with rfl | rfl | rfl | rfl | rfl <;> rfl
theorem OkW.dat {sz : Nat} {ws : List Wr} (h : OkW sz ws) {D : List UInt8} (hD : D.length = sz) : ∀ i, i ≤ ws.length → (datW D (ws.take i)).length = sz := by
  intro i
  induction i with
  | zero => intro _; simpa [datW] using hD
  | succ i ih =>
    intro hi
    obtain ⟨-, h2, -, -⟩ := h i om_
    rw [take_snoc om_, datW_snoc, length_spl (by rw [ih om_]; exact h2)]
    exact ih om_
theorem OkW.pos {sz : Nat} {ws : List Wr} (h : OkW sz ws) : ∀ i, i ≤ ws.length → posW (ws.take i) ≤ sz := by
  intro i
  induction i with
  | zero => intro _; simp [posW]
  | succ i ih =>
    intro hi
    obtain ⟨-, h2, -, h4⟩ := h i om_
    rw [take_snoc om_, posW_snoc]
    split
    · rename_i e
      have := h4 e
      omega
    · have := ih om_
      omega
theorem OkW.snoc {sz : Nat} {ws : List Wr} (h : OkW sz ws) {w : Wr} (h1 : 0 < w.d.length) (h2 : w.a + w.d.length ≤ sz) (h3 : w.d.length ≤ 65536) (h4 : w.k3 = true → w.a = posW ws) : OkW sz (ws ++ [w]) := by
  intro i hi
  rw [List.length_append, List.length_singleton] at hi
  by_cases e : i < ws.length
  · have e1 : (ws ++ [w]).getD i default = ws.getD i default := by rw [List.getD_eq_getElem?_getD, List.getElem?_append_left e, ← List.getD_eq_getElem?_getD]
    rw [e1, List.take_append_of_le_length om_]
    exact h i e
  · obtain rfl : i = ws.length := by omega
    have e1 : (ws ++ [w]).getD ws.length default = w := by simp [List.getD_eq_getElem?_getD]
    rw [e1, List.take_left']
    · exact ⟨h1, h2, h3, h4⟩
    · rfl
/-! ### the reader's stream, written -/
section
variable {R : Rdr} {f : Fil} {Z : Heap} {v st : Nat} {xs : List Nd} {k : Nat}
def Rdr.GD (R : Rdr) (f : Fil) (Z : Heap) (v st : Nat) (xs : List Nd) (k : Nat) (D : List UInt8) : Heap := (R.bh, blk R.hcells 137) :: (R.bhf, blk R.hc 142) :: (R.bs, blk [.slice (some ⟨R.bB, 0, none⟩) R.N R.cN] 103) :: (R.bB, blk (bys (writeF v st (setD xs k D)) ++ R.rB) 5) :: (f.bd, blk f.en.dc 112) :: (R.X ++ Z)
theorem setD_self (hk : k < xs.length) : setD xs k (dtF xs k) = xs := by
  unfold setD dtF
  apply List.ext_getElem?
  intro i
  by_cases e : i = k
  · subst e
    rw [List.getElem?_set_self hk, List.getElem?_eq_getElem hk, List.getD_eq_getElem?_getD, List.getElem?_eq_getElem hk]; rfl
  · rw [List.getElem?_set_ne om_]
theorem setD_setD (hk : k < xs.length) {D D2 : List UInt8} : setD (setD xs k D) k D2 = setD xs k D2 := by
  have h : setD (setD xs k D) k D2 = (setD xs k D).set k { (setD xs k D).getD k default with data := D2 } := rfl
  rw [h, get_self hk]
  unfold setD
  rw [List.set_set]
theorem of_ge (h : k < xs.length) (j : Nat) : 512 ≤ ofF v st xs k j := by
  have hz := size_ge v
  have key : ∀ a b : Nat, 512 ≤ (a + 1) * sizeF v + b := fun a b => by rw [Nat.add_mul]; omega
  unfold ofF
  split
  · exact key _ _
  · exact key _ 0
theorem of_set_w (h : R.Of v st xs) (hk : k < xs.length) (hs : (xs.getD k default).stream = true) {D : List UInt8} (hD : D.length = (dtF xs k).length) (w : Value) : ({ R with B := writeF v st (setD xs k D), wa := w } : Rdr).Of v st (setD xs k D) := by
  refine ⟨ok_set h.ok hk hD, names_set h.nm hk hD, rfl, ?_, h.cN, h.ss, ?_, ?_⟩
  · rw [N_set hk hD]; exact h.N
  · have := h.mi
    unfold miniF at this ⊢
    rw [mi_set hk hD, sn_set hk hD, sn_set hk hD]
    exact this
  · show R.hc = hcF (((writeF v st (setD xs k D)).drop 0).take 512) 109
    rw [h.hc, h.B]
    congr 1
    have hE := write_set (v := v) (st := st) h.ok h.nm hk hs hD
    rw [List.drop_zero, List.drop_zero]
    apply List.ext_getElem?
    intro x
    by_cases hx : x < 512
    · rw [List.getElem?_take_of_lt hx, List.getElem?_take_of_lt hx]
      refine (hE.at_ x ?_).symm
      rintro ⟨i, hi, he⟩
      have := of_ge (v := v) (st := st) (xs := xs) hk (i / uF v xs k)
      unfold adF at he
      omega
    · rw [List.getElem?_eq_none (by simp; omega), List.getElem?_eq_none (by simp; omega)]
theorem src_eq (hk : k < xs.length) {D : List UInt8} (hD : D.length = (dtF xs k).length) (w : Value) : ({ R with B := writeF v st (setD xs k D), wa := w } : Rdr).src f Z v st (setD xs k D) k = (R.src f Z v st xs k).sw (R.GD f Z v st xs k) w D := by
  have e1 : ofF v st (setD xs k D) k = ofF v st xs k := funext fun j => of_set hk hD j
  unfold Rdr.src Src.sw
  rw [u_set hk hD, dt_set hk, hD, cn_set hk hD, e1]
  rfl
theorem src_wr (h : R.Of v st xs) (hk : k < xs.length) (hk0 : k ≠ 0) (hs : (xs.getD k default).stream = true) (hpos : 0 < (dtF xs k).length) (hdc : f.en.dc[60]? = some (uv (snx (cnF v st xs k) 0))) : (R.src f Z v st xs k).Wr (R.GD f Z v st xs k) R.bs := by
  have hN := h.N
  have hNF := NF_le (v := v) h.ok
  refine ⟨fun w D hD => ?_, rfl, by show 8 < 9; omega, fun D => ⟨f.en.dc, ?_, hdc⟩, fun D bp o m c off dd rx q hD h0 hdd h1 h2 => ?_⟩
  · rw [← src_eq (R := R) (f := f) (Z := Z) (v := v) (st := st) hk hD w]
    exact src_ok (of_set_w h hk hs hD w) (by rw [len_set]; exact hk) hk0 (by rw [get_self hk]; exact hs) (by rw [dt_set hk, hD]; exact hpos)
  · exact List.mem_cons_of_mem _ (List.mem_cons_of_mem _ (List.mem_cons_of_mem _ (List.mem_cons_of_mem _ (List.mem_cons_self ..))))
  · have hD : D.length = (dtF xs k).length := hD
    have h2 : q + m ≤ (dtF xs k).length := h2
    have h1 : ∀ j, j < m → adF v st xs k (q + j) = off + j := h1
    have hcl : ((dd.drop o).take m).length = m := by simp; omega
    have ok' := ok_set h.ok hk hD
    have nm' := names_set h.nm hk hD
    have hk' : k < (setD xs k D).length := by rw [len_set]; exact hk
    have hs' : ((setD xs k D).getD k default).stream = true := by rw [get_self hk]; exact hs
    have had : ∀ j, j < ((dd.drop o).take m).length → adF v st (setD xs k D) k (q + j) = off + j := fun j hj => by rw [ad_set hk hD]; exact h1 j om_
    have hdt : dtF (setD xs k D) k = D := dt_set hk
    have hfit := (dat (v := v) (st := st) ok' nm' hk' hk0 hs').fits (q := q) (o := off) (l := m) h0 (fun j hj => had j om_) (by rw [hdt]; omega)
    have hwl := length_writeF (v := v) (st := st) ok' nm'
    have hp := write_piece (v := v) (st := st) ok' nm' hk' hk0 hs' (q := q) (o := off) (c := (dd.drop o).take m) had (by rw [hdt, hcl]; omega) om_
    rw [hdt, setD_setD hk] at hp
    have hNs := N_set (v := v) hk hD
    have hct := storeWriteAt_ct R.bs R.bB bp o m c R.N R.cN off (writeF v st (setD xs k D)) dd R.rB rx (by rw [hwl, hNs, hN]) h.cN om_ h0 om_ hdd
    rw [hp] at hct
    have P1 : ∀ (x a b c d e : Nat × Obj) (H : Heap), (x :: a :: b :: c :: d :: e :: H).Perm ([c, d, x] ++ (a :: b :: e :: H)) := by
      intro x a b c d e H
      exact Pick.perm (Pick.cons (.there _ (.there _ (.there _ (.here _ _)))) (Pick.cons (.there _ (.there _ (.there _ (.here _ _)))) (Pick.cons (.here _ _) (Pick.nil _))))
    unfold Rdr.GD
    refine hct.conseq (P1 _ _ _ _ _ _ _) ?_
    rintro v' post ⟨rfl, rfl⟩
    exact ⟨_, ⟨rfl, rfl⟩, (P1 _ _ _ _ _ _ _).symm⟩
end

/-! The reader's steps that write a stream: what they tell, and the bytes that are left. -/
@[reducible] def waW (bs j : Nat) : Value := if j = 0 then .nilIface else W8 bs
/-- What is known after j steps. -/
structure WInv (S : Src) (GD : List UInt8 → Heap) (bs : Nat) (D0 : List UInt8) (ws : List Wr) (BF : List UInt8 → List UInt8) (j : Nat) (rs : List (List Value)) (B2 : List UInt8) (H : Heap) : Prop where
  hB : B2 = BF (datW D0 (ws.take j))
  len : rs.length = j
  at_ : ∃ k r, r < S.u ∧ k * S.u + r = posW (ws.take j) ∧ H.Perm (S.fb (posW (ws.take j)) k r :: S.rw (waW bs j) :: (ws.map Wr.bk ++ GD (datW D0 (ws.take j))))
  all : ∀ i, i < j → rs.getD i [] = [.slice none 0 0, nv (ws.getD i default).d.length, nv 0]
theorem WInv.step {S : Src} {GD : List UInt8 → Heap} {bs : Nat} {D0 : List UInt8} {ws : List Wr} {BF : List UInt8 → List UInt8} {j : Nat} {rs : List (List Value)} {B2 : List UInt8} {H : Heap} (h : WInv S GD bs D0 ws BF j rs B2 H) (hW : S.Wr GD bs) (ho : OkW S.size ws) (hD0 : D0.length = S.size) (hj : j < ws.length) :
    Ct Tryd.prog 37 [pv S.bf, .agg ((ws.map Wr.st).getD j []).toArray] H (fun v q => ∃ (r : List Value) (B2 : List UInt8), v = .tuple #[.agg r.toArray, .bool true] ∧ r.length = 3 ∧ (∀ u ∈ r, u.oneCell' = true) ∧ WInv S GD bs D0 ws BF (j + 1) (rs ++ [r]) B2 q) := by
  obtain ⟨k, r, h1, h2, h3⟩ := h.at_
  have hl := h.len
  obtain ⟨o1, o2, o3, o4⟩ := ho j hj
  have hp := ho.pos j om_
  have hd := ho.dat hD0 j om_
  have hts := take_snoc hj
  obtain ⟨w, hw⟩ : ∃ w, w = ws.getD j default := ⟨_, rfl⟩
  rw [← hw] at o1 o2 o3 o4 hts
  have hst : (ws.map Wr.st).getD j [] = w.st := by
    rw [List.getD_eq_getElem?_getD, List.getElem?_map, hw, List.getD_eq_getElem?_getD, List.getElem?_eq_getElem hj]; rfl
  rw [hst]
  have hwm : w ∈ ws := by rw [hw, List.getD_eq_getElem?_getD, List.getElem?_eq_getElem hj]; exact List.getElem_mem _
  obtain ⟨A, C, hAC⟩ := List.append_of_mem (List.mem_map_of_mem (f := Wr.bk) hwm)
  have hwa : waW bs j = .nilIface ∨ waW bs j = W8 bs := by
    unfold waW; split
    · exact .inl rfl
    · exact .inr rfl
  have hp1 : H.Perm ((S.fb (posW (ws.take j)) k r :: S.rw (waW bs j) :: w.bk :: GD (datW D0 (ws.take j))) ++ (A ++ C)) := by
    refine h3.trans ?_
    rw [hAC]
    refine List.Perm.cons _ (List.Perm.cons _ ?_)
    show ((A ++ w.bk :: C) ++ GD _).Perm (w.bk :: (GD _ ++ (A ++ C)))
    refine (List.Perm.append_right _ List.perm_middle).trans ?_
    exact List.Perm.cons _ List.perm_append_comm
  have back : ∀ (p k r : Nat) (D : List UInt8), ((S.fb p k r :: S.rw (W8 bs) :: w.bk :: GD D) ++ (A ++ C)).Perm (S.fb p k r :: S.rw (W8 bs) :: (ws.map Wr.bk ++ GD D)) := by
    intro p k r D
    rw [hAC]
    refine List.Perm.cons _ (List.Perm.cons _ ?_)
    show (w.bk :: (GD D ++ (A ++ C))).Perm ((A ++ w.bk :: C) ++ GD D)
    refine List.Perm.trans ?_ (List.Perm.append_right _ List.perm_middle.symm)
    exact List.Perm.cons _ List.perm_append_comm
  have fin : ∀ (k' r' : Nat), r' < S.u → k' * S.u + r' = posW (ws.take (j + 1)) → ∀ (q : Heap), q.Perm (S.fb (posW (ws.take (j + 1))) k' r' :: S.rw (W8 bs) :: (ws.map Wr.bk ++ GD (datW D0 (ws.take (j + 1))))) →
      WInv S GD bs D0 ws BF (j + 1) (rs ++ [[.slice none 0 0, nv w.d.length, nv 0]]) (BF (datW D0 (ws.take (j + 1)))) q := by
    intro k' r' g1 g2 q g3
    refine ⟨rfl, by simp [hl], ⟨k', r', g1, g2, ?_⟩, fun i hi => ?_⟩
    · unfold waW; rw [if_neg om_]; exact g3
    · by_cases e : i < j
      · rw [List.getD_eq_getElem?_getD, List.getElem?_append_left om_, ← List.getD_eq_getElem?_getD]; exact h.all i e
      · obtain rfl : i = j := by omega
        rw [List.getD_eq_getElem?_getD, List.getElem?_append_right om_, hl, Nat.sub_self, ← hw]; rfl
  have three : ∀ u ∈ [Value.slice none 0 0, nv w.d.length, nv 0], u.oneCell' = true := by
    intro u hu
    simp only [List.mem_cons, List.not_mem_nil, or_false] at hu
    rcases hu with rfl | rfl | rfl <;> rfl
  obtain ⟨k3, a, d, b, cap, rx⟩ := w
  simp only at o1 o2 o3 o4
  cases k3 with
  | true =>
    have ha := o4 rfl
    subst ha
    have hpos : posW (ws.take (j + 1)) = posW (ws.take j) + d.length := by rw [hts, posW_snoc]; rfl
    have hdat : datW D0 (ws.take (j + 1)) = spl (posW (ws.take j)) d (datW D0 (ws.take j)) := by rw [hts, datW_snoc]
    refine (one_write S GD bs hW (waW bs j) hwa (datW D0 (ws.take j)) hd (posW (ws.take j)) k r d.length h1 h2 o1 o2 b cap d rx rfl o3).conseq hp1 ?_
    rintro v post ⟨k', r', g1, g2, rfl, rfl⟩
    refine ⟨_, ⟨_, _, rfl, rfl, three, fin k' r' g1 (by rw [hpos]; exact g2) _ ?_⟩, List.Perm.refl _⟩
    rw [hpos, hdat]
    exact back _ _ _ _
  | false =>
    have hpos : posW (ws.take (j + 1)) = posW (ws.take j) := by rw [hts, posW_snoc]; rfl
    have hdat : datW D0 (ws.take (j + 1)) = spl a d (datW D0 (ws.take j)) := by rw [hts, datW_snoc]
    refine (one_writeAt S GD bs hW (waW bs j) hwa (datW D0 (ws.take j)) hd (posW (ws.take j)) k r d.length h1 h2 o1 hp a o2 b cap d rx rfl o3).conseq hp1 ?_
    rintro v post ⟨rfl, rfl⟩
    refine ⟨_, ⟨_, _, rfl, rfl, three, fin k r h1 (by rw [hpos]; exact h2) _ ?_⟩, List.Perm.refl _⟩
    rw [hpos, hdat]
    exact back _ _ _ _
section
variable {ps : List Value} {T : TypeId} {four : Bool} {st : Nat} {ns : List Nm} {o : List (Nat × List (List UInt8))}
abbrev wrD (four : Bool) (st : Nat) (ns : List Nm) (kk : Nat) (D : List UInt8) : List UInt8 := writeF (verF four) st (setD (ns.map Nm.nd) kk D)
theorem Steps_wr (hp : PsOk ps) (h : NodesOk ns) (hk : ∀ k, k ∈ o.map Prod.fst ↔ k < ns.length) (hb : (STv (tnsF (verF four) (ns.map Nm.nd) (nmOf ns))).bad = false) (ho : (STv (tnsF (verF four) (ns.map Nm.nd) (nmOf ns))).out = o.map Prod.fst)
    (hol : o.length ≤ 1000) (hN : nmF4 four ns ≤ 131072) (gI bst n cst i kk : Nat) (hi : i < o.length) (ws : List Wr) (rst : List Value) (hsn : ws.length = n) (hn : n ≤ 100000)
    (hkk : (o.getD i default).1 = kk) (hkk0 : kk ≠ 0) (hstr : (ns.getD kk default).nd.stream = true) (hpos : 0 < (ns.getD kk default).nd.data.length) (hws : OkW (ns.getD kk default).nd.data.length ws) :
    Ct Tryd.prog 20 [.slice (some ⟨gI, 0, none⟩) (nmF4 four ns) (nmF4 four ns), nv i, .slice (some ⟨bst, 0, none⟩) n cst]
      ((gI, blk (bys (wrF4 four st ns)) 5) :: (2, blk ps T) :: (bst, blk ((ws.map Wr.st).flatten ++ rst) 53) :: ws.map Wr.bk)
      (fun v q => ∃ (g : Option Nat) (cap : Nat) (r : List Value) (rs : List (List Value)) (b2 cap2 : Nat) (r2 : List Value), v = .tuple #[osl g n cap, .slice (some ⟨b2, 0, none⟩) (nmF4 four ns) cap2, .bool true] ∧ rs.length = n ∧ oOk g rs.flatten r n cap 3 ∧
        (∀ i, i < n → rs.getD i [] = [.slice none 0 0, nv (ws.getD i default).d.length, nv 0]) ∧
        q = (b2, blk (bys (wrD four st ns kk (datW (ns.getD kk default).nd.data ws)) ++ r2) 5) :: (2, blk ps T) :: (gI, blk (bys (wrF4 four st ns)) 5) :: (bst, blk ((ws.map Wr.st).flatten ++ rst) 53) :: oH g (rs.flatten ++ r) 58) := by
  refine Ct.ne fun hg => ?_
  have hf := fileIn (v := verF four) (st := st) ps h.xs (verF_or four) (h.names hp) h.lnks
  have hnm : ∀ x ∈ ns.map Nm.nd, x.name.length ≤ 31 := nds_at ps h.xs (h.names hp)
  have hoo : (STv (tnsF (verF four) (ns.map Nm.nd) (nmOf ns))).out.length = o.length := by rw [ho]; simp
  have hkl : kk < ns.length := by
    have hoi : o.getD i default ∈ o := by rw [List.getD_eq_getElem?_getD, List.getElem?_eq_getElem hi]; exact List.getElem_mem _
    rw [← hkk]; exact (hk _).1 (List.mem_map.2 ⟨_, hoi, rfl⟩)
  have hxl : kk < (ns.map Nm.nd).length := by simpa using hkl
  have hnd : (ns.map Nm.nd).getD kk default = (ns.getD kk default).nd := nd_at ns kk hkl
  have hdt : dtF (ns.map Nm.nd) kk = (ns.getD kk default).nd.data := by unfold dtF; rw [hnd]
  have hself : setD (ns.map Nm.nd) kk (ns.getD kk default).nd.data = ns.map Nm.nd := by rw [← hdt]; exact setD_self hxl
  have hs := Steps_ct gI (nmF4 four ns) [] _ _ _ _ _ _ _ _ _ _ _ ps T _ _ _ _ hf hN hg hb bst n cst (ws.map Wr.st) rst (ws.map Wr.bk) i (by simpa using hsn) hn (fun x hx => by obtain ⟨w, _, rfl⟩ := List.mem_map.1 hx; exact w.len5) (fun x hx => by obtain ⟨w, _, rfl⟩ := List.mem_map.1 hx; exact w.one5) om_ om_
    (fun R j rs B H => ∃ f Z, R.bfs.getD (R.out.getD i 0) 0 = f.bf ∧ (2, blk R.ps R.T) ∈ Z ∧ (R.bo, blk (outs R.bfs R.out ++ R.ro) 90) ∈ Z ∧ (R.src f Z (verF four) st (ns.map Nm.nd) kk).Wr (R.GD f Z (verF four) st (ns.map Nm.nd) kk) R.bs ∧
      WInv (R.src f Z (verF four) st (ns.map Nm.nd) kk) (R.GD f Z (verF four) st (ns.map Nm.nd) kk) R.bs (ns.getD kk default).nd.data ws (wrD four st ns kk) j rs B H) ?_ ?_
  · rw [List.append_nil] at hs
    refine hs.cutP ?_
    rintro v post ⟨R, g, cap, r, rs, b2, cap2, r2, B2, H, hro, rfl, ⟨f, Z, hf1, hz1, hz2, hsf, hi1⟩, hrl, hoo2, hB2, hBm, rfl⟩
    obtain ⟨k', r', -, -, hpH⟩ := hi1.at_
    have hB := hi1.hB
    rw [show ws.take n = ws by rw [← hsn]; exact List.take_length] at hB hpH
    subst hB
    have e1 := hro.hps
    have e2 := hro.hT
    rw [e1, e2] at hz1
    obtain ⟨G', hG'⟩ : ∃ G', H.Perm ((2, blk ps T) :: G') := by
      have hm : (2, blk ps T) ∈ H := by
        refine hpH.mem_iff.2 ?_
        unfold Rdr.GD
        exact List.mem_cons_of_mem _ (List.mem_cons_of_mem _ (List.mem_append_right _ (List.mem_cons_of_mem _ (List.mem_cons_of_mem _ (List.mem_cons_of_mem _ (List.mem_cons_of_mem _ (List.mem_cons_of_mem _ (List.mem_append_right _ hz1))))))))
      obtain ⟨A, C, hA⟩ := List.append_of_mem hm
      exact ⟨A ++ C, by rw [hA]; exact List.perm_middle⟩
    refine ⟨_, G', ⟨g, cap, r, rs, b2, cap2, r2, rfl, hrl, hoo2, hi1.all, rfl⟩, ?_⟩
    refine List.Perm.cons _ ?_
    refine (List.Perm.append_right _ hG').trans ?_
    show ((2, blk ps T) :: (G' ++ ((gI, blk (bys (wrF4 four st ns)) 5) :: (bst, blk ((ws.map Wr.st).flatten ++ rst) 53) :: oH g (rs.flatten ++ r) 58))).Perm ((2, blk ps T) :: (((gI, blk (bys (wrF4 four st ns)) 5) :: (bst, blk ((ws.map Wr.st).flatten ++ rst) 53) :: oH g (rs.flatten ++ r) 58) ++ G'))
    exact List.Perm.cons _ List.perm_append_comm
  · intro R hro
    obtain ⟨f, h1, h2, h3, h4⟩ := ROk.file (st := st) h hk ho hro hi
    rw [hkk] at h1 h4
    have hR : R.Of (verF four) st (ns.map Nm.nd) := ROk.rdr h.xs hnm hro
    obtain ⟨er, hok⟩ := hro.ok
    obtain ⟨Z, hz1, hz2, hZ⟩ := src_split h1
    obtain ⟨g1, g2⟩ := src_file (R := R) (Z := Z) (v := verF four) (st := st) h.xs hxl hkk0 (by rw [hnd]; exact hstr) h4 hnm
    have hsf := src_wr (f := f) (Z := Z) hR hxl hkk0 (by rw [hnd]; exact hstr) (by rw [hdt]; exact hpos) g2
    refine ⟨f, Z, h2, hz1, hz2, hsf, ?_, rfl, ⟨0, 0, by have := hsf.u0; omega, by simp [posW], ?_⟩, fun i hi => by omega⟩
    · show wrF4 four st ns = writeF (verF four) st (setD (ns.map Nm.nd) kk (ns.getD kk default).nd.data)
      rw [hself]
    · have h5 := (hZ (verF four) st (ns.map Nm.nd) kk).append_right (ws.map Wr.bk)
      rw [g1] at h5
      refine h5.trans ?_
      have e1 : R.cells.set 8 .nilIface = R.cells := by
        have := hok.wa
        unfold Rdr.cells rdF
        rw [this]; rfl
      have e2 : (R.src f Z (verF four) st (ns.map Nm.nd) kk).rw (waW R.bs 0) = (R.src f Z (verF four) st (ns.map Nm.nd) kk).rb := by
        show (R.br, blk (R.cells.set 8 .nilIface) 89) = (R.br, blk R.cells 89)
        rw [e1]
      have e3 : R.GD f Z (verF four) st (ns.map Nm.nd) kk (datW (ns.getD kk default).nd.data (ws.take 0)) = (R.src f Z (verF four) st (ns.map Nm.nd) kk).G := by
        show R.GD f Z (verF four) st (ns.map Nm.nd) kk (ns.getD kk default).nd.data = _
        unfold Rdr.GD Rdr.src
        rw [hself, ← hR.B]
      rw [e2, e3]
      exact ((List.perm_append_comm (l₁ := (R.src f Z (verF four) st (ns.map Nm.nd) kk).G) (l₂ := ws.map Wr.bk)).cons _).cons _
  · intro R hro
    have hR : R.Of (verF four) st (ns.map Nm.nd) := ROk.rdr h.xs hnm hro
    refine ⟨?_, ?_⟩
    · rintro j rs B H ⟨f, Z, hf1, hz1, hz2, hsf, hi1⟩
      obtain ⟨k', r', -, -, hpH⟩ := hi1.at_
      have hB := hi1.hB
      subst hB
      have hj : (datW (ns.getD kk default).nd.data (ws.take j)).length = (dtF (ns.map Nm.nd) kk).length := by
        rw [hdt]
        by_cases e : j ≤ ws.length
        · exact hws.dat rfl j e
        · rw [List.take_of_length_le om_]
          have := hws.dat rfl ws.length (Nat.le_refl _)
          rwa [List.take_length] at this
      have hlen : (wrD four st ns kk (datW (ns.getD kk default).nd.data (ws.take j))).length = R.N := by
        rw [length_writeF (ok_set h.xs hxl hj) (names_set hnm hxl hj), N_set hxl hj, hR.N]
      have mem : ∀ x, x ∈ (R.src f Z (verF four) st (ns.map Nm.nd) kk).rw (waW R.bs j) :: R.GD f Z (verF four) st (ns.map Nm.nd) kk (datW (ns.getD kk default).nd.data (ws.take j)) → x ∈ H := fun x hx => by
        refine hpH.mem_iff.2 ?_
        rcases List.mem_cons.1 hx with rfl | hx
        · exact List.mem_cons_of_mem _ (List.mem_cons_self ..)
        · exact List.mem_cons_of_mem _ (List.mem_cons_of_mem _ (List.mem_append_right _ hx))
      refine ⟨⟨waW R.bs j, mem _ (List.mem_cons_self ..)⟩, mem _ ?_, mem _ ?_, hlen, mem _ ?_⟩
      · exact List.mem_cons_of_mem _ (List.mem_cons_of_mem _ (List.mem_cons_of_mem _ (List.mem_cons_of_mem _ (List.mem_cons_of_mem _ (List.mem_cons_of_mem _ (List.mem_append_right _ hz2))))))
      · exact List.mem_cons_of_mem _ (List.mem_cons_of_mem _ (List.mem_cons_of_mem _ (List.mem_cons_self ..)))
      · exact List.mem_cons_of_mem _ (List.mem_cons_of_mem _ (List.mem_cons_of_mem _ (List.mem_cons_of_mem _ (List.mem_cons_self ..))))
    · rintro j rs B H ⟨f, Z, hf1, hz1, hz2, hsf, hi1⟩ hj
      have hsz : (R.src f Z (verF four) st (ns.map Nm.nd) kk).size = (ns.getD kk default).nd.data.length := by
        show (dtF (ns.map Nm.nd) kk).length = _
        rw [hdt]
      have := hi1.step hsf (by rw [hsz]; exact hws) (by rw [hsz]) om_
      rw [hf1]
      refine this.mono ?_
      rintro v q ⟨r, B2, rfl, h3, h4, h5⟩
      exact ⟨r, B2, rfl, h3, h4, f, Z, rfl, hz1, hz2, hsf, h5⟩
end

/-! The plan of FnReadAt: a byte, bytes at places, a byte. -/
theorem chunk_cell (s : Nat) (rows : List (List Value)) (r : List Value) (k c : Nat) (h : ∀ x ∈ rows, x.length = s) (hk : k < rows.length) (hc : c < s) {o : Nat} (ho : o = k * s + c) : (rows.flatten ++ r)[o]? = (rows.getD k [])[c]? := by
  subst ho
  rw [← chunk_at s rows r k h hk, List.getElem?_take_of_lt hc, List.getElem?_drop]

/-! The plan of FnSeek: places that are sought, each with a reading behind it. -/
section
variable {P : Program} {L : Fra} {dst : Option Tmp} {ty : TypeId} {pos : String} {aft : Array Edge} {gd : Option (Nat × Bool)}
theorem Yl_lenO {x : Operand} {t e : TypeId} {sz s n cap : Nat} {o : Option Nat} {xs r : List Value} (hx : ev L x = some (osl o n cap)) (ho : oOk o xs r n cap s) (ht : slOf P t = some (e, sz)) : Yl P L ⟨dst, .call ⟨.builtin .len, #[x], #[t]⟩, ty, pos, aft, gd⟩ (nv n) := by
  cases o with
  | none => obtain ⟨rfl, rfl⟩ := ho; exact Yl_len hx ht
  | some g => exact Yl_len hx ht
end

/-! What FnWrite's walk leans on: its steps in memory, the nodes with one stream's bytes changed. -/
theorem mem_pre2 {x a b c : Nat × Obj} {D F N M : Heap} (h : x ∈ a :: b :: D) : x ∈ a :: b :: c :: (M ++ (N ++ (D ++ F))) := by
  rcases List.mem_cons.1 h with rfl | h
  · exact List.mem_cons_self ..
  rcases List.mem_cons.1 h with rfl | h
  · exact List.mem_cons_of_mem _ (List.mem_cons_self ..)
  exact List.mem_cons_of_mem _ (List.mem_cons_of_mem _ (List.mem_cons_of_mem _ (List.mem_append_right _ (List.mem_append_right _ (List.mem_append_left _ h)))))
theorem shr3 {z : Nat} : ((z : Int)).fdiv (2 ^ (min (3 : Int).toNat IntKind.u16.bits)) = ((z / 8 : Nat) : Int) := by
  rw [Int.fdiv_eq_ediv_of_nonneg _ (by decide)]; rfl
theorem bys_snoc (d : List UInt8) (y : UInt8) : bys d ++ [bv y] = bys (d ++ [y]) := by simp [bys]
theorem flat_wr (ws : List Wr) (w : Wr) : (ws.map Wr.st).flatten ++ w.st = ((ws ++ [w]).map Wr.st).flatten := by simp
theorem wr_st5 (ws : List Wr) : ∀ y ∈ ws.map Wr.st, y.length = 5 := by
  intro y hy
  obtain ⟨w, _, rfl⟩ := List.mem_map.1 hy
  exact w.len5
theorem len_wr (ws : List Wr) : (ws.map Wr.st).flatten.length = ws.length * 5 := by rw [chunk_len 5 _ (wr_st5 ws), List.length_map]
theorem wr_at (ws : List Wr) {j : Nat} (h : j < ws.length) : (ws.map Wr.st).getD j [] = (ws.getD j default).st := by simp [List.getD_eq_getElem?_getD, h]
theorem p_db (w : Wr) (ws : List Wr) (b c d e f g h : Nat × Obj) (R : Heap) : (w.bk :: b :: c :: d :: e :: f :: g :: h :: (ws.map Wr.bk ++ R)).Perm (b :: c :: d :: e :: f :: g :: h :: ((ws ++ [w]).map Wr.bk ++ R)) := by
  have h1 := (List.perm_middle (a := w.bk) (l₁ := [b, c, d, e, f, g, h] ++ ws.map Wr.bk) (l₂ := R)).symm
  simpa using h1
theorem p_lo (b2 p2 bi gs wb bg p0 : Nat × Obj) (O R : Heap) : (b2 :: p2 :: bi :: gs :: (O ++ (wb :: bg :: p0 :: R))).Perm (b2 :: wb :: bg :: p2 :: p0 :: bi :: gs :: (O ++ R)) := by
  classical
  exact List.perm_iff_count.2 fun a => by simp only [List.count_append, List.count_cons]; omega
theorem p_nd {wb : Nat × Obj} {N N2 h1 : Heap} (h : (wb :: N).Perm (N2 ++ h1)) (b2 bg p2 p0 bi gs : Nat × Obj) (O D F : Heap) :
    (b2 :: wb :: bg :: p2 :: p0 :: bi :: gs :: (O ++ (N ++ (D ++ F)))).Perm (bg :: (N2 ++ (b2 :: p2 :: p0 :: ((bi :: gs :: (O ++ h1)) ++ (D ++ F))))) := by
  classical
  exact List.perm_iff_count.2 fun a => by
    have := h.count_eq a
    simp only [List.count_append, List.count_cons] at this ⊢
    omega
theorem nd_perm {ns : List Nm} {kk : Nat} {x2 : Nm} {wb : Nat × Obj} (hk : kk < ns.length) (hx2 : x2.heap = [wb]) : (wb :: nmsH ns).Perm (nmsH (ns.set kk x2) ++ (ns.getD kk default).heap) := by
  have h1 := nmsH_perm ns kk hk
  have h2 := nmsH_perm (ns.set kk x2) kk (by simpa using hk)
  have e1 : (ns.set kk x2).getD kk default = x2 := by rw [List.getD_eq_getElem?_getD, List.getElem?_set_self hk]; rfl
  rw [e1, hx2, List.eraseIdx_set_eq] at h2
  classical
  exact List.perm_iff_count.2 fun a => by
    have g1 := h1.count_eq a
    have g2 := h2.count_eq a
    simp only [List.count_append, List.count_cons, List.count_nil] at g1 g2 ⊢
    omega
theorem set_nd {ns : List Nm} {kk : Nat} (hk : kk < ns.length) (D : List UInt8) (o : Option Nat) (c : Nat) (r : List Value) : (ns.set kk ((ns.getD kk default).setData D o c r)).map Nm.nd = setD (ns.map Nm.nd) kk D := by
  unfold setD
  rw [List.map_set, nd_at ns kk hk]
  rfl
theorem set_ok {ns : List Nm} {kk : Nat} (hok : ∀ x ∈ ns, x.ok) (hk : kk < ns.length) {D : List UInt8} (hD : D.length = (ns.getD kk default).nd.data.length) {b c : Nat} (hc : D.length ≤ c) (r : List Value) : ∀ x ∈ ns.set kk ((ns.getD kk default).setData D (some b) c r), x.ok := by
  intro x hx
  rcases List.mem_or_eq_of_mem_set hx with h | rfl
  · exact hok x h
  · have h : (ns.getD kk default).ok := hok _ (by rw [List.getD_eq_getElem?_getD, List.getElem?_eq_getElem hk]; exact List.getElem_mem _)
    exact ⟨(fun h => by cases h), hc, by show D.length ≤ 9000; rw [hD]; exact h.small, h.name, h.left, h.right, h.child, h.created, h.modified⟩
theorem by_blk {H : Heap} {b n cap : Nat} {d : List UInt8} {r : List Value} (hl : d.length = n) (hm : (b, blk (bys d ++ r) 5) ∈ H) : By H (.slice (some ⟨b, 0, none⟩) n cap) d := by
  refine ⟨_, _, _, rfl, hl, .inr ⟨b, 0, bys d ++ r, 5, _, rfl, hm, ?_⟩⟩
  rw [List.drop_zero, List.take_append_of_le_length (by simp [hl]), List.take_of_length_le (by simp [hl])]

/-! Walks: FnWrite. -/
theorem FnWrite_ct (nN cN nD cD st tn : Nat) (pN pD : Option Addr) (four : Bool) (hst : st ≤ 255) (htn : tn ≤ 255) (ps : List Value) (T : TypeId) (hp : PsOk ps) (U : TypeId) (u : Value) (hU : Nat.beq U 123 = false) (T0 : TypeId) (fz0 : Nat × Nat) (D : Heap) (hN : NumOk ((2, blk ps T) :: (0, Obj.cells [Value.iface U u].toArray T0 fz0) :: D) pN nN) (hD : BytOk ((2, blk ps T) :: (0, Obj.cells [Value.iface U u].toArray T0 fz0) :: D) pD nD) (hcN : nN ≤ cN) (nA cA : Nat) (pA : Option Addr) (zs : List Nat) (hzl : zs.length = nA) (hA : U16Ok ((2, blk ps T) :: (0, Obj.cells [Value.iface U u].toArray T0 fz0) :: D) pA zs) (nS cS : Nat) (pS : Option Addr) (hS : BytOk ((2, blk ps T) :: (0, Obj.cells [Value.iface U u].toArray T0 fz0) :: D) pS nS) :
  Ct Tryd.prog 10 [.slice pN nN cN, .slice pD nD cD, .bool four, .int .u8 (st : Int), .int .u8 (tn : Int), .slice pA nA cA, .slice pS nS cS] ((2, blk ps T) :: (0, Obj.cells [Value.iface U u].toArray T0 fz0) :: D) (fun v q => v = .bool true ∧ q = (2, blk ps T) :: (0, Obj.cells [Value.iface U u].toArray T0 fz0) :: D) := by
 refine Ct_of Tryd.func10 rfl Tryd.ntmps10 rfl ?_
 intro E F
 simp only [numL, List.nil_append, List.cons_append]
 refine CW_sr ?_
 refine RW_a ?_
 refine RW_lv (ks := [0, 1, 2, 3, 4, 5, 6]) ?_
 refine CW_seq ?_
 refine CW_sr ?_
 refine RW_m ?_
 refine RW_l (Yl_len rfl sl_22) ?_
 refine RW_l (Yl_gtr rfl rfl) ?_
 refine RW_m ?_
 refine RW_bool 37 rfl (fun hg1 => ?_) (fun hg1 => ?_)
 ·replace hg1 := of_decide_eq_true hg1
  refine RW_skip rfl rfl rfl ?_
  refine RW_skip rfl rfl rfl ?_
  refine RW_skip rfl rfl rfl ?_
  refine RW_l (Yl_pick_t rfl rfl) ?_
  refine RW_m ?_
  refine RW_skip rfl rfl rfl ?_
  refine RW_skip rfl rfl rfl ?_
  refine RW_skip rfl rfl rfl ?_
  refine RW_l (Yl_pick_t rfl rfl) ?_
  refine RW_m ?_
  refine RW_skip rfl rfl rfl ?_
  refine RW_skip rfl rfl rfl ?_
  refine RW_skip rfl rfl rfl ?_
  refine RW_l (Yl_pick_t rfl rfl) ?_
  refine RW_lv (ks := [0, 1, 2, 3, 4, 5, 6, 51]) ?_
  refine CW_true rfl ?_
  refine CW_sr ?_
  refine RW_a ?_
  refine RW_lv (ks := [14]) ?_
  refine CW_ret ?_
  refine QW_ret_then ?_
  first
   | exact QW_ret1 rfl rfl ((2, blk ps T) :: (0, Obj.cells [Value.iface U u].toArray T0 fz0) :: D) ⟨rfl, rfl⟩ (Prm.nil _)
   | (refine QW_sub (H' := (2, blk ps T) :: (0, Obj.cells [Value.iface U u].toArray T0 fz0) :: (D ++ F)) (.cons _ (.cons_cons _ (.cons_cons _ (.cons _ (List.sublist_append_right _ _))))) ?_; exact QW_ret1 rfl rfl ((2, blk ps T) :: (0, Obj.cells [Value.iface U u].toArray T0 fz0) :: D) ⟨rfl, rfl⟩ (Prm.nil _))
   | (refine QW_sub (H' := (2, blk ps T) :: (0, Obj.cells [Value.iface U u].toArray T0 fz0) :: (D ++ F)) (.cons _ (.cons _ (List.Sublist.trans (.cons _ (.cons_cons _ (.cons_cons _ (.cons _ (.cons _ (List.sublist_append_right _ _)))))) (List.sublist_append_right _ _)))) ?_; exact QW_ret1 rfl rfl ((2, blk ps T) :: (0, Obj.cells [Value.iface U u].toArray T0 fz0) :: D) ⟨rfl, rfl⟩ (Prm.nil _))
 ·replace hg1 := of_decide_eq_false hg1
  refine RW_gy rfl rfl rfl (Yl.h (Yl_move rfl)) ?_
  refine RW_gy rfl rfl rfl (Yl.h (Yl_len rfl sl_23)) ?_
  refine RW_gy rfl rfl rfl (Yl.h (Yl_gtr rfl rfl)) ?_
  refine RW_l (Yl_pick_f rfl rfl) ?_
  refine RW_m ?_
  refine RW_bool 42 rfl (fun hg2 => ?_) (fun hg2 => ?_)
  ·replace hg2 := of_decide_eq_true hg2
   refine RW_skip rfl rfl rfl ?_
   refine RW_skip rfl rfl rfl ?_
   refine RW_skip rfl rfl rfl ?_
   refine RW_l (Yl_pick_t rfl rfl) ?_
   refine RW_m ?_
   refine RW_skip rfl rfl rfl ?_
   refine RW_skip rfl rfl rfl ?_
   refine RW_skip rfl rfl rfl ?_
   refine RW_l (Yl_pick_t rfl rfl) ?_
   refine RW_lv (ks := [0, 1, 2, 3, 4, 5, 6, 51]) ?_
   refine CW_true rfl ?_
   refine CW_sr ?_
   refine RW_a ?_
   refine RW_lv (ks := [14]) ?_
   refine CW_ret ?_
   refine QW_ret_then ?_
   first
    | exact QW_ret1 rfl rfl ((2, blk ps T) :: (0, Obj.cells [Value.iface U u].toArray T0 fz0) :: D) ⟨rfl, rfl⟩ (Prm.nil _)
    | (refine QW_sub (H' := (2, blk ps T) :: (0, Obj.cells [Value.iface U u].toArray T0 fz0) :: (D ++ F)) (.cons _ (.cons_cons _ (.cons_cons _ (.cons _ (List.sublist_append_right _ _))))) ?_; exact QW_ret1 rfl rfl ((2, blk ps T) :: (0, Obj.cells [Value.iface U u].toArray T0 fz0) :: D) ⟨rfl, rfl⟩ (Prm.nil _))
    | (refine QW_sub (H' := (2, blk ps T) :: (0, Obj.cells [Value.iface U u].toArray T0 fz0) :: (D ++ F)) (.cons _ (.cons _ (List.Sublist.trans (.cons _ (.cons_cons _ (.cons_cons _ (.cons _ (.cons _ (List.sublist_append_right _ _)))))) (List.sublist_append_right _ _)))) ?_; exact QW_ret1 rfl rfl ((2, blk ps T) :: (0, Obj.cells [Value.iface U u].toArray T0 fz0) :: D) ⟨rfl, rfl⟩ (Prm.nil _))
  ·replace hg2 := of_decide_eq_false hg2
   refine RW_gy rfl rfl rfl (Yl.h (Yl_move rfl)) ?_
   refine RW_gy rfl rfl rfl (Yl.h (Yl_len rfl sl_61)) ?_
   refine RW_gy rfl rfl rfl (Yl.h (Yl_gtr rfl rfl)) ?_
   refine RW_l (Yl_pick_f rfl rfl) ?_
   refine RW_m ?_
   refine RW_bool 47 rfl (fun hg3 => ?_) (fun hg3 => ?_)
   ·replace hg3 := of_decide_eq_true hg3
    refine RW_skip rfl rfl rfl ?_
    refine RW_skip rfl rfl rfl ?_
    refine RW_skip rfl rfl rfl ?_
    refine RW_l (Yl_pick_t rfl rfl) ?_
    refine RW_lv (ks := [0, 1, 2, 3, 4, 5, 6, 51]) ?_
    refine CW_true rfl ?_
    refine CW_sr ?_
    refine RW_a ?_
    refine RW_lv (ks := [14]) ?_
    refine CW_ret ?_
    refine QW_ret_then ?_
    first
     | exact QW_ret1 rfl rfl ((2, blk ps T) :: (0, Obj.cells [Value.iface U u].toArray T0 fz0) :: D) ⟨rfl, rfl⟩ (Prm.nil _)
     | (refine QW_sub (H' := (2, blk ps T) :: (0, Obj.cells [Value.iface U u].toArray T0 fz0) :: (D ++ F)) (.cons _ (.cons_cons _ (.cons_cons _ (.cons _ (List.sublist_append_right _ _))))) ?_; exact QW_ret1 rfl rfl ((2, blk ps T) :: (0, Obj.cells [Value.iface U u].toArray T0 fz0) :: D) ⟨rfl, rfl⟩ (Prm.nil _))
     | (refine QW_sub (H' := (2, blk ps T) :: (0, Obj.cells [Value.iface U u].toArray T0 fz0) :: (D ++ F)) (.cons _ (.cons _ (List.Sublist.trans (.cons _ (.cons_cons _ (.cons_cons _ (.cons _ (.cons _ (List.sublist_append_right _ _)))))) (List.sublist_append_right _ _)))) ?_; exact QW_ret1 rfl rfl ((2, blk ps T) :: (0, Obj.cells [Value.iface U u].toArray T0 fz0) :: D) ⟨rfl, rfl⟩ (Prm.nil _))
   ·replace hg3 := of_decide_eq_false hg3
    refine RW_gy rfl rfl rfl (Yl.h (Yl_move rfl)) ?_
    refine RW_gy rfl rfl rfl (Yl.h (Yl_len rfl sl_23)) ?_
    refine RW_gy rfl rfl rfl (Yl.h (Yl_gtr rfl rfl)) ?_
    refine RW_l (Yl_pick_f rfl rfl) ?_
    refine RW_lv (ks := [0, 1, 2, 3, 4, 5, 6, 51]) ?_
    refine CW_cond rfl (fun hc4 => ?_) (fun hc4 => ?_)
    ·replace hc4 := of_decide_eq_true hc4
     refine CW_sr ?_
     refine RW_a ?_
     refine RW_lv (ks := [14]) ?_
     refine CW_ret ?_
     refine QW_ret_then ?_
     first
      | exact QW_ret1 rfl rfl ((2, blk ps T) :: (0, Obj.cells [Value.iface U u].toArray T0 fz0) :: D) ⟨rfl, rfl⟩ (Prm.nil _)
      | (refine QW_sub (H' := (2, blk ps T) :: (0, Obj.cells [Value.iface U u].toArray T0 fz0) :: (D ++ F)) (.cons _ (.cons_cons _ (.cons_cons _ (.cons _ (List.sublist_append_right _ _))))) ?_; exact QW_ret1 rfl rfl ((2, blk ps T) :: (0, Obj.cells [Value.iface U u].toArray T0 fz0) :: D) ⟨rfl, rfl⟩ (Prm.nil _))
      | (refine QW_sub (H' := (2, blk ps T) :: (0, Obj.cells [Value.iface U u].toArray T0 fz0) :: (D ++ F)) (.cons _ (.cons _ (List.Sublist.trans (.cons _ (.cons_cons _ (.cons_cons _ (.cons _ (.cons _ (List.sublist_append_right _ _)))))) (List.sublist_append_right _ _)))) ?_; exact QW_ret1 rfl rfl ((2, blk ps T) :: (0, Obj.cells [Value.iface U u].toArray T0 fz0) :: D) ⟨rfl, rfl⟩ (Prm.nil _))
    ·replace hc4 := of_decide_eq_false hc4
     refine (CW_skip (QW_lv (ks := [0, 1, 2, 3, 4, 5, 6]) ?_))
     refine CW_seq ?_
     refine CW_sr ?_
     refine RW_m ?_
     refine RW_m ?_
     refine RW_fx rfl rfl rfl (Fx_callQ ok_13 (vs := [.slice pN nN cN, .slice pD nD cD]) (R := fun v => v = .bool (decide (nN ≤ 100 ∧ nD ≤ 1000))) rfl (Pick.nil _) (few_ct pN pD nN cN nD cD)) ?_
     rintro _ _ ⟨rfl, rfl⟩
     refine RW_l (Yl_not rfl) ?_
     refine RW_m ?_
     refine RW_bool 56 rfl (fun hg5 => ?_) (fun hg5 => ?_)
     ·skip
      refine RW_skip rfl rfl rfl ?_
      refine RW_skip rfl rfl rfl ?_
      refine RW_skip rfl rfl rfl ?_
      refine RW_l (Yl_pick_t rfl rfl) ?_
      refine RW_m ?_
      refine RW_skip rfl rfl rfl ?_
      refine RW_skip rfl rfl rfl ?_
      refine RW_skip rfl rfl rfl ?_
      refine RW_l (Yl_pick_t rfl rfl) ?_
      refine RW_m ?_
      refine RW_skip rfl rfl rfl ?_
      refine RW_skip rfl rfl rfl ?_
      refine RW_skip rfl rfl rfl ?_
      refine RW_l (Yl_pick_t rfl rfl) ?_
      refine RW_lv (ks := [0, 1, 2, 3, 4, 5, 6, 70]) ?_
      refine CW_true rfl ?_
      refine CW_sr ?_
      refine RW_a ?_
      refine RW_lv (ks := [14]) ?_
      refine CW_ret ?_
      refine QW_ret_then ?_
      first
       | exact QW_ret1 rfl rfl ((2, blk ps T) :: (0, Obj.cells [Value.iface U u].toArray T0 fz0) :: D) ⟨rfl, rfl⟩ (Prm.nil _)
       | (refine QW_sub (H' := (2, blk ps T) :: (0, Obj.cells [Value.iface U u].toArray T0 fz0) :: (D ++ F)) (.cons _ (.cons_cons _ (.cons_cons _ (.cons _ (List.sublist_append_right _ _))))) ?_; exact QW_ret1 rfl rfl ((2, blk ps T) :: (0, Obj.cells [Value.iface U u].toArray T0 fz0) :: D) ⟨rfl, rfl⟩ (Prm.nil _))
       | (refine QW_sub (H' := (2, blk ps T) :: (0, Obj.cells [Value.iface U u].toArray T0 fz0) :: (D ++ F)) (.cons _ (.cons _ (List.Sublist.trans (.cons _ (.cons_cons _ (.cons_cons _ (.cons _ (.cons _ (List.sublist_append_right _ _)))))) (List.sublist_append_right _ _)))) ?_; exact QW_ret1 rfl rfl ((2, blk ps T) :: (0, Obj.cells [Value.iface U u].toArray T0 fz0) :: D) ⟨rfl, rfl⟩ (Prm.nil _))
     ·skip
      have hfew : nN ≤ 100 ∧ nD ≤ 1000 := by simpa using hg5
      refine RW_gy rfl rfl rfl (Yl.h (Yl_move rfl)) ?_
      refine RW_gy rfl rfl rfl (Yl.h (Yl_len rfl sl_61)) ?_
      refine RW_gy rfl rfl rfl (Yl.h (Yl_gtr rfl rfl)) ?_
      refine RW_l (Yl_pick_f rfl rfl) ?_
      refine RW_m ?_
      refine RW_bool 61 rfl (fun hg6 => ?_) (fun hg6 => ?_)
      ·replace hg6 := of_decide_eq_true hg6
       refine RW_skip rfl rfl rfl ?_
       refine RW_skip rfl rfl rfl ?_
       refine RW_skip rfl rfl rfl ?_
       refine RW_l (Yl_pick_t rfl rfl) ?_
       refine RW_m ?_
       refine RW_skip rfl rfl rfl ?_
       refine RW_skip rfl rfl rfl ?_
       refine RW_skip rfl rfl rfl ?_
       refine RW_l (Yl_pick_t rfl rfl) ?_
       refine RW_lv (ks := [0, 1, 2, 3, 4, 5, 6, 70]) ?_
       refine CW_true rfl ?_
       refine CW_sr ?_
       refine RW_a ?_
       refine RW_lv (ks := [14]) ?_
       refine CW_ret ?_
       refine QW_ret_then ?_
       first
        | exact QW_ret1 rfl rfl ((2, blk ps T) :: (0, Obj.cells [Value.iface U u].toArray T0 fz0) :: D) ⟨rfl, rfl⟩ (Prm.nil _)
        | (refine QW_sub (H' := (2, blk ps T) :: (0, Obj.cells [Value.iface U u].toArray T0 fz0) :: (D ++ F)) (.cons _ (.cons_cons _ (.cons_cons _ (.cons _ (List.sublist_append_right _ _))))) ?_; exact QW_ret1 rfl rfl ((2, blk ps T) :: (0, Obj.cells [Value.iface U u].toArray T0 fz0) :: D) ⟨rfl, rfl⟩ (Prm.nil _))
        | (refine QW_sub (H' := (2, blk ps T) :: (0, Obj.cells [Value.iface U u].toArray T0 fz0) :: (D ++ F)) (.cons _ (.cons _ (List.Sublist.trans (.cons _ (.cons_cons _ (.cons_cons _ (.cons _ (.cons _ (List.sublist_append_right _ _)))))) (List.sublist_append_right _ _)))) ?_; exact QW_ret1 rfl rfl ((2, blk ps T) :: (0, Obj.cells [Value.iface U u].toArray T0 fz0) :: D) ⟨rfl, rfl⟩ (Prm.nil _))
      ·replace hg6 := of_decide_eq_false hg6
       refine RW_gy rfl rfl rfl (Yl.h (Yl_move rfl)) ?_
       refine RW_gy rfl rfl rfl (Yl.h (Yl_len rfl sl_23)) ?_
       refine RW_gy rfl rfl rfl (Yl.h (Yl_eql rfl rfl)) ?_
       refine RW_l (Yl_pick_f rfl rfl) ?_
       refine RW_m ?_
       refine RW_bool 66 rfl (fun hg7 => ?_) (fun hg7 => ?_)
       ·replace hg7 := of_decide_eq_true hg7
        refine RW_skip rfl rfl rfl ?_
        refine RW_skip rfl rfl rfl ?_
        refine RW_skip rfl rfl rfl ?_
        refine RW_l (Yl_pick_t rfl rfl) ?_
        refine RW_lv (ks := [0, 1, 2, 3, 4, 5, 6, 70]) ?_
        refine CW_true rfl ?_
        refine CW_sr ?_
        refine RW_a ?_
        refine RW_lv (ks := [14]) ?_
        refine CW_ret ?_
        refine QW_ret_then ?_
        first
         | exact QW_ret1 rfl rfl ((2, blk ps T) :: (0, Obj.cells [Value.iface U u].toArray T0 fz0) :: D) ⟨rfl, rfl⟩ (Prm.nil _)
         | (refine QW_sub (H' := (2, blk ps T) :: (0, Obj.cells [Value.iface U u].toArray T0 fz0) :: (D ++ F)) (.cons _ (.cons_cons _ (.cons_cons _ (.cons _ (List.sublist_append_right _ _))))) ?_; exact QW_ret1 rfl rfl ((2, blk ps T) :: (0, Obj.cells [Value.iface U u].toArray T0 fz0) :: D) ⟨rfl, rfl⟩ (Prm.nil _))
         | (refine QW_sub (H' := (2, blk ps T) :: (0, Obj.cells [Value.iface U u].toArray T0 fz0) :: (D ++ F)) (.cons _ (.cons _ (List.Sublist.trans (.cons _ (.cons_cons _ (.cons_cons _ (.cons _ (.cons _ (List.sublist_append_right _ _)))))) (List.sublist_append_right _ _)))) ?_; exact QW_ret1 rfl rfl ((2, blk ps T) :: (0, Obj.cells [Value.iface U u].toArray T0 fz0) :: D) ⟨rfl, rfl⟩ (Prm.nil _))
       ·replace hg7 := of_decide_eq_false hg7
        refine RW_gy rfl rfl rfl (Yl.h (Yl_move rfl)) ?_
        refine RW_gy rfl rfl rfl (Yl.h (Yl_len rfl sl_23)) ?_
        refine RW_gy rfl rfl rfl (Yl.h (Yl_gtr rfl rfl)) ?_
        refine RW_l (Yl_pick_f rfl rfl) ?_
        refine RW_lv (ks := [0, 1, 2, 3, 4, 5, 6, 70]) ?_
        refine CW_cond rfl (fun hc8 => ?_) (fun hc8 => ?_)
        ·replace hc8 := of_decide_eq_true hc8
         refine CW_sr ?_
         refine RW_a ?_
         refine RW_lv (ks := [14]) ?_
         refine CW_ret ?_
         refine QW_ret_then ?_
         first
          | exact QW_ret1 rfl rfl ((2, blk ps T) :: (0, Obj.cells [Value.iface U u].toArray T0 fz0) :: D) ⟨rfl, rfl⟩ (Prm.nil _)
          | (refine QW_sub (H' := (2, blk ps T) :: (0, Obj.cells [Value.iface U u].toArray T0 fz0) :: (D ++ F)) (.cons _ (.cons_cons _ (.cons_cons _ (.cons _ (List.sublist_append_right _ _))))) ?_; exact QW_ret1 rfl rfl ((2, blk ps T) :: (0, Obj.cells [Value.iface U u].toArray T0 fz0) :: D) ⟨rfl, rfl⟩ (Prm.nil _))
          | (refine QW_sub (H' := (2, blk ps T) :: (0, Obj.cells [Value.iface U u].toArray T0 fz0) :: (D ++ F)) (.cons _ (.cons _ (List.Sublist.trans (.cons _ (.cons_cons _ (.cons_cons _ (.cons _ (.cons _ (List.sublist_append_right _ _)))))) (List.sublist_append_right _ _)))) ?_; exact QW_ret1 rfl rfl ((2, blk ps T) :: (0, Obj.cells [Value.iface U u].toArray T0 fz0) :: D) ⟨rfl, rfl⟩ (Prm.nil _))
        ·replace hc8 := of_decide_eq_false hc8
         refine (CW_skip (QW_lv (ks := [0, 1, 2, 3, 4, 5, 6]) ?_))
         refine CW_seq ?_
         have hnodes := nodesOf_ct nN cN nD cD pN pD ((2, blk ps T) :: (0, Obj.cells [Value.iface U u].toArray T0 fz0) :: D) hN hD om_ hcN om_
         refine CW_region ?_
         refine RW_m ?_
         refine RW_m ?_
         refine RW_fx rfl rfl rfl (Fx_call ok_14 (vs := [.slice pN nN cN, .slice pD nD cD]) rfl (Pick.cons rem_ (Pick.cons rem_ (pick_app D F))) hnodes) ?_
         rintro _ _ ⟨_, ⟨ns, g, cap, rn, rfl, hno, hfit, rfl⟩, rfl⟩
         simp only [List.cons_append, List.append_assoc]
         refine RW_a ?_
         refine RW_lv (ks := [2, 3, 4, 5, 6, 15]) ?_
         refine CW_seq ?_
         have hxs := hno.xs
         have hw := write_ct g cap (verF four) st ns rn _ rfl hxs hno.ok (by rcases verF_or four with e | e <;> omega) om_
         refine CW_region ?_
         refine RW_m ?_
         refine RW_m ?_
         refine RW_fx rfl rfl rfl (Fx_callQ ok_16 (vs := [.bool four]) (R := fun v => v = nv (verF four)) rfl (Pick.nil _) (versionOf_ct four)) ?_
         rintro _ _ ⟨rfl, rfl⟩
         refine RW_m ?_
         refine RW_l (Yl_conv (c := (st : Int)) rfl in_5 in_3 (wi64 om_ om_)) ?_
         refine RW_fx rfl rfl rfl (Fx_call ok_15 (vs := [.slice (some ⟨g, 0, none⟩) ns.length cap, nv (verF four), nv st]) rfl (Pick.cons rem_ (pick_app (nmsH ns) _)) hw) ?_
         rintro _ _ ⟨_, ⟨gI, rfl, rfl⟩, rfl⟩
         simp only [List.cons_append]
         refine RW_a ?_
         refine RW_lv (ks := [2, 3, 4, 5, 6, 15, 16]) ?_
         refine CW_seq ?_
         refine CW_heap (perm_front ((gI, blk (bys (writeF (verF four) st (ns.map Nm.nd))) 5) :: (g, blk (nms ns ++ rn) 43) :: nmsH ns) [(2, blk ps T), (0, Obj.cells [Value.iface U u].toArray T0 fz0)] (D ++ F)) ?_
         simp only [List.cons_append, List.nil_append]
         obtain ⟨o, ho, hok, hond, hol, hbad, hout, hpth⟩ := hno.travs (verF four)
         have hnl := hno.len
         have hsto := streamOf_ct ns g cap tn rn o htn om_ om_ ho (fun k hk => (hok k).1 hk)
         refine CW_region ?_
         refine RW_m ?_
         refine RW_m ?_
         refine RW_fx rfl rfl rfl (Fx_call ok_19 (vs := [.slice (some ⟨g, 0, none⟩) ns.length cap, .int .u8 (tn : Int)]) rfl (Pick.cons rem_ (Pick.nil _)) hsto) ?_
         rintro _ _ ⟨_, ⟨en, kk, bs, rfl, hfound, rfl⟩, rfl⟩
         simp only [List.cons_append, List.nil_append]
         refine RW_m ?_
         refine RW_l (Yl_extract (v := nv en) rfl rfl) ?_
         refine RW_l (Yl_extract (v := nv kk) rfl rfl) ?_
         refine RW_l (Yl_extract (v := .bool bs) rfl rfl) ?_
         refine RW_a ?_
         refine RW_a ?_
         refine RW_a ?_
         refine RW_lv (ks := [2, 3, 5, 6, 15, 16, 17, 18, 19]) ?_
         refine CW_seq ?_
         refine CW_sr ?_
         refine RW_m ?_
         refine RW_l (Yl_not rfl) ?_
         refine RW_m ?_
         refine RW_bool 89 rfl (fun hg9 => ?_) (fun hg9 => ?_)
         ·skip
          refine RW_skip rfl rfl rfl ?_
          refine RW_skip rfl rfl rfl ?_
          refine RW_skip rfl rfl rfl ?_
          refine RW_l (Yl_pick_t rfl rfl) ?_
          refine RW_m ?_
          refine RW_skip rfl rfl rfl ?_
          refine RW_skip rfl rfl rfl ?_
          refine RW_skip rfl rfl rfl ?_
          refine RW_skip rfl rfl rfl ?_
          refine RW_skip rfl rfl rfl ?_
          refine RW_skip rfl rfl rfl ?_
          refine RW_skip rfl rfl rfl ?_
          refine RW_l (Yl_pick_t rfl rfl) ?_
          refine RW_lv (ks := [2, 3, 5, 6, 15, 16, 17, 18, 102]) ?_
          refine CW_true rfl ?_
          refine CW_sr ?_
          refine RW_a ?_
          refine RW_lv (ks := [14]) ?_
          refine CW_ret ?_
          refine QW_ret_then ?_
          first
           | exact QW_ret1 rfl rfl ((2, blk ps T) :: (0, Obj.cells [Value.iface U u].toArray T0 fz0) :: D) ⟨rfl, rfl⟩ (Prm.nil _)
           | (refine QW_sub (H' := (2, blk ps T) :: (0, Obj.cells [Value.iface U u].toArray T0 fz0) :: (D ++ F)) (.cons _ (.cons_cons _ (.cons_cons _ (.cons _ (List.sublist_append_right _ _))))) ?_; exact QW_ret1 rfl rfl ((2, blk ps T) :: (0, Obj.cells [Value.iface U u].toArray T0 fz0) :: D) ⟨rfl, rfl⟩ (Prm.nil _))
           | (refine QW_sub (H' := (2, blk ps T) :: (0, Obj.cells [Value.iface U u].toArray T0 fz0) :: (D ++ F)) (.cons _ (.cons _ (List.Sublist.trans (.cons _ (.cons_cons _ (.cons_cons _ (.cons _ (.cons _ (List.sublist_append_right _ _)))))) (List.sublist_append_right _ _)))) ?_; exact QW_ret1 rfl rfl ((2, blk ps T) :: (0, Obj.cells [Value.iface U u].toArray T0 fz0) :: D) ⟨rfl, rfl⟩ (Prm.nil _))
         ·skip
          have hb1 : bs = true := by simpa using hg9
          refine RW_gy rfl rfl rfl (Yl.h (Yl_move rfl)) ?_
          refine RW_gy rfl rfl rfl (Yl.h (Yl_len rfl sl_23)) ?_
          refine RW_gy rfl rfl rfl (Yl.h (Yl_gtr rfl rfl)) ?_
          refine RW_l (Yl_pick_f rfl rfl) ?_
          refine RW_m ?_
          refine RW_bool 94 rfl (fun hg10 => ?_) (fun hg10 => ?_)
          ·replace hg10 := of_decide_eq_true hg10
           refine RW_skip rfl rfl rfl ?_
           refine RW_skip rfl rfl rfl ?_
           refine RW_skip rfl rfl rfl ?_
           refine RW_skip rfl rfl rfl ?_
           refine RW_skip rfl rfl rfl ?_
           refine RW_skip rfl rfl rfl ?_
           refine RW_skip rfl rfl rfl ?_
           refine RW_l (Yl_pick_t rfl rfl) ?_
           refine RW_lv (ks := [2, 3, 5, 6, 15, 16, 17, 18, 102]) ?_
           refine CW_true rfl ?_
           refine CW_sr ?_
           refine RW_a ?_
           refine RW_lv (ks := [14]) ?_
           refine CW_ret ?_
           refine QW_ret_then ?_
           first
            | exact QW_ret1 rfl rfl ((2, blk ps T) :: (0, Obj.cells [Value.iface U u].toArray T0 fz0) :: D) ⟨rfl, rfl⟩ (Prm.nil _)
            | (refine QW_sub (H' := (2, blk ps T) :: (0, Obj.cells [Value.iface U u].toArray T0 fz0) :: (D ++ F)) (.cons _ (.cons_cons _ (.cons_cons _ (.cons _ (List.sublist_append_right _ _))))) ?_; exact QW_ret1 rfl rfl ((2, blk ps T) :: (0, Obj.cells [Value.iface U u].toArray T0 fz0) :: D) ⟨rfl, rfl⟩ (Prm.nil _))
            | (refine QW_sub (H' := (2, blk ps T) :: (0, Obj.cells [Value.iface U u].toArray T0 fz0) :: (D ++ F)) (.cons _ (.cons _ (List.Sublist.trans (.cons _ (.cons_cons _ (.cons_cons _ (.cons _ (.cons _ (List.sublist_append_right _ _)))))) (List.sublist_append_right _ _)))) ?_; exact QW_ret1 rfl rfl ((2, blk ps T) :: (0, Obj.cells [Value.iface U u].toArray T0 fz0) :: D) ⟨rfl, rfl⟩ (Prm.nil _))
          ·replace hg10 := of_decide_eq_false hg10
           obtain ⟨he1, he2, he3⟩ := hfound hb1
           have hkk0 := hno.notroot he3
           have hkn : kk < ns.length := by
            have hoi : o.getD en default ∈ o := by rw [List.getD_eq_getElem?_getD, List.getElem?_eq_getElem he1]; exact List.getElem_mem _
            rw [← he2]; exact (hok _).1 (List.mem_map.2 ⟨_, hoi, rfl⟩)
           obtain ⟨x1, hx⟩ : ∃ x, ns.getD kk default = x := ⟨_, rfl⟩
           have hx1 : x1.ok := by rw [← hx]; exact hno.ok_at hkn
           have hxm := nmsH_mem hkn
           rw [hx] at hxm
           have hx9 := hx1.small
           have hxf := hx1.fit
           have hN1 : (nmF4 four ns) ≤ 131072 := by show NF (verF four) (ns.map Nm.nd) ≤ 131072; omega
           refine RW_gy rfl rfl rfl (Yl.h (Yl_move rfl)) ?_
           refine RW_gy rfl rfl rfl (Yl.h (Yl_move rfl)) ?_
           refine RW_gy rfl rfl rfl (Yl.h (Yl_indexN (b := g) (off := 0) (i := kk) (o' := kk * 28) rfl rfl sl_25 om_ om_)) ?_
           refine RW_gy rfl rfl rfl (Yl.h (Yl_field rfl fo_43_2)) ?_
           refine RW_gy rfl rfl rfl (Yh_load (v := x1.slice) rfl sc_23 mem_ (by rw [nms_cell _ _ _ 2 hkn om_, hx]; rfl)) ?_
           refine RW_gy rfl rfl rfl (Yl.h (Yl_len rfl sl_23)) ?_
           refine RW_gy rfl rfl rfl (Yl.h (Yl_eql rfl rfl)) ?_
           refine RW_l (Yl_pick_f rfl rfl) ?_
           refine RW_lv (ks := [2, 3, 5, 6, 15, 16, 17, 18, 102]) ?_
           refine CW_cond rfl (fun hc11 => ?_) (fun hc11 => ?_)
           ·replace hc11 := of_decide_eq_true hc11
            refine CW_sr ?_
            refine RW_a ?_
            refine RW_lv (ks := [14]) ?_
            refine CW_ret ?_
            refine QW_ret_then ?_
            first
             | exact QW_ret1 rfl rfl ((2, blk ps T) :: (0, Obj.cells [Value.iface U u].toArray T0 fz0) :: D) ⟨rfl, rfl⟩ (Prm.nil _)
             | (refine QW_sub (H' := (2, blk ps T) :: (0, Obj.cells [Value.iface U u].toArray T0 fz0) :: (D ++ F)) (.cons _ (.cons_cons _ (.cons_cons _ (.cons _ (List.sublist_append_right _ _))))) ?_; exact QW_ret1 rfl rfl ((2, blk ps T) :: (0, Obj.cells [Value.iface U u].toArray T0 fz0) :: D) ⟨rfl, rfl⟩ (Prm.nil _))
             | (refine QW_sub (H' := (2, blk ps T) :: (0, Obj.cells [Value.iface U u].toArray T0 fz0) :: (D ++ F)) (.cons _ (.cons _ (List.Sublist.trans (.cons _ (.cons_cons _ (.cons_cons _ (.cons _ (.cons _ (List.sublist_append_right _ _)))))) (List.sublist_append_right _ _)))) ?_; exact QW_ret1 rfl rfl ((2, blk ps T) :: (0, Obj.cells [Value.iface U u].toArray T0 fz0) :: D) ⟨rfl, rfl⟩ (Prm.nil _))
           ·replace hc11 := of_decide_eq_false hc11
            refine (CW_skip (QW_lv (ks := [2, 3, 5, 6, 15, 16, 17, 18]) ?_))
            refine CW_seq ?_
            have hpos : 0 < x1.nd.data.length := by omega
            obtain ⟨hxb, hxh⟩ := Nm.data_ok hx1 hpos
            have hxm1 := hxm _ (by rw [hxh]; exact List.mem_cons_self ..)
            have hxsl : x1.slice = .slice (some ⟨x1.b.getD 0, 0, none⟩) x1.nd.data.length x1.cap := by unfold Nm.slice; rw [hxb]
            refine CW_region ?_
            refine RW_fx rfl rfl rfl (Fx_buildSlice0 sl_23) ?_
            rintro _ _ ⟨bz, rfl, rfl⟩
            refine RW_m ?_
            refine RW_m ?_
            refine RW_l (Yl_indexN (b := g) (off := 0) (i := kk) (o' := kk * 28) rfl rfl sl_25 om_ om_) ?_
            refine RW_l (Yl_field rfl fo_43_2) ?_
            refine RW_h (Yh_load (v := .slice (some ⟨x1.b.getD 0, 0, none⟩) x1.nd.data.length x1.cap) rfl sc_23 mem_ (by rw [nms_cell _ _ _ 2 hkn om_, hx, ← hxsl]; rfl)) ?_
            refine RW_fx rfl rfl rfl (Fx_app (xs := []) (r := []) (news := bys x1.nd.data) (lx := bys x1.nd.data ++ x1.rest) (T := 5) (fz := (0, 0)) (n := 0) (cap := 0) (offx := 0) (m := x1.nd.data.length) (z0 := .int .u8 0) (q := 1) rfl rfl sl_23 by_5 ze_5 rfl rfl (by repeat (first | exact List.mem_append_left _ hxm1 | apply List.mem_cons_of_mem)) (.here _ _) rfl rfl (by rw [List.drop_zero, Nat.mul_one, List.take_append_of_le_length (by simp), List.take_of_length_le (by simp)]) (by simp) (one_map one_bv _) om_ om_ om_) ?_
            rintro _ _ ⟨bw, cw, rw, rfl, hlw, rfl⟩
            simp only [Nat.zero_add, List.nil_append] at hlw ⊢
            refine RW_a ?_
            refine RW_lv (ks := [2, 3, 5, 6, 15, 16, 17, 18, 20]) ?_
            refine CW_seq ?_
            have hcw : x1.nd.data.length ≤ cw := by simp at hlw; omega
            rcases hS with hS | ⟨bS, oS, lS, TS, fS, rfl, hmS, hbS⟩
            ·omega
            refine CW_region ?_
            refine RW_fx rfl rfl rfl (Fx_buildSlice0 sl_51) ?_
            rintro _ _ ⟨gs0, rfl, rfl⟩
            refine RW_a ?_
            refine RW_lv (ks := [2, 3, 5, 6, 15, 16, 17, 18, 20, 21]) ?_
            refine CW_sr ?_
            refine RW_a ?_
            refine RW_lv (ks := [2, 3, 5, 6, 15, 16, 17, 18, 20, 21, 22]) ?_
            refine CW_seq ?_
            refine CW_sr ?_
            refine RW_m ?_
            refine RW_l (Yl_len rfl sl_61) ?_
            refine RW_m ?_
            refine RW_lv (ks := [2, 3, 6, 15, 16, 17, 18, 20, 21, 22, 111, 112, 113]) ?_
            refine CW_block ?_
            refine CW_lp (σ := Nat × List Wr × Nat × Nat × List Value) (fun q => [(2, .bool four), (3, .int .u8 (st : Int)), (6, .slice (some ⟨bS, oS, none⟩) nS cS), (15, .slice (some ⟨g, 0, none⟩) ns.length cap), (16, .slice (some ⟨gI, 0, none⟩) (nmF4 four ns) (nmF4 four ns)), (17, nv en), (18, nv kk), (20, .slice (some ⟨bw, 0, none⟩) x1.nd.data.length cw), (21, .slice (some ⟨q.2.2.1, 0, none⟩) q.2.1.length q.2.2.2.1), (22, nv (posW q.2.1)), (111, .slice pA nA cA), (112, nv nA), (113, nv q.1)]) (fun q => (q.2.2.1, blk ((q.2.1.map Wr.st).flatten ++ q.2.2.2.2) 53) :: (bw, blk (bys (datW x1.nd.data q.2.1) ++ rw) 5) :: (g, blk (nms ns ++ rn) 43) :: (2, blk ps T) :: (0, Obj.cells [Value.iface U u].toArray T0 fz0) :: (gI, blk (bys (wrF4 four st ns)) 5) :: (q.2.1.map Wr.bk ++ (nmsH ns ++ (D ++ F)))) (fun q => q.1 ≤ nA ∧ q.2.1.length ≤ q.1 ∧ OkW x1.nd.data.length q.2.1 ∧ ((q.2.1.map Wr.st).flatten ++ q.2.2.2.2).length = q.2.2.2.1 * 5) (fun q => nA - q.1) (0, [], gs0, 0, []) ⟨Nat.zero_le _, Nat.zero_le _, (fun i hi => absurd hi (Nat.not_lt_zero _)), rfl⟩ ?_
            rintro ⟨j, ws, gs, cs, rs0⟩ ⟨hj, hwj, hok2, hlen⟩
            simp only at hj hwj hok2 hlen ⊢
            refine CW_sr ?_
            refine RW_l (Yl_lss rfl rfl) ?_
            refine RW_lv (ks := [2, 3, 6, 15, 16, 17, 18, 20, 21, 22, 111, 112, 113, 114]) ?_
            refine CW_seq ?_
            refine CW_cond rfl (fun hc12 => ?_) (fun hc12 => ?_)
            ·replace hc12 := of_decide_eq_true hc12
             refine (CW_skip (QW_lv (ks := [2, 3, 6, 15, 16, 17, 18, 20, 21, 22, 111, 112, 113]) ?_))
             refine CW_seq ?_
             refine CW_block ?_
             refine CW_seq ?_
             rcases hA with hA | ⟨bA, oA, lA, TA, fA, rfl, hmA, hzA⟩
             ·rw [hA] at hzl; simp at hzl; omega
             have hz1 := (hzA j om_).1
             have hz2 : (zs.getD j 0 % x1.nd.data.length) < x1.nd.data.length := Nat.mod_lt _ hpos
             refine CW_region ?_
             refine RW_m ?_
             refine RW_l (Yl_indexN (b := bA) (off := oA) (i := j) (o' := oA + j) rfl rfl sl_61 om_ om_) ?_
             refine RW_h (Yh_load (v := .int .u16 ((zs.getD j 0 : Nat) : Int)) rfl sc_47 (List.mem_cons_of_mem _ (List.mem_cons_of_mem _ (List.mem_cons_of_mem _ (mem_pre2 hmA)))) (hzA j om_).2) ?_
             refine RW_a ?_
             refine RW_a ?_
             refine RW_lv (ks := [2, 3, 6, 15, 16, 17, 18, 20, 21, 22, 23, 24, 111, 112, 113]) ?_
             refine CW_sr ?_
             refine RW_m ?_
             refine RW_l (Yl_conv (c := ((zs.getD j 0 : Nat) : Int)) rfl in_47 in_3 (wi64 om_ om_)) ?_
             refine RW_m ?_
             refine RW_l (Yl_len rfl sl_23) ?_
             refine RW_l (Yl_rem (c := (((zs.getD j 0 % x1.nd.data.length) : Nat) : Int)) rfl rfl om_ (remN (zs.getD j 0) x1.nd.data.length)) ?_
             refine RW_a ?_
             refine RW_lv (ks := [2, 3, 6, 15, 16, 17, 18, 20, 21, 22, 23, 24, 25, 111, 112, 113]) ?_
             refine CW_sr ?_
             refine RW_m ?_
             refine RW_l (Yl_build (cs := [nv 4, nv 0, nv (zs.getD j 0 % x1.nd.data.length), nv 0, .slice none 0 0]) pl_53 ze_53 rfl rfl) ?_
             refine RW_fx rfl rfl rfl (Fx_alloc (zs := zs_53) ze_53 rfl) ?_
             rintro _ _ ⟨b26, rfl, rfl⟩
             refine RW_fx0 rfl rfl (Fx_storeA (b := b26) (off := 0) (l := zs_53) (T := 53) (cs := [nv 4, nv 0, nv (zs.getD j 0 % x1.nd.data.length), nv 0, .slice none 0 0]) rfl rfl sz_53 (by intro u hu; simp only [List.mem_cons, List.not_mem_nil, or_false] at hu; rcases hu with rfl | rfl | rfl | rfl | rfl <;> rfl) rep_ (Nat.le_refl 5)) ?_
             rintro _ _ rfl
             rw [spl_full _ _ (by rfl)]
             refine RW_lv (ks := [2, 3, 6, 15, 16, 17, 18, 20, 21, 22, 23, 24, 25, 26, 111, 112, 113]) ?_
             refine CW_cut (σ := Bool × Nat) (fun q => [(2, .bool four), (3, .int .u8 (st : Int)), (6, .slice (some ⟨bS, oS, none⟩) nS cS), (15, .slice (some ⟨g, 0, none⟩) ns.length cap), (16, .slice (some ⟨gI, 0, none⟩) (nmF4 four ns) (nmF4 four ns)), (17, nv en), (18, nv kk), (20, .slice (some ⟨bw, 0, none⟩) x1.nd.data.length cw), (21, .slice (some ⟨gs, 0, none⟩) ws.length cs), (22, nv (posW ws)), (23, nv j), (24, .int .u16 ((zs.getD j 0 : Nat) : Int)), (25, nv q.2), (26, pv b26), (111, .slice (some ⟨bA, oA, none⟩) nA cA), (112, nv nA), (113, nv j)]) (fun q => (b26, blk ([nv (if q.1 then 3 else 4), nv 0, nv (if q.1 then 0 else q.2), nv 0, .slice none 0 0]) 53) :: (gs, blk ((ws.map Wr.st).flatten ++ rs0) 53) :: (bw, blk (bys (datW x1.nd.data ws) ++ rw) 5) :: (g, blk (nms ns ++ rn) 43) :: (2, blk ps T) :: (0, Obj.cells [Value.iface U u].toArray T0 fz0) :: (gI, blk (bys (wrF4 four st ns)) 5) :: (ws.map Wr.bk ++ (nmsH ns ++ (D ++ F)))) (fun q => q.2 < x1.nd.data.length ∧ (q.1 = true → q.2 = posW ws)) ?_ ?_
             ·skip
              refine CW_sr ?_
              refine RW_m ?_
              refine RW_l (Yl_rem (c := ((j % 2 : Nat) : Int)) rfl rfl om_ (remN j 2)) ?_
              refine RW_l (Yl_eql rfl rfl) ?_
              refine RW_lv (ks := [2, 3, 6, 15, 16, 17, 18, 20, 21, 22, 23, 24, 25, 26, 111, 112, 113, 127]) ?_
              refine CW_cond rfl (fun hc13 => ?_) (fun hc13 => ?_)
              ·replace hc13 := of_decide_eq_true hc13
               refine CW_seq ?_
               refine CW_sr ?_
               refine RW_m ?_
               refine RW_m ?_
               refine RW_l (Yl_len rfl sl_23) ?_
               refine RW_l (Yl_geq rfl rfl) ?_
               refine RW_lv (ks := [2, 3, 6, 15, 16, 17, 18, 20, 21, 22, 23, 24, 26, 111, 112, 113, 131]) ?_
               refine CW_cond rfl (fun hc14 => ?_) (fun hc14 => ?_)
               ·replace hc14 := of_decide_eq_true hc14
                refine CW_exit ?_
                refine QW_exit_then ?_
                refine QW_exit_then ?_
                refine QW_exit_block ?_
                refine (QW_lv (ks := [2, 3, 6, 15, 16, 17, 18, 20, 21, 22, 111, 112, 113]) ?_)
                refine CW_region ?_
                refine RW_l (Yl_add (c := ((j + 1 : Nat) : Int)) rfl rfl (wi64 om_ om_)) ?_
                refine RW_m ?_
                refine RW_nil ?_
                refine QW_dropB (e := (b26, _)) rem_ ?_
                first
                 | (rw [flat_wr ws (⟨k3, a, d, g27, c27, r27⟩ : Wr), show spl a d (datW x1.nd.data ws) = datW x1.nd.data (ws ++ [(⟨k3, a, d, g27, c27, r27⟩ : Wr)]) from (datW_snoc _ _ (⟨k3, a, d, g27, c27, r27⟩ : Wr)).symm]; rw [flat_wr ws (⟨k3, a, d, g27, c27, r27⟩ : Wr)] at hlen'; exact QW_round (j + 1, ws ++ [(⟨k3, a, d, g27, c27, r27⟩ : Wr)], gs', cs', rs') ⟨by simp only; omega, by simp only [List.length_append, List.length_singleton]; omega, hok3, hlen'⟩ (by simp only; omega) (by repeat (first | exact Prm.nil _ | exact Rem.here _ _ | apply Rem.there | apply Prm.cons)) (.cons rfl (.cons rfl (.cons rfl (.cons rfl (.cons rfl (.cons rfl (.cons rfl (.cons rfl (.cons (by rw [List.length_append]; rfl) (.cons (by rw [posW_snoc]; rfl) (.cons rfl (.cons rfl (.cons rfl .nil))))))))))))))
                 | exact QW_round (j + 1, ws, gs, cs, rs0) ⟨by simp only; omega, by simp only; omega, hok2, hlen⟩ (by simp only; omega) (by repeat (first | exact Prm.nil _ | exact Rem.here _ _ | apply Rem.there | apply Prm.cons)) (.cons rfl (.cons rfl (.cons rfl (.cons rfl (.cons rfl (.cons rfl (.cons rfl (.cons rfl (.cons rfl (.cons rfl (.cons rfl (.cons rfl (.cons rfl .nil)))))))))))))
               ·replace hc14 := of_decide_eq_false hc14
                refine (CW_skip (QW_lv (ks := [2, 3, 6, 15, 16, 17, 18, 20, 21, 22, 23, 24, 26, 111, 112, 113]) ?_))
                refine CW_region ?_
                refine RW_l (Yl_build (cs := [nv 3, nv 0, nv 0, nv 0, .slice none 0 0]) pl_53 ze_53 rfl rfl) ?_
                refine RW_m ?_
                refine RW_fx0 rfl rfl (Fx_storeA (b := b26) (off := 0) (l := [nv 4, nv 0, nv (zs.getD j 0 % x1.nd.data.length), nv 0, .slice none 0 0]) (T := 53) (cs := [nv 3, nv 0, nv 0, nv 0, .slice none 0 0]) rfl rfl sz_53 (by intro u hu; simp only [List.mem_cons, List.not_mem_nil, or_false] at hu; rcases hu with rfl | rfl | rfl | rfl | rfl <;> rfl) rep_ (Nat.le_refl 5)) ?_
                rintro _ _ rfl
                rw [spl_full _ _ (by rfl)]
                refine RW_a ?_
                refine RW_nil ?_
                first
                 | exact QW_cut (true, posW ws) ⟨by simp only; omega, fun _ => rfl⟩ (by repeat (first | exact Prm.nil _ | exact Rem.here _ _ | apply Rem.there | apply Prm.cons)) (.cons rfl (.cons rfl (.cons rfl (.cons rfl (.cons rfl (.cons rfl (.cons rfl (.cons rfl (.cons rfl (.cons rfl (.cons rfl (.cons rfl (.cons rfl (.cons rfl (.cons rfl (.cons rfl (.cons rfl .nil)))))))))))))))))
                 | exact QW_cut (false, (zs.getD j 0 % x1.nd.data.length)) ⟨hz2, fun h => by cases h⟩ (by repeat (first | exact Prm.nil _ | exact Rem.here _ _ | apply Rem.there | apply Prm.cons)) (.cons rfl (.cons rfl (.cons rfl (.cons rfl (.cons rfl (.cons rfl (.cons rfl (.cons rfl (.cons rfl (.cons rfl (.cons rfl (.cons rfl (.cons rfl (.cons rfl (.cons rfl (.cons rfl (.cons rfl .nil)))))))))))))))))
              ·replace hc13 := of_decide_eq_false hc13
               refine CW_skip ?_
               first
                | exact QW_cut (true, posW ws) ⟨by simp only; omega, fun _ => rfl⟩ (by repeat (first | exact Prm.nil _ | exact Rem.here _ _ | apply Rem.there | apply Prm.cons)) (.cons rfl (.cons rfl (.cons rfl (.cons rfl (.cons rfl (.cons rfl (.cons rfl (.cons rfl (.cons rfl (.cons rfl (.cons rfl (.cons rfl (.cons rfl (.cons rfl (.cons rfl (.cons rfl (.cons rfl .nil)))))))))))))))))
                | exact QW_cut (false, (zs.getD j 0 % x1.nd.data.length)) ⟨hz2, fun h => by cases h⟩ (by repeat (first | exact Prm.nil _ | exact Rem.here _ _ | apply Rem.there | apply Prm.cons)) (.cons rfl (.cons rfl (.cons rfl (.cons rfl (.cons rfl (.cons rfl (.cons rfl (.cons rfl (.cons rfl (.cons rfl (.cons rfl (.cons rfl (.cons rfl (.cons rfl (.cons rfl (.cons rfl (.cons rfl .nil)))))))))))))))))
             ·rintro ⟨k3, a⟩ ⟨ha, hk3⟩
              simp only at ha hk3 ⊢
              refine CW_sr ?_
              refine RW_fx rfl rfl rfl (Fx_buildSlice0 sl_23) ?_
              rintro _ _ ⟨g0, rfl, rfl⟩
              refine RW_a ?_
              refine RW_lv (ks := [2, 3, 6, 15, 16, 17, 18, 20, 21, 22, 23, 24, 25, 26, 27, 111, 112, 113]) ?_
              refine CW_seq ?_
              refine CW_sr ?_
              refine RW_m ?_
              refine RW_l (Yl_len rfl sl_23) ?_
              refine RW_m ?_
              refine RW_l (Yl_sub (c := ((x1.nd.data.length - a : Nat) : Int)) rfl rfl (by rw [wi64 om_ om_]; omega)) ?_
              refine RW_m ?_
              refine RW_l (Yl_shr (c := ((zs.getD j 0 / 8 : Nat) : Int)) rfl rfl om_ shr3) ?_
              refine RW_l (Yl_conv (c := ((zs.getD j 0 / 8 : Nat) : Int)) rfl in_47 in_3 (wi64 om_ om_)) ?_
              refine RW_l (Yl_rem (c := ((zs.getD j 0 / 8 % 150 : Nat) : Int)) rfl rfl om_ (remN (zs.getD j 0 / 8) 150)) ?_
              refine RW_l (Yl_add (c := ((1 + zs.getD j 0 / 8 % 150 : Nat) : Int)) rfl rfl (wi64 om_ om_)) ?_
              refine RW_l (Yl_minN (m := x1.nd.data.length - a) (n := 1 + zs.getD j 0 / 8 % 150) rfl rfl) ?_
              refine RW_m ?_
              refine RW_lv (ks := [2, 3, 6, 15, 16, 17, 18, 20, 21, 22, 23, 25, 26, 27, 111, 112, 113, 144, 145]) ?_
              refine CW_block ?_
              refine CW_lp (σ := Nat × List UInt8 × Nat × Nat × List Value) (fun q => [(2, .bool four), (3, .int .u8 (st : Int)), (6, .slice (some ⟨bS, oS, none⟩) nS cS), (15, .slice (some ⟨g, 0, none⟩) ns.length cap), (16, .slice (some ⟨gI, 0, none⟩) (nmF4 four ns) (nmF4 four ns)), (17, nv en), (18, nv kk), (20, .slice (some ⟨bw, 0, none⟩) x1.nd.data.length cw), (21, .slice (some ⟨gs, 0, none⟩) ws.length cs), (22, nv (posW ws)), (23, nv j), (25, nv a), (26, pv b26), (27, .slice (some ⟨q.2.2.1, 0, none⟩) q.1 q.2.2.2.1), (111, .slice (some ⟨bA, oA, none⟩) nA cA), (112, nv nA), (113, nv j), (144, nv (min (x1.nd.data.length - a) (1 + zs.getD j 0 / 8 % 150))), (145, nv q.1)]) (fun q => (q.2.2.1, blk (bys q.2.1 ++ q.2.2.2.2) 5) :: (b26, blk ([nv (if k3 then 3 else 4), nv 0, nv (if k3 then 0 else a), nv 0, .slice none 0 0]) 53) :: (gs, blk ((ws.map Wr.st).flatten ++ rs0) 53) :: (bw, blk (bys (datW x1.nd.data ws) ++ rw) 5) :: (g, blk (nms ns ++ rn) 43) :: (2, blk ps T) :: (0, Obj.cells [Value.iface U u].toArray T0 fz0) :: (gI, blk (bys (wrF4 four st ns)) 5) :: (ws.map Wr.bk ++ (nmsH ns ++ (D ++ F)))) (fun q => q.1 ≤ (min (x1.nd.data.length - a) (1 + zs.getD j 0 / 8 % 150)) ∧ q.2.1.length = q.1 ∧ (bys q.2.1 ++ q.2.2.2.2).length = q.2.2.2.1 * 1) (fun q => (min (x1.nd.data.length - a) (1 + zs.getD j 0 / 8 % 150)) - q.1) (0, [], g0, 0, []) ⟨Nat.zero_le _, rfl, rfl⟩ ?_
              rintro ⟨i, d, g27, c27, r27⟩ ⟨hi, hdl, hl27⟩
              simp only at hi hdl hl27 ⊢
              refine CW_sr ?_
              refine RW_l (Yl_lss rfl rfl) ?_
              refine RW_lv (ks := [2, 3, 6, 15, 16, 17, 18, 20, 21, 22, 23, 25, 26, 27, 111, 112, 113, 144, 145, 146]) ?_
              refine CW_seq ?_
              refine CW_cond rfl (fun hc15 => ?_) (fun hc15 => ?_)
              ·replace hc15 := of_decide_eq_true hc15
               refine (CW_skip (QW_lv (ks := [2, 3, 6, 15, 16, 17, 18, 20, 21, 22, 23, 25, 26, 27, 111, 112, 113, 144, 145]) ?_))
               refine CW_seq ?_
               refine CW_block ?_
               refine CW_sr ?_
               refine RW_m ?_
               refine RW_a ?_
               refine RW_lv (ks := [2, 3, 6, 15, 16, 17, 18, 20, 21, 22, 23, 25, 26, 27, 28, 111, 112, 113, 144, 145]) ?_
               have hix : (i + j) % nS < nS := Nat.mod_lt _ om_
               obtain ⟨xb, hxb2⟩ := hbS ((i + j) % nS) hix
               obtain ⟨y1, hy1⟩ := wrap_byte (i : Int)
               obtain ⟨y2, hy2⟩ := wrap_byte ((xb.toNat : Int) + (y1.toNat : Int))
               refine CW_region ?_
               refine RW_m ?_
               refine RW_m ?_
               refine RW_m ?_
               refine RW_m ?_
               refine RW_l (Yl_add (c := ((i + j : Nat) : Int)) rfl rfl (wi64 om_ om_)) ?_
               refine RW_m ?_
               refine RW_l (Yl_len rfl sl_23) ?_
               refine RW_l (Yl_rem (c := (((i + j) % nS : Nat) : Int)) rfl rfl om_ (remN (i + j) nS)) ?_
               refine RW_l (Yl_indexN (b := bS) (off := oS) (i := (i + j) % nS) (o' := oS + (i + j) % nS) rfl rfl sl_23 hix om_) ?_
               refine RW_h (Yh_load (v := bv xb) rfl sc_5 (List.mem_cons_of_mem _ (List.mem_cons_of_mem _ (List.mem_cons_of_mem _ (List.mem_cons_of_mem _ (List.mem_cons_of_mem _ (mem_pre2 hmS)))))) hxb2) ?_
               refine RW_m ?_
               refine RW_l (Yl_conv (c := (y1.toNat : Int)) rfl in_3 in_5 hy1) ?_
               refine RW_l (Yl_add (c := (y2.toNat : Int)) rfl rfl hy2) ?_
               refine RW_fx rfl rfl rfl (Fx_litS (vs := [bv y2]) sl_23 ze_5 rfl rfl rfl rfl rfl) ?_
               rintro _ _ ⟨b161, rfl, rfl⟩
               refine RW_fx rfl rfl rfl (Fx_appT (xs := bys d) (r := r27) (news := [bv y2]) (T := 5) (n := i) (cap := c27) (m := 1) (c := 1) (z0 := .int .u8 0) (q := 1) rfl rfl sl_23 by_5 ze_5 rfl rfl (.here _ _) rem_ hl27 (by simp; omega) rfl (by intro u hu; rw [List.mem_singleton.1 hu]; rfl) om_ om_ om_) ?_
               rintro _ _ ⟨g', c', r', rfl, hl', rfl⟩
               refine RW_a ?_
               refine RW_nil ?_
               refine QW_normal_block ?_
               refine (QW_lv (ks := [2, 3, 6, 15, 16, 17, 18, 20, 21, 22, 23, 25, 26, 27, 111, 112, 113, 144, 145]) ?_)
               refine CW_region ?_
               refine RW_l (Yl_add (c := ((i + 1 : Nat) : Int)) rfl rfl (wi64 om_ om_)) ?_
               refine RW_m ?_
               refine RW_nil ?_
               rw [bys_snoc]
               rw [bys_snoc] at hl'
               exact QW_rn (i + 1, d ++ [y2], g', c', r') ⟨by simp only; omega, by simp only [List.length_append, List.length_singleton]; omega, hl'⟩ (by simp only; omega)
              ·replace hc15 := of_decide_eq_false hc15
               refine CW_exit ?_
               refine QW_exit_then ?_
               refine QW_exit_then ?_
               refine QW_exit_block ?_
               refine (QW_lv (ks := [2, 3, 6, 15, 16, 17, 18, 20, 21, 22, 25, 26, 27, 111, 112, 113]) ?_)
               refine CW_seq ?_
               have hin : i = (min (x1.nd.data.length - a) (1 + zs.getD j 0 / 8 % 150)) := by omega
               subst hdl
               refine CW_region ?_
               refine RW_m ?_
               refine RW_l (Yl_field rfl fo_53_4) ?_
               refine RW_fx0 rfl rfl (Fx_store (v := .slice (some ⟨g27, 0, none⟩) d.length c27) rfl rfl sz_23 rfl rep_ (by show 4 < 5; omega)) ?_
               rintro _ _ rfl
               refine RW_lv (ks := [2, 3, 6, 15, 16, 17, 18, 20, 21, 22, 25, 26, 27, 111, 112, 113]) ?_
               refine CW_seq ?_
               have hDw : (datW x1.nd.data ws).length = x1.nd.data.length := by have := hok2.dat rfl ws.length (Nat.le_refl _); rwa [List.take_length] at this
               have hcp : ((bys d ++ r27).drop 0).take (min d.length (x1.nd.data.length - a) * 1) = bys d := by
                rw [Nat.min_eq_left om_, Nat.mul_one, List.drop_zero, List.take_append_of_le_length (by simp), List.take_of_length_le (by simp)]
               have hsp : spl a (bys d) (bys (datW x1.nd.data ws) ++ rw) = bys (spl a d (datW x1.nd.data ws)) ++ rw := by
                rw [spl_left (by simp; omega)]
                simp [spl, bys]
               refine CW_region ?_
               refine RW_m ?_
               refine RW_m ?_
               refine RW_l (Yl_cutLL (l := a) (o' := a) (m' := x1.nd.data.length - a) (c' := cw - a) rfl rfl sl_23 om_ om_ om_ rfl rfl) ?_
               refine RW_m ?_
               refine RW_fx rfl rfl rfl (Fx_copy (b := bw) (m := x1.nd.data.length - a) (ms := d.length) (offs := 0) (off := a) (l := bys (datW x1.nd.data ws) ++ rw) (ls := bys d ++ r27) rfl rfl sl_23 mem_ (by simp; omega) rep_ (by simp; omega) (by rw [hcp]; exact one_map one_bv _)) ?_
               rintro _ _ ⟨rfl, rfl⟩
               rw [hcp, hsp]
               refine RW_lv (ks := [2, 3, 6, 15, 16, 17, 18, 20, 21, 22, 26, 27, 111, 112, 113]) ?_
               refine CW_cut (σ := Unit) (fun _ => [(2, .bool four), (3, .int .u8 (st : Int)), (6, .slice (some ⟨bS, oS, none⟩) nS cS), (15, .slice (some ⟨g, 0, none⟩) ns.length cap), (16, .slice (some ⟨gI, 0, none⟩) (nmF4 four ns) (nmF4 four ns)), (17, nv en), (18, nv kk), (20, .slice (some ⟨bw, 0, none⟩) x1.nd.data.length cw), (21, .slice (some ⟨gs, 0, none⟩) ws.length cs), (22, nv (posW ws + if k3 then d.length else 0)), (26, pv b26), (111, .slice (some ⟨bA, oA, none⟩) nA cA), (112, nv nA), (113, nv j)]) (fun _ => (g27, blk (bys d ++ r27) 5) :: (b26, blk ((⟨k3, a, d, g27, c27, r27⟩ : Wr).st) 53) :: (gs, blk ((ws.map Wr.st).flatten ++ rs0) 53) :: (bw, blk (bys (spl a d (datW x1.nd.data ws)) ++ rw) 5) :: (g, blk (nms ns ++ rn) 43) :: (2, blk ps T) :: (0, Obj.cells [Value.iface U u].toArray T0 fz0) :: (gI, blk (bys (wrF4 four st ns)) 5) :: (ws.map Wr.bk ++ (nmsH ns ++ (D ++ F)))) (fun _ => True) ?_ ?_
               ·skip
                refine CW_sr ?_
                refine RW_l (Yl_field rfl fo_53_0) ?_
                refine RW_h (Yh_ld (v := nv (if k3 then 3 else 4)) sc_3) ?_
                refine RW_l (Yl_eqlB k3 rfl rfl (by cases k3 <;> rfl)) ?_
                refine RW_lv (ks := [2, 3, 6, 15, 16, 17, 18, 20, 21, 22, 26, 27, 111, 112, 113, 173]) ?_
                refine CW_cond rfl (fun hc16 => ?_) (fun hc16 => ?_)
                ·skip
                 obtain rfl : k3 = true := hc16
                 have hak := hk3 rfl
                 refine CW_region ?_
                 refine RW_m ?_
                 refine RW_m ?_
                 refine RW_l (Yl_len rfl sl_23) ?_
                 refine RW_l (Yl_add (c := ((posW ws + d.length : Nat) : Int)) rfl rfl (wi64 om_ om_)) ?_
                 refine RW_a ?_
                 refine RW_nil ?_
                 exact QW_cu () trivial
                ·skip
                 obtain rfl : k3 = false := hc16
                 refine CW_skip ?_
                 exact QW_cu () trivial
               ·rintro ⟨⟩ -
                refine CW_heap (p_db (⟨k3, a, d, g27, c27, r27⟩ : Wr) ws _ _ _ _ _ _ _ _) ?_
                have hok3 : OkW x1.nd.data.length (ws ++ [(⟨k3, a, d, g27, c27, r27⟩ : Wr)]) := hok2.snoc (by show 0 < d.length; omega) (by show a + d.length ≤ _; omega) (by show d.length ≤ _; omega) hk3
                refine CW_region ?_
                refine RW_m ?_
                refine RW_h (Yh_loadAll (b := b26) (k := 5) (T := 53) (fz := (0, 0)) (l := (⟨k3, a, d, g27, c27, r27⟩ : Wr).st) rfl ag_53 mem_ rfl) ?_
                refine RW_fx rfl rfl rfl (Fx_lit (vs := [.agg (⟨k3, a, d, g27, c27, r27⟩ : Wr).st.toArray]) (css := [(⟨k3, a, d, g27, c27, r27⟩ : Wr).st]) (cs := (⟨k3, a, d, g27, c27, r27⟩ : Wr).st) sl_51 ze_53 rfl rfl rfl rfl rfl (by intro c hc; rw [List.mem_singleton.1 hc]; rfl) (by simp)) ?_
                rintro _ _ ⟨b180, rfl, rfl⟩
                refine RW_fx rfl rfl rfl (Fx_appTG (xs := (ws.map Wr.st).flatten) (r := rs0) (news := (⟨k3, a, d, g27, c27, r27⟩ : Wr).st) (T := 53) (n := ws.length) (cap := cs) (m := 1) (c := 1) rfl rfl sl_51 by_53 ze_53 rfl (.here _ _) rem_ hlen (len_wr ws) rfl (Wr.one5 _) om_ om_ om_) ?_
                rintro _ _ ⟨gs', cs', rs', rfl, hlen', rfl⟩
                refine RW_a ?_
                refine RW_nil ?_
                refine QW_normal_block ?_
                refine (QW_lv (ks := [2, 3, 6, 15, 16, 17, 18, 20, 21, 22, 111, 112, 113]) ?_)
                refine CW_region ?_
                refine RW_l (Yl_add (c := ((j + 1 : Nat) : Int)) rfl rfl (wi64 om_ om_)) ?_
                refine RW_m ?_
                refine RW_nil ?_
                refine QW_dropB (e := (b26, _)) rem_ ?_
                first
                 | (rw [flat_wr ws (⟨k3, a, d, g27, c27, r27⟩ : Wr), show spl a d (datW x1.nd.data ws) = datW x1.nd.data (ws ++ [(⟨k3, a, d, g27, c27, r27⟩ : Wr)]) from (datW_snoc _ _ (⟨k3, a, d, g27, c27, r27⟩ : Wr)).symm]; rw [flat_wr ws (⟨k3, a, d, g27, c27, r27⟩ : Wr)] at hlen'; exact QW_round (j + 1, ws ++ [(⟨k3, a, d, g27, c27, r27⟩ : Wr)], gs', cs', rs') ⟨by simp only; omega, by simp only [List.length_append, List.length_singleton]; omega, hok3, hlen'⟩ (by simp only; omega) (by repeat (first | exact Prm.nil _ | exact Rem.here _ _ | apply Rem.there | apply Prm.cons)) (.cons rfl (.cons rfl (.cons rfl (.cons rfl (.cons rfl (.cons rfl (.cons rfl (.cons rfl (.cons (by rw [List.length_append]; rfl) (.cons (by rw [posW_snoc]; rfl) (.cons rfl (.cons rfl (.cons rfl .nil))))))))))))))
                 | exact QW_round (j + 1, ws, gs, cs, rs0) ⟨by simp only; omega, by simp only; omega, hok2, hlen⟩ (by simp only; omega) (by repeat (first | exact Prm.nil _ | exact Rem.here _ _ | apply Rem.there | apply Prm.cons)) (.cons rfl (.cons rfl (.cons rfl (.cons rfl (.cons rfl (.cons rfl (.cons rfl (.cons rfl (.cons rfl (.cons rfl (.cons rfl (.cons rfl (.cons rfl .nil)))))))))))))
            ·replace hc12 := of_decide_eq_false hc12
             refine CW_exit ?_
             refine QW_exit_then ?_
             refine QW_exit_then ?_
             refine QW_exit_block ?_
             refine (QW_lv (ks := [2, 3, 15, 16, 17, 18, 20, 21]) ?_)
             refine CW_seq ?_
             have hst20 := Steps_wr (T := T) (four := four) (st := st) hp hno hok hbad hout om_ hN1 gI gs ws.length cs en kk he1 ws rs0 rfl om_ he2 hkk0 he3 (by rw [hx]; omega) (by rw [hx]; exact hok2)
             rw [hx] at hst20
             refine CW_region ?_
             refine RW_m ?_
             refine RW_m ?_
             refine RW_m ?_
             refine RW_fx rfl rfl rfl (Fx_call ok_20 (vs := [.slice (some ⟨gI, 0, none⟩) (nmF4 four ns) (nmF4 four ns), nv en, .slice (some ⟨gs, 0, none⟩) ws.length cs]) rfl (Pick.cons rem_ (Pick.cons rem_ (Pick.cons rem_ (pick_mid (ws.map Wr.bk) [_, _, _] _)))) hst20) ?_
             rintro _ _ ⟨_, ⟨gR, cR, rR, rs, b2, cap2, r2, rfl, hrsl, hoR, hall, rfl⟩, rfl⟩
             simp only [List.cons_append, List.append_assoc, List.nil_append]
             refine RW_m ?_
             refine RW_l (Yl_extract (v := osl gR ws.length cR) rfl rfl) ?_
             refine RW_l (Yl_extract (v := .slice (some ⟨b2, 0, none⟩) (nmF4 four ns) cap2) rfl rfl) ?_
             refine RW_l (Yl_extract (v := .bool true) rfl rfl) ?_
             refine RW_a ?_
             refine RW_a ?_
             refine RW_a ?_
             refine RW_lv (ks := [2, 3, 15, 18, 20, 21, 29, 30, 31]) ?_
             refine CW_seq ?_
             refine CW_sr ?_
             refine RW_m ?_
             refine RW_l (Yl_not rfl) ?_
             refine RW_m ?_
             refine RW_gy rfl rfl rfl (Yl.h (Yl_move rfl)) ?_
             refine RW_gy rfl rfl rfl (Yl.h (Yl_lenO rfl hoR sl_54)) ?_
             refine RW_gy rfl rfl rfl (Yl.h (Yl_move rfl)) ?_
             refine RW_gy rfl rfl rfl (Yl.h (Yl_len rfl sl_51)) ?_
             refine RW_gy rfl rfl rfl (Yl.h (Yl_neqB false rfl rfl (decide_eq_false (fun h => h rfl)))) ?_
             refine RW_l (Yl_pick_f rfl rfl) ?_
             refine RW_lv (ks := [2, 3, 15, 18, 20, 21, 29, 30, 199]) ?_
             refine CW_false rfl ?_
             refine (CW_skip (QW_lv (ks := [2, 3, 15, 18, 20, 21, 29, 30]) ?_))
             refine CW_seq ?_
             refine CW_seq ?_
             have hrs3 : ∀ y ∈ rs, y.length = 3 := by
              intro y hy
              obtain ⟨a, ha, rfl⟩ := List.mem_iff_getElem.1 hy
              have h1 := hall a om_
              rw [List.getD_eq_getElem?_getD, List.getElem?_eq_getElem ha] at h1
              rw [show rs[a] = _ from h1]; rfl
             refine CW_region ?_
             refine RW_m ?_
             refine RW_l (Yl_lenO rfl hoR sl_54) ?_
             refine RW_m ?_
             refine RW_lv (ks := [2, 3, 15, 18, 20, 21, 30, 200, 201, 202]) ?_
             refine CW_block ?_
             refine CW_lp (σ := Nat) (fun i => [(2, .bool four), (3, .int .u8 (st : Int)), (15, .slice (some ⟨g, 0, none⟩) ns.length cap), (18, nv kk), (20, .slice (some ⟨bw, 0, none⟩) x1.nd.data.length cw), (21, .slice (some ⟨gs, 0, none⟩) ws.length cs), (30, .slice (some ⟨b2, 0, none⟩) (nmF4 four ns) cap2), (200, osl gR ws.length cR), (201, nv ws.length), (202, nv i)]) (fun _ => (b2, blk (bys (wrD four st ns kk (datW x1.nd.data ws)) ++ r2) 5) :: (2, blk ps T) :: (gI, blk (bys (wrF4 four st ns)) 5) :: (gs, blk ((ws.map Wr.st).flatten ++ rs0) 53) :: (oH gR (rs.flatten ++ rR) 58 ++ ((bw, blk (bys (datW x1.nd.data ws) ++ rw) 5) :: (g, blk (nms ns ++ rn) 43) :: (0, Obj.cells [Value.iface U u].toArray T0 fz0) :: (nmsH ns ++ (D ++ F))))) (fun i => i ≤ ws.length) (fun i => ws.length - i) 0 (Nat.zero_le _) ?_
             rintro i hi
             refine CW_sr ?_
             refine RW_l (Yl_lss rfl rfl) ?_
             refine RW_lv (ks := [2, 3, 15, 18, 20, 21, 30, 200, 201, 202, 203]) ?_
             refine CW_seq ?_
             refine CW_cond rfl (fun hc17 => ?_) (fun hc17 => ?_)
             ·replace hc17 := of_decide_eq_true hc17
              refine (CW_skip (QW_lv (ks := [2, 3, 15, 18, 20, 21, 30, 200, 201, 202]) ?_))
              refine CW_seq ?_
              refine CW_block ?_
              refine CW_seq ?_
              rcases gR with _ | gR
              ·exact absurd hoR.1 om_
              simp only [List.cons_append, List.nil_append]
              refine CW_region ?_
              refine RW_m ?_
              refine RW_l (Yl_indexN (b := gR) (off := 0) (i := i) (o' := i * 3) rfl rfl sl_54 om_ om_) ?_
              refine RW_h (Yh_loadE (cs := [.slice none 0 0, nv (ws.getD i default).d.length, nv 0]) rfl ag_58 mem_ (by rw [List.length_append, hoR.2]; omega) (by rw [chunk_at 3 _ _ _ hrs3 om_]; exact hall i om_)) ?_
              refine RW_fx rfl rfl rfl (Fx_alloc (zs := zs_58) ze_58 rfl) ?_
              rintro _ _ ⟨b33, rfl, rfl⟩
              refine RW_a ?_
              refine RW_fx0 rfl rfl (Fx_storeA (b := b33) (off := 0) (l := zs_58) (T := 58) (cs := [.slice none 0 0, nv (ws.getD i default).d.length, nv 0]) rfl rfl sz_58 (by intro u hu; simp only [List.mem_cons, List.not_mem_nil, or_false] at hu; rcases hu with hu | hu | hu <;> rw [hu] <;> rfl) rep_ (Nat.le_refl 3)) ?_
              rintro _ _ rfl
              refine RW_lv (ks := [2, 3, 15, 18, 20, 21, 30, 32, 33, 200, 201, 202]) ?_
              refine CW_seq ?_
              refine CW_draw [] _ mixed (Sub.refl _) ?_
              refine RD_l 0 rfl (Yl_field rfl fo_58_2) ?_
              refine RD_h (i := 1) #[true, false, false, false, false, false, false, false, false, false, false, false, false, false] rfl rfl rfl rfl kr_ (fun _ _ _ h => h) (Yh_ld (v := nv 0) sc_3) ?_
              refine RD_l 2 rfl (Yl_neqB false rfl rfl (decide_eq_false (fun h => h rfl))) ?_
              refine RD_l 3 rfl (Yl_move rfl) ?_
              refine RD_l 4 rfl (Yl_field rfl fo_58_1) ?_
              refine RD_l 6 rfl (Yl_move rfl) ?_
              refine RD_l 7 rfl (Yl_move rfl) ?_
              refine RD_l 8 rfl (Yl_indexN (b := gs) (off := 0) (i := i) (o' := i * 5) rfl rfl sl_51 om_ om_) ?_
              refine RD_l 9 rfl (Yl_field rfl fo_53_4) ?_
              refine RD_h (i := 5) #[true, true, true, true, true, false, true, true, true, true, true, true, false, false] rfl rfl rfl rfl kr_ (fun _ _ _ h => h) (Yh_ld (v := nv (ws.getD i default).d.length) sc_2) ?_
              refine RD_h (i := 10) #[true, true, true, true, true, true, true, true, true, true, false, false, false, false] rfl rfl rfl rfl kr_ (fun _ _ _ h => h) (Yh_load (v := .slice (some ⟨(ws.getD i default).b, 0, none⟩) (ws.getD i default).d.length (ws.getD i default).cap) rfl sc_23 mem_ (by rw [chunk_cell 5 _ _ i 4 (wr_st5 ws) (by rw [List.length_map]; omega) om_ rfl, wr_at ws om_]; rfl)) ?_
              refine RD_l 11 rfl (Yl_len rfl sl_23) ?_
              refine RD_l 12 rfl (Yl_neqB false rfl rfl (decide_eq_false (fun h => h rfl))) ?_
              refine RD_l 13 rfl (Yl_pick_f rfl rfl) ?_
              refine (RD_done kr_ (QW_lv (ks := [2, 3, 15, 18, 20, 21, 30, 200, 201, 202, 220]) ?_))
              refine CW_false rfl ?_
              refine CW_skip ?_
              refine QW_normal_block ?_
              refine (QW_lv (ks := [2, 3, 15, 18, 20, 21, 30, 200, 201, 202]) ?_)
              refine CW_region ?_
              refine RW_l (Yl_add (c := ((i + 1 : Nat) : Int)) rfl rfl (wi64 om_ om_)) ?_
              refine RW_m ?_
              refine RW_nil ?_
              refine QW_dropB (e := (b33, _)) rem_ ?_
              exact QW_rn (i + 1) om_ om_
             ·replace hc17 := of_decide_eq_false hc17
              refine CW_exit ?_
              refine QW_exit_then ?_
              refine QW_exit_then ?_
              refine QW_exit_block ?_
              refine (QW_lv (ks := [2, 3, 15, 18, 20, 30]) ?_)
              refine CW_seq ?_
              refine CW_heap (p_lo _ _ _ _ _ _ _ _ _) ?_
              refine CW_region ?_
              refine RW_m ?_
              refine RW_m ?_
              refine RW_m ?_
              refine RW_l (Yl_indexN (b := g) (off := 0) (i := kk) (o' := kk * 28) rfl rfl sl_25 om_ om_) ?_
              refine RW_l (Yl_field rfl fo_43_2) ?_
              refine RW_fx0 rfl rfl (Fx_store (v := .slice (some ⟨bw, 0, none⟩) x1.nd.data.length cw) rfl rfl sz_23 rfl rep_ (by rw [List.length_append, length_nms]; omega)) ?_
              rintro _ _ rfl
              refine RW_lv (ks := [2, 3, 15, 30]) ?_
              refine CW_seq ?_
              have hDw : (datW x1.nd.data ws).length = x1.nd.data.length := by have := hok2.dat rfl ws.length (Nat.le_refl _); rwa [List.take_length] at this
              obtain ⟨ns2, hns2⟩ : ∃ l, l = ns.set kk ((ns.getD kk default).setData (datW x1.nd.data ws) (some bw) cw rw) := ⟨_, rfl⟩
              have hset : (nms ns ++ rn).set (kk * 28 + 2) (.slice (some ⟨bw, 0, none⟩) x1.nd.data.length cw) = nms ns2 ++ rn := by rw [hns2]; exact nms_set ns kk 2 _ _ rn hkn om_ (by rw [← hDw]; exact (cells_setData _ _ _ _ _).symm)
              rw [hset]
              have hmap : ns2.map Nm.nd = setD (ns.map Nm.nd) kk (datW x1.nd.data ws) := by rw [hns2]; exact set_nd hkn _ _ _ _
              have hxl : kk < (ns.map Nm.nd).length := by simpa using hkn
              have hdt : dtF (ns.map Nm.nd) kk = x1.nd.data := by unfold dtF; rw [nd_at ns kk hkn, hx]
              have hDx : (datW x1.nd.data ws).length = (dtF (ns.map Nm.nd) kk).length := by rw [hdt]; exact hDw
              have hnm : ∀ x ∈ ns.map Nm.nd, x.name.length ≤ 31 := nds_at ps hxs (hno.names hp)
              have hxs2 := ok_set hxs hxl hDx
              have hok4 : ∀ x ∈ ns2, x.ok := by rw [hns2]; exact set_ok hno.ok hkn (by rw [hx]; exact hDw) om_ rw
              have hw2 := write_ct g cap (verF four) st ns2 rn (setD (ns.map Nm.nd) kk (datW x1.nd.data ws)) hmap.symm hxs2 hok4 (by rcases verF_or four with e | e <;> omega) om_
              rw [show ns2.length = ns.length by rw [hns2, List.length_set], N_set hxl hDx] at hw2
              have hpm := nd_perm (ns := ns) (kk := kk) (x2 := (ns.getD kk default).setData (datW x1.nd.data ws) (some bw) cw rw) hkn rfl
              rw [← hns2, hx] at hpm
              refine CW_heap (p_nd hpm _ _ _ _ _ _ _ _ _) ?_
              have hwl : (wrD four st ns kk (datW x1.nd.data ws)).length = (nmF4 four ns) := by rw [length_writeF hxs2 (names_set hnm hxl hDx), N_set hxl hDx]
              have hbe : wrD four st ns kk (datW x1.nd.data ws) = writeF (verF four) st (setD (ns.map Nm.nd) kk (datW x1.nd.data ws)) := rfl
              refine CW_region ?_
              refine RW_m ?_
              refine RW_m ?_
              refine RW_m ?_
              refine RW_fx rfl rfl rfl (Fx_callQ ok_16 (vs := [.bool four]) (R := fun v => v = nv (verF four)) rfl (Pick.nil _) (versionOf_ct four)) ?_
              rintro _ _ ⟨rfl, rfl⟩
              refine RW_m ?_
              refine RW_l (Yl_conv (c := (st : Int)) rfl in_5 in_3 (wi64 om_ om_)) ?_
              refine RW_fx rfl rfl rfl (Fx_call ok_15 (vs := [.slice (some ⟨g, 0, none⟩) ns.length cap, nv (verF four), nv st]) rfl (Pick.cons (.here _ _) (pick_app (nmsH ns2) _)) hw2) ?_
              rintro _ _ ⟨_, ⟨g2, rfl, rfl⟩, rfl⟩
              simp only [List.cons_append]
              refine RW_fx rfl rfl rfl (Fx_callQ ok_21 (vs := [.slice (some ⟨b2, 0, none⟩) (nmF4 four ns) cap2, .slice (some ⟨g2, 0, none⟩) (nmF4 four ns) (nmF4 four ns)]) (R := fun v => v = .bool true) rfl (pick_all _) (same_by _ _ _ (wrD four st ns kk (datW x1.nd.data ws)) (by_blk hwl (List.mem_cons_of_mem _ (List.mem_cons_of_mem _ (List.mem_append_right _ (List.mem_cons_self ..))))) (by rw [← hbe]; exact by_blk (r := []) (by rw [hbe]; exact hwl) (by rw [List.append_nil]; exact List.mem_cons_self ..)))) ?_
              rintro _ _ ⟨rfl, rfl⟩
              refine RW_a ?_
              refine RW_lv (ks := [14]) ?_
              refine CW_ret ?_
              first
               | exact QW_ret1 rfl rfl ((2, blk ps T) :: (0, Obj.cells [Value.iface U u].toArray T0 fz0) :: D) ⟨rfl, rfl⟩ (Prm.nil _)
               | (refine QW_sub (H' := (2, blk ps T) :: (0, Obj.cells [Value.iface U u].toArray T0 fz0) :: (D ++ F)) (.cons _ (.cons_cons _ (.cons_cons _ (.cons _ (List.sublist_append_right _ _))))) ?_; exact QW_ret1 rfl rfl ((2, blk ps T) :: (0, Obj.cells [Value.iface U u].toArray T0 fz0) :: D) ⟨rfl, rfl⟩ (Prm.nil _))
               | (refine QW_sub (H' := (2, blk ps T) :: (0, Obj.cells [Value.iface U u].toArray T0 fz0) :: (D ++ F)) (.cons _ (.cons _ (List.Sublist.trans (.cons _ (.cons_cons _ (.cons_cons _ (.cons _ (.cons _ (List.sublist_append_right _ _)))))) (List.sublist_append_right _ _)))) ?_; exact QW_ret1 rfl rfl ((2, blk ps T) :: (0, Obj.cells [Value.iface U u].toArray T0 fz0) :: D) ⟨rfl, rfl⟩ (Prm.nil _))

end Go.Proofs.YtgoddcicbpjknaaDoor

/-! FnWrite, as its card states it: whatever the numbers, the bytes, the choice, the step, the turn, the places and the bytes to write, the call returns true and leaves all that was there as it was. -/
set_option maxRecDepth 100000
namespace Go.Proofs.YtgoddcicbpjknaaDoor.fnWrite
open Go
open Cfb
open Go.ChangeShapes Go.WideShapes Go.ChangeAt Go.RowKit Go.Clock
theorem contract (H : Type) (enc : TypeId × Value → H) (W : World) (base : Nat) (args : Array Value) (ds gs : List (DataW H)) (before : List MemPlace)
    (hval : ∀ (j : Nat) t v, Tryd.f10.params[j]? = some t → args[j]? = some v → Value.okWide Tryd.prog W .any base t v)
    (hW : DataW.Whole enc Tryd.prog Tryd.f10.params.toList Rows.fnWriteSpec.vars false W args.toList ds gs before) (hL : laidMetH Tryd.prog Rows.fnWriteRow.laid W) (hS : W.ShapedOpen Tryd.prog) :
    Calls Tryd.prog 10 args W fun e W' => ∃ v, e = .returned v ∧ W'.os = W.os ∧ Rows.fnWriteSpec.post enc Tryd.prog Tryd.f10 false true false false W args v W' := by
  have hW' := hW
  obtain ⟨p, q, hA0, hV, rfl, hfz, hnd⟩ := hW
  have hA : DataW.TrodAll enc Tryd.prog W 0 (fun _ => true) true Tryd.f10.params.toList args.toList ds p := hA0
  have hlt : ∀ x ∈ p, x.block < W.heap.size := fun x hx => by simpa using hW'.lt x (List.mem_append_left _ hx)
  have again := fun W' hb => trodAll_again (W' := W') hb _ _ _ _ hA (by rw [Tryd.params10]; kernel_rfl) hlt
  rw [Tryd.params10] at hA hval
  obtain ⟨v0, vs0, d0, ds0, p0, q0, hargs, rfl, rfl, h0, r0⟩ := trodAll_cons hA
  obtain ⟨v1, vs1, d1, ds1, p1, q1, rfl, rfl, rfl, h1, r1⟩ := trodAll_cons r0
  obtain ⟨v2, vs2, d2, ds2, p2, q2, rfl, rfl, rfl, h2, r2⟩ := trodAll_cons r1
  obtain ⟨v3, vs3, d3, ds3, p3, q3, rfl, rfl, rfl, h3, r3⟩ := trodAll_cons r2
  obtain ⟨v4, vs4, d4, ds4, p4, q4, rfl, rfl, rfl, h4, r4⟩ := trodAll_cons r3
  obtain ⟨v5, vs5, d5, ds5, p5, q5, rfl, rfl, rfl, h5, r5⟩ := trodAll_cons r4
  obtain ⟨v6, vs6, d6, ds6, p6, q6, rfl, rfl, rfl, h6, r6⟩ := trodAll_cons r5
  obtain ⟨rfl, rfl, rfl⟩ := trodAll_nil r6
  obtain rfl : args = #[v0, v1, v2, v3, v4, v5, v6] := by cases args; simp_all
  obtain ⟨rfl, rfl⟩ := trodVars_none hV
  obtain ⟨a2, rfl, rfl, rfl⟩ := open_bool Tryd.underlying4 (hval 2 4 v2 rfl rfl) h2
  obtain ⟨a3, rfl, rfl, rfl, w3⟩ := open_int Tryd.underlying5 (hval 3 5 v3 rfl rfl) h3
  obtain ⟨a4, rfl, rfl, rfl, w4⟩ := open_int Tryd.underlying5 (hval 4 5 v4 rfl rfl) h4
  obtain ⟨T, hT⟩ := tab_block (props_tab2 hL) hS
  obtain ⟨U, u, T0, hU, hE⟩ := eof_block hL hS
  obtain ⟨s0, n0, c0, rfl, hc0, hs0⟩ := open_nums un_22 un_67 cells67 (hval 0 22 v0 rfl rfl) h0
  obtain ⟨s1, n1, c1, rfl, hc1, hs1⟩ := open_bytes (hval 1 23 v1 rfl rfl) h1
  obtain ⟨x3, rfl, b3⟩ := u8_nat w3
  obtain ⟨x4, rfl, b4⟩ := u8_nat w4
  obtain ⟨s5, n5, c5, rfl, hc5, hs5⟩ := open_nums un_61 un_47 cells47 (hval 5 61 v5 rfl rfl) h5
  obtain ⟨s6, n6, c6, rfl, hc6, hs6⟩ := open_bytes (hval 6 23 v6 rfl rfl) h6
  have fin : Calls Tryd.prog 10 #[.slice s0 n0 c0, .slice s1 n1 c1, .bool a2, .int .u8 (x3 : Int), .int .u8 (x4 : Int), .slice s5 n5 c5, .slice s6 n6 c6] W fun e w' => e = .returned (.bool true) ∧ Grown W w' ∧ Below W.heap.size W w' := by
    obtain ⟨N1, y1, z1, k1⟩ := nums_end (W := W) (L := [(2, blk propsV T), (0, blk [.iface U u] T0)]) (by intro p hp; simp only [List.mem_cons, List.not_mem_nil, or_false] at hp; rcases hp with rfl | rfl; exact hT; exact hE) (by simp) hs0
    obtain ⟨N2, y2, z2, k2⟩ := bytes_end y1 z1 hs1
    obtain ⟨N3, zs, y3, z3, hzl, k3⟩ := u16s_end y2 z2 hs5
    obtain ⟨N4, y4, z4, k4⟩ := bytes_end y3 z3 hs6
    have e0 : ((([(2, blk propsV T), (0, blk [.iface U u] T0)] ++ N1) ++ N2) ++ N3) ++ N4 = (2, blk propsV T) :: (0, Obj.cells [Value.iface U u].toArray T0 (0, 0)) :: (((N1 ++ N2) ++ N3) ++ N4) := by simp
    have k1' := ((k1.mono (List.sublist_append_left _ N2)).mono (List.sublist_append_left _ N3)).mono (List.sublist_append_left _ N4)
    have k2' := k2.mono' (H' := ((([(2, blk propsV T), (0, blk [.iface U u] T0)] ++ N1) ++ N2) ++ N3) ++ N4) (fun x hx => List.mem_append_left _ (List.mem_append_left _ hx))
    have k3' := k3.mono' (H' := ((([(2, blk propsV T), (0, blk [.iface U u] T0)] ++ N1) ++ N2) ++ N3) ++ N4) (fun x hx => List.mem_append_left _ hx)
    rw [e0] at y4 z4 k4 k3' k2' k1'
    exact (FnWrite_ct n0 c0 n1 c1 x3 x4 s0 s1 a2 b3 b4 propsV T propsV_ok U u hU T0 (0, 0) (((N1 ++ N2) ++ N3) ++ N4) k1' k2' hc0 n5 c5 s5 zs hzl k3' n6 c6 s6 k4).rowB y4 z4
  refine fin.mono fun e W' ⟨he, hg, hb⟩ => ?_
  subst he
  exact ⟨_, rfl, hg.1.1, ⟨_, _, _, [], _, [], hW', trodAll_cons_mk (shut_bool Tryd.underlying4 _) trodAll_mk0, again W' hb, rfl, hg.frame _, fun h => by cases h⟩⟩
/-- A world for the witness. -/
noncomputable def laidWorld (os : Os) : World := World.laidAll Tryd.prog os Rows.fnWriteRow.laid
theorem laid_met (os : Os) : laidMet Tryd.prog Rows.fnWriteRow.laid ((laidWorld os).forCall (fun _ _ => 0) ⟨#[], #[.slice none 0 0, .slice none 0 0, .bool false, .int .u8 0, .int .u8 0, .slice none 0 0, .slice none 0 0], []⟩).memory := laidMet_laidAll _ kr_ kr_
theorem reads (os : Os) {H : Type} (enc : TypeId × Value → H) : ∃ places, DataW.whole enc Tryd.prog ((laidWorld os).forCall (fun _ _ => 0) ⟨#[], #[.slice none 0 0, .slice none 0 0, .bool false, .int .u8 0, .int .u8 0, .slice none 0 0, .slice none 0 0], []⟩).memory Tryd.f10.params.toList Rows.fnWriteSpec.vars false (#[.slice none 0 0, .slice none 0 0, .bool false, .int .u8 0, .int .u8 0, .slice none 0 0, .slice none 0 0] : Array Value).toList 8 = some ([.nil, .nil, .lit (.bool false), .lit (.int .u8 0), .lit (.int .u8 0), .nil, .nil], [], places) :=
  ⟨[], by kernel_rfl⟩
theorem lifted (os : Os) (started : os.Started) (H : Type) (enc : TypeId × Value → H) (F : Stop.Interp) :
    ReturnsInHanded {} Tryd.checked os 10 .any ((OpenSpec.ofChange Rows.fnWriteSpec).preRow enc Tryd.prog Tryd.f10 Rows.fnWriteRow.domain false Rows.fnWriteRow.laid) (((OpenSpec.ofChange Rows.fnWriteSpec).at F).post enc Tryd.prog Tryd.f10 false true false false) := by
  obtain ⟨places, hx⟩ := reads os enc
  refine returnsInHanded_of_row (C := Tryd.checked) (s := OpenSpec.ofChange Rows.fnWriteSpec) own started kr_ Tryd.func10
    (witness_row_at (enc := enc) (C := Tryd.checked) false (laidWorld os) #[.slice none 0 0, .slice none 0 0, .bool false, .int .u8 0, .int .u8 0, .slice none 0 0, .slice none 0 0] (World.laidAll_os _ _ _) (by kernel_rfl) (by kernel_rfl) (by kernel_rfl)
      (OpenSpec.preRow_of_cond 8 hx kr_ (fun k hk => by cases hk) kr_ (laid_met os))) ?_
  intro W base args ds gs before hval hW _ _ _ hL hS _
  exact (contract H enc W base args ds gs before hval hW hL hS).mono fun _ _ ⟨v, he, _, hp⟩ => ⟨v, he, hp⟩
/-- The same, where the row lets time pass. -/
theorem liftedT (os : Os) (started : os.Started) (H : Type) (enc : TypeId × Value → H) (F : Stop.Interp) :
    ReturnsInHanded { calm := true } Tryd.checked os 10 .any (fun w args => (Rows.fnWriteSpec.pre enc Tryd.prog Tryd.f10 [] false w args ∧ laidMetH Tryd.prog Rows.fnWriteRow.laid w) ∧ sizedMet enc Tryd.prog Tryd.f10 (OpenSpec.ofChange Rows.fnWriteSpec) false w args)
      ((OpenSpec.ofChange Rows.fnWriteSpec).postWith enc Tryd.prog Tryd.f10 F (outsideKept [.timePasses]) false true false) := by
  refine returns_of_change (C := Tryd.checked) (X := fun w _ => laidMetH Tryd.prog Rows.fnWriteRow.laid w) (fun _ _ _ hh h => h.of_heap hh) own started kr_ Tryd.func10
    (witness_at (enc := enc) (C := Tryd.checked) (X := fun w _ => laidMetH Tryd.prog Rows.fnWriteRow.laid w) (World.laidAll Tryd.prog os Rows.fnWriteRow.laid) #[.slice none 0 0, .slice none 0 0, .bool false, .int .u8 0, .int .u8 0, .slice none 0 0, .slice none 0 0] 8 (World.laidAll_os _ _ _) (World.shaped_of_ZipB (by kernel_rfl) (by kernel_rfl)) (by kernel_rfl) (by kernel_rfl) (by kernel_rfl)
      (by rw [MakeChecks.laidMetH_plain _ _ _ kr_]; exact laidMet_laidAll _ kr_ kr_)) ?_
  intro W base args ds gs before hval hW _ _ hL hS
  refine (contract H enc W base args ds gs before hval hW hL hS).mono ?_
  rintro e W' ⟨v, he, ho, hp⟩
  have hos : { W' with os := W.os } = W' := by rw [← ho]
  refine ⟨v, he, by rw [hos]; exact hp, by rw [ho]; exact Later.refl _⟩
theorem said : Rows.FnWriteSaid := by
  first
    | exact OpenClaim.holds_of_cond 10 Tryd.f10 rfl rfl rfl rfl rfl rfl rfl ⟨rfl, rfl, rfl, rfl, rfl⟩ rfl rfl rfl rfl rfl (by kernel_rfl) Tryd.func10 (by kernel_rfl)
        (of_decide_eq_true kr_) (by unfold Func.isWrapper; first | (rw [if_pos (by decide +kernel)]; kernel_rfl) | (rw [if_neg (by decide +kernel)]; exact ⟨rfl, rfl⟩))
        (fun os started H enc _ F => by rw [OpenClaim.pre_eq_preRow]; exact lifted os started H enc F)
    | exact holds_of_wide_time 10 Tryd.f10 rfl rfl rfl rfl rfl rfl rfl ⟨rfl, rfl, rfl, rfl, rfl⟩ rfl rfl rfl rfl rfl (by kernel_rfl) Tryd.func10 (by kernel_rfl)
        (of_decide_eq_true kr_) (by unfold Func.isWrapper; first | (rw [if_pos (by decide +kernel)]; kernel_rfl) | (rw [if_neg (by decide +kernel)]; exact ⟨rfl, rfl⟩))
        (fun os started H enc _ F => liftedT os started H enc F)
theorem plain (f : FuncId) (fn : Func) (hf : Tryd.pinned.checked.prog.funcNamed "loop.example/pub-g03453/laws.FnWrite" = some f) (hfn : Tryd.pinned.checked.prog.funcs[f]? = some fn) :
    true = Tryd.pinned.checked.prog.looks [] ∧ ∀ (j : Nat) t, fn.params[j]? = some t → Tryd.pinned.checked.prog.wantsStandIn t = false := by
  obtain rfl : f = 10 := Option.some.inj ((show Tryd.prog.funcNamed "loop.example/pub-g03453/laws.FnWrite" = some 10 by kernel_rfl).symm.trans hf) |>.symm
  obtain rfl : fn = Tryd.f10 := (Option.some.inj (Tryd.func10.symm.trans hfn)).symm
  refine ⟨by kernel_rfl, fun j t ht => ?_⟩
  rw [Tryd.params10] at ht
  have hm : t ∈ [22, 23, 4, 5, 5, 61, 23] := by simpa using Array.mem_of_getElem? ht
  have hall : ([22, 23, 4, 5, 5, 61, 23].all fun u => !Tryd.prog.wantsStandIn u) = true := by kernel_rfl
  exact (show Tryd.prog.wantsStandIn t = false by simpa using List.all_eq_true.1 hall t hm)
theorem card : Rows.FnWriteCardSaid :=
  Claim7.holds_tied_plain_at .later [] _ _ _ _ said (fun _ h => by cases h) kr_ (fun _ h => by cases h) fnWrite_row_tie rfl ⟨rfl, rfl⟩ kr_ rfl plain kr_
#print axioms card
end Go.Proofs.YtgoddcicbpjknaaDoor.fnWrite
