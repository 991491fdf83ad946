/- Values: nodes that are made and turned; signs as texts. The nodes of FnLoop, and what is known of their files. From a contract to a row: what stood there stands there still; the table of signs. The table of signs, as the rows lay it. From a contract to a row: the arguments, read again. The nodes of FnInitial, and what is told of them. Plain: sorted places as trees. No program in sight. Values: nodes linked as trees. Walks: few, less, shaped. Values: nodes as they are made, lists of places below each. Values: a node that is being made. From a contract to a row: slices of numbers, wherever they lie. From a contract to a row: io.EOF where the row lists it; blocks behind those that are told. Values: what the making of a node needs beside. Walks: nodesOf, a node is made, where it goes. Values: nodes and the lists of places below them. Walks: nodesOf, a node goes into the lists; a list is sorted. Values: lists linked one behind the other. Walks: nodesOf. Plain: trees of places, the order in which they are told. Walks: FnInitial. Values: the order of nodes in memory, with paths. Walks: Order. Walks: Order, whole. -/
import Derived.Test.YtgoddcicbpjknaaDoorPartD
import Derived.WalkKit
import Derived.ProofKit
import Derived.OpenShut
import Derived.Deep.DeepHandedRow
import Derived.Lib.LaidTab
import Derived.Test.YtgoddcicbpjknaaDoorCards
import Derived.Test.YtgoddcicbpjknaaDoorTie
import Derived.Carry
import Derived.Lib.LaidU8
/-! Values: nodes that are made and turned; signs as texts. -/
set_option maxRecDepth 20000
namespace Go.Proofs.YtgoddcicbpjknaaDoor
open Go
open Cfb
section
variable {P : Program} {L : Fra} {dst : Option Tmp} {ty : TypeId} {pos : String} {aft : Array Edge} {gd : Option (Nat × Bool)}
theorem Yl_rune {x : Operand} {n : Nat} {t u : TypeId} (hx : ev L x = some (.int .i32 (n : Int))) (ht : inOf P t = some .i32) (hu : isStr P u = true) (hn : n < 128) :
    Yl P L ⟨dst, .convert t u x, ty, pos, aft, gd⟩ (.string (bar [UInt8.ofNat n])) := by
  intro _ a w hf
  have h1 := inOf_u ht
  have h2 := isStr_u hu
  have h3 := encode_small n hn
  simp only [Int.ofNat_eq_natCast] at h3
  simp [execOp, hf.eval hx, convert, underlying, h1, h2, Conv.intToString, h3]
  rfl
theorem Yl_concatB {x y : Operand} {a b : List UInt8} {t u : TypeId} (hx : ev L x = some (.string (bar a))) (hy : ev L y = some (.string (bar b))) (hs : a.length + b.length ≤ 1000000) :
    Yl P L ⟨dst, .binOp .add t x y u, ty, pos, aft, gd⟩ (.string (bar (a ++ b))) := by
  have h := Yl_concat (P := P) (dst := dst) (ty := ty) (pos := pos) (aft := aft) (gd := gd) (t := t) (u := u) hx hy (by simp [bar, ByteArray.size]; omega)
  have e : bar a ++ bar b = bar (a ++ b) := by
    apply ByteArray.ext
    simp [bar]
  rw [e] at h; exact h
end
/-- The signs' table, what is asked of it. -/
structure PsOk (ps : List Value) : Prop where
  cap : ∀ c, 65 ≤ c → c ≤ 90 → ps[c]? = some (.int .u8 160)
  ctl : ∀ c, 1 ≤ c → c ≤ 31 → ps[c]? = some (.int .u8 1)
theorem and_160 : ∀ w, (Op.intBits .and .u8 160 128).run Tryd.prog w = .ok (.int .u8 128) w := by
  intro w
  simp [Op.intBits]
  rfl
theorem and_1 : ∀ w, (Op.intBits .and .u8 1 128).run Tryd.prog w = .ok (.int .u8 0) w := by
  intro w
  simp [Op.intBits]
  rfl
theorem nmOk_cap {ps : List Value} (hp : PsOk ps) {x : Nd} (h1 : 1 ≤ x.name.length) (h2 : x.name.length ≤ 31) (h3 : ∀ c ∈ x.name, c.toNat < 128) (h4 : 65 ≤ (x.name.getD 0 0).toNat ∧ (x.name.getD 0 0).toNat ≤ 90) : NmOk ps x x.name :=
  ⟨h1, h2, h3, 160, 128, hp.cap _ h4.1 h4.2, and_160, by simp⟩
theorem nmOk_ctl {ps : List Value} (hp : PsOk ps) {x : Nd} (h1 : 1 ≤ x.name.length) (h2 : x.name.length ≤ 31) (h3 : ∀ c ∈ x.name, c.toNat < 128) (h4 : 1 ≤ (x.name.getD 0 0).toNat ∧ (x.name.getD 0 0).toNat ≤ 31) : NmOk ps x (x.name.drop 1) :=
  ⟨h1, h2, h3, 1, 0, hp.ctl _ h4.1 h4.2, and_1, by simp⟩
/-- A node's cell is turned. -/
theorem nms_set (ns : List Nm) (k j : Nat) (v : Value) (x : Nm) (r : List Value) (hk : k < ns.length) (hj : j < 28) (hx : x.cells = (ns.getD k default).cells.set j v) : (nms ns ++ r).set (k * 28 + j) v = nms (ns.set k x) ++ r := by
  induction ns generalizing k with
  | nil => simp at hk
  | cons y t ih =>
    cases k with
    | zero =>
      have hy : (List.getD (y :: t) 0 default) = y := rfl
      rw [hy] at hx
      simp only [List.flatMap_cons, List.set_cons_zero, hx, Nat.zero_mul, Nat.zero_add]
      rw [List.append_assoc, List.set_append_left _ _ (by rw [Nm.length_cells]; exact hj), List.append_assoc]
    | succ k =>
      have hy : (List.getD (y :: t) (k + 1) default) = t.getD k default := by simp [List.getD_eq_getElem?_getD]
      rw [hy] at hx
      have hi := ih k (by simpa using hk) hx
      simp only [List.flatMap_cons, List.set_cons_succ]
      rw [List.append_assoc, List.set_append_right _ _ (by rw [Nm.length_cells, Nat.add_mul]; omega), Nm.length_cells, show (k + 1) * 28 + j - 28 = k * 28 + j by rw [Nat.add_mul]; omega, hi, List.append_assoc]
/-- A node of no bytes. -/
def plainNd (name : List UInt8) (l r c : Int) : Nd := ⟨name, false, [], l, r, c, List.replicate 16 0, List.replicate 4 0, 0, 0, by simp, by simp⟩
def plainNm (name : List UInt8) (l r c : Int) : Nm := ⟨plainNd name l r c, none, 0, []⟩
theorem plainNm_ok {name : List UInt8} {l r c : Int} (hn : name.length ≤ 31) (hl : -1 ≤ l ∧ l ≤ 100000) (hr : -1 ≤ r ∧ r ≤ 100000) (hc : -1 ≤ c ∧ c ≤ 100000) : (plainNm name l r c).ok :=
  ⟨fun _ => rfl, by simp [plainNm, plainNd], by simp [plainNm, plainNd], hn, hl, hr, hc, by simp [plainNm, plainNd], by simp [plainNm, plainNd]⟩
/-- The version 4 has sectors of 4096 bytes, and so on. -/
def verF (four : Bool) : Nat := if four = true then 4 else 3
theorem verF_or (four : Bool) : verF four = 3 ∨ verF four = 4 := by cases four <;> simp [verF]
theorem Entries_good {ps : List Value} {T : TypeId} {four : Bool} {st : Nat} {xs : List Nd} {nmF : Nat → List UInt8} (hx : Ok xs) (hnm : ∀ k, k < xs.length → NmOk ps (xs.getD k default) (nmF k)) (hlk : ∀ x ∈ xs, x.left ≤ 4294967295 ∧ x.right ≤ 4294967295 ∧ x.child ≤ 4294967295) (hN : NF (verF four) xs ≤ 131072) (gI : Nat) (hg : 2 ≠ gI)
    (hb : (STv (tnsF (verF four) xs nmF)).bad = false) :
    Ct Tryd.prog 18 [.slice (some ⟨gI, 0, none⟩) (NF (verF four) xs) (NF (verF four) xs)] [(gI, blk (bys (writeF (verF four) st xs)) 5), (2, blk ps T)] (fun v q => ∃ (fs : List Fil) (pth : Nat → List (List UInt8)) (out : List Nat) (g : Option Nat) (cap : Nat) (r : List Value) (rows : List (List Value)) (pp : Heap), pth = (STv (tnsF (verF four) xs nmF)).pth ∧ out = (STv (tnsF (verF four) xs nmF)).out ∧ fs.map (fun f => f.en.noPath) = (esF (verF four) st xs nmF).map En.noPath ∧ RowsOk fs pth pp out rows ∧ oOk g rows.flatten r out.length cap 27 ∧ v = .tuple #[osl g out.length cap, nv 0] ∧ q = (gI, blk (bys (writeF (verF four) st xs)) 5) :: (2, blk ps T) :: (oH g (rows.flatten ++ r) 41 ++ pp)) := by
  have hf := fileIn (v := verF four) (st := st) ps hx (verF_or four) hnm hlk
  have hd := dsF_le (v := verF four) hx
  have hs := size_ge (verF four)
  have hz : sizeF (verF four) / 128 * 128 = sizeF (verF four) := by rcases sizeF_or (verF four) with e | e <;> rw [e]
  have hcn : (tnsF (verF four) xs nmF).length ≤ 100000 := by
    have : dsF (verF four) xs * (sizeF (verF four) / 128) ≤ 5 * 32 := Nat.mul_le_mul hd.2.1 (by omega)
    simp [tnsF, cntF]; omega
  have h := Entries_ok gI (NF (verF four) xs) [] _ _ _ _ _ _ _ _ _ _ _ ps T _ _ _ _ hf hN hg hb ?_ (pth_small _ hcn) (out_small _ hcn)
  · rw [List.append_nil] at h; exact h
  · intro e he
    obtain ⟨k, hk, rfl⟩ := List.mem_map.1 he
    have hk' := List.mem_range.1 hk
    have hpos : 0 < sizeF (verF four) / 128 := by omega
    have hj : k / (sizeF (verF four) / 128) < dsF (verF four) xs := (Nat.div_lt_iff_lt_mul hpos).2 hk'
    have hi : k % (sizeF (verF four) / 128) < sizeF (verF four) / 128 := Nat.mod_lt _ hpos
    have hkk : k / (sizeF (verF four) / 128) * (sizeF (verF four) / 128) + k % (sizeF (verF four) / 128) = k := by rw [Nat.mul_comm]; exact Nat.div_add_mod _ _
    have h1 := enF_ok (st := st) ps hx hnm hj hi
    rw [hkk] at h1
    refine h1.dcOk ?_ ?_
    · have hl := (nTo_len (v := verF four) (st := st) hx (nds_at ps hx hnm) (Nat.le_refl _)).1
      rw [nTo_all] at hl
      have hle : k / (sizeF (verF four) / 128) * sizeF (verF four) + sizeF (verF four) ≤ dsF (verF four) xs * sizeF (verF four) := by rw [← Nat.succ_mul]; exact Nat.mul_le_mul_right _ hj
      unfold dsecF
      simp [hl]; omega
    · unfold enF
      split
      · have := ((xs.getD k default).name.getD 0 0).toNat_lt
        simp only; omega
      · simp
theorem Entries_wrong {ps : List Value} {T : TypeId} {four : Bool} {st : Nat} {xs : List Nd} {nmF : Nat → List UInt8} (hx : Ok xs) (hnm : ∀ k, k < xs.length → NmOk ps (xs.getD k default) (nmF k)) (hlk : ∀ x ∈ xs, x.left ≤ 4294967295 ∧ x.right ≤ 4294967295 ∧ x.child ≤ 4294967295) (hN : NF (verF four) xs ≤ 131072) (gI : Nat) (hg : 2 ≠ gI)
    (hb : (STv (tnsF (verF four) xs nmF)).bad = true) :
    Ct Tryd.prog 18 [.slice (some ⟨gI, 0, none⟩) (NF (verF four) xs) (NF (verF four) xs)] [(gI, blk (bys (writeF (verF four) st xs)) 5), (2, blk ps T)] (fun v q => v = .tuple #[.slice none 0 0, nv 5] ∧ q = [(gI, blk (bys (writeF (verF four) st xs)) 5), (2, blk ps T)]) := by
  have hf := fileIn (v := verF four) (st := st) ps hx (verF_or four) hnm hlk
  have h := Entries_bad gI (NF (verF four) xs) [] _ _ _ _ _ _ _ _ _ _ _ ps T _ _ _ _ hf hN hg hb
  rw [List.append_nil] at h; exact h
end Go.Proofs.YtgoddcicbpjknaaDoor

/-! The nodes of FnLoop, and what is known of their files. -/
set_option maxRecDepth 20000
namespace Go.Proofs.YtgoddcicbpjknaaDoor
open Go
open Cfb
theorem Ct.ne {P : Program} {f : FuncId} {args : List Value} {a b : Nat} {x y : Obj} {r : Heap} {R : Value → Heap → Prop} (h : b ≠ a → Ct P f args ((a, x) :: (b, y) :: r) R) : Ct P f args ((a, x) :: (b, y) :: r) R := by
  intro E F w hh
  refine h ?_ E F w hh
  have := hh.nodup
  simp only [List.cons_append, List.map_cons, List.nodup_cons, List.mem_cons] at this
  intro e
  exact this.1 (.inl e.symm)
theorem Ct.less {P : Program} {f : FuncId} {args : List Value} {pre : Heap} {R R' : Value → Heap → Prop} (h : Ct P f args pre R) (hr : ∀ v post, R v post → ∃ post', R' v post' ∧ post'.Sublist post) : Ct P f args pre R' := by
  intro E F w hh
  refine (h E F w hh).mono ?_
  rintro e w' ⟨v, post, he, hR, ha⟩
  obtain ⟨post', h1, h2⟩ := hr v post hR
  exact ⟨v, post', he, h1, ha.sub (h2.append_right F)⟩
theorem RW_sub {P : Program} {E : World} {n : Nat} {ops : Array Oper} {L : Fra} {H H' : Heap} {rest : List Oper} {Q : Exit → Act → World → Prop} (hs : H'.Sublist H) (h : RW P E n ops L H' rest Q) : RW P E n ops L H rest Q := fun a w hf hh => h a w hf (hh.sub hs)
theorem Entries_code0 {ps : List Value} {T : TypeId} {four : Bool} {st : Nat} {xs : List Nd} {nmF : Nat → List UInt8} (hx : Ok xs) (hnm : ∀ k, k < xs.length → NmOk ps (xs.getD k default) (nmF k)) (hlk : ∀ x ∈ xs, x.left ≤ 4294967295 ∧ x.right ≤ 4294967295 ∧ x.child ≤ 4294967295) (hN : NF (verF four) xs ≤ 131072) (gI : Nat)
    (hb : (STv (tnsF (verF four) xs nmF)).bad = false) :
    Ct Tryd.prog 18 [.slice (some ⟨gI, 0, none⟩) (NF (verF four) xs) (NF (verF four) xs)] [(gI, blk (bys (writeF (verF four) st xs)) 5), (2, blk ps T)] (fun v q => ∃ e, e = v ∧ (∃ u, e = .tuple #[u, nv 0]) ∧ q = [(gI, blk (bys (writeF (verF four) st xs)) 5), (2, blk ps T)]) := by
  refine Ct.ne fun hg => (Entries_good hx hnm hlk hN gI hg hb).less ?_
  rintro v post ⟨fs, pth, out, g, cap, r, rows, pp, _, _, _, _, _, rfl, rfl⟩
  exact ⟨_, ⟨_, rfl, ⟨_, rfl⟩, rfl⟩, .cons_cons _ (.cons_cons _ (List.nil_sublist _))⟩
theorem Entries_code5 {ps : List Value} {T : TypeId} {four : Bool} {st : Nat} {xs : List Nd} {nmF : Nat → List UInt8} (hx : Ok xs) (hnm : ∀ k, k < xs.length → NmOk ps (xs.getD k default) (nmF k)) (hlk : ∀ x ∈ xs, x.left ≤ 4294967295 ∧ x.right ≤ 4294967295 ∧ x.child ≤ 4294967295) (hN : NF (verF four) xs ≤ 131072) (gI : Nat)
    (hb : (STv (tnsF (verF four) xs nmF)).bad = true) :
    Ct Tryd.prog 18 [.slice (some ⟨gI, 0, none⟩) (NF (verF four) xs) (NF (verF four) xs)] [(gI, blk (bys (writeF (verF four) st xs)) 5), (2, blk ps T)] (fun v q => v = .tuple #[.slice none 0 0, nv 5] ∧ q = [(gI, blk (bys (writeF (verF four) st xs)) 5), (2, blk ps T)]) :=
  Ct.ne fun hg => Entries_wrong hx hnm hlk hN gI hg hb
theorem NF_few {v : Nat} {xs : List Nd} (h : Ok xs) : NF v xs ≤ 4096 * (2 + 2 * (csF v xs).sum) := by
  have hf : ftF v xs ≤ (csF v xs).sum + 1 := (fatsF_ok (sum := (csF v xs).sum) (per := perF v) (by have := per4 v; have := size_ge v; omega)).2.2
  have hs := size_ge v
  unfold NF TF
  exact Nat.mul_le_mul hs.2 (by omega)
theorem cnt_le {v : Nat} {xs : List Nd} (h : Ok xs) : xs.length ≤ cntF v xs ∧ cntF v xs ≤ 32 := by
  have hl := h.len
  have hd := dsF_le (v := v) h
  unfold cntF dsF partsF
  rcases sizeF_or v with e | e <;> rw [e] <;> omega
theorem no_streams {v : Nat} {xs : List Nd} (h : Ok xs) (hs : ∀ x ∈ xs, x.stream = false) : (csF v xs).sum ≤ 5 := by
  have h1 : ∀ x ∈ smF xs, x ≤ 0 := by
    intro y hy; obtain ⟨x, hx, rfl⟩ := List.mem_map.1 hy; unfold smallF; rw [if_neg (by rw [hs x hx]; simp)]; omega
  have h2 : ∀ x ∈ lgF v xs, x ≤ 0 := by
    intro y hy; obtain ⟨x, hx, rfl⟩ := List.mem_map.1 hy; unfold largeF; rw [if_neg (by rw [hs x hx]; simp)]; omega
  have h3 := sum_le h1
  have h4 := sum_le h2
  have h5 : miF xs = 0 := by unfold miF; omega
  have hd := dsF_le (v := v) h
  have hz := size_ge v
  have hp := per4 v
  have e0 : ∀ p, 0 < p → partsF 0 p = 0 := fun p hp => by unfold partsF; rw [Nat.div_eq_of_lt (by omega)]
  rw [cs_sum h, h5]
  have : mfF v xs = 0 := by unfold mfF; rw [h5]; exact e0 _ (by omega)
  rw [this, Nat.zero_mul, e0 _ (by omega)]
  omega
/-! ### FnLoop -/
def lnName (k : Nat) : List UInt8 := [83] ++ [UInt8.ofNat (65 + k)]
def lnNm (n k : Nat) : Nm := plainNm (lnName k) (-1) (-1) (if k + 1 < n then ((k + 1 : Nat) : Int) else -1)
def lns (n i : Nat) : List Nm := (List.range i).map (lnNm n)
theorem lns_len (n i : Nat) : (lns n i).length = i := by simp [lns]
theorem lns_at {n i k : Nat} (h : k < i) : (lns n i).getD k default = lnNm n k := range_getD _ h
theorem lns_succ (n i : Nat) : lns n (i + 1) = lns n i ++ [lnNm n i] := by simp [lns, List.range_succ]
theorem nms_append (a b : List Nm) : nms (a ++ b) = nms a ++ nms b := by simp [nms]
/-- What is asked of FnLoop's nodes. -/
structure LnOk (n : Nat) (ns : List Nm) : Prop where
  len : ns.length = n
  is : ∀ k, k < n → ∃ l r c : Int, ns.getD k default = plainNm (lnName k) l r c ∧ (-1 ≤ l ∧ l ≤ 1000) ∧ (-1 ≤ r ∧ r ≤ 1000) ∧ (-1 ≤ c ∧ c ≤ 1000)
theorem LnOk.mem {n : Nat} {ns : List Nm} (h : LnOk n ns) {x : Nm} (hx : x ∈ ns) : ∃ k l r c, k < n ∧ x = plainNm (lnName k) l r c ∧ (-1 ≤ l ∧ l ≤ 1000) ∧ (-1 ≤ r ∧ r ≤ 1000) ∧ (-1 ≤ c ∧ c ≤ 1000) := by
  obtain ⟨k, hk, rfl⟩ := List.mem_iff_getElem.1 hx
  rw [h.len] at hk
  obtain ⟨l, r, c, h1, h2⟩ := h.is k hk
  refine ⟨k, l, r, c, hk, ?_, h2⟩
  rw [← h1]; simp [List.getD_eq_getElem?_getD, h.len, hk]
theorem LnOk.heap {n : Nat} {ns : List Nm} (h : LnOk n ns) : nmsH ns = [] := by
  rw [List.flatMap_eq_nil_iff]
  intro x hx
  obtain ⟨k, l, r, c, _, rfl, _⟩ := h.mem hx
  rfl
theorem LnOk.ok {n : Nat} {ns : List Nm} (h : LnOk n ns) : ∀ x ∈ ns, x.ok := by
  intro x hx
  obtain ⟨k, l, r, c, _, rfl, h1, h2, h3⟩ := h.mem hx
  exact plainNm_ok (by simp [lnName]) (by omega) (by omega) (by omega)
theorem LnOk.xs {n : Nat} {ns : List Nm} (h : LnOk n ns) (hn : 1 ≤ n ∧ n ≤ 20) : Ok (ns.map Nm.nd) := by
  refine ⟨by simp [h.len]; exact hn, ?_⟩
  intro x hx
  obtain ⟨y, hy, rfl⟩ := List.mem_map.1 hx
  exact (h.ok y hy).small
theorem LnOk.at {n : Nat} {ns : List Nm} (h : LnOk n ns) {k : Nat} (hk : k < n) : (ns.map Nm.nd).getD k default = (ns.getD k default).nd := by
  have := h.len
  simp [List.getD_eq_getElem?_getD, show k < ns.length by omega]
theorem LnOk.names {ps : List Value} (hp : PsOk ps) {n : Nat} {ns : List Nm} (h : LnOk n ns) (hn : n ≤ 20) : ∀ k, k < (ns.map Nm.nd).length → NmOk ps ((ns.map Nm.nd).getD k default) (lnName k) := by
  intro k hk
  have hk' : k < n := by simpa [h.len] using hk
  obtain ⟨l, r, c, h1, _⟩ := h.is k hk'
  rw [h.at hk', h1]
  refine nmOk_cap (x := plainNd (lnName k) l r c) hp (by simp [plainNd, lnName]) (by simp [plainNd, lnName]) ?_ (by simp [plainNd, lnName])
  intro y hy
  simp only [plainNd, lnName, List.mem_append, List.mem_singleton] at hy
  rcases hy with rfl | rfl
  · decide
  · rw [UInt8.toNat_ofNat']; omega
theorem LnOk.lnk {n : Nat} {ns : List Nm} (h : LnOk n ns) : ∀ x ∈ ns.map Nm.nd, x.left ≤ 4294967295 ∧ x.right ≤ 4294967295 ∧ x.child ≤ 4294967295 := by
  intro x hx
  obtain ⟨y, hy, rfl⟩ := List.mem_map.1 hx
  obtain ⟨k, l, r, c, _, rfl, h1, h2, h3⟩ := h.mem hy
  simp only [plainNm, plainNd]
  omega
theorem LnOk.size {n : Nat} {ns : List Nm} (h : LnOk n ns) (hn : 1 ≤ n ∧ n ≤ 20) (v : Nat) : NF v (ns.map Nm.nd) ≤ 131072 := by
  have h1 := NF_few (v := v) (h.xs hn)
  have h2 := no_streams (v := v) (h.xs hn) (by
    intro x hx
    obtain ⟨y, hy, rfl⟩ := List.mem_map.1 hx
    obtain ⟨k, l, r, c, _, rfl, _⟩ := h.mem hy
    rfl)
  have := Nat.mul_le_mul_left 4096 (show 2 + 2 * (csF v (ns.map Nm.nd)).sum ≤ 12 by omega)
  omega
/-- How a node leads on. -/
theorem LnOk.tn {n : Nat} {ns : List Nm} (h : LnOk n ns) (hn : 1 ≤ n ∧ n ≤ 20) (v : Nat) {k : Nat} (hk : k < n) : (tnsF v (ns.map Nm.nd) lnName).getD k default = ⟨lnName k, lnkF (ns.getD k default).nd.left, lnkF (ns.getD k default).nd.child, lnkF (ns.getD k default).nd.right⟩ := by
  have hc := cnt_le (v := v) (h.xs hn)
  have hl : (ns.map Nm.nd).length = n := by simp [h.len]
  rw [show (tnsF v (ns.map Nm.nd) lnName).getD k default = tnF (ns.map Nm.nd) lnName k from range_getD _ (by omega)]
  unfold tnF
  rw [if_pos (by omega), h.at hk]
theorem tns_len (v : Nat) (xs : List Nd) (nmF : Nat → List UInt8) : (tnsF v xs nmF).length = cntF v xs := by simp [tnsF]
theorem lnkF_nat (k : Nat) : lnkF (k : Int) = k := by unfold lnkF; rw [if_pos (by omega)]; simp
theorem lnkF_none : lnkF (-1) = FREE := rfl
theorem lns_ok (n : Nat) (hn : n ≤ 20) : LnOk n (lns n n) := by
  refine ⟨lns_len _ _, fun k hk => ?_⟩
  rw [lns_at hk]
  exact ⟨-1, -1, _, rfl, by omega, by omega, by split <;> omega⟩
theorem loop_good (n v : Nat) (hn : 1 ≤ n ∧ n ≤ 20) : (STv (tnsF v ((lns n n).map Nm.nd) lnName)).bad = false := by
  have h := lns_ok n hn.2
  have hc := cnt_le (v := v) (h.xs hn)
  have hl : ((lns n n).map Nm.nd).length = n := by simp [h.len]
  refine trav_chain _ n (by rw [tns_len]; omega) ?_ (by rw [tns_len]; omega) _ 0 [] S0 (by omega) rfl (by rw [tns_len]; omega) rfl
  intro i hi
  rw [h.tn hn v hi, lns_at hi]
  refine ⟨rfl, rfl, ?_⟩
  by_cases h1 : i + 1 < n
  · left
    refine ⟨h1, ?_⟩
    show lnkF (if i + 1 < n then ((i + 1 : Nat) : Int) else -1) = i + 1
    rw [if_pos h1, lnkF_nat]
  · right
    refine ⟨h1, ?_⟩
    show lnkF (if i + 1 < n then ((i + 1 : Nat) : Int) else -1) = FREE
    rw [if_neg h1]; rfl
theorem turn_ok {n k t : Nat} (hn : 1 ≤ n ∧ n ≤ 20) (hk : k < n) {l r : Int} (hl : -1 ≤ l ∧ l ≤ 1000) (hr : -1 ≤ r ∧ r ≤ 1000) : LnOk n ((lns n n).set k (plainNm (lnName k) l r (if k + 1 < n then ((k + 1 : Nat) : Int) else -1))) := by
  refine ⟨by simp [lns_len], fun j hj => ?_⟩
  by_cases e : k = j
  · subst e
    rw [List.getD_eq_getElem?_getD, List.getElem?_set_self (by rw [lns_len]; exact hk)]
    exact ⟨l, r, _, rfl, hl, hr, by split <;> omega⟩
  · rw [List.getD_eq_getElem?_getD, List.getElem?_set_ne e, ← List.getD_eq_getElem?_getD, lns_at hj]
    exact ⟨-1, -1, _, rfl, by omega, by omega, by split <;> omega⟩
theorem loop_bad {n k t : Nat} (v : Nat) (hn : 1 ≤ n ∧ n ≤ 20) (hk : k < n) (ht : t ≤ k ∨ 100 ≤ t) (ht2 : t ≤ 1000) {l r : Int} (hlr : (l = (t : Int) ∧ r = -1) ∨ (l = -1 ∧ r = (t : Int))) :
    (STv (tnsF v (((lns n n).set k (plainNm (lnName k) l r (if k + 1 < n then ((k + 1 : Nat) : Int) else -1))).map Nm.nd) lnName)).bad = true := by
  have h := turn_ok (t := t) hn hk (l := l) (r := r) (by omega) (by omega)
  have hc := cnt_le (v := v) (h.xs hn)
  obtain ⟨ns, hns⟩ : ∃ ns, ns = (lns n n).set k (plainNm (lnName k) l r (if k + 1 < n then ((k + 1 : Nat) : Int) else -1)) := ⟨_, rfl⟩
  rw [← hns] at h hc ⊢
  have hl : (ns.map Nm.nd).length = n := by simp [h.len]
  refine trav_ring _ k (by rw [tns_len]; omega) ?_ _ 0 [] S0 (by omega) (by show _ ≤ 0 + _; omega)
  intro i hi
  rw [tns_len]
  by_cases e : i = k
  · subst e
    have e1 : ns.getD i default = plainNm (lnName i) l r (if i + 1 < n then ((i + 1 : Nat) : Int) else -1) := by
      rw [hns, List.getD_eq_getElem?_getD, List.getElem?_set_self (by rw [lns_len]; exact hk)]; rfl
    refine ⟨t, by omega, by show t ≠ 4294967295; omega, ?_⟩
    rw [h.tn hn v hk, e1]
    rcases hlr with ⟨rfl, rfl⟩ | ⟨rfl, rfl⟩
    · left; exact lnkF_nat t
    · right; right; exact lnkF_nat t
  · have hik : i < n := by omega
    have e1 : ns.getD i default = lnNm n i := by
      rw [hns, List.getD_eq_getElem?_getD, List.getElem?_set_ne (by omega), ← List.getD_eq_getElem?_getD, lns_at hik]
    refine ⟨i + 1, by omega, by show i + 1 ≠ 4294967295; omega, .inr (.inl ?_)⟩
    rw [h.tn hn v hik, e1]
    show lnkF (if i + 1 < n then ((i + 1 : Nat) : Int) else -1) = i + 1
    rw [if_pos (by omega), lnkF_nat]
end Go.Proofs.YtgoddcicbpjknaaDoor

/-! From a contract to a row: what stood there stands there still; the table of signs. -/
set_option maxRecDepth 100000
namespace Go.Proofs.YtgoddcicbpjknaaDoor
open Go
open Cfb
open Go.RowKit
/-- All blocks of a world but those. -/
def others (W : World) (ks : List Nat) : Heap := (List.range W.heap.size).filterMap fun i => if ks.contains i then none else (W.heap[i]?).map fun o => (i, o)
theorem others_mem {W : World} {ks : List Nat} {p : Nat × Obj} (h : p ∈ others W ks) : p.1 ∉ ks ∧ W.heap[p.1]? = some p.2 := by
  unfold others at h
  obtain ⟨i, _, hi⟩ := List.mem_filterMap.1 h
  split at hi
  · cases hi
  · rename_i hc
    simp only [Option.map_eq_some_iff] at hi
    obtain ⟨o, ho, rfl⟩ := hi
    exact ⟨by simpa using hc, ho⟩
theorem others_has {W : World} {ks : List Nat} {i : Nat} {o : Obj} (hk : i ∉ ks) (ho : W.heap[i]? = some o) : (i, o) ∈ others W ks := by
  unfold others
  refine List.mem_filterMap.2 ⟨i, List.mem_range.2 ?_, ?_⟩
  · rcases Nat.lt_or_ge i W.heap.size with h | h
    · exact h
    · rw [Array.getElem?_eq_none h] at ho; cases ho
  · rw [if_neg (by simpa using hk), ho]; rfl
theorem others_sub (W : World) (ks : List Nat) : ∀ l : List Nat, ((l.filterMap fun i => if ks.contains i then none else (W.heap[i]?).map fun o => (i, o)).map Prod.fst).Sublist l := by
  intro l
  induction l with
  | nil => exact .slnil
  | cons i r ih =>
    rw [List.filterMap_cons]
    split
    · exact ih.cons i
    · rename_i p hp
      have hpi : p.1 = i := by
        split at hp
        · cases hp
        · simp only [Option.map_eq_some_iff] at hp
          obtain ⟨o, _, rfl⟩ := hp
          rfl
      rw [List.map_cons, hpi]
      exact ih.cons_cons i
theorem others_nodup (W : World) (ks : List Nat) : ((others W ks).map Prod.fst).Nodup := List.nodup_range.sublist (others_sub W ks _)
theorem HA.start {W : World} {pre : Heap} (hm : ∀ p ∈ pre, W.heap[p.1]? = some p.2) (hn : (pre.map Prod.fst).Nodup) : HA W W (pre ++ others W (pre.map Prod.fst)) := by
  refine ⟨rfl, rfl, rfl, ?_, ?_, Nat.le_refl _, ?_⟩
  · rw [List.map_append, List.nodup_append]
    refine ⟨hn, others_nodup _ _, ?_⟩
    intro a ha b hb e
    subst e
    obtain ⟨p, hp, rfl⟩ := List.mem_map.1 hb
    exact (others_mem hp).1 ha
  · intro p hp
    rcases List.mem_append.1 hp with h | h
    · exact hm p h
    · exact (others_mem h).2
  · intro b o hb ho
    rw [Array.getElem?_eq_none hb] at ho; cases ho
theorem HA.old {W w' : World} {pre : Heap} (hm : ∀ p ∈ pre, W.heap[p.1]? = some p.2) (h : HA W w' (pre ++ others W (pre.map Prod.fst))) {i : Nat} (hi : i < W.heap.size) : w'.heap[i]? = W.heap[i]? := by
  have ho : W.heap[i]? = some W.heap[i] := Array.getElem?_eq_getElem hi
  by_cases hk : i ∈ pre.map Prod.fst
  · obtain ⟨p, hp, rfl⟩ := List.mem_map.1 hk
    rw [h.mem p (List.mem_append_left _ hp), hm p hp]
  · have := h.mem (i, W.heap[i]) (List.mem_append_right _ (others_has hk ho))
    rw [this, ho]
theorem HA.grown {W w' : World} {pre : Heap} (hm : ∀ p ∈ pre, W.heap[p.1]? = some p.2) (h : HA W w' (pre ++ others W (pre.map Prod.fst))) : Grown W w' := by
  refine ⟨⟨h.os, h.output, fun i hi => ?_⟩, fun a => ?_, h.size⟩
  · rw [h.old hm hi]
    cases hq : W.heap[i]? with
    | none => rfl
    | some o => cases o <;> first | exact ⟨rfl, rfl, rfl, fun _ _ => rfl⟩ | exact Or.inr ⟨rfl, rfl⟩ | rfl
  · unfold World.frozen?
    rcases Nat.lt_or_ge a.block W.heap.size with hl | hl
    · rw [h.old hm hl]
    · rw [Array.getElem?_eq_none hl]
      cases hq : w'.heap[a.block]? with
      | none => rfl
      | some o =>
        have hf := h.fresh _ _ hl hq
        cases o with
        | cells cs T fz =>
          obtain ⟨lo, hi⟩ := fz
          simp only [freeO, Bool.and_eq_true] at hf
          have e1 := Nat.eq_of_beq_eq_true hf.1
          have e2 := Nat.eq_of_beq_eq_true hf.2
          subst e1; subst e2
          simp
        | _ => rfl
/-- A contract, as a row asks for it. -/
theorem Ct.row {P : Program} {f : FuncId} {args : List Value} {pre : Heap} {v : Value} (h : Ct P f args pre (fun u q => u = v ∧ q = pre)) {W : World} (hm : ∀ p ∈ pre, W.heap[p.1]? = some p.2) (hn : (pre.map Prod.fst).Nodup) :
    Calls P f args.toArray W fun e w' => e = .returned v ∧ Grown W w' := by
  refine (h W _ W (HA.start hm hn)).mono ?_
  rintro e w' ⟨u, post, he, ⟨rfl, rfl⟩, ha⟩
  exact ⟨he, ha.grown hm⟩
theorem own : ownKnob Tryd.prog.godebug = none := by kernel_rfl
theorem gProps : Tryd.prog.globalNamed "unicode.properties" = some 2 := by kernel_rfl
theorem gPropsT : (Tryd.prog.globals[2]?).map (·.type) = some 162 := by kernel_rfl
theorem cells5 : Tryd.prog.cellsOf 5 = 1 := by kernel_rfl
theorem cells162 : Tryd.prog.cellsOf 162 = 256 := by kernel_rfl
end Go.Proofs.YtgoddcicbpjknaaDoor

/-! The table of signs, as the rows lay it. -/
set_option maxRecDepth 100000
namespace Go.Proofs.YtgoddcicbpjknaaDoor
open Go
open Cfb
open Go.ChangeShapes Go.WideShapes Go.ChangeAt Go.RowKit
def propOf : DataW Unit → Int
  | .lit (.int _ n) => n
  | _ => 0
def propsOf : DataW Unit → List Int
  | .agg l => l.map propOf
  | _ => []
def props : List Int := propsOf Rows.laid_unicode_properties
theorem props_eq : (Rows.laid_unicode_properties : DataW Unit) = Lib.tabData .u8 props := by kernel_rfl
abbrev propsV : List Value := props.map fun z => Value.int .u8 z
theorem props_cap : ((List.range 26).all fun i => decide (props[65 + i]? = some 160)) = true := by kernel_rfl
theorem props_ctl : ((List.range 31).all fun i => decide (props[1 + i]? = some 1)) = true := by kernel_rfl
theorem propsV_ok : PsOk propsV := by
  refine ⟨fun c h1 h2 => ?_, fun c h1 h2 => ?_⟩
  · have := List.all_eq_true.1 props_cap (c - 65) (List.mem_range.2 (by omega))
    rw [show 65 + (c - 65) = c by omega] at this
    rw [List.getElem?_map, of_decide_eq_true this]; rfl
  · have := List.all_eq_true.1 props_ctl (c - 1) (List.mem_range.2 (by omega))
    rw [show 1 + (c - 1) = c by omega] at this
    rw [List.getElem?_map, of_decide_eq_true this]; rfl
theorem row2 : (((begin Tryd.prog (fun _ _ => 0) default).world.heap[2]?).bind Obj.row?).isSome = true := by kernel_rfl
theorem two_lt : 2 < Tryd.prog.globals.size := by
  have : Nat.blt 2 Tryd.prog.globals.size = true := by kernel_rfl
  exact Nat.le_of_ble_eq_true this
theorem props_tab {W : World} (h : laidMetH Tryd.prog [("unicode.properties", Rows.laid_unicode_properties)] W) : Lib.TabIs Tryd.prog W "unicode.properties" .u8 props := by
  have h1 : laidMet Tryd.prog [("unicode.properties", Rows.laid_unicode_properties)] W := h
  rw [props_eq] at h1
  have hu : Tryd.prog.underlying 162 = some (.array 256 5) := by kernel_rfl
  exact Lib.tabIs_of_head (rest := []) gProps gPropsT hu (inOf_u in_5) cells5 cells162 h1
theorem tab_block {W : World} (h : Lib.TabIs Tryd.prog W "unicode.properties" .u8 props) (hS : W.ShapedOpen Tryd.prog) : ∃ T, W.heap[2]? = some (blk propsV T) := by
  obtain ⟨⟨zero, t⟩, hr⟩ := Option.isSome_iff_exists.1 row2
  obtain ⟨cs, hc, _, _⟩ := hS.1 2 zero t two_lt hr
  refine ⟨t, ?_⟩
  rw [hc]
  have : cs = propsV.toArray := by
    apply Array.ext_getElem?
    intro i
    have h1 := World.var?_cell gProps h i
    have h2 : W.cell? ⟨2, i, none⟩ = cs[i]? := by simp [World.cell?, hc]
    rw [← h2, h1]
  rw [this]
end Go.Proofs.YtgoddcicbpjknaaDoor

/-! From a contract to a row: the arguments, read again. -/
set_option maxRecDepth 100000
namespace Go.Proofs.YtgoddcicbpjknaaDoor
open Go
open Cfb
open Go.ChangeShapes Go.WideShapes Go.ChangeAt Go.RowKit
theorem laidOut : laidOutB Tryd.prog = true := by kernel_rfl
theorem HA.below {W w' : World} {pre : Heap} (hm : ∀ p ∈ pre, W.heap[p.1]? = some p.2) (h : HA W w' (pre ++ others W (pre.map Prod.fst))) : Below W.heap.size W w' := ⟨h.os, h.tape, h.output, h.size, fun _ hk => h.old hm hk⟩
theorem Ct.rowB {P : Program} {f : FuncId} {args : List Value} {pre : Heap} {v : Value} (h : Ct P f args pre (fun u q => u = v ∧ q = pre)) {W : World} (hm : ∀ p ∈ pre, W.heap[p.1]? = some p.2) (hn : (pre.map Prod.fst).Nodup) :
    Calls P f args.toArray W fun e w' => e = .returned v ∧ Grown W w' ∧ Below W.heap.size W w' := by
  refine (h W _ W (HA.start hm hn)).mono ?_
  rintro e w' ⟨u, post, he, ⟨rfl, rfl⟩, ha⟩
  exact ⟨he, ha.grown hm, ha.below hm⟩
theorem trodAll_again {H : Type} {enc : TypeId × Value → H} {W W' : World} (hb : Below W.heap.size W W') : ∀ (ts : List TypeId) (vs : List Value) (ds : List (DataW H)) (ps : List MemPlace), DataW.TrodAll enc Tryd.prog W 0 (fun _ => true) true ts vs ds ps →
    (ts.all fun t => Tryd.prog.readableRec t && Nat.blt t Tryd.prog.types.size) = true → (∀ x ∈ ps, x.block < W.heap.size) → DataW.TrodAll enc Tryd.prog W' 0 (fun b => decide (b < W.heap.size)) true ts vs ds ps := by
  intro ts
  induction ts with
  | nil =>
    intro vs ds ps h _ _
    obtain ⟨rfl, rfl, rfl⟩ := trodAll_nil h
    exact trodAll_mk0
  | cons t r ih =>
    intro vs ds ps h hc hl
    obtain ⟨v0, vs0, d0, ds0, p0, q0, rfl, rfl, rfl, h0, r0⟩ := trodAll_cons h
    simp only [List.all_cons, Bool.and_eq_true] at hc
    obtain ⟨⟨c1, c2⟩, c3⟩ := hc
    exact trodAll_cons_mk (Below.trod laidOut c1 (by simpa [Nat.blt_eq] using c2) h0 hb (fun x hx => hl x (List.mem_append_left _ hx))) (ih vs0 ds0 q0 r0 c3 (fun x hx => hl x (List.mem_append_right _ hx)))
/-- A slice of bytes: where it lies. -/
theorem open_bytes {H : Type} {enc : TypeId × Value → H} {W : World} {base : Nat} {v : Value} {d : DataW H} {ps : List MemPlace} (hval : Value.okWide Tryd.prog W .any base 23 v) (h : DataW.Trod enc Tryd.prog W 0 (fun _ => true) true 23 v d ps) :
    ∃ p n c, v = .slice p n c ∧ n ≤ c ∧ (n = 0 ∨ ∃ b off l T fz, ∃ bs : List UInt8, p = some ⟨b, off, none⟩ ∧ W.heap[b]? = some (Obj.cells l T fz) ∧ bs.length = n ∧ ∀ i, i < n → l[off + i]? = some (bv (bs.getD i 0))) := by
  obtain ⟨fuel, hf⟩ := h
  obtain ⟨a0, n, c, rfl⟩ := okWide_slice (e := 5) (slOf_u sl_23).choose_spec.1 hval
  have hu23 : Tryd.prog.underlying 23 = some (.slice 5) := (slOf_u sl_23).choose_spec.1
  rcases open_ints hu23 (inOf_u in_5) cells5 hf with ⟨hcs, hx⟩ | ⟨a, len', cap', zs, hcs, _, hl, hm, hz, hx, hcell, hwz⟩
  · simp [Value.cells] at hcs
    obtain ⟨rfl, rfl, rfl⟩ := hcs
    exact ⟨_, _, _, rfl, Nat.le_refl _, .inl rfl⟩
  · simp [Value.cells] at hcs
    obtain ⟨rfl, rfl, rfl⟩ := hcs
    refine ⟨_, _, _, rfl, hl, ?_⟩
    simp only [if_true] at hz
    rcases Nat.eq_zero_or_pos n with h0 | h0
    · exact .inl h0
    · right
      have hzn : n ≤ zs.length := by omega
      have h1 := hcell 0 (by omega)
      obtain ⟨b, off, x⟩ := a
      cases x with
      | some y =>
        exfalso
        simp [World.cell?, Addr.add] at h1
        split at h1 <;> cases h1
      | none =>
        have key : ∀ i, i < zs.length → W.cell? ⟨b, off + i, none⟩ = some (.int .u8 (zs.getD i 0)) := fun i hi => by have := hcell i hi; rw [Addr_add] at this; exact this
        have k0 := key 0 (by omega)
        cases hq : W.heap[b]? with
        | none => simp [World.cell?, hq] at k0
        | some o =>
          cases o with
          | cells l T fz =>
            refine ⟨b, off, l, T, fz, (zs.take n).map fun z => UInt8.ofNat z.toNat, rfl, hq, by simp; omega, ?_⟩
            intro i hi
            have h2 := key i (by omega)
            have h3 : l[off + i]? = some (.int .u8 (zs.getD i 0)) := by simpa [World.cell?, hq] using h2
            rw [h3]
            have hz1 : zs.getD i 0 ∈ zs := by rw [List.getD_eq_getElem?_getD, List.getElem?_eq_getElem (by omega)]; exact List.getElem_mem _
            have hw := hwz _ hz1
            have hb : 0 ≤ zs.getD i 0 ∧ zs.getD i 0 ≤ 255 := by simpa [Lit.wf, IntKind.min, IntKind.max, IntKind.signed, IntKind.bits] using hw
            have e1 : ((zs.take n).map fun z => UInt8.ofNat z.toNat).getD i 0 = UInt8.ofNat (zs.getD i 0).toNat := by
              simp [List.getD_eq_getElem?_getD, List.getElem?_take, hi, show i < zs.length by omega]
            rw [e1]
            unfold bv
            rw [UInt8.toNat_ofNat', Nat.mod_eq_of_lt (by omega)]
            congr 2
            omega
          | _ => simp [World.cell?, hq] at k0
theorem u8_nat {a : Int} (w : (Lit.int .u8 a).wf = true) : ∃ n : Nat, a = (n : Int) ∧ n ≤ 255 := by
  have h : 0 ≤ a ∧ a ≤ 255 := by simpa [Lit.wf, IntKind.min, IntKind.max, IntKind.signed, IntKind.bits] using w
  exact ⟨a.toNat, by omega, by omega⟩
end Go.Proofs.YtgoddcicbpjknaaDoor

/-! The nodes of FnInitial, and what is told of them. -/
set_option maxRecDepth 20000
namespace Go.Proofs.YtgoddcicbpjknaaDoor
open Go
open Cfb
/-- The letters that bytes stand for. -/
def txt (l : List UInt8) : List UInt8 := l.map fun b => UInt8.ofNat (65 + b.toNat % 26)
theorem txt_succ {l : List UInt8} {i : Nat} (h : i < l.length) : txt (l.take (i + 1)) = txt (l.take i) ++ [UInt8.ofNat (65 + (l.getD i 0).toNat % 26)] := by
  have e : l.getD i 0 = l[i] := by simp [List.getD_eq_getElem?_getD, h]
  rw [List.take_succ_eq_append_getElem h, e]
  unfold txt
  rw [List.map_append]
  rfl
def rootName : List UInt8 := [82, 111, 111, 116, 32, 69, 110, 116, 114, 121]
def inNd (fst : Nat) (t : List UInt8) : Nd := ⟨[UInt8.ofNat fst] ++ t, true, [1, 2, 3], -1, -1, -1, List.replicate 16 0, List.replicate 4 0, 0, 0, by simp, by simp⟩
def inNm (fst : Nat) (t : List UInt8) (b : Nat) : Nm := ⟨inNd fst t, some b, 3, []⟩
def inNs (fst : Nat) (t : List UInt8) (b : Nat) : List Nm := [plainNm rootName (-1) (-1) 1, inNm fst t b]
def inXs (fst : Nat) (t : List UInt8) : List Nd := [plainNd rootName (-1) (-1) 1, inNd fst t]
def inNames (t : List UInt8) (k : Nat) : List UInt8 := if k = 0 then rootName else t
section
variable {fst : Nat} {t : List UInt8} {b : Nat}
theorem inXs_ok : Ok (inXs fst t) := by
  refine ⟨by simp [inXs], ?_⟩
  intro x hx
  simp only [inXs, List.mem_cons, List.not_mem_nil, or_false] at hx
  rcases hx with rfl | rfl
  · simp [plainNd]
  · simp [inNd]
theorem inNs_ok (ht : t.length ≤ 10) : ∀ x ∈ inNs fst t b, x.ok := by
  intro x hx
  simp only [inNs, List.mem_cons, List.not_mem_nil, or_false] at hx
  rcases hx with rfl | rfl
  · exact plainNm_ok (by simp [rootName]) (by omega) (by omega) (by omega)
  · exact ⟨fun h => (by cases h), by simp [inNm, inNd], by simp [inNm, inNd], by simp [inNm, inNd]; omega, by simp [inNm, inNd], by simp [inNm, inNd], by simp [inNm, inNd], by simp [inNm, inNd], by simp [inNm, inNd]⟩
theorem inNames_ok {ps : List Value} (hp : PsOk ps) (hf : 1 ≤ fst ∧ fst ≤ 31) (ht : t.length ≤ 10) (ht2 : ∀ c ∈ t, c.toNat < 128) : ∀ k, k < (inXs fst t).length → NmOk ps ((inXs fst t).getD k default) (inNames t k) := by
  intro k hk
  have hk2 : k < 2 := by simpa [inXs] using hk
  rcases Nat.lt_or_ge k 1 with h | h
  · obtain rfl : k = 0 := by omega
    refine nmOk_cap (x := plainNd rootName (-1) (-1) 1) hp (by simp [plainNd, rootName]) (by simp [plainNd, rootName]) ?_ (by simp [plainNd, rootName])
    intro c hc
    have : (rootName.all fun c => decide (c.toNat < 128)) = true := by decide
    simpa using List.all_eq_true.1 this c hc
  · obtain rfl : k = 1 := by omega
    have e1 : (UInt8.ofNat fst).toNat = fst := by rw [UInt8.toNat_ofNat']; omega
    have := nmOk_ctl (x := inNd fst t) hp (by simp [inNd]) (by simp [inNd]; omega) ?_ (by simp [inNd, e1]; omega)
    · exact this
    · intro c hc
      simp only [inNd, List.mem_append, List.mem_singleton] at hc
      rcases hc with rfl | hc
      · rw [e1]; omega
      · exact ht2 c hc
theorem inXs_lnk : ∀ x ∈ inXs fst t, x.left ≤ 4294967295 ∧ x.right ≤ 4294967295 ∧ x.child ≤ 4294967295 := by
  intro x hx
  simp only [inXs, List.mem_cons, List.not_mem_nil, or_false] at hx
  rcases hx with rfl | rfl <;> simp [plainNd, inNd]
theorem inXs_size (v : Nat) : NF v (inXs fst t) ≤ 131072 := by
  have h := inXs_ok (fst := fst) (t := t)
  have h1 := NF_few (v := v) h
  have hz := size_ge v
  have hp := per4 v
  have e1 : miF (inXs fst t) = 1 := by
    have : smallF (inNd fst t) = 1 := by unfold smallF; rw [if_pos ⟨rfl, by simp [inNd]⟩]; show partsF 3 64 = 1; decide
    have h0 : smallF (plainNd rootName (-1) (-1) 1) = 0 := by unfold smallF; rw [if_neg (by simp [plainNd])]
    simp [miF, smF, inXs, this, h0]
  have e2 : (lgF v (inXs fst t)).sum = 0 := by
    have : largeF (sizeF v) (inNd fst t) = 0 := by unfold largeF; rw [if_neg (by simp [inNd])]
    have h0 : largeF (sizeF v) (plainNd rootName (-1) (-1) 1) = 0 := by unfold largeF; rw [if_neg (by simp [plainNd])]
    simp [lgF, inXs, this, h0]
  have e3 : ∀ n p, n ≤ p → partsF n p ≤ 1 := fun n p hn => by
    unfold partsF
    rcases Nat.eq_zero_or_pos p with rfl | hp
    · simp
    · have : (n + p - 1) / p < 2 := (Nat.div_lt_iff_lt_mul hp).2 (by omega)
      omega
  have e4 := cs_sum (v := v) h
  have e5 : dsF v (inXs fst t) ≤ 1 := e3 _ _ (by simp [inXs]; omega)
  have e6 : mfF v (inXs fst t) ≤ 1 := by unfold mfF; rw [e1]; exact e3 _ _ (by omega)
  have e7 := e3 (miF (inXs fst t) * 64) (sizeF v) (by rw [e1]; omega)
  have := Nat.mul_le_mul_left 4096 (show 2 + 2 * (csF v (inXs fst t)).sum ≤ 8 by omega)
  omega
theorem inTn (v : Nat) {k : Nat} (hk : k < 2) : (tnsF v (inXs fst t) (inNames t)).getD k default = ⟨inNames t k, FREE, if k = 0 then 1 else FREE, FREE⟩ := by
  have hc := cnt_le (v := v) (inXs_ok (fst := fst) (t := t))
  have hl : (inXs fst t).length = 2 := rfl
  rw [show (tnsF v (inXs fst t) (inNames t)).getD k default = tnF (inXs fst t) (inNames t) k from range_getD _ (by omega)]
  unfold tnF
  rw [if_pos (by omega)]
  rcases Nat.lt_or_ge k 1 with h | h
  · obtain rfl : k = 0 := by omega
    rfl
  · obtain rfl : k = 1 := by omega
    rfl
theorem inTrav (v : Nat) : (STv (tnsF v (inXs fst t) (inNames t))).bad = false ∧ (STv (tnsF v (inXs fst t) (inNames t))).out = [0, 1] := by
  have hc := cnt_le (v := v) (inXs_ok (fst := fst) (t := t))
  have hl : (inXs fst t).length = 2 := rfl
  have ht := tns_len v (inXs fst t) (inNames t)
  have t0 := inTn (fst := fst) (t := t) v (show 0 < 2 by omega)
  have t1 := inTn (fst := fst) (t := t) v (show 1 < 2 by omega)
  unfold STv
  obtain ⟨m, hm⟩ : ∃ m, (tnsF v (inXs fst t) (inNames t)).length + 1 = m + 2 := ⟨(tnsF v (inXs fst t) (inNames t)).length - 1, by omega⟩
  rw [hm]
  generalize tnsF v (inXs fst t) (inNames t) = es at *
  have n1 : ¬ (1 : Nat) = FREE := by decide
  rw [trav, if_neg (by show ¬ es.length < 0 + 1; omega), if_neg (by omega)]
  unfold travS
  simp only [t0, if_true, if_neg n1]
  rw [trav, if_neg (by show ¬ es.length < 1 + 1; omega), if_neg (by omega)]
  unfold travS
  simp only [t1, if_true, if_neg (show ¬ (1 : Nat) = 0 by omega)]
  exact ⟨rfl, rfl⟩
end
theorem RowsOk.two {fs : List Fil} {pth : Nat → List (List UInt8)} {pp : Heap} {a b : Nat} {rows : List (List Value)} (h : RowsOk fs pth pp [a, b] rows) : ∃ f0 f1 v0 v1, rows = [entC f0.en v0, entC f1.en v1] ∧ fs[a]? = some f0 ∧ fs[b]? = some f1 ∧ DcOk f0.en ∧ DcOk f1.en := by
  generalize ho : [a, b] = o at h
  cases h with
  | nil => cases ho
  | snoc h hf hd hp =>
    rename_i o' rows' k f v
    have e1 : [a] ++ [b] = o' ++ [k] := ho
    obtain ⟨h1, h2⟩ := List.append_inj' e1 rfl
    have e2 : b = k := by simpa using h2
    subst e2
    subst h1
    generalize ho2 : [a] = o2 at h
    cases h with
    | nil => cases ho2
    | snoc h2 hf2 hd2 hp2 =>
      rename_i o3 rows3 k3 f3 v3
      have e3 : [] ++ [a] = o3 ++ [k3] := ho2
      obtain ⟨h3, h4⟩ := List.append_inj' e3 rfl
      have e4 : a = k3 := by simpa using h4
      subst e4
      subst h3
      obtain rfl : rows3 = [] := List.eq_nil_of_length_eq_zero (by have := h2.len.2; simpa using this)
      exact ⟨f3, f, v3, v, rfl, hf2, hf, hd2, hd⟩
theorem Initial_entries {ps : List Value} {T : TypeId} {four : Bool} {fst : Nat} {t : List UInt8} (hp : PsOk ps) (hf : 1 ≤ fst ∧ fst ≤ 31) (ht : t.length ≤ 10) (ht2 : ∀ c ∈ t, c.toNat < 128) (gI : Nat) :
    Ct Tryd.prog 18 [.slice (some ⟨gI, 0, none⟩) (NF (verF four) (inXs fst t)) (NF (verF four) (inXs fst t))] [(gI, blk (bys (writeF (verF four) 0 (inXs fst t))) 5), (2, blk ps T)]
      (fun v q => ∃ go cap l, v = .tuple #[.slice (some ⟨go, 0, none⟩) 2 cap, nv 0] ∧ l[27]? = some (.string (bar t)) ∧ l[30]? = some (.int .i64 3) ∧ l[31]? = some (.int .i64 (fst : Int)) ∧ q = [(gI, blk (bys (writeF (verF four) 0 (inXs fst t))) 5), (2, blk ps T), (go, blk l 41)]) := by
  obtain ⟨b1, b2⟩ := inTrav (fst := fst) (t := t) (verF four)
  refine Ct.ne fun hg => (Entries_good inXs_ok (inNames_ok hp hf ht ht2) inXs_lnk (inXs_size _) gI hg b1).less ?_
  rintro v post ⟨fs, pth, out, g, cap, r, rows, pp, -, ho, hes, hr, hok, rfl, rfl⟩
  rw [b2] at ho
  subst ho
  obtain ⟨f0, f1, v0, v1, rfl, h0, h1, d0, d1⟩ := hr.two
  cases g with
  | none => exact absurd hok.1 (by simp)
  | some go =>
    refine ⟨_, ⟨go, cap, _, rfl, ?_, ?_, ?_, rfl⟩, .cons_cons _ (.cons_cons _ (.cons_cons _ (List.nil_sublist _)))⟩
    all_goals
      have hcn := cnt_le (v := verF four) (inXs_ok (fst := fst) (t := t))
      have hl : (inXs fst t).length = 2 := rfl
      have e1 : (esF (verF four) 0 (inXs fst t) (inNames t))[1]? = some (enF (verF four) 0 (inXs fst t) (inNames t) 1) := by
        unfold esF
        rw [List.getElem?_map, List.getElem?_range (by omega)]; rfl
      have e2 := congrArg (fun l => l[1]?) hes
      simp only [List.getElem?_map, h1, e1, Option.map_some, Option.some.injEq] at e2
      have e3 : enF (verF four) 0 (inXs fst t) (inNames t) 1 = ⟨t, fst, .slice none 0 0, 3, 0, (enF (verF four) 0 (inXs fst t) (inNames t) 1).cur, 0, (enF (verF four) 0 (inXs fst t) (inNames t) 1).dc⟩ := by
        unfold enF
        rw [if_pos (by omega)]
        have q1 : (((inXs fst t).getD 1 default).name.getD 0 0).toNat = fst := by
          show (UInt8.ofNat fst).toNat = fst
          rw [UInt8.toNat_ofNat']; omega
        have q2 : szOfN (inXs fst t) 1 = 3 := rfl
        rw [q1, q2]
        rfl
      have n1 : f1.en.nm = t := by have := congrArg En.nm e2; rw [e3] at this; exact this
      have n2 : f1.en.ini = fst := by have := congrArg En.ini e2; rw [e3] at this; exact this
      have n3 : f1.en.size = 3 := by have := congrArg En.size e2; rw [e3] at this; exact this
      have lr := length_entC d0 v0
      rw [List.flatten_cons, List.flatten_cons, List.flatten_nil, List.append_nil, List.append_assoc, List.getElem?_append_right (by omega), lr]
    · show (entC f1.en v1 ++ r)[0]? = _
      rw [← n1]; rfl
    · show (entC f1.en v1 ++ r)[3]? = _
      rw [← n3]; rfl
    · show (entC f1.en v1 ++ r)[4]? = _
      rw [← n2]; rfl
end Go.Proofs.YtgoddcicbpjknaaDoor

/-! Plain: sorted places as trees. No program in sight. -/
namespace Cfb
/-- The places pl, as a tree by what is to the left and to the right; its top. -/
inductive STree (L R : Nat → Int) : List Nat → Int → Prop
  | nil : STree L R [] (-1)
  | node {a b : List Nat} {m : Nat} (ha : STree L R a (L m)) (hb : STree L R b (R m)) : STree L R (a ++ m :: b) (m : Int)
theorem STree.congr {L R L' R' : Nat → Int} {pl : List Nat} {t : Int} (h : STree L R pl t) (hl : ∀ m ∈ pl, L' m = L m) (hr : ∀ m ∈ pl, R' m = R m) : STree L' R' pl t := by
  induction h with
  | nil => exact .nil
  | node ha hb iha ihb =>
    rename_i a b m
    have em : m ∈ a ++ m :: b := by simp
    have e1 := hl m em
    have e2 := hr m em
    have h1 := iha (fun x hx => hl x (by simp [hx])) (fun x hx => hr x (by simp [hx]))
    have h2 := ihb (fun x hx => hl x (by simp [hx])) (fun x hx => hr x (by simp [hx]))
    rw [← e1] at h1
    rw [← e2] at h2
    exact .node h1 h2
theorem STree.top {L R : Nat → Int} {pl : List Nat} {t : Int} (h : STree L R pl t) : (pl = [] ∧ t = -1) ∨ (∃ m ∈ pl, t = (m : Int)) := by
  cases h with
  | nil => exact .inl ⟨rfl, rfl⟩
  | node ha hb => exact .inr ⟨_, by simp, rfl⟩
end Cfb

/-! Values: nodes linked as trees. -/
set_option maxRecDepth 20000
namespace Go.Proofs.YtgoddcicbpjknaaDoor
open Go
open Cfb
/-- A node, linked in another way. -/
def Nm.turn (x : Nm) (l r c : Int) : Nm := { x with nd := { x.nd with left := l, right := r, child := c } }
def lfF (ns : List Nm) (k : Nat) : Int := (ns.getD k default).nd.left
def rtF (ns : List Nm) (k : Nat) : Int := (ns.getD k default).nd.right
def chdF (ns : List Nm) (k : Nat) : Int := (ns.getD k default).nd.child
/-- ns' is ns, the places pl linked as a tree. -/
structure Shp (ns ns' : List Nm) (pl : List Nat) (top : Int) : Prop where
  len : ns'.length = ns.length
  off : ∀ k, k ∉ pl → ns'.getD k default = ns.getD k default
  on : ∀ k, k ∈ pl → ∃ l r, ns'.getD k default = (ns.getD k default).turn l r (chdF ns k)
  tree : STree (lfF ns') (rtF ns') pl top
theorem Shp.nil (ns : List Nm) : Shp ns ns [] (-1) := ⟨rfl, fun _ _ => rfl, fun _ h => (by cases h), .nil⟩
theorem turn_cells3 (x : Nm) (l : Int) : (x.turn l x.nd.right x.nd.child).cells = x.cells.set 3 (iv l) := rfl
theorem turn_cells4 (x : Nm) (r : Int) : (x.turn x.nd.left r x.nd.child).cells = x.cells.set 4 (iv r) := rfl
theorem turn_cells5 (x : Nm) (c : Int) : (x.turn x.nd.left x.nd.right c).cells = x.cells.set 5 (iv c) := rfl
theorem getD_setN (ns : List Nm) (k j : Nat) (x : Nm) (hk : k < ns.length) : (ns.set k x).getD j default = if k = j then x else ns.getD j default := by
  simp only [List.getD_eq_getElem?_getD, List.getElem?_set]
  split
  · simp [hk]
  · rfl
/-- A node's left side is linked, then its right side. -/
theorem Shp.join {n0 n1 n2 : List Nm} {a b : List Nat} {m : Nat} {ta tb : Int} (hm : m < n0.length) (ha : Shp n0 n1 a ta) (hb : Shp (n1.set m ((n1.getD m default).turn ta (rtF n1 m) (chdF n1 m))) n2 b tb)
    (hma : m ∉ a) (hmb : m ∉ b) (hab : ∀ x ∈ a, x ∉ b) : Shp n0 (n2.set m ((n2.getD m default).turn (lfF n2 m) tb (chdF n2 m))) (a ++ m :: b) (m : Int) := by
  obtain ⟨n1', e1'⟩ : ∃ x, x = n1.set m ((n1.getD m default).turn ta (rtF n1 m) (chdF n1 m)) := ⟨_, rfl⟩
  rw [← e1'] at hb
  have l1 : m < n1.length := by rw [ha.len]; exact hm
  have l1' : n1'.length = n0.length := by rw [e1', List.length_set, ha.len]
  have l2 : n2.length = n0.length := by rw [hb.len, l1']
  have g1 : ∀ j, n1'.getD j default = if m = j then (n1.getD m default).turn ta (rtF n1 m) (chdF n1 m) else n1.getD j default := fun j => by rw [e1']; exact getD_setN _ _ _ _ l1
  obtain ⟨n3, e3'⟩ : ∃ x, x = n2.set m ((n2.getD m default).turn (lfF n2 m) tb (chdF n2 m)) := ⟨_, rfl⟩
  have g2 : ∀ j, n3.getD j default = if m = j then (n2.getD m default).turn (lfF n2 m) tb (chdF n2 m) else n2.getD j default := fun j => by rw [e3']; exact getD_setN _ _ _ _ (by omega)
  have l3 : n3.length = n0.length := by rw [e3', List.length_set]; exact l2
  rw [← e3']
  have em : n2.getD m default = (n1.getD m default).turn ta (rtF n1 m) (chdF n1 m) := by rw [hb.off m hmb, g1, if_pos rfl]
  refine ⟨l3, ?_, ?_, ?_⟩
  · intro k hk
    have hk1 : k ≠ m := fun e => hk (by simp [e])
    have hka : k ∉ a := fun e => hk (by simp [e])
    have hkb : k ∉ b := fun e => hk (by simp [e])
    rw [g2, if_neg (fun e => hk1 e.symm), hb.off k hkb, g1, if_neg (fun e => hk1 e.symm), ha.off k hka]
  · intro k hk
    by_cases e : m = k
    · subst e
      rw [g2, if_pos rfl, em, ha.off m hma]
      refine ⟨ta, tb, ?_⟩
      simp only [Nm.turn, lfF, chdF, em]
      rw [ha.off m hma]
    · rw [g2, if_neg e]
      simp only [List.mem_append, List.mem_cons] at hk
      rcases hk with hk | hk | hk
      · obtain ⟨l, r, h1⟩ := ha.on k hk
        rw [hb.off k (hab k hk), g1, if_neg e, h1]
        exact ⟨l, r, rfl⟩
      · exact absurd hk.symm e
      · obtain ⟨l, r, h1⟩ := hb.on k hk
        have hka : k ∉ a := fun hx => hab k hx hk
        have e3 : n1'.getD k default = n0.getD k default := by rw [g1, if_neg e, ha.off k hka]
        refine ⟨l, r, ?_⟩
        rw [h1, e3]
        simp only [chdF, e3]
  · have eL : ∀ j, j ≠ m → lfF n3 j = lfF n2 j := fun j hj => by unfold lfF; rw [g2, if_neg (fun e => hj e.symm)]
    have eR : ∀ j, j ≠ m → rtF n3 j = rtF n2 j := fun j hj => by unfold rtF; rw [g2, if_neg (fun e => hj e.symm)]
    have eLm : lfF n3 m = ta := by
      unfold lfF; rw [g2, if_pos rfl]; show (n2.getD m default).nd.left = ta; rw [em]; rfl
    have eRm : rtF n3 m = tb := by
      unfold rtF; rw [g2, if_pos rfl]; rfl
    refine .node ?_ ?_
    · rw [eLm]
      refine ha.tree.congr (fun x hx => ?_) (fun x hx => ?_)
      · have hxm : x ≠ m := fun e => hma (e ▸ hx)
        rw [eL x hxm]; unfold lfF; rw [hb.off x (hab x hx), g1, if_neg (fun e => hxm e.symm)]
      · have hxm : x ≠ m := fun e => hma (e ▸ hx)
        rw [eR x hxm]; unfold rtF; rw [hb.off x (hab x hx), g1, if_neg (fun e => hxm e.symm)]
    · rw [eRm]
      refine hb.tree.congr (fun x hx => ?_) (fun x hx => ?_)
      · exact eL x (fun e => hmb (e ▸ hx))
      · exact eR x (fun e => hmb (e ▸ hx))
/-- A slice of numbers, or of none. -/
def NumOk (D : Heap) (p : Option Addr) (n : Nat) : Prop := n = 0 ∨ ∃ (b o : Nat) (l : List Value) (T : TypeId) (fz : Nat × Nat), p = some ⟨b, o, none⟩ ∧ (b, Obj.cells l.toArray T fz) ∈ D ∧ ∀ i, i < n → ∃ x : Nat, x ≤ 4294967295 ∧ l[o + i]? = some (uv x)
theorem wrap_nat (x : Int) : ∃ m : Nat, IntKind.u32.wrap x = (m : Int) ∧ m ≤ 4294967295 := by
  have h : IntKind.u32.wrap x = x % 4294967296 := by simp [IntKind.wrap, IntKind.signed, IntKind.bits]
  refine ⟨(IntKind.u32.wrap x).toNat, ?_, ?_⟩ <;> omega
end Go.Proofs.YtgoddcicbpjknaaDoor

/-! Walks: few, less, shaped. -/
set_option maxRecDepth 20000
namespace Go.Proofs.YtgoddcicbpjknaaDoor
open Go
open Cfb
set_option maxHeartbeats 4000000 in
theorem few_ct (p q : Option Addr) (n c m d : Nat) : Ct Tryd.prog 13 [.slice p n c, .slice q m d] [] (fun v h => v = .bool (decide (n ≤ 100 ∧ m ≤ 1000)) ∧ h = []) := by
  refine Ct_of Tryd.func13 rfl Tryd.ntmps13 rfl ?_
  intro E F
  simp only [numL, List.nil_append, List.cons_append]
  refine CW_seq ?_
  refine CW_region ?_
  refine RW_a ?_
  refine RW_lv (ks := [0, 1]) ?_
  refine CW_seq ?_
  refine CW_region ?_
  refine RW_m ?_
  refine RW_l (Yl_len rfl sl_22) ?_
  refine RW_l (Yl_leq rfl rfl) ?_
  refine RW_m ?_
  refine RW_bool 8 rfl (fun hg1 => ?_) (fun hg1 => ?_)
  · replace hg1 := of_decide_eq_true hg1
    refine RW_gy rfl rfl rfl (Yl.h (Yl_move rfl)) ?_
    refine RW_gy rfl rfl rfl (Yl.h (Yl_len rfl sl_23)) ?_
    refine RW_gy rfl rfl rfl (Yl.h (Yl_leq rfl rfl)) ?_
    refine RW_l (Yl_pick_t rfl rfl) ?_
    refine RW_a ?_
    refine RW_lv (ks := [4]) ?_
    refine CW_ret ?_
    exact QW_ret1 rfl rfl [] ⟨by congr 1; apply Bool.eq_iff_iff.2; simp only [decide_eq_true_eq]; first | (constructor <;> intro h <;> omega) | (simp; omega), rfl⟩ (Prm.nil _)
  · replace hg1 := of_decide_eq_false hg1
    refine RW_skip rfl rfl rfl ?_
    refine RW_skip rfl rfl rfl ?_
    refine RW_skip rfl rfl rfl ?_
    refine RW_l (Yl_pick_f rfl rfl) ?_
    refine RW_a ?_
    refine RW_lv (ks := [4]) ?_
    refine CW_ret ?_
    exact QW_ret1 rfl rfl [] ⟨by congr 1; apply Bool.eq_iff_iff.2; simp only [decide_eq_true_eq]; first | (constructor <;> intro h <;> omega) | (simp; omega), rfl⟩ (Prm.nil _)
set_option maxHeartbeats 4000000 in
theorem less_ct (s r : ByteArray) : Ct Tryd.prog 22 [.string s, .string r] [] (fun v h => (∃ b, v = .bool b) ∧ h = []) := by
  refine Ct_of Tryd.func22 rfl Tryd.ntmps22 rfl ?_
  intro E F
  simp only [numL, List.nil_append, List.cons_append]
  refine CW_seq ?_
  refine CW_region ?_
  refine RW_a ?_
  refine RW_lv (ks := [0, 1]) ?_
  refine CW_seq ?_
  refine CW_seq ?_
  refine CW_region ?_
  refine RW_m ?_
  refine RW_l (Yl_lenS rfl st_9) ?_
  refine RW_m ?_
  refine RW_l (Yl_lenS rfl st_9) ?_
  refine RW_l (Yl_neq rfl rfl) ?_
  refine RW_lv (ks := [0, 1, 9]) ?_
  refine CW_cond rfl (fun hc1 => ?_) (fun hc1 => ?_)
  · replace hc1 := of_decide_eq_true hc1
    refine CW_seq ?_
    refine CW_region ?_
    refine RW_m ?_
    refine RW_l (Yl_lenS rfl st_9) ?_
    refine RW_m ?_
    refine RW_l (Yl_lenS rfl st_9) ?_
    refine RW_l (Yl_lss rfl rfl) ?_
    refine RW_a ?_
    refine RW_lv (ks := [4]) ?_
    refine CW_ret ?_
    refine QW_ret_then ?_
    exact QW_ret1 rfl rfl [] ⟨⟨_, rfl⟩, rfl⟩ (Prm.nil _)
  · replace hc1 := of_decide_eq_false hc1
    refine (CW_skip (QW_lv (ks := [0, 1]) ?_))
    refine CW_seq ?_
    refine CW_region ?_
    refine RW_m ?_
    refine RW_m ?_
    refine RW_l (Yl_strLess rfl rfl) ?_
    refine RW_a ?_
    refine RW_lv (ks := [4]) ?_
    refine CW_ret ?_
    exact QW_ret1 rfl rfl [] ⟨⟨_, rfl⟩, rfl⟩ (Prm.nil _)
set_option maxHeartbeats 4000000 in
theorem shaped0_ct (v0 : Value) (p : Option Addr) (c : Nat) (at_ : Int) (nu : Value) : Ct Tryd.prog 23 [v0, .slice p 0 c, nu, .int .i64 at_] [] (fun v h => v = iv (-1) ∧ h = []) := by
  refine Ct_of Tryd.func23 rfl Tryd.ntmps23 rfl ?_
  intro E F
  simp only [numL, List.nil_append, List.cons_append]
  refine CW_seq ?_
  refine CW_region ?_
  refine RW_a ?_
  refine RW_lv (ks := [0, 1, 2, 3]) ?_
  refine CW_seq ?_
  refine CW_seq ?_
  refine CW_region ?_
  refine RW_m ?_
  refine RW_l (Yl_len rfl sl_29) ?_
  refine RW_l (Yl_eql rfl rfl) ?_
  refine RW_lv (ks := [0, 1, 2, 3, 13]) ?_
  refine CW_cond rfl (fun hc1 => ?_) (fun hc1 => ?_)
  · replace hc1 := of_decide_eq_true hc1
    refine CW_seq ?_
    refine CW_region ?_
    refine RW_a ?_
    refine RW_lv (ks := [8]) ?_
    refine CW_ret ?_
    refine QW_ret_then ?_
    exact QW_ret1 rfl rfl [] ⟨rfl, rfl⟩ (Prm.nil _)
  · replace hc1 := of_decide_eq_false hc1
    exact absurd rfl hc1
/-- What linking some places gives. -/
def SCt (g cl bp nN cN : Nat) (pN : Option Addr) (r lp : List Value) (D : Heap) (n : Nat) : Prop :=
  ∀ (ns : List Nm) (pl : List Nat) (p : Option Addr) (m c : Nat) (at_ : Nat), pl.length = m → m ≤ n → m ≤ c → pl.Nodup → (∀ k ∈ pl, k < ns.length) → ns.length ≤ 100 → (at_ + 2) * 2 ^ n ≤ 1000000000000 → (m = 0 ∨ ∃ o, p = some ⟨bp, o, none⟩ ∧ ∀ i, i < m → lp[o + i]? = some (nv (pl.getD i 0))) →
    Ct Tryd.prog 23 [.slice (some ⟨g, 0, none⟩) ns.length cl, .slice p m c, .slice pN nN cN, nv at_] ((g, blk (nms ns ++ r) 43) :: (bp, blk lp 3) :: D) (fun v q => ∃ ns' top, v = iv top ∧ Shp ns ns' pl top ∧ q = (g, blk (nms ns' ++ r) 43) :: (bp, blk lp 3) :: D)
set_option maxHeartbeats 4000000 in
theorem shaped_step (g cl bp nN cN : Nat) (pN : Option Addr) (r lp : List Value) (D : Heap) (hnum : NumOk D pN nN) (hnN : nN ≤ 1000000000) (n : Nat) (ih : SCt g cl bp nN cN pN r lp D n)
    (ns : List Nm) (pl : List Nat) (o m c : Nat) (at_ : Nat) (hlm : pl.length = m) (hmn : m ≤ n + 1) (hmc : m ≤ c) (hnd : pl.Nodup) (hpl : ∀ k ∈ pl, k < ns.length) (hns : ns.length ≤ 100) (hat : (at_ + 2) * 2 ^ (n + 1) ≤ 1000000000000) (hm0 : 1 ≤ m) (hmb : m ≤ 100) (hatb : at_ ≤ 1000000000000) (hlp : ∀ i, i < m → lp[o + i]? = some (nv (pl.getD i 0))) :
    Ct Tryd.prog 23 [.slice (some ⟨g, 0, none⟩) ns.length cl, .slice (some ⟨bp, o, none⟩) m c, .slice pN nN cN, nv at_] ((g, blk (nms ns ++ r) 43) :: (bp, blk lp 3) :: D) (fun v q => ∃ ns' top, v = iv top ∧ Shp ns ns' pl top ∧ q = (g, blk (nms ns' ++ r) 43) :: (bp, blk lp 3) :: D) := by
  refine Ct_of Tryd.func23 rfl Tryd.ntmps23 rfl ?_
  intro E F
  simp only [numL, List.nil_append, List.cons_append]
  refine CW_seq ?_
  refine CW_region ?_
  refine RW_a ?_
  refine RW_lv (ks := [0, 1, 2, 3]) ?_
  refine CW_seq ?_
  refine CW_seq ?_
  refine CW_region ?_
  refine RW_m ?_
  refine RW_l (Yl_len rfl sl_29) ?_
  refine RW_l (Yl_eql rfl rfl) ?_
  refine RW_lv (ks := [0, 1, 2, 3, 13]) ?_
  refine CW_cond rfl (fun hc1 => ?_) (fun hc1 => ?_)
  · replace hc1 := of_decide_eq_true hc1
    exfalso
    omega
  · replace hc1 := of_decide_eq_false hc1
    refine (CW_skip (QW_lv (ks := [0, 1, 2, 3]) ?_))
    refine CW_seq ?_
    obtain ⟨y0, hy0, hy0b⟩ := wrap_nat (IntKind.u32.wrap (at_ : Int) * 2654435761)
    refine CW_region ?_
    refine RW_m ?_
    refine RW_l (Yl_conv (c := IntKind.u32.wrap (at_ : Int)) rfl in_3 in_67 rfl) ?_
    refine RW_l (Yl_mul (c := (y0 : Int)) rfl rfl hy0) ?_
    refine RW_l (Yl_shr (c := ((y0 / 128 : Nat) : Int)) rfl rfl (by omega) (by show (y0 : Int).fdiv 128 = _; rw [Int.fdiv_eq_ediv_of_nonneg _ (by omega)]; omega)) ?_
    refine RW_a ?_
    refine RW_lv (ks := [0, 1, 2, 3, 9]) ?_
    refine CW_cut (σ := Nat) (fun q => [(0, .slice (some ⟨g, 0, none⟩) ns.length cl), (1, .slice (some ⟨bp, o, none⟩) m c), (2, .slice pN nN cN), (3, nv at_), (9, uv q)]) (fun _ => (g, blk (nms ns ++ r) 43) :: (bp, blk lp 3) :: (D ++ F)) (fun q => q ≤ 4294967295) ?_ ?_
    · skip
      refine CW_seq ?_
      obtain ⟨z0, hz0⟩ : ∃ z0, z0 = y0 / 128 := ⟨_, rfl⟩
      rw [← hz0]
      have hz0b : z0 ≤ 4294967295 := by omega
      refine CW_region ?_
      refine RW_m ?_
      refine RW_l (Yl_len rfl sl_22) ?_
      refine RW_l (Yl_gtr rfl rfl) ?_
      refine RW_lv (ks := [0, 1, 2, 3, 9, 20]) ?_
      refine CW_cond rfl (fun hc2 => ?_) (fun hc2 => ?_)
      · replace hc2 := of_decide_eq_true hc2
        rcases hnum with h0 | ⟨bn, on, lN, Tn, fzn, rfl, hmN, hxN⟩
        · exfalso; omega
        have hatn : at_ % nN < nN := Nat.mod_lt _ (by omega)
        obtain ⟨xq, hxq1, hxq⟩ := hxN (at_ % nN) hatn
        obtain ⟨z2, hz2, hz2b⟩ := wrap_nat ((z0 : Int) + (xq : Int))
        refine CW_region ?_
        refine RW_m ?_
        refine RW_m ?_
        refine RW_m ?_
        refine RW_m ?_
        refine RW_l (Yl_len rfl sl_22) ?_
        refine RW_l (Yl_rem (c := ((at_ % nN : Nat) : Int)) rfl rfl (by omega) (remN at_ nN)) ?_
        refine RW_l (Yl_indexN (b := bn) (off := on) (i := at_ % nN) (o' := on + at_ % nN) rfl rfl sl_22 hatn (by omega)) ?_
        refine RW_h (Yh_load (v := uv xq) rfl sc_67 ((show List.Sublist D _ by repeat (first | exact List.sublist_append_left _ _ | apply List.Sublist.cons)).subset hmN) hxq) ?_
        refine RW_l (Yl_add (c := (z2 : Int)) rfl rfl hz2) ?_
        refine RW_a ?_
        refine RW_nil ?_
        first
          | exact QW_cut z2 hz2b (by repeat (first | exact Prm.nil _ | exact Rem.here _ _ | apply Rem.there | apply Prm.cons)) (.cons rfl (.cons rfl (.cons rfl (.cons rfl (.cons rfl .nil)))))
          | exact QW_cut z0 hz0b (by repeat (first | exact Prm.nil _ | exact Rem.here _ _ | apply Rem.there | apply Prm.cons)) (.cons rfl (.cons rfl (.cons rfl (.cons rfl (.cons rfl .nil)))))
      · replace hc2 := of_decide_eq_false hc2
        refine CW_skip ?_
        first
          | exact QW_cut z2 hz2b (by repeat (first | exact Prm.nil _ | exact Rem.here _ _ | apply Rem.there | apply Prm.cons)) (.cons rfl (.cons rfl (.cons rfl (.cons rfl (.cons rfl .nil)))))
          | exact QW_cut z0 hz0b (by repeat (first | exact Prm.nil _ | exact Rem.here _ _ | apply Rem.there | apply Prm.cons)) (.cons rfl (.cons rfl (.cons rfl (.cons rfl (.cons rfl .nil)))))
    · rintro z hz
      refine CW_seq ?_
      obtain ⟨k, hk⟩ : ∃ k, k = z % m := ⟨_, rfl⟩
      have hkm : k < m := by rw [hk]; exact Nat.mod_lt _ (by omega)
      have hB2 : (2 * at_ + 2 + 2) * 2 ^ n ≤ 1000000000000 := by
        rw [show 2 * at_ + 2 + 2 = (at_ + 2) * 2 by omega, Nat.mul_assoc, Nat.mul_comm 2, ← Nat.pow_succ]; exact hat
      have hA2 : (2 * at_ + 1 + 2) * 2 ^ n ≤ 1000000000000 := Nat.le_trans (Nat.mul_le_mul_right _ (by omega)) hB2
      refine CW_region ?_
      refine RW_m ?_
      refine RW_m ?_
      refine RW_l (Yl_len rfl sl_29) ?_
      refine RW_l (Yl_conv (c := (m : Int)) rfl in_3 in_67 (wu32 (by omega) (by omega))) ?_
      refine RW_l (Yl_rem (c := (k : Int)) rfl rfl (by omega) (by rw [hk]; exact remN z m)) ?_
      refine RW_l (Yl_conv (c := (k : Int)) rfl in_67 in_3 (wi64 (by omega) (by omega))) ?_
      refine RW_a ?_
      refine RW_lv (ks := [0, 1, 2, 3, 10]) ?_
      refine CW_seq ?_
      obtain ⟨j, hjj⟩ : ∃ j, j = pl.getD k 0 := ⟨_, rfl⟩
      have hj : lp[o + k]? = some (nv j) := by rw [hjj]; exact hlp k hkm
      have hsp : pl = pl.take k ++ j :: pl.drop (k + 1) := by
        have e := List.take_append_drop k pl
        rw [List.drop_eq_getElem_cons (by omega)] at e
        rw [hjj, List.getD_eq_getElem?_getD, List.getElem?_eq_getElem (by omega)]; exact e.symm
      have hjm : j ∈ pl := by rw [hsp]; simp
      have hjn := hpl j hjm
      rw [hsp] at hnd
      have hnd2 := List.nodup_append.1 hnd
      have hnd3 := List.nodup_cons.1 hnd2.2.1
      have hja : j ∉ pl.take k := fun hx => hnd2.2.2 j hx j (by simp) rfl
      have hjb : j ∉ pl.drop (k + 1) := hnd3.1
      have hab : ∀ x ∈ pl.take k, x ∉ pl.drop (k + 1) := fun x hx hy => hnd2.2.2 x hx x (by simp [hy]) rfl
      have hA := ih ns (pl.take k) (some ⟨bp, o, none⟩) k c (2 * at_ + 1) (by simp; omega) (by omega) (by omega) hnd2.1 (fun x hx => hpl x (List.mem_of_mem_take hx)) hns hA2 (.inr ⟨o, rfl, fun i hi => by rw [hlp i (by omega)]; simp [List.getD_eq_getElem?_getD, List.getElem?_take, hi]⟩)
      refine CW_draw [16] [(bp, blk lp 3)] mixed (by repeat (first | exact Sub.nil _ | apply Sub.cons | exact Rem.here _ _ | apply Rem.there)) ?_
      refine RD_l 0 rfl (Yl_move rfl) ?_
      refine RD_l 1 rfl (Yl_move rfl) ?_
      refine RD_l 2 rfl (Yl_move rfl) ?_
      refine RD_l 3 rfl (Yl_indexN (b := bp) (off := o) (i := k) (o' := o + k) rfl rfl sl_29 (by omega) (by omega)) ?_
      refine RD_l 5 rfl (Yl_move rfl) ?_
      refine RD_l 6 rfl (Yl_move rfl) ?_
      refine RD_l 7 rfl (Yl_move rfl) ?_
      refine RD_l 8 rfl (Yl_cutHN (h := k) rfl rfl sl_29 (by omega)) ?_
      refine RD_l 9 rfl (Yl_move rfl) ?_
      refine RD_l 10 rfl (Yl_move rfl) ?_
      refine RD_l 11 rfl (Yl_mul (c := ((2 * at_ : Nat) : Int)) rfl rfl (mulN (a := 2) (b := at_) (by omega))) ?_
      refine RD_l 12 rfl (Yl_add (c := ((2 * at_ + 1 : Nat) : Int)) rfl rfl (wi64 (by omega) (by omega))) ?_
      refine RD_h (i := 4) #[true, true, true, true, false, true, true, true, true, true, true, true, true, true, false, false, false] rfl rfl rfl rfl (by kernel_rfl) (fun _ _ _ h => h) (Yh_load (v := nv j) rfl sc_3 (by repeat (first | exact List.Mem.head _ | apply List.Mem.tail)) hj) ?_
      refine RD_one (i := 13) (by kernel_rfl) ?_
      refine RO_fx rfl rfl rfl rfl (Fx_call ok_23 (vs := [.slice (some ⟨g, 0, none⟩) ns.length cl, .slice (some ⟨bp, o, none⟩) k c, .slice pN nN cN, nv (2 * at_ + 1)]) rfl (Pick.cons (by repeat (first | exact Rem.here _ _ | apply Rem.there)) (Pick.cons (by repeat (first | exact Rem.here _ _ | apply Rem.there)) (pick_app D F))) hA) ?_
      rintro _ _ ⟨_, ⟨n1, ta, rfl, hSa, rfl⟩, rfl⟩
      simp only [List.cons_append]
      have hla := hSa.len
      refine ⟨Or.inr (by repeat (first | exact Sub.nil _ | apply Sub.cons | exact Rem.here _ _ | apply Rem.there)), ?_⟩
      refine RD_l 14 rfl (Yl_indexN (b := g) (off := 0) (i := j) (o' := j * 28) rfl rfl sl_25 (by omega) (by omega)) ?_
      refine RD_l 15 rfl (Yl_field rfl fo_43_3) ?_
      refine RD_one (i := 16) (by kernel_rfl) ?_
      refine RO_fx0 rfl rfl rfl (Fx_store (v := iv ta) (b := g) (off := j * 28 + 3) rfl rfl sz_3 rfl (by repeat (first | exact Rep.here _ _ _ | apply Rep.there)) (by rw [List.length_append, length_nms]; omega)) ?_
      rintro _ _ rfl
      refine ⟨Or.inl (by kernel_rfl), ?_⟩
      refine (RD_done (by kernel_rfl) (QW_lv (ks := [0, 1, 2, 3, 10]) ?_))
      refine CW_seq ?_
      have hset1 := nms_set n1 j 3 (iv ta) ((n1.getD j default).turn ta (rtF n1 j) (chdF n1 j)) r (by rw [hSa.len]; exact hjn) (by omega) rfl
      rw [hset1]
      have hl1 : ns.length = (n1.set j ((n1.getD j default).turn ta (rtF n1 j) (chdF n1 j))).length := by rw [List.length_set]; exact hSa.len.symm
      have hBc := ih (n1.set j ((n1.getD j default).turn ta (rtF n1 j) (chdF n1 j))) (pl.drop (k + 1)) (some ⟨bp, if c = k + 1 then o else o + (k + 1) * 1, none⟩) (m - (k + 1)) (c - (k + 1)) (2 * at_ + 2) (by simp; omega) (by omega) (by omega) hnd3.2 (fun x hx => by rw [← hl1]; exact hpl x (List.mem_of_mem_drop hx)) (by omega) hB2 (by rcases Nat.eq_zero_or_pos (m - (k + 1)) with h0 | h0; exact .inl h0; exact .inr ⟨o + (k + 1), by rw [if_neg (by omega), Nat.mul_one], fun i hi => by rw [show o + (k + 1) + i = o + (k + 1 + i) by omega, hlp (k + 1 + i) (by omega)]; simp [List.getD_eq_getElem?_getD, List.getElem?_drop]⟩)
      rw [← hl1] at hBc
      refine CW_draw [17] [(bp, blk lp 3)] mixed (by repeat (first | exact Sub.nil _ | apply Sub.cons | exact Rem.here _ _ | apply Rem.there)) ?_
      refine RD_l 0 rfl (Yl_move rfl) ?_
      refine RD_l 1 rfl (Yl_move rfl) ?_
      refine RD_l 2 rfl (Yl_move rfl) ?_
      refine RD_l 3 rfl (Yl_indexN (b := bp) (off := o) (i := k) (o' := o + k) rfl rfl sl_29 (by omega) (by omega)) ?_
      refine RD_l 5 rfl (Yl_move rfl) ?_
      refine RD_l 6 rfl (Yl_move rfl) ?_
      refine RD_l 7 rfl (Yl_move rfl) ?_
      refine RD_l 8 rfl (Yl_add (c := ((k + 1 : Nat) : Int)) rfl rfl (wi64 (by omega) (by omega))) ?_
      refine RD_l 9 rfl (Yl_cutLN (l := k + 1) rfl rfl sl_29 (by omega)) ?_
      refine RD_l 10 rfl (Yl_move rfl) ?_
      refine RD_l 11 rfl (Yl_move rfl) ?_
      refine RD_l 12 rfl (Yl_mul (c := ((2 * at_ : Nat) : Int)) rfl rfl (mulN (a := 2) (b := at_) (by omega))) ?_
      refine RD_l 13 rfl (Yl_add (c := ((2 * at_ + 2 : Nat) : Int)) rfl rfl (wi64 (by omega) (by omega))) ?_
      refine RD_h (i := 4) #[true, true, true, true, false, true, true, true, true, true, true, true, true, true, true, false, false, false] rfl rfl rfl rfl (by kernel_rfl) (fun _ _ _ h => h) (Yh_load (v := nv j) rfl sc_3 (by repeat (first | exact List.Mem.head _ | apply List.Mem.tail)) hj) ?_
      refine RD_one (i := 14) (by kernel_rfl) ?_
      refine RO_fx rfl rfl rfl rfl (Fx_call ok_23 (vs := [.slice (some ⟨g, 0, none⟩) ns.length cl, .slice (some ⟨bp, if c = k + 1 then o else o + (k + 1) * 1, none⟩) (m - (k + 1)) (c - (k + 1)), .slice pN nN cN, nv (2 * at_ + 2)]) rfl (Pick.cons (by repeat (first | exact Rem.here _ _ | apply Rem.there)) (Pick.cons (by repeat (first | exact Rem.here _ _ | apply Rem.there)) (pick_app D F))) hBc) ?_
      rintro _ _ ⟨_, ⟨n2, tb, rfl, hSb, rfl⟩, rfl⟩
      simp only [List.cons_append]
      have hlb := hSb.len
      rw [List.length_set] at hlb
      refine ⟨Or.inr (by repeat (first | exact Sub.nil _ | apply Sub.cons | exact Rem.here _ _ | apply Rem.there)), ?_⟩
      refine RD_l 15 rfl (Yl_indexN (b := g) (off := 0) (i := j) (o' := j * 28) rfl rfl sl_25 (by omega) (by omega)) ?_
      refine RD_l 16 rfl (Yl_field rfl fo_43_4) ?_
      refine RD_one (i := 17) (by kernel_rfl) ?_
      refine RO_fx0 rfl rfl rfl (Fx_store (v := iv tb) (b := g) (off := j * 28 + 4) rfl rfl sz_3 rfl (by repeat (first | exact Rep.here _ _ _ | apply Rep.there)) (by rw [List.length_append, length_nms]; omega)) ?_
      rintro _ _ rfl
      refine ⟨Or.inl (by kernel_rfl), ?_⟩
      refine (RD_done (by kernel_rfl) (QW_lv (ks := [1, 10]) ?_))
      refine CW_seq ?_
      have hset2 := nms_set n2 j 4 (iv tb) ((n2.getD j default).turn (lfF n2 j) tb (chdF n2 j)) r (by rw [hSb.len, ← hl1]; exact hjn) (by omega) rfl
      rw [hset2]
      have hfin := Shp.join hjn hSa hSb hja hjb hab
      rw [← hsp] at hfin
      refine CW_region ?_
      refine RW_m ?_
      refine RW_m ?_
      refine RW_l (Yl_indexN (b := bp) (off := o) (i := k) (o' := o + k) rfl rfl sl_29 (by omega) (by omega)) ?_
      refine RW_h (Yh_load (v := nv j) rfl sc_3 (by repeat (first | exact List.Mem.head _ | apply List.Mem.tail)) hj) ?_
      refine RW_a ?_
      refine RW_lv (ks := [8]) ?_
      refine CW_ret ?_
      exact QW_ret1 rfl rfl (_ :: _ :: D) ⟨_, _, rfl, hfin, rfl⟩ (Prm.nil _)
theorem shaped_ct (g cl bp nN cN : Nat) (pN : Option Addr) (r lp : List Value) (D : Heap) (hnum : NumOk D pN nN) (hnN : nN ≤ 1000000000) : ∀ n, SCt g cl bp nN cN pN r lp D n := by
  have z : ∀ (ns : List Nm) (pl : List Nat) (p : Option Addr) (c at_ : Nat), pl.length = 0 → Ct Tryd.prog 23 [.slice (some ⟨g, 0, none⟩) ns.length cl, .slice p 0 c, .slice pN nN cN, nv at_] ((g, blk (nms ns ++ r) 43) :: (bp, blk lp 3) :: D) (fun v q => ∃ ns' top, v = iv top ∧ Shp ns ns' pl top ∧ q = (g, blk (nms ns' ++ r) 43) :: (bp, blk lp 3) :: D) := by
    intro ns pl p c at_ h
    obtain rfl := List.eq_nil_of_length_eq_zero h
    refine ((shaped0_ct (.slice (some ⟨g, 0, none⟩) ns.length cl) p c at_ (.slice pN nN cN)).frame (G := (g, blk (nms ns ++ r) 43) :: (bp, blk lp 3) :: D)).mono ?_
    rintro v q ⟨post, ⟨rfl, rfl⟩, rfl⟩
    exact ⟨ns, -1, rfl, Shp.nil ns, rfl⟩
  intro n
  induction n with
  | zero =>
    intro ns pl p m c at_ h1 h2 _ _ _ _ _ _
    obtain rfl : m = 0 := by omega
    exact z ns pl p c at_ h1
  | succ n ih =>
    intro ns pl p m c at_ h1 h2 h3 h4 h5 h6 h7 h8
    rcases h8 with rfl | ⟨o, rfl, h8⟩
    · exact z ns pl p c at_ h1
    · rcases Nat.eq_zero_or_pos m with rfl | hm
      · exact z ns pl _ c at_ h1
      · have hmb : pl.length ≤ 100 := by
          have := List.Nodup.length_le_of_subset h4 (l₂ := List.range ns.length) (fun x hx => List.mem_range.2 (h5 x hx))
          simp at this; omega
        refine shaped_step g cl bp nN cN pN r lp D hnum hnN n ih ns pl o m c at_ h1 h2 h3 h4 h5 h6 h7 hm (by omega) ?_ h8
        have h9 : 1 ≤ 2 ^ (n + 1) := Nat.one_le_two_pow
        have := Nat.mul_le_mul_left (at_ + 2) h9
        omega
end Go.Proofs.YtgoddcicbpjknaaDoor

/-! Values: nodes as they are made, lists of places below each. -/
set_option maxRecDepth 20000
namespace Go.Proofs.YtgoddcicbpjknaaDoor
open Go
open Cfb
def Nm.setCls (x : Nm) (j : Nat) (y : UInt8) : Nm := { x with nd := { x.nd with cls := x.nd.cls.set j y, h16 := by simp [x.nd.h16] } }
def Nm.setSt (x : Nm) (j : Nat) (y : UInt8) : Nm := { x with nd := { x.nd with state := x.nd.state.set j y, h4 := by simp [x.nd.h4] } }
def Nm.setData (x : Nm) (d : List UInt8) (o : Option Nat) (cap : Nat) (r : List Value) : Nm := { nd := { x.nd with data := d }, b := o, cap := cap, rest := r }
theorem cells_setCls (x : Nm) {j : Nat} (hj : j < 16) (y : UInt8) : x.cells.set (6 + j) (bv y) = (x.setCls j y).cells := by
  unfold Nm.cells
  rw [show 6 + j = j + 1 + 1 + 1 + 1 + 1 + 1 by omega]
  simp only [List.set_cons_succ]
  rw [List.set_append_left _ _ (by simp [x.nd.h16]; exact hj), bys_set]
  rfl
theorem cells_setSt (x : Nm) {j : Nat} (hj : j < 4) (y : UInt8) : x.cells.set (22 + j) (bv y) = (x.setSt j y).cells := by
  unfold Nm.cells
  rw [show 22 + j = (16 + j) + 1 + 1 + 1 + 1 + 1 + 1 by omega]
  simp only [List.set_cons_succ]
  rw [List.set_append_right _ _ (by simp [x.nd.h16]), show 16 + j - (bys x.nd.cls).length = j by simp [x.nd.h16], List.set_append_left _ _ (by simp [x.nd.h4]; exact hj), bys_set]
  rfl
theorem cells_setData (x : Nm) (d : List UInt8) (g cap : Nat) (r : List Value) : x.cells.set 2 (.slice (some ⟨g, 0, none⟩) d.length cap) = (x.setData d (some g) cap r).cells := rfl
theorem xor_u8 (a b : UInt8) : ∃ y : UInt8, ∀ w, (Op.intBits .xor .u8 (a.toNat : Int) (b.toNat : Int)).run Tryd.prog w = .ok (bv y) w := by
  refine ⟨UInt8.ofNat (IntKind.u8.wrap (((BitVec.ofInt IntKind.u8.bits (a.toNat : Int)) ^^^ (BitVec.ofInt IntKind.u8.bits (b.toNat : Int))).toNat : Int)).toNat, fun w => ?_⟩
  have h : ∀ z : Int, IntKind.u8.wrap z = z % 256 := fun z => by simp [IntKind.wrap, IntKind.signed, IntKind.bits]
  simp only [Op.intBits]
  simp only [bv, UInt8.toNat_ofNat']
  generalize ((BitVec.ofInt IntKind.u8.bits (a.toNat : Int)) ^^^ (BitVec.ofInt IntKind.u8.bits (b.toNat : Int))).toNat = z
  have e : ((IntKind.u8.wrap (z : Int)).toNat % 2 ^ 8 : Nat) = (IntKind.u8.wrap (z : Int)).toNat := by rw [h]; omega
  rw [e]
  have e2 : ((IntKind.u8.wrap (z : Int)).toNat : Int) = IntKind.u8.wrap (z : Int) := by rw [h]; omega
  rw [e2]
  rfl
theorem wrap_byte (z : Int) : ∃ y : UInt8, IntKind.u8.wrap z = (y.toNat : Int) := by
  have h : IntKind.u8.wrap z = z % 256 := by simp [IntKind.wrap, IntKind.signed, IntKind.bits]
  refine ⟨UInt8.ofNat (z % 256).toNat, ?_⟩
  rw [h, UInt8.toNat_ofNat']
  omega
/-- Bytes, or none. -/
def BytOk (D : Heap) (p : Option Addr) (n : Nat) : Prop := n = 0 ∨ ∃ (b o : Nat) (l : List Value) (T : TypeId) (fz : Nat × Nat), p = some ⟨b, o, none⟩ ∧ (b, Obj.cells l.toArray T fz) ∈ D ∧ ∀ i, i < n → ∃ x : UInt8, l[o + i]? = some (bv x)
/-- A list of places in memory. -/
structure Bl where
  l : List Nat
  o : Option Nat
  cap : Nat
  rest : List Value
instance : Inhabited Bl := ⟨⟨[], none, 0, []⟩⟩
def Bl.val (b : Bl) : Value := osl b.o b.l.length b.cap
def Bl.heap (b : Bl) : Heap := oH b.o (nats b.l ++ b.rest) 3
def Bl.ok (b : Bl) : Prop := oOk b.o (nats b.l) b.rest b.l.length b.cap 1
abbrev blsH (bs : List Bl) : Heap := bs.flatMap Bl.heap
theorem blsH_perm : ∀ (bs : List Bl) (k : Nat), k < bs.length → (blsH bs).Perm ((bs.getD k default).heap ++ blsH (bs.eraseIdx k)) := by
  intro bs
  induction bs with
  | nil => intro k h; simp at h
  | cons b r ih =>
    intro k h
    cases k with
    | zero => exact .refl _
    | succ k =>
      have e : (List.getD (b :: r) (k + 1) default) = r.getD k default := by simp [List.getD_eq_getElem?_getD]
      rw [e]
      simp only [List.flatMap_cons, List.eraseIdx_cons_succ]
      refine ((ih k (by simpa using h)).append_left _).trans ?_
      exact perm_front _ _ _
theorem blsH_set (bs : List Bl) (k : Nat) (b : Bl) (h : k < bs.length) : (b.heap ++ blsH (bs.eraseIdx k)).Perm (blsH (bs.set k b)) := by
  have h1 := blsH_perm (bs.set k b) k (by simpa using h)
  have e1 : (bs.set k b).getD k default = b := by simp [List.getD_eq_getElem?_getD, h]
  have e2 : (bs.set k b).eraseIdx k = bs.eraseIdx k := by
    rw [List.eraseIdx_set_eq]
  rw [e1, e2] at h1
  exact h1.symm
theorem Bl.one (b : Bl) : b.val.oneCell' = true := by unfold Bl.val osl; cases b.o <;> rfl
/-- A node as nodesOf makes one. -/
structure NdOk (x : Nm) : Prop where
  ok : x.ok
  nm : 2 ≤ x.nd.name.length ∧ x.nd.name.length ≤ 20
  cap : ∀ c ∈ x.nd.name, 65 ≤ c.toNat ∧ c.toNat ≤ 90
theorem NdOk.setCls {x : Nm} (h : NdOk x) (j : Nat) (y : UInt8) : NdOk (x.setCls j y) := ⟨⟨h.ok.none, h.ok.fit, h.ok.small, h.ok.name, h.ok.left, h.ok.right, h.ok.child, h.ok.created, h.ok.modified⟩, h.nm, h.cap⟩
theorem NdOk.setSt {x : Nm} (h : NdOk x) (j : Nat) (y : UInt8) : NdOk (x.setSt j y) := ⟨⟨h.ok.none, h.ok.fit, h.ok.small, h.ok.name, h.ok.left, h.ok.right, h.ok.child, h.ok.created, h.ok.modified⟩, h.nm, h.cap⟩
theorem NdOk.turn {x : Nm} (h : NdOk x) {l r c : Int} (hl : -1 ≤ l ∧ l ≤ 100000) (hr : -1 ≤ r ∧ r ≤ 100000) (hc : -1 ≤ c ∧ c ≤ 100000) : NdOk (x.turn l r c) := ⟨⟨h.ok.none, h.ok.fit, h.ok.small, h.ok.name, hl, hr, hc, h.ok.created, h.ok.modified⟩, h.nm, h.cap⟩
end Go.Proofs.YtgoddcicbpjknaaDoor

/-! Values: a node that is being made. -/
set_option maxRecDepth 20000
namespace Go.Proofs.YtgoddcicbpjknaaDoor
open Go
open Cfb
/-- A node of no bytes yet, of no links. -/
structure Mk (x : Nm) (sb : Bool) : Prop where
  nd : NdOk x
  data : x.nd.data = []
  b : x.b = none
  cap : x.cap = 0
  left : x.nd.left = -1
  right : x.nd.right = -1
  child : x.nd.child = -1
  stream : x.nd.stream = sb
theorem Mk.setCls {x : Nm} {sb : Bool} (h : Mk x sb) (j : Nat) (y : UInt8) : Mk (x.setCls j y) sb := ⟨h.nd.setCls j y, h.data, h.b, h.cap, h.left, h.right, h.child, h.stream⟩
theorem Mk.setSt {x : Nm} {sb : Bool} (h : Mk x sb) (j : Nat) (y : UInt8) : Mk (x.setSt j y) sb := ⟨h.nd.setSt j y, h.data, h.b, h.cap, h.left, h.right, h.child, h.stream⟩
theorem Mk.same {x : Nm} {sb : Bool} (h : Mk x sb) : x.setData [] none 0 x.rest = x := by
  cases x with
  | mk nd b cap rest =>
    have h1 := h.data
    have h2 := h.b
    have h3 := h.cap
    simp only at h1 h2 h3
    subst h2; subst h3
    cases nd
    simp only at h1
    subst h1
    rfl
/-- A node that is made. -/
structure Made (x : Nm) : Prop where
  nd : NdOk x
  left : x.nd.left = -1
  right : x.nd.right = -1
  child : x.nd.child = -1
  data : x.nd.stream = false → x.nd.data = []
theorem Mk.made {x : Nm} {sb : Bool} (h : Mk x sb) : Made x := ⟨h.nd, h.left, h.right, h.child, fun _ => h.data⟩
def dOk (o : Option Nat) (d : List UInt8) (cap : Nat) (r : List Value) : Prop := oOk o (bys d) r d.length cap 1 ∧ (o = none → cap = 0)
theorem dOk.val {o : Option Nat} {d : List UInt8} {cap : Nat} {r : List Value} (h : dOk o d cap r) (x : Nm) : (x.setData d o cap r).cells[2]? = some (osl o d.length cap) := by
  cases o with
  | some g => rfl
  | none =>
    have h1 := h.1.1
    have h2 := h.2 rfl
    show some (Nm.slice _) = _
    simp only [Nm.slice, Nm.setData, Option.map_none, h1, h2]
theorem dOk.made {o : Option Nat} {d : List UInt8} {cap : Nat} {r : List Value} (h : dOk o d cap r) {x : Nm} (hx : Mk x true) (hd : d.length ≤ 9000) : Made (x.setData d o cap r) := by
  have hf : d.length ≤ cap := by
    cases o with
    | some g => have := h.1.1; rw [List.length_append] at this; simp at this; omega
    | none => have := h.1.1; omega
  have hn : o = none → d = [] := fun e => by subst e; have := h.1.1; exact List.eq_nil_of_length_eq_zero this
  exact ⟨⟨⟨hn, hf, hd, hx.nd.ok.name, hx.nd.ok.left, hx.nd.ok.right, hx.nd.ok.child, hx.nd.ok.created, hx.nd.ok.modified⟩, hx.nd.nm, hx.nd.cap⟩, hx.left, hx.right, hx.child, fun e => by have h1 : x.nd.stream = false := e; rw [hx.stream] at h1; cases h1⟩
theorem dOk.heap {o : Option Nat} {d : List UInt8} {cap : Nat} {r : List Value} (x : Nm) : (x.setData d o cap r).heap = oH o (bys d ++ r) 5 := by
  cases o <;> rfl
theorem BytOk.mono {D D' : Heap} {p : Option Addr} {n : Nat} (h : BytOk D p n) (hs : D.Sublist D') : BytOk D' p n := by
  rcases h with h | ⟨b, o, l, T, fz, h1, h2, h3⟩
  · exact .inl h
  · exact .inr ⟨b, o, l, T, fz, h1, hs.subset h2, h3⟩
theorem NumOk.mono {D D' : Heap} {p : Option Addr} {n : Nat} (h : NumOk D p n) (hs : D.Sublist D') : NumOk D' p n := by
  rcases h with h | ⟨b, o, l, T, fz, h1, h2, h3⟩
  · exact .inl h
  · exact .inr ⟨b, o, l, T, fz, h1, hs.subset h2, h3⟩
theorem letters {m : Nat} (hm : m ≤ 10) : ((⟨#[65, 66, 67, 68, 69, 70, 71, 72, 73, 74]⟩ : ByteArray).extract 0 m) = bar (([65, 66, 67, 68, 69, 70, 71, 72, 73, 74] : List UInt8).take m) := by
  have : m = 0 ∨ m = 1 ∨ m = 2 ∨ m = 3 ∨ m = 4 ∨ m = 5 ∨ m = 6 ∨ m = 7 ∨ m = 8 ∨ m = 9 ∨ m = 10 := by omega
  rcases this with rfl | rfl | rfl | rfl | rfl | rfl | rfl | rfl | rfl | rfl | rfl <;> rfl
def mkNm (name : List UInt8) (sb : Bool) (cr mo : Nat) : Nm := ⟨⟨name, sb, [], -1, -1, -1, List.replicate 16 0, List.replicate 4 0, cr, mo, by simp, by simp⟩, none, 0, []⟩
theorem mkNm_mk {m k cr mo : Nat} {sb : Bool} (hm : 1 ≤ m ∧ m ≤ 7) (hk : k ≤ 25) (hcr : cr < 18446744073709551616) (hmo : mo < 18446744073709551616) : Mk (mkNm (([65, 66, 67, 68, 69, 70, 71, 72, 73, 74] : List UInt8).take m ++ [UInt8.ofNat (65 + k)]) sb cr mo) sb := by
  refine ⟨⟨⟨fun _ => rfl, by simp [mkNm], by simp [mkNm], by simp [mkNm]; omega, by simp [mkNm], by simp [mkNm], by simp [mkNm], hcr, hmo⟩, by simp [mkNm]; omega, ?_⟩, rfl, rfl, rfl, rfl, rfl, rfl, rfl⟩
  intro c hc
  simp only [mkNm, List.mem_append, List.mem_singleton] at hc
  rcases hc with hc | rfl
  · have h1 := List.mem_of_mem_take hc
    have : (([65, 66, 67, 68, 69, 70, 71, 72, 73, 74] : List UInt8).all fun c => decide (65 ≤ c.toNat ∧ c.toNat ≤ 90)) = true := by decide
    simpa using List.all_eq_true.1 this c h1
  · rw [UInt8.toNat_ofNat']; omega
end Go.Proofs.YtgoddcicbpjknaaDoor

/-! From a contract to a row: slices of numbers, wherever they lie. -/
set_option maxRecDepth 100000
namespace Go.Proofs.YtgoddcicbpjknaaDoor
open Go
open Cfb
open Go.ChangeShapes Go.WideShapes Go.ChangeAt Go.RowKit
/-- A slice of numbers: where it lies. -/
theorem open_nums {H : Type} {enc : TypeId × Value → H} {W : World} {base : Nat} {v : Value} {d : DataW H} {ps : List MemPlace} {t e : TypeId} {k : IntKind} (hu : Tryd.prog.underlying t = some (.slice e)) (he : Tryd.prog.underlying e = some (.int k)) (hce : Tryd.prog.cellsOf e = 1)
    (hval : Value.okWide Tryd.prog W .any base t v) (h : DataW.Trod enc Tryd.prog W 0 (fun _ => true) true t v d ps) :
    ∃ p n c, v = .slice p n c ∧ n ≤ c ∧ (n = 0 ∨ ∃ b off l T fz, ∃ zs : Nat → Int, p = some ⟨b, off, none⟩ ∧ W.heap[b]? = some (Obj.cells l T fz) ∧ ∀ i, i < n → l[off + i]? = some (.int k (zs i)) ∧ (Lit.int k (zs i)).wf = true) := by
  obtain ⟨fuel, hf⟩ := h
  obtain ⟨a0, n, c, rfl⟩ := okWide_slice (e := e) hu hval
  rcases open_ints hu he hce hf with ⟨hcs, hx⟩ | ⟨a, len', cap', zs, hcs, _, hl, hm, hz, hx, hcell, hwz⟩
  · simp [Value.cells] at hcs
    obtain ⟨rfl, rfl, rfl⟩ := hcs
    exact ⟨_, _, _, rfl, Nat.le_refl _, .inl rfl⟩
  · simp [Value.cells] at hcs
    obtain ⟨rfl, rfl, rfl⟩ := hcs
    refine ⟨_, _, _, rfl, hl, ?_⟩
    simp only [if_true] at hz
    rcases Nat.eq_zero_or_pos n with h0 | h0
    · exact .inl h0
    · right
      have hzn : n ≤ zs.length := by omega
      have h1 := hcell 0 (by omega)
      obtain ⟨b, off, x⟩ := a
      cases x with
      | some y =>
        exfalso
        simp [World.cell?, Addr.add] at h1
        split at h1 <;> cases h1
      | none =>
        have key : ∀ i, i < zs.length → W.cell? ⟨b, off + i, none⟩ = some (.int k (zs.getD i 0)) := fun i hi => by have := hcell i hi; rw [Addr_add] at this; exact this
        have k0 := key 0 (by omega)
        cases hq : W.heap[b]? with
        | none => simp [World.cell?, hq] at k0
        | some o =>
          cases o with
          | cells l T fz =>
            refine ⟨b, off, l, T, fz, fun i => zs.getD i 0, rfl, hq, ?_⟩
            intro i hi
            have h2 := key i (by omega)
            refine ⟨by simpa [World.cell?, hq] using h2, ?_⟩
            have hz1 : zs.getD i 0 ∈ zs := by rw [List.getD_eq_getElem?_getD, List.getElem?_eq_getElem (by omega)]; exact List.getElem_mem _
            exact hwz _ hz1
          | _ => simp [World.cell?, hq] at k0
/-- One more block among those that are told. -/
theorem add_block {W : World} {e : Nat × Obj} {D : Heap} (hm : ∀ p ∈ e :: D, W.heap[p.1]? = some p.2) (hn : ((e :: D).map Prod.fst).Nodup) {b : Nat} {o : Obj} (hb : W.heap[b]? = some o) :
    ∃ D', (∀ p ∈ e :: D', W.heap[p.1]? = some p.2) ∧ ((e :: D').map Prod.fst).Nodup ∧ (b, o) ∈ e :: D' ∧ List.Sublist (e :: D) (e :: D') := by
  by_cases h : b ∈ (e :: D).map Prod.fst
  · obtain ⟨x, hx, rfl⟩ := List.mem_map.1 h
    have := hm x hx
    rw [hb] at this
    have e1 : x.2 = o := (Option.some.inj this).symm
    exact ⟨D, hm, hn, by rw [← e1]; exact hx, .refl _⟩
  · refine ⟨(b, o) :: D, ?_, ?_, List.mem_cons_of_mem _ (List.mem_cons_self ..), .cons_cons _ (.cons _ (.refl _))⟩
    · intro p hp
      rcases List.mem_cons.1 hp with rfl | hp
      · exact hm _ (List.mem_cons_self ..)
      · rcases List.mem_cons.1 hp with rfl | hp
        · exact hb
        · exact hm _ (List.mem_cons_of_mem _ hp)
    · simp only [List.map_cons, List.nodup_cons, List.mem_cons, not_or] at hn h ⊢
      exact ⟨⟨fun e => h.1 e.symm, hn.1⟩, h.2, hn.2⟩
theorem un_22 : Tryd.prog.underlying 22 = some (.slice 67) := by kernel_rfl
theorem un_23 : Tryd.prog.underlying 23 = some (.slice 5) := by kernel_rfl
theorem un_67 : Tryd.prog.underlying 67 = some (.int .u32) := by kernel_rfl
theorem un_5' : Tryd.prog.underlying 5 = some (.int .u8) := by kernel_rfl
theorem cells67 : Tryd.prog.cellsOf 67 = 1 := by kernel_rfl
/-- The numbers: given a world's blocks, these and theirs. -/
theorem nums_in {W : World} {e : Nat × Obj} {D : Heap} {p : Option Addr} {n : Nat} (hm : ∀ p ∈ e :: D, W.heap[p.1]? = some p.2) (hn : ((e :: D).map Prod.fst).Nodup)
    (h : n = 0 ∨ ∃ b off l T fz, ∃ zs : Nat → Int, p = some ⟨b, off, none⟩ ∧ W.heap[b]? = some (Obj.cells l T fz) ∧ ∀ i, i < n → l[off + i]? = some (.int .u32 (zs i)) ∧ (Lit.int .u32 (zs i)).wf = true) :
    ∃ D', (∀ p ∈ e :: D', W.heap[p.1]? = some p.2) ∧ ((e :: D').map Prod.fst).Nodup ∧ NumOk (e :: D') p n ∧ List.Sublist (e :: D) (e :: D') := by
  rcases h with h | ⟨b, off, l, T, fz, zs, rfl, hb, hz⟩
  · exact ⟨D, hm, hn, .inl h, .refl _⟩
  · obtain ⟨D', h1, h2, h3, h4⟩ := add_block hm hn hb
    obtain ⟨l⟩ := l
    refine ⟨D', h1, h2, .inr ⟨b, off, l, T, fz, rfl, h3, fun i hi => ?_⟩, h4⟩
    obtain ⟨h5, h6⟩ := hz i hi
    have h7 : 0 ≤ zs i ∧ zs i ≤ 4294967295 := by simpa [Lit.wf, IntKind.min, IntKind.max, IntKind.signed, IntKind.bits] using h6
    refine ⟨(zs i).toNat, by omega, ?_⟩
    have h8 : l[off + i]? = some (.int .u32 (zs i)) := by simpa using h5
    rw [h8]
    unfold uv
    congr 2
    omega
/-- Bytes: given a world's blocks, these and theirs. -/
theorem bytes_in {W : World} {e : Nat × Obj} {D : Heap} {p : Option Addr} {n : Nat} (hm : ∀ p ∈ e :: D, W.heap[p.1]? = some p.2) (hn : ((e :: D).map Prod.fst).Nodup)
    (h : n = 0 ∨ ∃ b off l T fz, ∃ bs : List UInt8, p = some ⟨b, off, none⟩ ∧ W.heap[b]? = some (Obj.cells l T fz) ∧ bs.length = n ∧ ∀ i, i < n → l[off + i]? = some (bv (bs.getD i 0))) :
    ∃ D', (∀ p ∈ e :: D', W.heap[p.1]? = some p.2) ∧ ((e :: D').map Prod.fst).Nodup ∧ BytOk (e :: D') p n ∧ List.Sublist (e :: D) (e :: D') := by
  rcases h with h | ⟨b, off, l, T, fz, bs, rfl, hb, hbl, hz⟩
  · exact ⟨D, hm, hn, .inl h, .refl _⟩
  · obtain ⟨D', h1, h2, h3, h4⟩ := add_block hm hn hb
    obtain ⟨l⟩ := l
    exact ⟨D', h1, h2, .inr ⟨b, off, l, T, fz, rfl, h3, fun i hi => ⟨_, by simpa using hz i hi⟩⟩, h4⟩
end Go.Proofs.YtgoddcicbpjknaaDoor

/-! From a contract to a row: io.EOF where the row lists it; blocks behind those that are told. -/
set_option maxRecDepth 100000
namespace Go.Proofs.YtgoddcicbpjknaaDoor
open Go
open Cfb
open Go.ChangeShapes Go.WideShapes Go.ChangeAt Go.RowKit
theorem gEof : Tryd.prog.globalNamed "io.EOF" = some 0 := by kernel_rfl
theorem gEofT : (Tryd.prog.globals[0]?).map (·.type) = some 105 := by kernel_rfl
theorem row0 : (((begin Tryd.prog (fun _ _ => 0) default).world.heap[0]?).bind Obj.row?).isSome = true := by kernel_rfl
theorem zero_lt : 0 < Tryd.prog.globals.size := by
  have : Nat.blt 0 Tryd.prog.globals.size = true := by kernel_rfl
  exact Nat.le_of_ble_eq_true this
theorem un_105 : ∃ ms, Tryd.prog.underlying 105 = some (.interface ms) := by
  have h := if_105
  unfold isIf at h
  split at h
  · rename_i ms hu; exact ⟨ms, hu⟩
  · cases h
theorem name_123 : (Tryd.prog.typeName? 3 123 == some "*errors.errorString") = false := by kernel_rfl
abbrev laid2 : List (String × DataW Unit) := [("io.EOF", Rows.laid_io_EOF), ("unicode.properties", Rows.laid_unicode_properties)]
theorem laid2_plain {W : World} (h : laidMetH Tryd.prog laid2 W) : laidMet Tryd.prog laid2 W := by
  rw [MakeChecks.laidMetH_plain _ _ _ (by kernel_rfl)] at h
  exact h
theorem eof_var {W : World} (h : Lib.VarReads Tryd.prog W "io.EOF" Rows.laid_io_EOF) : ∃ U u, W.var? Tryd.prog "io.EOF" = some #[.iface U u] ∧ Nat.beq U 123 = false := by
  obtain ⟨g, t, cs, fuel, p, hg, ht, hv, hd⟩ := h
  obtain rfl := Option.some.inj (gEof.symm.trans hg)
  obtain rfl := Option.some.inj (gEofT.symm.trans ht)
  obtain ⟨ms, hu⟩ := un_105
  cases fuel with
  | zero => simp [DataW.trod] at hd
  | succ fuel =>
    obtain ⟨l⟩ := cs
    unfold DataW.trod at hd
    rw [hu] at hd
    unfold Rows.laid_io_EOF at hd
    cases l with
    | nil => simp at hd
    | cons v r =>
      cases r with
      | cons a b => simp at hd
      | nil =>
        cases v with
        | iface U u =>
          refine ⟨U, u, hv, ?_⟩
          simp only at hd
          cases hn : Tryd.prog.typeName? 3 U with
          | none => rw [hn] at hd; simp at hd
          | some name =>
            rw [hn] at hd
            simp only [Option.map_eq_some_iff, Prod.mk.injEq, DataW.iface.injEq] at hd
            obtain ⟨x, _, ⟨hname, _⟩, _⟩ := hd
            cases hb : Nat.beq U 123 with
            | false => rfl
            | true =>
              have e := Nat.eq_of_beq_eq_true hb
              subst e
              have h3 := name_123
              rw [hn, hname] at h3
              simp at h3
        | _ => simp at hd
theorem eof_block {W : World} (h : laidMetH Tryd.prog laid2 W) (hS : W.ShapedOpen Tryd.prog) : ∃ U u T, Nat.beq U 123 = false ∧ W.heap[0]? = some (blk [.iface U u] T) := by
  obtain ⟨U, u, hv, hU⟩ := eof_var (Lib.laidMet.reads (laid2_plain h) (List.mem_cons_self ..))
  obtain ⟨⟨zero, t⟩, hr⟩ := Option.isSome_iff_exists.1 row0
  obtain ⟨cs, hc, _, _⟩ := hS.1 0 zero t zero_lt hr
  refine ⟨U, u, t, hU, ?_⟩
  rw [hc]
  have : cs = ([.iface U u] : List Value).toArray := by
    apply Array.ext_getElem?
    intro i
    have h1 := World.var?_cell gEof hv i
    have h2 : W.cell? ⟨0, i, none⟩ = cs[i]? := by simp [World.cell?, hc]
    rw [← h2, h1]
  rw [this]
theorem props_tab2 {W : World} (h : laidMetH Tryd.prog laid2 W) : Lib.TabIs Tryd.prog W "unicode.properties" .u8 props := by
  obtain ⟨g, t, cs, fuel, p, hg, ht, hv, hd⟩ := Lib.laidMet.reads (laid2_plain h) (List.mem_cons_of_mem _ (List.mem_cons_self ..))
  obtain rfl := Option.some.inj (gProps.symm.trans hg)
  obtain rfl := Option.some.inj (gPropsT.symm.trans ht)
  have hu : Tryd.prog.underlying 162 = some (.array 256 5) := by kernel_rfl
  unfold Lib.TabIs
  rw [props_eq] at hd
  rw [hv, ← Lib.cells_of_tab hu (inOf_u in_5) cells5 cells162 hd]
/-- One more block, behind those that are told. -/
theorem add_end {W : World} {L : Heap} (hm : ∀ p ∈ L, W.heap[p.1]? = some p.2) (hn : (L.map Prod.fst).Nodup) {b : Nat} {o : Obj} (hb : W.heap[b]? = some o) :
    ∃ N, (∀ p ∈ L ++ N, W.heap[p.1]? = some p.2) ∧ ((L ++ N).map Prod.fst).Nodup ∧ (b, o) ∈ L ++ N := by
  by_cases h : b ∈ L.map Prod.fst
  · obtain ⟨x, hx, rfl⟩ := List.mem_map.1 h
    have := hm x hx
    rw [hb] at this
    have e1 : x.2 = o := (Option.some.inj this).symm
    exact ⟨[], by simpa using hm, by simpa using hn, by rw [List.append_nil, ← e1]; exact hx⟩
  · refine ⟨[(b, o)], ?_, ?_, List.mem_append_right _ (List.mem_cons_self ..)⟩
    · intro p hp
      rcases List.mem_append.1 hp with hp | hp
      · exact hm _ hp
      · rw [List.mem_singleton.1 hp]; exact hb
    · rw [List.map_append]
      exact List.nodup_append.2 ⟨hn, by simp, fun x hx y hy e => h (by rw [← (show y = b by simpa using hy), ← e]; exact hx)⟩
theorem nums_end {W : World} {L : Heap} {p : Option Addr} {n : Nat} (hm : ∀ p ∈ L, W.heap[p.1]? = some p.2) (hn : (L.map Prod.fst).Nodup)
    (h : n = 0 ∨ ∃ b off l T fz, ∃ zs : Nat → Int, p = some ⟨b, off, none⟩ ∧ W.heap[b]? = some (Obj.cells l T fz) ∧ ∀ i, i < n → l[off + i]? = some (.int .u32 (zs i)) ∧ (Lit.int .u32 (zs i)).wf = true) :
    ∃ N, (∀ p ∈ L ++ N, W.heap[p.1]? = some p.2) ∧ ((L ++ N).map Prod.fst).Nodup ∧ NumOk (L ++ N) p n := by
  rcases h with h | ⟨b, off, l, T, fz, zs, rfl, hb, hz⟩
  · exact ⟨[], by simpa using hm, by simpa using hn, .inl h⟩
  · obtain ⟨N, h1, h2, h3⟩ := add_end hm hn hb
    obtain ⟨l⟩ := l
    refine ⟨N, h1, h2, .inr ⟨b, off, l, T, fz, rfl, h3, fun i hi => ?_⟩⟩
    obtain ⟨h5, h6⟩ := hz i hi
    have h7 : 0 ≤ zs i ∧ zs i ≤ 4294967295 := by simpa [Lit.wf, IntKind.min, IntKind.max, IntKind.signed, IntKind.bits] using h6
    refine ⟨(zs i).toNat, by omega, ?_⟩
    have h8 : l[off + i]? = some (.int .u32 (zs i)) := by simpa using h5
    rw [h8]
    unfold uv
    congr 2
    omega
theorem bytes_end {W : World} {L : Heap} {p : Option Addr} {n : Nat} (hm : ∀ p ∈ L, W.heap[p.1]? = some p.2) (hn : (L.map Prod.fst).Nodup)
    (h : n = 0 ∨ ∃ b off l T fz, ∃ bs : List UInt8, p = some ⟨b, off, none⟩ ∧ W.heap[b]? = some (Obj.cells l T fz) ∧ bs.length = n ∧ ∀ i, i < n → l[off + i]? = some (bv (bs.getD i 0))) :
    ∃ N, (∀ p ∈ L ++ N, W.heap[p.1]? = some p.2) ∧ ((L ++ N).map Prod.fst).Nodup ∧ BytOk (L ++ N) p n := by
  rcases h with h | ⟨b, off, l, T, fz, bs, rfl, hb, hbl, hz⟩
  · exact ⟨[], by simpa using hm, by simpa using hn, .inl h⟩
  · obtain ⟨N, h1, h2, h3⟩ := add_end hm hn hb
    obtain ⟨l⟩ := l
    exact ⟨N, h1, h2, .inr ⟨b, off, l, T, fz, rfl, h3, fun i hi => ⟨_, by simpa using hz i hi⟩⟩⟩
theorem u16_nat {a : Int} (w : (Lit.int .u16 a).wf = true) : ∃ n : Nat, a = (n : Int) ∧ n ≤ 65535 := by
  have h : 0 ≤ a ∧ a ≤ 65535 := by simpa [Lit.wf, IntKind.min, IntKind.max, IntKind.signed, IntKind.bits] using w
  exact ⟨a.toNat, by omega, by omega⟩
end Go.Proofs.YtgoddcicbpjknaaDoor

/-! Values: what the making of a node needs beside. -/
set_option maxRecDepth 20000
namespace Go.Proofs.YtgoddcicbpjknaaDoor
open Go
open Cfb
section
variable {P : Program} {E : World} {L : Fra} {dst : Option Tmp} {ty : TypeId} {pos : String} {aft : Array Edge} {gd : Option (Nat × Bool)}
theorem Yl_letters {x z : Operand} {t : TypeId} {j : IntKind} {m : Nat} (hx : ev L x = some (.string ⟨#[65, 66, 67, 68, 69, 70, 71, 72, 73, 74]⟩)) (hz : ev L z = some (.int j (m : Int)))
    (ht : isStr P t = true) (h : m ≤ 10) : Yl P L ⟨dst, .slice t x none (some z) none, ty, pos, aft, gd⟩ (.string (bar (([65, 66, 67, 68, 69, 70, 71, 72, 73, 74] : List UInt8).take m))) := by
  have := Yl_cutS (P := P) (dst := dst) (ty := ty) (pos := pos) (aft := aft) (gd := gd) hx hz ht (by omega) (by show (m : Int) ≤ ((10 : Nat) : Int); omega)
  rw [Int.toNat_natCast, letters h] at this
  exact this
theorem Yl_shrN {x y : Operand} {k j : IntKind} {m s c : Nat} {t u : TypeId} (hx : ev L x = some (.int k (m : Int))) (hy : ev L y = some (.int j (s : Int))) (hs : s ≤ k.bits) (hc : m / 2 ^ s = c) :
    Yl P L ⟨dst, .binOp .shr t x y u, ty, pos, aft, gd⟩ (.int k (c : Int)) := by
  refine Yl_shr hx hy (by omega) ?_
  have h1 : min ((s : Int)).toNat k.bits = s := by simp; omega
  rw [h1, ← hc, Int.fdiv_eq_ediv_of_nonneg _ (by exact_mod_cast Nat.zero_le _)]
  push_cast
  rfl
theorem Yl_shrB {x y : Operand} {j : IntKind} {m s : Nat} {t u : TypeId} (hx : ev L x = some (.int .u32 (m : Int))) (hy : ev L y = some (.int j (s : Int))) (hs : s ≤ 32) :
    Yl P L ⟨dst, .binOp .shr t x y u, ty, pos, aft, gd⟩ (.int .u32 ((m / 2 ^ s : Nat) : Int)) := Yl_shrN hx hy hs rfl
end
theorem Mk.heap {x : Nm} {sb : Bool} (h : Mk x sb) : x.heap = [] := by unfold Nm.heap; rw [h.b]
theorem nms_cell : ∀ (l : List Nm) (r : List Value) (k j : Nat), k < l.length → j < 28 → (nms l ++ r)[k * 28 + j]? = (l.getD k default).cells[j]? := by
  intro l r k j hk hj
  have h1 := nms_at l r k hk
  rw [← h1, List.getElem?_take_of_lt hj, List.getElem?_drop]
theorem at_stream {l : List Nm} {r : List Value} {k o : Nat} (hk : k < l.length) (ho : o = k * 28 + 1) : (nms l ++ r)[o]? = some (.bool (l.getD k default).nd.stream) := by
  rw [ho, nms_cell l r k 1 hk (by omega)]; rfl
theorem at_name {l : List Nm} {r : List Value} {k o : Nat} (hk : k < l.length) (ho : o = k * 28) : (nms l ++ r)[o]? = some (.string (bar (l.getD k default).nd.name)) := by
  rw [ho, ← Nat.add_zero (k * 28), nms_cell l r k 0 hk (by omega)]; rfl
/-- A byte more of a node's data. -/
theorem cells_dataG (x : Nm) (d : List UInt8) (o : Option Nat) (cap : Nat) (r : List Value) (y : UInt8) (g cap' : Nat) (r' : List Value) :
    (x.setData d o cap r).cells.set 2 (osl (some g) (d.length + 1) cap') = (x.setData (d ++ [y]) (some g) cap' r').cells := by
  simp [Nm.cells, Nm.slice, Nm.setData, osl]
end Go.Proofs.YtgoddcicbpjknaaDoor

/-! Walks: nodesOf, a node is made, where it goes. -/
set_option maxRecDepth 20000
namespace Go.Proofs.YtgoddcicbpjknaaDoor
open Go
open Cfb
set_option maxHeartbeats 4000000 in
theorem nodes_A {E : World} {Q : Exit → Act → World → Prop} {F : Heap} (hQ : QP Q) (at_ k n nD cD : Nat) (pD : Option Addr) {v0 v5 v6 v31 v32 v33 : Value} (hD : BytOk F pD nD) (hk25 : k ≤ 25) (hn : n ≤ 4294967295) (hat : at_ ≤ 1000000000) (hnD : nD ≤ 1000000000)
    (hk : ∀ x h b11 at2, (Made x) → (h ≤ 4294967295) → (at_ ≤ at2) → (at2 ≤ at_ + 9000) → CW Tryd.prog E 246 [(0, v0), (1, .slice pD nD cD), (5, v5), (6, v6), (7, nv at2), (10, uv h), (11, pv b11), (31, v31), (32, v32), (33, v33)] ((b11, blk x.cells 43) :: (x.heap ++ F)) (dig [1, 1, 1, 1, 0, 1, 2, 2, 1, 1, 0, 2, 1, 1, 1, 1, 1, 1] (bodyOf Tryd.f14)) Q) :
    CW Tryd.prog E 246 [(0, v0), (1, .slice pD nD cD), (5, v5), (6, v6), (7, nv at_), (8, nv k), (9, uv n), (31, v31), (32, v32), (33, v33)] (F) (dig [1, 1, 1, 1, 0, 1, 2, 2, 1, 1, 0, 2, 1] (bodyOf Tryd.f14)) Q := by
  refine CW_seq ?_
  obtain ⟨h, hh, hhb⟩ := wrap_nat ((n : Int) * 2654435761)
  obtain ⟨x0, hx0⟩ : ∃ x0, x0 = mkNm (([65, 66, 67, 68, 69, 70, 71, 72, 73, 74] : List UInt8).take (1 + n % 7) ++ [UInt8.ofNat (65 + k)]) (decide (((n / 2 ^ 3 % 3 : Nat) : Int) > 0)) (h * 77) (n * 2 ^ 20) := ⟨_, rfl⟩
  obtain ⟨sb, hsb⟩ : ∃ sb, sb = (decide (((n / 2 ^ 3 % 3 : Nat) : Int) > 0)) := ⟨_, rfl⟩
  have hm0 : Mk x0 sb := by rw [hx0, hsb]; exact mkNm_mk (by omega) hk25 (by omega) (by omega)
  refine CW_region ?_
  refine RW_m ?_
  refine RW_l (Yl_mul (c := (h : Int)) rfl rfl hh) ?_
  refine RW_a ?_
  refine RW_lv (ks := [0, 1, 5, 6, 7, 8, 9, 10, 31, 32, 33]) ?_
  refine CW_seq ?_
  refine CW_region ?_
  refine RW_m ?_
  refine RW_l (Yl_rem (c := ((n % 7 : Nat) : Int)) rfl rfl (by omega) (remN n 7)) ?_
  refine RW_l (Yl_add (c := ((1 + n % 7 : Nat) : Int)) rfl rfl (wu32 (by omega) (by omega))) ?_
  refine RW_l (Yl_letters (m := 1 + n % 7) rfl rfl st_9 (by omega)) ?_
  refine RW_m ?_
  refine RW_l (Yl_add (c := ((65 + k : Nat) : Int)) rfl rfl (wi64 (by omega) (by omega))) ?_
  refine RW_l (Yl_conv (c := ((65 + k : Nat) : Int)) rfl in_3 in_21 (wi32 (by omega) (by omega))) ?_
  refine RW_l (Yl_rune (n := 65 + k) rfl in_21 st_9 (by omega)) ?_
  refine RW_l (Yl_concatB (a := ([65, 66, 67, 68, 69, 70, 71, 72, 73, 74] : List UInt8).take (1 + n % 7)) (b := [UInt8.ofNat (65 + k)]) rfl rfl (by simp; omega)) ?_
  refine RW_m ?_
  refine RW_l (Yl_shrN (m := n) (s := 3) (c := n / 2 ^ 3) rfl rfl (by decide) rfl) ?_
  refine RW_l (Yl_rem (c := ((n / 2 ^ 3 % 3 : Nat) : Int)) rfl rfl (by omega) (remN (n / 2 ^ 3) 3)) ?_
  refine RW_l (Yl_gtr rfl rfl) ?_
  refine RW_m ?_
  refine RW_l (Yl_conv (c := (h : Int)) rfl in_67 in_39 (wu64 (by omega) (by omega))) ?_
  refine RW_l (Yl_mul (c := ((h * 77 : Nat) : Int)) rfl rfl (by rw [wu64 (by omega) (by omega)]; omega)) ?_
  refine RW_m ?_
  refine RW_l (Yl_conv (c := (n : Int)) rfl in_67 in_39 (wu64 (by omega) (by omega))) ?_
  refine RW_l (Yl_shl (c := ((n * 2 ^ 20 : Nat) : Int)) rfl rfl (by omega) (shl_val (k := .u64) (x := n) (s := 20) (Or.inr (Or.inr rfl)) (by decide) (show n * 2 ^ 20 < 2 ^ 64 by omega))) ?_
  refine RW_l (Yl_build (cs := x0.cells) pl_43 ze_43 rfl (by rw [hx0]; rfl)) ?_
  refine RW_fx rfl rfl rfl (Fx_alloc (zs := zs_43) ze_43 rfl) ?_
  rintro _ _ ⟨b11, rfl, rfl⟩
  refine RW_fx0 rfl rfl (Fx_storeA (b := b11) (off := 0) (l := zs_43) (T := 43) (cs := x0.cells) rfl rfl (by rw [Nm.length_cells]; exact sz_43) (Nm.one_cells _) (by repeat (first | exact Rep.here _ _ _ | apply Rep.there)) (by rw [Nm.length_cells]; exact Nat.le_refl 28)) ?_
  rintro _ _ rfl
  refine RW_lv (ks := [0, 1, 5, 6, 7, 9, 10, 11, 31, 32, 33]) ?_
  refine CW_seq ?_
  refine CW_seq ?_
  rw [spl_full _ _ (by rw [Nm.length_cells]; rfl)]
  refine CW_region ?_
  refine RW_m ?_
  refine RW_lv (ks := [0, 1, 5, 6, 7, 9, 10, 11, 31, 32, 33, 60]) ?_
  refine CW_block ?_
  refine CW_loop (σ := Nat × Nm) (fun q => [(0, v0), (1, .slice pD nD cD), (5, v5), (6, v6), (7, nv at_), (9, uv n), (10, uv h), (11, pv b11), (31, v31), (32, v32), (33, v33), (60, nv q.1)]) (fun q => (b11, blk q.2.cells 43) :: F) (fun q => q.1 ≤ 16 ∧ Mk q.2 sb) (fun q => 16 - q.1) (0, x0) ⟨by simp, hm0⟩ (by repeat (first | exact Prm.nil _ | exact Rem.here _ _ | apply Rem.there | apply Prm.cons)) (.cons rfl (.cons rfl (.cons rfl (.cons rfl (.cons rfl (.cons rfl (.cons rfl (.cons rfl (.cons rfl (.cons rfl (.cons rfl (.cons rfl .nil)))))))))))) ?_
  rintro ⟨j, x⟩ ⟨hj, hx⟩
  simp only at hj hx ⊢
  refine CW_seq ?_
  refine CW_region ?_
  refine RW_l (Yl_lss rfl rfl) ?_
  refine RW_lv (ks := [0, 1, 5, 6, 7, 9, 10, 11, 31, 32, 33, 60, 61]) ?_
  refine CW_seq ?_
  refine CW_cond rfl (fun hc1 => ?_) (fun hc1 => ?_)
  · replace hc1 := of_decide_eq_true hc1
    refine (CW_skip (QW_lv (ks := [0, 1, 5, 6, 7, 9, 10, 11, 31, 32, 33, 60]) ?_))
    refine CW_seq ?_
    refine CW_block ?_
    refine CW_seq ?_
    refine CW_region ?_
    refine RW_m ?_
    refine RW_a ?_
    refine RW_lv (ks := [0, 1, 5, 6, 7, 9, 10, 11, 12, 31, 32, 33, 60]) ?_
    obtain ⟨yb, hyb⟩ := wrap_byte ((h / 2 ^ (j % 24) : Nat) : Int)
    refine CW_region ?_
    refine RW_m ?_
    refine RW_m ?_
    refine RW_m ?_
    refine RW_l (Yl_rem (c := ((j % 24 : Nat) : Int)) rfl rfl (by omega) (remN j 24)) ?_
    refine RW_l (Yl_shrB (m := h) (s := j % 24) rfl rfl (by omega)) ?_
    refine RW_l (Yl_conv (c := (yb.toNat : Int)) rfl in_67 in_5 hyb) ?_
    refine RW_l (Yl_field rfl fo_43_6) ?_
    refine RW_l (Yl_indexAN (b := b11) (off := 6) (i := j) (o' := 6 + j) rfl rfl ar_37 (by omega) (by omega)) ?_
    refine RW_fx0 rfl rfl (Fx_store (v := bv yb) (b := b11) (off := 6 + j) rfl rfl sz_5 rfl (by repeat (first | exact Rep.here _ _ _ | apply Rep.there)) (by rw [Nm.length_cells]; omega)) ?_
    rintro _ _ rfl
    refine RW_nil ?_
    refine QW_normal_block ?_
    refine (QW_lv (ks := [0, 1, 5, 6, 7, 9, 10, 11, 31, 32, 33, 60]) ?_)
    refine CW_region ?_
    refine RW_l (Yl_add (c := ((j + 1 : Nat) : Int)) rfl rfl (wi64 (by omega) (by omega))) ?_
    refine RW_m ?_
    refine RW_nil ?_
    rw [cells_setCls x (by omega) yb]
    exact QW_round (j + 1, x.setCls j yb) ⟨by simp only; omega, hx.setCls j yb⟩ (by simp only; omega) (by repeat (first | exact Prm.nil _ | exact Rem.here _ _ | apply Rem.there | apply Prm.cons)) (.cons rfl (.cons rfl (.cons rfl (.cons rfl (.cons rfl (.cons rfl (.cons rfl (.cons rfl (.cons rfl (.cons rfl (.cons rfl (.cons rfl .nil))))))))))))
  · replace hc1 := of_decide_eq_false hc1
    refine CW_exit ?_
    refine QW_exit_then ?_
    refine QW_exit_then ?_
    refine QW_exit_block ?_
    refine (QW_lv (ks := [0, 1, 5, 6, 7, 9, 10, 11, 31, 32, 33]) ?_)
    refine CW_seq ?_
    refine CW_seq ?_
    refine CW_region ?_
    refine RW_m ?_
    refine RW_lv (ks := [0, 1, 5, 6, 7, 9, 10, 11, 31, 32, 33, 72]) ?_
    refine CW_block ?_
    refine CW_loop (σ := Nat × Nm) (fun q => [(0, v0), (1, .slice pD nD cD), (5, v5), (6, v6), (7, nv at_), (9, uv n), (10, uv h), (11, pv b11), (31, v31), (32, v32), (33, v33), (72, nv q.1)]) (fun q => (b11, blk q.2.cells 43) :: F) (fun q => q.1 ≤ 4 ∧ Mk q.2 sb) (fun q => 4 - q.1) (0, x) ⟨by simp, hx⟩ (by repeat (first | exact Prm.nil _ | exact Rem.here _ _ | apply Rem.there | apply Prm.cons)) (.cons rfl (.cons rfl (.cons rfl (.cons rfl (.cons rfl (.cons rfl (.cons rfl (.cons rfl (.cons rfl (.cons rfl (.cons rfl (.cons rfl .nil)))))))))))) ?_
    rintro ⟨j, x⟩ ⟨hj, hx⟩
    simp only at hj hx ⊢
    refine CW_seq ?_
    refine CW_region ?_
    refine RW_l (Yl_lss rfl rfl) ?_
    refine RW_lv (ks := [0, 1, 5, 6, 7, 9, 10, 11, 31, 32, 33, 72, 73]) ?_
    refine CW_seq ?_
    refine CW_cond rfl (fun hc2 => ?_) (fun hc2 => ?_)
    · replace hc2 := of_decide_eq_true hc2
      refine (CW_skip (QW_lv (ks := [0, 1, 5, 6, 7, 9, 10, 11, 31, 32, 33, 72]) ?_))
      refine CW_seq ?_
      refine CW_block ?_
      refine CW_seq ?_
      refine CW_region ?_
      refine RW_m ?_
      refine RW_a ?_
      refine RW_lv (ks := [0, 1, 5, 6, 7, 9, 10, 11, 13, 31, 32, 33, 72]) ?_
      obtain ⟨yb, hyb⟩ := wrap_byte ((n / 2 ^ (6 * j) : Nat) : Int)
      refine CW_region ?_
      refine RW_m ?_
      refine RW_m ?_
      refine RW_m ?_
      refine RW_l (Yl_mul (c := ((6 * j : Nat) : Int)) rfl rfl (by rw [wi64 (by omega) (by omega)]; omega)) ?_
      refine RW_l (Yl_shrB (m := n) (s := 6 * j) rfl rfl (by omega)) ?_
      refine RW_l (Yl_conv (c := (yb.toNat : Int)) rfl in_67 in_5 hyb) ?_
      refine RW_l (Yl_field rfl fo_43_7) ?_
      refine RW_l (Yl_indexAN (b := b11) (off := 22) (i := j) (o' := 22 + j) rfl rfl ar_38 (by omega) (by omega)) ?_
      refine RW_fx0 rfl rfl (Fx_store (v := bv yb) (b := b11) (off := 22 + j) rfl rfl sz_5 rfl (by repeat (first | exact Rep.here _ _ _ | apply Rep.there)) (by rw [Nm.length_cells]; omega)) ?_
      rintro _ _ rfl
      refine RW_nil ?_
      refine QW_normal_block ?_
      refine (QW_lv (ks := [0, 1, 5, 6, 7, 9, 10, 11, 31, 32, 33, 72]) ?_)
      refine CW_region ?_
      refine RW_l (Yl_add (c := ((j + 1 : Nat) : Int)) rfl rfl (wi64 (by omega) (by omega))) ?_
      refine RW_m ?_
      refine RW_nil ?_
      rw [cells_setSt x (by omega) yb]
      exact QW_round (j + 1, x.setSt j yb) ⟨by simp only; omega, hx.setSt j yb⟩ (by simp only; omega) (by repeat (first | exact Prm.nil _ | exact Rem.here _ _ | apply Rem.there | apply Prm.cons)) (.cons rfl (.cons rfl (.cons rfl (.cons rfl (.cons rfl (.cons rfl (.cons rfl (.cons rfl (.cons rfl (.cons rfl (.cons rfl (.cons rfl .nil))))))))))))
    · replace hc2 := of_decide_eq_false hc2
      refine CW_exit ?_
      refine QW_exit_then ?_
      refine QW_exit_then ?_
      refine QW_exit_block ?_
      refine (QW_lv (ks := [0, 1, 5, 6, 7, 9, 10, 11, 31, 32, 33]) ?_)
      refine CW_seq ?_
      refine CW_seq ?_
      refine CW_region ?_
      refine RW_l (Yl_field rfl fo_43_1) ?_
      refine RW_h (Yh_load (v := .bool sb) rfl sc_4 (by repeat (first | exact List.Mem.head _ | apply List.Mem.tail)) (by rw [← hx.stream]; rfl)) ?_
      refine RW_lv (ks := [0, 1, 5, 6, 7, 9, 10, 11, 31, 32, 33, 85]) ?_
      refine CW_cond rfl (fun hc3 => ?_) (fun hc3 => ?_)
      · skip
        rw [show sb = true from hc3] at hx
        try clear hsb
        refine CW_seq ?_
        refine CW_region ?_
        refine RW_m ?_
        refine RW_l (Yl_shrN (m := n) (s := 5) (c := n / 2 ^ 5) rfl rfl (by decide) rfl) ?_
        refine RW_l (Yl_rem (c := ((n / 2 ^ 5 % 300 : Nat) : Int)) rfl rfl (by omega) (remN (n / 2 ^ 5) 300)) ?_
        refine RW_l (Yl_conv (c := ((n / 2 ^ 5 % 300 : Nat) : Int)) rfl in_67 in_3 (wi64 (by omega) (by omega))) ?_
        refine RW_a ?_
        refine RW_lv (ks := [0, 1, 5, 6, 7, 9, 10, 11, 14, 31, 32, 33]) ?_
        refine CW_cut (σ := Nat) (fun q => [(0, v0), (1, .slice pD nD cD), (5, v5), (6, v6), (7, nv at_), (10, uv h), (11, pv b11), (14, nv q), (31, v31), (32, v32), (33, v33)]) (fun _ => (b11, blk x.cells 43) :: F) (fun q => q ≤ 9000) ?_ ?_
        · skip
          refine CW_seq ?_
          refine CW_region ?_
          refine RW_m ?_
          refine RW_l (Yl_shrN (m := n) (s := 14) (c := n / 2 ^ 14) rfl rfl (by decide) rfl) ?_
          refine RW_l (Yl_rem (c := ((n / 2 ^ 14 % 8 : Nat) : Int)) rfl rfl (by omega) (remN (n / 2 ^ 14) 8)) ?_
          refine RW_l (Yl_eql rfl rfl) ?_
          refine RW_lv (ks := [0, 1, 5, 6, 7, 9, 10, 11, 14, 31, 32, 33, 93]) ?_
          refine CW_cond rfl (fun hc4 => ?_) (fun hc4 => ?_)
          · replace hc4 := of_decide_eq_true hc4
            refine CW_region ?_
            refine RW_m ?_
            refine RW_l (Yl_shrN (m := n) (s := 5) (c := n / 2 ^ 5) rfl rfl (by decide) rfl) ?_
            refine RW_l (Yl_rem (c := ((n / 2 ^ 5 % 9000 : Nat) : Int)) rfl rfl (by omega) (remN (n / 2 ^ 5) 9000)) ?_
            refine RW_l (Yl_conv (c := ((n / 2 ^ 5 % 9000 : Nat) : Int)) rfl in_67 in_3 (wi64 (by omega) (by omega))) ?_
            refine RW_a ?_
            refine RW_nil ?_
            first
              | exact QW_cut (n / 2 ^ 5 % 9000) (by omega) (by repeat (first | exact Prm.nil _ | exact Rem.here _ _ | apply Rem.there | apply Prm.cons)) (.cons rfl (.cons rfl (.cons rfl (.cons rfl (.cons rfl (.cons rfl (.cons rfl (.cons rfl (.cons rfl (.cons rfl (.cons rfl .nil)))))))))))
              | exact QW_cut (n / 2 ^ 5 % 300) (by omega) (by repeat (first | exact Prm.nil _ | exact Rem.here _ _ | apply Rem.there | apply Prm.cons)) (.cons rfl (.cons rfl (.cons rfl (.cons rfl (.cons rfl (.cons rfl (.cons rfl (.cons rfl (.cons rfl (.cons rfl (.cons rfl .nil)))))))))))
          · replace hc4 := of_decide_eq_false hc4
            refine CW_skip ?_
            first
              | exact QW_cut (n / 2 ^ 5 % 9000) (by omega) (by repeat (first | exact Prm.nil _ | exact Rem.here _ _ | apply Rem.there | apply Prm.cons)) (.cons rfl (.cons rfl (.cons rfl (.cons rfl (.cons rfl (.cons rfl (.cons rfl (.cons rfl (.cons rfl (.cons rfl (.cons rfl .nil)))))))))))
              | exact QW_cut (n / 2 ^ 5 % 300) (by omega) (by repeat (first | exact Prm.nil _ | exact Rem.here _ _ | apply Rem.there | apply Prm.cons)) (.cons rfl (.cons rfl (.cons rfl (.cons rfl (.cons rfl (.cons rfl (.cons rfl (.cons rfl (.cons rfl (.cons rfl (.cons rfl .nil)))))))))))
        · rintro sz hsz
          refine CW_seq ?_
          refine CW_seq ?_
          refine CW_region ?_
          refine RW_m ?_
          refine RW_m ?_
          refine RW_lv (ks := [0, 1, 5, 6, 7, 10, 11, 14, 31, 32, 33, 98, 99]) ?_
          refine CW_block ?_
          refine CW_loop (σ := Nat × List UInt8 × Option Nat × Nat × List Value) (fun q => [(0, v0), (1, .slice pD nD cD), (5, v5), (6, v6), (7, nv at_), (10, uv h), (11, pv b11), (14, nv sz), (31, v31), (32, v32), (33, v33), (98, nv sz), (99, nv q.1)]) (fun q => (b11, blk (x.setData q.2.1 q.2.2.1 q.2.2.2.1 q.2.2.2.2).cells 43) :: (oH q.2.2.1 (bys q.2.1 ++ q.2.2.2.2) 5 ++ F)) (fun q => q.1 ≤ sz ∧ q.2.1.length = q.1 ∧ dOk q.2.2.1 q.2.1 q.2.2.2.1 q.2.2.2.2) (fun q => sz - q.1) (0, [], none, 0, x.rest) ⟨by simp, rfl, ⟨⟨rfl, rfl⟩, fun _ => rfl⟩⟩ (by rw [hx.same]; exact (by repeat (first | exact Prm.nil _ | exact Rem.here _ _ | apply Rem.there | apply Prm.cons))) (.cons rfl (.cons rfl (.cons rfl (.cons rfl (.cons rfl (.cons rfl (.cons rfl (.cons rfl (.cons rfl (.cons rfl (.cons rfl (.cons rfl (.cons rfl .nil))))))))))))) ?_
          rintro ⟨i, d, o, cap, r⟩ ⟨hi, hdl, hdo⟩
          simp only at hi hdl hdo ⊢
          refine CW_seq ?_
          refine CW_region ?_
          refine RW_l (Yl_lss rfl rfl) ?_
          refine RW_lv (ks := [0, 1, 5, 6, 7, 10, 11, 14, 31, 32, 33, 98, 99, 100]) ?_
          refine CW_seq ?_
          refine CW_cond rfl (fun hc5 => ?_) (fun hc5 => ?_)
          · replace hc5 := of_decide_eq_true hc5
            refine (CW_skip (QW_lv (ks := [0, 1, 5, 6, 7, 10, 11, 14, 31, 32, 33, 98, 99]) ?_))
            refine CW_seq ?_
            refine CW_block ?_
            refine CW_seq ?_
            refine CW_region ?_
            refine RW_m ?_
            refine RW_a ?_
            refine RW_lv (ks := [0, 1, 5, 6, 7, 10, 11, 14, 15, 31, 32, 33, 98, 99]) ?_
            refine CW_seq ?_
            obtain ⟨y0, hy0⟩ := wrap_byte ((i * 7 + i / 2 ^ 8 + h / 2 ^ 9 : Nat) : Int)
            refine CW_region ?_
            refine RW_m ?_
            refine RW_l (Yl_mul (c := ((i * 7 : Nat) : Int)) rfl rfl (by rw [wi64 (by omega) (by omega)]; omega)) ?_
            refine RW_m ?_
            refine RW_l (Yl_shrN (m := i) (s := 8) (c := i / 2 ^ 8) rfl rfl (by decide) rfl) ?_
            refine RW_l (Yl_add (c := ((i * 7 + i / 2 ^ 8 : Nat) : Int)) rfl rfl (wi64 (by omega) (by omega))) ?_
            refine RW_m ?_
            refine RW_l (Yl_shrN (m := h) (s := 9) (c := h / 2 ^ 9) rfl rfl (by decide) rfl) ?_
            refine RW_l (Yl_conv (c := ((h / 2 ^ 9 : Nat) : Int)) rfl in_67 in_3 (wi64 (by omega) (by omega))) ?_
            refine RW_l (Yl_add (c := ((i * 7 + i / 2 ^ 8 + h / 2 ^ 9 : Nat) : Int)) rfl rfl (wi64 (by omega) (by omega))) ?_
            refine RW_l (Yl_conv (c := (y0.toNat : Int)) rfl in_3 in_5 hy0) ?_
            refine RW_a ?_
            refine RW_lv (ks := [0, 1, 5, 6, 7, 10, 11, 14, 15, 16, 31, 32, 33, 98, 99]) ?_
            refine CW_cut (σ := UInt8) (fun q => [(0, v0), (1, .slice pD nD cD), (5, v5), (6, v6), (7, nv at_), (10, uv h), (11, pv b11), (14, nv sz), (16, bv q), (31, v31), (32, v32), (33, v33), (98, nv sz), (99, nv i)]) (fun _ => (b11, blk (x.setData d o cap r).cells 43) :: (oH o (bys d ++ r) 5 ++ F)) (fun _ => True) ?_ ?_
            · skip
              refine CW_seq ?_
              refine CW_region ?_
              refine RW_m ?_
              refine RW_l (Yl_len rfl sl_23) ?_
              refine RW_l (Yl_gtr rfl rfl) ?_
              refine RW_lv (ks := [0, 1, 5, 6, 7, 10, 11, 14, 15, 16, 31, 32, 33, 98, 99, 114]) ?_
              refine CW_cond rfl (fun hc6 => ?_) (fun hc6 => ?_)
              · replace hc6 := of_decide_eq_true hc6
                rcases hD with h0 | ⟨bD, oD, lD, TD, fzD, rfl, hmD, hxD0⟩
                · exfalso; omega
                have hatn : (at_ + i) % nD < nD := Nat.mod_lt _ (by omega)
                obtain ⟨xD, hxD⟩ := hxD0 _ hatn
                obtain ⟨yx, hyx⟩ := xor_u8 y0 xD
                refine CW_region ?_
                refine RW_m ?_
                refine RW_m ?_
                refine RW_m ?_
                refine RW_m ?_
                refine RW_l (Yl_add (c := ((at_ + i : Nat) : Int)) rfl rfl (by rw [wi64 (by omega) (by omega)]; omega)) ?_
                refine RW_m ?_
                refine RW_l (Yl_len rfl sl_23) ?_
                refine RW_l (Yl_rem (c := (((at_ + i) % nD : Nat) : Int)) rfl rfl (by omega) (remN (at_ + i) nD)) ?_
                refine RW_l (Yl_indexN (b := bD) (off := oD) (i := (at_ + i) % nD) (o' := oD + (at_ + i) % nD) rfl rfl sl_23 hatn (by omega)) ?_
                refine RW_h (Yh_load (v := bv xD) rfl sc_5 ((show List.Sublist F _ by repeat (first | exact List.sublist_append_right _ _ | apply List.Sublist.cons | (refine List.Sublist.trans ?_ (List.sublist_append_right _ _)))).subset hmD) hxD) ?_
                refine RW_l (Yl_bits (c := (yx.toNat : Int)) rfl rfl (Or.inr (Or.inr rfl)) hyx) ?_
                refine RW_a ?_
                refine RW_nil ?_
                first
                  | exact QW_cut yx trivial (by repeat (first | exact Prm.nil _ | exact Rem.here _ _ | apply Rem.there | apply Prm.cons)) (.cons rfl (.cons rfl (.cons rfl (.cons rfl (.cons rfl (.cons rfl (.cons rfl (.cons rfl (.cons rfl (.cons rfl (.cons rfl (.cons rfl (.cons rfl (.cons rfl .nil))))))))))))))
                  | exact QW_cut y0 trivial (by repeat (first | exact Prm.nil _ | exact Rem.here _ _ | apply Rem.there | apply Prm.cons)) (.cons rfl (.cons rfl (.cons rfl (.cons rfl (.cons rfl (.cons rfl (.cons rfl (.cons rfl (.cons rfl (.cons rfl (.cons rfl (.cons rfl (.cons rfl (.cons rfl .nil))))))))))))))
              · replace hc6 := of_decide_eq_false hc6
                refine CW_skip ?_
                first
                  | exact QW_cut yx trivial (by repeat (first | exact Prm.nil _ | exact Rem.here _ _ | apply Rem.there | apply Prm.cons)) (.cons rfl (.cons rfl (.cons rfl (.cons rfl (.cons rfl (.cons rfl (.cons rfl (.cons rfl (.cons rfl (.cons rfl (.cons rfl (.cons rfl (.cons rfl (.cons rfl .nil))))))))))))))
                  | exact QW_cut y0 trivial (by repeat (first | exact Prm.nil _ | exact Rem.here _ _ | apply Rem.there | apply Prm.cons)) (.cons rfl (.cons rfl (.cons rfl (.cons rfl (.cons rfl (.cons rfl (.cons rfl (.cons rfl (.cons rfl (.cons rfl (.cons rfl (.cons rfl (.cons rfl (.cons rfl .nil))))))))))))))
            · rintro y -
              refine CW_region ?_
              refine RW_l (Yl_field rfl fo_43_2) ?_
              refine RW_h (Yh_load (v := osl o d.length cap) rfl sc_23 (by repeat (first | exact List.Mem.head _ | apply List.Mem.tail)) (hdo.val x)) ?_
              refine RW_m ?_
              refine RW_fx rfl rfl rfl (Fx_litS sl_23 ze_5 rfl rfl rfl rfl rfl) ?_
              rintro _ _ ⟨b129, rfl, rfl⟩
              refine RW_fx rfl rfl rfl (Fx_appO (xs := bys d) (r := r) (news := [bv y]) (o := o) (n := d.length) (cap := cap) (m := 1) (z0 := .int .u8 0) (q := 1) rfl rfl sl_23 by_5 ze_5 rfl rfl (by repeat (first | exact Rem.here _ _ | apply Rem.there)) List.perm_middle.symm hdo.1 rfl (one_map one_bv [y]) (by omega) (by omega) (by omega) (by omega)) ?_
              rintro _ _ ⟨g', cap', r', rfl, hdo', rfl⟩
              refine RW_l (Yl_field rfl fo_43_2) ?_
              refine RW_fx0 rfl rfl (Fx_store (v := osl (some g') (d.length + 1) cap') (b := b11) (off := 2) rfl rfl sz_23 rfl (by repeat (first | exact Rep.here _ _ _ | apply Rep.there)) (by rw [Nm.length_cells]; omega)) ?_
              rintro _ _ rfl
              refine RW_nil ?_
              refine QW_normal_block ?_
              refine (QW_lv (ks := [0, 1, 5, 6, 7, 10, 11, 14, 31, 32, 33, 98, 99]) ?_)
              refine CW_region ?_
              refine RW_l (Yl_add (c := ((i + 1 : Nat) : Int)) rfl rfl (wi64 (by omega) (by omega))) ?_
              refine RW_m ?_
              refine RW_nil ?_
              rw [cells_dataG]
              refine QW_round (i + 1, d ++ [y], some g', cap', r') ⟨by simp only; omega, by simp [hdl], ⟨?_, fun e => nomatch e⟩⟩ (by simp only; omega) ?_ (.cons rfl (.cons rfl (.cons rfl (.cons rfl (.cons rfl (.cons rfl (.cons rfl (.cons rfl (.cons rfl (.cons rfl (.cons rfl (.cons rfl (.cons rfl .nil)))))))))))))
              · simpa using hdo'
              · simp only [List.map_append, List.map_cons, List.map_nil, List.cons_append, List.nil_append]; exact (by repeat (first | exact Prm.nil _ | exact Rem.here _ _ | apply Rem.there | apply Prm.cons))
          · replace hc5 := of_decide_eq_false hc5
            refine CW_exit ?_
            refine QW_exit_then ?_
            refine QW_exit_then ?_
            refine QW_exit_block ?_
            refine (QW_lv (ks := [0, 1, 5, 6, 7, 10, 11, 14, 31, 32, 33]) ?_)
            refine CW_region ?_
            refine RW_m ?_
            refine RW_m ?_
            refine RW_l (Yl_add (c := ((at_ + sz : Nat) : Int)) rfl rfl (wi64 (by omega) (by omega))) ?_
            refine RW_a ?_
            refine RW_lv (ks := [0, 1, 5, 6, 7, 10, 11, 31, 32, 33]) ?_
            first
              | (have hd2 : d.length ≤ 9000 := (by omega); have hz := hk (x.setData d o cap r) h b11 (at_ + sz) (hdo.made hx hd2) (by omega) (by omega) (by omega); rw [dOk.heap] at hz; exact hz)
              | (have hz := hk x h b11 at_ hx.made (by omega) (by omega) (by omega); rw [hx.heap] at hz; exact hz)
      · skip
        refine (CW_skip (QW_lv (ks := [0, 1, 5, 6, 7, 10, 11, 31, 32, 33]) ?_))
        first
          | (have hd2 : d.length ≤ 9000 := (by omega); have hz := hk (x.setData d o cap r) h b11 (at_ + sz) (hdo.made hx hd2) (by omega) (by omega) (by omega); rw [dOk.heap] at hz; exact hz)
          | (have hz := hk x h b11 at_ hx.made (by omega) (by omega) (by omega); rw [hx.heap] at hz; exact hz)
set_option maxHeartbeats 4000000 in
theorem nodes_W {E : World} {Q : Exit → Act → World → Prop} {F : Heap} (hQ : QP Q) (g cap h : Nat) (ns : List Nm) (r : List Value) {v0 v1 v6 v7 v11 v31 v32 v33 : Value} (hg : (g, blk (nms ns ++ r) 43) ∈ F) (hn : 1 ≤ ns.length ∧ ns.length ≤ 100) (hh : h ≤ 4294967295)
    (hk : ∀ w, (w < ns.length) → CW Tryd.prog E 246 [(0, v0), (1, v1), (5, .slice (some ⟨g, 0, none⟩) ns.length cap), (6, v6), (7, v7), (11, v11), (17, nv w), (31, v31), (32, v32), (33, v33)] (F) (dig [1, 1, 1, 1, 0, 1, 2, 2, 1, 1, 0, 2, 1, 1, 1, 1, 1, 1, 1, 1] (bodyOf Tryd.f14)) Q) :
    CW Tryd.prog E 246 [(0, v0), (1, v1), (5, .slice (some ⟨g, 0, none⟩) ns.length cap), (6, v6), (7, v7), (10, uv h), (11, v11), (31, v31), (32, v32), (33, v33)] (F) (dig [1, 1, 1, 1, 0, 1, 2, 2, 1, 1, 0, 2, 1, 1, 1, 1, 1, 1] (bodyOf Tryd.f14)) Q := by
  refine CW_seq ?_
  refine CW_region ?_
  refine RW_a ?_
  refine RW_lv (ks := [0, 1, 5, 6, 7, 10, 11, 17, 31, 32, 33]) ?_
  refine CW_seq ?_
  refine CW_seq ?_
  refine CW_region ?_
  refine RW_m ?_
  refine RW_l (Yl_len rfl sl_25) ?_
  refine RW_m ?_
  refine RW_lv (ks := [0, 1, 5, 6, 7, 10, 11, 17, 31, 32, 33, 137, 138]) ?_
  refine CW_block ?_
  refine CW_loop (σ := Nat) (fun q => [(0, v0), (1, v1), (5, .slice (some ⟨g, 0, none⟩) ns.length cap), (6, v6), (7, v7), (10, uv h), (11, v11), (17, nv 0), (31, v31), (32, v32), (33, v33), (137, nv ns.length), (138, nv q)]) (fun _ => F) (fun q => q ≤ ns.length) (fun q => ns.length - q) 0 (by omega) (by repeat (first | exact Prm.nil _ | exact Rem.here _ _ | apply Rem.there | apply Prm.cons)) (.cons rfl (.cons rfl (.cons rfl (.cons rfl (.cons rfl (.cons rfl (.cons rfl (.cons rfl (.cons rfl (.cons rfl (.cons rfl (.cons rfl (.cons rfl .nil))))))))))))) ?_
  rintro j hj
  refine CW_seq ?_
  refine CW_region ?_
  refine RW_l (Yl_lss rfl rfl) ?_
  refine RW_lv (ks := [0, 1, 5, 6, 7, 10, 11, 17, 31, 32, 33, 137, 138, 139]) ?_
  refine CW_seq ?_
  refine CW_cond rfl (fun hc1 => ?_) (fun hc1 => ?_)
  · replace hc1 := of_decide_eq_true hc1
    refine (CW_skip (QW_lv (ks := [0, 1, 5, 6, 7, 10, 11, 17, 31, 32, 33, 137, 138]) ?_))
    refine CW_seq ?_
    refine CW_block ?_
    refine CW_seq ?_
    refine CW_region ?_
    refine RW_m ?_
    refine RW_a ?_
    refine RW_lv (ks := [0, 1, 5, 6, 7, 10, 11, 17, 18, 31, 32, 33, 137, 138]) ?_
    refine CW_seq ?_
    have hq : (h / 2 ^ 20 + j) % ns.length < ns.length := Nat.mod_lt _ (by omega)
    refine CW_region ?_
    refine RW_m ?_
    refine RW_l (Yl_shrN (m := h) (s := 20) (c := h / 2 ^ 20) rfl rfl (by decide) rfl) ?_
    refine RW_l (Yl_conv (c := ((h / 2 ^ 20 : Nat) : Int)) rfl in_67 in_3 (wi64 (by omega) (by omega))) ?_
    refine RW_m ?_
    refine RW_l (Yl_add (c := ((h / 2 ^ 20 + j : Nat) : Int)) rfl rfl (wi64 (by omega) (by omega))) ?_
    refine RW_m ?_
    refine RW_l (Yl_len rfl sl_25) ?_
    refine RW_l (Yl_rem (c := (((h / 2 ^ 20 + j) % ns.length : Nat) : Int)) rfl rfl (by omega) (remN (h / 2 ^ 20 + j) ns.length)) ?_
    refine RW_a ?_
    refine RW_lv (ks := [0, 1, 5, 6, 7, 10, 11, 17, 19, 31, 32, 33, 137, 138]) ?_
    refine CW_seq ?_
    refine CW_region ?_
    refine RW_m ?_
    refine RW_l (Yl_eql rfl rfl) ?_
    refine RW_m ?_
    refine RW_bool 151 rfl (fun hg2 => ?_) (fun hg2 => ?_)
    · replace hg2 := of_decide_eq_true hg2
      refine RW_skip rfl rfl rfl ?_
      refine RW_skip rfl rfl rfl ?_
      refine RW_skip rfl rfl rfl ?_
      refine RW_skip rfl rfl rfl ?_
      refine RW_skip rfl rfl rfl ?_
      refine RW_skip rfl rfl rfl ?_
      refine RW_l (Yl_pick_t rfl rfl) ?_
      refine RW_lv (ks := [0, 1, 5, 6, 7, 10, 11, 17, 19, 31, 32, 33, 137, 138, 158]) ?_
      refine CW_true rfl ?_
      refine CW_seq ?_
      refine CW_region ?_
      refine RW_m ?_
      refine RW_a ?_
      refine RW_lv (ks := [0, 1, 5, 6, 7, 11, 17, 31, 32, 33]) ?_
      refine CW_exit ?_
      refine QW_exit_past rfl ?_
      refine QW_exit_then ?_
      refine QW_exit_then ?_
      refine QW_exit_block ?_
      refine (QW_lv (ks := [0, 1, 5, 6, 7, 11, 17, 31, 32, 33]) ?_)
      first
        | exact hk ((h / 2 ^ 20 + j) % ns.length) hq
        | exact hk 0 (by omega)
    · replace hg2 := of_decide_eq_false hg2
      refine RW_gy rfl rfl rfl (Yl.h (Yl_move rfl)) ?_
      refine RW_gy rfl rfl rfl (Yl.h (Yl_move rfl)) ?_
      refine RW_gy rfl rfl rfl (Yl.h (Yl_indexN (b := g) (off := 0) (i := (h / 2 ^ 20 + j) % ns.length) (o' := (h / 2 ^ 20 + j) % ns.length * 28) rfl rfl sl_25 hq (by omega))) ?_
      refine RW_gy rfl rfl rfl (Yl.h (Yl_field rfl fo_43_1)) ?_
      refine RW_gy rfl rfl rfl (Yh_load (v := .bool (ns.getD ((h / 2 ^ 20 + j) % ns.length) default).nd.stream) rfl sc_4 hg (at_stream hq rfl)) ?_
      refine RW_gy rfl rfl rfl (Yl.h (Yl_not rfl)) ?_
      refine RW_l (Yl_pick_f rfl rfl) ?_
      refine RW_lv (ks := [0, 1, 5, 6, 7, 10, 11, 17, 19, 31, 32, 33, 137, 138, 158]) ?_
      refine CW_cond rfl (fun hc3 => ?_) (fun hc3 => ?_)
      · skip
        refine CW_seq ?_
        refine CW_region ?_
        refine RW_m ?_
        refine RW_a ?_
        refine RW_lv (ks := [0, 1, 5, 6, 7, 11, 17, 31, 32, 33]) ?_
        refine CW_exit ?_
        refine QW_exit_past rfl ?_
        refine QW_exit_then ?_
        refine QW_exit_then ?_
        refine QW_exit_block ?_
        refine (QW_lv (ks := [0, 1, 5, 6, 7, 11, 17, 31, 32, 33]) ?_)
        first
          | exact hk ((h / 2 ^ 20 + j) % ns.length) hq
          | exact hk 0 (by omega)
      · skip
        refine CW_skip ?_
        refine QW_normal_block ?_
        refine (QW_lv (ks := [0, 1, 5, 6, 7, 10, 11, 17, 31, 32, 33, 137, 138]) ?_)
        refine CW_region ?_
        refine RW_l (Yl_add (c := ((j + 1 : Nat) : Int)) rfl rfl (wi64 (by omega) (by omega))) ?_
        refine RW_m ?_
        refine RW_nil ?_
        exact QW_round (j + 1) (by omega) (by omega) (by repeat (first | exact Prm.nil _ | exact Rem.here _ _ | apply Rem.there | apply Prm.cons)) (.cons rfl (.cons rfl (.cons rfl (.cons rfl (.cons rfl (.cons rfl (.cons rfl (.cons rfl (.cons rfl (.cons rfl (.cons rfl (.cons rfl (.cons rfl .nil)))))))))))))
  · replace hc1 := of_decide_eq_false hc1
    refine CW_exit ?_
    refine QW_exit_then ?_
    refine QW_exit_then ?_
    refine QW_exit_block ?_
    refine (QW_lv (ks := [0, 1, 5, 6, 7, 11, 17, 31, 32, 33]) ?_)
    first
      | exact hk ((h / 2 ^ 20 + j) % ns.length) hq
      | exact hk 0 (by omega)
end Go.Proofs.YtgoddcicbpjknaaDoor

/-! Values: nodes and the lists of places below them. -/
set_option maxRecDepth 20000
namespace Go.Proofs.YtgoddcicbpjknaaDoor
open Go
open Cfb
theorem nodup_len : ∀ (n : Nat) (l : List Nat), l.Nodup → (∀ x ∈ l, x < n) → l.length ≤ n := by
  intro n
  induction n with
  | zero =>
    intro l _ h
    cases l with
    | nil => exact Nat.le_refl 0
    | cons a r => exact absurd (h a (by simp)) (by omega)
  | succ n ih =>
    intro l hd h
    by_cases hm : n ∈ l
    · have h1 := ih (l.erase n) (hd.erase n) (fun x hx => by
        have h2 := (List.Nodup.mem_erase_iff hd).1 hx
        have := h x h2.2; omega)
      rw [List.length_erase_of_mem hm] at h1
      omega
    · have := ih l hd (fun x hx => by
        have h2 := h x hx
        have h3 : x ≠ n := fun e => hm (e ▸ hx)
        omega)
      omega
/-- Places below places. -/
structure PL (n : Nat) (ls : Nat → List Nat) (par : Nat → Nat) : Prop where
  mem : ∀ p j, j ∈ ls p ↔ 1 ≤ j ∧ j < n ∧ par j = p
  lt : ∀ j, 1 ≤ j → j < n → par j < j
  nd : ∀ p, (ls p).Nodup
theorem PL.add {n w : Nat} {ls ls' : Nat → List Nat} {par : Nat → Nat} (h : PL n ls par) (hn : 1 ≤ n) (hw : w < n) (hls : ∀ p, ls' p = if p = w then ls p ++ [n] else ls p) : PL (n + 1) ls' (fun j => if j = n then w else par j) := by
  refine ⟨?_, ?_, ?_⟩
  · intro p j
    rw [hls]
    by_cases hp : p = w
    · rw [if_pos hp, List.mem_append, h.mem, List.mem_singleton]
      by_cases hj : j = n
      · rw [if_pos hj]; omega
      · rw [if_neg hj]; omega
    · rw [if_neg hp, h.mem]
      by_cases hj : j = n
      · rw [if_pos hj]; omega
      · rw [if_neg hj]; omega
  · intro j h1 h2
    by_cases hj : j = n
    · simp only [if_pos hj]; omega
    · simp only [if_neg hj]; exact h.lt j h1 (by omega)
  · intro p
    rw [hls]
    by_cases hp : p = w
    · rw [if_pos hp]
      refine List.nodup_append.2 ⟨h.nd p, by simp, ?_⟩
      intro a ha b hb
      have h1 := (h.mem p a).1 ha
      rw [List.mem_singleton.1 hb]; omega
    · rw [if_neg hp]; exact h.nd p
theorem PL.perm {n : Nat} {ls ls' : Nat → List Nat} {par : Nat → Nat} (h : PL n ls par) (hp : ∀ p, (ls' p).Perm (ls p)) : PL n ls' par :=
  ⟨fun p j => by rw [(hp p).mem_iff]; exact h.mem p j, h.lt, fun p => (hp p).nodup_iff.2 (h.nd p)⟩
theorem PL.len {n : Nat} {ls : Nat → List Nat} {par : Nat → Nat} (h : PL n ls par) (p : Nat) : (ls p).length ≤ n :=
  nodup_len n _ (h.nd p) (fun x hx => ((h.mem p x).1 hx).2.1)
theorem PL.one {ls : Nat → List Nat} (h : ∀ p, ls p = []) : PL 1 ls (fun _ => 0) :=
  ⟨fun p j => by rw [h]; simp; omega, fun j h1 h2 => by omega, fun p => by rw [h]; simp⟩
theorem bl_perm (A F : Heap) (bs : List Bl) (k : Nat) (h : k < bs.length) : (A ++ (blsH bs ++ F)).Perm ((bs.getD k default).heap ++ (A ++ (blsH (bs.eraseIdx k) ++ F))) := by
  refine (((blsH_perm bs k h).append_right F).append_left A).trans ?_
  rw [List.append_assoc]
  exact perm_front _ _ _
theorem bl_set (A F : Heap) (bs : List Bl) (k : Nat) (b : Bl) (h : k < bs.length) : (b.heap ++ (A ++ (blsH (bs.eraseIdx k) ++ F))).Perm (A ++ (blsH (bs.set k b) ++ F)) := by
  refine (perm_front _ _ _).trans ?_
  rw [← List.append_assoc b.heap]
  exact ((blsH_set bs k b h).append_right F).append_left A
theorem bls_val (bs : List Bl) (r : List Value) (k : Nat) (h : k < bs.length) : (bs.map Bl.val ++ r)[k]? = some (bs.getD k default).val := by
  rw [List.getElem?_append_left (by simpa using h)]
  simp [List.getD_eq_getElem?_getD, h]
theorem bls_set (bs : List Bl) (r : List Value) (k : Nat) (b : Bl) (h : k < bs.length) : (bs.map Bl.val ++ r).set k b.val = (bs.set k b).map Bl.val ++ r := by
  rw [List.set_append_left _ _ (by simpa using h), List.map_set]
theorem bl_getD_set (bs : List Bl) (k j : Nat) (b : Bl) (hk : k < bs.length) : (bs.set k b).getD j default = if k = j then b else bs.getD j default := by
  simp only [List.getD_eq_getElem?_getD, List.getElem?_set]
  split
  · simp [hk]
  · rfl
theorem swap_perm (l : List Nat) {i j : Nat} (hi : i < l.length) (hj : j < l.length) : ((l.set i (l.getD j 0)).set j (l.getD i 0)).Perm l := by
  have h := List.set_set_perm hi hj
  simp only [List.getD_eq_getElem?_getD, List.getElem?_eq_getElem hi, List.getElem?_eq_getElem hj, Option.getD_some]
  exact h
theorem nats_set (l : List Nat) (r : List Value) (k x : Nat) (h : k < l.length) : (nats l ++ r).set k (nv x) = nats (l.set k x) ++ r := by
  rw [List.set_append_left _ _ (by simpa using h)]
  simp [nats, List.map_set]
theorem getD_mem {l : List Nat} {k : Nat} (h : k < l.length) : l.getD k 0 ∈ l := by
  rw [List.getD_eq_getElem?_getD, List.getElem?_eq_getElem h]; exact List.getElem_mem h
end Go.Proofs.YtgoddcicbpjknaaDoor

/-! Walks: nodesOf, a node goes into the lists; a list is sorted. -/
set_option maxRecDepth 20000
namespace Go.Proofs.YtgoddcicbpjknaaDoor
open Go
open Cfb
set_option maxHeartbeats 4000000 in
theorem nodes_P {E : World} {Q : Exit → Act → World → Prop} {F : Heap} (hQ : QP Q) (x : Nm) (b11 g cap gb capb w : Nat) (ns : List Nm) (bls : List Bl) (r rb : List Value) {v0 v1 v7 v31 v32 v33 : Value} (hl : (nms ns ++ r).length = cap * 28) (hlb : (bls.map Bl.val ++ rb).length = capb) (hw : w < bls.length) (hok : (bls.getD w default).ok) (hn : ns.length ≤ 100) (hbn : bls.length ≤ 100) (hbl : (bls.getD w default).l.length ≤ 100)
    (hk : ∀ g' cap' gb' capb' r' rb' nb, ((nms (ns ++ [x]) ++ r').length = cap' * 28) → ((((bls ++ [default]).set w nb).map Bl.val ++ rb').length = capb') → (nb.ok) → (nb.l = (bls.getD w default).l ++ [ns.length]) → QW E 246 [(0, v0), (1, v1), (5, .slice (some ⟨g', 0, none⟩) (ns.length + 1) cap'), (6, .slice (some ⟨gb', 0, none⟩) (bls.length + 1) capb'), (7, v7), (31, v31), (32, v32), (33, v33)] ((gb', blk (((bls ++ [default]).set w nb).map Bl.val ++ rb') 29) :: (g', blk (nms (ns ++ [x]) ++ r') 43) :: (blsH ((bls ++ [default]).set w nb) ++ F)) .normal Q) :
    CW Tryd.prog E 246 [(0, v0), (1, v1), (5, .slice (some ⟨g, 0, none⟩) ns.length cap), (6, .slice (some ⟨gb, 0, none⟩) bls.length capb), (7, v7), (11, pv b11), (17, nv w), (31, v31), (32, v32), (33, v33)] ((b11, blk x.cells 43) :: (g, blk (nms ns ++ r) 43) :: (gb, blk (bls.map Bl.val ++ rb) 29) :: (blsH bls ++ F)) (dig [1, 1, 1, 1, 0, 1, 2, 2, 1, 1, 0, 2, 1, 1, 1, 1, 1, 1, 1, 1] (bodyOf Tryd.f14)) Q := by
  refine CW_seq ?_
  refine CW_region ?_
  refine RW_m ?_
  refine RW_h (Yh_loadAll (b := b11) (k := 28) (T := 43) (fz := (0, 0)) (l := x.cells) rfl ag_43 (by repeat (first | exact List.Mem.head _ | apply List.Mem.tail)) (Nm.length_cells _)) ?_
  refine RW_fx rfl rfl rfl (Fx_lit (vs := [.agg x.cells.toArray]) (css := [x.cells]) (cs := x.cells) sl_25 ze_43 rfl rfl rfl rfl rfl (by intro c hc; rw [List.mem_singleton.1 hc]; exact Nm.length_cells _) (by simp)) ?_
  rintro _ _ ⟨b45, rfl, rfl⟩
  refine RW_fx rfl rfl rfl (Fx_appTG (xs := nms ns) (r := r) (news := x.cells) (n := ns.length) (cap := cap) (m := 1) (c := 1) rfl rfl sl_25 by_43 ze_43 rfl (by repeat (first | exact Rem.here _ _ | apply Rem.there)) (by repeat (first | exact Rem.here _ _ | apply Rem.there)) hl (length_nms ns) (by rw [Nm.length_cells]) (Nm.one_cells _) (by omega) (by omega) (by omega)) ?_
  rintro _ _ ⟨g', cap', r', rfl, hl', rfl⟩
  refine RW_a ?_
  refine RW_lv (ks := [0, 1, 5, 6, 7, 17, 31, 32, 33]) ?_
  refine CW_seq ?_
  refine CW_region ?_
  refine RW_m ?_
  refine RW_fx rfl rfl rfl (Fx_litS (vs := [.slice none 0 0]) sl_66 ze_29 rfl rfl rfl rfl rfl) ?_
  rintro _ _ ⟨b66, rfl, rfl⟩
  refine RW_fx rfl rfl rfl (Fx_appTG (xs := bls.map Bl.val) (r := rb) (news := [.slice none 0 0]) (n := bls.length) (cap := capb) (m := 1) (c := 1) rfl rfl sl_66 by_29 ze_29 rfl (by repeat (first | exact Rem.here _ _ | apply Rem.there)) (by repeat (first | exact Rem.here _ _ | apply Rem.there)) (by rw [hlb, Nat.mul_one]) (by simp) rfl (by intro u hu; rw [List.mem_singleton.1 hu]; rfl) (by omega) (by omega) (by omega)) ?_
  rintro _ _ ⟨gb', capb', rb', rfl, hlb', rfl⟩
  refine RW_a ?_
  refine RW_lv (ks := [0, 1, 5, 6, 7, 17, 31, 32, 33]) ?_
  obtain ⟨bls1, hb1⟩ : ∃ y, y = bls ++ [default] := ⟨_, rfl⟩
  have hb2 : bls.map Bl.val ++ [Value.slice none 0 0] = bls1.map Bl.val := by rw [hb1, List.map_append]; rfl
  have hb3 : blsH bls = blsH bls1 := by rw [hb1]; simp [blsH, List.flatMap_append, Bl.heap, default, instInhabitedBl]
  rw [hb2, hb3]
  rw [hb2] at hlb'
  have hlen1 : bls1.length = bls.length + 1 := by rw [hb1]; simp
  have hw1 : w < bls1.length := by omega
  have hg1 : bls1.getD w default = bls.getD w default := by rw [hb1]; simp [List.getD_eq_getElem?_getD, List.getElem?_append_left hw]
  have hok1 : (bls1.getD w default).ok := by rw [hg1]; exact hok
  have hbl1 : (bls1.getD w default).l.length ≤ 100 := by rw [hg1]; exact hbl
  have hns : nms ns ++ x.cells = nms (ns ++ [x]) := by simp [nms]
  rw [hns]
  rw [hns] at hl'
  refine CW_region ?_
  refine RW_m ?_
  refine RW_m ?_
  refine RW_m ?_
  refine RW_m ?_
  refine RW_l (Yl_indexN (b := gb') (off := 0) (i := w) (o' := w) rfl rfl sl_66 (by omega) (by omega)) ?_
  refine RW_h (Yh_load (v := (bls1.getD w default).val) rfl sc_29 (by repeat (first | exact List.Mem.head _ | apply List.Mem.tail)) (bls_val bls1 _ w hw1)) ?_
  refine RW_m ?_
  refine RW_l (Yl_len rfl sl_25) ?_
  refine RW_l (Yl_sub (c := (ns.length : Int)) rfl rfl (by rw [wi64 (by omega) (by omega)]; omega)) ?_
  refine RW_fx rfl rfl rfl (Fx_litS (vs := [nv ns.length]) sl_29 ze_3 rfl rfl rfl rfl rfl) ?_
  rintro _ _ ⟨b77, rfl, rfl⟩
  refine RW_heap ((bl_perm [(gb', blk (bls1.map Bl.val ++ rb') 29), (g', blk (nms (ns ++ [x]) ++ r') 43), (b11, blk x.cells 43)] F bls1 w hw1).cons _) ?_
  refine RW_fx (d := 178) rfl rfl rfl (Fx_appO (xs := nats (bls1.getD w default).l) (r := (bls1.getD w default).rest) (news := [nv ns.length]) (o := (bls1.getD w default).o) (n := (bls1.getD w default).l.length) (cap := (bls1.getD w default).cap) (m := 1) (c := 1) (z0 := .int .i64 0) (q := 1) rfl rfl sl_29 by_3 ze_3 rfl rfl (.here _ _) (.refl _) hok1 rfl (by intro u hu; rw [List.mem_singleton.1 hu]; rfl) (by omega) (by omega) (by omega) (by omega)) ?_
  rintro _ _ ⟨g2, cap2, r2, rfl, ho2, rfl⟩
  simp only [List.cons_append, List.nil_append]
  refine RW_l (Yl_indexN (b := gb') (off := 0) (i := w) (o' := w) rfl rfl sl_66 (by omega) (by omega)) ?_
  refine RW_fx0 rfl rfl (Fx_store (v := osl (some g2) ((bls1.getD w default).l.length + 1) cap2) (b := gb') (off := w) rfl rfl sz_29 rfl (by repeat (first | exact Rep.here _ _ _ | apply Rep.there)) (by rw [List.length_append, List.length_map]; omega)) ?_
  rintro _ _ rfl
  refine RW_nil ?_
  obtain ⟨nb, hnb⟩ : ∃ y : Bl, y = ⟨(bls1.getD w default).l ++ [ns.length], some g2, cap2, r2⟩ := ⟨_, rfl⟩
  have hv : osl (some g2) ((bls1.getD w default).l.length + 1) cap2 = nb.val := by rw [hnb]; simp [Bl.val]
  rw [hv, bls_set bls1 _ w nb hw1]
  refine QW_dropB (e := (b11, _)) (by repeat (first | exact Rem.here _ _ | apply Rem.there)) ?_
  have hh2 : [(g2, blk ((nats (bls1.getD w default).l ++ [nv ns.length]) ++ r2) 3)] = nb.heap := by rw [hnb]; simp [Bl.heap]
  refine QW_heap (H' := (gb', blk ((bls1.set w nb).map Bl.val ++ rb') 29) :: (g', blk (nms (ns ++ [x]) ++ r') 43) :: (blsH (bls1.set w nb) ++ F)) ?_ ?_
  · have hp := bl_set [(gb', blk ((bls1.set w nb).map Bl.val ++ rb') 29), (g', blk (nms (ns ++ [x]) ++ r') 43)] F bls1 w nb hw1
    rw [← hh2] at hp
    exact hp
  · have hz := hk g' cap' gb' capb' r' rb' nb hl'
    rw [← hb1] at hz
    refine QW_live (ks := [0, 1, 5, 6, 7, 31, 32, 33]) (.cons rfl (.cons rfl (.cons rfl (.cons rfl (.cons rfl (.cons rfl (.cons rfl (.cons rfl .nil)))))))) ?_
    exact hz (by rw [List.length_append, List.length_map, List.length_set]; rw [List.length_append, List.length_map, Nat.mul_one] at hlb'; exact hlb') (by rw [hnb]; exact ⟨by simpa using ho2.1, by simp⟩) (by rw [hnb, ← hg1])
set_option maxHeartbeats 4000000 in
theorem nodes_S {E : World} {Q : Exit → Act → World → Prop} {F : Heap} (hQ : QP Q) (o : Option Nat) (g cap m c N : Nat) (ns : List Nm) (r rest : List Value) (l : List Nat) {v0 v20 v181 v182 v183 : Value} (hN : ns.length = N) (hm : l.length = m) (hm1 : m ≤ 100) (ho : oOk o (nats l) rest m c 1) (hl : ∀ k ∈ l, k < N) (hns : N ≤ 100)
    (hk : ∀ l', (l'.Perm l) → CW Tryd.prog E 246 [(0, v0), (5, .slice (some ⟨g, 0, none⟩) N cap), (20, v20), (21, osl o m c), (181, v181), (182, v182), (183, v183)] (oH o (nats l' ++ rest) 3 ++ ((g, blk (nms ns ++ r) 43) :: F)) (dig [1, 1, 1, 1, 1, 0, 1, 2, 2, 1, 1, 0, 2, 1, 1] (bodyOf Tryd.f14)) Q) :
    CW Tryd.prog E 246 [(0, v0), (5, .slice (some ⟨g, 0, none⟩) N cap), (20, v20), (21, osl o m c), (181, v181), (182, v182), (183, v183)] (oH o (nats l ++ rest) 3 ++ ((g, blk (nms ns ++ r) 43) :: F)) (dig [1, 1, 1, 1, 1, 0, 1, 2, 2, 1, 1, 0, 2, 1] (bodyOf Tryd.f14)) Q := by
  refine CW_seq ?_
  refine CW_seq ?_
  obtain ⟨po, co, hpo⟩ : ∃ po co, osl o m c = .slice po m co := by
    cases o with
    | none => have h0 := ho.1; subst h0; exact ⟨none, 0, rfl⟩
    | some g => exact ⟨_, _, rfl⟩
  refine CW_region ?_
  refine RW_m ?_
  refine RW_l (Yl_len (congrArg some hpo) sl_29) ?_
  refine RW_m ?_
  refine RW_lv (ks := [0, 5, 20, 21, 181, 182, 183, 189, 190]) ?_
  refine CW_block ?_
  refine CW_loop (σ := Nat × List Nat) (fun q => [(0, v0), (5, .slice (some ⟨g, 0, none⟩) N cap), (20, v20), (21, osl o m c), (181, v181), (182, v182), (183, v183), (189, nv m), (190, nv q.1)]) (fun q => oH o (nats q.2 ++ rest) 3 ++ ((g, blk (nms ns ++ r) 43) :: F)) (fun q => q.1 ≤ m ∧ q.2.Perm l) (fun q => m - q.1) (0, l) ⟨by simp, .refl _⟩ (Prm.nil _) (.cons rfl (.cons rfl (.cons rfl (.cons rfl (.cons rfl (.cons rfl (.cons rfl (.cons rfl (.cons rfl .nil))))))))) ?_
  rintro ⟨j, l1⟩ ⟨hj, hp1⟩
  simp only at hj hp1 ⊢
  refine CW_seq ?_
  refine CW_region ?_
  refine RW_l (Yl_lss rfl rfl) ?_
  refine RW_lv (ks := [0, 5, 20, 21, 181, 182, 183, 189, 190, 191]) ?_
  refine CW_seq ?_
  refine CW_cond rfl (fun hc1 => ?_) (fun hc1 => ?_)
  · replace hc1 := of_decide_eq_true hc1
    refine (CW_skip (QW_lv (ks := [0, 5, 20, 21, 181, 182, 183, 189, 190]) ?_))
    refine CW_seq ?_
    refine CW_block ?_
    refine CW_seq ?_
    refine CW_region ?_
    refine RW_m ?_
    refine RW_a ?_
    refine RW_lv (ks := [0, 5, 20, 21, 22, 181, 182, 183, 189, 190]) ?_
    refine CW_seq ?_
    refine CW_region ?_
    refine RW_m ?_
    refine RW_a ?_
    refine RW_lv (ks := [0, 5, 20, 21, 23, 181, 182, 183, 189, 190]) ?_
    refine CW_block ?_
    obtain ⟨bo, rfl⟩ : ∃ bo, o = some bo := by
      cases o with
      | none => exact absurd ho.1 (by omega)
      | some bo => exact ⟨bo, rfl⟩
    refine CW_loop (σ := Nat × List Nat) (fun q => [(0, v0), (5, .slice (some ⟨g, 0, none⟩) N cap), (20, v20), (21, .slice (some ⟨bo, 0, none⟩) m c), (23, nv q.1), (181, v181), (182, v182), (183, v183), (189, nv m), (190, nv j)]) (fun q => (bo, blk (nats q.2 ++ rest) 3) :: (g, blk (nms ns ++ r) 43) :: F) (fun q => q.1 ≤ j ∧ q.2.Perm l) (fun q => q.1) (j, l1) ⟨Nat.le_refl _, hp1⟩ (Prm.nil _) (.cons rfl (.cons rfl (.cons rfl (.cons rfl (.cons rfl (.cons rfl (.cons rfl (.cons rfl (.cons rfl (.cons rfl .nil)))))))))) ?_
    rintro ⟨q, l2⟩ ⟨hq, hp2⟩
    simp only at hq hp2 ⊢
    have hlen2 : l2.length = m := by rw [hp2.length_eq, hm]
    refine CW_seq ?_
    refine CW_seq ?_
    have hx1 : (l2.getD q 0) < N := hl _ (hp2.mem_iff.1 (getD_mem (by omega)))
    have hy1 : (l2.getD q 0) < ns.length := by omega
    have hy2 : (l2.getD (q - 1) 0) < ns.length := by rw [hN]; exact hl _ (hp2.mem_iff.1 (getD_mem (by omega)))
    have hx2 : (l2.getD (q - 1) 0) < N := hl _ (hp2.mem_iff.1 (getD_mem (by omega)))
    refine CW_draw [] _ mixed (Sub.refl _) ?_
    refine RD_y (i := 0) rfl rfl rfl rfl (by kernel_rfl) (fun _ _ _ h => hQ _ _ _ _ _ h) (Yl_move rfl) ?_
    refine RD_y (i := 1) rfl rfl rfl rfl (by kernel_rfl) (fun _ _ _ h => hQ _ _ _ _ _ h) (Yl_gtr rfl rfl) ?_
    refine RD_y (i := 2) rfl rfl rfl rfl (by kernel_rfl) (fun _ _ _ h => hQ _ _ _ _ _ h) (Yl_move rfl) ?_
    refine RD_bool 196 rfl (fun hg2 => ?_) (fun hg2 => ?_)
    · replace hg2 := of_decide_eq_true hg2
      refine RD_y (i := 3) rfl rfl rfl rfl (by kernel_rfl) (fun _ _ _ h => hQ _ _ _ _ _ h) (Yl_move rfl) ?_
      refine RD_y (i := 4) rfl rfl rfl rfl (by kernel_rfl) (fun _ _ _ h => hQ _ _ _ _ _ h) (Yl_move rfl) ?_
      refine RD_y (i := 5) rfl rfl rfl rfl (by kernel_rfl) (fun _ _ _ h => hQ _ _ _ _ _ h) (Yl_move rfl) ?_
      refine RD_y (i := 6) rfl rfl rfl rfl (by kernel_rfl) (fun _ _ _ h => hQ _ _ _ _ _ h) (Yl_indexN (b := bo) (off := 0) (i := q) (o' := q) rfl rfl sl_29 (by omega) (by omega)) ?_
      refine RD_y (i := 11) rfl rfl rfl rfl (by kernel_rfl) (fun _ _ _ h => hQ _ _ _ _ _ h) (Yl_move rfl) ?_
      refine RD_y (i := 12) rfl rfl rfl rfl (by kernel_rfl) (fun _ _ _ h => hQ _ _ _ _ _ h) (Yl_move rfl) ?_
      refine RD_y (i := 13) rfl rfl rfl rfl (by kernel_rfl) (fun _ _ _ h => hQ _ _ _ _ _ h) (Yl_move rfl) ?_
      refine RD_y (i := 14) rfl rfl rfl rfl (by kernel_rfl) (fun _ _ _ h => hQ _ _ _ _ _ h) (Yl_sub (c := ((q - 1 : Nat) : Int)) rfl rfl (by rw [wi64 (by omega) (by omega)]; omega)) ?_
      refine RD_y (i := 15) rfl rfl rfl rfl (by kernel_rfl) (fun _ _ _ h => hQ _ _ _ _ _ h) (Yl_indexN (b := bo) (off := 0) (i := (q - 1)) (o' := (q - 1)) rfl rfl sl_29 (by omega) (by omega)) ?_
      refine RD_h (i := 7) #[true, true, true, true, true, true, true, false, false, false, false, true, true, true, true, true, true, true, true, true, false, false] rfl rfl rfl rfl (by kernel_rfl) (fun _ _ _ h => hQ _ _ _ _ _ h) (Yh_load (v := nv (l2.getD q 0)) rfl sc_3 (by repeat (first | exact List.Mem.head _ | apply List.Mem.tail)) (at_nats (by omega) rfl)) ?_
      refine RD_y (i := 8) rfl rfl rfl rfl (by kernel_rfl) (fun _ _ _ h => hQ _ _ _ _ _ h) (Yl_indexN (b := g) (off := 0) (i := (l2.getD q 0)) (o' := (l2.getD q 0) * 28) rfl rfl sl_25 hx1 (by omega)) ?_
      refine RD_y (i := 9) rfl rfl rfl rfl (by kernel_rfl) (fun _ _ _ h => hQ _ _ _ _ _ h) (Yl_field rfl fo_43_0) ?_
      refine RD_h (i := 10) #[true, true, true, true, true, true, true, true, true, true, false, true, true, true, true, true, true, true, true, true, false, false] rfl rfl rfl rfl (by kernel_rfl) (fun _ _ _ h => hQ _ _ _ _ _ h) (Yh_load (v := .string (bar (ns.getD (l2.getD q 0) default).nd.name)) rfl sc_9 (by repeat (first | exact List.Mem.head _ | apply List.Mem.tail)) (at_name hy1 rfl)) ?_
      refine RD_h (i := 16) #[true, true, true, true, true, true, true, true, true, true, true, true, true, true, true, true, false, false, false, false, false, false] rfl rfl rfl rfl (by kernel_rfl) (fun _ _ _ h => hQ _ _ _ _ _ h) (Yh_load (v := nv (l2.getD (q - 1) 0)) rfl sc_3 (by repeat (first | exact List.Mem.head _ | apply List.Mem.tail)) (at_nats (by omega) rfl)) ?_
      refine RD_y (i := 17) rfl rfl rfl rfl (by kernel_rfl) (fun _ _ _ h => hQ _ _ _ _ _ h) (Yl_indexN (b := g) (off := 0) (i := (l2.getD (q - 1) 0)) (o' := (l2.getD (q - 1) 0) * 28) rfl rfl sl_25 hx2 (by omega)) ?_
      refine RD_y (i := 18) rfl rfl rfl rfl (by kernel_rfl) (fun _ _ _ h => hQ _ _ _ _ _ h) (Yl_field rfl fo_43_0) ?_
      refine RD_h (i := 19) #[true, true, true, true, true, true, true, true, true, true, true, true, true, true, true, true, true, true, true, false, false, false] rfl rfl rfl rfl (by kernel_rfl) (fun _ _ _ h => hQ _ _ _ _ _ h) (Yh_load (v := .string (bar (ns.getD (l2.getD (q - 1) 0) default).nd.name)) rfl sc_9 (by repeat (first | exact List.Mem.head _ | apply List.Mem.tail)) (at_name hy2 rfl)) ?_
      refine RD_one (i := 20) (by kernel_rfl) ?_
      refine RO_fx rfl rfl rfl rfl (Fx_callQ ok_22 (vs := [.string (bar (ns.getD (l2.getD q 0) default).nd.name), .string (bar (ns.getD (l2.getD (q - 1) 0) default).nd.name)]) (R := fun v => ∃ b, v = .bool b) rfl (Pick.nil _) (less_ct _ _)) ?_
      rintro _ _ ⟨⟨bb, rfl⟩, rfl⟩
      refine ⟨Or.inr (Sub.refl _), ?_⟩
      refine RD_y (i := 21) rfl rfl rfl rfl (by kernel_rfl) (fun _ _ _ h => hQ _ _ _ _ _ h) (Yl_pick_t rfl rfl) ?_
      refine (RD_done (by kernel_rfl) (QW_lv (ks := [0, 5, 20, 21, 23, 181, 182, 183, 189, 190, 215]) ?_))
      refine CW_cond rfl (fun hc3 => ?_) (fun hc3 => ?_)
      · skip
        refine (CW_skip (QW_lv (ks := [0, 5, 20, 21, 23, 181, 182, 183, 189, 190]) ?_))
        refine CW_seq ?_
        refine CW_block ?_
        have hpz := (swap_perm l2 (i := q) (j := q - 1) (by omega) (by omega)).trans hp2
        refine CW_draw [15, 17] _ mixed (Sub.refl _) ?_
        refine RD_y (i := 0) rfl rfl rfl rfl (by kernel_rfl) (fun _ _ _ h => hQ _ _ _ _ _ h) (Yl_move rfl) ?_
        refine RD_y (i := 1) rfl rfl rfl rfl (by kernel_rfl) (fun _ _ _ h => hQ _ _ _ _ _ h) (Yl_move rfl) ?_
        refine RD_y (i := 2) rfl rfl rfl rfl (by kernel_rfl) (fun _ _ _ h => hQ _ _ _ _ _ h) (Yl_move rfl) ?_
        refine RD_y (i := 3) rfl rfl rfl rfl (by kernel_rfl) (fun _ _ _ h => hQ _ _ _ _ _ h) (Yl_move rfl) ?_
        refine RD_y (i := 4) rfl rfl rfl rfl (by kernel_rfl) (fun _ _ _ h => hQ _ _ _ _ _ h) (Yl_sub (c := ((q - 1 : Nat) : Int)) rfl rfl (by rw [wi64 (by omega) (by omega)]; omega)) ?_
        refine RD_y (i := 5) rfl rfl rfl rfl (by kernel_rfl) (fun _ _ _ h => hQ _ _ _ _ _ h) (Yl_move rfl) ?_
        refine RD_y (i := 6) rfl rfl rfl rfl (by kernel_rfl) (fun _ _ _ h => hQ _ _ _ _ _ h) (Yl_move rfl) ?_
        refine RD_y (i := 7) rfl rfl rfl rfl (by kernel_rfl) (fun _ _ _ h => hQ _ _ _ _ _ h) (Yl_sub (c := ((q - 1 : Nat) : Int)) rfl rfl (by rw [wi64 (by omega) (by omega)]; omega)) ?_
        refine RD_y (i := 8) rfl rfl rfl rfl (by kernel_rfl) (fun _ _ _ h => hQ _ _ _ _ _ h) (Yl_indexN (b := bo) (off := 0) (i := (q - 1)) (o' := (q - 1)) rfl rfl sl_29 (by omega) (by omega)) ?_
        refine RD_y (i := 10) rfl rfl rfl rfl (by kernel_rfl) (fun _ _ _ h => hQ _ _ _ _ _ h) (Yl_move rfl) ?_
        refine RD_y (i := 11) rfl rfl rfl rfl (by kernel_rfl) (fun _ _ _ h => hQ _ _ _ _ _ h) (Yl_move rfl) ?_
        refine RD_y (i := 12) rfl rfl rfl rfl (by kernel_rfl) (fun _ _ _ h => hQ _ _ _ _ _ h) (Yl_indexN (b := bo) (off := 0) (i := q) (o' := q) rfl rfl sl_29 (by omega) (by omega)) ?_
        refine RD_h (i := 9) #[true, true, true, true, true, true, true, true, true, false, true, true, true, true, false, false, false, false] rfl rfl rfl rfl (by kernel_rfl) (fun _ _ _ h => hQ _ _ _ _ _ h) (Yh_load (v := nv (l2.getD (q - 1) 0)) rfl sc_3 (by repeat (first | exact List.Mem.head _ | apply List.Mem.tail)) (at_nats (by omega) rfl)) ?_
        refine RD_h (i := 13) #[true, true, true, true, true, true, true, true, true, true, true, true, true, false, false, false, false, false] rfl rfl rfl rfl (by kernel_rfl) (fun _ _ _ h => hQ _ _ _ _ _ h) (Yh_load (v := nv (l2.getD q 0)) rfl sc_3 (by repeat (first | exact List.Mem.head _ | apply List.Mem.tail)) (at_nats (by omega) rfl)) ?_
        refine RD_y (i := 14) rfl rfl rfl rfl (by kernel_rfl) (fun _ _ _ h => hQ _ _ _ _ _ h) (Yl_indexN (b := bo) (off := 0) (i := q) (o' := q) rfl rfl sl_29 (by omega) (by omega)) ?_
        refine RD_one (i := 15) (by kernel_rfl) ?_
        refine RO_fx0 rfl rfl rfl (Fx_store (v := nv (l2.getD (q - 1) 0)) (b := bo) (off := q) rfl rfl sz_3 rfl (by repeat (first | exact Rep.here _ _ _ | apply Rep.there)) (by simp; omega)) ?_
        rintro _ _ rfl
        refine ⟨Or.inl (by kernel_rfl), ?_⟩
        refine RD_y (i := 16) rfl rfl rfl rfl (by kernel_rfl) (fun _ _ _ h => hQ _ _ _ _ _ h) (Yl_indexN (b := bo) (off := 0) (i := (q - 1)) (o' := (q - 1)) rfl rfl sl_29 (by omega) (by omega)) ?_
        refine RD_one (i := 17) (by kernel_rfl) ?_
        refine RO_fx0 rfl rfl rfl (Fx_store (v := nv (l2.getD q 0)) (b := bo) (off := q - 1) rfl rfl sz_3 rfl (by repeat (first | exact Rep.here _ _ _ | apply Rep.there)) (by simp; omega)) ?_
        rintro _ _ rfl
        refine ⟨Or.inl (by kernel_rfl), ?_⟩
        refine RD_done (by kernel_rfl) ?_
        refine QW_normal_block ?_
        refine (QW_lv (ks := [0, 5, 20, 21, 23, 181, 182, 183, 189, 190]) ?_)
        first
          | rw [nats_set l2 rest q (l2.getD (q - 1) 0) (by omega), nats_set (l2.set q (l2.getD (q - 1) 0)) rest (q - 1) (l2.getD q 0) (by rw [List.length_set]; omega)]
          | rw [nats_set l2 rest (q - 1) (l2.getD q 0) (by omega), nats_set (l2.set (q - 1) (l2.getD q 0)) rest q (l2.getD (q - 1) 0) (by rw [List.length_set]; omega), List.set_comm (l2.getD q 0) (l2.getD (q - 1) 0) (show q - 1 ≠ q by omega)]
        refine CW_region ?_
        refine RW_m ?_
        refine RW_l (Yl_sub (c := ((q - 1 : Nat) : Int)) rfl rfl (by rw [wi64 (by omega) (by omega)]; omega)) ?_
        refine RW_a ?_
        refine RW_nil ?_
        first
          | exact QW_round (q - 1, (l2.set q (l2.getD (q - 1) 0)).set (q - 1) (l2.getD q 0)) ⟨by simp only; omega, hpz⟩ (by simp only; omega) (Prm.nil _) (.cons rfl (.cons rfl (.cons rfl (.cons rfl (.cons rfl (.cons rfl (.cons rfl (.cons rfl (.cons rfl (.cons rfl .nil))))))))))
          | (rw [List.set_comm (l2.getD q 0) (l2.getD (q - 1) 0) (show q - 1 ≠ q by omega)]; exact QW_round (q - 1, (l2.set q (l2.getD (q - 1) 0)).set (q - 1) (l2.getD q 0)) ⟨by simp only; omega, hpz⟩ (by simp only; omega) (Prm.nil _) (.cons rfl (.cons rfl (.cons rfl (.cons rfl (.cons rfl (.cons rfl (.cons rfl (.cons rfl (.cons rfl (.cons rfl .nil)))))))))))
      · skip
        refine CW_exit ?_
        refine QW_exit_then ?_
        refine QW_exit_then ?_
        refine QW_exit_block ?_
        refine QW_normal_block ?_
        refine (QW_lv (ks := [0, 5, 20, 21, 181, 182, 183, 189, 190]) ?_)
        refine CW_region ?_
        refine RW_l (Yl_add (c := ((j + 1 : Nat) : Int)) rfl rfl (wi64 (by omega) (by omega))) ?_
        refine RW_m ?_
        refine RW_nil ?_
        exact QW_round (j + 1, l2) ⟨by simp only; omega, hp2⟩ (by simp only; omega) (Prm.nil _) (.cons rfl (.cons rfl (.cons rfl (.cons rfl (.cons rfl (.cons rfl (.cons rfl (.cons rfl (.cons rfl .nil)))))))))
    · replace hg2 := of_decide_eq_false hg2
      refine RD_skip (i := 3) rfl rfl rfl rfl (by kernel_rfl) (fun _ _ _ h => hQ _ _ _ _ _ h) ?_
      refine RD_skip (i := 4) rfl rfl rfl rfl (by kernel_rfl) (fun _ _ _ h => hQ _ _ _ _ _ h) ?_
      refine RD_skip (i := 5) rfl rfl rfl rfl (by kernel_rfl) (fun _ _ _ h => hQ _ _ _ _ _ h) ?_
      refine RD_skip (i := 6) rfl rfl rfl rfl (by kernel_rfl) (fun _ _ _ h => hQ _ _ _ _ _ h) ?_
      refine RD_skip (i := 7) rfl rfl rfl rfl (by kernel_rfl) (fun _ _ _ h => hQ _ _ _ _ _ h) ?_
      refine RD_skip (i := 8) rfl rfl rfl rfl (by kernel_rfl) (fun _ _ _ h => hQ _ _ _ _ _ h) ?_
      refine RD_skip (i := 9) rfl rfl rfl rfl (by kernel_rfl) (fun _ _ _ h => hQ _ _ _ _ _ h) ?_
      refine RD_skip (i := 10) rfl rfl rfl rfl (by kernel_rfl) (fun _ _ _ h => hQ _ _ _ _ _ h) ?_
      refine RD_skip (i := 11) rfl rfl rfl rfl (by kernel_rfl) (fun _ _ _ h => hQ _ _ _ _ _ h) ?_
      refine RD_skip (i := 12) rfl rfl rfl rfl (by kernel_rfl) (fun _ _ _ h => hQ _ _ _ _ _ h) ?_
      refine RD_skip (i := 13) rfl rfl rfl rfl (by kernel_rfl) (fun _ _ _ h => hQ _ _ _ _ _ h) ?_
      refine RD_skip (i := 14) rfl rfl rfl rfl (by kernel_rfl) (fun _ _ _ h => hQ _ _ _ _ _ h) ?_
      refine RD_skip (i := 15) rfl rfl rfl rfl (by kernel_rfl) (fun _ _ _ h => hQ _ _ _ _ _ h) ?_
      refine RD_skip (i := 16) rfl rfl rfl rfl (by kernel_rfl) (fun _ _ _ h => hQ _ _ _ _ _ h) ?_
      refine RD_skip (i := 17) rfl rfl rfl rfl (by kernel_rfl) (fun _ _ _ h => hQ _ _ _ _ _ h) ?_
      refine RD_skip (i := 18) rfl rfl rfl rfl (by kernel_rfl) (fun _ _ _ h => hQ _ _ _ _ _ h) ?_
      refine RD_skip (i := 19) rfl rfl rfl rfl (by kernel_rfl) (fun _ _ _ h => hQ _ _ _ _ _ h) ?_
      refine RD_skip (i := 20) rfl rfl rfl rfl (by kernel_rfl) (fun _ _ _ h => hQ _ _ _ _ _ h) ?_
      refine RD_y (i := 21) rfl rfl rfl rfl (by kernel_rfl) (fun _ _ _ h => hQ _ _ _ _ _ h) (Yl_pick_f rfl rfl) ?_
      refine (RD_done (by kernel_rfl) (QW_lv (ks := [0, 5, 20, 21, 23, 181, 182, 183, 189, 190, 215]) ?_))
      refine CW_false rfl ?_
      refine CW_exit ?_
      refine QW_exit_then ?_
      refine QW_exit_then ?_
      refine QW_exit_block ?_
      refine QW_normal_block ?_
      refine (QW_lv (ks := [0, 5, 20, 21, 181, 182, 183, 189, 190]) ?_)
      refine CW_region ?_
      refine RW_l (Yl_add (c := ((j + 1 : Nat) : Int)) rfl rfl (wi64 (by omega) (by omega))) ?_
      refine RW_m ?_
      refine RW_nil ?_
      exact QW_round (j + 1, l2) ⟨by simp only; omega, hp2⟩ (by simp only; omega) (Prm.nil _) (.cons rfl (.cons rfl (.cons rfl (.cons rfl (.cons rfl (.cons rfl (.cons rfl (.cons rfl (.cons rfl .nil)))))))))
  · replace hc1 := of_decide_eq_false hc1
    refine CW_exit ?_
    refine QW_exit_then ?_
    refine QW_exit_then ?_
    refine QW_exit_block ?_
    refine (QW_lv (ks := [0, 5, 20, 21, 181, 182, 183]) ?_)
    exact hk l1 hp1
end Go.Proofs.YtgoddcicbpjknaaDoor

/-! Values: lists linked one behind the other. -/
set_option maxRecDepth 20000
namespace Go.Proofs.YtgoddcicbpjknaaDoor
open Go
open Cfb
theorem list_set_self {α : Type} : ∀ (l : List α) (k : Nat) (x : α), l[k]? = some x → l.set k x = l := by
  intro l k x h
  apply List.ext_getElem?
  intro j
  rw [List.getElem?_set]
  split
  · rename_i e; subst e
    split
    · exact h.symm
    · rename_i hz; rw [List.getElem?_eq_none (by omega)] at h; cases h
  · rfl
theorem Nm.turn_self (x : Nm) : x.turn x.nd.left x.nd.right x.nd.child = x := by cases x; rfl
/-- What linking a list gives, of places or of none. -/
theorem shape_any (g cl nN cN : Nat) (pN : Option Addr) (r rest : List Value) (D : Heap) (hnum : NumOk D pN nN) (hnN : nN ≤ 1000000000) (ns : List Nm) (l : List Nat) (o : Option Nat) (m c : Nat) (at_ : Nat)
    (hlm : l.length = m) (hm : m ≤ 20) (ho : oOk o (nats l) rest m c 1) (hnd : l.Nodup) (hl : ∀ k ∈ l, k < ns.length) (hns : ns.length ≤ 100) (hat : at_ ≤ 100) :
    Ct Tryd.prog 23 [.slice (some ⟨g, 0, none⟩) ns.length cl, osl o m c, .slice pN nN cN, nv at_] ((g, blk (nms ns ++ r) 43) :: (oH o (nats l ++ rest) 3 ++ D))
      (fun v q => ∃ ns' top, v = iv top ∧ Shp ns ns' l top ∧ q = (g, blk (nms ns' ++ r) 43) :: (oH o (nats l ++ rest) 3 ++ D)) := by
  cases o with
  | none =>
    have h0 := ho.1
    subst h0
    obtain rfl := List.eq_nil_of_length_eq_zero hlm
    refine ((shaped0_ct _ _ _ _ _).frame (G := (g, blk (nms ns ++ r) 43) :: D)).mono ?_
    rintro v q ⟨post, ⟨rfl, rfl⟩, rfl⟩
    exact ⟨ns, -1, rfl, Shp.nil ns, rfl⟩
  | some bp =>
    have h1 := ho.1
    rw [List.length_append, List.length_map, hlm, Nat.mul_one] at h1
    have hB : (at_ + 2) * 2 ^ m ≤ 1000000000000 := by
      have : 2 ^ m ≤ 2 ^ 20 := Nat.pow_le_pow_right (by omega) hm
      calc (at_ + 2) * 2 ^ m ≤ 102 * 2 ^ 20 := Nat.mul_le_mul (by omega) this
        _ ≤ 1000000000000 := by decide
    refine (shaped_ct g cl bp nN cN pN r (nats l ++ rest) D hnum hnN m ns l (some ⟨bp, 0, none⟩) m c at_ hlm (Nat.le_refl _) (by omega) hnd hl hns hB (.inr ⟨0, rfl, fun i hi => ?_⟩)).mono ?_
    · exact at_nats (by omega) (by omega)
    · rintro v q ⟨ns', top, rfl, hs, rfl⟩
      exact ⟨ns', top, rfl, hs, rfl⟩
/-- How far the lists are linked. -/
structure LI (n : Nat) (ns : List Nm) (bls : List Bl) (par : Nat → Nat) (i : Nat) (ms : List Nm) (cs : List Bl) : Prop where
  ile : i ≤ n
  len : ms.length = n
  blen : cs.length = n
  ok : ∀ b ∈ cs, b.ok
  val : cs.map Bl.val = bls.map Bl.val
  pl : PL n (fun p => (cs.getD p default).l) par
  turned : ∀ k, ∃ l r c, ms.getD k default = (ns.getD k default).turn l r c
  tree : ∀ p, p < i → STree (lfF ms) (rtF ms) (cs.getD p default).l (chdF ms p)
  root : lfF ms 0 = -1 ∧ rtF ms 0 = -1
theorem LI.first {n : Nat} {ns : List Nm} {bls : List Bl} {par : Nat → Nat} (h1 : ns.length = n) (h2 : bls.length = n) (hok : ∀ b ∈ bls, b.ok) (hpl : PL n (fun p => (bls.getD p default).l) par) (hr : lfF ns 0 = -1 ∧ rtF ns 0 = -1) : LI n ns bls par 0 ns bls :=
  ⟨by omega, h1, h2, hok, rfl, hpl, fun k => ⟨_, _, _, (Nm.turn_self _).symm⟩, fun p hp => by omega, hr⟩
theorem LI.step {n i : Nat} {ns ms m2 : List Nm} {bls cs : List Bl} {par : Nat → Nat} {b : Bl} {l1 : List Nat} {top : Int} (h : LI n ns bls par i ms cs) (hi : i < n) (hb : cs.getD i default = b) (hp : l1.Perm b.l) (hs : Shp ms m2 l1 top) :
    LI n ns bls par (i + 1) (m2.set i ((m2.getD i default).turn (lfF m2 i) (rtF m2 i) top)) (cs.set i { b with l := l1 }) := by
  have hl2 : m2.length = n := by rw [hs.len, h.len]
  have hlen1 : l1.length = b.l.length := hp.length_eq
  have hbm : b ∈ cs := by
    rw [← hb, List.getD_eq_getElem?_getD, List.getElem?_eq_getElem (by rw [h.blen]; exact hi)]; exact List.getElem_mem _
  have hbok := h.ok b hbm
  obtain ⟨m3, e3⟩ : ∃ x, x = m2.set i ((m2.getD i default).turn (lfF m2 i) (rtF m2 i) top) := ⟨_, rfl⟩
  have g3 : ∀ k, m3.getD k default = if i = k then (m2.getD i default).turn (lfF m2 i) (rtF m2 i) top else m2.getD k default := fun k => by rw [e3]; exact getD_setN _ _ _ _ (by omega)
  have gc : ∀ p, (cs.set i { b with l := l1 }).getD p default = if i = p then { b with l := l1 } else cs.getD p default := fun p => bl_getD_set _ _ _ _ (by rw [h.blen]; exact hi)
  have eL : ∀ k, lfF m3 k = lfF m2 k := by
    intro k; unfold lfF; rw [g3]; split
    · rename_i e; subst e; rfl
    · rfl
  have eR : ∀ k, rtF m3 k = rtF m2 k := by
    intro k; unfold rtF; rw [g3]; split
    · rename_i e; subst e; rfl
    · rfl
  have eC : ∀ k, i ≠ k → chdF m3 k = chdF m2 k := by
    intro k hk; unfold chdF; rw [g3, if_neg hk]
  have c2 : ∀ k, chdF m2 k = chdF ms k := by
    intro k
    by_cases hk : k ∈ l1
    · obtain ⟨l, r, e⟩ := hs.on k hk
      unfold chdF; rw [e]; rfl
    · unfold chdF; rw [hs.off k hk]
  have hin : ∀ k, k ∈ l1 ↔ 1 ≤ k ∧ k < n ∧ par k = i := by
    intro k
    rw [hp.mem_iff, ← hb]; exact h.pl.mem i k
  have hval : Bl.val { b with l := l1 } = b.val := by
    unfold Bl.val; rw [hlen1]
  rw [← e3]
  refine ⟨by omega, by rw [e3, List.length_set]; exact hl2, by rw [List.length_set]; exact h.blen, ?_, ?_, ?_, ?_, ?_, ?_⟩
  · intro x hx
    rcases List.mem_or_eq_of_mem_set hx with hx | rfl
    · exact h.ok x hx
    · unfold Bl.ok oOk at hbok ⊢
      simp only at hbok ⊢
      cases hbo : b.o with
      | none =>
        rw [hbo] at hbok
        simp only at hbok ⊢
        have h0 := hbok.1
        have : l1 = [] := List.eq_nil_of_length_eq_zero (by omega)
        rw [this]; exact ⟨rfl, rfl⟩
      | some g =>
        rw [hbo] at hbok
        simp only [List.length_append, List.length_map] at hbok ⊢
        omega
  · rw [List.map_set, hval, ← h.val]
    have h1 : (cs.map Bl.val)[i]? = some b.val := by
      rw [List.getElem?_map, List.getElem?_eq_getElem (by rw [h.blen]; exact hi)]
      rw [← hb, List.getD_eq_getElem?_getD, List.getElem?_eq_getElem (by rw [h.blen]; exact hi)]; rfl
    exact list_set_self _ _ _ h1
  · refine h.pl.perm (fun p => ?_)
    show ((cs.set i { b with l := l1 }).getD p default).l.Perm _
    rw [gc]
    split
    · rename_i e; subst e; rw [hb]; exact hp
    · exact .refl _
  · intro k
    obtain ⟨l, r, c, e⟩ := h.turned k
    have h2 : ∃ l r c, m2.getD k default = (ns.getD k default).turn l r c := by
      by_cases hk : k ∈ l1
      · obtain ⟨l2, r2, e2⟩ := hs.on k hk
        exact ⟨l2, r2, chdF ms k, by rw [e2, e]; rfl⟩
      · exact ⟨l, r, c, by rw [hs.off k hk, e]⟩
    obtain ⟨l2, r2, c3, e2⟩ := h2
    by_cases hk : i = k
    · subst hk
      exact ⟨_, _, _, by rw [g3, if_pos rfl, e2]; rfl⟩
    · exact ⟨l2, r2, c3, by rw [g3, if_neg hk, e2]⟩
  · intro p hpi
    show STree _ _ ((cs.set i { b with l := l1 }).getD p default).l _
    rw [gc]
    by_cases hpe : i = p
    · subst hpe
      rw [if_pos rfl]
      have e : chdF m3 i = top := by unfold chdF; rw [g3, if_pos rfl]; rfl
      rw [e]
      exact hs.tree.congr (fun k _ => eL k) (fun k _ => eR k)
    · rw [if_neg hpe, eC p hpe, c2]
      refine (h.tree p (by omega)).congr (fun k hk => ?_) (fun k hk => ?_)
      · have h1 := (h.pl.mem p k).1 hk
        have h2 : k ∉ l1 := fun hx => hpe (by have := (hin k).1 hx; omega)
        rw [eL]; unfold lfF; rw [hs.off k h2]
      · have h1 := (h.pl.mem p k).1 hk
        have h2 : k ∉ l1 := fun hx => hpe (by have := (hin k).1 hx; omega)
        rw [eR]; unfold rtF; rw [hs.off k h2]
  · have h0 : 0 ∉ l1 := fun hx => by have := (hin 0).1 hx; omega
    rw [eL, eR]
    unfold lfF rtF
    rw [hs.off 0 h0]
    exact h.root
/-- Linked nodes. -/
structure Lnk (ns : List Nm) (ls : Nat → List Nat) (par : Nat → Nat) : Prop where
  pl : PL ns.length ls par
  tree : ∀ p, p < ns.length → STree (lfF ns) (rtF ns) (ls p) (chdF ns p)
  root : lfF ns 0 = -1 ∧ rtF ns 0 = -1
theorem LI.last {n : Nat} {ns ms : List Nm} {bls cs : List Bl} {par : Nat → Nat} (h : LI n ns bls par n ms cs) : Lnk ms (fun p => (cs.getD p default).l) par :=
  ⟨by rw [h.len]; exact h.pl, fun p hp => h.tree p (by rw [← h.len]; exact hp), h.root⟩
theorem oOk_same {o : Option Nat} {l l1 : List Nat} {r : List Value} {n c : Nat} (h : oOk o (nats l) r n c 1) (e : l1.length = l.length) : oOk o (nats l1) r n c 1 := by
  cases o with
  | none =>
    have h0 := h.1
    have h1 : l = [] := by have := h.2; cases l with
      | nil => rfl
      | cons a r => cases this
    subst h1
    have : l1 = [] := List.eq_nil_of_length_eq_zero e
    subst this
    exact h
  | some g =>
    have h1 := h.1
    have h2 := h.2
    refine ⟨?_, ?_⟩
    · simp only [List.length_append, List.length_map] at h1 ⊢; omega
    · simp only [List.length_map] at h2 ⊢; omega
theorem Yl_minC {P : Program} {L : Fra} {dst : Option Tmp} {ty : TypeId} {pos : String} {aft : Array Edge} {gd : Option (Nat × Bool)} {x y : Operand} {k : IntKind} {m n c : Int} {ts : Array TypeId} (hx : ev L x = some (.int k m)) (hy : ev L y = some (.int k n)) (hc : (if n < m then n else m) = c) :
    Yl P L ⟨dst, .call ⟨.builtin .min, #[x, y], ts⟩, ty, pos, aft, gd⟩ (.int k c) := by rw [← hc]; exact Yl_min hx hy
theorem Yl_cutHP {P : Program} {L : Fra} {dst : Option Tmp} {ty : TypeId} {pos : String} {aft : Array Edge} {gd : Option (Nat × Bool)} {x z : Operand} {t e : TypeId} {sz m c h : Nat} {p : Option Addr} {j : IntKind} (hx : ev L x = some (.slice p m c)) (hz : ev L z = some (.int j (h : Int)))
    (ht : slOf P t = some (e, sz)) (h2 : h ≤ c) : Yl P L ⟨dst, .slice t x none (some z) none, ty, pos, aft, gd⟩ (.slice (cutAt p c 0 sz) h c) := by
  have := Yl_cutH (P := P) (dst := dst) (ty := ty) (pos := pos) (aft := aft) (gd := gd) hx hz ht (by omega) (by omega)
  simp only [Int.toNat_natCast] at this
  exact this
def rootNm : Nm := mkNm [82, 111, 111, 116, 32, 69, 110, 116, 114, 121] false 0 0
/-- How far the nodes are made. -/
structure NI (N k : Nat) (ns : List Nm) (cap : Nat) (r : List Value) (bls : List Bl) (capb : Nat) (rb : List Value) (at_ : Nat) : Prop where
  kle : k ≤ N
  len : ns.length = k + 1
  blen : bls.length = k + 1
  fit : (nms ns ++ r).length = cap * 28
  bfit : (bls.map Bl.val ++ rb).length = capb
  ok : ∀ b ∈ bls, b.ok
  pl : ∃ par, PL (k + 1) (fun p => (bls.getD p default).l) par
  root : ns.getD 0 default = rootNm
  made : ∀ j, 1 ≤ j → j < k + 1 → Made (ns.getD j default)
  at_ : at_ ≤ 9000 * k
theorem NI.first (N : Nat) : NI N 0 [rootNm] 1 [] [default] 1 [] 0 :=
  ⟨by omega, rfl, rfl, by rw [List.append_nil, length_nms]; rfl, rfl, by intro b hb; rw [List.mem_singleton.1 hb]; exact ⟨rfl, rfl⟩, ⟨_, PL.one (fun p => by cases p <;> rfl)⟩, rfl, fun j h1 h2 => by omega, by omega⟩
theorem NI.bl {N k : Nat} {ns : List Nm} {cap : Nat} {r : List Value} {bls : List Bl} {capb : Nat} {rb : List Value} {at_ : Nat} (h : NI N k ns cap r bls capb rb at_) (w : Nat) : (bls.getD w default).l.length ≤ k + 1 ∧ (w < bls.length → (bls.getD w default).ok) := by
  obtain ⟨par, hp⟩ := h.pl
  refine ⟨hp.len w, fun hw => h.ok _ ?_⟩
  rw [List.getD_eq_getElem?_getD, List.getElem?_eq_getElem hw]; exact List.getElem_mem _
theorem NI.add {N k : Nat} {ns : List Nm} {cap : Nat} {r : List Value} {bls : List Bl} {capb : Nat} {rb : List Value} {at_ cap' capb' at2 w : Nat} {r' rb' : List Value} {y : Nm} {nb : Bl} (h : NI N k ns cap r bls capb rb at_) (hk : k < N) (hw : w < ns.length) (hy : Made y)
    (hl : (nms (ns ++ [y]) ++ r').length = cap' * 28) (hb : (((bls ++ [default]).set w nb).map Bl.val ++ rb').length = capb') (hnb : nb.ok) (hnl : nb.l = (bls.getD w default).l ++ [ns.length]) (hat : at2 ≤ at_ + 9000) :
    NI N (k + 1) (ns ++ [y]) cap' r' ((bls ++ [default]).set w nb) capb' rb' at2 := by
  have hlen := h.len
  have hblen := h.blen
  have hg : ∀ p, (bls ++ [default]).getD p default = bls.getD p default := by
    intro p
    simp only [List.getD_eq_getElem?_getD, List.getElem?_append]
    split
    · rfl
    · rename_i hp
      rw [List.getElem?_eq_none (show bls.length ≤ p by omega)]
      cases hpe : p - bls.length with
      | zero => rfl
      | succ n => rfl
  have hw2 : w < (bls ++ [default]).length := by simp; omega
  refine ⟨by omega, by simp [hlen], by simp [hblen], hl, hb, ?_, ?_, ?_, ?_, by have := h.at_; omega⟩
  · intro b hb
    rcases List.mem_or_eq_of_mem_set hb with hb | rfl
    · rcases List.mem_append.1 hb with hb | hb
      · exact h.ok b hb
      · rw [List.mem_singleton.1 hb]; exact ⟨rfl, rfl⟩
    · exact hnb
  · obtain ⟨par, hp⟩ := h.pl
    refine ⟨_, hp.add (by omega) (w := w) (by omega) (fun p => ?_)⟩
    rw [bl_getD_set _ _ _ _ hw2]
    by_cases e : p = w
    · subst e
      rw [if_pos rfl, if_pos rfl, hnl, hlen]
    · rw [if_neg (fun x => e x.symm), if_neg e, hg]
  · rw [List.getD_eq_getElem?_getD, List.getElem?_append_left (by omega), ← List.getD_eq_getElem?_getD]; exact h.root
  · intro j h1 h2
    by_cases hj : j = ns.length
    · subst hj
      simpa [List.getD_eq_getElem?_getD] using hy
    · rw [List.getD_eq_getElem?_getD, List.getElem?_append_left (by omega), ← List.getD_eq_getElem?_getD]
      exact h.made j h1 (by omega)
/-- The nodes that nodesOf gives. -/
structure NodesOk (ns : List Nm) : Prop where
  len : 1 ≤ ns.length ∧ ns.length ≤ 20
  root : ∃ c, ns.getD 0 default = rootNm.turn (-1) (-1) c
  made : ∀ k, 1 ≤ k → k < ns.length → ∃ y l r c, Made y ∧ ns.getD k default = y.turn l r c
  lnk : ∃ ls par, Lnk ns ls par
theorem NI.first_link {N k : Nat} {ns : List Nm} {cap : Nat} {r : List Value} {bls : List Bl} {capb : Nat} {rb : List Value} {at_ : Nat} (h : NI N k ns cap r bls capb rb at_) : ∃ par, LI (k + 1) ns bls par 0 ns bls := by
  obtain ⟨par, hp⟩ := h.pl
  refine ⟨par, LI.first h.len h.blen h.ok hp ?_⟩
  unfold lfF rtF
  rw [h.root]
  exact ⟨rfl, rfl⟩
theorem NI.nodes {N k : Nat} {ns ms : List Nm} {cap : Nat} {r : List Value} {bls cs : List Bl} {capb : Nat} {rb : List Value} {at_ : Nat} {par : Nat → Nat} (h : NI N k ns cap r bls capb rb at_) (hN : N ≤ 19) (hL : LI (k + 1) ns bls par (k + 1) ms cs) : NodesOk ms := by
  have hlk := hL.last
  have hk := h.kle
  refine ⟨by rw [hL.len]; omega, ?_, ?_, _, _, hlk⟩
  · obtain ⟨l, r, c, e⟩ := hL.turned 0
    have h1 := hL.root
    unfold lfF rtF at h1
    rw [e] at h1
    rw [h.root] at e
    have h2 : l = -1 := h1.1
    have h3 : r = -1 := h1.2
    subst h2; subst h3
    exact ⟨c, e⟩
  · intro j h1 h2
    obtain ⟨l, r, c, e⟩ := hL.turned j
    exact ⟨_, l, r, c, h.made j h1 (by rw [← hL.len]; exact h2), e⟩
theorem nmsH_congr : ∀ (a b : List Nm), a.length = b.length → (∀ k, (a.getD k default).heap = (b.getD k default).heap) → nmsH a = nmsH b := by
  intro a
  induction a with
  | nil =>
    intro b h _
    cases b with
    | nil => rfl
    | cons x r => simp at h
  | cons x r ih =>
    intro b h hk
    cases b with
    | nil => simp at h
    | cons y s =>
      have h0 := hk 0
      simp only [List.getD_cons_zero] at h0
      simp only [nmsH, List.flatMap_cons]
      rw [h0]
      congr 1
      exact ih s (by simpa using h) (fun k => by have := hk (k + 1); simpa using this)
theorem LI.heap {n i : Nat} {ns ms : List Nm} {bls cs : List Bl} {par : Nat → Nat} (h : LI n ns bls par i ms cs) (hn : ns.length = n) : nmsH ms = nmsH ns := by
  refine nmsH_congr _ _ (by rw [h.len, hn]) (fun k => ?_)
  obtain ⟨l, r, c, e⟩ := h.turned k
  rw [e]; rfl
end Go.Proofs.YtgoddcicbpjknaaDoor

/-! Walks: nodesOf. -/
set_option maxRecDepth 20000
namespace Go.Proofs.YtgoddcicbpjknaaDoor
open Go
open Cfb
set_option maxHeartbeats 4000000 in
theorem nodes_T {E : World} {Q : Exit → Act → World → Prop} {F : Heap} (hQ : QP Q) (g cap gb capb n nN cN : Nat) (pN : Option Addr) (ns : List Nm) (bls : List Bl) (r rb : List Value) (par : Nat → Nat)  (hN : NumOk F pN nN) (hnN : nN ≤ 1000000000) (hn : 1 ≤ n ∧ n ≤ 20) (h0 : LI n ns bls par 0 ns bls)
    (hk : ∀ ms cs, (LI n ns bls par n ms cs) → CW Tryd.prog E 246 [(5, .slice (some ⟨g, 0, none⟩) n cap)] ((g, blk (nms ms ++ r) 43) :: F) (dig [1, 1, 1, 1, 1, 1] (bodyOf Tryd.f14)) Q) :
    CW Tryd.prog E 246 [(0, .slice pN nN cN), (5, .slice (some ⟨g, 0, none⟩) n cap), (6, .slice (some ⟨gb, 0, none⟩) n capb)] ((g, blk (nms ns ++ r) 43) :: (gb, blk (bls.map Bl.val ++ rb) 29) :: (blsH bls ++ F)) (dig [1, 1, 1, 1, 1] (bodyOf Tryd.f14)) Q := by
  refine CW_seq ?_
  refine CW_seq ?_
  refine CW_region ?_
  refine RW_m ?_
  refine RW_l (Yl_len rfl sl_66) ?_
  refine RW_m ?_
  refine RW_lv (ks := [0, 5, 181, 182, 183]) ?_
  refine CW_block ?_
  refine CW_loop (σ := Nat × List Nm × List Bl) (fun q => [(0, .slice pN nN cN), (5, .slice (some ⟨g, 0, none⟩) n cap), (181, .slice (some ⟨gb, 0, none⟩) n capb), (182, nv n), (183, nv q.1)]) (fun q => (g, blk (nms q.2.1 ++ r) 43) :: (gb, blk (bls.map Bl.val ++ rb) 29) :: (blsH q.2.2 ++ F)) (fun q => LI n ns bls par q.1 q.2.1 q.2.2) (fun q => n - q.1) (0, ns, bls) h0 (Prm.nil _) (.cons rfl (.cons rfl (.cons rfl (.cons rfl (.cons rfl .nil))))) ?_
  rintro ⟨i, ms, cs⟩ hI
  simp only at hI ⊢
  have hile := hI.ile
  have hmlen := hI.len
  have hclen := hI.blen
  refine CW_seq ?_
  refine CW_region ?_
  refine RW_l (Yl_lss rfl rfl) ?_
  refine RW_lv (ks := [0, 5, 181, 182, 183, 184]) ?_
  refine CW_seq ?_
  refine CW_cond rfl (fun hc1 => ?_) (fun hc1 => ?_)
  · replace hc1 := of_decide_eq_true hc1
    refine (CW_skip (QW_lv (ks := [0, 5, 181, 182, 183]) ?_))
    refine CW_seq ?_
    refine CW_block ?_
    refine CW_seq ?_
    refine CW_region ?_
    refine RW_m ?_
    refine RW_l (Yl_indexN (b := gb) (off := 0) (i := i) (o' := i) rfl rfl sl_66 (by omega) (by omega)) ?_
    refine RW_h (Yh_load (v := (cs.getD i default).val) rfl sc_29 (by repeat (first | exact List.Mem.head _ | apply List.Mem.tail)) (by rw [← hI.val]; exact bls_val cs rb i (by omega))) ?_
    refine RW_a ?_
    refine RW_a ?_
    refine RW_lv (ks := [0, 5, 20, 21, 181, 182, 183]) ?_
    obtain ⟨b, hb⟩ : ∃ b, cs.getD i default = b := ⟨_, rfl⟩
    have hbm : b ∈ cs := by rw [← hb, List.getD_eq_getElem?_getD, List.getElem?_eq_getElem (by omega)]; exact List.getElem_mem _
    have hbok : b.ok := hI.ok b hbm
    have hin : ∀ k, k ∈ b.l ↔ 1 ≤ k ∧ k < n ∧ par k = i := by intro k; rw [← hb]; exact hI.pl.mem i k
    have hnd : b.l.Nodup := by rw [← hb]; exact hI.pl.nd i
    have hblen : b.l.length ≤ n := by rw [← hb]; exact hI.pl.len i
    refine CW_heap (bl_perm [(g, blk (nms ms ++ r) 43), (gb, blk (bls.map Bl.val ++ rb) 29)] F cs i (by omega)) ?_
    rw [hb]
    refine nodes_S (F := ((gb, blk (bls.map Bl.val ++ rb) 29) :: (blsH (cs.eraseIdx i) ++ F))) (by intro c a d v w h; exact hQ c a d v w h) b.o g cap b.l.length b.cap n ms r b.rest b.l hmlen rfl (by omega) hbok (fun k hk => ((hin k).1 hk).2.1) (by omega) ?_
    intro l1 hp1
    refine CW_heap List.perm_middle ?_
    have hct := shape_any g cap nN cN pN r b.rest ((gb, blk (bls.map Bl.val ++ rb) 29) :: (blsH (cs.eraseIdx i) ++ F)) (hN.mono (.cons _ (List.sublist_append_right _ _))) hnN ms l1 b.o b.l.length b.cap i hp1.length_eq (by omega) (oOk_same hbok hp1.length_eq) (hp1.nodup_iff.2 hnd) (fun k hk => by have := (hin k).1 (hp1.mem_iff.1 hk); omega) (by omega) (by omega)
    rw [hmlen] at hct
    have hpk : Pick ((g, blk (nms ms ++ r) 43) :: (oH b.o (nats l1 ++ b.rest) 3 ++ ((gb, blk (bls.map Bl.val ++ rb) 29) :: (blsH (cs.eraseIdx i) ++ F)))) ((g, blk (nms ms ++ r) 43) :: (oH b.o (nats l1 ++ b.rest) 3 ++ ((gb, blk (bls.map Bl.val ++ rb) 29) :: (blsH (cs.eraseIdx i) ++ F)))) [] := by
      have hz := pick_app ((g, blk (nms ms ++ r) 43) :: (oH b.o (nats l1 ++ b.rest) 3 ++ ((gb, blk (bls.map Bl.val ++ rb) 29) :: (blsH (cs.eraseIdx i) ++ F)))) []
      rwa [List.append_nil] at hz
    refine CW_region ?_
    refine RW_m ?_
    refine RW_m ?_
    refine RW_m ?_
    refine RW_m ?_
    refine RW_m ?_
    refine RW_m ?_
    refine RW_fx rfl rfl rfl (Fx_call ok_23 (vs := [.slice (some ⟨g, 0, none⟩) n cap, osl b.o b.l.length b.cap, .slice pN nN cN, nv i]) rfl hpk hct) ?_
    rintro _ _ ⟨_, ⟨m2, top, rfl, hs, rfl⟩, rfl⟩
    simp only [List.append_nil]
    have hl2 : m2.length = n := by rw [hs.len, hmlen]
    refine RW_l (Yl_indexN (b := g) (off := 0) (i := i) (o' := i * 28) rfl rfl sl_25 (by omega) (by omega)) ?_
    refine RW_l (Yl_field rfl fo_43_5) ?_
    refine RW_fx0 rfl rfl (Fx_store (v := iv top) (b := g) (off := i * 28 + 5) rfl rfl sz_3 rfl (.here _ _ _) (by rw [List.length_append, length_nms]; omega)) ?_
    rintro _ _ rfl
    refine RW_nil ?_
    refine QW_normal_block ?_
    refine (QW_lv (ks := [0, 5, 181, 182, 183]) ?_)
    refine CW_region ?_
    refine RW_l (Yl_add (c := ((i + 1 : Nat) : Int)) rfl rfl (wi64 (by omega) (by omega))) ?_
    refine RW_m ?_
    refine RW_nil ?_
    rw [nms_set m2 i 5 (iv top) ((m2.getD i default).turn (lfF m2 i) (rtF m2 i) top) r (by omega) (by omega) rfl]
    have hI2 := hI.step (by omega) hb hp1 hs
    refine QW_heap (H' := (g, blk (nms (m2.set i ((m2.getD i default).turn (lfF m2 i) (rtF m2 i) top)) ++ r) 43) :: (gb, blk (bls.map Bl.val ++ rb) 29) :: (blsH (cs.set i { b with l := l1 }) ++ F)) ?_ ?_
    · exact (bl_set [(gb, blk (bls.map Bl.val ++ rb) 29)] F cs i { b with l := l1 } (by omega)).cons _
    · exact QW_round (i + 1, (m2.set i ((m2.getD i default).turn (lfF m2 i) (rtF m2 i) top)), cs.set i { b with l := l1 }) hI2 (by simp only; omega) (Prm.nil _) (.cons rfl (.cons rfl (.cons rfl (.cons rfl (.cons rfl .nil)))))
  · replace hc1 := of_decide_eq_false hc1
    refine CW_exit ?_
    refine QW_exit_then ?_
    refine QW_exit_then ?_
    refine QW_exit_block ?_
    refine (QW_lv (ks := [5]) ?_)
    have hie : i = n := by omega
    rw [hie] at hI
    refine CW_drop (H' := (g, blk (nms ms ++ r) 43) :: F) (.cons_cons _ (.cons _ (List.sublist_append_right _ _))) ?_
    exact hk ms cs hI
structure NSt where
  k : Nat
  ns : List Nm
  g : Nat
  cap : Nat
  r : List Value
  bls : List Bl
  gb : Nat
  capb : Nat
  rb : List Value
  at_ : Nat
set_option maxHeartbeats 4000000 in
theorem nodesOf_ct (nN cN nD cD : Nat) (pN pD : Option Addr) (D : Heap) (hN : NumOk D pN nN) (hD : BytOk D pD nD) (hnN : nN ≤ 1000) (hcN : nN ≤ cN) (hnD : nD ≤ 10000) :
    Ct Tryd.prog 14 [.slice pN nN cN, .slice pD nD cD] D (fun v q => ∃ ns g cap r, v = .slice (some ⟨g, 0, none⟩) ns.length cap ∧ NodesOk ns ∧ (nms ns ++ r).length = cap * 28 ∧ q = (g, blk (nms ns ++ r) 43) :: (nmsH ns ++ D)) := by
  refine Ct_of Tryd.func14 rfl Tryd.ntmps14 rfl ?_
  intro E F
  simp only [numL, List.nil_append, List.cons_append]
  refine CW_seq ?_
  refine CW_region ?_
  refine RW_a ?_
  refine RW_lv (ks := [0, 1]) ?_
  refine CW_seq ?_
  refine CW_region ?_
  refine RW_l (Yl_build (cs := rootNm.cells) pl_43 ze_43 rfl rfl) ?_
  refine RW_fx rfl rfl rfl (Fx_lit (vs := [.agg rootNm.cells.toArray]) (css := [rootNm.cells]) (cs := rootNm.cells) sl_25 ze_43 rfl rfl rfl rfl rfl (by intro c hc; rw [List.mem_singleton.1 hc]; exact Nm.length_cells _) (by simp)) ?_
  rintro _ _ ⟨b25, rfl, rfl⟩
  refine RW_a ?_
  refine RW_lv (ks := [0, 1, 5]) ?_
  refine CW_seq ?_
  refine CW_region ?_
  refine RW_fx rfl rfl rfl (Fx_litS (vs := [.slice none 0 0]) sl_66 ze_29 rfl rfl rfl rfl rfl) ?_
  rintro _ _ ⟨b26, rfl, rfl⟩
  refine RW_a ?_
  refine RW_lv (ks := [0, 1, 5, 6]) ?_
  refine CW_seq ?_
  refine CW_region ?_
  refine RW_a ?_
  refine RW_lv (ks := [0, 1, 5, 6, 7]) ?_
  refine CW_seq ?_
  refine CW_seq ?_
  obtain ⟨N, hN1, hNn, hN19⟩ : ∃ N : Nat, (if (19 : Int) < (nN : Int) then (19 : Int) else (nN : Int)) = (N : Int) ∧ N ≤ nN ∧ N ≤ 19 := by
    by_cases h : (19 : Int) < (nN : Int)
    · exact ⟨19, by rw [if_pos h]; rfl, by omega, by omega⟩
    · exact ⟨nN, by rw [if_neg h], by omega, by omega⟩
  refine CW_region ?_
  refine RW_m ?_
  refine RW_m ?_
  refine RW_l (Yl_len rfl sl_22) ?_
  refine RW_l (Yl_minC (c := (N : Int)) rfl rfl hN1) ?_
  refine RW_l (Yl_cutHP (h := N) rfl rfl sl_22 (by omega)) ?_
  refine RW_l (Yl_len rfl sl_22) ?_
  refine RW_m ?_
  refine RW_lv (ks := [0, 1, 5, 6, 7, 31, 32, 33]) ?_
  refine CW_block ?_
  refine CW_loop (σ := NSt) (fun s => [(0, .slice pN nN cN), (1, .slice pD nD cD), (5, .slice (some ⟨s.g, 0, none⟩) s.ns.length s.cap), (6, .slice (some ⟨s.gb, 0, none⟩) s.bls.length s.capb), (7, nv s.at_), (31, .slice (cutAt pN cN 0 1) N cN), (32, nv N), (33, nv s.k)]) (fun s => (s.g, blk (nms s.ns ++ s.r) 43) :: (s.gb, blk (s.bls.map Bl.val ++ s.rb) 29) :: (blsH s.bls ++ (nmsH s.ns ++ (D ++ F)))) (fun s => NI N s.k s.ns s.cap s.r s.bls s.capb s.rb s.at_) (fun s => N - s.k) ⟨0, [rootNm], b25, 1, [], [default], b26, 1, [], 0⟩ (NI.first N) (by rw [show nms [rootNm] ++ [] = rootNm.cells by simp [nms]]; exact (by repeat (first | exact Prm.nil _ | exact Rem.here _ _ | apply Rem.there | apply Prm.cons))) (.cons rfl (.cons rfl (.cons rfl (.cons rfl (.cons rfl (.cons rfl (.cons rfl (.cons rfl .nil)))))))) ?_
  rintro ⟨k, ns, g, cap, r, bls, gb, capb, rb, at_⟩ hI
  simp only at hI ⊢
  have hkle := hI.kle
  have hlen := hI.len
  have hblen := hI.blen
  have hat := hI.at_
  refine CW_seq ?_
  refine CW_region ?_
  refine RW_l (Yl_lss rfl rfl) ?_
  refine RW_lv (ks := [0, 1, 5, 6, 7, 31, 32, 33, 34]) ?_
  refine CW_seq ?_
  refine CW_cond rfl (fun hc1 => ?_) (fun hc1 => ?_)
  · replace hc1 := of_decide_eq_true hc1
    refine (CW_skip (QW_lv (ks := [0, 1, 5, 6, 7, 31, 32, 33]) ?_))
    refine CW_seq ?_
    refine CW_block ?_
    refine CW_seq ?_
    rcases hN with h0 | ⟨bN, oN, lN, TN, fzN, rfl, hmN, hxN⟩
    · exfalso; omega
    obtain ⟨x, hxb, hx⟩ := hxN k (by omega)
    rw [cutAt_zero]
    refine CW_region ?_
    refine RW_m ?_
    refine RW_l (Yl_indexN (b := bN) (off := oN) (i := k) (o' := oN + k) rfl rfl sl_22 (by omega) (by omega)) ?_
    refine RW_h (Yh_load (v := uv x) rfl sc_67 ((show List.Sublist D _ by repeat (first | exact List.sublist_append_left _ _ | apply List.Sublist.cons | refine List.Sublist.trans ?_ (List.sublist_append_right _ _))).subset hmN) hx) ?_
    refine RW_a ?_
    refine RW_a ?_
    refine RW_lv (ks := [0, 1, 5, 6, 7, 8, 9, 31, 32, 33]) ?_
    refine nodes_A (F := (g, blk (nms ns ++ r) 43) :: (gb, blk (bls.map Bl.val ++ rb) 29) :: (blsH bls ++ (nmsH ns ++ (D ++ F)))) (by intro c a d v w h; exact h) at_ k x nD cD pD (hD.mono (by repeat (first | exact List.sublist_append_left _ _ | apply List.Sublist.cons | refine List.Sublist.trans ?_ (List.sublist_append_right _ _)))) (by omega) hxb (by omega) (by omega) ?_
    intro y h b11 at2 hy hh hat1 hat2
    refine nodes_W (F := (b11, blk y.cells 43) :: (y.heap ++ ((g, blk (nms ns ++ r) 43) :: (gb, blk (bls.map Bl.val ++ rb) 29) :: (blsH bls ++ (nmsH ns ++ (D ++ F)))))) (by intro c a d v w h; exact h) g cap h ns r (List.Mem.tail _ (List.mem_append_right _ (List.Mem.head _))) ⟨by omega, by omega⟩ hh ?_
    intro w hw
    refine CW_heap ((perm_front y.heap ((g, blk (nms ns ++ r) 43) :: (gb, blk (bls.map Bl.val ++ rb) 29) :: blsH bls) (nmsH ns ++ (D ++ F))).cons _) ?_
    simp only [List.cons_append]
    refine nodes_P (F := y.heap ++ (nmsH ns ++ (D ++ F))) (by intro c a d v w h; exact h) y b11 g cap gb capb w ns bls r rb hI.fit hI.bfit (by omega) ((hI.bl w).2 (by omega)) (by omega) (by omega) (by have := (hI.bl w).1; omega) ?_
    intro g2 cap2 gb2 capb2 r2 rb2 nb hl2 hlb2 hnb hnl
    refine QW_normal_block ?_
    refine (QW_lv (ks := [0, 1, 5, 6, 7, 31, 32, 33]) ?_)
    refine CW_region ?_
    refine RW_l (Yl_add (c := ((k + 1 : Nat) : Int)) rfl rfl (wi64 (by omega) (by omega))) ?_
    refine RW_m ?_
    refine RW_nil ?_
    have hI2 := hI.add (by omega) hw hy hl2 hlb2 hnb hnl (by omega)
    rw [show ns.length + 1 = (ns ++ [y]).length by simp, show bls.length + 1 = ((bls ++ [default]).set w nb).length by simp]
    refine QW_heap (H' := (g2, blk (nms (ns ++ [y]) ++ r2) 43) :: (gb2, blk (((bls ++ [default]).set w nb).map Bl.val ++ rb2) 29) :: (blsH ((bls ++ [default]).set w nb) ++ (nmsH (ns ++ [y]) ++ (D ++ F)))) ?_ ?_
    · refine (List.Perm.swap _ _ _).trans (((List.Perm.append_left _ ?_).cons _).cons _)
      rw [show nmsH (ns ++ [y]) = nmsH ns ++ y.heap by simp [nmsH], List.append_assoc]
      exact perm_front _ _ _
    · exact QW_round ⟨k + 1, ns ++ [y], g2, cap2, r2, (bls ++ [default]).set w nb, gb2, capb2, rb2, at2⟩ hI2 (by simp only; omega) (Prm.nil _) (.cons rfl (.cons rfl (.cons rfl (.cons rfl (.cons rfl (.cons rfl (.cons rfl (.cons rfl .nil))))))))
  · replace hc1 := of_decide_eq_false hc1
    refine CW_exit ?_
    refine QW_exit_then ?_
    refine QW_exit_then ?_
    refine QW_exit_block ?_
    refine (QW_lv (ks := [0, 5, 6]) ?_)
    obtain ⟨par, hL0⟩ := hI.first_link
    rw [hblen, hlen]
    refine nodes_T (F := (nmsH ns ++ (D ++ F))) (by intro c a d v w h; exact h) g cap gb capb (k + 1) nN cN pN ns bls r rb par (hN.mono (List.Sublist.trans (List.sublist_append_left _ _) (List.sublist_append_right _ _))) (by omega) ⟨by omega, by omega⟩ hL0 ?_
    intro ms cs hL
    refine CW_seq ?_
    refine CW_region ?_
    refine RW_m ?_
    refine RW_a ?_
    refine RW_lv (ks := [4]) ?_
    refine CW_ret ?_
    refine QW_ret1 rfl rfl ((g, blk (nms ms ++ r) 43) :: (nmsH ms ++ D)) ⟨ms, g, cap, r, by rw [hL.len], hI.nodes (by omega) hL, by rw [List.length_append, length_nms, hL.len, ← hI.fit, List.length_append, length_nms, hlen], rfl⟩ ?_
    rw [hL.heap hlen]
    simp only [List.cons_append, List.append_assoc]
    exact Prm.nil _
end Go.Proofs.YtgoddcicbpjknaaDoor

/-! Plain: trees of places, the order in which they are told. -/
set_option maxRecDepth 20000
namespace Go.Proofs.YtgoddcicbpjknaaDoor
open Go
open Cfb
/-- A tree's places in order: left, itself, below, right. -/
inductive FT (lf rt ch : Nat → Int) : Int → List Nat → Prop
  | nil : FT lf rt ch (-1) []
  | node {k : Nat} {a c b : List Nat} (ha : FT lf rt ch (lf k) a) (hc : FT lf rt ch (ch k) c) (hb : FT lf rt ch (rt k) b) : FT lf rt ch (k : Int) (a ++ k :: (c ++ b))
/-- The same with what each lies in. -/
inductive OT (lf rt ch : Nat → Int) (nm : Nat → List UInt8) : Int → List (List UInt8) → List (Nat × List (List UInt8)) → Prop
  | nil {p : List (List UInt8)} : OT lf rt ch nm (-1) p []
  | node {k : Nat} {p : List (List UInt8)} {a c b : List (Nat × List (List UInt8))} (ha : OT lf rt ch nm (lf k) p a) (hc : OT lf rt ch nm (ch k) (if k = 0 then p else p ++ [nm k]) c) (hb : OT lf rt ch nm (rt k) p b) :
      OT lf rt ch nm (k : Int) p (a ++ (k, p) :: (c ++ b))
theorem FT.ot {lf rt ch : Nat → Int} {nm : Nat → List UInt8} {t : Int} {L : List Nat} (h : FT lf rt ch t L) : ∀ p, ∃ o, OT lf rt ch nm t p o ∧ o.map Prod.fst = L := by
  induction h with
  | nil => intro p; exact ⟨[], .nil, rfl⟩
  | node ha hc hb iha ihc ihb =>
    rename_i k a c b
    intro p
    obtain ⟨oa, h1, e1⟩ := iha p
    obtain ⟨oc, h2, e2⟩ := ihc (if k = 0 then p else p ++ [nm k])
    obtain ⟨ob, h3, e3⟩ := ihb p
    exact ⟨_, .node h1 h2 h3, by simp [e1, e2, e3]⟩
/-- What is below a place. -/
def below (ls : Nat → List Nat) : Nat → Nat → List Nat
  | 0, _ => []
  | f + 1, p => (ls p).flatMap fun j => j :: below ls f j
theorem FT.of_st {lf rt ch : Nat → Int} {D : Nat → List Nat} {pl : List Nat} {t : Int} (h : STree lf rt pl t) (hd : ∀ j ∈ pl, FT lf rt ch (ch j) (D j)) : FT lf rt ch t (pl.flatMap fun j => j :: D j) := by
  induction h with
  | nil => exact .nil
  | node ha hb iha ihb =>
    rename_i a b m
    have h1 := iha (fun j hj => hd j (by simp [hj]))
    have h2 := ihb (fun j hj => hd j (by simp [hj]))
    have h3 := hd m (by simp)
    have := FT.node h1 h3 h2
    simpa using this
section
variable {n : Nat} {ls : Nat → List Nat} {par : Nat → Nat} {lf rt ch : Nat → Int}
theorem below_ft (h : PL n ls par) (ht : ∀ p, p < n → STree lf rt (ls p) (ch p)) : ∀ f p, p < n → n ≤ p + f → FT lf rt ch (ch p) (below ls f p) := by
  intro f
  induction f with
  | zero => intro p h1 h2; omega
  | succ f ih =>
    intro p h1 h2
    refine FT.of_st (ht p h1) (fun j hj => ?_)
    have h3 := (h.mem p j).1 hj
    have h4 := h.lt j h3.1 h3.2.1
    exact ih j h3.2.1 (by omega)
theorem below_mem (h : PL n ls par) : ∀ f p, p < n → ∀ x ∈ below ls f p, p < x ∧ x < n ∧ (par x = p ∨ par x ∈ below ls f p) := by
  intro f
  induction f with
  | zero => intro p _ x hx; cases hx
  | succ f ih =>
    intro p hp x hx
    obtain ⟨j, hj, hx⟩ := List.mem_flatMap.1 hx
    have h3 := (h.mem p j).1 hj
    have h4 := h.lt j h3.1 h3.2.1
    rcases List.mem_cons.1 hx with rfl | hx
    · exact ⟨by omega, h3.2.1, .inl h3.2.2⟩
    · obtain ⟨h5, h6, h7⟩ := ih j h3.2.1 x hx
      refine ⟨by omega, h6, .inr (List.mem_flatMap.2 ⟨j, hj, ?_⟩)⟩
      rcases h7 with h7 | h7
      · rw [h7]; exact List.mem_cons_self ..
      · exact List.mem_cons_of_mem _ h7
theorem below_nodup (h : PL n ls par) : ∀ f p, p < n → (below ls f p).Nodup := by
  intro f
  induction f with
  | zero => intro p _; exact List.nodup_nil
  | succ f ih =>
    intro p hp
    have key : ∀ x j i, j ∈ ls p → i ∈ ls p → x ∈ j :: below ls f j → x ∈ i :: below ls f i → j = i := by
      intro x
      induction x using Nat.strongRecOn with
      | _ x ihx =>
        intro j i hj hi hxj hxi
        have a1 := (h.mem p j).1 hj
        have b1 := (h.mem p i).1 hi
        have a2 := h.lt j a1.1 a1.2.1
        have b2 := h.lt i b1.1 b1.2.1
        rcases List.mem_cons.1 hxj with e1 | hxj
        · rcases List.mem_cons.1 hxi with e2 | hxi
          · omega
          · have h5 := below_mem h f i b1.2.1 x hxi
            rcases h5.2.2 with h6 | h6
            · subst e1; omega
            · have h7 := below_mem h f i b1.2.1 _ h6
              subst e1; omega
        · rcases List.mem_cons.1 hxi with e2 | hxi
          · have h5 := below_mem h f j a1.2.1 x hxj
            rcases h5.2.2 with h6 | h6
            · subst e2; omega
            · have h7 := below_mem h f j a1.2.1 _ h6
              subst e2; omega
          · have h5 := below_mem h f j a1.2.1 x hxj
            have h6 := below_mem h f i b1.2.1 x hxi
            have h7 := h.lt x (by omega) h5.2.1
            refine ihx (par x) h7 j i hj hi ?_ ?_
            · rcases h5.2.2 with h8 | h8
              · rw [h8]; exact List.mem_cons_self ..
              · exact List.mem_cons_of_mem _ h8
            · rcases h6.2.2 with h8 | h8
              · rw [h8]; exact List.mem_cons_self ..
              · exact List.mem_cons_of_mem _ h8
    refine List.pairwise_flatMap.2 ⟨fun j hj => ?_, ?_⟩
    · have a1 := (h.mem p j).1 hj
      refine List.nodup_cons.2 ⟨fun hx => ?_, ih j a1.2.1⟩
      have := below_mem h f j a1.2.1 j hx
      omega
    · refine (h.nd p).imp_of_mem ?_
      intro j i hj hi hne x hx y hy e
      subst e
      exact hne (key x j i hj hi hx hy)
theorem below_all (h : PL n ls par) : ∀ f p q x, p < n → n ≤ p + f → q ∈ below ls f p → x ∈ ls q → x ∈ below ls f p := by
  intro f
  induction f with
  | zero => intro p q x h1 h2; omega
  | succ f ih =>
    intro p q x h1 h2 hq hx
    obtain ⟨j, hj, hq⟩ := List.mem_flatMap.1 hq
    have a1 := (h.mem p j).1 hj
    have a2 := h.lt j a1.1 a1.2.1
    refine List.mem_flatMap.2 ⟨j, hj, List.mem_cons_of_mem _ ?_⟩
    rcases List.mem_cons.1 hq with rfl | hq
    · cases f with
      | zero => omega
      | succ f => exact List.mem_flatMap.2 ⟨x, hx, List.mem_cons_self ..⟩
    · exact ih j q x a1.2.1 (by omega) hq hx
theorem below_root (h : PL n ls par) (hn : 1 ≤ n) : ∀ x, 1 ≤ x → x < n → x ∈ below ls n 0 := by
  intro x
  induction x using Nat.strongRecOn with
  | _ x ih =>
    intro h1 h2
    have h3 := h.lt x h1 h2
    have hx : x ∈ ls (par x) := (h.mem _ x).2 ⟨h1, h2, rfl⟩
    rcases Nat.eq_zero_or_pos (par x) with h0 | h0
    · rw [h0] at hx
      cases n with
      | zero => omega
      | succ f => exact List.mem_flatMap.2 ⟨x, hx, List.mem_cons_self ..⟩
    · exact below_all h n 0 (par x) x (by omega) (by omega) (ih _ h3 h0 (by omega)) hx
end
/-- The nodes' order: each once. -/
theorem Lnk.order {ns : List Nm} {ls : Nat → List Nat} {par : Nat → Nat} (h : Lnk ns ls par) (hn : 1 ≤ ns.length) (nm : Nat → List UInt8) :
    ∃ o, OT (lfF ns) (rtF ns) (chdF ns) nm 0 [] o ∧ (o.map Prod.fst).Nodup ∧ (∀ k, k ∈ o.map Prod.fst ↔ k < ns.length) ∧ o.length ≤ ns.length := by
  have h1 := below_ft h.pl h.tree ns.length 0 (by omega) (by omega)
  have h2 : FT (lfF ns) (rtF ns) (chdF ns) ((0 : Nat) : Int) ([] ++ 0 :: (below ls ns.length 0 ++ [])) := .node (by rw [h.root.1]; exact .nil) h1 (by rw [h.root.2]; exact .nil)
  obtain ⟨o, h3, h4⟩ := h2.ot (nm := nm) []
  simp only [List.nil_append, List.append_nil] at h4
  have h5 := below_mem h.pl ns.length 0 (by omega)
  have h6 : (o.map Prod.fst).Nodup := by
    rw [h4]
    exact List.nodup_cons.2 ⟨fun hx => by have := h5 0 hx; omega, below_nodup h.pl ns.length 0 (by omega)⟩
  have h7 : ∀ k, k ∈ o.map Prod.fst ↔ k < ns.length := by
    intro k
    rw [h4, List.mem_cons]
    constructor
    · rintro (rfl | hk)
      · omega
      · exact (h5 k hk).2.1
    · intro hk
      rcases Nat.eq_zero_or_pos k with h0 | h0
      · exact .inl h0
      · exact .inr (below_root h.pl hn k h0 hk)
  refine ⟨o, h3, h6, h7, ?_⟩
  have := nodup_len ns.length _ h6 (fun x hx => (h7 x).1 hx)
  simpa using this
/-- The entries are gone through in that order. -/
theorem trav_ot {es : List Tn} {lf rt ch : Nat → Int} {nm : Nat → List UInt8} (hN : es.length ≤ 100000) {t : Int} {p : List (List UInt8)} {o : List (Nat × List (List UInt8))} (h : OT lf rt ch nm t p o) :
    ∀ (f : Nat) (s : TS), s.bad = false → s.cnt + o.length ≤ es.length → o.length ≤ f → (∀ k ∈ o.map Prod.fst, k < es.length ∧ es.getD k default = ⟨nm k, lnkF (lf k), lnkF (ch k), lnkF (rt k)⟩) → (o.map Prod.fst).Nodup →
      ∃ s', s' = (if lnkF t = FREE then s else trav es f (lnkF t) p s) ∧ s'.bad = false ∧ s'.cnt = s.cnt + o.length ∧ s'.out = s.out ++ o.map Prod.fst ∧ (∀ k, k ∉ o.map Prod.fst → s'.pth k = s.pth k) ∧ ∀ x ∈ o, s'.pth x.1 = x.2 := by
  induction h with
  | nil =>
    intro f s hb _ _ _ _
    exact ⟨s, by rw [if_pos lnkF_none], hb, rfl, by simp, fun k _ => rfl, fun x hx => by cases hx⟩
  | node ha hc hb iha ihc ihb =>
    rename_i k p a c b
    intro f s hbad hcnt hf hk hnd
    have hlen : (a ++ (k, p) :: (c ++ b)).length = a.length + 1 + (c.length + b.length) := by simp; omega
    rw [hlen] at hcnt hf
    obtain ⟨hk1, hk2⟩ := hk k (by simp)
    have hnk : lnkF (k : Int) = k := lnkF_nat k
    cases f with
    | zero => omega
    | succ f =>
      have hmap : (a ++ (k, p) :: (c ++ b)).map Prod.fst = a.map Prod.fst ++ k :: (c.map Prod.fst ++ b.map Prod.fst) := by simp
      rw [hmap] at hnd hk
      have n1 := List.nodup_append.1 hnd
      have n2 := List.nodup_cons.1 n1.2.1
      have n3 := List.nodup_append.1 n2.2
      obtain ⟨s1, e1, b1, c1, o1, p1, q1⟩ := iha f s.call hbad (by show s.cnt + 1 + _ ≤ _; omega) (by omega) (fun x hx => hk x (List.mem_append_left _ hx)) n1.1
      obtain ⟨s3, e3, b3, c3, o3, p3, q3⟩ := ihc f (s1.visit k p) b1 (by show s1.cnt + _ ≤ _; rw [c1]; show s.cnt + 1 + _ + _ ≤ _; omega) (by omega) (fun x hx => hk x (List.mem_append_right _ (List.mem_cons_of_mem _ (List.mem_append_left _ hx)))) n3.1
      have cc3 : s3.cnt = s.cnt + 1 + a.length + c.length := by rw [c3]; show s1.cnt + _ = _; rw [c1]; rfl
      obtain ⟨s4, e4, b4, c4, o4, p4, q4⟩ := ihb f s3 b3 (by rw [cc3]; omega) (by omega) (fun x hx => hk x (List.mem_append_right _ (List.mem_cons_of_mem _ (List.mem_append_right _ hx)))) n3.2.1
      refine ⟨s4, ?_, b4, by rw [c4, cc3, hlen]; omega, ?_, ?_, ?_⟩
      · rw [hnk, if_neg (show ¬ k = 4294967295 by omega), trav, if_neg (by omega), if_neg (by omega)]
        unfold travS
        simp only [hk2]
        rw [e4, e3, e1]
      · rw [o4, o3]
        show (s1.out ++ [k]) ++ _ ++ _ = _
        rw [o1, hmap]
        show (s.out ++ _ ++ [k]) ++ _ ++ _ = _
        simp
      · intro x hx
        rw [hmap] at hx
        simp only [List.mem_append, List.mem_cons, not_or] at hx
        rw [p4 x hx.2.2.2, p3 x hx.2.2.1]
        show (if x = k then p else s1.pth x) = _
        rw [if_neg hx.2.1, p1 x hx.1]
        rfl
      · intro x hx
        simp only [List.mem_append, List.mem_cons] at hx
        have mem1 : ∀ {l : List (Nat × List (List UInt8))}, x ∈ l → x.1 ∈ l.map Prod.fst := fun h => List.mem_map.2 ⟨x, h, rfl⟩
        rcases hx with hx | hx | hx | hx
        · have m1 := mem1 hx
          have d1 : x.1 ∉ b.map Prod.fst := fun e => n1.2.2 _ m1 _ (List.mem_cons_of_mem _ (List.mem_append_right _ e)) rfl
          have d2 : x.1 ∉ c.map Prod.fst := fun e => n1.2.2 _ m1 _ (List.mem_cons_of_mem _ (List.mem_append_left _ e)) rfl
          have d3 : x.1 ≠ k := fun e => n1.2.2 _ m1 _ (List.mem_cons_self ..) e
          rw [p4 _ d1, p3 _ d2]
          show (if x.1 = k then p else s1.pth x.1) = _
          rw [if_neg d3]; exact q1 x hx
        · subst hx
          have d1 : k ∉ b.map Prod.fst := fun e => n2.1 (List.mem_append_right _ e)
          have d2 : k ∉ c.map Prod.fst := fun e => n2.1 (List.mem_append_left _ e)
          rw [p4 _ d1, p3 _ d2]
          show (if k = k then p else s1.pth k) = _
          rw [if_pos rfl]
        · have m1 := mem1 hx
          have d1 : x.1 ∉ b.map Prod.fst := fun e => n3.2.2 _ m1 _ e rfl
          rw [p4 _ d1]; exact q3 x hx
        · exact q4 x hx
end Go.Proofs.YtgoddcicbpjknaaDoor

/-! Walks: FnInitial. -/
set_option maxRecDepth 20000
namespace Go.Proofs.YtgoddcicbpjknaaDoor
open Go
open Cfb
set_option maxHeartbeats 4000000 in
theorem FnInitial_early (sg n cn : Nat) (p : Option Addr) (four : Bool) (hn : n = 0 ∨ 10 < n) :
    Ct Tryd.prog 4 [.int .u8 (sg : Int), .slice p n cn, .bool four] [] (fun v q => v = .bool true ∧ q = []) := by
  refine Ct_of Tryd.func4 rfl Tryd.ntmps4 rfl ?_
  intro E F
  simp only [numL, List.nil_append, List.cons_append]
  refine CW_seq ?_
  refine CW_region ?_
  refine RW_a ?_
  refine RW_lv (ks := [0, 1, 2]) ?_
  refine CW_seq ?_
  refine CW_seq ?_
  refine CW_region ?_
  refine RW_m ?_
  refine RW_l (Yl_len rfl sl_23) ?_
  refine RW_l (Yl_gtr rfl rfl) ?_
  refine RW_lv (ks := [0, 1, 2, 16]) ?_
  refine CW_cond rfl (fun hc1 => ?_) (fun hc1 => ?_)
  · replace hc1 := of_decide_eq_true hc1
    refine CW_seq ?_
    refine CW_region ?_
    refine RW_a ?_
    refine RW_lv (ks := [6]) ?_
    refine CW_ret ?_
    refine QW_ret_then ?_
    exact QW_ret1 rfl rfl [] ⟨rfl, rfl⟩ (Prm.nil _)
  · replace hc1 := of_decide_eq_false hc1
    refine (CW_skip (QW_lv (ks := [0, 1, 2]) ?_))
    refine CW_seq ?_
    refine CW_seq ?_
    refine CW_region ?_
    refine RW_m ?_
    refine RW_l (Yl_len rfl sl_23) ?_
    refine RW_l (Yl_eql rfl rfl) ?_
    refine RW_m ?_
    refine RW_bool 20 rfl (fun hg2 => ?_) (fun hg2 => ?_)
    · replace hg2 := of_decide_eq_true hg2
      refine RW_skip rfl rfl rfl ?_
      refine RW_skip rfl rfl rfl ?_
      refine RW_skip rfl rfl rfl ?_
      refine RW_l (Yl_pick_t rfl rfl) ?_
      refine RW_lv (ks := [0, 1, 2, 24]) ?_
      refine CW_true rfl ?_
      refine CW_seq ?_
      refine CW_region ?_
      refine RW_a ?_
      refine RW_lv (ks := [6]) ?_
      refine CW_ret ?_
      refine QW_ret_then ?_
      exact QW_ret1 rfl rfl [] ⟨rfl, rfl⟩ (Prm.nil _)
    · replace hg2 := of_decide_eq_false hg2
      refine RW_gy rfl rfl rfl (Yl.h (Yl_move rfl)) ?_
      refine RW_gy rfl rfl rfl (Yl.h (Yl_len rfl sl_23)) ?_
      refine RW_gy rfl rfl rfl (Yl.h (Yl_gtr rfl rfl)) ?_
      refine RW_l (Yl_pick_f rfl rfl) ?_
      refine RW_lv (ks := [0, 1, 2, 24]) ?_
      refine CW_cond rfl (fun hc3 => ?_) (fun hc3 => ?_)
      · replace hc3 := of_decide_eq_true hc3
        refine CW_seq ?_
        refine CW_region ?_
        refine RW_a ?_
        refine RW_lv (ks := [6]) ?_
        refine CW_ret ?_
        refine QW_ret_then ?_
        exact QW_ret1 rfl rfl [] ⟨rfl, rfl⟩ (Prm.nil _)
      · replace hc3 := of_decide_eq_false hc3
        exfalso
        omega
set_option maxHeartbeats 4000000 in
theorem FnInitial_main (sg n cn bn on : Nat) (nm : List UInt8) (ln : List Value) (Tn : TypeId) (fz : Nat × Nat) (four : Bool) (hsg : sg ≤ 255) (hn : 1 ≤ n ∧ n ≤ 10) (hnl : n = nm.length) (hln : ∀ i, i < n → ln[on + i]? = some (bv (nm.getD i 0))) (ps : List Value) (T : TypeId) (hp : PsOk ps) (D : Heap) (hmem : (bn, Obj.cells ln.toArray Tn fz) ∈ (2, blk ps T) :: D) :
    Ct Tryd.prog 4 [.int .u8 (sg : Int), .slice (some ⟨bn, on, none⟩) n cn, .bool four] ((2, blk ps T) :: D) (fun v q => v = .bool true ∧ q = (2, blk ps T) :: D) := by
  refine Ct_of Tryd.func4 rfl Tryd.ntmps4 rfl ?_
  intro E F
  simp only [numL, List.nil_append, List.cons_append]
  refine CW_seq ?_
  refine CW_region ?_
  refine RW_a ?_
  refine RW_lv (ks := [0, 1, 2]) ?_
  refine CW_seq ?_
  refine CW_seq ?_
  refine CW_region ?_
  refine RW_m ?_
  refine RW_l (Yl_len rfl sl_23) ?_
  refine RW_l (Yl_gtr rfl rfl) ?_
  refine RW_lv (ks := [0, 1, 2, 16]) ?_
  refine CW_cond rfl (fun hc1 => ?_) (fun hc1 => ?_)
  · replace hc1 := of_decide_eq_true hc1
    exfalso; omega
  · replace hc1 := of_decide_eq_false hc1
    refine (CW_skip (QW_lv (ks := [0, 1, 2]) ?_))
    refine CW_seq ?_
    refine CW_seq ?_
    refine CW_region ?_
    refine RW_m ?_
    refine RW_l (Yl_len rfl sl_23) ?_
    refine RW_l (Yl_eql rfl rfl) ?_
    refine RW_m ?_
    refine RW_bool 20 rfl (fun hg2 => ?_) (fun hg2 => ?_)
    · replace hg2 := of_decide_eq_true hg2
      exfalso
      omega
    · replace hg2 := of_decide_eq_false hg2
      refine RW_gy rfl rfl rfl (Yl.h (Yl_move rfl)) ?_
      refine RW_gy rfl rfl rfl (Yl.h (Yl_len rfl sl_23)) ?_
      refine RW_gy rfl rfl rfl (Yl.h (Yl_gtr rfl rfl)) ?_
      refine RW_l (Yl_pick_f rfl rfl) ?_
      refine RW_lv (ks := [0, 1, 2, 24]) ?_
      refine CW_cond rfl (fun hc3 => ?_) (fun hc3 => ?_)
      · replace hc3 := of_decide_eq_true hc3
        exfalso
        omega
      · replace hc3 := of_decide_eq_false hc3
        refine (CW_skip (QW_lv (ks := [0, 1, 2]) ?_))
        refine CW_seq ?_
        refine CW_region ?_
        refine RW_a ?_
        refine RW_lv (ks := [0, 1, 2, 7]) ?_
        refine CW_seq ?_
        refine CW_seq ?_
        refine CW_region ?_
        refine RW_m ?_
        refine RW_l (Yl_len rfl sl_23) ?_
        refine RW_m ?_
        refine RW_lv (ks := [0, 2, 7, 25, 26, 27]) ?_
        refine CW_block ?_
        refine CW_loop (σ := Nat) (fun q => [(0, .int .u8 (sg : Int)), (2, .bool four), (7, .string (bar (txt (nm.take q)))), (25, .slice (some ⟨bn, on, none⟩) n cn), (26, nv n), (27, nv q)]) (fun q => (2, blk ps T) :: (D ++ F)) (fun q => q ≤ n) (fun q => n - q) 0 (Nat.zero_le _) (by repeat (first | exact Prm.nil _ | exact Rem.here _ _ | apply Rem.there | apply Prm.cons)) (.cons rfl (.cons rfl (.cons rfl (.cons rfl (.cons rfl (.cons rfl .nil)))))) ?_
        rintro i hi
        refine CW_seq ?_
        refine CW_region ?_
        refine RW_l (Yl_lss rfl rfl) ?_
        refine RW_lv (ks := [0, 2, 7, 25, 26, 27, 28]) ?_
        refine CW_seq ?_
        refine CW_cond rfl (fun hc4 => ?_) (fun hc4 => ?_)
        · replace hc4 := of_decide_eq_true hc4
          refine (CW_skip (QW_lv (ks := [0, 2, 7, 25, 26, 27]) ?_))
          refine CW_seq ?_
          refine CW_block ?_
          refine CW_seq ?_
          have hx255 := (nm.getD i 0).toNat_lt
          refine CW_region ?_
          refine RW_l (Yl_indexN (b := bn) (off := on) (i := i) (o' := on + i) rfl rfl sl_23 (by omega) (by omega)) ?_
          refine RW_h (Yh_load (v := bv (nm.getD i 0)) rfl sc_5 ((show List.Sublist ((2, blk ps T) :: D) _ by repeat (first | exact .cons_cons _ (List.sublist_append_left _ _) | apply List.Sublist.cons)).subset hmem) (hln i (by omega))) ?_
          refine RW_a ?_
          refine RW_lv (ks := [0, 2, 7, 9, 25, 26, 27]) ?_
          refine CW_region ?_
          refine RW_m ?_
          refine RW_m ?_
          refine RW_l (Yl_rem (c := (((nm.getD i 0).toNat % 26 : Nat) : Int)) rfl rfl (by omega) (remN (nm.getD i 0).toNat 26)) ?_
          refine RW_l (Yl_add (c := ((65 + (nm.getD i 0).toNat % 26 : Nat) : Int)) rfl rfl (wu8 (by omega) (by omega))) ?_
          refine RW_l (Yl_conv (c := ((65 + (nm.getD i 0).toNat % 26 : Nat) : Int)) rfl in_5 in_21 (wi32 (by omega) (by omega))) ?_
          refine RW_l (Yl_rune (n := 65 + (nm.getD i 0).toNat % 26) rfl in_21 st_9 (by omega)) ?_
          refine RW_l (Yl_concatB (a := (txt (nm.take i))) (b := [UInt8.ofNat (65 + (nm.getD i 0).toNat % 26)]) rfl rfl (by simp [txt]; omega)) ?_
          refine RW_a ?_
          refine RW_nil ?_
          refine QW_normal_block ?_
          refine (QW_lv (ks := [0, 2, 7, 25, 26, 27]) ?_)
          refine CW_region ?_
          refine RW_l (Yl_add (c := ((i + 1 : Nat) : Int)) rfl rfl (wi64 (by omega) (by omega))) ?_
          refine RW_m ?_
          refine RW_nil ?_
          have hsx := txt_succ (l := nm) (i := i) (by omega)
          rw [← hsx]
          exact QW_round (i + 1) (by omega) (by omega) (by repeat (first | exact Prm.nil _ | exact Rem.here _ _ | apply Rem.there | apply Prm.cons)) (.cons rfl (.cons rfl (.cons rfl (.cons rfl (.cons rfl (.cons rfl .nil))))))
        · replace hc4 := of_decide_eq_false hc4
          refine CW_exit ?_
          refine QW_exit_then ?_
          refine QW_exit_then ?_
          refine QW_exit_block ?_
          refine (QW_lv (ks := [0, 2, 7]) ?_)
          refine CW_seq ?_
          have hin : i = n := by omega
          rw [hin, hnl, List.take_length]
          obtain ⟨fst, hfst⟩ : ∃ x, x = 1 + sg % 31 := ⟨_, rfl⟩
          have htx : ∀ c ∈ txt nm, c.toNat < 128 := by
            intro c hc
            obtain ⟨x, _, rfl⟩ := List.mem_map.1 hc
            rw [UInt8.toNat_ofNat']; omega
          refine CW_region ?_
          refine RW_m ?_
          refine RW_l (Yl_rem (c := ((sg % 31 : Nat) : Int)) rfl rfl (by omega) (remN sg 31)) ?_
          refine RW_l (Yl_add (c := (fst : Int)) rfl rfl (by rw [hfst]; exact wu8 (by omega) (by omega))) ?_
          refine RW_a ?_
          refine RW_lv (ks := [2, 7, 10]) ?_
          refine CW_seq ?_
          refine CW_region ?_
          refine RW_l (Yl_build (cs := (plainNm rootName (-1) (-1) 1).cells) pl_43 ze_43 rfl rfl) ?_
          refine RW_m ?_
          refine RW_l (Yl_conv (c := (fst : Int)) rfl in_5 in_21 (wi32 (by omega) (by omega))) ?_
          refine RW_l (Yl_rune (n := fst) rfl in_21 st_9 (by omega)) ?_
          refine RW_m ?_
          refine RW_l (Yl_concatB (a := [UInt8.ofNat fst]) (b := txt nm) rfl rfl (by simp [txt]; omega)) ?_
          refine RW_fx rfl rfl rfl (Fx_litS (vs := bys [1, 2, 3]) sl_23 ze_5 rfl rfl rfl rfl rfl) ?_
          rintro _ _ ⟨b48, rfl, rfl⟩
          refine RW_l (Yl_build (cs := (inNm fst (txt nm) b48).cells) pl_43 ze_43 rfl rfl) ?_
          refine RW_fx rfl rfl rfl (Fx_lit (vs := [.agg (plainNm rootName (-1) (-1) 1).cells.toArray, .agg (inNm fst (txt nm) b48).cells.toArray]) (css := [(plainNm rootName (-1) (-1) 1).cells, (inNm fst (txt nm) b48).cells]) (cs := nms (inNs fst (txt nm) b48)) sl_25 ze_43 rfl rfl rfl rfl rfl (by intro c hc; simp only [List.mem_cons, List.not_mem_nil, or_false] at hc; rcases hc with rfl | rfl <;> exact Nm.length_cells _) (by simp [inNs, nms])) ?_
          rintro _ _ ⟨g, rfl, rfl⟩
          refine RW_a ?_
          refine RW_lv (ks := [2, 7, 10, 11]) ?_
          refine CW_seq ?_
          have hw := write_ct g 2 (verF four) 0 (inNs fst (txt nm) b48) [] (inXs fst (txt nm)) rfl inXs_ok (inNs_ok (by simp [txt]; omega)) (by rcases verF_or four with e | e <;> omega) (by omega)
          rw [List.append_nil] at hw
          have hnh : nmsH (inNs fst (txt nm) b48) = [(b48, blk (bys [1, 2, 3]) 5)] := rfl
          rw [hnh] at hw
          change Ct Tryd.prog 15 [.slice (some ⟨g, 0, none⟩) 2 2, _, _] _ _ at hw
          refine CW_region ?_
          refine RW_m ?_
          refine RW_m ?_
          refine RW_fx rfl rfl rfl (Fx_callQ ok_16 (vs := [.bool four]) (R := fun v => v = nv (verF four)) rfl (Pick.nil _) (versionOf_ct four)) ?_
          rintro _ _ ⟨rfl, rfl⟩
          refine RW_fx rfl rfl rfl (Fx_call ok_15 (vs := [.slice (some ⟨g, 0, none⟩) 2 2, nv (verF four), nv 0]) rfl (Pick.cons (by repeat (first | exact Rem.here _ _ | apply Rem.there)) (Pick.cons (by repeat (first | exact Rem.here _ _ | apply Rem.there)) (Pick.nil _))) hw) ?_
          rintro _ _ ⟨_, ⟨g1, rfl, rfl⟩, rfl⟩
          simp only [List.cons_append, List.nil_append]
          refine RW_fx rfl rfl rfl (Fx_call ok_18 (vs := [.slice (some ⟨g1, 0, none⟩) (NF (verF four) (inXs fst (txt nm))) (NF (verF four) (inXs fst (txt nm)))]) rfl (Pick.cons (by repeat (first | exact Rem.here _ _ | apply Rem.there)) (Pick.cons (by repeat (first | exact Rem.here _ _ | apply Rem.there)) (Pick.nil _))) (Initial_entries (T := T) (four := four) hp (by omega) (by simp [txt]; omega) htx g1)) ?_
          rintro _ _ ⟨_, ⟨go, cap, l, rfl, hl27, hl30, hl31, rfl⟩, rfl⟩
          simp only [List.cons_append, List.nil_append]
          refine RW_m ?_
          refine RW_l (Yl_extract (v := .slice (some ⟨go, 0, none⟩) 2 cap) rfl rfl) ?_
          refine RW_l (Yl_extract (v := nv 0) rfl rfl) ?_
          refine RW_a ?_
          refine RW_a ?_
          refine RW_lv (ks := [7, 10, 12, 13]) ?_
          refine CW_seq ?_
          refine CW_region ?_
          refine RW_m ?_
          refine RW_l (Yl_eql rfl rfl) ?_
          refine RW_m ?_
          refine RW_bool 61 rfl (fun hg5 => ?_) (fun hg5 => ?_)
          · replace hg5 := of_decide_eq_true hg5
            refine RW_gy rfl rfl rfl (Yl.h (Yl_move rfl)) ?_
            refine RW_gy rfl rfl rfl (Yl.h (Yl_len rfl sl_33)) ?_
            refine RW_gy rfl rfl rfl (Yl.h (Yl_eql rfl rfl)) ?_
            refine RW_l (Yl_pick_t rfl rfl) ?_
            refine RW_m ?_
            refine RW_bool 66 rfl (fun hg6 => ?_) (fun hg6 => ?_)
            · replace hg6 := of_decide_eq_true hg6
              refine RW_gy rfl rfl rfl (Yl.h (Yl_move rfl)) ?_
              refine RW_gy rfl rfl rfl (Yl.h (Yl_indexN (b := go) (off := 0) (i := 1) (o' := 27) rfl rfl sl_33 (by omega) (by omega))) ?_
              refine RW_gy rfl rfl rfl (Yl.h (Yl_field rfl fo_41_0)) ?_
              refine RW_gy rfl rfl rfl (Yh_load (v := .string (bar (txt nm))) rfl sc_9 (by repeat (first | exact List.Mem.head _ | apply List.Mem.tail)) hl27) ?_
              refine RW_gy rfl rfl rfl (Yl.h (Yl_move rfl)) ?_
              refine RW_gy rfl rfl rfl (Yl.h (Yl_strEq (s := bar (txt nm)) (r := bar (txt nm)) rfl rfl)) ?_
              refine RW_l (Yl_pick_t rfl rfl) ?_
              refine RW_m ?_
              refine RW_bool 74 rfl (fun hg7 => ?_) (fun hg7 => ?_)
              · skip
                refine RW_gy rfl rfl rfl (Yl.h (Yl_move rfl)) ?_
                refine RW_gy rfl rfl rfl (Yl.h (Yl_indexN (b := go) (off := 0) (i := 1) (o' := 27) rfl rfl sl_33 (by omega) (by omega))) ?_
                refine RW_gy rfl rfl rfl (Yl.h (Yl_field rfl fo_41_4)) ?_
                refine RW_gy rfl rfl rfl (Yh_load (v := .int .i64 (fst : Int)) rfl sc_3 (by repeat (first | exact List.Mem.head _ | apply List.Mem.tail)) hl31) ?_
                refine RW_gy rfl rfl rfl (Yl.h (Yl_move rfl)) ?_
                refine RW_gy rfl rfl rfl (Yl.h (Yl_conv (c := (fst : Int)) rfl in_5 in_3 (wi64 (by omega) (by omega)))) ?_
                refine RW_gy rfl rfl rfl (Yl.h (Yl_eql rfl rfl)) ?_
                refine RW_l (Yl_pick_t rfl rfl) ?_
                refine RW_m ?_
                refine RW_bool 83 rfl (fun hg8 => ?_) (fun hg8 => ?_)
                · replace hg8 := of_decide_eq_true hg8
                  refine RW_gy rfl rfl rfl (Yl.h (Yl_move rfl)) ?_
                  refine RW_gy rfl rfl rfl (Yl.h (Yl_indexN (b := go) (off := 0) (i := 1) (o' := 27) rfl rfl sl_33 (by omega) (by omega))) ?_
                  refine RW_gy rfl rfl rfl (Yl.h (Yl_field rfl fo_41_3)) ?_
                  refine RW_gy rfl rfl rfl (Yh_load (v := .int .i64 3) rfl sc_2 (by repeat (first | exact List.Mem.head _ | apply List.Mem.tail)) hl30) ?_
                  refine RW_gy rfl rfl rfl (Yl.h (Yl_eql rfl rfl)) ?_
                  refine RW_l (Yl_pick_t rfl rfl) ?_
                  refine RW_a ?_
                  refine RW_lv (ks := [6]) ?_
                  refine CW_ret ?_
                  refine QW_dropB (e := (go, _)) (by repeat (first | exact Rem.here _ _ | apply Rem.there)) ?_
                  refine QW_dropB (e := (g1, _)) (by repeat (first | exact Rem.here _ _ | apply Rem.there)) ?_
                  refine QW_dropB (e := (g, _)) (by repeat (first | exact Rem.here _ _ | apply Rem.there)) ?_
                  refine QW_dropB (e := (b48, _)) (by repeat (first | exact Rem.here _ _ | apply Rem.there)) ?_
                  exact QW_ret1 rfl rfl (_ :: D) ⟨rfl, rfl⟩ (by repeat (first | exact Prm.nil _ | exact Rem.here _ _ | apply Rem.there | apply Prm.cons))
                · replace hg8 := of_decide_eq_false hg8
                  exact absurd rfl hg8
              · skip
                simp at hg7
            · replace hg6 := of_decide_eq_false hg6
              exact absurd rfl hg6
          · replace hg5 := of_decide_eq_false hg5
            exact absurd rfl hg5
end Go.Proofs.YtgoddcicbpjknaaDoor

/-! Values: the order of nodes in memory, with paths. -/
set_option maxRecDepth 20000
namespace Go.Proofs.YtgoddcicbpjknaaDoor
open Go
open Cfb
/-- Values that are paths. -/
structure VsOk (pp : Heap) (vs : List Value) (ps : List (List (List UInt8))) : Prop where
  len : vs.length = ps.length
  get : ∀ i, i < ps.length → PathC pp (vs.getD i undef) (ps.getD i [])
theorem VsOk.nil (pp : Heap) : VsOk pp [] [] := ⟨rfl, fun i h => by simp at h⟩
theorem VsOk.more {pp qq : Heap} {vs : List Value} {ps : List (List (List UInt8))} (h : VsOk pp vs ps) (hs : ∀ x ∈ pp, x ∈ qq) : VsOk qq vs ps := ⟨h.len, fun i hi => (h.get i hi).more hs⟩
theorem VsOk.snoc {pp : Heap} {vs : List Value} {ps : List (List (List UInt8))} {v : Value} {p : List (List UInt8)} (h : VsOk pp vs ps) (hv : PathC pp v p) : VsOk pp (vs ++ [v]) (ps ++ [p]) := by
  have hl := h.len
  refine ⟨by simp [hl], fun i hi => ?_⟩
  simp only [List.getD_eq_getElem?_getD]
  rw [List.length_append, List.length_singleton] at hi
  by_cases e : i = ps.length
  · subst e
    rw [List.getElem?_append_right (Nat.le_refl _), List.getElem?_append_right (by omega), hl]
    simpa using hv
  · have hi' : i < ps.length := by omega
    rw [List.getElem?_append_left hi', List.getElem?_append_left (by omega)]
    have := h.get i hi'
    simpa only [List.getD_eq_getElem?_getD] using this
theorem take_strs (p : List (List UInt8)) (r : List Value) : (strs p ++ r).take p.length = strs p := by
  have h : p.length = (strs p).length := by simp
  rw [h, List.take_left]
/-- A path is put behind no text. -/
theorem Fx_patha {E : World} {L : Fra} {H R : Heap} {dst : Option Tmp} {ty : TypeId} {pos : String} {aft : Array Edge} {gd : Option (Nat × Bool)} {x y : Operand} {g : Nat} {v : Value} {p : List (List UInt8)} {pp : Heap} (hx : ev L x = some (.slice (some ⟨g, 0, none⟩) 0 0)) (hy : ev L y = some v) (hg : Rem H (g, blk [] 9) R) (hp : PathC pp v p) (hs : ∀ x ∈ pp, x ∈ H) (hp1 : p.length ≤ 1000000) :
    Fx Tryd.prog E L H ⟨dst, .call ⟨.builtin .append, #[x, y], #[36, 36]⟩, ty, pos, aft, gd⟩ (fun u H'' => ∃ g' cap' r', u = .slice (some ⟨g', 0, none⟩) p.length cap' ∧ (strs p ++ r').length = cap' * 1 ∧ H'' = (g', blk (strs p ++ r') 9) :: R) := by
  intro n a w next Q hf hh k
  rcases hp with ⟨rfl, rfl⟩ | ⟨b, cap, r, hne, rfl, hm⟩
  · refine (Yl.h (Yl_append0 (P := Tryd.prog) hx hy sl_36 (Nat.le_refl _))).fx n a w next Q hf hh ?_
    rintro v w' H' ⟨rfl, rfl⟩ hh'
    exact k _ w' _ ⟨g, 0, [], rfl, rfl, rfl⟩ (hh'.perm hg.perm)
  · refine Fx_appG (P := Tryd.prog) (xs := []) (r := []) (news := strs p) (cap := 0) hx hy sl_36 by_9 ze_9 rfl (hs _ hm) hg rfl rfl (by rw [List.drop_zero, Nat.mul_one]; exact take_strs p r) (by simp) (one_map (fun _ => rfl) p) (by omega) (by omega) (by omega) n a w next Q hf hh ?_
    rintro v w' H' ⟨g', cap', r', rfl, h1, rfl⟩ hh'
    rw [Nat.zero_add, List.nil_append] at *
    exact k _ w' _ ⟨g', cap', r', rfl, h1, rfl⟩ hh'
theorem strs_snoc (p : List (List UInt8)) (s : List UInt8) : strs p ++ [.string (bar s)] = strs (p ++ [s]) := by simp [strs]
theorem at_link {l : List Nm} {r : List Value} {k o : Nat} (hk : k < l.length) (ho : o = k * 28 + 3) : (nms l ++ r)[o]? = some (iv (lfF l k)) := by
  rw [ho, nms_cell l r k 3 hk (by omega)]; rfl
theorem at_right {l : List Nm} {r : List Value} {k o : Nat} (hk : k < l.length) (ho : o = k * 28 + 4) : (nms l ++ r)[o]? = some (iv (rtF l k)) := by
  rw [ho, nms_cell l r k 4 hk (by omega)]; rfl
theorem at_child {l : List Nm} {r : List Value} {k o : Nat} (hk : k < l.length) (ho : o = k * 28 + 5) : (nms l ++ r)[o]? = some (iv (chdF l k)) := by
  rw [ho, nms_cell l r k 5 hk (by omega)]; rfl
def nmOf (l : List Nm) (k : Nat) : List UInt8 := (l.getD k default).nd.name
theorem at_nm {l : List Nm} {r : List Value} {k o : Nat} (hk : k < l.length) (ho : o = k * 28) : (nms l ++ r)[o]? = some (.string (bar (nmOf l k))) := at_name hk ho
end Go.Proofs.YtgoddcicbpjknaaDoor

/-! Walks: Order. -/
set_option maxRecDepth 20000
namespace Go.Proofs.YtgoddcicbpjknaaDoor
open Go
open Cfb
/-- What a call of the closure does. -/
def OCt (ns : List Nm) (g cap bF bn bo bp : Nat) (rn : List Value) (t : Int) (p : List (List UInt8)) (o : List (Nat × List (List UInt8))) : Prop :=
  ∀ (done : List (Nat × List (List UInt8))) (vs : List Value) (go co gp cp : Nat) (ro rp : List Value) (pp : Heap) (v : Value), PathC pp v p → VsOk pp vs (done.map Prod.snd) → (nats (done.map Prod.fst) ++ ro).length = co → (vs ++ rp).length = cp → done.length + o.length ≤ 1000 → p.length + o.length ≤ 1000 →
    Ct Tryd.prog 30 [iv t, v, pv bF, pv bn, pv bo, pv bp] ((bF, blk [.func (.func 30) #[] #[pv bF, pv bn, pv bo, pv bp]] 77) :: (bn, blk [.slice (some ⟨g, 0, none⟩) ns.length cap] 25) :: (g, blk (nms ns ++ rn) 43) :: (bo, blk [.slice (some ⟨go, 0, none⟩) done.length co] 29) :: (go, blk (nats (done.map Prod.fst) ++ ro) 3) :: (bp, blk [.slice (some ⟨gp, 0, none⟩) done.length cp] 30) :: (gp, blk (vs ++ rp) 36) :: pp)
      (fun u q => u = .tuple #[] ∧ ∃ vs' go' co' gp' cp' ro' rp' pp', VsOk pp' vs' ((done ++ o).map Prod.snd) ∧ (nats ((done ++ o).map Prod.fst) ++ ro').length = co' ∧ (vs' ++ rp').length = cp' ∧ (∀ x ∈ pp, x ∈ pp') ∧ q = (bF, blk [.func (.func 30) #[] #[pv bF, pv bn, pv bo, pv bp]] 77) :: (bn, blk [.slice (some ⟨g, 0, none⟩) ns.length cap] 25) :: (g, blk (nms ns ++ rn) 43) :: (bo, blk [.slice (some ⟨go', 0, none⟩) (done ++ o).length co'] 29) :: (go', blk (nats ((done ++ o).map Prod.fst) ++ ro') 3) :: (bp, blk [.slice (some ⟨gp', 0, none⟩) (done ++ o).length cp'] 30) :: (gp', blk (vs' ++ rp') 36) :: pp')
set_option maxHeartbeats 4000000 in
theorem order_nil (ns : List Nm) (g cap bF bn bo bp : Nat) (rn : List Value) (p : List (List UInt8)) : OCt ns g cap bF bn bo bp rn (-1) p [] := by
  unfold OCt
  intro done vs go co gp cp ro rp pp v hv hvs hro hrp hl hpl
  refine Ct_of Tryd.func30 rfl Tryd.ntmps30 rfl ?_
  intro E F
  simp only [numL, List.nil_append, List.cons_append]
  refine CW_seq ?_
  refine CW_seq ?_
  refine CW_region ?_
  refine RW_m ?_
  refine RW_l (Yl_lss rfl rfl) ?_
  refine RW_lv (ks := [0, 1, 2, 3, 4, 5, 10]) ?_
  refine CW_cond rfl (fun hc1 => ?_) (fun hc1 => ?_)
  · replace hc1 := of_decide_eq_true hc1
    refine CW_ret ?_
    refine QW_ret_then ?_
    refine QW_ret0 rfl ((bF, blk [.func (.func 30) #[] #[pv bF, pv bn, pv bo, pv bp]] 77) :: (bn, blk [.slice (some ⟨g, 0, none⟩) ns.length cap] 25) :: (g, blk (nms ns ++ rn) 43) :: (bo, blk [.slice (some ⟨go, 0, none⟩) done.length co] 29) :: (go, blk (nats (done.map Prod.fst) ++ ro) 3) :: (bp, blk [.slice (some ⟨gp, 0, none⟩) done.length cp] 30) :: (gp, blk (vs ++ rp) 36) :: pp) ⟨rfl, vs, go, co, gp, cp, ro, rp, pp, by simpa using hvs, by simpa using hro, hrp, fun _ h => h, by rw [List.append_nil]⟩ (Prm.nil _)
  · replace hc1 := of_decide_eq_false hc1
    exfalso; omega
set_option maxHeartbeats 4000000 in
theorem order_step (ns : List Nm) (g cap bF bn bo bp : Nat) (rn : List Value) (k : Nat) (hk : k < ns.length) (hk2 : ns.length ≤ 1000) (p : List (List UInt8)) (a c b : List (Nat × List (List UInt8))) (iha : OCt ns g cap bF bn bo bp rn (lfF ns k) p a) (ihc : OCt ns g cap bF bn bo bp rn (chdF ns k) (if k = 0 then p else p ++ [nmOf ns k]) c) (ihb : OCt ns g cap bF bn bo bp rn (rtF ns k) p b) : OCt ns g cap bF bn bo bp rn (k : Int) p (a ++ (k, p) :: (c ++ b)) := by
  unfold OCt at *
  intro done vs go co gp cp ro rp pp v hv hvs hro hrp hl hpl
  have hlen : (a ++ (k, p) :: (c ++ b)).length = a.length + 1 + (c.length + b.length) := by simp; omega
  rw [hlen] at hl hpl
  refine Ct_of Tryd.func30 rfl Tryd.ntmps30 rfl ?_
  intro E F
  simp only [numL, List.nil_append, List.cons_append]
  refine CW_seq ?_
  refine CW_seq ?_
  refine CW_region ?_
  refine RW_m ?_
  refine RW_l (Yl_lss rfl rfl) ?_
  refine RW_lv (ks := [0, 1, 2, 3, 4, 5, 10]) ?_
  refine CW_cond rfl (fun hc1 => ?_) (fun hc1 => ?_)
  · replace hc1 := of_decide_eq_true hc1
    exfalso; omega
  · replace hc1 := of_decide_eq_false hc1
    refine (CW_skip (QW_lv (ks := [0, 1, 2, 3, 4, 5]) ?_))
    refine CW_seq ?_
    have hih := iha done vs go co gp cp ro rp pp v hv hvs hro hrp (by omega) (by omega)
    refine CW_draw [7] _ mixed (Sub.refl _) ?_
    refine RD_l 2 rfl (Yl_move rfl) ?_
    refine RD_l 6 rfl (Yl_move rfl) ?_
    refine RD_h (i := 0) #[false, true, true, true, true, true, true, false] rfl rfl rfl rfl (by kernel_rfl) (fun _ _ _ h => h) (Yh_load (v := .func (.func 30) #[] #[pv bF, pv bn, pv bo, pv bp]) rfl sc_77 (by repeat (first | exact List.Mem.head _ | apply List.Mem.tail)) rfl) ?_
    refine RD_h (i := 1) #[true, false, true, false, false, false, true, false] rfl rfl rfl rfl (by kernel_rfl) (fun _ _ _ h => h) (Yh_load (v := .slice (some ⟨g, 0, none⟩) ns.length cap) rfl sc_25 (by repeat (first | exact List.Mem.head _ | apply List.Mem.tail)) rfl) ?_
    refine RD_l 3 rfl (Yl_indexN (b := g) (off := 0) (i := k) (o' := k * 28) rfl rfl sl_25 hk (by omega)) ?_
    refine RD_l 4 rfl (Yl_field rfl fo_43_3) ?_
    refine RD_h (i := 5) #[true, true, true, true, true, false, true, false] rfl rfl rfl rfl (by kernel_rfl) (fun _ _ _ h => h) (Yh_load (v := iv (lfF ns k)) rfl sc_3 (by repeat (first | exact List.Mem.head _ | apply List.Mem.tail)) (at_link hk rfl)) ?_
    refine RD_one (i := 7) (by kernel_rfl) ?_
    refine RO_fx rfl rfl rfl rfl (Fx_callV ok_30 (fs := []) (cs := [pv bF, pv bn, pv bo, pv bp]) (vs := [iv (lfF ns k), v]) rfl rfl (by exact (Pick.cons (by repeat (first | exact Rem.here _ _ | apply Rem.there)) (Pick.cons (by repeat (first | exact Rem.here _ _ | apply Rem.there)) (Pick.cons (by repeat (first | exact Rem.here _ _ | apply Rem.there)) (Pick.cons (by repeat (first | exact Rem.here _ _ | apply Rem.there)) (Pick.cons (by repeat (first | exact Rem.here _ _ | apply Rem.there)) (Pick.cons (by repeat (first | exact Rem.here _ _ | apply Rem.there)) (Pick.cons (by repeat (first | exact Rem.here _ _ | apply Rem.there)) (pick_app _ F))))))))) hih) ?_
    rintro _ _ ⟨_, ⟨rfl, vs1, go1, co1, gp1, cp1, ro1, rp1, pp1, hvs1, hro1, hrp1, hsub1, rfl⟩, rfl⟩
    simp only [List.cons_append]
    refine ⟨Or.inl (by kernel_rfl), ?_⟩
    refine (RD_done (by kernel_rfl) (QW_lv (ks := [0, 1, 2, 3, 4, 5]) ?_))
    obtain ⟨d1, hd1⟩ : ∃ d1, d1 = done ++ a := ⟨_, rfl⟩
    rw [← hd1] at hvs1 hro1
    rw [← hd1]
    replace hv := hv.more hsub1
    clear hih hvs
    have hdl : d1.length = done.length + a.length := by rw [hd1]; simp
    have hv1 := hv.one.1
    obtain ⟨d2, hd2⟩ : ∃ d2, d2 = d1 ++ [(k, p)] := ⟨_, rfl⟩
    have e1 : nats (d1.map Prod.fst) ++ [nv k] = nats (d2.map Prod.fst) := by rw [hd2]; simp
    have e2 : d1.length + 1 = d2.length := by rw [hd2]; simp
    have hvs2 := hvs1.snoc hv
    have e3 : d1.map Prod.snd ++ [p] = d2.map Prod.snd := by rw [hd2]; simp
    rw [e3] at hvs2
    obtain ⟨vs2, hvs2e⟩ : ∃ z, z = vs1 ++ [v] := ⟨_, rfl⟩
    rw [← hvs2e] at hvs2
    refine CW_cut (σ := Nat × Nat × Nat × Nat × List Value × List Value) (fun _ => [(0, nv k), (1, v), (2, pv bF), (3, pv bn)]) (fun q => (bF, blk [.func (.func 30) #[] #[pv bF, pv bn, pv bo, pv bp]] 77) :: (bn, blk [.slice (some ⟨g, 0, none⟩) ns.length cap] 25) :: (g, blk (nms ns ++ rn) 43) :: (bo, blk [.slice (some ⟨q.1, 0, none⟩) d2.length q.2.1] 29) :: (q.1, blk (nats (d2.map Prod.fst) ++ q.2.2.2.2.1) 3) :: (bp, blk [.slice (some ⟨q.2.2.1, 0, none⟩) d2.length q.2.2.2.1] 30) :: (q.2.2.1, blk (vs2 ++ q.2.2.2.2.2) 36) :: (pp1 ++ F)) (fun q => (nats (d2.map Prod.fst) ++ q.2.2.2.2.1).length = q.2.1 ∧ (vs2 ++ q.2.2.2.2.2).length = q.2.2.2.1) ?_ ?_
    · skip
      refine CW_draw [8, 9] [(bo, blk [.slice (some ⟨go1, 0, none⟩) d1.length co1] 29), (bp, blk [.slice (some ⟨gp1, 0, none⟩) d1.length cp1] 30)] mixed (by repeat (first | exact Sub.nil _ | apply Sub.cons | exact Rem.here _ _ | apply Rem.there)) ?_
      refine RD_l 1 rfl (Yl_move rfl) ?_
      refine RD_l 5 rfl (Yl_move rfl) ?_
      refine RD_h (i := 0) #[false, true, true, false, true, true, true, false, false, false] rfl rfl rfl rfl (by kernel_rfl) (fun _ _ _ h => h) (Yh_load (v := .slice (some ⟨go1, 0, none⟩) d1.length co1) rfl sc_29 (by repeat (first | exact List.Mem.head _ | apply List.Mem.tail)) rfl) ?_
      refine RD_h (i := 4) #[true, true, true, true, false, true, true, false, false, false] rfl rfl rfl rfl (by kernel_rfl) (fun _ _ _ h => h) (Yh_load (v := .slice (some ⟨gp1, 0, none⟩) d1.length cp1) rfl sc_30 (by repeat (first | exact List.Mem.head _ | apply List.Mem.tail)) rfl) ?_
      refine RD_two (i := 2) (j := 6) (by kernel_rfl) ?_ ?_
      · skip
        refine RO_fx rfl rfl rfl rfl (Fx_litS (vs := [nv k]) sl_29 ze_3 rfl rfl rfl rfl rfl) ?_
        rintro _ _ ⟨b21, rfl, rfl⟩
        refine ⟨Or.inr (by repeat (first | exact Sub.nil _ | apply Sub.cons | exact Rem.here _ _ | apply Rem.there)), ?_⟩
        refine RD_two (i := 3) (j := 6) (by kernel_rfl) ?_ ?_
        · skip
          refine RO_fx rfl rfl rfl rfl (Fx_appTG (xs := nats (d1.map Prod.fst)) (r := ro1) (news := [nv k]) (n := d1.length) (cap := co1) (m := 1) (c := 1) rfl rfl sl_29 by_3 ze_3 rfl (by repeat (first | exact Rem.here _ _ | apply Rem.there)) (by repeat (first | exact Rem.here _ _ | apply Rem.there)) (by rw [hro1, Nat.mul_one]) (by simp) rfl (by intro u hu; rw [List.mem_singleton.1 hu]; rfl) (by omega) (by omega) (by omega)) ?_
          rintro _ _ ⟨go2, co2, ro2, rfl, hro2, rfl⟩
          refine ⟨Or.inr (by repeat (first | exact Sub.nil _ | apply Sub.cons | exact Rem.here _ _ | apply Rem.there)), ?_⟩
          refine RD_one (i := 6) (by kernel_rfl) ?_
          refine RO_fx rfl rfl rfl rfl (Fx_litS (vs := [v]) sl_30 ze_36 rfl rfl rfl rfl (by simp [hv1])) ?_
          rintro _ _ ⟨b25, rfl, rfl⟩
          refine ⟨Or.inr (by repeat (first | exact Sub.nil _ | apply Sub.cons | exact Rem.here _ _ | apply Rem.there)), ?_⟩
          refine RD_one (i := 7) (by kernel_rfl) ?_
          refine RO_fx rfl rfl rfl rfl (Fx_appTG (xs := vs1) (r := rp1) (news := [v]) (n := d1.length) (cap := cp1) (m := 1) (c := 1) rfl rfl sl_30 by_36 ze_36 rfl (by repeat (first | exact Rem.here _ _ | apply Rem.there)) (by repeat (first | exact Rem.here _ _ | apply Rem.there)) (by rw [hrp1, Nat.mul_one]) (by rw [hvs1.len, List.length_map, Nat.mul_one]) rfl (by intro u hu; rw [List.mem_singleton.1 hu]; exact hv1) (by omega) (by omega) (by omega)) ?_
          rintro _ _ ⟨gp2, cp2, rp2, rfl, hrp2, rfl⟩
          refine ⟨Or.inr (by repeat (first | exact Sub.nil _ | apply Sub.cons | exact Rem.here _ _ | apply Rem.there)), ?_⟩
          refine RD_one (i := 8) (by kernel_rfl) ?_
          refine RO_fx0 rfl rfl rfl (Fx_store (v := .slice (some ⟨go2, 0, none⟩) (d1.length + 1) co2) (b := bo) (off := 0) rfl rfl sz_29 rfl (by repeat (first | exact Rep.here _ _ _ | apply Rep.there)) (by simp)) ?_
          rintro _ _ rfl
          refine ⟨Or.inl (by kernel_rfl), ?_⟩
          refine RD_one (i := 9) (by kernel_rfl) ?_
          refine RO_fx0 rfl rfl rfl (Fx_store (v := .slice (some ⟨gp2, 0, none⟩) (d1.length + 1) cp2) (b := bp) (off := 0) rfl rfl sz_30 rfl (by repeat (first | exact Rep.here _ _ _ | apply Rep.there)) (by simp)) ?_
          rintro _ _ rfl
          refine ⟨Or.inl (by kernel_rfl), ?_⟩
          refine RD_done (by kernel_rfl) ?_
          rw [e1] at hro2
          rw [← hvs2e] at hrp2
          rw [e1, e2, ← hvs2e]
          rw [Nat.mul_one] at hro2 hrp2
          exact QW_cut (go2, co2, gp2, cp2, ro2, rp2) ⟨hro2, hrp2⟩ (by repeat (first | exact Prm.nil _ | exact Rem.here _ _ | apply Rem.there | apply Prm.cons)) (.cons rfl (.cons rfl (.cons rfl (.cons rfl .nil))))
        · skip
          refine RO_fx rfl rfl rfl rfl (Fx_litS (vs := [v]) sl_30 ze_36 rfl rfl rfl rfl (by simp [hv1])) ?_
          rintro _ _ ⟨b25, rfl, rfl⟩
          refine ⟨Or.inr (by repeat (first | exact Sub.nil _ | apply Sub.cons | exact Rem.here _ _ | apply Rem.there)), ?_⟩
          refine RD_one (i := 3) (by kernel_rfl) ?_
          refine RO_fx rfl rfl rfl rfl (Fx_appTG (xs := nats (d1.map Prod.fst)) (r := ro1) (news := [nv k]) (n := d1.length) (cap := co1) (m := 1) (c := 1) rfl rfl sl_29 by_3 ze_3 rfl (by repeat (first | exact Rem.here _ _ | apply Rem.there)) (by repeat (first | exact Rem.here _ _ | apply Rem.there)) (by rw [hro1, Nat.mul_one]) (by simp) rfl (by intro u hu; rw [List.mem_singleton.1 hu]; rfl) (by omega) (by omega) (by omega)) ?_
          rintro _ _ ⟨go2, co2, ro2, rfl, hro2, rfl⟩
          refine ⟨Or.inr (by repeat (first | exact Sub.nil _ | apply Sub.cons | exact Rem.here _ _ | apply Rem.there)), ?_⟩
          refine RD_one (i := 7) (by kernel_rfl) ?_
          refine RO_fx rfl rfl rfl rfl (Fx_appTG (xs := vs1) (r := rp1) (news := [v]) (n := d1.length) (cap := cp1) (m := 1) (c := 1) rfl rfl sl_30 by_36 ze_36 rfl (by repeat (first | exact Rem.here _ _ | apply Rem.there)) (by repeat (first | exact Rem.here _ _ | apply Rem.there)) (by rw [hrp1, Nat.mul_one]) (by rw [hvs1.len, List.length_map, Nat.mul_one]) rfl (by intro u hu; rw [List.mem_singleton.1 hu]; exact hv1) (by omega) (by omega) (by omega)) ?_
          rintro _ _ ⟨gp2, cp2, rp2, rfl, hrp2, rfl⟩
          refine ⟨Or.inr (by repeat (first | exact Sub.nil _ | apply Sub.cons | exact Rem.here _ _ | apply Rem.there)), ?_⟩
          refine RD_one (i := 8) (by kernel_rfl) ?_
          refine RO_fx0 rfl rfl rfl (Fx_store (v := .slice (some ⟨go2, 0, none⟩) (d1.length + 1) co2) (b := bo) (off := 0) rfl rfl sz_29 rfl (by repeat (first | exact Rep.here _ _ _ | apply Rep.there)) (by simp)) ?_
          rintro _ _ rfl
          refine ⟨Or.inl (by kernel_rfl), ?_⟩
          refine RD_one (i := 9) (by kernel_rfl) ?_
          refine RO_fx0 rfl rfl rfl (Fx_store (v := .slice (some ⟨gp2, 0, none⟩) (d1.length + 1) cp2) (b := bp) (off := 0) rfl rfl sz_30 rfl (by repeat (first | exact Rep.here _ _ _ | apply Rep.there)) (by simp)) ?_
          rintro _ _ rfl
          refine ⟨Or.inl (by kernel_rfl), ?_⟩
          refine RD_done (by kernel_rfl) ?_
          rw [e1] at hro2
          rw [← hvs2e] at hrp2
          rw [e1, e2, ← hvs2e]
          rw [Nat.mul_one] at hro2 hrp2
          exact QW_cut (go2, co2, gp2, cp2, ro2, rp2) ⟨hro2, hrp2⟩ (by repeat (first | exact Prm.nil _ | exact Rem.here _ _ | apply Rem.there | apply Prm.cons)) (.cons rfl (.cons rfl (.cons rfl (.cons rfl .nil))))
      · skip
        refine RO_fx rfl rfl rfl rfl (Fx_litS (vs := [v]) sl_30 ze_36 rfl rfl rfl rfl (by simp [hv1])) ?_
        rintro _ _ ⟨b25, rfl, rfl⟩
        refine ⟨Or.inr (by repeat (first | exact Sub.nil _ | apply Sub.cons | exact Rem.here _ _ | apply Rem.there)), ?_⟩
        refine RD_one (i := 2) (by kernel_rfl) ?_
        refine RO_fx rfl rfl rfl rfl (Fx_litS (vs := [nv k]) sl_29 ze_3 rfl rfl rfl rfl rfl) ?_
        rintro _ _ ⟨b21, rfl, rfl⟩
        refine ⟨Or.inr (by repeat (first | exact Sub.nil _ | apply Sub.cons | exact Rem.here _ _ | apply Rem.there)), ?_⟩
        refine RD_one (i := 3) (by kernel_rfl) ?_
        refine RO_fx rfl rfl rfl rfl (Fx_appTG (xs := nats (d1.map Prod.fst)) (r := ro1) (news := [nv k]) (n := d1.length) (cap := co1) (m := 1) (c := 1) rfl rfl sl_29 by_3 ze_3 rfl (by repeat (first | exact Rem.here _ _ | apply Rem.there)) (by repeat (first | exact Rem.here _ _ | apply Rem.there)) (by rw [hro1, Nat.mul_one]) (by simp) rfl (by intro u hu; rw [List.mem_singleton.1 hu]; rfl) (by omega) (by omega) (by omega)) ?_
        rintro _ _ ⟨go2, co2, ro2, rfl, hro2, rfl⟩
        refine ⟨Or.inr (by repeat (first | exact Sub.nil _ | apply Sub.cons | exact Rem.here _ _ | apply Rem.there)), ?_⟩
        refine RD_one (i := 7) (by kernel_rfl) ?_
        refine RO_fx rfl rfl rfl rfl (Fx_appTG (xs := vs1) (r := rp1) (news := [v]) (n := d1.length) (cap := cp1) (m := 1) (c := 1) rfl rfl sl_30 by_36 ze_36 rfl (by repeat (first | exact Rem.here _ _ | apply Rem.there)) (by repeat (first | exact Rem.here _ _ | apply Rem.there)) (by rw [hrp1, Nat.mul_one]) (by rw [hvs1.len, List.length_map, Nat.mul_one]) rfl (by intro u hu; rw [List.mem_singleton.1 hu]; exact hv1) (by omega) (by omega) (by omega)) ?_
        rintro _ _ ⟨gp2, cp2, rp2, rfl, hrp2, rfl⟩
        refine ⟨Or.inr (by repeat (first | exact Sub.nil _ | apply Sub.cons | exact Rem.here _ _ | apply Rem.there)), ?_⟩
        refine RD_one (i := 8) (by kernel_rfl) ?_
        refine RO_fx0 rfl rfl rfl (Fx_store (v := .slice (some ⟨go2, 0, none⟩) (d1.length + 1) co2) (b := bo) (off := 0) rfl rfl sz_29 rfl (by repeat (first | exact Rep.here _ _ _ | apply Rep.there)) (by simp)) ?_
        rintro _ _ rfl
        refine ⟨Or.inl (by kernel_rfl), ?_⟩
        refine RD_one (i := 9) (by kernel_rfl) ?_
        refine RO_fx0 rfl rfl rfl (Fx_store (v := .slice (some ⟨gp2, 0, none⟩) (d1.length + 1) cp2) (b := bp) (off := 0) rfl rfl sz_30 rfl (by repeat (first | exact Rep.here _ _ _ | apply Rep.there)) (by simp)) ?_
        rintro _ _ rfl
        refine ⟨Or.inl (by kernel_rfl), ?_⟩
        refine RD_done (by kernel_rfl) ?_
        rw [e1] at hro2
        rw [← hvs2e] at hrp2
        rw [e1, e2, ← hvs2e]
        rw [Nat.mul_one] at hro2 hrp2
        exact QW_cut (go2, co2, gp2, cp2, ro2, rp2) ⟨hro2, hrp2⟩ (by repeat (first | exact Prm.nil _ | exact Rem.here _ _ | apply Rem.there | apply Prm.cons)) (.cons rfl (.cons rfl (.cons rfl (.cons rfl .nil))))
    · rintro ⟨go2, co2, gp2, cp2, ro2, rp2⟩ ⟨hro2, hrp2⟩
      simp only at hro2 hrp2 ⊢
      refine CW_seq ?_
      refine CW_region ?_
      refine RW_m ?_
      refine RW_a ?_
      refine RW_lv (ks := [0, 1, 2, 3, 8]) ?_
      refine CW_cut (σ := Heap × Value) (fun q => [(0, nv k), (1, v), (2, pv bF), (3, pv bn), (8, q.2)]) (fun q => (bF, blk [.func (.func 30) #[] #[pv bF, pv bn, pv bo, pv bp]] 77) :: (bn, blk [.slice (some ⟨g, 0, none⟩) ns.length cap] 25) :: (g, blk (nms ns ++ rn) 43) :: (bo, blk [.slice (some ⟨go2, 0, none⟩) d2.length co2] 29) :: (go2, blk (nats (d2.map Prod.fst) ++ ro2) 3) :: (bp, blk [.slice (some ⟨gp2, 0, none⟩) d2.length cp2] 30) :: (gp2, blk (vs2 ++ rp2) 36) :: (q.1 ++ F)) (fun q => (∀ x ∈ pp1, x ∈ q.1) ∧ PathC q.1 q.2 (if k = 0 then p else p ++ [nmOf ns k])) ?_ ?_
      · skip
        refine CW_seq ?_
        refine CW_region ?_
        refine RW_m ?_
        refine RW_l (Yl_gtr rfl rfl) ?_
        refine RW_lv (ks := [0, 1, 2, 3, 8, 29]) ?_
        refine CW_cond rfl (fun hc2 => ?_) (fun hc2 => ?_)
        · replace hc2 := of_decide_eq_true hc2
          refine CW_draw [] [(bn, blk [.slice (some ⟨g, 0, none⟩) ns.length cap] 25), (g, blk (nms ns ++ rn) 43)] mixed (by repeat (first | exact Sub.nil _ | apply Sub.cons | exact Rem.here _ _ | apply Rem.there)) ?_
          refine RD_l 1 rfl (Yl_move rfl) ?_
          refine RD_l 4 rfl (Yl_move rfl) ?_
          refine RD_h (i := 3) #[true, true, true, false, true, false, false, false, false, false, false] rfl rfl rfl rfl (by kernel_rfl) (fun _ _ _ h => h) (Yh_load (v := .slice (some ⟨g, 0, none⟩) ns.length cap) rfl sc_25 (by repeat (first | exact List.Mem.head _ | apply List.Mem.tail)) rfl) ?_
          refine RD_l 5 rfl (Yl_indexN (b := g) (off := 0) (i := k) (o' := k * 28) rfl rfl sl_25 hk (by omega)) ?_
          refine RD_l 6 rfl (Yl_field rfl fo_43_0) ?_
          refine RD_h (i := 7) #[true, true, true, true, true, true, true, false, false, false, false] rfl rfl rfl rfl (by kernel_rfl) (fun _ _ _ h => h) (Yh_load (v := .string (bar (nmOf ns k))) rfl sc_9 (by repeat (first | exact List.Mem.head _ | apply List.Mem.tail)) (at_nm hk rfl)) ?_
          refine RD_two (i := 0) (j := 8) (by kernel_rfl) ?_ ?_
          · skip
            refine RO_fx rfl rfl rfl rfl (Fx_buildSlice0 sl_36) ?_
            rintro _ _ ⟨b30, rfl, rfl⟩
            refine ⟨Or.inr (by repeat (first | exact Sub.nil _ | apply Sub.cons | exact Rem.here _ _ | apply Rem.there)), ?_⟩
            refine RD_two (i := 2) (j := 8) (by kernel_rfl) ?_ ?_
            · skip
              refine RO_fx rfl rfl rfl rfl (Fx_patha (g := b30) (v := v) (p := p) (pp := pp1) rfl rfl (by repeat (first | exact Rem.here _ _ | apply Rem.there)) hv (fun x hx => (by repeat (first | exact List.mem_append_left _ hx | apply List.Mem.tail))) (by omega)) ?_
              rintro _ _ ⟨g32, c32, r32, rfl, hr32, rfl⟩
              refine ⟨Or.inr (by repeat (first | exact Sub.nil _ | apply Sub.cons | exact Rem.here _ _ | apply Rem.there)), ?_⟩
              refine RD_one (i := 8) (by kernel_rfl) ?_
              refine RO_fx rfl rfl rfl rfl (Fx_litS (vs := [.string (bar (nmOf ns k))]) sl_36 ze_9 rfl rfl rfl rfl rfl) ?_
              rintro _ _ ⟨b38, rfl, rfl⟩
              refine ⟨Or.inr (by repeat (first | exact Sub.nil _ | apply Sub.cons | exact Rem.here _ _ | apply Rem.there)), ?_⟩
              refine RD_one (i := 9) (by kernel_rfl) ?_
              refine RO_fx rfl rfl rfl rfl (Fx_appTG (xs := strs p) (r := r32) (news := [.string (bar (nmOf ns k))]) (n := p.length) (cap := c32) (m := 1) (c := 1) rfl rfl sl_36 by_9 ze_9 rfl (by repeat (first | exact Rem.here _ _ | apply Rem.there)) (by repeat (first | exact Rem.here _ _ | apply Rem.there)) hr32 (by simp) rfl (by intro u hu; rw [List.mem_singleton.1 hu]; rfl) (by omega) (by omega) (by omega)) ?_
              rintro _ _ ⟨g39, c39, r39, rfl, hr39, rfl⟩
              refine ⟨Or.inr (by repeat (first | exact Sub.nil _ | apply Sub.cons | exact Rem.here _ _ | apply Rem.there)), ?_⟩
              refine RD_l 10 rfl (Yl_assign rfl) ?_
              refine RD_done (by kernel_rfl) ?_
              first
                | (have hk0 : k = 0 := (by omega); rw [if_pos hk0]; exact QW_cut (pp1, v) ⟨fun _ h => h, hv⟩ (by repeat (first | exact Prm.nil _ | exact Rem.here _ _ | apply Rem.there | apply Prm.cons)) (.cons rfl (.cons rfl (.cons rfl (.cons rfl (.cons rfl .nil))))))
                | (have hk0 : ¬ k = 0 := (by omega); rw [if_neg hk0, strs_snoc] at *; exact QW_cut ((g39, blk (strs (p ++ [nmOf ns k]) ++ r39) 9) :: pp1, .slice (some ⟨g39, 0, none⟩) (p ++ [nmOf ns k]).length c39) ⟨fun x hx => List.Mem.tail _ hx, .inr ⟨g39, c39, r39, by simp, rfl, List.Mem.head _⟩⟩ (by simp only [List.cons_append]; repeat (first | exact Prm.nil _ | exact Rem.here _ _ | apply Rem.there | apply Prm.cons)) (.cons rfl (.cons rfl (.cons rfl (.cons rfl (.cons (by rw [List.length_append]; rfl) .nil))))))
            · skip
              refine RO_fx rfl rfl rfl rfl (Fx_litS (vs := [.string (bar (nmOf ns k))]) sl_36 ze_9 rfl rfl rfl rfl rfl) ?_
              rintro _ _ ⟨b38, rfl, rfl⟩
              refine ⟨Or.inr (by repeat (first | exact Sub.nil _ | apply Sub.cons | exact Rem.here _ _ | apply Rem.there)), ?_⟩
              refine RD_one (i := 2) (by kernel_rfl) ?_
              refine RO_fx rfl rfl rfl rfl (Fx_patha (g := b30) (v := v) (p := p) (pp := pp1) rfl rfl (by repeat (first | exact Rem.here _ _ | apply Rem.there)) hv (fun x hx => (by repeat (first | exact List.mem_append_left _ hx | apply List.Mem.tail))) (by omega)) ?_
              rintro _ _ ⟨g32, c32, r32, rfl, hr32, rfl⟩
              refine ⟨Or.inr (by repeat (first | exact Sub.nil _ | apply Sub.cons | exact Rem.here _ _ | apply Rem.there)), ?_⟩
              refine RD_one (i := 9) (by kernel_rfl) ?_
              refine RO_fx rfl rfl rfl rfl (Fx_appTG (xs := strs p) (r := r32) (news := [.string (bar (nmOf ns k))]) (n := p.length) (cap := c32) (m := 1) (c := 1) rfl rfl sl_36 by_9 ze_9 rfl (by repeat (first | exact Rem.here _ _ | apply Rem.there)) (by repeat (first | exact Rem.here _ _ | apply Rem.there)) hr32 (by simp) rfl (by intro u hu; rw [List.mem_singleton.1 hu]; rfl) (by omega) (by omega) (by omega)) ?_
              rintro _ _ ⟨g39, c39, r39, rfl, hr39, rfl⟩
              refine ⟨Or.inr (by repeat (first | exact Sub.nil _ | apply Sub.cons | exact Rem.here _ _ | apply Rem.there)), ?_⟩
              refine RD_l 10 rfl (Yl_assign rfl) ?_
              refine RD_done (by kernel_rfl) ?_
              first
                | (have hk0 : k = 0 := (by omega); rw [if_pos hk0]; exact QW_cut (pp1, v) ⟨fun _ h => h, hv⟩ (by repeat (first | exact Prm.nil _ | exact Rem.here _ _ | apply Rem.there | apply Prm.cons)) (.cons rfl (.cons rfl (.cons rfl (.cons rfl (.cons rfl .nil))))))
                | (have hk0 : ¬ k = 0 := (by omega); rw [if_neg hk0, strs_snoc] at *; exact QW_cut ((g39, blk (strs (p ++ [nmOf ns k]) ++ r39) 9) :: pp1, .slice (some ⟨g39, 0, none⟩) (p ++ [nmOf ns k]).length c39) ⟨fun x hx => List.Mem.tail _ hx, .inr ⟨g39, c39, r39, by simp, rfl, List.Mem.head _⟩⟩ (by simp only [List.cons_append]; repeat (first | exact Prm.nil _ | exact Rem.here _ _ | apply Rem.there | apply Prm.cons)) (.cons rfl (.cons rfl (.cons rfl (.cons rfl (.cons (by rw [List.length_append]; rfl) .nil))))))
          · skip
            refine RO_fx rfl rfl rfl rfl (Fx_litS (vs := [.string (bar (nmOf ns k))]) sl_36 ze_9 rfl rfl rfl rfl rfl) ?_
            rintro _ _ ⟨b38, rfl, rfl⟩
            refine ⟨Or.inr (by repeat (first | exact Sub.nil _ | apply Sub.cons | exact Rem.here _ _ | apply Rem.there)), ?_⟩
            refine RD_one (i := 0) (by kernel_rfl) ?_
            refine RO_fx rfl rfl rfl rfl (Fx_buildSlice0 sl_36) ?_
            rintro _ _ ⟨b30, rfl, rfl⟩
            refine ⟨Or.inr (by repeat (first | exact Sub.nil _ | apply Sub.cons | exact Rem.here _ _ | apply Rem.there)), ?_⟩
            refine RD_one (i := 2) (by kernel_rfl) ?_
            refine RO_fx rfl rfl rfl rfl (Fx_patha (g := b30) (v := v) (p := p) (pp := pp1) rfl rfl (by repeat (first | exact Rem.here _ _ | apply Rem.there)) hv (fun x hx => (by repeat (first | exact List.mem_append_left _ hx | apply List.Mem.tail))) (by omega)) ?_
            rintro _ _ ⟨g32, c32, r32, rfl, hr32, rfl⟩
            refine ⟨Or.inr (by repeat (first | exact Sub.nil _ | apply Sub.cons | exact Rem.here _ _ | apply Rem.there)), ?_⟩
            refine RD_one (i := 9) (by kernel_rfl) ?_
            refine RO_fx rfl rfl rfl rfl (Fx_appTG (xs := strs p) (r := r32) (news := [.string (bar (nmOf ns k))]) (n := p.length) (cap := c32) (m := 1) (c := 1) rfl rfl sl_36 by_9 ze_9 rfl (by repeat (first | exact Rem.here _ _ | apply Rem.there)) (by repeat (first | exact Rem.here _ _ | apply Rem.there)) hr32 (by simp) rfl (by intro u hu; rw [List.mem_singleton.1 hu]; rfl) (by omega) (by omega) (by omega)) ?_
            rintro _ _ ⟨g39, c39, r39, rfl, hr39, rfl⟩
            refine ⟨Or.inr (by repeat (first | exact Sub.nil _ | apply Sub.cons | exact Rem.here _ _ | apply Rem.there)), ?_⟩
            refine RD_l 10 rfl (Yl_assign rfl) ?_
            refine RD_done (by kernel_rfl) ?_
            first
              | (have hk0 : k = 0 := (by omega); rw [if_pos hk0]; exact QW_cut (pp1, v) ⟨fun _ h => h, hv⟩ (by repeat (first | exact Prm.nil _ | exact Rem.here _ _ | apply Rem.there | apply Prm.cons)) (.cons rfl (.cons rfl (.cons rfl (.cons rfl (.cons rfl .nil))))))
              | (have hk0 : ¬ k = 0 := (by omega); rw [if_neg hk0, strs_snoc] at *; exact QW_cut ((g39, blk (strs (p ++ [nmOf ns k]) ++ r39) 9) :: pp1, .slice (some ⟨g39, 0, none⟩) (p ++ [nmOf ns k]).length c39) ⟨fun x hx => List.Mem.tail _ hx, .inr ⟨g39, c39, r39, by simp, rfl, List.Mem.head _⟩⟩ (by simp only [List.cons_append]; repeat (first | exact Prm.nil _ | exact Rem.here _ _ | apply Rem.there | apply Prm.cons)) (.cons rfl (.cons rfl (.cons rfl (.cons rfl (.cons (by rw [List.length_append]; rfl) .nil))))))
        · replace hc2 := of_decide_eq_false hc2
          refine CW_skip ?_
          first
            | (have hk0 : k = 0 := (by omega); rw [if_pos hk0]; exact QW_cut (pp1, v) ⟨fun _ h => h, hv⟩ (by repeat (first | exact Prm.nil _ | exact Rem.here _ _ | apply Rem.there | apply Prm.cons)) (.cons rfl (.cons rfl (.cons rfl (.cons rfl (.cons rfl .nil))))))
            | (have hk0 : ¬ k = 0 := (by omega); rw [if_neg hk0, strs_snoc] at *; exact QW_cut ((g39, blk (strs (p ++ [nmOf ns k]) ++ r39) 9) :: pp1, .slice (some ⟨g39, 0, none⟩) (p ++ [nmOf ns k]).length c39) ⟨fun x hx => List.Mem.tail _ hx, .inr ⟨g39, c39, r39, by simp, rfl, List.Mem.head _⟩⟩ (by simp only [List.cons_append]; repeat (first | exact Prm.nil _ | exact Rem.here _ _ | apply Rem.there | apply Prm.cons)) (.cons rfl (.cons rfl (.cons rfl (.cons rfl (.cons (by rw [List.length_append]; rfl) .nil))))))
      · rintro ⟨pp2, v2⟩ ⟨hs2, hv2⟩
        simp only at hs2 hv2 ⊢
        refine CW_seq ?_
        have hdl2 : d2.length = done.length + a.length + 1 := by rw [← e2, hdl]
        have hih := ihc d2 vs2 go2 co2 gp2 cp2 ro2 rp2 pp2 v2 hv2 (hvs2.more hs2) hro2 hrp2 (by omega) (by split <;> (try simp only [List.length_append, List.length_singleton]) <;> omega)
        refine CW_draw [7] _ mixed (Sub.refl _) ?_
        refine RD_l 2 rfl (Yl_move rfl) ?_
        refine RD_l 6 rfl (Yl_move rfl) ?_
        refine RD_h (i := 0) #[false, true, true, true, true, true, true, false] rfl rfl rfl rfl (by kernel_rfl) (fun _ _ _ h => h) (Yh_load (v := .func (.func 30) #[] #[pv bF, pv bn, pv bo, pv bp]) rfl sc_77 (by repeat (first | exact List.Mem.head _ | apply List.Mem.tail)) rfl) ?_
        refine RD_h (i := 1) #[true, false, true, false, false, false, true, false] rfl rfl rfl rfl (by kernel_rfl) (fun _ _ _ h => h) (Yh_load (v := .slice (some ⟨g, 0, none⟩) ns.length cap) rfl sc_25 (by repeat (first | exact List.Mem.head _ | apply List.Mem.tail)) rfl) ?_
        refine RD_l 3 rfl (Yl_indexN (b := g) (off := 0) (i := k) (o' := k * 28) rfl rfl sl_25 hk (by omega)) ?_
        refine RD_l 4 rfl (Yl_field rfl fo_43_5) ?_
        refine RD_h (i := 5) #[true, true, true, true, true, false, true, false] rfl rfl rfl rfl (by kernel_rfl) (fun _ _ _ h => h) (Yh_load (v := iv (chdF ns k)) rfl sc_3 (by repeat (first | exact List.Mem.head _ | apply List.Mem.tail)) (at_child hk rfl)) ?_
        refine RD_one (i := 7) (by kernel_rfl) ?_
        refine RO_fx rfl rfl rfl rfl (Fx_callV ok_30 (fs := []) (cs := [pv bF, pv bn, pv bo, pv bp]) (vs := [iv (chdF ns k), v2]) rfl rfl (by exact (Pick.cons (by repeat (first | exact Rem.here _ _ | apply Rem.there)) (Pick.cons (by repeat (first | exact Rem.here _ _ | apply Rem.there)) (Pick.cons (by repeat (first | exact Rem.here _ _ | apply Rem.there)) (Pick.cons (by repeat (first | exact Rem.here _ _ | apply Rem.there)) (Pick.cons (by repeat (first | exact Rem.here _ _ | apply Rem.there)) (Pick.cons (by repeat (first | exact Rem.here _ _ | apply Rem.there)) (Pick.cons (by repeat (first | exact Rem.here _ _ | apply Rem.there)) (pick_app _ F))))))))) hih) ?_
        rintro _ _ ⟨_, ⟨rfl, vs4, go4, co4, gp4, cp4, ro4, rp4, pp4, hvs4, hro4, hrp4, hsub4, rfl⟩, rfl⟩
        simp only [List.cons_append]
        refine ⟨Or.inl (by kernel_rfl), ?_⟩
        refine (RD_done (by kernel_rfl) (QW_lv (ks := [0, 1, 2, 3]) ?_))
        obtain ⟨d3, hd3⟩ : ∃ d3, d3 = d2 ++ c := ⟨_, rfl⟩
        rw [← hd3] at hvs4 hro4
        rw [← hd3]
        clear hih
        have hdl3 : d3.length = d2.length + c.length := by rw [hd3]; simp
        have hih := ihb d3 vs4 go4 co4 gp4 cp4 ro4 rp4 pp4 v (hv.more fun x hx => hsub4 x (hs2 x hx)) hvs4 hro4 hrp4 (by omega) (by omega)
        have hfin : done ++ (a ++ (k, p) :: (c ++ b)) = d3 ++ b := by rw [hd3, hd2, hd1]; simp
        refine CW_draw [7] _ mixed (Sub.refl _) ?_
        refine RD_l 2 rfl (Yl_move rfl) ?_
        refine RD_l 6 rfl (Yl_move rfl) ?_
        refine RD_h (i := 0) #[false, true, true, true, true, true, true, false] rfl rfl rfl rfl (by kernel_rfl) (fun _ _ _ h => h) (Yh_load (v := .func (.func 30) #[] #[pv bF, pv bn, pv bo, pv bp]) rfl sc_77 (by repeat (first | exact List.Mem.head _ | apply List.Mem.tail)) rfl) ?_
        refine RD_h (i := 1) #[true, false, true, false, false, false, true, false] rfl rfl rfl rfl (by kernel_rfl) (fun _ _ _ h => h) (Yh_load (v := .slice (some ⟨g, 0, none⟩) ns.length cap) rfl sc_25 (by repeat (first | exact List.Mem.head _ | apply List.Mem.tail)) rfl) ?_
        refine RD_l 3 rfl (Yl_indexN (b := g) (off := 0) (i := k) (o' := k * 28) rfl rfl sl_25 hk (by omega)) ?_
        refine RD_l 4 rfl (Yl_field rfl fo_43_4) ?_
        refine RD_h (i := 5) #[true, true, true, true, true, false, true, false] rfl rfl rfl rfl (by kernel_rfl) (fun _ _ _ h => h) (Yh_load (v := iv (rtF ns k)) rfl sc_3 (by repeat (first | exact List.Mem.head _ | apply List.Mem.tail)) (at_right hk rfl)) ?_
        refine RD_one (i := 7) (by kernel_rfl) ?_
        refine RO_fx rfl rfl rfl rfl (Fx_callV ok_30 (fs := []) (cs := [pv bF, pv bn, pv bo, pv bp]) (vs := [iv (rtF ns k), v]) rfl rfl (by exact (Pick.cons (by repeat (first | exact Rem.here _ _ | apply Rem.there)) (Pick.cons (by repeat (first | exact Rem.here _ _ | apply Rem.there)) (Pick.cons (by repeat (first | exact Rem.here _ _ | apply Rem.there)) (Pick.cons (by repeat (first | exact Rem.here _ _ | apply Rem.there)) (Pick.cons (by repeat (first | exact Rem.here _ _ | apply Rem.there)) (Pick.cons (by repeat (first | exact Rem.here _ _ | apply Rem.there)) (Pick.cons (by repeat (first | exact Rem.here _ _ | apply Rem.there)) (pick_app _ F))))))))) hih) ?_
        rintro _ _ ⟨_, ⟨rfl, vs5, go5, co5, gp5, cp5, ro5, rp5, pp5, hvs5, hro5, hrp5, hsub5, rfl⟩, rfl⟩
        simp only [List.cons_append]
        refine ⟨Or.inl (by kernel_rfl), ?_⟩
        refine RD_done (by kernel_rfl) ?_
        refine QW_end0 rfl ((bF, blk [.func (.func 30) #[] #[pv bF, pv bn, pv bo, pv bp]] 77) :: (bn, blk [.slice (some ⟨g, 0, none⟩) ns.length cap] 25) :: (g, blk (nms ns ++ rn) 43) :: (bo, blk [.slice (some ⟨go5, 0, none⟩) (d3 ++ b).length co5] 29) :: (go5, blk (nats ((d3 ++ b).map Prod.fst) ++ ro5) 3) :: (bp, blk [.slice (some ⟨gp5, 0, none⟩) (d3 ++ b).length cp5] 30) :: (gp5, blk (vs5 ++ rp5) 36) :: pp5) ⟨rfl, vs5, go5, co5, gp5, cp5, ro5, rp5, pp5, ?_, ?_, hrp5, fun x hx => hsub5 x (hsub4 x (hs2 x (hsub1 x hx))), ?_⟩ (Prm.nil _)
        · rw [hfin]; exact hvs5
        · rw [hfin]; exact hro5
        · rw [hfin]
theorem order_any (ns : List Nm) (g cap bF bn bo bp : Nat) (rn : List Value) (hk2 : ns.length ≤ 1000) {t : Int} {p : List (List UInt8)} {o : List (Nat × List (List UInt8))} (h : OT (lfF ns) (rtF ns) (chdF ns) (nmOf ns) t p o) : (∀ k ∈ o.map Prod.fst, k < ns.length) → OCt ns g cap bF bn bo bp rn t p o := by
  induction h with
  | nil => intro _; exact order_nil ns g cap bF bn bo bp rn _
  | node ha hc hb iha ihc ihb =>
    intro hk
    simp only [List.map_append, List.map_cons, List.mem_append, List.mem_cons] at hk
    exact order_step ns g cap bF bn bo bp rn _ (hk _ (.inr (.inl rfl))) hk2 _ _ _ _ (iha fun x hx => hk x (.inl hx)) (ihc fun x hx => hk x (.inr (.inr (.inl hx)))) (ihb fun x hx => hk x (.inr (.inr (.inr hx))))
end Go.Proofs.YtgoddcicbpjknaaDoor

/-! Walks: Order, whole. -/
set_option maxRecDepth 20000
namespace Go.Proofs.YtgoddcicbpjknaaDoor
open Go
open Cfb
set_option maxHeartbeats 4000000 in
theorem Order_ct (ns : List Nm) (g cap : Nat) (rn : List Value) (o : List (Nat × List (List UInt8))) (hk2 : ns.length ≤ 1000) (hol : o.length ≤ 1000) (ho : OT (lfF ns) (rtF ns) (chdF ns) (nmOf ns) ((0 : Nat) : Int) [] o) (hk : ∀ k ∈ o.map Prod.fst, k < ns.length) :
    Ct Tryd.prog 17 [.slice (some ⟨g, 0, none⟩) ns.length cap] [(g, blk (nms ns ++ rn) 43)] (fun v q => ∃ vs go co ro gp cp rp pp, v = .tuple #[.slice (some ⟨go, 0, none⟩) o.length co, .slice (some ⟨gp, 0, none⟩) o.length cp] ∧ VsOk pp vs (o.map Prod.snd) ∧ (nats (o.map Prod.fst) ++ ro).length = co ∧ (vs ++ rp).length = cp ∧ q = (g, blk (nms ns ++ rn) 43) :: (go, blk (nats (o.map Prod.fst) ++ ro) 3) :: (gp, blk (vs ++ rp) 36) :: pp) := by
  refine Ct_of Tryd.func17 rfl Tryd.ntmps17 rfl ?_
  intro E F
  simp only [numL, List.nil_append, List.cons_append]
  refine CW_seq ?_
  refine CW_region ?_
  refine RW_fx rfl rfl rfl (Fx_box (zs := [.slice (some ⟨g, 0, none⟩) ns.length cap]) rfl rfl) ?_
  rintro _ _ ⟨bn, rfl, rfl⟩
  refine RW_a ?_
  refine RW_a ?_
  refine RW_lv (ks := [1]) ?_
  refine CW_seq ?_
  refine CW_region ?_
  refine RW_fx rfl rfl rfl (Fx_buildSlice0 sl_29) ?_
  rintro _ _ ⟨go, rfl, rfl⟩
  refine RW_fx rfl rfl rfl (Fx_buildSlice0 sl_30) ?_
  rintro _ _ ⟨gp, rfl, rfl⟩
  refine RW_fx rfl rfl rfl (Fx_alloc (zs := [.slice none 0 0]) ze_29 rfl) ?_
  rintro _ _ ⟨bo, rfl, rfl⟩
  refine RW_fx rfl rfl rfl (Fx_alloc (zs := [.slice none 0 0]) ze_30 rfl) ?_
  rintro _ _ ⟨bp, rfl, rfl⟩
  refine RW_fx0 rfl rfl (Fx_store (v := .slice (some ⟨go, 0, none⟩) 0 0) (b := bo) (off := 0) rfl rfl sz_29 rfl (by repeat (first | exact Rep.here _ _ _ | apply Rep.there)) (by simp)) ?_
  rintro _ _ rfl
  refine RW_fx0 rfl rfl (Fx_store (v := .slice (some ⟨gp, 0, none⟩) 0 0) (b := bp) (off := 0) rfl rfl sz_30 rfl (by repeat (first | exact Rep.here _ _ _ | apply Rep.there)) (by simp)) ?_
  rintro _ _ rfl
  refine RW_lv (ks := [1, 4, 5]) ?_
  refine CW_seq ?_
  refine CW_region ?_
  refine RW_fx rfl rfl rfl (Fx_alloc (zs := [.nilFunc]) ze_77 rfl) ?_
  rintro _ _ ⟨bF, rfl, rfl⟩
  refine RW_lv (ks := [1, 4, 5, 6]) ?_
  refine CW_seq ?_
  refine CW_region ?_
  refine RW_l (Yl_makeFunc (us := []) (vs := [pv bF, pv bn, pv bo, pv bp]) rfl rfl) ?_
  refine RW_fx0 rfl rfl (Fx_store (v := .func (.func 30) #[] #[pv bF, pv bn, pv bo, pv bp]) (b := bF) (off := 0) rfl rfl sz_77 rfl (by repeat (first | exact Rep.here _ _ _ | apply Rep.there)) (by simp)) ?_
  rintro _ _ rfl
  refine RW_lv (ks := [4, 5, 6]) ?_
  refine CW_seq ?_
  have hih := order_any ns g cap bF bn bo bp rn hk2 ho hk [] [] go 0 gp 0 [] [] [] (.slice none 0 0) (.inl ⟨rfl, rfl⟩) (VsOk.nil _) rfl rfl (by simp; omega) (by simp; omega)
  refine CW_region ?_
  refine RW_h (Yh_load (v := .func (.func 30) #[] #[pv bF, pv bn, pv bo, pv bp]) rfl sc_77 (by repeat (first | exact List.Mem.head _ | apply List.Mem.tail)) rfl) ?_
  refine RW_fx rfl rfl rfl (Fx_callV ok_30 (fs := []) (cs := [pv bF, pv bn, pv bo, pv bp]) (vs := [iv ((0 : Nat) : Int), .slice none 0 0]) rfl rfl (by exact (Pick.cons (by repeat (first | exact Rem.here _ _ | apply Rem.there)) (Pick.cons (by repeat (first | exact Rem.here _ _ | apply Rem.there)) (Pick.cons (by repeat (first | exact Rem.here _ _ | apply Rem.there)) (Pick.cons (by repeat (first | exact Rem.here _ _ | apply Rem.there)) (Pick.cons (by repeat (first | exact Rem.here _ _ | apply Rem.there)) (Pick.cons (by repeat (first | exact Rem.here _ _ | apply Rem.there)) (Pick.cons (by repeat (first | exact Rem.here _ _ | apply Rem.there)) (pick_app [] F))))))))) hih) ?_
  rintro _ _ ⟨_, ⟨rfl, vs1, go1, co1, gp1, cp1, ro1, rp1, pp1, hvs1, hro1, hrp1, hsub1, rfl⟩, rfl⟩
  simp only [List.cons_append, List.nil_append]
  rw [List.nil_append] at hvs1 hro1
  refine RW_lv (ks := [4, 5]) ?_
  refine CW_seq ?_
  refine CW_draw [] _ mixed (Sub.refl _) ?_
  refine RD_h (i := 0) #[false, true, false, false] rfl rfl rfl rfl (by kernel_rfl) (fun _ _ _ h => h) (Yh_load (v := .slice (some ⟨go1, 0, none⟩) o.length co1) rfl sc_29 (by repeat (first | exact List.Mem.head _ | apply List.Mem.tail)) rfl) ?_
  refine RD_l 2 rfl (Yl_assign rfl) ?_
  refine RD_h (i := 1) #[true, false, true, false] rfl rfl rfl rfl (by kernel_rfl) (fun _ _ _ h => h) (Yh_load (v := .slice (some ⟨gp1, 0, none⟩) o.length cp1) rfl sc_30 (by repeat (first | exact List.Mem.head _ | apply List.Mem.tail)) rfl) ?_
  refine RD_l 3 rfl (Yl_assign rfl) ?_
  refine (RD_done (by kernel_rfl) (QW_lv (ks := [2, 3]) ?_))
  refine CW_ret ?_
  refine QW_sub (H' := (g, blk (nms ns ++ rn) 43) :: (go1, blk (nats (o.map Prod.fst) ++ ro1) 3) :: (gp1, blk (vs1 ++ rp1) 36) :: (pp1 ++ F)) ?_ ?_
  · exact .cons _ (.cons _ (.cons_cons _ (.cons _ (.cons_cons _ (.cons _ (.cons_cons _ (.refl _)))))))
  · exact QW_ret2 rfl rfl rfl ((g, blk (nms ns ++ rn) 43) :: (go1, blk (nats (o.map Prod.fst) ++ ro1) 3) :: (gp1, blk (vs1 ++ rp1) 36) :: pp1) ⟨vs1, go1, co1, ro1, gp1, cp1, rp1, pp1, rfl, hvs1, hro1, hrp1, rfl⟩ (Prm.nil _)
end Go.Proofs.YtgoddcicbpjknaaDoor
