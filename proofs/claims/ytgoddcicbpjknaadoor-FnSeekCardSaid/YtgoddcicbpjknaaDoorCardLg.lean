/- FnSeek, as its card states it: whatever the numbers, the bytes, the choice, the step, the turn and the places, the call returns true and leaves all that was there as it was. Behind it: Plans: steps that read a stream, seek in it, read it at a place; what they tell; From a contract to a row: slices of numbers of two bytes; three slices; The plan of FnReadAt: a byte, bytes at places, a byte; The plan of FnSeek: places that are sought, each with a reading behind it; Walks: FnSeek. -/
import Derived.Test.YtgoddcicbpjknaaDoorPartE
import Derived.Clock
import Derived.Lay
set_option maxRecDepth 20000
set_option maxHeartbeats 4000000

namespace Go.Proofs.YtgoddcicbpjknaaDoor
open Go
open Cfb

/-! Plans: steps that read a stream, seek in it, read it at a place; what they tell. -/
inductive Pl where
  | rd (n : Nat)
  | ra (a n : Nat)
  | sk (wh : Nat) (off : Int) (to : Nat)
instance : Inhabited Pl := ⟨.rd 0⟩
def Pl.cells : Pl → List Value
  | .rd n => [nv 0, nv n, .int .i64 0, nv 0, .slice none 0 0]
  | .ra a n => [nv 2, nv n, nv a, nv 0, .slice none 0 0]
  | .sk wh off _ => [nv 1, nv 0, .int .i64 off, nv wh, .slice none 0 0]
def Pl.next (sz p : Nat) : Pl → Nat
  | .rd n => p + min n (sz - p)
  | .ra _ _ => p
  | .sk _ _ to => to
def Pl.dat (D : List UInt8) (p : Nat) : Pl → List UInt8
  | .rd n => (D.drop p).take n
  | .ra a n => (D.drop a).take n
  | .sk _ _ _ => []
def Pl.num (sz p : Nat) : Pl → Nat
  | .rd n => min n (sz - p)
  | .ra a n => min n (sz - a)
  | .sk _ _ to => to
def Pl.cod (sz p : Nat) : Pl → Nat
  | .rd n => if n ≤ sz - p then 0 else 6
  | .ra a n => if n ≤ sz - a then 0 else 6
  | .sk _ _ _ => 0
def Pl.ok (sz p : Nat) : Pl → Prop
  | .rd n => 0 < n ∧ n ≤ 65536
  | .ra a n => a < sz ∧ 0 < n ∧ n ≤ 65536
  | .sk wh off to => to < sz ∧ ((wh = 0 ∧ off = (to : Int)) ∨ (wh = 1 ∧ (p : Int) + off = (to : Int)))
/-- Where the stream stands after j steps. -/
def posA (sz : Nat) (pl : List Pl) (j : Nat) : Nat := (pl.take j).foldl (fun p s => s.next sz p) 0
theorem posA_succ (sz : Nat) (pl : List Pl) {j : Nat} (h : j < pl.length) : posA sz pl (j + 1) = (pl.getD j default).next sz (posA sz pl j) := by
  unfold posA
  rw [List.take_succ_eq_append_getElem h, List.foldl_append]
  simp [List.getD_eq_getElem?_getD, h]
theorem posA_app (sz : Nat) (pl more : List Pl) {j : Nat} (h : j ≤ pl.length) : posA sz (pl ++ more) j = posA sz pl j := by
  unfold posA; rw [List.take_append_of_le_length h]
/-- A plan that can be carried out. -/
def Plan (sz : Nat) (pl : List Pl) : Prop := ∀ j, j < pl.length → (pl.getD j default).ok sz (posA sz pl j)
theorem Plan.nil (sz : Nat) : Plan sz [] := fun j h => by simp at h
theorem Plan.snoc {sz : Nat} {pl : List Pl} {s : Pl} (h : Plan sz pl) (hs : s.ok sz (posA sz pl pl.length)) : Plan sz (pl ++ [s]) := by
  intro j hj
  rw [List.length_append, List.length_singleton] at hj
  by_cases e : j < pl.length
  · rw [List.getD_eq_getElem?_getD, List.getElem?_append_left e, ← List.getD_eq_getElem?_getD, posA_app _ _ _ om_]; exact h j e
  · have : j = pl.length := by omega
    subst this
    rw [List.getD_eq_getElem?_getD, List.getElem?_append_right om_, posA_app _ _ _ om_, Nat.sub_self]; exact hs
theorem Plan.pos {sz : Nat} {pl : List Pl} (h : Plan sz pl) : ∀ j, j ≤ pl.length → posA sz pl j ≤ sz := by
  intro j
  induction j with
  | zero => intro _; exact Nat.zero_le _
  | succ j ih =>
    intro hj
    have h1 := ih om_
    have h2 := h j om_
    rw [posA_succ sz pl om_]
    generalize pl.getD j default = s at h2
    cases s with
    | rd n => show _ + _ ≤ _; omega
    | ra a n => exact h1
    | sk wh off to => exact Nat.le_of_lt h2.1
theorem Pl.len5 (s : Pl) : s.cells.length = 5 := by cases s <;> rfl
theorem Pl.one5 (s : Pl) : ∀ u ∈ s.cells, u.oneCell' = true := by
  intro u hu
  cases s <;> (simp only [Pl.cells, List.mem_cons, List.not_mem_nil, or_false] at hu; rcases hu with rfl | rfl | rfl | rfl | rfl <;> rfl)
theorem does_pl {S : Src} {B D : List UInt8} (hS : S.Of B D) {U : TypeId} {u : Value} {T0 : TypeId} {fz0 : Nat × Nat} (hU : Nat.beq U 123 = false) {p : Nat} {s : Pl} (hs : s.ok D.length p) (hp : p ≤ D.length) :
    Does S (0, Obj.cells [Value.iface U u].toArray T0 fz0) s.cells p (s.next D.length p) (s.dat D p) (s.num D.length p) (s.cod D.length p) := by
  have hz := hS.size
  cases s with
  | rd n =>
    have := does_read (T0 := T0) (fz0 := fz0) (u := u) hS hs.1 hs.2 om_ hU (p := p)
    rw [← hz] at this; exact this
  | ra a n =>
    have := does_readAt (T0 := T0) (fz0 := fz0) (u := u) hS hs.2.1 hs.2.2 (show p ≤ S.size by omega) (show a < S.size by rw [← hz]; exact hs.1) hU
    rw [← hz] at this; exact this
  | sk wh off to => exact does_seek hS (by omega) (by rw [← hz]; exact hs.1) hs.2
theorem map_getD (pl : List Pl) {j : Nat} (h : j < pl.length) : (pl.map Pl.cells).getD j [] = (pl.getD j default).cells := by
  simp [List.getD_eq_getElem?_getD, h]
section
variable {ps : List Value} {T : TypeId} {four : Bool} {st : Nat} {ns : List Nm} {o : List (Nat × List (List UInt8))}
theorem Steps_pl (hp : PsOk ps) (h : NodesOk ns) (hk : ∀ k, k ∈ o.map Prod.fst ↔ k < ns.length) (hb : (STv (tnsF (verF four) (ns.map Nm.nd) (nmOf ns))).bad = false) (ho : (STv (tnsF (verF four) (ns.map Nm.nd) (nmOf ns))).out = o.map Prod.fst)
    (hol : o.length ≤ 1000) (hN : nmF4 four ns ≤ 131072) (gI bst cst i kk : Nat) (hi : i < o.length) (rst : List Value) (hkk : (o.getD i default).1 = kk) (hkk0 : kk ≠ 0) (hstr : (ns.getD kk default).nd.stream = true) {U : TypeId} {u : Value} {T0 : TypeId} {fz0 : Nat × Nat} (hU : Nat.beq U 123 = false)
    (D : List UInt8) (hD : (ns.getD kk default).nd.data = D) (pl : List Pl) (n : Nat) (hpn : pl.length = n) (hpl : Plan D.length pl) (hn : n ≤ 100000) :
    Ct Tryd.prog 20 [.slice (some ⟨gI, 0, none⟩) (nmF4 four ns) (nmF4 four ns), nv i, .slice (some ⟨bst, 0, none⟩) n cst]
      [(gI, blk (bys (wrF4 four st ns)) 5), (2, blk ps T), (bst, blk ((pl.map Pl.cells).flatten ++ rst) 53), (0, Obj.cells [Value.iface U u].toArray T0 fz0)]
      (fun v q => ∃ (g : Option Nat) (cap : Nat) (r : List Value) (rs : List (List Value)) (b2 cap2 : Nat) (r2 : List Value) (RB : Heap), v = .tuple #[osl g n cap, .slice (some ⟨b2, 0, none⟩) (nmF4 four ns) cap2, .bool true] ∧ rs.length = n ∧ oOk g rs.flatten r n cap 3 ∧
        (∀ i, i < n → ∃ dv, rs.getD i [] = [dv, nv ((pl.getD i default).num D.length (posA D.length pl i)), nv ((pl.getD i default).cod D.length (posA D.length pl i))] ∧ Sl RB dv ((pl.getD i default).dat D (posA D.length pl i))) ∧
        q = (b2, blk (bys (wrF4 four st ns) ++ r2) 5) :: (2, blk ps T) :: (0, Obj.cells [Value.iface U u].toArray T0 fz0) :: (gI, blk (bys (wrF4 four st ns)) 5) :: (bst, blk ((pl.map Pl.cells).flatten ++ rst) 53) :: (oH g (rs.flatten ++ r) 58 ++ RB)) := by
  refine Steps_rd hp h hk hb ho hol hN gI bst n cst i kk hi (pl.map Pl.cells) rst (by simpa using hpn) hn ?_ ?_ hkk hkk0 hstr _ (posA D.length pl) (fun i => (pl.getD i default).dat D (posA D.length pl i)) (fun i => (pl.getD i default).num D.length (posA D.length pl i)) (fun i => (pl.getD i default).cod D.length (posA D.length pl i)) rfl ?_
  · intro x hx; obtain ⟨s, _, rfl⟩ := List.mem_map.1 hx; exact s.len5
  · intro x hx; obtain ⟨s, _, rfl⟩ := List.mem_map.1 hx; exact s.one5
  · intro S hS j hj
    rw [hD] at hS
    rw [map_getD pl om_, posA_succ _ _ om_]
    exact does_pl hS hU (hpl j om_) (hpl.pos j om_)
end
theorem len_pl (pl : List Pl) : ((pl.map Pl.cells).flatten).length = pl.length * 5 := by
  rw [chunk_len 5 _ (fun y hy => by obtain ⟨s, _, rfl⟩ := List.mem_map.1 hy; exact s.len5), List.length_map]
/-- Numbers of two bytes, in memory. -/
def U16Ok (H : Heap) (p : Option Addr) (zs : List Nat) : Prop := zs = [] ∨ ∃ b off l T fz, p = some ⟨b, off, none⟩ ∧ (b, Obj.cells (List.toArray l) T fz) ∈ H ∧ ∀ i, i < zs.length → zs.getD i 0 ≤ 65535 ∧ l[off + i]? = some (.int .u16 ((zs.getD i 0 : Nat) : Int))
theorem pl_last (pl : List Pl) (s : Pl) : (pl ++ [s]).getD pl.length default = s := by
  rw [List.getD_eq_getElem?_getD, List.getElem?_append_right om_, Nat.sub_self]; rfl
theorem pl_ahead {pl : List Pl} (s : Pl) {j : Nat} (h : j < pl.length) : (pl ++ [s]).getD j default = pl.getD j default := by
  rw [List.getD_eq_getElem?_getD, List.getElem?_append_left h, ← List.getD_eq_getElem?_getD]

end Go.Proofs.YtgoddcicbpjknaaDoor

/-! From a contract to a row: slices of numbers of two bytes; three slices. -/
set_option maxRecDepth 100000
namespace Go.Proofs.YtgoddcicbpjknaaDoor
open Go
open Cfb
open Go.ChangeShapes Go.WideShapes Go.ChangeAt Go.RowKit
theorem un_61 : Tryd.prog.underlying 61 = some (.slice 47) := by kernel_rfl
theorem un_47 : Tryd.prog.underlying 47 = some (.int .u16) := by kernel_rfl
theorem cells47 : Tryd.prog.cellsOf 47 = 1 := by kernel_rfl
theorem u16s_end {W : World} {L : Heap} {p : Option Addr} {n : Nat} (hm : ∀ p ∈ L, W.heap[p.1]? = some p.2) (hn : (L.map Prod.fst).Nodup)
    (h : n = 0 ∨ ∃ b off l T fz, ∃ zs : Nat → Int, p = some ⟨b, off, none⟩ ∧ W.heap[b]? = some (Obj.cells l T fz) ∧ ∀ i, i < n → l[off + i]? = some (.int .u16 (zs i)) ∧ (Lit.int .u16 (zs i)).wf = true) :
    ∃ N zs, (∀ p ∈ L ++ N, W.heap[p.1]? = some p.2) ∧ ((L ++ N).map Prod.fst).Nodup ∧ zs.length = n ∧ U16Ok (L ++ N) p zs := by
  rcases h with rfl | ⟨b, off, l, T, fz, zs, rfl, hb, hz⟩
  · exact ⟨[], [], by simpa using hm, by simpa using hn, rfl, .inl rfl⟩
  · obtain ⟨N, h1, h2, h3⟩ := add_end hm hn hb
    obtain ⟨l⟩ := l
    refine ⟨N, (List.range n).map fun i => (zs i).toNat, h1, h2, by simp, .inr ⟨b, off, l, T, fz, rfl, h3, fun i hi => ?_⟩⟩
    have hi' : i < n := by simpa using hi
    obtain ⟨h5, h6⟩ := hz i hi'
    have h7 : 0 ≤ zs i ∧ zs i ≤ 65535 := by simpa [Lit.wf, IntKind.min, IntKind.max, IntKind.signed, IntKind.bits] using h6
    have e : ((List.range n).map fun i => (zs i).toNat).getD i 0 = (zs i).toNat := by simp [List.getD_eq_getElem?_getD, hi']
    rw [e]
    refine ⟨by omega, ?_⟩
    have h8 : l[off + i]? = some (.int .u16 (zs i)) := by simpa using h5
    rw [h8]
    congr 2
    omega
theorem BytOk.mono' {H H' : Heap} {p : Option Addr} {n : Nat} (h : BytOk H p n) (hs : ∀ x ∈ H, x ∈ H') : BytOk H' p n := by
  rcases h with h | ⟨b, off, l, T, fz, h1, h2, h3⟩
  · exact .inl h
  · exact .inr ⟨b, off, l, T, fz, h1, hs _ h2, h3⟩
end Go.Proofs.YtgoddcicbpjknaaDoor

namespace Go.Proofs.YtgoddcicbpjknaaDoor
open Go
open Cfb

/-! The plan of FnReadAt: a byte, bytes at places, a byte. -/
theorem chunk_cell (s : Nat) (rows : List (List Value)) (r : List Value) (k c : Nat) (h : ∀ x ∈ rows, x.length = s) (hk : k < rows.length) (hc : c < s) {o : Nat} (ho : o = k * s + c) : (rows.flatten ++ r)[o]? = (rows.getD k [])[c]? := by
  subst ho
  rw [← chunk_at s rows r k h hk, List.getElem?_take_of_lt hc, List.getElem?_drop]
theorem mem_pre {x a b c : Nat × Obj} {D F N : Heap} (h : x ∈ a :: b :: D) : x ∈ a :: b :: c :: (N ++ (D ++ F)) := by
  rcases List.mem_cons.1 h with rfl | h
  · exact List.mem_cons_self ..
  rcases List.mem_cons.1 h with rfl | h
  · exact List.mem_cons_of_mem _ (List.mem_cons_self ..)
  exact List.mem_cons_of_mem _ (List.mem_cons_of_mem _ (List.mem_cons_of_mem _ (List.mem_append_right _ (List.mem_append_left _ h))))

/-! The plan of FnSeek: places that are sought, each with a reading behind it. -/
def toA (zs : List Nat) (sz i : Nat) : Nat := zs.getD i 0 % sz
def rdA (zs : List Nat) (i : Nat) : Nat := 1 + zs.getD i 0 / 16 % 500
def skOf (to sz j p : Nat) : Pl := if j % 2 = 1 ∧ p < sz then .sk 1 ((to : Int) - (p : Int)) to else .sk 0 (to : Int) to
def skP (zs : List Nat) (sz : Nat) : Nat → List Pl
  | 0 => []
  | j + 1 => (skP zs sz j ++ [skOf (toA zs sz j) sz j (posA sz (skP zs sz j) (2 * j))]) ++ [Pl.rd (rdA zs j)]
/-- Where the stream stands when j places have been sought. -/
def plA (zs : List Nat) (sz j : Nat) : Nat := posA sz (skP zs sz j) (2 * j)
theorem skOf_next (to sz j p q s : Nat) : (skOf to sz j p).next s q = to := by unfold skOf; split <;> rfl
theorem skP_len (zs : List Nat) (sz : Nat) : ∀ j, (skP zs sz j).length = 2 * j := by
  intro j
  induction j with
  | zero => rfl
  | succ j ih => simp only [skP, List.length_append, ih, List.length_singleton]; omega
theorem skP_odd (zs : List Nat) (sz j : Nat) : posA sz (skP zs sz (j + 1)) (2 * j + 1) = toA zs sz j := by
  have hl := skP_len zs sz j
  unfold skP
  rw [posA_app _ _ _ (by simp [hl]), posA_succ _ _ (by simp [hl])]
  have := pl_last (skP zs sz j) (skOf (toA zs sz j) sz j (posA sz (skP zs sz j) (2 * j)))
  rw [hl] at this
  rw [this, skOf_next]
theorem plA_succ (zs : List Nat) {sz j : Nat} (h0 : 0 < sz) : plA zs sz (j + 1) = min sz (toA zs sz j + rdA zs j) := by
  have hl := skP_len zs sz j
  have hl2 := skP_len zs sz (j + 1)
  have h1 := skP_odd zs sz j
  have h2 : toA zs sz j < sz := Nat.mod_lt _ h0
  unfold plA
  rw [show 2 * (j + 1) = (2 * j + 1) + 1 by omega, posA_succ _ _ om_, h1]
  have := pl_last (skP zs sz j ++ [skOf (toA zs sz j) sz j (posA sz (skP zs sz j) (2 * j))]) (Pl.rd (rdA zs j))
  rw [List.length_append, hl, List.length_singleton] at this
  rw [show (skP zs sz (j + 1)).getD (2 * j + 1) default = Pl.rd (rdA zs j) from this]
  show toA zs sz j + min (rdA zs j) (sz - toA zs sz j) = _
  omega
theorem plA_le (zs : List Nat) {sz : Nat} (h0 : 0 < sz) (j : Nat) : plA zs sz j ≤ sz := by
  cases j with
  | zero => exact Nat.zero_le _
  | succ j => rw [plA_succ zs h0]; omega
theorem skP_plan (zs : List Nat) {sz : Nat} (h0 : 0 < sz) : ∀ j, Plan sz (skP zs sz j) := by
  intro j
  induction j with
  | zero => exact Plan.nil _
  | succ j ih =>
    have hl := skP_len zs sz j
    have h2 : toA zs sz j < sz := Nat.mod_lt _ h0
    have hp := plA_le zs h0 j
    unfold plA at hp
    unfold skP
    refine (ih.snoc ?_).snoc ⟨by unfold rdA; omega, by unfold rdA; omega⟩
    rw [hl]
    unfold skOf
    split
    · exact ⟨h2, .inr ⟨rfl, by omega⟩⟩
    · exact ⟨h2, .inl ⟨rfl, rfl⟩⟩
theorem getD_mid {l a b : List Pl} {k : Nat} (h : k < l.length) : ((l ++ a) ++ b).getD k default = l.getD k default := by
  rw [List.append_assoc, List.getD_eq_getElem?_getD, List.getElem?_append_left h, ← List.getD_eq_getElem?_getD]
theorem skP_at (zs : List Nat) (sz : Nat) : ∀ (j i : Nat), i < j → (skP zs sz j).getD (2 * i) default = skOf (toA zs sz i) sz i (plA zs sz i) ∧ (skP zs sz j).getD (2 * i + 1) default = Pl.rd (rdA zs i) ∧ posA sz (skP zs sz j) (2 * i + 1) = toA zs sz i := by
  intro j
  induction j with
  | zero => intro i h; omega
  | succ j ih =>
    intro i hi
    have hl := skP_len zs sz j
    by_cases e : i < j
    · obtain ⟨h1, h2, h3⟩ := ih i e
      unfold skP
      rw [getD_mid om_, getD_mid om_, List.append_assoc, posA_app _ _ _ om_]
      exact ⟨h1, h2, h3⟩
    · have : i = j := by omega
      subst this
      refine ⟨?_, ?_, skP_odd zs sz i⟩
      · have := pl_last (skP zs sz i) (skOf (toA zs sz i) sz i (posA sz (skP zs sz i) (2 * i)))
        rw [hl] at this
        unfold skP
        rw [pl_ahead _ (by simp [hl]), this]; rfl
      · have := pl_last (skP zs sz i ++ [skOf (toA zs sz i) sz i (posA sz (skP zs sz i) (2 * i))]) (Pl.rd (rdA zs i))
        rw [List.length_append, hl, List.length_singleton] at this
        exact this
theorem flat_sk (zs : List Nat) (sz j : Nat) {s : Pl} (hs : s = skOf (toA zs sz j) sz j (plA zs sz j)) : ((skP zs sz j).map Pl.cells).flatten ++ (s.cells ++ (Pl.rd (rdA zs j)).cells) = ((skP zs sz (j + 1)).map Pl.cells).flatten := by
  subst hs; simp [skP, plA]
theorem skOf_row (to sz j p q s : Nat) : (skOf to sz j p).num s q = to ∧ (skOf to sz j p).cod s q = 0 := by
  unfold skOf; split <;> exact ⟨rfl, rfl⟩
/-- The places, in a list. -/
def tosA (zs : List Nat) (sz j : Nat) : List Nat := (List.range j).map (toA zs sz)
theorem tosA_succ (zs : List Nat) (sz j : Nat) : nats (tosA zs sz j) ++ [nv (toA zs sz j)] = nats (tosA zs sz (j + 1)) := by
  unfold tosA; rw [List.range_succ]; simp
theorem tosA_len (zs : List Nat) (sz j : Nat) : (tosA zs sz j).length = j := by simp [tosA]
theorem tosA_at (zs : List Nat) (sz : Nat) {j i : Nat} (h : i < j) (r : List Value) : (nats (tosA zs sz j) ++ r)[i]? = some (nv (toA zs sz i)) := by
  rw [List.getElem?_append_left (by simp [tosA_len, h])]
  simp [tosA, h]
section
variable {P : Program} {L : Fra} {dst : Option Tmp} {ty : TypeId} {pos : String} {aft : Array Edge} {gd : Option (Nat × Bool)}
theorem Yl_lenO {x : Operand} {t e : TypeId} {sz s n cap : Nat} {o : Option Nat} {xs r : List Value} (hx : ev L x = some (osl o n cap)) (ho : oOk o xs r n cap s) (ht : slOf P t = some (e, sz)) : Yl P L ⟨dst, .call ⟨.builtin .len, #[x], #[t]⟩, ty, pos, aft, gd⟩ (nv n) := by
  cases o with
  | none => obtain ⟨rfl, rfl⟩ := ho; exact Yl_len hx ht
  | some g => exact Yl_len hx ht
theorem shr4 {z : Nat} : ((z : Int)).fdiv (2 ^ (min (4 : Int).toNat IntKind.u16.bits)) = ((z / 16 : Nat) : Int) := by
  rw [Int.fdiv_eq_ediv_of_nonneg _ (by decide)]; rfl
end

/-! Walks: FnSeek. -/
theorem FnSeek_ct (nN cN nD cD st tn : Nat) (pN pD : Option Addr) (four : Bool) (hst : st ≤ 255) (htn : tn ≤ 255) (ps : List Value) (T : TypeId) (hp : PsOk ps) (U : TypeId) (u : Value) (hU : Nat.beq U 123 = false) (T0 : TypeId) (fz0 : Nat × Nat) (D : Heap) (hN : NumOk ((2, blk ps T) :: (0, Obj.cells [Value.iface U u].toArray T0 fz0) :: D) pN nN) (hD : BytOk ((2, blk ps T) :: (0, Obj.cells [Value.iface U u].toArray T0 fz0) :: D) pD nD) (hcN : nN ≤ cN) (nA cA : Nat) (pA : Option Addr) (zs : List Nat) (hzl : zs.length = nA) (hA : U16Ok ((2, blk ps T) :: (0, Obj.cells [Value.iface U u].toArray T0 fz0) :: D) pA zs) :
  Ct Tryd.prog 9 [.slice pN nN cN, .slice pD nD cD, .bool four, .int .u8 (st : Int), .int .u8 (tn : Int), .slice pA nA cA] ((2, blk ps T) :: (0, Obj.cells [Value.iface U u].toArray T0 fz0) :: D) (fun v q => v = .bool true ∧ q = (2, blk ps T) :: (0, Obj.cells [Value.iface U u].toArray T0 fz0) :: D) := by
 refine Ct_of Tryd.func9 rfl Tryd.ntmps9 rfl ?_
 intro E F
 simp only [numL, List.nil_append, List.cons_append]
 refine CW_sr ?_
 refine RW_a ?_
 refine RW_lv (ks := [0, 1, 2, 3, 4, 5]) ?_
 refine CW_seq ?_
 refine CW_sr ?_
 refine RW_m ?_
 refine RW_l (Yl_len rfl sl_22) ?_
 refine RW_l (Yl_gtr rfl rfl) ?_
 refine RW_m ?_
 refine RW_bool 37 rfl (fun hg1 => ?_) (fun hg1 => ?_)
 ·replace hg1 := of_decide_eq_true hg1
  refine RW_skip rfl rfl rfl ?_
  refine RW_skip rfl rfl rfl ?_
  refine RW_skip rfl rfl rfl ?_
  refine RW_l (Yl_pick_t rfl rfl) ?_
  refine RW_m ?_
  refine RW_skip rfl rfl rfl ?_
  refine RW_skip rfl rfl rfl ?_
  refine RW_skip rfl rfl rfl ?_
  refine RW_l (Yl_pick_t rfl rfl) ?_
  refine RW_lv (ks := [0, 1, 2, 3, 4, 5, 46]) ?_
  refine CW_true rfl ?_
  refine CW_sr ?_
  refine RW_a ?_
  refine RW_lv (ks := [12]) ?_
  refine CW_ret ?_
  refine QW_ret_then ?_
  first
   | exact QW_ret1 rfl rfl ((2, blk ps T) :: (0, Obj.cells [Value.iface U u].toArray T0 fz0) :: D) ⟨rfl, rfl⟩ (Prm.nil _)
   | (refine QW_sub (H' := (2, blk ps T) :: (0, Obj.cells [Value.iface U u].toArray T0 fz0) :: (D ++ F)) (.cons _ (.cons_cons _ (.cons_cons _ (.cons _ (List.sublist_append_right _ _))))) ?_; exact QW_ret1 rfl rfl ((2, blk ps T) :: (0, Obj.cells [Value.iface U u].toArray T0 fz0) :: D) ⟨rfl, rfl⟩ (Prm.nil _))
   | (refine QW_sub (H' := (2, blk ps T) :: (0, Obj.cells [Value.iface U u].toArray T0 fz0) :: (D ++ F)) (.cons _ (.cons_cons _ (.cons_cons _ (.cons _ (.cons _ (List.Sublist.trans (List.Sublist.trans (.cons _ (.cons _ (List.sublist_append_right _ _))) (List.sublist_append_right _ _)) (List.sublist_append_right _ _))))))) ?_; exact QW_ret1 rfl rfl ((2, blk ps T) :: (0, Obj.cells [Value.iface U u].toArray T0 fz0) :: D) ⟨rfl, rfl⟩ (Prm.nil _))
 ·replace hg1 := of_decide_eq_false hg1
  refine RW_gy rfl rfl rfl (Yl.h (Yl_move rfl)) ?_
  refine RW_gy rfl rfl rfl (Yl.h (Yl_len rfl sl_23)) ?_
  refine RW_gy rfl rfl rfl (Yl.h (Yl_gtr rfl rfl)) ?_
  refine RW_l (Yl_pick_f rfl rfl) ?_
  refine RW_m ?_
  refine RW_bool 42 rfl (fun hg2 => ?_) (fun hg2 => ?_)
  ·replace hg2 := of_decide_eq_true hg2
   refine RW_skip rfl rfl rfl ?_
   refine RW_skip rfl rfl rfl ?_
   refine RW_skip rfl rfl rfl ?_
   refine RW_l (Yl_pick_t rfl rfl) ?_
   refine RW_lv (ks := [0, 1, 2, 3, 4, 5, 46]) ?_
   refine CW_true rfl ?_
   refine CW_sr ?_
   refine RW_a ?_
   refine RW_lv (ks := [12]) ?_
   refine CW_ret ?_
   refine QW_ret_then ?_
   first
    | exact QW_ret1 rfl rfl ((2, blk ps T) :: (0, Obj.cells [Value.iface U u].toArray T0 fz0) :: D) ⟨rfl, rfl⟩ (Prm.nil _)
    | (refine QW_sub (H' := (2, blk ps T) :: (0, Obj.cells [Value.iface U u].toArray T0 fz0) :: (D ++ F)) (.cons _ (.cons_cons _ (.cons_cons _ (.cons _ (List.sublist_append_right _ _))))) ?_; exact QW_ret1 rfl rfl ((2, blk ps T) :: (0, Obj.cells [Value.iface U u].toArray T0 fz0) :: D) ⟨rfl, rfl⟩ (Prm.nil _))
    | (refine QW_sub (H' := (2, blk ps T) :: (0, Obj.cells [Value.iface U u].toArray T0 fz0) :: (D ++ F)) (.cons _ (.cons_cons _ (.cons_cons _ (.cons _ (.cons _ (List.Sublist.trans (List.Sublist.trans (.cons _ (.cons _ (List.sublist_append_right _ _))) (List.sublist_append_right _ _)) (List.sublist_append_right _ _))))))) ?_; exact QW_ret1 rfl rfl ((2, blk ps T) :: (0, Obj.cells [Value.iface U u].toArray T0 fz0) :: D) ⟨rfl, rfl⟩ (Prm.nil _))
  ·replace hg2 := of_decide_eq_false hg2
   refine RW_gy rfl rfl rfl (Yl.h (Yl_move rfl)) ?_
   refine RW_gy rfl rfl rfl (Yl.h (Yl_len rfl sl_61)) ?_
   refine RW_gy rfl rfl rfl (Yl.h (Yl_gtr rfl rfl)) ?_
   refine RW_l (Yl_pick_f rfl rfl) ?_
   refine RW_lv (ks := [0, 1, 2, 3, 4, 5, 46]) ?_
   refine CW_cond rfl (fun hc3 => ?_) (fun hc3 => ?_)
   ·replace hc3 := of_decide_eq_true hc3
    refine CW_sr ?_
    refine RW_a ?_
    refine RW_lv (ks := [12]) ?_
    refine CW_ret ?_
    refine QW_ret_then ?_
    first
     | exact QW_ret1 rfl rfl ((2, blk ps T) :: (0, Obj.cells [Value.iface U u].toArray T0 fz0) :: D) ⟨rfl, rfl⟩ (Prm.nil _)
     | (refine QW_sub (H' := (2, blk ps T) :: (0, Obj.cells [Value.iface U u].toArray T0 fz0) :: (D ++ F)) (.cons _ (.cons_cons _ (.cons_cons _ (.cons _ (List.sublist_append_right _ _))))) ?_; exact QW_ret1 rfl rfl ((2, blk ps T) :: (0, Obj.cells [Value.iface U u].toArray T0 fz0) :: D) ⟨rfl, rfl⟩ (Prm.nil _))
     | (refine QW_sub (H' := (2, blk ps T) :: (0, Obj.cells [Value.iface U u].toArray T0 fz0) :: (D ++ F)) (.cons _ (.cons_cons _ (.cons_cons _ (.cons _ (.cons _ (List.Sublist.trans (List.Sublist.trans (.cons _ (.cons _ (List.sublist_append_right _ _))) (List.sublist_append_right _ _)) (List.sublist_append_right _ _))))))) ?_; exact QW_ret1 rfl rfl ((2, blk ps T) :: (0, Obj.cells [Value.iface U u].toArray T0 fz0) :: D) ⟨rfl, rfl⟩ (Prm.nil _))
   ·replace hc3 := of_decide_eq_false hc3
    refine (CW_skip (QW_lv (ks := [0, 1, 2, 3, 4, 5]) ?_))
    refine CW_seq ?_
    refine CW_sr ?_
    refine RW_m ?_
    refine RW_m ?_
    refine RW_fx rfl rfl rfl (Fx_callQ ok_13 (vs := [.slice pN nN cN, .slice pD nD cD]) (R := fun v => v = .bool (decide (nN ≤ 100 ∧ nD ≤ 1000))) rfl (Pick.nil _) (few_ct pN pD nN cN nD cD)) ?_
    rintro _ _ ⟨rfl, rfl⟩
    refine RW_l (Yl_not rfl) ?_
    refine RW_m ?_
    refine RW_bool 51 rfl (fun hg4 => ?_) (fun hg4 => ?_)
    ·skip
     refine RW_skip rfl rfl rfl ?_
     refine RW_skip rfl rfl rfl ?_
     refine RW_skip rfl rfl rfl ?_
     refine RW_l (Yl_pick_t rfl rfl) ?_
     refine RW_lv (ks := [0, 1, 2, 3, 4, 5, 55]) ?_
     refine CW_true rfl ?_
     refine CW_sr ?_
     refine RW_a ?_
     refine RW_lv (ks := [12]) ?_
     refine CW_ret ?_
     refine QW_ret_then ?_
     first
      | exact QW_ret1 rfl rfl ((2, blk ps T) :: (0, Obj.cells [Value.iface U u].toArray T0 fz0) :: D) ⟨rfl, rfl⟩ (Prm.nil _)
      | (refine QW_sub (H' := (2, blk ps T) :: (0, Obj.cells [Value.iface U u].toArray T0 fz0) :: (D ++ F)) (.cons _ (.cons_cons _ (.cons_cons _ (.cons _ (List.sublist_append_right _ _))))) ?_; exact QW_ret1 rfl rfl ((2, blk ps T) :: (0, Obj.cells [Value.iface U u].toArray T0 fz0) :: D) ⟨rfl, rfl⟩ (Prm.nil _))
      | (refine QW_sub (H' := (2, blk ps T) :: (0, Obj.cells [Value.iface U u].toArray T0 fz0) :: (D ++ F)) (.cons _ (.cons_cons _ (.cons_cons _ (.cons _ (.cons _ (List.Sublist.trans (List.Sublist.trans (.cons _ (.cons _ (List.sublist_append_right _ _))) (List.sublist_append_right _ _)) (List.sublist_append_right _ _))))))) ?_; exact QW_ret1 rfl rfl ((2, blk ps T) :: (0, Obj.cells [Value.iface U u].toArray T0 fz0) :: D) ⟨rfl, rfl⟩ (Prm.nil _))
    ·skip
     have hfew : nN ≤ 100 ∧ nD ≤ 1000 := by simpa using hg4
     refine RW_gy rfl rfl rfl (Yl.h (Yl_move rfl)) ?_
     refine RW_gy rfl rfl rfl (Yl.h (Yl_len rfl sl_61)) ?_
     refine RW_gy rfl rfl rfl (Yl.h (Yl_gtr rfl rfl)) ?_
     refine RW_l (Yl_pick_f rfl rfl) ?_
     refine RW_lv (ks := [0, 1, 2, 3, 4, 5, 55]) ?_
     refine CW_cond rfl (fun hc5 => ?_) (fun hc5 => ?_)
     ·replace hc5 := of_decide_eq_true hc5
      refine CW_sr ?_
      refine RW_a ?_
      refine RW_lv (ks := [12]) ?_
      refine CW_ret ?_
      refine QW_ret_then ?_
      first
       | exact QW_ret1 rfl rfl ((2, blk ps T) :: (0, Obj.cells [Value.iface U u].toArray T0 fz0) :: D) ⟨rfl, rfl⟩ (Prm.nil _)
       | (refine QW_sub (H' := (2, blk ps T) :: (0, Obj.cells [Value.iface U u].toArray T0 fz0) :: (D ++ F)) (.cons _ (.cons_cons _ (.cons_cons _ (.cons _ (List.sublist_append_right _ _))))) ?_; exact QW_ret1 rfl rfl ((2, blk ps T) :: (0, Obj.cells [Value.iface U u].toArray T0 fz0) :: D) ⟨rfl, rfl⟩ (Prm.nil _))
       | (refine QW_sub (H' := (2, blk ps T) :: (0, Obj.cells [Value.iface U u].toArray T0 fz0) :: (D ++ F)) (.cons _ (.cons_cons _ (.cons_cons _ (.cons _ (.cons _ (List.Sublist.trans (List.Sublist.trans (.cons _ (.cons _ (List.sublist_append_right _ _))) (List.sublist_append_right _ _)) (List.sublist_append_right _ _))))))) ?_; exact QW_ret1 rfl rfl ((2, blk ps T) :: (0, Obj.cells [Value.iface U u].toArray T0 fz0) :: D) ⟨rfl, rfl⟩ (Prm.nil _))
     ·replace hc5 := of_decide_eq_false hc5
      refine (CW_skip (QW_lv (ks := [0, 1, 2, 3, 4, 5]) ?_))
      refine CW_seq ?_
      have hnodes := nodesOf_ct nN cN nD cD pN pD ((2, blk ps T) :: (0, Obj.cells [Value.iface U u].toArray T0 fz0) :: D) hN hD om_ hcN om_
      refine CW_region ?_
      refine RW_m ?_
      refine RW_m ?_
      refine RW_fx rfl rfl rfl (Fx_call ok_14 (vs := [.slice pN nN cN, .slice pD nD cD]) rfl (Pick.cons rem_ (Pick.cons rem_ (pick_app D F))) hnodes) ?_
      rintro _ _ ⟨_, ⟨ns, g, cap, rn, rfl, hno, hfit, rfl⟩, rfl⟩
      simp only [List.cons_append, List.append_assoc]
      refine RW_a ?_
      refine RW_lv (ks := [2, 3, 4, 5, 13]) ?_
      refine CW_seq ?_
      have hxs := hno.xs
      have hw := write_ct g cap (verF four) st ns rn _ rfl hxs hno.ok (by rcases verF_or four with e | e <;> omega) om_
      refine CW_region ?_
      refine RW_m ?_
      refine RW_m ?_
      refine RW_fx rfl rfl rfl (Fx_callQ ok_16 (vs := [.bool four]) (R := fun v => v = nv (verF four)) rfl (Pick.nil _) (versionOf_ct four)) ?_
      rintro _ _ ⟨rfl, rfl⟩
      refine RW_m ?_
      refine RW_l (Yl_conv (c := (st : Int)) rfl in_5 in_3 (wi64 om_ om_)) ?_
      refine RW_fx rfl rfl rfl (Fx_call ok_15 (vs := [.slice (some ⟨g, 0, none⟩) ns.length cap, nv (verF four), nv st]) rfl (Pick.cons rem_ (pick_app (nmsH ns) _)) hw) ?_
      rintro _ _ ⟨_, ⟨gI, rfl, rfl⟩, rfl⟩
      simp only [List.cons_append]
      refine RW_a ?_
      refine RW_lv (ks := [4, 5, 13, 14]) ?_
      refine CW_seq ?_
      refine CW_heap (perm_front ((gI, blk (bys (writeF (verF four) st (ns.map Nm.nd))) 5) :: (g, blk (nms ns ++ rn) 43) :: nmsH ns) [(2, blk ps T), (0, Obj.cells [Value.iface U u].toArray T0 fz0)] (D ++ F)) ?_
      simp only [List.cons_append, List.nil_append]
      obtain ⟨o, ho, hok, hond, hol, hbad, hout, hpth⟩ := hno.travs (verF four)
      have hnl := hno.len
      have hsto := streamOf_ct ns g cap tn rn o htn om_ om_ ho (fun k hk => (hok k).1 hk)
      refine CW_region ?_
      refine RW_m ?_
      refine RW_m ?_
      refine RW_fx rfl rfl rfl (Fx_call ok_19 (vs := [.slice (some ⟨g, 0, none⟩) ns.length cap, .int .u8 (tn : Int)]) rfl (Pick.cons rem_ (Pick.nil _)) hsto) ?_
      rintro _ _ ⟨_, ⟨en, kk, bs, rfl, hfound, rfl⟩, rfl⟩
      simp only [List.cons_append, List.nil_append]
      refine RW_m ?_
      refine RW_l (Yl_extract (v := nv en) rfl rfl) ?_
      refine RW_l (Yl_extract (v := nv kk) rfl rfl) ?_
      refine RW_l (Yl_extract (v := .bool bs) rfl rfl) ?_
      refine RW_a ?_
      refine RW_a ?_
      refine RW_a ?_
      refine RW_lv (ks := [5, 13, 14, 15, 16, 17]) ?_
      refine CW_seq ?_
      refine CW_sr ?_
      refine RW_m ?_
      refine RW_l (Yl_not rfl) ?_
      refine RW_m ?_
      refine RW_bool 74 rfl (fun hg6 => ?_) (fun hg6 => ?_)
      ·skip
       refine RW_skip rfl rfl rfl ?_
       refine RW_skip rfl rfl rfl ?_
       refine RW_skip rfl rfl rfl ?_
       refine RW_l (Yl_pick_t rfl rfl) ?_
       refine RW_m ?_
       refine RW_skip rfl rfl rfl ?_
       refine RW_skip rfl rfl rfl ?_
       refine RW_skip rfl rfl rfl ?_
       refine RW_skip rfl rfl rfl ?_
       refine RW_skip rfl rfl rfl ?_
       refine RW_skip rfl rfl rfl ?_
       refine RW_skip rfl rfl rfl ?_
       refine RW_l (Yl_pick_t rfl rfl) ?_
       refine RW_lv (ks := [5, 13, 14, 15, 16, 87]) ?_
       refine CW_true rfl ?_
       refine CW_sr ?_
       refine RW_a ?_
       refine RW_lv (ks := [12]) ?_
       refine CW_ret ?_
       refine QW_ret_then ?_
       first
        | exact QW_ret1 rfl rfl ((2, blk ps T) :: (0, Obj.cells [Value.iface U u].toArray T0 fz0) :: D) ⟨rfl, rfl⟩ (Prm.nil _)
        | (refine QW_sub (H' := (2, blk ps T) :: (0, Obj.cells [Value.iface U u].toArray T0 fz0) :: (D ++ F)) (.cons _ (.cons_cons _ (.cons_cons _ (.cons _ (List.sublist_append_right _ _))))) ?_; exact QW_ret1 rfl rfl ((2, blk ps T) :: (0, Obj.cells [Value.iface U u].toArray T0 fz0) :: D) ⟨rfl, rfl⟩ (Prm.nil _))
        | (refine QW_sub (H' := (2, blk ps T) :: (0, Obj.cells [Value.iface U u].toArray T0 fz0) :: (D ++ F)) (.cons _ (.cons_cons _ (.cons_cons _ (.cons _ (.cons _ (List.Sublist.trans (List.Sublist.trans (.cons _ (.cons _ (List.sublist_append_right _ _))) (List.sublist_append_right _ _)) (List.sublist_append_right _ _))))))) ?_; exact QW_ret1 rfl rfl ((2, blk ps T) :: (0, Obj.cells [Value.iface U u].toArray T0 fz0) :: D) ⟨rfl, rfl⟩ (Prm.nil _))
      ·skip
       have hb1 : bs = true := by simpa using hg6
       refine RW_gy rfl rfl rfl (Yl.h (Yl_move rfl)) ?_
       refine RW_gy rfl rfl rfl (Yl.h (Yl_len rfl sl_23)) ?_
       refine RW_gy rfl rfl rfl (Yl.h (Yl_gtr rfl rfl)) ?_
       refine RW_l (Yl_pick_f rfl rfl) ?_
       refine RW_m ?_
       refine RW_bool 79 rfl (fun hg7 => ?_) (fun hg7 => ?_)
       ·replace hg7 := of_decide_eq_true hg7
        refine RW_skip rfl rfl rfl ?_
        refine RW_skip rfl rfl rfl ?_
        refine RW_skip rfl rfl rfl ?_
        refine RW_skip rfl rfl rfl ?_
        refine RW_skip rfl rfl rfl ?_
        refine RW_skip rfl rfl rfl ?_
        refine RW_skip rfl rfl rfl ?_
        refine RW_l (Yl_pick_t rfl rfl) ?_
        refine RW_lv (ks := [5, 13, 14, 15, 16, 87]) ?_
        refine CW_true rfl ?_
        refine CW_sr ?_
        refine RW_a ?_
        refine RW_lv (ks := [12]) ?_
        refine CW_ret ?_
        refine QW_ret_then ?_
        first
         | exact QW_ret1 rfl rfl ((2, blk ps T) :: (0, Obj.cells [Value.iface U u].toArray T0 fz0) :: D) ⟨rfl, rfl⟩ (Prm.nil _)
         | (refine QW_sub (H' := (2, blk ps T) :: (0, Obj.cells [Value.iface U u].toArray T0 fz0) :: (D ++ F)) (.cons _ (.cons_cons _ (.cons_cons _ (.cons _ (List.sublist_append_right _ _))))) ?_; exact QW_ret1 rfl rfl ((2, blk ps T) :: (0, Obj.cells [Value.iface U u].toArray T0 fz0) :: D) ⟨rfl, rfl⟩ (Prm.nil _))
         | (refine QW_sub (H' := (2, blk ps T) :: (0, Obj.cells [Value.iface U u].toArray T0 fz0) :: (D ++ F)) (.cons _ (.cons_cons _ (.cons_cons _ (.cons _ (.cons _ (List.Sublist.trans (List.Sublist.trans (.cons _ (.cons _ (List.sublist_append_right _ _))) (List.sublist_append_right _ _)) (List.sublist_append_right _ _))))))) ?_; exact QW_ret1 rfl rfl ((2, blk ps T) :: (0, Obj.cells [Value.iface U u].toArray T0 fz0) :: D) ⟨rfl, rfl⟩ (Prm.nil _))
       ·replace hg7 := of_decide_eq_false hg7
        obtain ⟨he1, he2, he3⟩ := hfound hb1
        have hkk0 := hno.notroot he3
        have hkn : kk < ns.length := by
         have hoi : o.getD en default ∈ o := by rw [List.getD_eq_getElem?_getD, List.getElem?_eq_getElem he1]; exact List.getElem_mem _
         rw [← he2]; exact (hok _).1 (List.mem_map.2 ⟨_, hoi, rfl⟩)
        obtain ⟨x1, hx⟩ : ∃ x, ns.getD kk default = x := ⟨_, rfl⟩
        have hx1 : x1.ok := by rw [← hx]; exact hno.ok_at hkn
        have hxm := nmsH_mem hkn
        rw [hx] at hxm
        have hx9 := hx1.small
        have hxf := hx1.fit
        have hN1 : (nmF4 four ns) ≤ 131072 := by show NF (verF four) (ns.map Nm.nd) ≤ 131072; omega
        refine RW_gy rfl rfl rfl (Yl.h (Yl_move rfl)) ?_
        refine RW_gy rfl rfl rfl (Yl.h (Yl_move rfl)) ?_
        refine RW_gy rfl rfl rfl (Yl.h (Yl_indexN (b := g) (off := 0) (i := kk) (o' := kk * 28) rfl rfl sl_25 om_ om_)) ?_
        refine RW_gy rfl rfl rfl (Yl.h (Yl_field rfl fo_43_2)) ?_
        refine RW_gy rfl rfl rfl (Yh_load (v := x1.slice) rfl sc_23 mem_ (by rw [nms_cell _ _ _ 2 hkn om_, hx]; rfl)) ?_
        refine RW_gy rfl rfl rfl (Yl.h (Yl_len rfl sl_23)) ?_
        refine RW_gy rfl rfl rfl (Yl.h (Yl_eql rfl rfl)) ?_
        refine RW_l (Yl_pick_f rfl rfl) ?_
        refine RW_lv (ks := [5, 13, 14, 15, 16, 87]) ?_
        refine CW_cond rfl (fun hc8 => ?_) (fun hc8 => ?_)
        ·replace hc8 := of_decide_eq_true hc8
         refine CW_sr ?_
         refine RW_a ?_
         refine RW_lv (ks := [12]) ?_
         refine CW_ret ?_
         refine QW_ret_then ?_
         first
          | exact QW_ret1 rfl rfl ((2, blk ps T) :: (0, Obj.cells [Value.iface U u].toArray T0 fz0) :: D) ⟨rfl, rfl⟩ (Prm.nil _)
          | (refine QW_sub (H' := (2, blk ps T) :: (0, Obj.cells [Value.iface U u].toArray T0 fz0) :: (D ++ F)) (.cons _ (.cons_cons _ (.cons_cons _ (.cons _ (List.sublist_append_right _ _))))) ?_; exact QW_ret1 rfl rfl ((2, blk ps T) :: (0, Obj.cells [Value.iface U u].toArray T0 fz0) :: D) ⟨rfl, rfl⟩ (Prm.nil _))
          | (refine QW_sub (H' := (2, blk ps T) :: (0, Obj.cells [Value.iface U u].toArray T0 fz0) :: (D ++ F)) (.cons _ (.cons_cons _ (.cons_cons _ (.cons _ (.cons _ (List.Sublist.trans (List.Sublist.trans (.cons _ (.cons _ (List.sublist_append_right _ _))) (List.sublist_append_right _ _)) (List.sublist_append_right _ _))))))) ?_; exact QW_ret1 rfl rfl ((2, blk ps T) :: (0, Obj.cells [Value.iface U u].toArray T0 fz0) :: D) ⟨rfl, rfl⟩ (Prm.nil _))
        ·replace hc8 := of_decide_eq_false hc8
         refine (CW_skip (QW_lv (ks := [5, 13, 14, 15, 16]) ?_))
         refine CW_sr ?_
         refine RW_m ?_
         refine RW_m ?_
         refine RW_l (Yl_indexN (b := g) (off := 0) (i := kk) (o' := kk * 28) rfl rfl sl_25 om_ om_) ?_
         refine RW_l (Yl_field rfl fo_43_2) ?_
         refine RW_h (Yh_load (v := x1.slice) rfl sc_23 mem_ (by rw [nms_cell _ _ _ 2 hkn om_, hx]; rfl)) ?_
         refine RW_a ?_
         refine RW_lv (ks := [5, 14, 15, 18]) ?_
         refine CW_sr ?_
         refine RW_fx rfl rfl rfl (Fx_buildSlice0 sl_51) ?_
         rintro _ _ ⟨gs0, rfl, rfl⟩
         refine RW_fx rfl rfl rfl (Fx_buildSlice0 sl_29) ?_
         rintro _ _ ⟨gp0, rfl, rfl⟩
         refine RW_a ?_
         refine RW_a ?_
         refine RW_lv (ks := [5, 14, 15, 18, 19, 20]) ?_
         refine CW_sr ?_
         refine RW_a ?_
         refine RW_lv (ks := [5, 14, 15, 18, 19, 20, 21]) ?_
         refine CW_seq ?_
         refine CW_seq ?_
         have hpos : 0 < x1.nd.data.length := by omega
         refine CW_region ?_
         refine RW_m ?_
         refine RW_l (Yl_len rfl sl_61) ?_
         refine RW_m ?_
         refine RW_lv (ks := [14, 15, 18, 19, 20, 21, 95, 96, 97]) ?_
         refine CW_block ?_
         refine CW_lp (σ := Nat × Nat × Nat × List Value × Nat × Nat × List Value) (fun q => [(14, .slice (some ⟨gI, 0, none⟩) (nmF4 four ns) (nmF4 four ns)), (15, nv en), (18, x1.slice), (19, .slice (some ⟨q.2.1, 0, none⟩) (2 * q.1) q.2.2.1), (20, .slice (some ⟨q.2.2.2.2.1, 0, none⟩) q.1 q.2.2.2.2.2.1), (21, nv (plA zs x1.nd.data.length q.1)), (95, .slice pA nA cA), (96, nv nA), (97, nv q.1)]) (fun q => (q.2.1, blk (((skP zs x1.nd.data.length q.1).map Pl.cells).flatten ++ q.2.2.2.1) 53) :: (q.2.2.2.2.1, blk (nats (tosA zs x1.nd.data.length q.1) ++ q.2.2.2.2.2.2) 3) :: (g, blk (nms ns ++ rn) 43) :: (2, blk ps T) :: (0, Obj.cells [Value.iface U u].toArray T0 fz0) :: (gI, blk (bys (wrF4 four st ns)) 5) :: (nmsH ns ++ (D ++ F))) (fun q => q.1 ≤ nA ∧ (((skP zs x1.nd.data.length q.1).map Pl.cells).flatten ++ q.2.2.2.1).length = q.2.2.1 * 5 ∧ (nats (tosA zs x1.nd.data.length q.1) ++ q.2.2.2.2.2.2).length = q.2.2.2.2.2.1 * 1) (fun q => nA - q.1) (0, gs0, 0, [], gp0, 0, []) ⟨Nat.zero_le _, rfl, rfl⟩ ?_
         rintro ⟨j, gs, cs, rs0, gp, cp, rp0⟩ ⟨hj, hlen, hlp⟩
         simp only at hj hlen hlp ⊢
         refine CW_sr ?_
         refine RW_l (Yl_lss rfl rfl) ?_
         refine RW_lv (ks := [14, 15, 18, 19, 20, 21, 95, 96, 97, 98]) ?_
         refine CW_seq ?_
         refine CW_cond rfl (fun hc9 => ?_) (fun hc9 => ?_)
         ·replace hc9 := of_decide_eq_true hc9
          refine (CW_skip (QW_lv (ks := [14, 15, 18, 19, 20, 21, 95, 96, 97]) ?_))
          refine CW_seq ?_
          refine CW_block ?_
          refine CW_seq ?_
          rcases hA with hA | ⟨bA, oA, lA, TA, fA, rfl, hmA, hzA⟩
          ·rw [hA] at hzl; simp at hzl; omega
          have hz1 := (hzA j om_).1
          have hz2 : toA zs x1.nd.data.length j < x1.nd.data.length := Nat.mod_lt _ hpos
          have hpl := plA_le zs hpos j
          have hrdl : rdA zs j ≤ 500 := by unfold rdA; omega
          refine CW_region ?_
          refine RW_m ?_
          refine RW_l (Yl_indexN (b := bA) (off := oA) (i := j) (o' := oA + j) rfl rfl sl_61 om_ om_) ?_
          refine RW_h (Yh_load (v := .int .u16 ((zs.getD j 0 : Nat) : Int)) rfl sc_47 (List.mem_cons_of_mem _ (List.mem_cons_of_mem _ (List.mem_cons_of_mem _ (mem_pre hmA)))) (hzA j om_).2) ?_
          refine RW_a ?_
          refine RW_a ?_
          refine RW_lv (ks := [14, 15, 18, 19, 20, 21, 22, 23, 95, 96, 97]) ?_
          refine CW_sr ?_
          refine RW_m ?_
          refine RW_l (Yl_conv (c := ((zs.getD j 0 : Nat) : Int)) rfl in_47 in_3 (wi64 om_ om_)) ?_
          refine RW_m ?_
          refine RW_l (Yl_len rfl sl_23) ?_
          refine RW_l (Yl_rem (c := ((toA zs x1.nd.data.length j : Nat) : Int)) rfl rfl om_ (remN (zs.getD j 0) x1.nd.data.length)) ?_
          refine RW_a ?_
          refine RW_lv (ks := [14, 15, 18, 19, 20, 21, 22, 23, 24, 95, 96, 97]) ?_
          refine CW_sr ?_
          refine RW_m ?_
          refine RW_l (Yl_build (cs := (Pl.sk 0 ((toA zs x1.nd.data.length j : Nat) : Int) (toA zs x1.nd.data.length j)).cells) pl_53 ze_53 rfl rfl) ?_
          refine RW_fx rfl rfl rfl (Fx_alloc (zs := zs_53) ze_53 rfl) ?_
          rintro _ _ ⟨b25, rfl, rfl⟩
          refine RW_fx0 rfl rfl (Fx_storeA (b := b25) (off := 0) (l := zs_53) (T := 53) (cs := (Pl.sk 0 ((toA zs x1.nd.data.length j : Nat) : Int) (toA zs x1.nd.data.length j)).cells) rfl rfl sz_53 (Pl.one5 _) rep_ (Nat.le_refl 5)) ?_
          rintro _ _ rfl
          rw [spl_full _ _ (by rw [Pl.len5]; rfl)]
          refine RW_lv (ks := [14, 15, 18, 19, 20, 21, 22, 23, 24, 25, 95, 96, 97]) ?_
          refine CW_cut (σ := Pl) (fun q => [(14, .slice (some ⟨gI, 0, none⟩) (nmF4 four ns) (nmF4 four ns)), (15, nv en), (18, x1.slice), (19, .slice (some ⟨gs, 0, none⟩) (2 * j) cs), (20, .slice (some ⟨gp, 0, none⟩) j cp), (23, .int .u16 ((zs.getD j 0 : Nat) : Int)), (24, nv (toA zs x1.nd.data.length j)), (25, pv b25), (95, .slice (some ⟨bA, oA, none⟩) nA cA), (96, nv nA), (97, nv j)]) (fun q => (b25, blk q.cells 53) :: (gs, blk (((skP zs x1.nd.data.length j).map Pl.cells).flatten ++ rs0) 53) :: (gp, blk (nats (tosA zs x1.nd.data.length j) ++ rp0) 3) :: (g, blk (nms ns ++ rn) 43) :: (2, blk ps T) :: (0, Obj.cells [Value.iface U u].toArray T0 fz0) :: (gI, blk (bys (wrF4 four st ns)) 5) :: (nmsH ns ++ (D ++ F))) (fun q => q = skOf (toA zs x1.nd.data.length j) x1.nd.data.length j (plA zs x1.nd.data.length j)) ?_ ?_
          ·skip
           refine CW_sr ?_
           refine RW_m ?_
           refine RW_l (Yl_rem (c := ((j % 2 : Nat) : Int)) rfl rfl om_ (remN j 2)) ?_
           refine RW_l (Yl_eql rfl rfl) ?_
           refine RW_m ?_
           refine RW_bool 112 rfl (fun hg10 => ?_) (fun hg10 => ?_)
           ·replace hg10 := of_decide_eq_true hg10
            refine RW_gy rfl rfl rfl (Yl.h (Yl_move rfl)) ?_
            refine RW_gy rfl rfl rfl (Yl.h (Yl_move rfl)) ?_
            refine RW_gy rfl rfl rfl (Yl.h (Yl_len rfl sl_23)) ?_
            refine RW_gy rfl rfl rfl (Yl.h (Yl_lss rfl rfl)) ?_
            refine RW_l (Yl_pick_t rfl rfl) ?_
            refine RW_lv (ks := [14, 15, 18, 19, 20, 21, 23, 24, 25, 95, 96, 97, 117]) ?_
            refine CW_cond rfl (fun hc11 => ?_) (fun hc11 => ?_)
            ·replace hc11 := of_decide_eq_true hc11
             refine CW_region ?_
             refine RW_m ?_
             refine RW_m ?_
             refine RW_l (Yl_sub (c := ((toA zs x1.nd.data.length j : Nat) : Int) - ((plA zs x1.nd.data.length j : Nat) : Int)) rfl rfl (wi64 om_ om_)) ?_
             refine RW_l (Yl_field rfl fo_53_2) ?_
             refine RW_fx0 rfl rfl (Fx_store (v := .int .i64 (((toA zs x1.nd.data.length j : Nat) : Int) - ((plA zs x1.nd.data.length j : Nat) : Int))) rfl rfl sz_2 rfl rep_ (by rw [Pl.len5]; omega)) ?_
             rintro _ _ rfl
             refine RW_l (Yl_field rfl fo_53_3) ?_
             refine RW_fx0 rfl rfl (Fx_store (v := nv 1) rfl rfl sz_3 rfl rep_ (by rw [List.length_set, Pl.len5]; omega)) ?_
             rintro _ _ rfl
             refine RW_nil ?_
             first
              | exact QW_cut (Pl.sk 1 (((toA zs x1.nd.data.length j : Nat) : Int) - ((plA zs x1.nd.data.length j : Nat) : Int)) (toA zs x1.nd.data.length j)) (if_pos ⟨by omega, by omega⟩).symm (by repeat (first | exact Prm.nil _ | exact Rem.here _ _ | apply Rem.there | apply Prm.cons)) (.cons rfl (.cons rfl (.cons rfl (.cons rfl (.cons rfl (.cons rfl (.cons rfl (.cons rfl (.cons rfl (.cons rfl (.cons rfl .nil)))))))))))
              | exact QW_cut (Pl.sk 0 (((toA zs x1.nd.data.length j : Nat) : Int)) (toA zs x1.nd.data.length j)) (if_neg (by omega)).symm (by repeat (first | exact Prm.nil _ | exact Rem.here _ _ | apply Rem.there | apply Prm.cons)) (.cons rfl (.cons rfl (.cons rfl (.cons rfl (.cons rfl (.cons rfl (.cons rfl (.cons rfl (.cons rfl (.cons rfl (.cons rfl .nil)))))))))))
            ·replace hc11 := of_decide_eq_false hc11
             refine CW_skip ?_
             first
              | exact QW_cut (Pl.sk 1 (((toA zs x1.nd.data.length j : Nat) : Int) - ((plA zs x1.nd.data.length j : Nat) : Int)) (toA zs x1.nd.data.length j)) (if_pos ⟨by omega, by omega⟩).symm (by repeat (first | exact Prm.nil _ | exact Rem.here _ _ | apply Rem.there | apply Prm.cons)) (.cons rfl (.cons rfl (.cons rfl (.cons rfl (.cons rfl (.cons rfl (.cons rfl (.cons rfl (.cons rfl (.cons rfl (.cons rfl .nil)))))))))))
              | exact QW_cut (Pl.sk 0 (((toA zs x1.nd.data.length j : Nat) : Int)) (toA zs x1.nd.data.length j)) (if_neg (by omega)).symm (by repeat (first | exact Prm.nil _ | exact Rem.here _ _ | apply Rem.there | apply Prm.cons)) (.cons rfl (.cons rfl (.cons rfl (.cons rfl (.cons rfl (.cons rfl (.cons rfl (.cons rfl (.cons rfl (.cons rfl (.cons rfl .nil)))))))))))
           ·replace hg10 := of_decide_eq_false hg10
            refine RW_skip rfl rfl rfl ?_
            refine RW_skip rfl rfl rfl ?_
            refine RW_skip rfl rfl rfl ?_
            refine RW_skip rfl rfl rfl ?_
            refine RW_l (Yl_pick_f rfl rfl) ?_
            refine RW_lv (ks := [14, 15, 18, 19, 20, 21, 23, 24, 25, 95, 96, 97, 117]) ?_
            refine CW_false rfl ?_
            refine CW_skip ?_
            first
             | exact QW_cut (Pl.sk 1 (((toA zs x1.nd.data.length j : Nat) : Int) - ((plA zs x1.nd.data.length j : Nat) : Int)) (toA zs x1.nd.data.length j)) (if_pos ⟨by omega, by omega⟩).symm (by repeat (first | exact Prm.nil _ | exact Rem.here _ _ | apply Rem.there | apply Prm.cons)) (.cons rfl (.cons rfl (.cons rfl (.cons rfl (.cons rfl (.cons rfl (.cons rfl (.cons rfl (.cons rfl (.cons rfl (.cons rfl .nil)))))))))))
             | exact QW_cut (Pl.sk 0 (((toA zs x1.nd.data.length j : Nat) : Int)) (toA zs x1.nd.data.length j)) (if_neg (by omega)).symm (by repeat (first | exact Prm.nil _ | exact Rem.here _ _ | apply Rem.there | apply Prm.cons)) (.cons rfl (.cons rfl (.cons rfl (.cons rfl (.cons rfl (.cons rfl (.cons rfl (.cons rfl (.cons rfl (.cons rfl (.cons rfl .nil)))))))))))
          ·rintro s hs
           refine CW_sr ?_
           refine RW_m ?_
           refine RW_l (Yl_shr (c := ((zs.getD j 0 / 16 : Nat) : Int)) rfl rfl om_ shr4) ?_
           refine RW_l (Yl_conv (c := ((zs.getD j 0 / 16 : Nat) : Int)) rfl in_47 in_3 (wi64 om_ om_)) ?_
           refine RW_l (Yl_rem (c := ((zs.getD j 0 / 16 % 500 : Nat) : Int)) rfl rfl om_ (remN (zs.getD j 0 / 16) 500)) ?_
           refine RW_l (Yl_add (c := ((rdA zs j : Nat) : Int)) rfl rfl (by rw [wi64 om_ om_]; unfold rdA; omega)) ?_
           refine RW_a ?_
           refine RW_lv (ks := [14, 15, 18, 19, 20, 24, 25, 26, 95, 96, 97]) ?_
           refine CW_sr ?_
           refine RW_m ?_
           refine RW_h (Yh_loadAll (b := b25) (k := 5) (T := 53) (fz := (0, 0)) (l := s.cells) rfl ag_53 mem_ (Pl.len5 _)) ?_
           refine RW_m ?_
           refine RW_l (Yl_build (cs := (Pl.rd (rdA zs j)).cells) pl_53 ze_53 rfl rfl) ?_
           refine RW_fx rfl rfl rfl (Fx_lit (vs := [.agg s.cells.toArray, .agg (Pl.rd (rdA zs j)).cells.toArray]) (css := [s.cells, (Pl.rd (rdA zs j)).cells]) (cs := s.cells ++ (Pl.rd (rdA zs j)).cells) sl_51 ze_53 rfl rfl rfl rfl rfl (by intro c hc; simp only [List.mem_cons, List.not_mem_nil, or_false] at hc; rcases hc with rfl | rfl <;> exact Pl.len5 _) (by simp)) ?_
           rintro _ _ ⟨b132, rfl, rfl⟩
           refine RW_fx rfl rfl rfl (Fx_appTG (xs := ((skP zs x1.nd.data.length j).map Pl.cells).flatten) (r := rs0) (news := s.cells ++ (Pl.rd (rdA zs j)).cells) (T := 53) (n := 2 * j) (cap := cs) (m := 2) (c := 2) rfl rfl sl_51 by_53 ze_53 rfl (.here _ _) rem_ hlen (by rw [len_pl, skP_len]) (by rw [List.length_append, Pl.len5, Pl.len5]) (by intro u hu; rcases List.mem_append.1 hu with hu | hu <;> exact Pl.one5 _ u hu) om_ om_ om_) ?_
           rintro _ _ ⟨gs', cs', rs', rfl, hlen', rfl⟩
           refine RW_m ?_
           refine RW_m ?_
           refine RW_fx rfl rfl rfl (Fx_litS (vs := [nv (toA zs x1.nd.data.length j)]) sl_29 ze_3 rfl rfl rfl rfl rfl) ?_
           rintro _ _ ⟨b136, rfl, rfl⟩
           refine RW_fx rfl rfl rfl (Fx_appT (xs := nats (tosA zs x1.nd.data.length j)) (r := rp0) (news := [nv (toA zs x1.nd.data.length j)]) (T := 3) (n := j) (cap := cp) (m := 1) (c := 1) (z0 := .int .i64 0) (q := 1) rfl rfl sl_29 by_3 ze_3 rfl rfl (.here _ _) rem_ hlp (by rw [List.length_map, tosA_len, Nat.mul_one]) rfl (by intro u hu; rw [List.mem_singleton.1 hu]; rfl) om_ om_ om_) ?_
           rintro _ _ ⟨gp', cp', rp', rfl, hlp', rfl⟩
           refine RW_a ?_
           refine RW_a ?_
           refine RW_lv (ks := [14, 15, 18, 19, 20, 24, 26, 95, 96, 97]) ?_
           refine CW_region ?_
           refine RW_m ?_
           refine RW_l (Yl_len rfl sl_23) ?_
           refine RW_m ?_
           refine RW_m ?_
           refine RW_l (Yl_add (c := ((toA zs x1.nd.data.length j + rdA zs j : Nat) : Int)) rfl rfl (wi64 om_ om_)) ?_
           refine RW_l (Yl_minN (m := x1.nd.data.length) (n := toA zs x1.nd.data.length j + rdA zs j) rfl rfl) ?_
           refine RW_a ?_
           refine RW_nil ?_
           refine QW_normal_block ?_
           refine (QW_lv (ks := [14, 15, 18, 19, 20, 21, 95, 96, 97]) ?_)
           refine CW_region ?_
           refine RW_l (Yl_add (c := ((j + 1 : Nat) : Int)) rfl rfl (wi64 om_ om_)) ?_
           refine RW_m ?_
           refine RW_nil ?_
           refine QW_dropB (e := (b25, _)) rem_ ?_
           rw [flat_sk zs x1.nd.data.length j hs, tosA_succ]
           rw [flat_sk zs x1.nd.data.length j hs] at hlen'
           rw [tosA_succ] at hlp'
           exact QW_round (j + 1, gs', cs', rs', gp', cp', rp') ⟨by simp only; omega, hlen', hlp'⟩ (by simp only; omega) prm_ (.cons rfl (.cons rfl (.cons rfl (.cons rfl (.cons rfl (.cons (by rw [plA_succ zs hpos]; rfl) kp_))))))
         ·replace hc9 := of_decide_eq_false hc9
          refine CW_exit ?_
          refine QW_exit_then ?_
          refine QW_exit_then ?_
          refine QW_exit_block ?_
          refine (QW_lv (ks := [14, 15, 18, 19, 20]) ?_)
          refine CW_seq ?_
          have hjn : j = nA := by omega
          subst hjn
          have hst20 := Steps_pl (T := T) (four := four) (st := st) (u := u) (T0 := T0) (fz0 := fz0) hp hno hok hbad hout om_ hN1 gI gs cs en kk he1 rs0 he2 hkk0 he3 hU x1.nd.data (by rw [hx]) (skP zs x1.nd.data.length j) (2 * j) (skP_len _ _ _) (skP_plan zs hpos j) om_
          refine CW_region ?_
          refine RW_m ?_
          refine RW_m ?_
          refine RW_m ?_
          refine RW_fx rfl rfl rfl (Fx_call ok_20 (vs := [.slice (some ⟨gI, 0, none⟩) (nmF4 four ns) (nmF4 four ns), nv en, .slice (some ⟨gs, 0, none⟩) (2 * j) cs]) rfl (Pick.cons rem_ (Pick.cons rem_ (Pick.cons rem_ (Pick.cons rem_ (Pick.nil _))))) hst20) ?_
          rintro _ _ ⟨_, ⟨gR, cR, rR, rs, b2, cap2, r2, RB, rfl, hrsl, hoR, hall, rfl⟩, rfl⟩
          simp only [List.cons_append, List.append_assoc, List.nil_append]
          refine RW_m ?_
          refine RW_l (Yl_extract (v := osl gR (2 * j) cR) rfl rfl) ?_
          refine RW_l (Yl_extract (v := .slice (some ⟨b2, 0, none⟩) (nmF4 four ns) cap2) rfl rfl) ?_
          refine RW_l (Yl_extract (v := .bool true) rfl rfl) ?_
          refine RW_a ?_
          refine RW_a ?_
          refine RW_a ?_
          refine RW_lv (ks := [18, 19, 20, 27, 29]) ?_
          refine CW_seq ?_
          refine CW_sr ?_
          refine RW_m ?_
          refine RW_l (Yl_not rfl) ?_
          refine RW_m ?_
          refine RW_gy rfl rfl rfl (Yl.h (Yl_move rfl)) ?_
          refine RW_gy rfl rfl rfl (Yl.h (Yl_lenO rfl hoR sl_54)) ?_
          refine RW_gy rfl rfl rfl (Yl.h (Yl_move rfl)) ?_
          refine RW_gy rfl rfl rfl (Yl.h (Yl_len rfl sl_51)) ?_
          refine RW_gy rfl rfl rfl (Yl.h (Yl_neqB false rfl rfl (decide_eq_false (fun h => h rfl)))) ?_
          refine RW_l (Yl_pick_f rfl rfl) ?_
          refine RW_lv (ks := [18, 19, 20, 27, 161]) ?_
          refine CW_false rfl ?_
          refine (CW_skip (QW_lv (ks := [18, 19, 20, 27]) ?_))
          refine CW_seq ?_
          refine CW_seq ?_
          have hrs3 : ∀ y ∈ rs, y.length = 3 := by
           intro y hy
           obtain ⟨a, ha, rfl⟩ := List.mem_iff_getElem.1 hy
           obtain ⟨dv, h1, -⟩ := hall a om_
           rw [List.getD_eq_getElem?_getD, List.getElem?_eq_getElem ha] at h1
           rw [show rs[a] = _ from h1]; rfl
          refine CW_region ?_
          refine RW_m ?_
          refine RW_l (Yl_len rfl sl_29) ?_
          refine RW_m ?_
          refine RW_lv (ks := [18, 19, 27, 162, 163, 164]) ?_
          refine CW_block ?_
          refine CW_lp (σ := Nat) (fun i => [(18, x1.slice), (19, .slice (some ⟨gs, 0, none⟩) (2 * j) cs), (27, osl gR (2 * j) cR), (162, .slice (some ⟨gp, 0, none⟩) j cp), (163, nv j), (164, nv i)]) (fun _ => (b2, blk (bys (wrF4 four st ns) ++ r2) 5) :: (2, blk ps T) :: (0, Obj.cells [Value.iface U u].toArray T0 fz0) :: (gI, blk (bys (wrF4 four st ns)) 5) :: (gs, blk (((skP zs x1.nd.data.length j).map Pl.cells).flatten ++ rs0) 53) :: (oH gR (rs.flatten ++ rR) 58 ++ (RB ++ ((gp, blk (nats (tosA zs x1.nd.data.length j) ++ rp0) 3) :: (g, blk (nms ns ++ rn) 43) :: (nmsH ns ++ (D ++ F)))))) (fun i => i ≤ j) (fun i => j - i) 0 (Nat.zero_le _) ?_
          rintro i hi
          refine CW_sr ?_
          refine RW_l (Yl_lss rfl rfl) ?_
          refine RW_lv (ks := [18, 19, 27, 162, 163, 164, 165]) ?_
          refine CW_seq ?_
          refine CW_cond rfl (fun hc12 => ?_) (fun hc12 => ?_)
          ·replace hc12 := of_decide_eq_true hc12
           refine (CW_skip (QW_lv (ks := [18, 19, 27, 162, 163, 164]) ?_))
           refine CW_seq ?_
           refine CW_block ?_
           refine CW_seq ?_
           rcases gR with _ | gR
           ·exact absurd hoR.1 om_
           simp only [List.cons_append, List.nil_append]
           obtain ⟨hsa1, hsa2, hsa3⟩ := skP_at zs x1.nd.data.length j i om_
           obtain ⟨dv1, hdv1, hsl1⟩ := hall (2 * i) om_
           obtain ⟨dv2, hdv2, hsl2⟩ := hall (2 * i + 1) om_
           rw [hsa1, (skOf_row _ _ _ _ _ _).1, (skOf_row _ _ _ _ _ _).2] at hdv1
           rw [hsa2, hsa3] at hdv2 hsl2
           replace hsl2 : Sl RB dv2 ((x1.nd.data.drop (toA zs x1.nd.data.length i)).take (rdA zs i)) := hsl2
           obtain ⟨n2, hn2⟩ : ∃ n2, n2 = (Pl.rd (rdA zs i)).num x1.nd.data.length (toA zs x1.nd.data.length i) := ⟨_, rfl⟩
           obtain ⟨c2, hc2⟩ : ∃ c2, c2 = (Pl.rd (rdA zs i)).cod x1.nd.data.length (toA zs x1.nd.data.length i) := ⟨_, rfl⟩
           rw [← hn2, ← hc2] at hdv2
           have hdo1 : dv1.oneCell' = true := hsl1.one
           have hdo2 : dv2.oneCell' = true := hsl2.one
           have htl : toA zs x1.nd.data.length i < x1.nd.data.length := Nat.mod_lt _ hpos
           have hrl : rdA zs i ≤ 500 := by unfold rdA; omega
           refine CW_region ?_
           refine RW_m ?_
           refine RW_l (Yl_indexN (b := gp) (off := 0) (i := i) (o' := i) rfl rfl sl_29 om_ om_) ?_
           refine RW_h (Yh_load (v := nv (toA zs x1.nd.data.length i)) rfl sc_3 (by repeat (first | exact List.mem_append_right _ (List.Mem.head _) | exact List.mem_append_right _ (List.Mem.tail _ (List.Mem.head _)) | apply List.mem_cons_of_mem)) (tosA_at zs x1.nd.data.length om_ _)) ?_
           refine RW_a ?_
           refine RW_a ?_
           refine RW_lv (ks := [18, 19, 27, 30, 31, 162, 163, 164]) ?_
           refine CW_seq ?_
           refine CW_draw [] [(gR, blk (rs.flatten ++ rR) 58)] mixed sub_ ?_
           refine RD_l 0 rfl (Yl_move rfl) ?_
           refine RD_l 1 rfl (Yl_move rfl) ?_
           refine RD_l 2 rfl (Yl_mul (c := ((2 * i : Nat) : Int)) rfl rfl (mulN (a := 2) (b := i) om_)) ?_
           refine RD_l 3 rfl (Yl_indexN (b := gR) (off := 0) (i := 2 * i) (o' := 2 * i * 3) rfl rfl sl_54 om_ om_) ?_
           refine RD_l 5 rfl (Yl_move rfl) ?_
           refine RD_l 6 rfl (Yl_move rfl) ?_
           refine RD_l 7 rfl (Yl_mul (c := ((2 * i : Nat) : Int)) rfl rfl (mulN (a := 2) (b := i) om_)) ?_
           refine RD_l 8 rfl (Yl_add (c := ((2 * i + 1 : Nat) : Int)) rfl rfl (wi64 om_ om_)) ?_
           refine RD_l 9 rfl (Yl_indexN (b := gR) (off := 0) (i := 2 * i + 1) (o' := (2 * i + 1) * 3) rfl rfl sl_54 om_ om_) ?_
           refine RD_h (i := 4) #[true, true, true, true, false, true, true, true, true, true, true, true, true, false, false] rfl rfl rfl rfl kr_ (fun _ _ _ h => h) (Yh_loadE (cs := [dv1, nv (toA zs x1.nd.data.length i), nv 0]) rfl ag_58 mem_ (by rw [List.length_append, hoR.2]; omega) (by rw [chunk_at 3 _ _ _ hrs3 om_]; exact hdv1)) ?_
           refine RD_h (i := 10) #[true, true, true, true, true, true, true, true, true, true, false, true, true, true, false] rfl rfl rfl rfl kr_ (fun _ _ _ h => h) (Yh_loadE (cs := [dv2, nv n2, nv c2]) rfl ag_58 mem_ (by rw [List.length_append, hoR.2]; omega) (by rw [chunk_at 3 _ _ _ hrs3 om_]; exact hdv2)) ?_
           refine RD_two (i := 11) (j := 12) kr_ ?_ ?_
           ·skip
            refine RO_fx rfl rfl rfl rfl (Fx_alloc (zs := zs_58) ze_58 rfl) ?_
            rintro _ _ ⟨b32, rfl, rfl⟩
            refine ⟨Or.inr sub_, ?_⟩
            refine RD_one (i := 12) kr_ ?_
            refine RO_fx rfl rfl rfl rfl (Fx_alloc (zs := zs_58) ze_58 rfl) ?_
            rintro _ _ ⟨b33, rfl, rfl⟩
            refine ⟨Or.inr sub_, ?_⟩
            refine RD_one (i := 13) kr_ ?_
            refine RO_fx0 rfl rfl rfl (Fx_storeA (b := b32) (off := 0) (l := zs_58) (T := 58) (cs := [dv1, nv (toA zs x1.nd.data.length i), nv 0]) rfl rfl sz_58 (by intro u hu; simp only [List.mem_cons, List.not_mem_nil, or_false] at hu; rcases hu with hu | hu | hu <;> rw [hu]; exact hdo1; rfl; rfl) rep_ (Nat.le_refl 3)) ?_
            rintro _ _ rfl
            rw [spl_full _ _ (by rfl)]
            refine ⟨Or.inr sub_, ?_⟩
            refine RD_one (i := 14) kr_ ?_
            refine RO_fx0 rfl rfl rfl (Fx_storeA (b := b33) (off := 0) (l := zs_58) (T := 58) (cs := [dv2, nv n2, nv c2]) rfl rfl sz_58 (by intro u hu; simp only [List.mem_cons, List.not_mem_nil, or_false] at hu; rcases hu with hu | hu | hu <;> rw [hu]; exact hdo2; rfl; rfl) rep_ (Nat.le_refl 3)) ?_
            rintro _ _ rfl
            rw [spl_full _ _ (by rfl)]
            refine ⟨Or.inr sub_, ?_⟩
            refine (RD_done kr_ (QW_lv (ks := [18, 19, 27, 30, 31, 32, 33, 162, 163, 164]) ?_))
            refine CW_seq ?_
            refine CW_draw [] _ mixed (Sub.refl _) ?_
            refine RD_l 0 rfl (Yl_field rfl fo_58_2) ?_
            refine RD_h (i := 1) #[true, false, false, false, false, false, false, false, false, false, false, false, false, false, false, false, false, false, false, false, false, false, false, false, false, false, false, false, false, false] rfl rfl rfl rfl kr_ (fun _ _ _ h => h) (Yh_ld (v := nv 0) sc_3) ?_
            refine RD_l 2 rfl (Yl_neqB false rfl rfl (decide_eq_false (fun h => h rfl))) ?_
            refine RD_l 3 rfl (Yl_move rfl) ?_
            refine RD_l 4 rfl (Yl_field rfl fo_58_1) ?_
            refine RD_l 6 rfl (Yl_move rfl) ?_
            refine RD_h (i := 5) #[true, true, true, true, true, false, true, false, false, false, false, false, false, false, false, false, false, false, false, false, false, false, false, false, false, false, false, false, false, false] rfl rfl rfl rfl kr_ (fun _ _ _ h => h) (Yh_ld (v := nv (toA zs x1.nd.data.length i)) sc_2) ?_
            refine RD_l 7 rfl (Yl_neqB false rfl rfl (decide_eq_false (fun h => h rfl))) ?_
            refine RD_l 8 rfl (Yl_pick_f rfl rfl) ?_
            refine RD_l 9 rfl (Yl_move rfl) ?_
            refine RD_l 10 rfl (Yl_field rfl fo_58_0) ?_
            refine RD_l 12 rfl (Yl_move rfl) ?_
            refine RD_l 13 rfl (Yl_move rfl) ?_
            refine RD_l 14 rfl (Yl_move rfl) ?_
            refine RD_l 15 rfl (Yl_len rfl sl_23) ?_
            refine RD_l 16 rfl (Yl_move rfl) ?_
            refine RD_l 17 rfl (Yl_move rfl) ?_
            refine RD_l 18 rfl (Yl_move rfl) ?_
            refine RD_l 19 rfl (Yl_mul (c := ((2 * i : Nat) : Int)) rfl rfl (mulN (a := 2) (b := i) om_)) ?_
            refine RD_l 20 rfl (Yl_add (c := ((2 * i + 1 : Nat) : Int)) rfl rfl (wi64 om_ om_)) ?_
            refine RD_l 21 rfl (Yl_indexN (b := gs) (off := 0) (i := 2 * i + 1) (o' := (2 * i + 1) * 5) rfl rfl sl_51 om_ om_) ?_
            refine RD_l 22 rfl (Yl_field rfl fo_53_1) ?_
            refine RD_h (i := 11) #[true, true, true, true, true, true, true, true, true, true, true, false, true, true, true, true, true, true, true, true, true, true, true, true, true, true, true, false, false, false] rfl rfl rfl rfl kr_ (fun _ _ _ h => h) (Yh_ld (v := dv2) sc_23) ?_
            refine RD_h (i := 23) #[true, true, true, true, true, true, true, true, true, true, true, true, true, true, true, true, true, true, true, true, true, true, true, false, false, false, false, false, false, false] rfl rfl rfl rfl kr_ (fun _ _ _ h => h) (Yh_load (v := nv (rdA zs i)) rfl sc_3 mem_ (by rw [chunk_cell 5 _ _ (2 * i + 1) 1 (fun y hy => by obtain ⟨s, _, rfl⟩ := List.mem_map.1 hy; exact s.len5) (by rw [List.length_map, skP_len]; omega) om_ rfl, map_getD _ (by rw [skP_len]; omega), hsa2]; rfl)) ?_
            refine RD_l 24 rfl (Yl_add (c := ((toA zs x1.nd.data.length i + rdA zs i : Nat) : Int)) rfl rfl (wi64 om_ om_)) ?_
            refine RD_l 25 rfl (Yl_minN (m := x1.nd.data.length) (n := toA zs x1.nd.data.length i + rdA zs i) rfl rfl) ?_
            refine RD_l 26 rfl (Yl_cutN (l := toA zs x1.nd.data.length i) (h := min x1.nd.data.length (toA zs x1.nd.data.length i + rdA zs i)) rfl rfl rfl sl_23 om_ om_) ?_
            refine RD_one (i := 27) kr_ ?_
            refine RO_fx rfl rfl rfl rfl (Fx_callQ ok_21 (vs := [dv2, x1.cut (toA zs x1.nd.data.length i) (min x1.nd.data.length (toA zs x1.nd.data.length i + rdA zs i))]) (R := fun v => v = .bool true) rfl (pick_all _) (same_by _ dv2 (x1.cut (toA zs x1.nd.data.length i) (min x1.nd.data.length (toA zs x1.nd.data.length i + rdA zs i))) ((x1.nd.data.drop (toA zs x1.nd.data.length i)).take (rdA zs i)) (hsl2.by.more fun e he => (by repeat (first | exact List.mem_append_left _ he | apply List.mem_cons_of_mem))) (By.more (by have := Nm.cut_by hx1 hxm (a := toA zs x1.nd.data.length i) (z := min x1.nd.data.length (toA zs x1.nd.data.length i + rdA zs i)) om_ om_; rw [show (x1.nd.data.drop (toA zs x1.nd.data.length i)).take (rdA zs i) = (x1.nd.data.drop (toA zs x1.nd.data.length i)).take (min x1.nd.data.length (toA zs x1.nd.data.length i + rdA zs i) - toA zs x1.nd.data.length i) by rw [List.take_eq_take_iff, List.length_drop]; omega]; exact this) fun e he => (by repeat (first | exact List.mem_append_right _ (List.mem_cons_of_mem _ (List.mem_cons_of_mem _ (List.mem_append_left _ he))) | apply List.mem_cons_of_mem))))) ?_
            rintro _ _ ⟨rfl, rfl⟩
            refine ⟨Or.inr (Sub.refl _), ?_⟩
            refine RD_l 28 rfl (Yl_not rfl) ?_
            refine RD_l 29 rfl (Yl_pick_f rfl rfl) ?_
            refine (RD_done kr_ (QW_lv (ks := [18, 19, 27, 162, 163, 164, 209]) ?_))
            refine CW_false rfl ?_
            refine CW_skip ?_
            refine QW_normal_block ?_
            refine (QW_lv (ks := [18, 19, 27, 162, 163, 164]) ?_)
            refine CW_region ?_
            refine RW_l (Yl_add (c := ((i + 1 : Nat) : Int)) rfl rfl (wi64 om_ om_)) ?_
            refine RW_m ?_
            refine RW_nil ?_
            refine QW_dropB (e := (b32, _)) rem_ ?_
            refine QW_dropB (e := (b33, _)) rem_ ?_
            exact QW_rn (i + 1) om_ om_
           ·skip
            refine RO_fx rfl rfl rfl rfl (Fx_alloc (zs := zs_58) ze_58 rfl) ?_
            rintro _ _ ⟨b33, rfl, rfl⟩
            refine ⟨Or.inr sub_, ?_⟩
            refine RD_one (i := 11) kr_ ?_
            refine RO_fx rfl rfl rfl rfl (Fx_alloc (zs := zs_58) ze_58 rfl) ?_
            rintro _ _ ⟨b32, rfl, rfl⟩
            refine ⟨Or.inr sub_, ?_⟩
            refine RD_one (i := 13) kr_ ?_
            refine RO_fx0 rfl rfl rfl (Fx_storeA (b := b32) (off := 0) (l := zs_58) (T := 58) (cs := [dv1, nv (toA zs x1.nd.data.length i), nv 0]) rfl rfl sz_58 (by intro u hu; simp only [List.mem_cons, List.not_mem_nil, or_false] at hu; rcases hu with hu | hu | hu <;> rw [hu]; exact hdo1; rfl; rfl) rep_ (Nat.le_refl 3)) ?_
            rintro _ _ rfl
            rw [spl_full _ _ (by rfl)]
            refine ⟨Or.inr sub_, ?_⟩
            refine RD_one (i := 14) kr_ ?_
            refine RO_fx0 rfl rfl rfl (Fx_storeA (b := b33) (off := 0) (l := zs_58) (T := 58) (cs := [dv2, nv n2, nv c2]) rfl rfl sz_58 (by intro u hu; simp only [List.mem_cons, List.not_mem_nil, or_false] at hu; rcases hu with hu | hu | hu <;> rw [hu]; exact hdo2; rfl; rfl) rep_ (Nat.le_refl 3)) ?_
            rintro _ _ rfl
            rw [spl_full _ _ (by rfl)]
            refine ⟨Or.inr sub_, ?_⟩
            refine (RD_done kr_ (QW_lv (ks := [18, 19, 27, 30, 31, 32, 33, 162, 163, 164]) ?_))
            refine CW_seq ?_
            refine CW_draw [] _ mixed (Sub.refl _) ?_
            refine RD_l 0 rfl (Yl_field rfl fo_58_2) ?_
            refine RD_h (i := 1) #[true, false, false, false, false, false, false, false, false, false, false, false, false, false, false, false, false, false, false, false, false, false, false, false, false, false, false, false, false, false] rfl rfl rfl rfl kr_ (fun _ _ _ h => h) (Yh_ld (v := nv 0) sc_3) ?_
            refine RD_l 2 rfl (Yl_neqB false rfl rfl (decide_eq_false (fun h => h rfl))) ?_
            refine RD_l 3 rfl (Yl_move rfl) ?_
            refine RD_l 4 rfl (Yl_field rfl fo_58_1) ?_
            refine RD_l 6 rfl (Yl_move rfl) ?_
            refine RD_h (i := 5) #[true, true, true, true, true, false, true, false, false, false, false, false, false, false, false, false, false, false, false, false, false, false, false, false, false, false, false, false, false, false] rfl rfl rfl rfl kr_ (fun _ _ _ h => h) (Yh_ld (v := nv (toA zs x1.nd.data.length i)) sc_2) ?_
            refine RD_l 7 rfl (Yl_neqB false rfl rfl (decide_eq_false (fun h => h rfl))) ?_
            refine RD_l 8 rfl (Yl_pick_f rfl rfl) ?_
            refine RD_l 9 rfl (Yl_move rfl) ?_
            refine RD_l 10 rfl (Yl_field rfl fo_58_0) ?_
            refine RD_l 12 rfl (Yl_move rfl) ?_
            refine RD_l 13 rfl (Yl_move rfl) ?_
            refine RD_l 14 rfl (Yl_move rfl) ?_
            refine RD_l 15 rfl (Yl_len rfl sl_23) ?_
            refine RD_l 16 rfl (Yl_move rfl) ?_
            refine RD_l 17 rfl (Yl_move rfl) ?_
            refine RD_l 18 rfl (Yl_move rfl) ?_
            refine RD_l 19 rfl (Yl_mul (c := ((2 * i : Nat) : Int)) rfl rfl (mulN (a := 2) (b := i) om_)) ?_
            refine RD_l 20 rfl (Yl_add (c := ((2 * i + 1 : Nat) : Int)) rfl rfl (wi64 om_ om_)) ?_
            refine RD_l 21 rfl (Yl_indexN (b := gs) (off := 0) (i := 2 * i + 1) (o' := (2 * i + 1) * 5) rfl rfl sl_51 om_ om_) ?_
            refine RD_l 22 rfl (Yl_field rfl fo_53_1) ?_
            refine RD_h (i := 11) #[true, true, true, true, true, true, true, true, true, true, true, false, true, true, true, true, true, true, true, true, true, true, true, true, true, true, true, false, false, false] rfl rfl rfl rfl kr_ (fun _ _ _ h => h) (Yh_ld (v := dv2) sc_23) ?_
            refine RD_h (i := 23) #[true, true, true, true, true, true, true, true, true, true, true, true, true, true, true, true, true, true, true, true, true, true, true, false, false, false, false, false, false, false] rfl rfl rfl rfl kr_ (fun _ _ _ h => h) (Yh_load (v := nv (rdA zs i)) rfl sc_3 mem_ (by rw [chunk_cell 5 _ _ (2 * i + 1) 1 (fun y hy => by obtain ⟨s, _, rfl⟩ := List.mem_map.1 hy; exact s.len5) (by rw [List.length_map, skP_len]; omega) om_ rfl, map_getD _ (by rw [skP_len]; omega), hsa2]; rfl)) ?_
            refine RD_l 24 rfl (Yl_add (c := ((toA zs x1.nd.data.length i + rdA zs i : Nat) : Int)) rfl rfl (wi64 om_ om_)) ?_
            refine RD_l 25 rfl (Yl_minN (m := x1.nd.data.length) (n := toA zs x1.nd.data.length i + rdA zs i) rfl rfl) ?_
            refine RD_l 26 rfl (Yl_cutN (l := toA zs x1.nd.data.length i) (h := min x1.nd.data.length (toA zs x1.nd.data.length i + rdA zs i)) rfl rfl rfl sl_23 om_ om_) ?_
            refine RD_one (i := 27) kr_ ?_
            refine RO_fx rfl rfl rfl rfl (Fx_callQ ok_21 (vs := [dv2, x1.cut (toA zs x1.nd.data.length i) (min x1.nd.data.length (toA zs x1.nd.data.length i + rdA zs i))]) (R := fun v => v = .bool true) rfl (pick_all _) (same_by _ dv2 (x1.cut (toA zs x1.nd.data.length i) (min x1.nd.data.length (toA zs x1.nd.data.length i + rdA zs i))) ((x1.nd.data.drop (toA zs x1.nd.data.length i)).take (rdA zs i)) (hsl2.by.more fun e he => (by repeat (first | exact List.mem_append_left _ he | apply List.mem_cons_of_mem))) (By.more (by have := Nm.cut_by hx1 hxm (a := toA zs x1.nd.data.length i) (z := min x1.nd.data.length (toA zs x1.nd.data.length i + rdA zs i)) om_ om_; rw [show (x1.nd.data.drop (toA zs x1.nd.data.length i)).take (rdA zs i) = (x1.nd.data.drop (toA zs x1.nd.data.length i)).take (min x1.nd.data.length (toA zs x1.nd.data.length i + rdA zs i) - toA zs x1.nd.data.length i) by rw [List.take_eq_take_iff, List.length_drop]; omega]; exact this) fun e he => (by repeat (first | exact List.mem_append_right _ (List.mem_cons_of_mem _ (List.mem_cons_of_mem _ (List.mem_append_left _ he))) | apply List.mem_cons_of_mem))))) ?_
            rintro _ _ ⟨rfl, rfl⟩
            refine ⟨Or.inr (Sub.refl _), ?_⟩
            refine RD_l 28 rfl (Yl_not rfl) ?_
            refine RD_l 29 rfl (Yl_pick_f rfl rfl) ?_
            refine (RD_done kr_ (QW_lv (ks := [18, 19, 27, 162, 163, 164, 209]) ?_))
            refine CW_false rfl ?_
            refine CW_skip ?_
            refine QW_normal_block ?_
            refine (QW_lv (ks := [18, 19, 27, 162, 163, 164]) ?_)
            refine CW_region ?_
            refine RW_l (Yl_add (c := ((i + 1 : Nat) : Int)) rfl rfl (wi64 om_ om_)) ?_
            refine RW_m ?_
            refine RW_nil ?_
            refine QW_dropB (e := (b32, _)) rem_ ?_
            refine QW_dropB (e := (b33, _)) rem_ ?_
            exact QW_rn (i + 1) om_ om_
          ·replace hc12 := of_decide_eq_false hc12
           refine CW_exit ?_
           refine QW_exit_then ?_
           refine QW_exit_then ?_
           refine QW_exit_block ?_
           refine (QW_lv (ks := []) ?_)
           refine CW_sr ?_
           refine RW_a ?_
           refine RW_lv (ks := [12]) ?_
           refine CW_ret ?_
           first
            | exact QW_ret1 rfl rfl ((2, blk ps T) :: (0, Obj.cells [Value.iface U u].toArray T0 fz0) :: D) ⟨rfl, rfl⟩ (Prm.nil _)
            | (refine QW_sub (H' := (2, blk ps T) :: (0, Obj.cells [Value.iface U u].toArray T0 fz0) :: (D ++ F)) (.cons _ (.cons_cons _ (.cons_cons _ (.cons _ (List.sublist_append_right _ _))))) ?_; exact QW_ret1 rfl rfl ((2, blk ps T) :: (0, Obj.cells [Value.iface U u].toArray T0 fz0) :: D) ⟨rfl, rfl⟩ (Prm.nil _))
            | (refine QW_sub (H' := (2, blk ps T) :: (0, Obj.cells [Value.iface U u].toArray T0 fz0) :: (D ++ F)) (.cons _ (.cons_cons _ (.cons_cons _ (.cons _ (.cons _ (List.Sublist.trans (List.Sublist.trans (.cons _ (.cons _ (List.sublist_append_right _ _))) (List.sublist_append_right _ _)) (List.sublist_append_right _ _))))))) ?_; exact QW_ret1 rfl rfl ((2, blk ps T) :: (0, Obj.cells [Value.iface U u].toArray T0 fz0) :: D) ⟨rfl, rfl⟩ (Prm.nil _))

end Go.Proofs.YtgoddcicbpjknaaDoor

/-! FnSeek, as its card states it: whatever the numbers, the bytes, the choice, the step, the turn and the places, the call returns true and leaves all that was there as it was. -/
set_option maxRecDepth 100000
namespace Go.Proofs.YtgoddcicbpjknaaDoor.fnSeek
open Go
open Cfb
open Go.ChangeShapes Go.WideShapes Go.ChangeAt Go.RowKit Go.Clock
theorem contract (H : Type) (enc : TypeId × Value → H) (W : World) (base : Nat) (args : Array Value) (ds gs : List (DataW H)) (before : List MemPlace)
    (hval : ∀ (j : Nat) t v, Tryd.f9.params[j]? = some t → args[j]? = some v → Value.okWide Tryd.prog W .any base t v)
    (hW : DataW.Whole enc Tryd.prog Tryd.f9.params.toList Rows.fnSeekSpec.vars false W args.toList ds gs before) (hL : laidMetH Tryd.prog Rows.fnSeekRow.laid W) (hS : W.ShapedOpen Tryd.prog) :
    Calls Tryd.prog 9 args W fun e W' => ∃ v, e = .returned v ∧ W'.os = W.os ∧ Rows.fnSeekSpec.post enc Tryd.prog Tryd.f9 false true false false W args v W' := by
  have hW' := hW
  obtain ⟨p, q, hA0, hV, rfl, hfz, hnd⟩ := hW
  have hA : DataW.TrodAll enc Tryd.prog W 0 (fun _ => true) true Tryd.f9.params.toList args.toList ds p := hA0
  have hlt : ∀ x ∈ p, x.block < W.heap.size := fun x hx => by simpa using hW'.lt x (List.mem_append_left _ hx)
  have again := fun W' hb => trodAll_again (W' := W') hb _ _ _ _ hA (by rw [Tryd.params9]; kernel_rfl) hlt
  rw [Tryd.params9] at hA hval
  obtain ⟨v0, vs0, d0, ds0, p0, q0, hargs, rfl, rfl, h0, r0⟩ := trodAll_cons hA
  obtain ⟨v1, vs1, d1, ds1, p1, q1, rfl, rfl, rfl, h1, r1⟩ := trodAll_cons r0
  obtain ⟨v2, vs2, d2, ds2, p2, q2, rfl, rfl, rfl, h2, r2⟩ := trodAll_cons r1
  obtain ⟨v3, vs3, d3, ds3, p3, q3, rfl, rfl, rfl, h3, r3⟩ := trodAll_cons r2
  obtain ⟨v4, vs4, d4, ds4, p4, q4, rfl, rfl, rfl, h4, r4⟩ := trodAll_cons r3
  obtain ⟨v5, vs5, d5, ds5, p5, q5, rfl, rfl, rfl, h5, r5⟩ := trodAll_cons r4
  obtain ⟨rfl, rfl, rfl⟩ := trodAll_nil r5
  obtain rfl : args = #[v0, v1, v2, v3, v4, v5] := by cases args; simp_all
  obtain ⟨rfl, rfl⟩ := trodVars_none hV
  obtain ⟨a2, rfl, rfl, rfl⟩ := open_bool Tryd.underlying4 (hval 2 4 v2 rfl rfl) h2
  obtain ⟨a3, rfl, rfl, rfl, w3⟩ := open_int Tryd.underlying5 (hval 3 5 v3 rfl rfl) h3
  obtain ⟨a4, rfl, rfl, rfl, w4⟩ := open_int Tryd.underlying5 (hval 4 5 v4 rfl rfl) h4
  obtain ⟨T, hT⟩ := tab_block (props_tab2 hL) hS
  obtain ⟨U, u, T0, hU, hE⟩ := eof_block hL hS
  obtain ⟨s0, n0, c0, rfl, hc0, hs0⟩ := open_nums un_22 un_67 cells67 (hval 0 22 v0 rfl rfl) h0
  obtain ⟨s1, n1, c1, rfl, hc1, hs1⟩ := open_bytes (hval 1 23 v1 rfl rfl) h1
  obtain ⟨x3, rfl, b3⟩ := u8_nat w3
  obtain ⟨x4, rfl, b4⟩ := u8_nat w4
  obtain ⟨s5, n5, c5, rfl, hc5, hs5⟩ := open_nums un_61 un_47 cells47 (hval 5 61 v5 rfl rfl) h5
  have fin : Calls Tryd.prog 9 #[.slice s0 n0 c0, .slice s1 n1 c1, .bool a2, .int .u8 (x3 : Int), .int .u8 (x4 : Int), .slice s5 n5 c5] W fun e w' => e = .returned (.bool true) ∧ Grown W w' ∧ Below W.heap.size W w' := by
    obtain ⟨N1, y1, z1, k1⟩ := nums_end (W := W) (L := [(2, blk propsV T), (0, blk [.iface U u] T0)]) (by intro p hp; simp only [List.mem_cons, List.not_mem_nil, or_false] at hp; rcases hp with rfl | rfl; exact hT; exact hE) (by simp) hs0
    obtain ⟨N2, y2, z2, k2⟩ := bytes_end y1 z1 hs1
    obtain ⟨N3, zs, y3, z3, hzl, k3⟩ := u16s_end y2 z2 hs5
    have e0 : (([(2, blk propsV T), (0, blk [.iface U u] T0)] ++ N1) ++ N2) ++ N3 = (2, blk propsV T) :: (0, Obj.cells [Value.iface U u].toArray T0 (0, 0)) :: ((N1 ++ N2) ++ N3) := by simp
    have k1' := (k1.mono (List.sublist_append_left _ N2)).mono (List.sublist_append_left _ N3)
    have k2' := k2.mono' (H' := (([(2, blk propsV T), (0, blk [.iface U u] T0)] ++ N1) ++ N2) ++ N3) (fun x hx => List.mem_append_left _ hx)
    rw [e0] at y3 z3 k3 k2' k1'
    exact (FnSeek_ct n0 c0 n1 c1 x3 x4 s0 s1 a2 b3 b4 propsV T propsV_ok U u hU T0 (0, 0) ((N1 ++ N2) ++ N3) k1' k2' hc0 n5 c5 s5 zs hzl k3).rowB y3 z3
  refine fin.mono fun e W' ⟨he, hg, hb⟩ => ?_
  subst he
  exact ⟨_, rfl, hg.1.1, ⟨_, _, _, [], _, [], hW', trodAll_cons_mk (shut_bool Tryd.underlying4 _) trodAll_mk0, again W' hb, rfl, hg.frame _, fun h => by cases h⟩⟩
/-- A world for the witness. -/
noncomputable def laidWorld (os : Os) : World := World.laidAll Tryd.prog os Rows.fnSeekRow.laid
theorem laid_met (os : Os) : laidMet Tryd.prog Rows.fnSeekRow.laid ((laidWorld os).forCall (fun _ _ => 0) ⟨#[], #[.slice none 0 0, .slice none 0 0, .bool false, .int .u8 0, .int .u8 0, .slice none 0 0], []⟩).memory := laidMet_laidAll _ kr_ kr_
theorem reads (os : Os) {H : Type} (enc : TypeId × Value → H) : ∃ places, DataW.whole enc Tryd.prog ((laidWorld os).forCall (fun _ _ => 0) ⟨#[], #[.slice none 0 0, .slice none 0 0, .bool false, .int .u8 0, .int .u8 0, .slice none 0 0], []⟩).memory Tryd.f9.params.toList Rows.fnSeekSpec.vars false (#[.slice none 0 0, .slice none 0 0, .bool false, .int .u8 0, .int .u8 0, .slice none 0 0] : Array Value).toList 8 = some ([.nil, .nil, .lit (.bool false), .lit (.int .u8 0), .lit (.int .u8 0), .nil], [], places) :=
  ⟨[], by kernel_rfl⟩
theorem lifted (os : Os) (started : os.Started) (H : Type) (enc : TypeId × Value → H) (F : Stop.Interp) :
    ReturnsInHanded {} Tryd.checked os 9 .any ((OpenSpec.ofChange Rows.fnSeekSpec).preRow enc Tryd.prog Tryd.f9 Rows.fnSeekRow.domain false Rows.fnSeekRow.laid) (((OpenSpec.ofChange Rows.fnSeekSpec).at F).post enc Tryd.prog Tryd.f9 false true false false) := by
  obtain ⟨places, hx⟩ := reads os enc
  refine returnsInHanded_of_row (C := Tryd.checked) (s := OpenSpec.ofChange Rows.fnSeekSpec) own started kr_ Tryd.func9
    (witness_row_at (enc := enc) (C := Tryd.checked) false (laidWorld os) #[.slice none 0 0, .slice none 0 0, .bool false, .int .u8 0, .int .u8 0, .slice none 0 0] (World.laidAll_os _ _ _) (by kernel_rfl) (by kernel_rfl) (by kernel_rfl)
      (OpenSpec.preRow_of_cond 8 hx kr_ (fun k hk => by cases hk) kr_ (laid_met os))) ?_
  intro W base args ds gs before hval hW _ _ _ hL hS _
  exact (contract H enc W base args ds gs before hval hW hL hS).mono fun _ _ ⟨v, he, _, hp⟩ => ⟨v, he, hp⟩
/-- The same, where the row lets time pass. -/
theorem liftedT (os : Os) (started : os.Started) (H : Type) (enc : TypeId × Value → H) (F : Stop.Interp) :
    ReturnsInHanded { calm := true } Tryd.checked os 9 .any (fun w args => (Rows.fnSeekSpec.pre enc Tryd.prog Tryd.f9 [] false w args ∧ laidMetH Tryd.prog Rows.fnSeekRow.laid w) ∧ sizedMet enc Tryd.prog Tryd.f9 (OpenSpec.ofChange Rows.fnSeekSpec) false w args)
      ((OpenSpec.ofChange Rows.fnSeekSpec).postWith enc Tryd.prog Tryd.f9 F (outsideKept [.timePasses]) false true false) := by
  refine returns_of_change (C := Tryd.checked) (X := fun w _ => laidMetH Tryd.prog Rows.fnSeekRow.laid w) (fun _ _ _ hh h => h.of_heap hh) own started kr_ Tryd.func9
    (witness_at (enc := enc) (C := Tryd.checked) (X := fun w _ => laidMetH Tryd.prog Rows.fnSeekRow.laid w) (World.laidAll Tryd.prog os Rows.fnSeekRow.laid) #[.slice none 0 0, .slice none 0 0, .bool false, .int .u8 0, .int .u8 0, .slice none 0 0] 8 (World.laidAll_os _ _ _) (World.shaped_of_ZipB (by kernel_rfl) (by kernel_rfl)) (by kernel_rfl) (by kernel_rfl) (by kernel_rfl)
      (by rw [MakeChecks.laidMetH_plain _ _ _ kr_]; exact laidMet_laidAll _ kr_ kr_)) ?_
  intro W base args ds gs before hval hW _ _ hL hS
  refine (contract H enc W base args ds gs before hval hW hL hS).mono ?_
  rintro e W' ⟨v, he, ho, hp⟩
  have hos : { W' with os := W.os } = W' := by rw [← ho]
  refine ⟨v, he, by rw [hos]; exact hp, by rw [ho]; exact Later.refl _⟩
theorem said : Rows.FnSeekSaid := by
  first
    | exact OpenClaim.holds_of_cond 9 Tryd.f9 rfl rfl rfl rfl rfl rfl rfl ⟨rfl, rfl, rfl, rfl, rfl⟩ rfl rfl rfl rfl rfl (by kernel_rfl) Tryd.func9 (by kernel_rfl)
        (of_decide_eq_true kr_) (by unfold Func.isWrapper; first | (rw [if_pos (by decide +kernel)]; kernel_rfl) | (rw [if_neg (by decide +kernel)]; exact ⟨rfl, rfl⟩))
        (fun os started H enc _ F => by rw [OpenClaim.pre_eq_preRow]; exact lifted os started H enc F)
    | exact holds_of_wide_time 9 Tryd.f9 rfl rfl rfl rfl rfl rfl rfl ⟨rfl, rfl, rfl, rfl, rfl⟩ rfl rfl rfl rfl rfl (by kernel_rfl) Tryd.func9 (by kernel_rfl)
        (of_decide_eq_true kr_) (by unfold Func.isWrapper; first | (rw [if_pos (by decide +kernel)]; kernel_rfl) | (rw [if_neg (by decide +kernel)]; exact ⟨rfl, rfl⟩))
        (fun os started H enc _ F => liftedT os started H enc F)
theorem plain (f : FuncId) (fn : Func) (hf : Tryd.pinned.checked.prog.funcNamed "loop.example/pub-g03453/laws.FnSeek" = some f) (hfn : Tryd.pinned.checked.prog.funcs[f]? = some fn) :
    true = Tryd.pinned.checked.prog.looks [] ∧ ∀ (j : Nat) t, fn.params[j]? = some t → Tryd.pinned.checked.prog.wantsStandIn t = false := by
  obtain rfl : f = 9 := Option.some.inj ((show Tryd.prog.funcNamed "loop.example/pub-g03453/laws.FnSeek" = some 9 by kernel_rfl).symm.trans hf) |>.symm
  obtain rfl : fn = Tryd.f9 := (Option.some.inj (Tryd.func9.symm.trans hfn)).symm
  refine ⟨by kernel_rfl, fun j t ht => ?_⟩
  rw [Tryd.params9] at ht
  have hm : t ∈ [22, 23, 4, 5, 5, 61] := by simpa using Array.mem_of_getElem? ht
  have hall : ([22, 23, 4, 5, 5, 61].all fun u => !Tryd.prog.wantsStandIn u) = true := by kernel_rfl
  exact (show Tryd.prog.wantsStandIn t = false by simpa using List.all_eq_true.1 hall t hm)
theorem card : Rows.FnSeekCardSaid :=
  Claim7.holds_tied_plain_at .later [] _ _ _ _ said (fun _ h => by cases h) kr_ (fun _ h => by cases h) fnSeek_row_tie rfl ⟨rfl, rfl⟩ kr_ rfl plain kr_
#print axioms card
end Go.Proofs.YtgoddcicbpjknaaDoor.fnSeek
