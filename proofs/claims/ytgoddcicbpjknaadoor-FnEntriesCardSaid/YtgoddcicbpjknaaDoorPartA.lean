/- What the card leans on: walks of the program's functions, and plain facts on files (part 1). -/
import Derived.Tactics
import Derived.Orders
import Derived.KernelRfl
import Derived.NoCompiler
import Derived.Laws.Sem
import Derived.Laws.World
import Derived.Test.YtgoddcicbpjknaaDoorProg
import Derived.IntWalk
import Derived.Laws.Cells
import Derived.Laws.MakeOwn
import Derived.Laws.CopyOwn
import Derived.OrdersHeld
import Derived.MapKept
set_option maxRecDepth 20000
set_option maxHeartbeats 4000000

namespace Go.Proofs.YtgoddcicbpjknaaDoor
theorem om_ {p : Prop} (h : p := by omega) : p := h
theorem kr_ {p : Prop} (h : p := by kernel_rfl) : p := h
end Go.Proofs.YtgoddcicbpjknaaDoor
namespace Cfb
theorem om_ {p : Prop} (h : p := by omega) : p := h
theorem kr_ {p : Prop} (h : p := by kernel_rfl) : p := h
end Cfb

namespace Go.Proofs.YtgoddcicbpjknaaDoor
open Go

abbrev Heap := List (Nat × Obj)
abbrev Fra := List (Nat × Value)

def freeO : Obj → Bool
  | .cells _ _ fz => Nat.beq fz.1 0 && Nat.beq fz.2 0
  | _ => true
structure HA (E w : World) (H : Heap) : Prop where
  os : w.os = E.os
  tape : w.tape = E.tape
  output : w.output = E.output
  nodup : (H.map Prod.fst).Nodup
  mem : ∀ p ∈ H, w.heap[p.1]? = some p.2
  size : E.heap.size ≤ w.heap.size
  fresh : ∀ (b : Nat) (o : Obj), E.heap.size ≤ b → w.heap[b]? = some o → freeO o = true

def look (t : Nat) : Fra → Option Value
  | [] => none
  | (k, v) :: r => match Nat.beq t k with | true => some v | false => look t r

def ev (L : Fra) : Operand → Option Value
  | .tmp t => look t L
  | .const v => some v
  | .global g => some (.pointer (some ⟨g, 0, none⟩))
  | .func f => some (.func (.func f) #[] #[])

structure FA (n : Nat) (a : Act) (L : Fra) : Prop where
  size : a.tmps.size = n
  defers : a.defers = []
  mem : ∀ k v, look k L = some v → a.tmps[k]? = some v

theorem FA.eval {n : Nat} {a : Act} {L : Fra} (h : FA n a L) {x : Operand} {v : Value} (hx : ev L x = some v) : a.eval x = v := by
  cases x with
  | tmp t => have := h.mem t v hx; simp [Act.eval, this]
  | const c => simpa [ev, Act.eval] using hx
  | global g => simpa [ev, Act.eval] using hx
  | func f => simpa [ev, Act.eval] using hx

theorem FA.put {n : Nat} {a : Act} {L : Fra} (h : FA n a L) {d : Nat} (hd : d < n) (v : Value) : FA n (a.put (some d) v) ((d, v) :: L) := by
  refine ⟨by simp [Act.put, h.size], by simp [Act.put, h.defers], ?_⟩
  intro k u hk
  simp only [look] at hk
  by_cases e : k = d
  · subst e
    have : Nat.beq k k = true := Nat.beq_refl k
    rw [this] at hk
    simp at hk
    subst hk
    have hs : k < a.tmps.size := by rw [h.size]; exact hd
    simp [Act.put, hs]
  have hb : Nat.beq k d = false := by
    cases hh : Nat.beq k d with
    | false => rfl
    | true => exact absurd (Nat.eq_of_beq_eq_true hh) e
  rw [hb] at hk
  have := h.mem k u hk
  simp only [Act.put]
  rw [Array.getElem?_setIfInBounds_ne om_]
  exact this

theorem FA.sub {n : Nat} {a : Act} {L L' : Fra} (h : FA n a L) (hs : ∀ k v, look k L' = some v → look k L = some v) : FA n a L' :=
  ⟨h.size, h.defers, fun k v hk => h.mem k v (hs k v hk)⟩

theorem HA.perm {E w : World} {H H' : Heap} (h : HA E w H) (hp : H.Perm H') : HA E w H' :=
  ⟨h.os, h.tape, h.output, (hp.map Prod.fst).nodup_iff.1 h.nodup, fun p hm => h.mem p (hp.mem_iff.2 hm), h.size, h.fresh⟩

theorem HA.sub {E w : World} {H H' : Heap} (h : HA E w H) (hp : H'.Sublist H) : HA E w H' :=
  ⟨h.os, h.tape, h.output, h.nodup.sublist (hp.map Prod.fst), fun p hm => h.mem p (hp.subset hm), h.size, h.fresh⟩

theorem HA.drew {E w : World} {H : Heap} (h : HA E w H) : HA E { w with drawn := w.drawn + 1 } H := ⟨h.os, h.tape, h.output, h.nodup, h.mem, h.size, h.fresh⟩

theorem HA.lt {E w : World} {H : Heap} (h : HA E w H) {p : Nat × Obj} (hm : p ∈ H) : p.1 < w.heap.size := by
  have := h.mem p hm
  rcases Nat.lt_or_ge p.1 w.heap.size with hl | hl
  · exact hl
  simp [Array.getElem?_eq_none hl] at this

theorem HA.alloc {E w : World} {H : Heap} (h : HA E w H) (o : Obj) (ho : freeO o = true := by rfl) : HA E { w with heap := w.heap.push o } ((w.heap.size, o) :: H) := by
  refine ⟨h.os, h.tape, h.output, ?_, ?_, by have := h.size; simp; omega, ?_⟩
  · simp only [List.map_cons, List.nodup_cons]
    refine ⟨fun hm => ?_, h.nodup⟩
    obtain ⟨p, hp, e⟩ := List.mem_map.1 hm
    have := h.lt hp
    omega
  · intro p hp
    rcases List.mem_cons.1 hp with rfl | hp
    · simp
    have := h.lt hp
    have hm := h.mem p hp
    simp only [Array.getElem?_push]
    rw [if_neg om_]
    exact hm
  intro b o' hb ho'
  simp only [Array.getElem?_push] at ho'
  split at ho'
  · cases ho'; exact ho
  exact h.fresh b o' hb ho'

theorem HA.cell {E w : World} {H : Heap} (h : HA E w H) {b : Nat} {cs : Array Value} {T : TypeId} {fz : Nat × Nat} (hm : (b, Obj.cells cs T fz) ∈ H) (off : Nat) :
    w.cell? ⟨b, off, none⟩ = cs[off]? := by
  have := h.mem _ hm
  simp [World.cell?, this]

theorem HA.free {E w : World} {H : Heap} (h : HA E w H) {b : Nat} {cs : Array Value} {T : TypeId} (hm : (b, Obj.cells cs T (0, 0)) ∈ H) (off : Nat) :
    w.frozen? ⟨b, off, none⟩ = false := by
  have := h.mem _ hm
  simp [World.frozen?, this]

theorem HA.setCell {E w : World} {H : Heap} {b : Nat} {cs : Array Value} {T : TypeId} {fz : Nat × Nat} (h : HA E w ((b, Obj.cells cs T fz) :: H)) (off : Nat) (v : Value) :
    HA E (w.setCell ⟨b, off, none⟩ v) ((b, Obj.cells (cs.setIfInBounds off v) T fz) :: H) := by
  refine ⟨h.os, h.tape, h.output, h.nodup, ?_, by have := h.size; simp [World.setCell]; omega, ?_⟩
  rotate_left
  · intro b' o' hb' ho'
    simp only [World.setCell, Array.getElem?_modify] at ho'
    split at ho'
    · rename_i e
      subst e
      have hb := h.mem (b, Obj.cells cs T fz) (by simp)
      simp only at hb
      have hf := h.fresh b _ hb' hb
      simp only [hb, Option.map_some, Option.some.injEq] at ho'
      rw [← ho']; exact hf
    exact h.fresh b' o' hb' ho'
  intro p hp
  have hb := h.mem (b, Obj.cells cs T fz) (by simp)
  rcases List.mem_cons.1 hp with rfl | hp
  · simp only [World.setCell, Array.getElem?_modify]
    simp only at hb
    simp [hb]
  have hne : p.1 ≠ b := by
    have := h.nodup
    simp only [List.map_cons, List.nodup_cons] at this
    intro e
    exact this.1 (e ▸ List.mem_map_of_mem hp)
  have hm := h.mem p (List.mem_cons_of_mem _ hp)
  simp only [World.setCell, Array.getElem?_modify]
  rw [if_neg om_]
  exact hm

def front : Nat → Heap → Heap
  | _, [] => []
  | 0, H => H
  | k + 1, x :: H => match front k H with | [] => [x] | y :: r => y :: x :: r

inductive Rem : Heap → Nat × Obj → Heap → Prop
  | here (x : Nat × Obj) (H : Heap) : Rem (x :: H) x H
  | there (z : Nat × Obj) {x : Nat × Obj} {H R : Heap} (h : Rem H x R) : Rem (z :: H) x (z :: R)
theorem Rem.perm {H R : Heap} {x : Nat × Obj} (h : Rem H x R) : H.Perm (x :: R) := by
  induction h with
  | here x H => exact .refl _
  | there z h ih => exact (ih.cons z).trans (.swap _ _ _)
theorem Rem.mem {H R : Heap} {x : Nat × Obj} (h : Rem H x R) : x ∈ H := h.perm.mem_iff.2 (by simp)

inductive Pick : Heap → Heap → Heap → Prop
  | nil (H : Heap) : Pick H [] H
  | cons {H R es F : Heap} {e : Nat × Obj} (h : Rem H e R) (k : Pick R es F) : Pick H (e :: es) F
theorem Pick.perm {H es F : Heap} (h : Pick H es F) : H.Perm (es ++ F) := by
  induction h with
  | nil H => exact .refl _
  | cons h k ih => exact h.perm.trans (ih.cons _)
inductive Prm : Heap → Heap → Prop
  | nil (H : Heap) : Prm H H
  | cons {H R T : Heap} {e : Nat × Obj} (h : Rem H e R) (k : Prm R T) : Prm H (e :: T)
theorem Prm.perm {H T : Heap} (h : Prm H T) : H.Perm T := by
  induction h with
  | nil H => exact .refl _
  | cons h k ih => exact h.perm.trans (ih.cons _)
theorem Prm.of_eq {H T : Heap} (h : H = T) : Prm H T := h ▸ .nil _
inductive Keep (L : Fra) : List Nat → Fra → Prop
  | nil : Keep L [] []
  | cons {k : Nat} {ks : List Nat} {v : Value} {L' : Fra} (h : look k L = some v) (r : Keep L ks L') : Keep L (k :: ks) ((k, v) :: L')
theorem Keep.sub {L L' : Fra} {ks : List Nat} (h : Keep L ks L') : ∀ k v, look k L' = some v → look k L = some v := by
  induction h with
  | nil => intro k v h; simp [look] at h
  | cons h r ih =>
    intro k v hk
    simp only [look] at hk
    split at hk
    · rename_i e
      have := Nat.eq_of_beq_eq_true e
      subst this
      simp at hk; subst hk; exact h
    exact ih k v hk

section judgements
variable {P : Program} {E : World} {n : Nat} {ops : Array Oper} {L : Fra} {H : Heap} {Q : Exit → Act → World → Prop}

def RW (P : Program) (E : World) (n : Nat) (ops : Array Oper) (L : Fra) (H : Heap) (rest : List Oper) (Q : Exit → Act → World → Prop) : Prop :=
  ∀ a w, FA n a L → HA E w H → wpList P ops Q rest a w
def CW (P : Program) (E : World) (n : Nat) (L : Fra) (H : Heap) (c : Code) (Q : Exit → Act → World → Prop) : Prop :=
  ∀ a w, FA n a L → HA E w H → c.wp P Q a w
def QW (E : World) (n : Nat) (L : Fra) (H : Heap) (e : Exit) (Q : Exit → Act → World → Prop) : Prop :=
  ∀ a w, FA n a L → HA E w H → Q e a w

def Yl (P : Program) (L : Fra) (o : Oper) (v : Value) : Prop := ∀ n a w, FA n a L → (execOp a.eval o).run P w = .ok (.value v) w
def Yh (P : Program) (E : World) (L : Fra) (H : Heap) (o : Oper) (v : Value) : Prop := ∀ n a w, FA n a L → HA E w H → (execOp a.eval o).run P w = .ok (.value v) w
def Fx (P : Program) (E : World) (L : Fra) (H : Heap) (o : Oper) (R : Value → Heap → Prop) : Prop :=
  ∀ n a w (next : Act → World → Prop) (Q : Exit → Act → World → Prop), FA n a L → HA E w H →
    (∀ v w' H', R v H' → HA E w' H' → next (a.put o.dst v) w') → o.wp P a w next Q

theorem Yl.h {o : Oper} {v : Value} (h : Yl P L o v) : Yh P E L H o v := fun n a w hf _ => h n a w hf
theorem Yh.fx {o : Oper} {v : Value} (h : Yh P E L H o v) : Fx P E L H o (fun u H' => u = v ∧ H' = H) := by
  intro n a w next Q hf hh k
  simp only [Oper.wp, h n a w hf hh, Oper.upon]
  exact k _ _ _ ⟨rfl, rfl⟩ hh

theorem RW_fx {o : Oper} {d : Nat} {rest : List Oper} {R : Value → Heap → Prop} (hd : o.dst = some d) (hg : o.guard = none) (hn : Nat.blt d n = true)
    (hy : Fx P E L H o R) (k : ∀ v H', R v H' → RW P E n ops ((d, v) :: L) H' rest Q) : RW P E n ops L H (o :: rest) Q := by
  intro a w hf hh
  refine wpList_plain hg fun K hK => hy n a w K Q hf hh fun v w' H' hR hh' => hK _ _ ?_
  rw [hd]
  exact k v H' hR _ _ (hf.put (by simpa [Nat.blt_eq] using hn) v) hh'

theorem RW_fx0 {o : Oper} {rest : List Oper} {R : Value → Heap → Prop} (hd : o.dst = none) (hg : o.guard = none)
    (hy : Fx P E L H o R) (k : ∀ v H', R v H' → RW P E n ops L H' rest Q) : RW P E n ops L H (o :: rest) Q := by
  intro a w hf hh
  refine wpList_plain hg fun K hK => hy n a w K Q hf hh fun v w' H' hR hh' => hK _ _ ?_
  rw [hd]
  exact k v H' hR _ _ hf hh'

theorem RW_y {o : Oper} {d : Nat} {v : Value} {rest : List Oper} (hd : o.dst = some d) (hg : o.guard = none) (hn : Nat.blt d n = true)
    (hy : Yh P E L H o v) (k : RW P E n ops ((d, v) :: L) H rest Q) : RW P E n ops L H (o :: rest) Q :=
  RW_fx hd hg hn hy.fx (by rintro _ _ ⟨rfl, rfl⟩; exact k)

def guardIs (ops : Array Oper) (L : Fra) (o : Oper) : Option Bool :=
  match o.guard with
  | none => some true
  | some (j, want) => match (ops[j]?).bind (·.dst) with
    | some d => match look d L with
      | some (.bool b) => some (b == want)
      | some (.tuple _) => some false
      | _ => none
    | none => none

theorem wanted_of {o : Oper} {a : Act} {b : Bool} (hf : FA n a L) (h : guardIs ops L o = some b) : Region.wanted o (yielded ops a.tmps) = b := by
  unfold guardIs at h
  unfold Region.wanted
  cases hg : o.guard with
  | none => simp [hg] at h; simp [h]
  | some p =>
    obtain ⟨j, want⟩ := p
    simp only [hg] at h
    cases hd : (ops[j]?).bind (·.dst) with
    | none => simp [hd] at h
    | some d =>
      simp only [hd] at h
      cases hl : look d L with
      | none => simp [hl] at h
      | some v =>
        have := hf.mem d v hl
        cases v <;> simp [hl] at h <;> simp [yielded, hd, this, ← h]
        all_goals (rename_i x; cases x <;> cases want <;> rfl)

theorem RW_gfx {o : Oper} {d : Nat} {rest : List Oper} {R : Value → Heap → Prop} (hd : o.dst = some d) (hg : guardIs ops L o = some true) (hn : Nat.blt d n = true)
    (hy : Fx P E L H o R) (k : ∀ v H', R v H' → RW P E n ops ((d, v) :: L) H' rest Q) : RW P E n ops L H (o :: rest) Q := by
  intro a w hf hh
  refine wpList_step fun K hK => ?_
  rw [if_pos (wanted_of hf hg)]
  refine hy n a w K Q hf hh fun v w' H' hR hh' => hK _ _ ?_
  rw [hd]
  exact k v H' hR _ _ (hf.put (by simpa [Nat.blt_eq] using hn) v) hh'
theorem RW_gy {o : Oper} {d : Nat} {v : Value} {rest : List Oper} (hd : o.dst = some d) (hg : guardIs ops L o = some true) (hn : Nat.blt d n = true)
    (hy : Yh P E L H o v) (k : RW P E n ops ((d, v) :: L) H rest Q) : RW P E n ops L H (o :: rest) Q :=
  RW_gfx hd hg hn hy.fx (by rintro _ _ ⟨rfl, rfl⟩; exact k)
theorem RW_skip {o : Oper} {d : Nat} {rest : List Oper} (hd : o.dst = some d) (hg : guardIs ops L o = some false) (hn : Nat.blt d n = true)
    (k : RW P E n ops ((d, undef) :: L) H rest Q) : RW P E n ops L H (o :: rest) Q := by
  intro a w hf hh
  refine wpList_step fun K hK => ?_
  rw [if_neg (by rw [wanted_of hf hg]; simp)]
  refine hK _ _ ?_
  rw [hd]
  exact k _ _ (hf.put (by simpa [Nat.blt_eq] using hn) undef) hh

theorem RW_bool (d : Nat) {b : Bool} {rest : List Oper} (hd : look d L = some (.bool b)) (ht : b = true → RW P E n ops ((d, .bool true) :: L) H rest Q) (hf' : b = false → RW P E n ops ((d, .bool false) :: L) H rest Q) : RW P E n ops L H rest Q := by
  intro a w hf hh
  have key : ∀ c : Bool, b = c → FA n a ((d, .bool c) :: L) := by
    intro c e
    refine hf.sub ?_
    intro k v hk
    simp only [look] at hk
    split at hk
    · rename_i e2
      have := Nat.eq_of_beq_eq_true e2
      subst this
      rw [hd, e]; exact hk
    exact hk
  cases b with
  | true => exact ht rfl a w (key _ rfl) hh
  | false => exact hf' rfl a w (key _ rfl) hh
theorem RW_nil (h : QW E n L H .normal Q) : RW P E n ops L H [] Q := fun a w hf hh => wpList_nil (h a w hf hh)
theorem CW_region {id : Nat} {l : List Oper} (h : RW P E n l.toArray L H l Q) : CW P E n L H (.region id l.toArray false) Q :=
  fun a w hf hh => wp_region_lit (h a w hf hh)
theorem CW_seq {x y : Code} (h : CW P E n L H x (Exit.then (y.wp P Q) Q)) : CW P E n L H (.seq x y) Q := fun a w hf hh => wp_seq (h a w hf hh)
theorem QW_then {y : Code} (h : CW P E n L H y Q) : QW E n L H .normal (Exit.then (y.wp P Q) Q) := h
theorem CW_heap {c : Code} {H' : Heap} (hp : H.Perm H') (h : CW P E n L H' c Q) : CW P E n L H c Q := fun a w hf hh => h a w hf (hh.perm hp)
theorem CW_drop {c : Code} {H' : Heap} (hp : H'.Sublist H) (h : CW P E n L H' c Q) : CW P E n L H c Q := fun a w hf hh => h a w hf (hh.sub hp)
theorem CW_cond {c : Operand} {x y : Code} {b : Bool} (hc : ev L c = some (.bool b)) (ht : b = true → CW P E n L H x Q) (hf' : b = false → CW P E n L H y Q) :
    CW P E n L H (.cond c x y) Q := fun a w hf hh => wp_cond_split (hf.eval hc) (fun e => ht e a w hf hh) (fun e => hf' e a w hf hh)
theorem CW_true {c : Operand} {x y : Code} (hc : ev L c = some (.bool true)) (h : CW P E n L H x Q) : CW P E n L H (.cond c x y) Q := fun a w hf hh => wp_cond_true (hf.eval hc) (h a w hf hh)
theorem CW_false {c : Operand} {x y : Code} (hc : ev L c = some (.bool false)) (h : CW P E n L H y Q) : CW P E n L H (.cond c x y) Q := fun a w hf hh => wp_cond_false (hf.eval hc) (h a w hf hh)
theorem CW_skip (h : QW E n L H .normal Q) : CW P E n L H .skip Q := fun a w hf hh => wp_skip (h a w hf hh)
theorem CW_ret (h : QW E n L H .ret Q) : CW P E n L H .ret Q := fun a w hf hh => wp_ret (h a w hf hh)
theorem CW_exit {id : Nat} (h : QW E n L H (.exit id) Q) : CW P E n L H (.exit id) Q := fun a w hf hh => wp_exit (h a w hf hh)
theorem CW_block {id : Nat} {c : Code} (h : CW P E n L H c (Exit.inBlock id Q)) : CW P E n L H (.block id c) Q := fun a w hf hh => wp_block (h a w hf hh)
theorem QW_ret_then {K : Act → World → Prop} (h : QW E n L H .ret Q) : QW E n L H .ret (Exit.then K Q) := h
theorem QW_exit_then {K : Act → World → Prop} {id : Nat} (h : QW E n L H (.exit id) Q) : QW E n L H (.exit id) (Exit.then K Q) := h
theorem QW_normal_block {id : Nat} (h : QW E n L H .normal Q) : QW E n L H .normal (Exit.inBlock id Q) := h
theorem QW_exit_block {id : Nat} (h : QW E n L H .normal Q) : QW E n L H (.exit id) (Exit.inBlock id Q) := fun a w hf hh => by simp only [Exit.inBlock, if_true]; exact h a w hf hh
theorem QW_exit_past {id id' : Nat} (hne : Nat.beq id' id = false) (h : QW E n L H (.exit id') Q) : QW E n L H (.exit id') (Exit.inBlock id Q) := fun a w hf hh => by
  have : id' ≠ id := fun e => by subst e; simp [Nat.beq_refl] at hne
  simp only [Exit.inBlock, this, if_false]; exact h a w hf hh

theorem CW_loop {σ : Type} {c : Code} (Ls : σ → Fra) (Hs : σ → Heap) (I : σ → Prop) (μ : σ → Nat) {ks : List Nat} (s0 : σ) (hI : I s0) (hH : Prm H (Hs s0)) (hL : Keep L ks (Ls s0))
    (round : ∀ s, I s → CW P E n (Ls s) (Hs s) c (Exit.then (fun a' w' => ∃ s', (I s' ∧ μ s' < μ s) ∧ FA n a' (Ls s') ∧ HA E w' (Hs s')) Q)) : CW P E n L H (.loop c) Q := by
  intro a w hf hh
  replace hh := hh.perm hH.perm
  intro b k cs
  have key : ∀ m s a w, μ s = m → I s → FA n a (Ls s) → HA E w (Hs s) →
      ∃ e a' w', Q e a' w' ∧ Arrives P (lone (b.at a (.code c :: .inLoop c :: k)) cs w) b k cs e a' w' := by
    intro m
    induction m using Nat.strongRecOn with
    | _ m ih =>
      intro s a w hm hs hf hh
      obtain ⟨e, a₁, w₁, hq, harr⟩ := round s hs a w hf hh b (.inLoop c :: k) cs
      cases e with
      | normal =>
        obtain ⟨s', ⟨hI', hlt⟩, hf', hh'⟩ := hq
        obtain ⟨e₂, a₂, w₂, hq₂, harr₂⟩ := ih (μ s') (hm ▸ hlt) s' a₁ w₁ rfl hI' hf' hh'
        exact ⟨e₂, a₂, w₂, hq₂, .of_steps (Steps.trans harr (.one step_inLoop)) harr₂⟩
      | exit id => exact ⟨_, a₁, w₁, hq, .pass (x := .inLoop c) rfl (fun _ _ => .inl (by simp)) harr⟩
      | goto l => exact ⟨_, a₁, w₁, hq, .pass (x := .inLoop c) rfl (fun _ _ => .inl (by simp)) harr⟩
      | ret => exact ⟨_, a₁, w₁, hq, .pass (x := .inLoop c) rfl (fun _ _ => .inl (by simp)) harr⟩
      | panic ch => exact ⟨_, a₁, w₁, hq, .pass (x := .inLoop c) rfl (fun _ _ => .inl (by simp)) harr⟩
      | outgrown => exact ⟨_, a₁, w₁, hq, .pass (x := .inLoop c) rfl (fun _ _ => .inl (by simp)) harr⟩
  obtain ⟨e, a', w', hq, harr⟩ := key _ s0 a w rfl hI (hf.sub hL.sub) hh
  exact ⟨e, a', w', hq, .of_steps (.one step_loop) harr⟩

theorem QW_round {σ : Type} {Ls : σ → Fra} {Hs : σ → Heap} {I : σ → Prop} {μ : σ → Nat} {m : Nat} {ks : List Nat} (s' : σ) (hI : I s') (hm : μ s' < m) (hH : Prm H (Hs s')) (hL : Keep L ks (Ls s')) :
    QW E n L H .normal (Exit.then (fun a' w' => ∃ s', (I s' ∧ μ s' < m) ∧ FA n a' (Ls s') ∧ HA E w' (Hs s')) Q) :=
  fun _ _ hf hh => ⟨s', ⟨hI, hm⟩, hf.sub hL.sub, hh.perm hH.perm⟩

theorem CW_cut {σ : Type} {x y : Code} (Ls : σ → Fra) (Hs : σ → Heap) (I : σ → Prop)
    (hx : CW P E n L H x (Exit.then (fun a' w' => ∃ s, I s ∧ FA n a' (Ls s) ∧ HA E w' (Hs s)) Q)) (hy : ∀ s, I s → CW P E n (Ls s) (Hs s) y Q) : CW P E n L H (.seq x y) Q := by
  intro a w hf hh
  refine wp_seq (wp_mono (hx a w hf hh) ?_)
  intro e a' w' h
  cases e with
  | normal => obtain ⟨s, hI, hf', hh'⟩ := h; exact hy s hI a' w' hf' hh'
  | _ => exact h
theorem QW_cut {σ : Type} {Ls : σ → Fra} {Hs : σ → Heap} {I : σ → Prop} {ks : List Nat} (s : σ) (hI : I s) (hH : Prm H (Hs s)) (hL : Keep L ks (Ls s)) :
    QW E n L H .normal (Exit.then (fun a' w' => ∃ s, I s ∧ FA n a' (Ls s) ∧ HA E w' (Hs s)) Q) :=
  fun _ _ hf hh => ⟨s, hI, hf.sub hL.sub, hh.perm hH.perm⟩

def Done (E : World) (F : Heap) (R : Value → Heap → Prop) : Ending → World → Prop :=
  fun e w' => ∃ v post, e = .returned v ∧ R v post ∧ HA E w' (post ++ F)
def Ct (P : Program) (f : FuncId) (args : List Value) (pre : Heap) (R : Value → Heap → Prop) : Prop :=
  ∀ E F w, HA E w (pre ++ F) → Calls P f args.toArray w (Done E F R)
theorem Ct.mono {P : Program} {f : FuncId} {args : List Value} {pre : Heap} {R R' : Value → Heap → Prop} (h : Ct P f args pre R) (hr : ∀ v p, R v p → R' v p) : Ct P f args pre R' :=
  fun E F w hh => (h E F w hh).mono fun _ _ ⟨v, post, he, hR, ha⟩ => ⟨v, post, he, hr _ _ hR, ha⟩

def numL : Nat → List Value → Fra
  | _, [] => []
  | i, v :: r => (i, v) :: numL (i + 1) r

theorem look_numL (vs : List Value) : ∀ (i k : Nat) (v : Value), look k (numL i vs) = some v → i ≤ k ∧ vs[k - i]? = some v := by
  induction vs with
  | nil => intro i k v h; simp [numL, look] at h
  | cons u r ih =>
    intro i k v h
    simp only [numL, look] at h
    split at h
    · rename_i e
      have := Nat.eq_of_beq_eq_true e
      subst this
      simp at h; subst h; simp
    obtain ⟨h1, h2⟩ := ih (i + 1) k v h
    refine ⟨by omega, ?_⟩
    have : k - i = (k - (i + 1)) + 1 := by omega
    rw [this]; simpa using h2

theorem Ct_of {f : FuncId} {fn : Func} {c : Code} {args : List Value} {m : Nat} {pre : Heap} {R : Value → Heap → Prop} (hf : P.funcs[f]? = some fn) (hb : fn.body = some c) (hm : fn.ntmps = m) (hs : Nat.ble args.length m = true)
    (h : ∀ E F, CW P E m (numL 0 args) (pre ++ F) c (bodyPost P fn (Done E F R))) : Ct P f args pre R := by
  intro E F w hh
  refine calls_of_wp hf hb (h E F _ _ ?_ hh)
  have hs' : args.length ≤ m := Nat.le_of_ble_eq_true hs
  refine ⟨by simp [hm]; omega, rfl, ?_⟩
  intro k v hk
  obtain ⟨_, h2⟩ := look_numL args 0 k v hk
  simp only [Nat.sub_zero] at h2
  have hl : k < args.length := by
    rcases Nat.lt_or_ge k args.length with hl | hl
    · exact hl
    simp [List.getElem?_eq_none hl] at h2
  simp only [Array.getElem?_append, List.size_toArray, hl, if_true, List.getElem?_toArray]
  exact h2

theorem QW_ret1 {fn : Func} {t : Tmp} {F : Heap} {v : Value} {R : Value → Heap → Prop} (hr : fn.results = #[.tmp t]) (hv : look t L = some v) (post : Heap) (hR : R v post) (hH : Prm H (post ++ F)) :
    QW E n L H .ret (bodyPost P fn (Done E F R)) := by
  intro a w hf hh
  refine ⟨hf.defers, v, ?_, v, post, rfl, hR, hh.perm hH.perm⟩
  rw [results_tmp hr]
  have := hf.mem t v hv
  simp [this]
theorem QW_ret2 {fn : Func} {t u : Tmp} {F : Heap} {x y : Value} {R : Value → Heap → Prop} (hr : fn.results = #[.tmp t, .tmp u]) (hx : look t L = some x) (hy : look u L = some y) (post : Heap) (hR : R (.tuple #[x, y]) post) (hH : Prm H (post ++ F)) :
    QW E n L H .ret (bodyPost P fn (Done E F R)) := by
  intro a w hf hh
  refine ⟨hf.defers, _, ?_, _, post, rfl, hR, hh.perm hH.perm⟩
  rw [results_tmp2 hr]
  simp [hf.mem t x hx, hf.mem u y hy]
theorem QW_end0 {fn : Func} {F : Heap} {R : Value → Heap → Prop} (hr : fn.results = #[]) (post : Heap) (hR : R (.tuple #[]) post) (hH : Prm H (post ++ F)) :
    QW E n L H .normal (bodyPost P fn (Done E F R)) := by
  intro a w hf hh
  exact ⟨hf.defers, _, results_none hr _ _ _, _, post, rfl, hR, hh.perm hH.perm⟩
theorem QW_ret0 {fn : Func} {F : Heap} {R : Value → Heap → Prop} (hr : fn.results = #[]) (post : Heap) (hR : R (.tuple #[]) post) (hH : Prm H (post ++ F)) :
    QW E n L H .ret (bodyPost P fn (Done E F R)) := by
  intro a w hf hh
  exact ⟨hf.defers, _, results_none hr _ _ _, _, post, rfl, hR, hh.perm hH.perm⟩
end judgements

section
variable {P : Program} {E : World} {L : Fra} {H : Heap} {dst : Option Tmp} {ty : TypeId} {pos : String} {aft : Array Edge} {gd : Option (Nat × Bool)}

theorem wi64 {x : Int} (h0 : -9223372036854775808 ≤ x) (h1 : x ≤ 9223372036854775807) : IntKind.i64.wrap x = x := IntWalk.i64_in _ ⟨h0, h1⟩
theorem wu8 {x : Int} (h0 : 0 ≤ x) (h1 : x ≤ 255) : IntKind.u8.wrap x = x := IntWalk.u8_in _ ⟨h0, h1⟩
theorem wu16 {x : Int} (h0 : 0 ≤ x) (h1 : x ≤ 65535) : IntKind.u16.wrap x = x := IntWalk.u16_in _ ⟨h0, h1⟩
theorem wu32 {x : Int} (h0 : 0 ≤ x) (h1 : x ≤ 4294967295) : IntKind.u32.wrap x = x := IntWalk.u32_in _ ⟨h0, h1⟩
theorem wu64 {x : Int} (h0 : 0 ≤ x) (h1 : x ≤ 18446744073709551615) : IntKind.u64.wrap x = x := IntWalk.u64_in _ ⟨h0, h1⟩
theorem wi32 {x : Int} (h0 : -2147483648 ≤ x) (h1 : x ≤ 2147483647) : IntKind.i32.wrap x = x := IntWalk.i32_in _ ⟨h0, h1⟩
/-! ### tables -/
def Scal (P : Program) (t : TypeId) : Bool :=
  match P.underlying t with
  | none => false
  | some (.struct _) => false
  | some (.array _ _) => false
  | _ => true
def fieldOff (P : Program) (s : TypeId) (f : Nat) : Option Nat :=
  match P.underlying s with
  | some (.struct fs) => match fs[f]? with
    | some fd => match P.info? fd.type with
      | some i => if i.size = 0 then none else some fd.offset
      | none => none
    | none => none
  | _ => none
def slOf (P : Program) (t : TypeId) : Option (TypeId × Nat) :=
  match P.underlying t with
  | some (.slice e) => (P.info? e).map fun i => (e, i.size)
  | _ => none
def arOf (P : Program) (t : TypeId) : Option (Nat × Nat) :=
  match P.underlying t with
  | some (.array m e) => (P.info? e).map fun i => (m, i.size)
  | _ => none
def agOf (P : Program) (t : TypeId) : Option Nat :=
  match P.underlying t with
  | some (.struct _) => (P.info? t).map (·.size)
  | some (.array _ _) => (P.info? t).map (·.size)
  | _ => none
def zeOf (P : Program) (t : TypeId) : Option Value := (P.info? t).bind (·.zero)
def inOf (P : Program) (t : TypeId) : Option IntKind := match P.underlying t with | some (.int k) => some k | _ => none

/-! ### the plain ones -/
theorem Yl_move {x : Operand} {v : Value} (h : ev L x = some v) : Yl P L ⟨dst, .move x, ty, pos, aft, gd⟩ v := by
  intro n a w hf
  simp [execOp, hf.eval h]
theorem Yl_assign {x : Operand} {v : Value} (h : ev L x = some v) : Yl P L ⟨dst, .assign x, ty, pos, aft, gd⟩ v := by
  intro n a w hf
  simp [execOp, hf.eval h]
theorem Yl_pick_t {c x y : Operand} {v : Value} (hc : ev L c = some (.bool true)) (hx : ev L x = some v) : Yl P L ⟨dst, .pick c x y, ty, pos, aft, gd⟩ v := by
  intro n a w hf
  simp [execOp, hf.eval hc, hf.eval hx, asBool]
theorem Yl_pick_f {c x y : Operand} {v : Value} (hc : ev L c = some (.bool false)) (hx : ev L y = some v) : Yl P L ⟨dst, .pick c x y, ty, pos, aft, gd⟩ v := by
  intro n a w hf
  simp [execOp, hf.eval hc, hf.eval hx, asBool]
theorem Yl_nilCheck {x : Operand} {p : Addr} (h : ev L x = some (.pointer (some p))) : Yl P L ⟨dst, .nilCheck x, ty, pos, aft, gd⟩ (.pointer (some p)) := by
  intro n a w hf
  simp [execOp, hf.eval h]
theorem Yl_not {x : Operand} {b : Bool} {t : TypeId} (h : ev L x = some (.bool b)) : Yl P L ⟨dst, .unOp .not t x, ty, pos, aft, gd⟩ (.bool (!b)) := by
  intro n a w hf
  simp [execOp, hf.eval h, Op.unary]
theorem Yl_extract {x : Operand} {vs : List Value} {i : Nat} {v : Value} (h : ev L x = some (.tuple vs.toArray)) (hv : vs[i]? = some v) : Yl P L ⟨dst, .extract x i, ty, pos, aft, gd⟩ v := by
  intro n a w hf
  simp [execOp, hf.eval h, Instr.extract, hv]
theorem Yl_makeFunc {f : Fn} {fs cs : List Operand} {us vs : List Value} (h1 : fs.map (ev L) = us.map some) (h2 : cs.map (ev L) = vs.map some) :
    Yl P L ⟨dst, .makeFunc f fs.toArray cs.toArray, ty, pos, aft, gd⟩ (.func f us.toArray vs.toArray) := by
  intro n a w hf
  have key : ∀ (xs : List Operand) (ys : List Value), xs.map (ev L) = ys.map some → xs.map a.eval = ys := by
    intro xs
    induction xs with
    | nil => intro ys h; cases ys <;> simp_all
    | cons x r ih =>
      intro ys h
      cases ys with
      | nil => simp at h
      | cons y s =>
        simp only [List.map_cons, List.cons.injEq] at h ⊢
        exact ⟨hf.eval h.1, ih s h.2⟩
  simp [execOp, Instr.makeFunc, key _ _ h1, key _ _ h2]

/-! ### numbers -/
theorem Yl_add {x y : Operand} {k : IntKind} {m n c : Int} {t u : TypeId} (hx : ev L x = some (.int k m)) (hy : ev L y = some (.int k n)) (hw : k.wrap (m + n) = c) :
    Yl P L ⟨dst, .binOp .add t x y u, ty, pos, aft, gd⟩ (.int k c) := by
  intro _ a w hf
  simp [execOp, hf.eval hx, hf.eval hy, eqGuard, binOp, Op.intArith, hw]
theorem Yl_sub {x y : Operand} {k : IntKind} {m n c : Int} {t u : TypeId} (hx : ev L x = some (.int k m)) (hy : ev L y = some (.int k n)) (hw : k.wrap (m - n) = c) :
    Yl P L ⟨dst, .binOp .sub t x y u, ty, pos, aft, gd⟩ (.int k c) := by
  intro _ a w hf
  simp [execOp, hf.eval hx, hf.eval hy, eqGuard, binOp, Op.intArith, hw]
theorem Yl_mul {x y : Operand} {k : IntKind} {m n c : Int} {t u : TypeId} (hx : ev L x = some (.int k m)) (hy : ev L y = some (.int k n)) (hw : k.wrap (m * n) = c) :
    Yl P L ⟨dst, .binOp .mul t x y u, ty, pos, aft, gd⟩ (.int k c) := by
  intro _ a w hf
  simp [execOp, hf.eval hx, hf.eval hy, eqGuard, binOp, Op.intArith, hw]
theorem Yl_quo {x y : Operand} {k : IntKind} {m n c : Int} {t u : TypeId} (hx : ev L x = some (.int k m)) (hy : ev L y = some (.int k n)) (h0 : n ≠ 0) (hw : k.wrap (m.tdiv n) = c) :
    Yl P L ⟨dst, .binOp .quo t x y u, ty, pos, aft, gd⟩ (.int k c) := by
  intro _ a w hf
  simp [execOp, hf.eval hx, hf.eval hy, eqGuard, binOp, Op.intDiv, hw, h0]
theorem Yl_rem {x y : Operand} {k : IntKind} {m n c : Int} {t u : TypeId} (hx : ev L x = some (.int k m)) (hy : ev L y = some (.int k n)) (h0 : n ≠ 0) (hw : m.tmod n = c) :
    Yl P L ⟨dst, .binOp .rem t x y u, ty, pos, aft, gd⟩ (.int k c) := by
  intro _ a w hf
  simp [execOp, hf.eval hx, hf.eval hy, eqGuard, binOp, Op.intDiv, hw, h0]
theorem Yl_bits {op : BinOp} {x y : Operand} {k : IntKind} {m n c : Int} {t u : TypeId} (hx : ev L x = some (.int k m)) (hy : ev L y = some (.int k n)) (ho : op = .and ∨ op = .or ∨ op = .xor)
    (hw : ∀ w : World, (Op.intBits op k m n).run P w = .ok (.int k c) w) :
    Yl P L ⟨dst, .binOp op t x y u, ty, pos, aft, gd⟩ (.int k c) := by
  intro _ a w hf
  rcases ho with rfl | rfl | rfl <;> simp [execOp, hf.eval hx, hf.eval hy, eqGuard, binOp, hw]
theorem Yl_shl {x y : Operand} {k j : IntKind} {m n c : Int} {t u : TypeId} (hx : ev L x = some (.int k m)) (hy : ev L y = some (.int j n)) (h0 : 0 ≤ n) (hw : k.wrap (m * 2 ^ (min n.toNat k.bits)) = c) :
    Yl P L ⟨dst, .binOp .shl t x y u, ty, pos, aft, gd⟩ (.int k c) := by
  intro _ a w hf
  have : ¬ n < 0 := by omega
  simp [execOp, hf.eval hx, hf.eval hy, eqGuard, binOp, Op.shift, hw, this]
theorem Yl_shr {x y : Operand} {k j : IntKind} {m n c : Int} {t u : TypeId} (hx : ev L x = some (.int k m)) (hy : ev L y = some (.int j n)) (h0 : 0 ≤ n) (hw : m.fdiv (2 ^ (min n.toNat k.bits)) = c) :
    Yl P L ⟨dst, .binOp .shr t x y u, ty, pos, aft, gd⟩ (.int k c) := by
  intro _ a w hf
  have : ¬ n < 0 := by omega
  simp [execOp, hf.eval hx, hf.eval hy, eqGuard, binOp, Op.shift, hw, this]
theorem Yl_eql {x y : Operand} {k : IntKind} {m n : Int} {t u : TypeId} (hx : ev L x = some (.int k m)) (hy : ev L y = some (.int k n)) :
    Yl P L ⟨dst, .binOp .eql t x y u, ty, pos, aft, gd⟩ (.bool (decide (m = n))) := by
  intro _ a w hf
  simp [execOp, hf.eval hx, hf.eval hy, eqGuard, binOp, Op.intCmp]
  by_cases h : m = n <;> simp [h]
theorem Yl_neq {x y : Operand} {k : IntKind} {m n : Int} {t u : TypeId} (hx : ev L x = some (.int k m)) (hy : ev L y = some (.int k n)) :
    Yl P L ⟨dst, .binOp .neq t x y u, ty, pos, aft, gd⟩ (.bool (decide (m ≠ n))) := by
  intro _ a w hf
  simp [execOp, hf.eval hx, hf.eval hy, eqGuard, binOp, Op.intCmp]
  by_cases h : m = n <;> simp [h]
theorem Yl_lss {x y : Operand} {k : IntKind} {m n : Int} {t u : TypeId} (hx : ev L x = some (.int k m)) (hy : ev L y = some (.int k n)) :
    Yl P L ⟨dst, .binOp .lss t x y u, ty, pos, aft, gd⟩ (.bool (decide (m < n))) := by
  intro _ a w hf
  simp [execOp, hf.eval hx, hf.eval hy, eqGuard, binOp, Op.intCmp]
theorem Yl_leq {x y : Operand} {k : IntKind} {m n : Int} {t u : TypeId} (hx : ev L x = some (.int k m)) (hy : ev L y = some (.int k n)) :
    Yl P L ⟨dst, .binOp .leq t x y u, ty, pos, aft, gd⟩ (.bool (decide (m ≤ n))) := by
  intro _ a w hf
  simp [execOp, hf.eval hx, hf.eval hy, eqGuard, binOp, Op.intCmp]
theorem Yl_gtr {x y : Operand} {k : IntKind} {m n : Int} {t u : TypeId} (hx : ev L x = some (.int k m)) (hy : ev L y = some (.int k n)) :
    Yl P L ⟨dst, .binOp .gtr t x y u, ty, pos, aft, gd⟩ (.bool (decide (n < m))) := by
  intro _ a w hf
  simp [execOp, hf.eval hx, hf.eval hy, eqGuard, binOp, Op.intCmp]
theorem Yl_geq {x y : Operand} {k : IntKind} {m n : Int} {t u : TypeId} (hx : ev L x = some (.int k m)) (hy : ev L y = some (.int k n)) :
    Yl P L ⟨dst, .binOp .geq t x y u, ty, pos, aft, gd⟩ (.bool (decide (n ≤ m))) := by
  intro _ a w hf
  simp [execOp, hf.eval hx, hf.eval hy, eqGuard, binOp, Op.intCmp]
theorem Yl_conv {x : Operand} {k j : IntKind} {m c : Int} {t u : TypeId} (hx : ev L x = some (.int j m)) (ht : inOf P t = some j) (hu : inOf P u = some k) (hw : k.wrap m = c) :
    Yl P L ⟨dst, .convert t u x, ty, pos, aft, gd⟩ (.int k c) := by
  intro _ a w hf
  have h1 : P.underlying t = some (.int j) := by
    unfold inOf at ht; split at ht <;> simp_all
  have h2 : P.underlying u = some (.int k) := by
    unfold inOf at hu; split at hu <;> simp_all
  simp [execOp, hf.eval hx, convert, underlying, h1, h2, Conv.intToInt, hw]
theorem Yl_strLess {x y : Operand} {s r : ByteArray} {t u : TypeId} (hx : ev L x = some (.string s)) (hy : ev L y = some (.string r)) :
    Yl P L ⟨dst, .binOp .lss t x y u, ty, pos, aft, gd⟩ (.bool (Op.bytesLess s.toList r.toList)) := by
  intro _ a w hf
  simp [execOp, hf.eval hx, hf.eval hy, eqGuard, binOp, Op.stringOp]
theorem Yl_strNe {x y : Operand} {s r : ByteArray} {t u : TypeId} (hx : ev L x = some (.string s)) (hy : ev L y = some (.string r)) :
    Yl P L ⟨dst, .binOp .neq t x y u, ty, pos, aft, gd⟩ (.bool (!(s.toList == r.toList))) := by
  intro _ a w hf
  simp [execOp, hf.eval hx, hf.eval hy, eqGuard, binOp, Op.stringOp]
theorem Yl_concat {x y : Operand} {s r : ByteArray} {t u : TypeId} (hx : ev L x = some (.string s)) (hy : ev L y = some (.string r)) (hs : s.size + r.size ≤ 9223372036854775807) :
    Yl P L ⟨dst, .binOp .add t x y u, ty, pos, aft, gd⟩ (.string (s ++ r)) := by
  intro _ a w hf
  have h' : ¬ ((s.size + r.size : Nat) : Int) > IntKind.i64.max := by
    have : IntKind.i64.max = 9223372036854775807 := by decide
    rw [this]; omega
  simp [execOp, hf.eval hx, hf.eval hy, eqGuard, binOp, Op.stringOp]
  omega

/-! ### builtins that only look -/
theorem Yl_len {x : Operand} {p : Option Addr} {m c : Nat} {t e : TypeId} {sz : Nat} (hx : ev L x = some (.slice p m c)) (ht : slOf P t = some (e, sz)) :
    Yl P L ⟨dst, .call ⟨.builtin .len, #[x], #[t]⟩, ty, pos, aft, gd⟩ (.int .i64 m) := by
  intro _ a w hf
  unfold slOf at ht
  split at ht
  · rename_i e' he
    simp [execOp, resolve, invoke, builtin, Builtin.len_, hf.eval hx, goInt, underlying, he]
  cases ht
def isStr (P : Program) (t : TypeId) : Bool := match P.underlying t with | some .string => true | _ => false
theorem isStr_u {t : TypeId} (h : isStr P t = true) : P.underlying t = some .string := by
  unfold isStr at h; split at h <;> simp_all
theorem Yl_lenS {x : Operand} {s : ByteArray} {t : TypeId} (hx : ev L x = some (.string s)) (ht : isStr P t = true) :
    Yl P L ⟨dst, .call ⟨.builtin .len, #[x], #[t]⟩, ty, pos, aft, gd⟩ (.int .i64 s.size) := by
  intro _ a w hf
  simp [execOp, resolve, invoke, builtin, Builtin.len_, hf.eval hx, goInt, underlying, isStr_u ht]
theorem Yl_min {x y : Operand} {k : IntKind} {m n : Int} {ts : Array TypeId} (hx : ev L x = some (.int k m)) (hy : ev L y = some (.int k n)) :
    Yl P L ⟨dst, .call ⟨.builtin .min, #[x, y], ts⟩, ty, pos, aft, gd⟩ (.int k (if n < m then n else m)) := by
  intro _ a w hf
  simp [execOp, resolve, invoke, builtin, Builtin.min_, Builtin.min2, hf.eval hx, hf.eval hy, List.foldlM]
theorem Yl_max {x y : Operand} {k : IntKind} {m n : Int} {ts : Array TypeId} (hx : ev L x = some (.int k m)) (hy : ev L y = some (.int k n)) :
    Yl P L ⟨dst, .call ⟨.builtin .max, #[x, y], ts⟩, ty, pos, aft, gd⟩ (.int k (if m < n then n else m)) := by
  intro _ a w hf
  simp [execOp, resolve, invoke, builtin, Builtin.max_, Builtin.max2, hf.eval hx, hf.eval hy, List.foldlM]
theorem Yl_indexS {x y : Operand} {t : TypeId} {s : ByteArray} {k : IntKind} {i : Int} (hx : ev L x = some (.string s)) (hy : ev L y = some (.int k i)) (ht : isStr P t = true) (h0 : 0 ≤ i) (h1 : i.toNat < s.size) :
    Yl P L ⟨dst, .index t x y, ty, pos, aft, gd⟩ (.int .u8 (s[i.toNat].toNat)) := by
  intro _ a w hf
  simp [execOp, Instr.index, hf.eval hx, hf.eval hy, asIntOf, underlying, isStr_u ht, h0, h1]

/-! ### addresses -/
theorem Addr_add (b off m : Nat) : (⟨b, off, none⟩ : Addr).add m = ⟨b, off + m, none⟩ := by
  unfold Addr.add; split
  · rename_i h; subst h; rfl
  rfl
theorem Yl_field {x : Operand} {s : TypeId} {f b off o : Nat} (hx : ev L x = some (.pointer (some ⟨b, off, none⟩))) (hs : fieldOff P s f = some o) :
    Yl P L ⟨dst, .fieldAddr s x f, ty, pos, aft, gd⟩ (.pointer (some ⟨b, off + o, none⟩)) := by
  intro _ a w hf
  unfold fieldOff at hs
  split at hs
  · rename_i fs hu
    split at hs
    · rename_i fd hfd
      split at hs
      · rename_i i hi
        split at hs
        · cases hs
        rename_i hz
        cases hs
        simp [execOp, Instr.fieldAt, underlying, hu, hfd, hf.eval hx, Instr.sureAddr, fieldPlace, sizeOf, typeInfo, hi, hz, Addr_add]
      cases hs
    cases hs
  cases hs
theorem Yl_index {x y : Operand} {t e : TypeId} {sz b off m c : Nat} {k : IntKind} {i : Int} (hx : ev L x = some (.slice (some ⟨b, off, none⟩) m c)) (hy : ev L y = some (.int k i))
    (ht : slOf P t = some (e, sz)) (h0 : 0 ≤ i) (h1 : i < m) :
    Yl P L ⟨dst, .indexAddr t x y, ty, pos, aft, gd⟩ (.pointer (some ⟨b, off + i.toNat * sz, none⟩)) := by
  intro _ a w hf
  unfold slOf at ht
  split at ht
  · rename_i e' hu
    simp only [Option.map_eq_some_iff, Prod.mk.injEq] at ht
    obtain ⟨inf, hi, rfl, rfl⟩ := ht
    simp [execOp, Instr.indexAt, asIntOf, underlying, hu, hf.eval hx, hf.eval hy, h0, h1, sizeOf, typeInfo, hi, Addr_add]
  cases ht
theorem Yl_indexA {x y : Operand} {t : TypeId} {sz b off m : Nat} {k : IntKind} {i : Int} (hx : ev L x = some (.pointer (some ⟨b, off, none⟩))) (hy : ev L y = some (.int k i))
    (ht : arOf P t = some (m, sz)) (h0 : 0 ≤ i) (h1 : i < m) :
    Yl P L ⟨dst, .indexAddr t x y, ty, pos, aft, gd⟩ (.pointer (some ⟨b, off + i.toNat * sz, none⟩)) := by
  intro _ a w hf
  unfold arOf at ht
  split at ht
  · rename_i m' e' hu
    simp only [Option.map_eq_some_iff, Prod.mk.injEq] at ht
    obtain ⟨inf, hi, rfl, rfl⟩ := ht
    simp [execOp, Instr.indexAt, asIntOf, underlying, hu, hf.eval hx, hf.eval hy, h0, h1, sizeOf, typeInfo, hi, Addr_add, Instr.sureAddr]
  cases ht
def cutAt (p : Option Addr) (c l sz : Nat) : Option Addr := if c = l then p else p.map (·.add (l * sz))
theorem cutAt_some {b off c l sz : Nat} (h : l < c) : cutAt (some ⟨b, off, none⟩) c l sz = some ⟨b, off + l * sz, none⟩ := by
  unfold cutAt; rw [if_neg om_]; simp [Addr_add]
theorem cutAt_any {b off c l sz : Nat} : cutAt (some ⟨b, off, none⟩) c l sz = some ⟨b, if c = l then off else off + l * sz, none⟩ := by
  unfold cutAt; split <;> simp_all [Addr_add]
theorem cutAt_zero {b off c sz : Nat} : cutAt (some ⟨b, off, none⟩) c 0 sz = some ⟨b, off, none⟩ := by
  unfold cutAt; split <;> simp [Addr_add]
theorem Yl_cutLH {x y z : Operand} {t e : TypeId} {sz m c : Nat} {p : Option Addr} {k j : IntKind} {l h : Int} (hx : ev L x = some (.slice p m c)) (hy : ev L y = some (.int k l)) (hz : ev L z = some (.int j h))
    (ht : slOf P t = some (e, sz)) (h0 : 0 ≤ l) (h1 : l ≤ h) (h2 : h ≤ c) :
    Yl P L ⟨dst, .slice t x (some y) (some z) none, ty, pos, aft, gd⟩ (.slice (cutAt p c l.toNat sz) (h.toNat - l.toNat) (c - l.toNat)) := by
  intro _ a w hf
  unfold slOf at ht
  split at ht
  · rename_i e' hu
    simp only [Option.map_eq_some_iff, Prod.mk.injEq] at ht
    obtain ⟨inf, hi, rfl, rfl⟩ := ht
    have g1 : 0 ≤ h := by omega
    have g2 : l ≤ max h 0 := by omega
    simp [execOp, Instr.sliceAt, Instr.slice, Instr.sliceBounds, Instr.sliceBound, asIntOf, underlying, hu, hf.eval hx, hf.eval hy, hf.eval hz, h0, h2, g1, g2, sizeOf, typeInfo, hi, cutAt]
  cases ht
theorem Yl_cutH {x z : Operand} {t e : TypeId} {sz m c : Nat} {p : Option Addr} {j : IntKind} {h : Int} (hx : ev L x = some (.slice p m c)) (hz : ev L z = some (.int j h))
    (ht : slOf P t = some (e, sz)) (h1 : 0 ≤ h) (h2 : h ≤ c) :
    Yl P L ⟨dst, .slice t x none (some z) none, ty, pos, aft, gd⟩ (.slice (cutAt p c 0 sz) h.toNat c) := by
  intro _ a w hf
  unfold slOf at ht
  split at ht
  · rename_i e' hu
    simp only [Option.map_eq_some_iff, Prod.mk.injEq] at ht
    obtain ⟨inf, hi, rfl, rfl⟩ := ht
    simp [execOp, Instr.sliceAt, Instr.slice, Instr.sliceBounds, Instr.sliceBound, asIntOf, underlying, hu, hf.eval hx, hf.eval hz, h1, h2, sizeOf, typeInfo, hi, cutAt]
  cases ht
theorem Yl_cutL {x y : Operand} {t e : TypeId} {sz m c : Nat} {p : Option Addr} {k : IntKind} {l : Int} (hx : ev L x = some (.slice p m c)) (hy : ev L y = some (.int k l))
    (ht : slOf P t = some (e, sz)) (h0 : 0 ≤ l) (h1 : l ≤ m) :
    Yl P L ⟨dst, .slice t x (some y) none none, ty, pos, aft, gd⟩ (.slice (cutAt p c l.toNat sz) (m - l.toNat) (c - l.toNat)) := by
  intro _ a w hf
  unfold slOf at ht
  split at ht
  · rename_i e' hu
    simp only [Option.map_eq_some_iff, Prod.mk.injEq] at ht
    obtain ⟨inf, hi, rfl, rfl⟩ := ht
    simp [execOp, Instr.sliceAt, Instr.slice, Instr.sliceBounds, Instr.sliceBound, asIntOf, underlying, hu, hf.eval hx, hf.eval hy, h0, h1, sizeOf, typeInfo, hi, cutAt]
  cases ht
theorem Yl_cutA {x : Operand} {t : TypeId} {sz m b off : Nat} (hx : ev L x = some (.pointer (some ⟨b, off, none⟩))) (ht : arOf P t = some (m, sz)) :
    Yl P L ⟨dst, .slice t x none none none, ty, pos, aft, gd⟩ (.slice (some ⟨b, off, none⟩) m m) := by
  intro _ a w hf
  unfold arOf at ht
  split at ht
  · rename_i m' e' hu
    simp only [Option.map_eq_some_iff, Prod.mk.injEq] at ht
    obtain ⟨inf, hi, rfl, rfl⟩ := ht
    simp [execOp, Instr.sliceAt, Instr.sliceBounds, underlying, hu, hf.eval hx, Instr.sureAddr, sizeOf, typeInfo, hi, Addr_add]
  cases ht
theorem Yl_cutS {x z : Operand} {t : TypeId} {s : ByteArray} {j : IntKind} {h : Int} (hx : ev L x = some (.string s)) (hz : ev L z = some (.int j h))
    (ht : isStr P t = true) (h1 : 0 ≤ h) (h2 : h ≤ s.size) :
    Yl P L ⟨dst, .slice t x none (some z) none, ty, pos, aft, gd⟩ (.string (s.extract 0 h.toNat)) := by
  intro _ a w hf
  simp [execOp, Instr.sliceAt, Instr.slice, Instr.sliceBounds, Instr.sliceBound, asIntOf, underlying, isStr_u ht, hf.eval hx, hf.eval hz, h1, h2]
end

end Go.Proofs.YtgoddcicbpjknaaDoor

namespace Cfb
variable {α β : Type}
def spl (off : Nat) (cs l : List α) : List α := l.take off ++ cs ++ l.drop (off + cs.length)

theorem length_spl {off : Nat} {cs l : List α} (h : off + cs.length ≤ l.length) : (spl off cs l).length = l.length := by
  simp [spl]; omega
theorem map_spl (f : α → β) (off : Nat) (cs l : List α) : (spl off cs l).map f = spl off (cs.map f) (l.map f) := by
  simp [spl, List.map_take, List.map_drop]
theorem spl_nil (off : Nat) (l : List α) : spl off [] l = l := by simp [spl]
theorem getElem?_spl {off : Nat} {cs l : List α} (h : off + cs.length ≤ l.length) (i : Nat) :
    (spl off cs l)[i]? = if i < off then l[i]? else if i < off + cs.length then cs[i - off]? else l[i]? := by
  unfold spl
  by_cases h1 : i < off
  · rw [if_pos h1, List.append_assoc, List.getElem?_append_left (by simp; omega)]
    rw [List.getElem?_take, if_pos h1]
  rw [if_neg h1]
  by_cases h2 : i < off + cs.length
  · rw [if_pos h2, List.getElem?_append_left (by simp; omega), List.getElem?_append_right (by simp; omega)]
    congr 1; simp; omega
  rw [if_neg h2, List.getElem?_append_right (by simp; omega), List.getElem?_drop]
  congr 1; simp; omega
theorem spl_snoc {off : Nat} {cs l : List α} {x : α} (h : off + cs.length < l.length) : (spl off cs l).set (off + cs.length) x = spl off (cs ++ [x]) l := by
  apply List.ext_getElem?
  intro i
  have hl : (cs ++ [x]).length = cs.length + 1 := by simp
  rw [List.getElem?_set, getElem?_spl om_, length_spl om_, getElem?_spl om_]
  rw [hl]
  by_cases h1 : off + cs.length = i
  · subst h1
    rw [if_pos rfl, if_pos h, if_neg om_, if_pos om_]
    simp
  rw [if_neg h1]
  by_cases h2 : i < off
  · simp [h2]
  simp only [h2, if_false]
  by_cases h3 : i < off + cs.length
  · rw [if_pos h3, if_pos om_, List.getElem?_append_left om_]
  rw [if_neg h3, if_neg om_]

def le (n k : Nat) : List UInt8 := (List.range k).map fun i => UInt8.ofNat (n / 256 ^ i)
@[simp] theorem length_le (n k : Nat) : (le n k).length = k := by simp [le]
theorem le_succ (n k : Nat) : le n (k + 1) = le n k ++ [UInt8.ofNat (n / 256 ^ k)] := by simp [le, List.range_succ]
def num : List UInt8 → Nat
  | [] => 0
  | b :: r => b.toNat + 256 * num r
theorem num_le (k : Nat) : ∀ n : Nat, num (le n k) = n % 256 ^ k := by
  induction k with
  | zero => intro n; simp [le, num, Nat.mod_one]
  | succ k ih =>
    intro n
    have e : le n (k + 1) = UInt8.ofNat n :: le (n / 256) k := by
      unfold le
      rw [List.range_succ_eq_map]
      simp only [List.map_cons, List.map_map, Nat.pow_zero, Nat.div_one, List.cons.injEq, true_and]
      apply List.map_congr_left
      intro i _
      simp [Nat.pow_succ, Nat.div_div_eq_div_mul, Nat.mul_comm]
    rw [e, num, ih, show 256 ^ (k + 1) = 256 * 256 ^ k by rw [Nat.pow_succ, Nat.mul_comm], Nat.mod_mul]
    simp
theorem num_lt : ∀ l : List UInt8, num l < 256 ^ l.length
  | [] => by simp [num]
  | b :: r => by
    have := num_lt r
    have hb := b.toNat_lt
    simp only [num, List.length_cons, Nat.pow_succ]
    omega
theorem num_le_of_lt {n k : Nat} (h : n < 256 ^ k) : num (le n k) = n := by rw [num_le, Nat.mod_eq_of_lt h]

/-! ### places, mixed -/
def cop (n : Nat) : Nat → Nat → Nat
  | 0, s => s
  | f + 1, s => if Nat.gcd s n = 1 then s else cop n f (s + 1)
theorem cop_self {n s f : Nat} (h : Nat.gcd s n = 1) : cop n f s = s := by
  cases f with
  | zero => rfl
  | succ f => simp [cop, h]
theorem gcd_next (n : Nat) : Nat.gcd (n + 1) n = 1 := by
  rw [Nat.gcd_comm, Nat.gcd_rec]
  rcases Nat.lt_or_ge n 2 with h | h
  · have : n = 0 ∨ n = 1 := by omega
    rcases this with rfl | rfl <;> simp
  rw [Nat.add_mod_left, Nat.mod_eq_of_lt om_]; simp
def stepF (n step : Nat) : Nat := if n = 0 then 1 + step % max n 1 else cop n (n + 1 - (1 + step % max n 1)) (1 + step % max n 1)
def mixedF (n step : Nat) : List Nat := (List.range n).map fun k => k * stepF n step % n
theorem cop_gcd (n : Nat) : ∀ f s, s + f = n + 1 → Nat.gcd (cop n f s) n = 1 ∧ cop n f s ≤ n + 1 := by
  intro f
  induction f with
  | zero => intro s h; simp only [cop]; obtain rfl : s = n + 1 := by omega
            exact ⟨gcd_next n, Nat.le_refl _⟩
  | succ f ih =>
    intro s h
    simp only [cop]
    split
    · rename_i hg; exact ⟨hg, by omega⟩
    exact ih (s + 1) om_
theorem stepF_gcd (n step : Nat) (h : 0 < n) : Nat.gcd (stepF n step) n = 1 ∧ stepF n step ≤ n + 1 := by
  unfold stepF
  rw [if_neg om_]
  have : step % max n 1 < max n 1 := Nat.mod_lt _ om_
  exact cop_gcd n _ _ om_
@[simp] theorem length_mixedF (n step : Nat) : (mixedF n step).length = n := by simp [mixedF]
theorem mixedF_lt (n step : Nat) : ∀ x ∈ mixedF n step, x < n := by
  intro x hx
  obtain ⟨k, hk, rfl⟩ := List.mem_map.1 hx
  have := List.mem_range.1 hk
  exact Nat.mod_lt _ om_
theorem mixedF_nodup (n step : Nat) : (mixedF n step).Nodup := by
  unfold mixedF
  rcases Nat.eq_zero_or_pos n with rfl | hn
  · simp
  have ⟨hg, _⟩ := stepF_gcd n step hn
  rw [List.Nodup, List.pairwise_map]
  refine List.Pairwise.imp_of_mem ?_ (List.nodup_range (n := n))
  intro a b ha hb hne heq
  have ha := List.mem_range.1 ha
  have hb := List.mem_range.1 hb
  have key : ∀ a b : Nat, a < n → b < n → a < b → a * stepF n step % n = b * stepF n step % n → False := by
    intro a b ha hb hlt heq
    have h1 : n ∣ (b - a) * stepF n step := by
      rw [Nat.sub_mul]
      exact Nat.dvd_of_mod_eq_zero (Nat.sub_mod_eq_zero_of_mod_eq heq.symm)
    have h2 : n ∣ b - a := Nat.Coprime.dvd_of_dvd_mul_right (Nat.coprime_iff_gcd_eq_one.2 (by rw [Nat.gcd_comm]; exact hg)) h1
    have := Nat.le_of_dvd om_ h2
    omega
  rcases Nat.lt_or_gt_of_ne hne with h | h
  · exact key a b ha hb h heq
  exact key b a hb ha h heq.symm

/-! ### chains in a table -/
abbrev CE : Nat := 4294967294
def linkAt (pl : List Nat) (from_ n : Nat) (t : List Nat) (j : Nat) : List Nat := t.set (pl.getD (from_ + j) 0) (if j + 1 = n then CE else pl.getD (from_ + j + 1) 0)
def linkTo (pl : List Nat) (from_ n : Nat) (t : List Nat) (k : Nat) : List Nat := (List.range k).foldl (linkAt pl from_ n) t
theorem linkTo_succ (pl : List Nat) (from_ n : Nat) (t : List Nat) (k : Nat) : linkTo pl from_ n t (k + 1) = linkAt pl from_ n (linkTo pl from_ n t k) k := by
  simp [linkTo, List.range_succ]
@[simp] theorem length_linkTo (pl : List Nat) (from_ n : Nat) (t : List Nat) (k : Nat) : (linkTo pl from_ n t k).length = t.length := by
  induction k with
  | zero => rfl
  | succ k ih => rw [linkTo_succ, linkAt, List.length_set, ih]
structure ChS where
  table : List Nat
  pos : Nat
  outs : List Nat
def chStep (pl : List Nat) (s : ChS) (n : Nat) : ChS :=
  if n = 0 then ⟨s.table, s.pos, s.outs ++ [CE]⟩ else ⟨linkTo pl s.pos n s.table n, s.pos + n, s.outs ++ [pl.getD s.pos 0]⟩
def chTo (pl t : List Nat) (from_ : Nat) (cs : List Nat) (i : Nat) : ChS := (cs.take i).foldl (chStep pl) ⟨t, from_, []⟩
def chainedF (pl t : List Nat) (from_ : Nat) (cs : List Nat) : ChS := cs.foldl (chStep pl) ⟨t, from_, []⟩
theorem chTo_all (pl t : List Nat) (from_ : Nat) (cs : List Nat) : chTo pl t from_ cs cs.length = chainedF pl t from_ cs := by simp [chTo, chainedF]
theorem chTo_zero (pl t : List Nat) (from_ : Nat) (cs : List Nat) : chTo pl t from_ cs 0 = ⟨t, from_, []⟩ := by simp [chTo]
theorem chTo_succ (pl t : List Nat) (from_ : Nat) (cs : List Nat) (i : Nat) (h : i < cs.length) : chTo pl t from_ cs (i + 1) = chStep pl (chTo pl t from_ cs i) (cs.getD i 0) := by
  unfold chTo
  rw [List.take_succ_eq_append_getElem h, List.foldl_append]
  simp [List.getD_eq_getElem?_getD, h]
theorem chTo_facts (pl t : List Nat) (from_ : Nat) (cs : List Nat) : ∀ i, i ≤ cs.length → (chTo pl t from_ cs i).table.length = t.length ∧ (chTo pl t from_ cs i).pos = from_ + (cs.take i).sum ∧ (chTo pl t from_ cs i).outs.length = i := by
  intro i
  induction i with
  | zero => intro _; rw [chTo_zero]; simp
  | succ i ih =>
    intro h
    obtain ⟨h1, h2, h3⟩ := ih om_
    rw [chTo_succ _ _ _ _ _ om_, List.take_succ_eq_append_getElem om_, List.sum_append]
    have hg : cs.getD i 0 = cs[i] := by simp [List.getD_eq_getElem?_getD, show i < cs.length by omega]
    unfold chStep
    rw [hg]
    split
    · rename_i h0
      simp only [List.sum_cons, List.sum_nil, h0]
      exact ⟨h1, by omega, by simp [h3]⟩
    simp only [List.sum_cons, List.sum_nil]
    exact ⟨by simp [h1], by omega, by simp [h3]⟩
theorem sum_take_succ (cs : List Nat) (i : Nat) (h : i < cs.length) : (cs.take i).sum + cs.getD i 0 ≤ cs.sum := by
  have h1 : cs.sum = (cs.take (i + 1)).sum + (cs.drop (i + 1)).sum := by rw [← List.sum_append, List.take_append_drop]
  rw [List.take_succ_eq_append_getElem h, List.sum_append] at h1
  have hg : cs.getD i 0 = cs[i] := by simp [List.getD_eq_getElem?_getD, h]
  simp only [List.sum_cons, List.sum_nil] at h1
  omega
theorem getD_lt {l : List Nat} {N : Nat} (h : ∀ x ∈ l, x < N) {i : Nat} (hi : i < l.length) : l.getD i 0 < N := by
  have : l.getD i 0 = l[i] := by simp [List.getD_eq_getElem?_getD, hi]
  rw [this]; exact h _ (List.getElem_mem hi)

/-! ### a chain is filled -/
def partsF (n size : Nat) : Nat := (n + size - 1) / size
def walkP (fat : List Nat) (start : Nat) : Nat → Nat
  | 0 => start
  | k + 1 => fat.getD (walkP fat start k) 0
def fillTo (fat : List Nat) (size : Nat) (data : List UInt8) (start : Nat) (out : List UInt8) : Nat → List UInt8
  | 0 => out
  | k + 1 => spl (size * (1 + walkP fat start k)) ((data.drop (k * size)).take size) (fillTo fat size data start out k)
def fillF (fat : List Nat) (size : Nat) (data : List UInt8) (start : Nat) (out : List UInt8) : List UInt8 := fillTo fat size data start out (partsF data.length size)
theorem lt_partsF {n size k : Nat} (hs : 0 < size) : k < partsF n size ↔ k * size < n := by
  unfold partsF
  rw [Nat.lt_div_iff_mul_lt hs]
  have : (k + 1) * size = k * size + size := by rw [Nat.add_mul]; omega
  omega
theorem length_fillTo {fat : List Nat} {size : Nat} {data : List UInt8} {start : Nat} {out : List UInt8} (k : Nat) (h : ∀ j, j < k → size * (2 + walkP fat start j) ≤ out.length) :
    (fillTo fat size data start out k).length = out.length := by
  induction k with
  | zero => rfl
  | succ k ih =>
    have h1 := ih (fun j hj => h j om_)
    have h2 := h k om_
    rw [fillTo, length_spl, h1]
    rw [h1]
    have : ((data.drop (k * size)).take size).length ≤ size := by simp; omega
    have e : size * (2 + walkP fat start k) = size * (1 + walkP fat start k) + size := by rw [show 2 + walkP fat start k = (1 + walkP fat start k) + 1 by omega, Nat.mul_succ]
    omega
end Cfb

namespace Go.Proofs.YtgoddcicbpjknaaDoor
open Go
open Cfb (spl)

@[reducible] def blk (l : List Value) (T : TypeId) : Obj := .cells l.toArray T (0, 0)

inductive Rep : Heap → Nat × Obj → Nat × Obj → Heap → Prop
  | here (x y : Nat × Obj) (H : Heap) : Rep (x :: H) x y (y :: H)
  | there (z : Nat × Obj) {x y : Nat × Obj} {H H' : Heap} (h : Rep H x y H') : Rep (z :: H) x y (z :: H')
theorem Rep.perm {H H' : Heap} {x y : Nat × Obj} (h : Rep H x y H') : ∃ R, H.Perm (x :: R) ∧ H'.Perm (y :: R) := by
  induction h with
  | here x y H => exact ⟨H, .refl _, .refl _⟩
  | there z h ih =>
    obtain ⟨R, h1, h2⟩ := ih
    exact ⟨z :: R, (h1.cons z).trans (.swap _ _ _), (h2.cons z).trans (.swap _ _ _)⟩
theorem Rep.mem {H H' : Heap} {x y : Nat × Obj} (h : Rep H x y H') : x ∈ H := by
  obtain ⟨R, h1, _⟩ := h.perm
  exact h1.mem_iff.2 (by simp)
section
variable {P : Program} {E : World} {L : Fra} {H H' : Heap} {dst : Option Tmp} {ty : TypeId} {pos : String} {aft : Array Edge} {gd : Option (Nat × Bool)}

theorem Scal_agg {t : TypeId} (h : Scal P t = true) (w : World) : (isAgg t).run P w = .ok false w := by
  unfold Scal at h
  cases hu : P.underlying t with
  | none => simp [hu] at h
  | some d => cases d <;> simp [hu] at h <;> simp [isAgg, underlying, hu]
theorem agOf_agg {t : TypeId} {k : Nat} (h : agOf P t = some k) (w : World) : (isAgg t).run P w = .ok true w ∧ (sizeOf t).run P w = .ok k w := by
  unfold agOf at h
  split at h
  · rename_i hu
    simp only [Option.map_eq_some_iff] at h
    obtain ⟨i, hi, rfl⟩ := h
    simp [isAgg, underlying, hu, sizeOf, typeInfo, hi]
  · rename_i hu
    simp only [Option.map_eq_some_iff] at h
    obtain ⟨i, hi, rfl⟩ := h
    simp [isAgg, underlying, hu, sizeOf, typeInfo, hi]
  cases h

theorem Yh_load {x : Operand} {t T : TypeId} {b off : Nat} {l : List Value} {fz : Nat × Nat} {v : Value} (hx : ev L x = some (.pointer (some ⟨b, off, none⟩))) (ht : Scal P t = true)
    (hm : (b, Obj.cells l.toArray T fz) ∈ H) (hv : l[off]? = some v) : Yh P E L H ⟨dst, .load t x, ty, pos, aft, gd⟩ v := by
  intro _ a w hf hh
  have hc := hh.cell hm off
  simp only [List.getElem?_toArray, hv] at hc
  simp [execOp, Instr.loadAt, Instr.sureAddr, hf.eval hx, loadVar, Scal_agg ht, hc]
theorem Yh_loadA {x : Operand} {t T : TypeId} {b off k : Nat} {l : List Value} {fz : Nat × Nat} (hx : ev L x = some (.pointer (some ⟨b, off, none⟩))) (ht : agOf P t = some k)
    (hm : (b, Obj.cells l.toArray T fz) ∈ H) (hv : off + k ≤ l.length) : Yh P E L H ⟨dst, .load t x, ty, pos, aft, gd⟩ (.agg ((l.drop off).take k).toArray) := by
  intro _ a w hf hh
  have hr := run_loadCells_list (P := P) w ⟨b, off, none⟩ ((l.drop off).take k) (fun j v hj => by
    rw [Addr_add, hh.cell hm]
    simp only [List.getElem?_toArray]
    rw [List.getElem?_take] at hj
    split at hj
    · rw [List.getElem?_drop] at hj; exact hj
    cases hj)
  have hl : ((l.drop off).take k).length = k := by simp; omega
  rw [hl] at hr
  have ⟨h1, h2⟩ := agOf_agg ht w
  simp [execOp, Instr.loadAt, Instr.sureAddr, hf.eval hx, loadVar, h1, h2, hr]

theorem HA.rep {w : World} {b off : Nat} {l : List Value} {T : TypeId} {v : Value} (hh : HA E w H) (hr : Rep H (b, blk l T) (b, blk (l.set off v) T) H') : HA E (w.setCell ⟨b, off, none⟩ v) H' := by
  obtain ⟨R, h1, h2⟩ := hr.perm
  have := (hh.perm h1).setCell off v
  refine HA.perm ?_ h2.symm
  simpa [blk] using this

def szOf (P : Program) (t : TypeId) : Option Nat := (P.info? t).map (·.size)
theorem szOf_run {t : TypeId} {k : Nat} (h : szOf P t = some k) (w : World) : (sizeOf t).run P w = .ok k w := by
  simp only [szOf, Option.map_eq_some_iff] at h
  obtain ⟨i, hi, rfl⟩ := h
  simp [sizeOf, typeInfo, hi]
theorem cells_one {v : Value} (h : v.oneCell' = true) : v.cells = #[v] := by cases v <;> simp [Value.oneCell'] at h <;> rfl

theorem Fx_store {x y : Operand} {t T : TypeId} {b off : Nat} {l : List Value} {v : Value} (hx : ev L x = some (.pointer (some ⟨b, off, none⟩))) (hy : ev L y = some v)
    (ht : szOf P t = some 1) (hv : v.oneCell' = true) (hr : Rep H (b, blk l T) (b, blk (l.set off v) T) H') (ho : off < l.length) :
    Fx P E L H ⟨dst, .store t x y, ty, pos, aft, gd⟩ (fun _ H'' => H'' = H') := by
  intro _ a w next Q hf hh k
  have hc := hh.cell hr.mem off
  have hfr := hh.free hr.mem off
  simp only [List.getElem?_toArray, List.getElem?_eq_getElem ho] at hc
  have hrun : (execOp a.eval ⟨dst, .store t x y, ty, pos, aft, gd⟩).run P w = .ok .skip (w.setCell ⟨b, off, none⟩ v) := by
    simp [execOp, Instr.storeAt, Instr.sureAddr, hf.eval hx, hf.eval hy, storeVar, szOf_run ht, cells_one hv, storeCells, Addr_add, run_store _ _ _ _ _ hv, hc, hfr]
  simp only [Oper.wp, hrun, Oper.upon]
  exact k _ _ _ rfl (hh.rep hr)

theorem run_storeCells_HA (b : Nat) (T : TypeId) (R : Heap) : ∀ (vs : List Value) (off i : Nat) (l : List Value) (w : World), HA E w ((b, blk l T) :: R) → (∀ v ∈ vs, v.oneCell' = true) → off + i + vs.length ≤ l.length →
    ∃ w', (storeCells ⟨b, off, none⟩ vs i).run P w = .ok () w' ∧ HA E w' ((b, blk (spl (off + i) vs l) T) :: R) := by
  intro vs
  induction vs with
  | nil => intro off i l w hh _ _; exact ⟨w, by simp [storeCells], by simpa [spl] using hh⟩
  | cons v r ih =>
    intro off i l w hh h1 hl
    simp only [List.length_cons] at hl
    have ho : off + i < l.length := by omega
    have hc := hh.cell (List.mem_cons_self ..) (off + i)
    have hfr := hh.free (List.mem_cons_self ..) (off + i)
    simp only [List.getElem?_toArray, List.getElem?_eq_getElem ho] at hc
    have hh1 : HA E (w.setCell ⟨b, off + i, none⟩ v) ((b, blk (l.set (off + i) v) T) :: R) := by simpa [blk] using hh.setCell (off + i) v
    obtain ⟨w', hr, hh2⟩ := ih off (i + 1) _ _ hh1 (fun u hu => h1 u (by simp [hu])) (by simp; omega)
    refine ⟨w', ?_, ?_⟩
    · simp [storeCells, Addr_add, run_store _ _ _ _ _ (h1 v (by simp)), hc, hfr]
      exact hr
    have e : spl (off + (i + 1)) r (l.set (off + i) v) = spl (off + i) (v :: r) l := by
      simp only [spl, List.length_cons]
      rw [← Nat.add_assoc, List.take_succ_eq_append_getElem (by simp; omega)]
      rw [List.take_set_of_le om_, List.getElem_set_self, List.drop_set_of_lt om_]
      simp [Nat.add_assoc, Nat.add_comm 1]
    rw [← e]; exact hh2

theorem Fx_storeA {x y : Operand} {t T : TypeId} {b off : Nat} {l cs : List Value} (hx : ev L x = some (.pointer (some ⟨b, off, none⟩))) (hy : ev L y = some (.agg cs.toArray))
    (ht : szOf P t = some cs.length) (hv : ∀ v ∈ cs, v.oneCell' = true) (hr : Rep H (b, blk l T) (b, blk (spl off cs l) T) H') (ho : off + cs.length ≤ l.length) :
    Fx P E L H ⟨dst, .store t x y, ty, pos, aft, gd⟩ (fun _ H'' => H'' = H') := by
  intro _ a w next Q hf hh k
  obtain ⟨R, h1, h2⟩ := hr.perm
  obtain ⟨w', hrun, hh'⟩ := run_storeCells_HA (P := P) b T R cs off 0 l w (hh.perm h1) hv ho
  have hrun : (execOp a.eval ⟨dst, .store t x y, ty, pos, aft, gd⟩).run P w = .ok .skip w' := by
    simp [execOp, Instr.storeAt, Instr.sureAddr, hf.eval hx, hf.eval hy, storeVar, szOf_run ht, Value.cells, hrun]
  simp only [Oper.wp, hrun, Oper.upon]
  exact k _ _ _ rfl (hh'.perm h2.symm)

theorem Fx_alloc {t : TypeId} {z : Value} {zs : List Value} (ht : zeOf P t = some z) (hz : z.cells = zs.toArray) :
    Fx P E L H ⟨dst, .alloc t, ty, pos, aft, gd⟩ (fun v H'' => ∃ b, v = .pointer (some ⟨b, 0, none⟩) ∧ H'' = (b, blk zs t) :: H) := by
  intro _ a w next Q hf hh k
  unfold zeOf at ht
  simp only [Option.bind_eq_some_iff] at ht
  obtain ⟨i, hi, hz'⟩ := ht
  have hrun : (execOp a.eval ⟨dst, .alloc t, ty, pos, aft, gd⟩).run P w = .ok (.value (.pointer (some ⟨w.heap.size, 0, none⟩))) { w with heap := w.heap.push (blk zs t) } := by
    simp [execOp, Instr.alloc, zeroValue, typeInfo, hi, hz', newVar, newRow, hz]
  simp only [Oper.wp, hrun, Oper.upon]
  exact k _ _ _ ⟨_, rfl, rfl⟩ (hh.alloc _)
theorem Fx_box {t : TypeId} {x : Operand} {v : Value} {zs : List Value} (hx : ev L x = some v) (hz : v.cells = zs.toArray) :
    Fx P E L H ⟨dst, .box t x, ty, pos, aft, gd⟩ (fun v H'' => ∃ b, v = .pointer (some ⟨b, 0, none⟩) ∧ H'' = (b, blk zs t) :: H) := by
  intro _ a w next Q hf hh k
  have hrun : (execOp a.eval ⟨dst, .box t x, ty, pos, aft, gd⟩).run P w = .ok (.value (.pointer (some ⟨w.heap.size, 0, none⟩))) { w with heap := w.heap.push (blk zs t) } := by
    simp [execOp, Instr.box, newVar, newRow, hz, hf.eval hx]
  simp only [Oper.wp, hrun, Oper.upon]
  exact k _ _ _ ⟨_, rfl, rfl⟩ (hh.alloc _)

def evp (L : Fra) : List (Nat × Operand) → Option (List (Nat × Value))
  | [] => some []
  | (i, x) :: r => match ev L x, evp L r with
    | some v, some s => some ((i, v) :: s)
    | _, _ => none
theorem evp_map {n : Nat} {a : Act} (hf : FA n a L) : ∀ (ps : List (Nat × Operand)) (vs : List (Nat × Value)), evp L ps = some vs → ps.map (fun p => (p.1, a.eval p.2)) = vs := by
  intro ps
  induction ps with
  | nil => intro vs h; simp [evp] at h; simp [h]
  | cons p r ih =>
    obtain ⟨i, x⟩ := p
    intro vs h
    simp only [evp] at h
    split at h
    · rename_i v s hv hs
      cases h
      simp [hf.eval hv, ih s hs]
    cases h
def zerosOf (z : Value) (k : Nat) : Array Value := (Array.range k).map (z.cells[· % z.cells.size]!)
theorem Fx_buildSlice {t e : TypeId} {sz k : Nat} {ps : List (Nat × Operand)} {vs : List (Nat × Value)} {z : Value} {cs : List Value} (ht : slOf P t = some (e, sz)) (hz : zeOf P e = some z) (hp : evp L ps = some vs)
    (hk : Nat.ble (k * sz) 16777216 = true) (hk0 : Nat.blt 0 (k * sz) = true) (hfill : Instr.fill (fun i => some (i * sz, sz)) (zerosOf z (k * sz)) vs = some cs.toArray) :
    Fx P E L H ⟨dst, .buildSlice t k ps.toArray, ty, pos, aft, gd⟩ (fun v H'' => ∃ b, v = .slice (some ⟨b, 0, none⟩) k k ∧ H'' = (b, blk cs e) :: H) := by
  intro _ a w next Q hf hh kk
  unfold slOf at ht
  split at ht
  · rename_i e' hu
    simp only [Option.map_eq_some_iff, Prod.mk.injEq] at ht
    obtain ⟨inf, hi, rfl, rfl⟩ := ht
    unfold zeOf at hz
    simp only [Option.bind_eq_some_iff] at hz
    obtain ⟨i2, hi2, hz'⟩ := hz
    rw [hi] at hi2; cases hi2
    have h1 : ¬ k * inf.size > 2 ^ 24 := by have := Nat.le_of_ble_eq_true hk; omega
    have h2 : ¬ k * inf.size = 0 := by have := Nat.lt_of_lt_of_le (Nat.zero_lt_one) (Nat.le_of_ble_eq_true hk0); omega
    have hps := evp_map hf ps vs hp
    have hfill' := hfill
    unfold zerosOf at hfill'
    have hrun : (execOp a.eval ⟨dst, .buildSlice t k ps.toArray, ty, pos, aft, gd⟩).run P w = .ok (.value (.slice (some ⟨w.heap.size, 0, none⟩) k k)) { w with heap := w.heap.push (blk cs e') } := by
      simp only [execOp, Instr.buildSlice, underlying, sizeOf, zeroValue, typeInfo, newRow, List.map_toArray]
      simp [hu, hi, hz', h1, h2]
      rw [hps, hfill']
      rfl
    simp only [Oper.wp, hrun, Oper.upon]
    exact kk _ _ _ ⟨_, rfl, rfl⟩ (hh.alloc _)
  cases ht

def evq (L : Fra) : Nat → List (Nat × Operand) → Option (List Value)
  | _, [] => some []
  | k, (i, x) :: r => match Nat.beq i k, ev L x, evq L (k + 1) r with
    | true, some v, some s => some (v :: s)
    | _, _, _ => none
def enumV : Nat → List Value → List (Nat × Value)
  | _, [] => []
  | k, v :: r => (k, v) :: enumV (k + 1) r
theorem evq_evp : ∀ (ps : List (Nat × Operand)) (k : Nat) (vs : List Value), evq L k ps = some vs → evp L ps = some (enumV k vs) ∧ vs.length = ps.length := by
  intro ps
  induction ps with
  | nil => intro k vs h; simp [evq] at h; subst h; exact ⟨rfl, rfl⟩
  | cons p r ih =>
    obtain ⟨i, x⟩ := p
    intro k vs h
    simp only [evq] at h
    split at h
    · rename_i v s hik hv hs
      cases h
      obtain ⟨h1, h2⟩ := ih (k + 1) s hs
      have := Nat.eq_of_beq_eq_true hik
      subst this
      exact ⟨by simp [evp, hv, h1, enumV], by simp [h2]⟩
    cases h
theorem foldl_cells (sz off : Nat) : ∀ (c : List Value) (j : Nat) (a : List Value), off + j + c.length ≤ a.length →
    (c.zipIdx j).foldl (fun (cs : Array Value) (p : Value × Nat) => cs.setIfInBounds (off + p.2) p.1) a.toArray = (spl (off + j) c a).toArray := by
  intro c
  induction c with
  | nil => intro j a _; simp [Cfb.spl_nil]
  | cons v r ih =>
    intro j a h
    simp only [List.length_cons] at h
    simp only [List.zipIdx_cons, List.foldl_cons, List.setIfInBounds_toArray]
    rw [ih (j + 1) (a.set (off + j) v) (by simp; omega)]
    congr 1
    simp only [spl, List.length_cons]
    rw [← Nat.add_assoc, List.take_succ_eq_append_getElem (by simp; omega)]
    rw [List.take_set_of_le om_, List.getElem_set_self, List.drop_set_of_lt om_]
    simp [Nat.add_assoc, Nat.add_comm 1]
theorem fill_enum (sz : Nat) : ∀ (vs : List Value) (css : List (List Value)) (k : Nat) (pre rest : List Value), vs.map Value.cells = css.map List.toArray → (∀ c ∈ css, c.length = sz) → pre.length = k * sz → rest.length = vs.length * sz →
    Instr.fill (fun i => some (i * sz, sz)) (pre ++ rest).toArray (enumV k vs) = some (pre ++ css.flatten).toArray := by
  intro vs
  induction vs with
  | nil =>
    intro css k pre rest h _ _ hr
    have : css = [] := by cases css <;> simp_all
    subst this
    have : rest = [] := by simpa using hr
    subst this
    simp [enumV, Instr.fill]
  | cons v r ih =>
    intro css k pre rest h hc hp hr
    cases css with
    | nil => simp at h
    | cons c cs =>
      simp only [List.map_cons, List.cons.injEq] at h
      obtain ⟨h1, h2⟩ := h
      have hcl : c.length = sz := hc c (by simp)
      simp only [List.length_cons, Nat.add_mul, Nat.one_mul] at hr
      have hz : v.cells.size = sz := by rw [h1]; simpa using hcl
      simp only [enumV, Instr.fill, hz]
      rw [if_neg (by simp; omega)]
      have e1 : (v.cells.zipIdx.foldl (fun (cs : Array Value) (p : Value × Nat) => cs.setIfInBounds (k * sz + p.2) p.1) (pre ++ rest).toArray) = ((pre ++ c) ++ rest.drop sz).toArray := by
        rw [h1, ← Array.foldl_toList, Array.toList_zipIdx]
        have := foldl_cells sz (k * sz) c 0 (pre ++ rest) (by simp; omega)
        rw [this]
        congr 1
        simp only [spl, Nat.add_zero]
        rw [← hp, List.take_left, hcl, ← List.drop_drop, List.drop_left]
      have e2 := ih cs (k + 1) (pre ++ c) (rest.drop sz) h2 (fun d hd => hc d (by simp [hd])) (by simp [hp, hcl, Nat.add_mul]) (by simp; omega)
      rw [← e1] at e2
      simp only [List.flatten_cons]
      rw [← List.append_assoc]
      exact e2
theorem zeros_split (z : Value) (k : Nat) : ∃ l : List Value, zerosOf z k = l.toArray ∧ l.length = k := ⟨(zerosOf z k).toList, by simp, by simp [zerosOf]⟩
theorem Fx_lit {t e : TypeId} {sz k : Nat} {ps : List (Nat × Operand)} {vs : List Value} {css : List (List Value)} {cs : List Value} {z : Value} (ht : slOf P t = some (e, sz)) (hz : zeOf P e = some z) (hp : evq L 0 ps = some vs)
    (hk : Nat.beq ps.length k = true) (hm : Nat.ble (k * sz) 16777216 = true) (hk0 : Nat.blt 0 (k * sz) = true) (hc : vs.map Value.cells = css.map List.toArray) (hs : ∀ c ∈ css, c.length = sz) (hcs : css.flatten = cs) :
    Fx P E L H ⟨dst, .buildSlice t k ps.toArray, ty, pos, aft, gd⟩ (fun v H'' => ∃ b, v = .slice (some ⟨b, 0, none⟩) k k ∧ H'' = (b, blk cs e) :: H) := by
  obtain ⟨h1, h2⟩ := evq_evp ps 0 vs hp
  obtain ⟨l, hl, hll⟩ := zeros_split z (k * sz)
  have hkk := Nat.eq_of_beq_eq_true hk
  refine Fx_buildSlice ht hz h1 hm hk0 ?_
  rw [hl, ← hcs]
  have := fill_enum sz vs css 0 [] l hc hs (by simp) (by rw [hll, h2, hkk])
  simpa using this
theorem Fx_litS {t e : TypeId} {k : Nat} {ps : List (Nat × Operand)} {vs : List Value} {z : Value} (ht : slOf P t = some (e, 1)) (hz : zeOf P e = some z) (hp : evq L 0 ps = some vs)
    (hk : Nat.beq ps.length k = true) (hm : Nat.ble (k * 1) 16777216 = true) (hk0 : Nat.blt 0 (k * 1) = true) (ho : vs.all Value.oneCell' = true) :
    Fx P E L H ⟨dst, .buildSlice t k ps.toArray, ty, pos, aft, gd⟩ (fun v H'' => ∃ b, v = .slice (some ⟨b, 0, none⟩) k k ∧ H'' = (b, blk vs e) :: H) := by
  refine Fx_lit (css := vs.map fun v => [v]) ht hz hp hk hm hk0 ?_ (by simp) (by simp [List.flatten, ← List.flatMap_def])
  rw [List.map_map]
  apply List.map_congr_left
  intro v hv
  exact cells_one (List.all_eq_true.1 ho v hv)
theorem Fx_buildSlice0 {t e : TypeId} {sz : Nat} (ht : slOf P t = some (e, sz)) :
    Fx P E L H ⟨dst, .buildSlice t 0 #[], ty, pos, aft, gd⟩ (fun v H'' => ∃ b, v = .slice (some ⟨b, 0, none⟩) 0 0 ∧ H'' = (b, blk [] e) :: H) := by
  intro _ a w next Q hf hh kk
  unfold slOf at ht
  split at ht
  · rename_i e' hu
    simp only [Option.map_eq_some_iff, Prod.mk.injEq] at ht
    obtain ⟨inf, hi, rfl, rfl⟩ := ht
    have hrun : (execOp a.eval ⟨dst, .buildSlice t 0 #[], ty, pos, aft, gd⟩).run P w = .ok (.value (.slice (some ⟨w.heap.size, 0, none⟩) 0 0)) { w with heap := w.heap.push (blk [] e') } := by
      simp only [execOp, Instr.buildSlice, underlying, sizeOf, typeInfo, newRow]
      simp [hu, hi, Instr.fill, Array.range_zero']
    simp only [Oper.wp, hrun, Oper.upon]
    exact kk _ _ _ ⟨_, rfl, rfl⟩ (hh.alloc _)
  cases ht
theorem zeros_all {z : Value} {z0 : Value} {m : Nat} (h : z.cells = (List.replicate m z0).toArray) (hm : 0 < m) (k : Nat) : zerosOf z k = (List.replicate k z0).toArray := by
  unfold zerosOf
  rw [h]
  apply Array.ext
  · simp
  intro i h1 h2
  have h3 : i % m < m := Nat.mod_lt _ hm
  simp [h3]
def byOf (P : Program) (t : TypeId) : Option Nat := (P.info? t).map (·.bytes)
theorem Fx_makeSlice {x y : Operand} {t e : TypeId} {sz m by_ : Nat} {k j : IntKind} {l c : Int} {z z0 : Value} (hx : ev L x = some (.int k l)) (hy : ev L y = some (.int j c)) (ht : slOf P t = some (e, sz)) (hb : byOf P e = some by_)
    (hz : zeOf P e = some z) (hz0 : z.cells = (List.replicate m z0).toArray) (hm : Nat.blt 0 m = true) (h0 : 0 ≤ l) (h1 : l ≤ c) (h2 : c ≤ 281474976710656) (h3 : by_ * c ≤ 281474976710656) :
    Fx P E L H ⟨dst, .makeSlice t x y, ty, pos, aft, gd⟩ (fun v H'' => ∃ b, v = .slice (some ⟨b, 0, none⟩) l.toNat c.toNat ∧ H'' = (b, blk (List.replicate (c.toNat * sz) z0) e) :: H) := by
  intro _ a w next Q hf hh kk
  unfold slOf at ht
  split at ht
  · rename_i e' hu
    simp only [Option.map_eq_some_iff, Prod.mk.injEq] at ht
    obtain ⟨inf, hi, rfl, rfl⟩ := ht
    unfold zeOf at hz
    simp only [Option.bind_eq_some_iff] at hz
    obtain ⟨i2, hi2, hz'⟩ := hz
    rw [hi] at hi2; cases hi2
    simp only [byOf, hi, Option.map_some, Option.some.injEq] at hb
    subst hb
    have hzz := zeros_all hz0 (by simpa [Nat.blt_eq] using hm) (c.toNat * inf.size)
    have hr := run_make (P := P) w t e' inf z hu hi hz' k j l c h0 h1 h3 om_
    have hrun : (execOp a.eval ⟨dst, .makeSlice t x y, ty, pos, aft, gd⟩).run P w = .ok (.value (.slice (some ⟨w.heap.size, 0, none⟩) l.toNat c.toNat)) (w.alloc (blk (List.replicate (c.toNat * inf.size) z0) e')) := by
      simp only [execOp, hf.eval hx, hf.eval hy]
      simp [hr]
      unfold madeCells
      unfold zerosOf at hzz
      rw [hzz]
    simp only [Oper.wp, hrun, Oper.upon]
    exact kk _ _ _ ⟨_, rfl, rfl⟩ (hh.alloc _)
  cases ht

theorem slOf_u {t e : TypeId} {sz : Nat} (ht : slOf P t = some (e, sz)) : ∃ inf, P.underlying t = some (.slice e) ∧ P.info? e = some inf ∧ inf.size = sz := by
  unfold slOf at ht
  split at ht
  · rename_i e' hu
    simp only [Option.map_eq_some_iff, Prod.mk.injEq] at ht
    obtain ⟨inf, hi, rfl, rfl⟩ := ht
    exact ⟨inf, hu, hi, rfl⟩
  cases ht
theorem HA.cellsAt {w : World} (hh : HA E w H) {bx offx k : Nat} {lx : List Value} {T : TypeId} {fz : Nat × Nat} (hm : (bx, Obj.cells lx.toArray T fz) ∈ H) :
    ∀ j u, ((lx.drop offx).take k)[j]? = some u → w.cell? ((⟨bx, offx, none⟩ : Addr).add j) = some u := by
  intro j u hj
  rw [Addr_add, hh.cell hm]
  simp only [List.getElem?_toArray]
  rw [List.getElem?_take] at hj
  split at hj
  · rw [List.getElem?_drop] at hj; exact hj
  cases hj
theorem Fx_append_nil {x y : Operand} {t e : TypeId} {sz by_ bx offx m c : Nat} {lx : List Value} {T : TypeId} {fz : Nat × Nat} {z z0 : Value} {q : Nat} (hx : ev L x = some (.slice none 0 0)) (hy : ev L y = some (.slice (some ⟨bx, offx, none⟩) m c))
    (ht : slOf P t = some (e, sz)) (hb : byOf P e = some by_) (hz : zeOf P e = some z) (hz0 : z.cells = (List.replicate q z0).toArray) (hq : q = sz)
    (hm : (bx, Obj.cells lx.toArray T fz) ∈ H) (hfit : offx + m * sz ≤ lx.length) (h0 : 0 < m) (h48 : m * by_ ≤ 281474976710656) (h63 : m ≤ 9223372036854775807) :
    Fx P E L H ⟨dst, .call ⟨.builtin .append, #[x, y], #[t, t]⟩, ty, pos, aft, gd⟩
      (fun v H'' => ∃ g' l' cap', v = .slice (some ⟨g', 0, none⟩) m cap' ∧ m ≤ cap' ∧ l'.length = cap' * sz ∧ l'.take (m * sz) = (lx.drop offx).take (m * sz) ∧ H'' = (g', blk l' e) :: H) := by
  intro _ a w next Q hf hh k
  obtain ⟨inf, hu, hi, rfl⟩ := slOf_u ht
  unfold zeOf at hz
  simp only [Option.bind_eq_some_iff] at hz
  obtain ⟨i2, hi2, hz'⟩ := hz
  rw [hi] at hi2; cases hi2
  simp only [byOf, hi, Option.map_some, Option.some.injEq] at hb
  subst hb
  have hlen : ((lx.drop offx).take (m * inf.size)).length = m * inf.size := by simp; omega
  have hr := run_append_nil (P := P) w t ty e inf z hu hi hz' ⟨bx, offx, none⟩ m c _ hlen (hh.cellsAt hm) h0 om_ h48
  have hge := grownCap_ge w m 0 e
  have hrun : (execOp a.eval ⟨dst, .call ⟨.builtin .append, #[x, y], #[t, t]⟩, ty, pos, aft, gd⟩).run P w = .ok (.value (.slice (some ⟨w.heap.size, 0, none⟩) m (grownCap w m 0 e)))
      (w.drew.alloc (.cells (((lx.drop offx).take (m * inf.size)).toArray ++ Builtin.zeroCells z.cells (grownCap w m 0 e - m)) e)) := by
    simp only [execOp, resolve, invoke, builtin, hf.eval hx, hf.eval hy, List.map_toArray, List.map_cons, List.map_nil]
    simp [hr]
  simp only [Oper.wp, hrun, Oper.upon]
  refine k _ _ _ ⟨w.heap.size, ((lx.drop offx).take (m * inf.size)) ++ (Builtin.zeroCells z.cells (grownCap w m 0 e - m)).toList, _, rfl, hge, ?_, ?_, rfl⟩ ?_
  · have hs : z.cells.size = inf.size := by rw [hz0]; simp only [List.size_toArray, List.length_replicate]; exact hq
    simp only [List.length_append, hlen, Array.length_toList, size_zeroCells, hs, ← Nat.add_mul]
    congr 1; omega
  · rw [List.take_append_of_le_length (by rw [hlen]; exact Nat.le_refl _), List.take_of_length_le (by rw [hlen]; exact Nat.le_refl _)]
  have := (hh.drew).alloc (.cells (((lx.drop offx).take (m * inf.size)).toArray ++ Builtin.zeroCells z.cells (grownCap w m 0 e - m)) e)
  have e1 : ∀ (l : List Value) (A : Array Value), l.toArray ++ A = (l ++ A.toList).toArray := by intro l A; simp
  rw [e1] at this ⊢
  exact this

theorem Fx_append {x y : Operand} {t e : TypeId} {sz by_ g n cap bx offx m c : Nat} {l lx : List Value} {T : TypeId} {fz : Nat × Nat} {z z0 : Value} {q : Nat} {R : Heap} (hx : ev L x = some (.slice (some ⟨g, 0, none⟩) n cap)) (hy : ev L y = some (.slice (some ⟨bx, offx, none⟩) m c))
    (ht : slOf P t = some (e, sz)) (hb : byOf P e = some by_) (hz : zeOf P e = some z) (hz0 : z.cells = (List.replicate q z0).toArray) (hq : q = sz)
    (hg : Rem H (g, blk l e) R) (hl : l.length = cap * sz) (hn : n ≤ cap)
    (hm : (bx, Obj.cells lx.toArray T fz) ∈ H) (hfit : offx + m * sz ≤ lx.length) (h1 : ∀ u ∈ (lx.drop offx).take (m * sz), u.oneCell' = true) (h48 : (n + m) * by_ ≤ 140737488355328) (h63 : n + m ≤ 9223372036854775807) :
    Fx P E L H ⟨dst, .call ⟨.builtin .append, #[x, y], #[t, t]⟩, ty, pos, aft, gd⟩
      (fun v H'' => ∃ g' l' cap', v = .slice (some ⟨g', 0, none⟩) (n + m) cap' ∧ n + m ≤ cap' ∧ l'.length = cap' * sz ∧ l'.take ((n + m) * sz) = l.take (n * sz) ++ (lx.drop offx).take (m * sz) ∧ H'' = (g', blk l' e) :: R) := by
  intro _ a w next Q hf hh k
  obtain ⟨inf, hu, hi, rfl⟩ := slOf_u ht
  unfold zeOf at hz
  simp only [Option.bind_eq_some_iff] at hz
  obtain ⟨i2, hi2, hz'⟩ := hz
  rw [hi] at hi2; cases hi2
  simp only [byOf, hi, Option.map_some, Option.some.injEq] at hb
  subst hb
  have hlen : ((lx.drop offx).take (m * inf.size)).length = m * inf.size := by simp; omega
  have hR := hh.perm hg.perm
  have hheap := hh.mem _ hg.mem
  have hnl : n * inf.size ≤ l.length := by rw [hl]; exact Nat.mul_le_mul_right _ hn
  by_cases hroom : n + m ≤ cap
  · have hfit2 : n * inf.size + ((lx.drop offx).take (m * inf.size)).length ≤ l.toArray.size := by
      rw [hlen, ← Nat.add_mul]; simp only [List.size_toArray, hl]; exact Nat.mul_le_mul_right _ hroom
    have hr := run_append_room (P := P) w t ty e inf hu hi g n cap l.toArray hheap ⟨bx, offx, none⟩ m c _ hlen (hh.cellsAt hm) h1 hroom hfit2
    have hrun : (execOp a.eval ⟨dst, .call ⟨.builtin .append, #[x, y], #[t, t]⟩, ty, pos, aft, gd⟩).run P w = .ok (.value (.slice (some ⟨g, 0, none⟩) (n + m) cap))
        (w.setRow g (l.take (n * inf.size) ++ (lx.drop offx).take (m * inf.size) ++ l.drop (n * inf.size + ((lx.drop offx).take (m * inf.size)).length)).toArray) := by
      simp only [execOp, resolve, invoke, builtin, hf.eval hx, hf.eval hy, List.map_toArray, List.map_cons, List.map_nil]
      simp [hr]
    simp only [Oper.wp, hrun, Oper.upon]
    refine k _ _ _ ⟨g, l.take (n * inf.size) ++ (lx.drop offx).take (m * inf.size) ++ l.drop (n * inf.size + ((lx.drop offx).take (m * inf.size)).length), cap, rfl, hroom, ?_, ?_, rfl⟩ ?_
    · simp only [List.length_append, List.length_take, List.length_drop, hlen]
      simp only [List.length_drop, hl] at *
      have := Nat.mul_le_mul_right inf.size hroom
      rw [Nat.add_mul] at this
      omega
    · have h3 : (l.take (n * inf.size)).length = n * inf.size := by simp; omega
      rw [List.take_append_of_le_length (by simp only [List.length_append, h3, hlen, Nat.add_mul]; exact Nat.le_refl _), List.take_of_length_le (by simp only [List.length_append, h3, hlen, Nat.add_mul]; exact Nat.le_refl _)]
    refine ⟨hR.os, hR.tape, hR.output, hR.nodup, ?_, by have := hR.size; simpa [World.setRow] using this, ?_⟩
    rotate_left
    · intro b' o' hb' ho'
      by_cases e3 : b' = g
      · subst e3
        rw [setRow_heap w b' l.toArray _ e _ hheap] at ho'
        cases ho'; rfl
      rw [setRow_other w g b' _ e3] at ho'
      exact hR.fresh b' o' hb' ho'
    intro p hp
    rcases List.mem_cons.1 hp with rfl | hp
    · exact setRow_heap w g l.toArray _ e _ hheap
    have hne : p.1 ≠ g := by
      have := hR.nodup
      simp only [List.map_cons, List.nodup_cons] at this
      intro e
      exact this.1 (e ▸ List.mem_map_of_mem hp)
    rw [setRow_other w g p.1 _ hne]
    exact hR.mem p (List.mem_cons_of_mem _ hp)
  have holds : ∀ j u, (l.take (n * inf.size))[j]? = some u → w.cell? ((⟨g, 0, none⟩ : Addr).add j) = some u := by
    have := hh.cellsAt hg.mem (offx := 0) (k := n * inf.size)
    simpa using this
  have hlo : (l.take (n * inf.size)).length = n * inf.size := by simp; omega
  have hr := run_append_grow (P := P) w t ty e inf z hu hi hz' ⟨g, 0, none⟩ n cap (l.take (n * inf.size)) hlo holds ⟨bx, offx, none⟩ m c _ hlen (hh.cellsAt hm) om_ om_ (growslice_fits om_ h48)
  have hge := grownCap_ge w (n + m) cap e
  have hrun : (execOp a.eval ⟨dst, .call ⟨.builtin .append, #[x, y], #[t, t]⟩, ty, pos, aft, gd⟩).run P w = .ok (.value (.slice (some ⟨w.heap.size, 0, none⟩) (n + m) (grownCap w (n + m) cap e)))
      (w.drew.alloc (.cells ((l.take (n * inf.size)).toArray ++ ((lx.drop offx).take (m * inf.size)).toArray ++ Builtin.zeroCells z.cells (grownCap w (n + m) cap e - (n + m))) e)) := by
    simp only [execOp, resolve, invoke, builtin, hf.eval hx, hf.eval hy, List.map_toArray, List.map_cons, List.map_nil]
    simp [hr]
  simp only [Oper.wp, hrun, Oper.upon]
  refine k _ _ _ ⟨w.heap.size, l.take (n * inf.size) ++ (lx.drop offx).take (m * inf.size) ++ (Builtin.zeroCells z.cells (grownCap w (n + m) cap e - (n + m))).toList, _, rfl, hge, ?_, ?_, rfl⟩ ?_
  · have hs : z.cells.size = inf.size := by rw [hz0]; simp only [List.size_toArray, List.length_replicate]; exact hq
    simp only [List.length_append, hlo, hlen, Array.length_toList, size_zeroCells, hs, ← Nat.add_mul]
    congr 1; omega
  · rw [List.take_append_of_le_length (by simp only [List.length_append, hlo, hlen, Nat.add_mul]; exact Nat.le_refl _), List.take_of_length_le (by simp only [List.length_append, hlo, hlen, Nat.add_mul]; exact Nat.le_refl _)]
  have h2 : HA E w R := hR.sub (List.sublist_cons_self _ _)
  have := (h2.drew).alloc (.cells ((l.take (n * inf.size)).toArray ++ ((lx.drop offx).take (m * inf.size)).toArray ++ Builtin.zeroCells z.cells (grownCap w (n + m) cap e - (n + m))) e)
  have e1 : ∀ (l l2 : List Value) (A : Array Value), l.toArray ++ l2.toArray ++ A = (l ++ l2 ++ A.toList).toArray := by intro l l2 A; simp
  rw [e1] at this ⊢
  exact this

theorem Fx.weak {o : Oper} {R R' : Value → Heap → Prop} (h : Fx P E L H o R) (hr : ∀ v H', R v H' → R' v H') : Fx P E L H o R' :=
  fun n a w next Q hf hh k => h n a w next Q hf hh fun v w' H' hR => k v w' H' (hr v H' hR)
theorem Fx.less {o : Oper} {R : Value → Heap → Prop} {x : Nat × Obj} {H1 : Heap} (hx : Rem H x H1) (h : Fx P E L (x :: H1) o (fun v H'' => R v H'')) : Fx P E L H o R :=
  fun n a w next Q hf hh k => h n a w next Q hf (hh.perm hx.perm) k
theorem Fx_app {x y : Operand} {t e : TypeId} {sz by_ g n cap bx offx m c : Nat} {xs r news lx : List Value} {T : TypeId} {fz : Nat × Nat} {z z0 : Value} {q : Nat} {R : Heap} (hx : ev L x = some (.slice (some ⟨g, 0, none⟩) n cap)) (hy : ev L y = some (.slice (some ⟨bx, offx, none⟩) m c))
    (ht : slOf P t = some (e, sz)) (hb : byOf P e = some by_) (hz : zeOf P e = some z) (hz0 : z.cells = (List.replicate q z0).toArray) (hq : q = sz)
    (hm : (bx, Obj.cells lx.toArray T fz) ∈ H) (hg : Rem H (g, blk (xs ++ r) e) R) (hl : (xs ++ r).length = cap * sz) (hxs : xs.length = n * sz)
    (hnews : (lx.drop offx).take (m * sz) = news) (hfit : offx + m * sz ≤ lx.length) (h1 : ∀ u ∈ news, u.oneCell' = true) (hsz : 0 < sz) (h48 : (n + m) * by_ ≤ 140737488355328) (h63 : n + m ≤ 9223372036854775807) :
    Fx P E L H ⟨dst, .call ⟨.builtin .append, #[x, y], #[t, t]⟩, ty, pos, aft, gd⟩
      (fun v H'' => ∃ g' cap' r', v = .slice (some ⟨g', 0, none⟩) (n + m) cap' ∧ ((xs ++ news) ++ r').length = cap' * sz ∧ H'' = (g', blk ((xs ++ news) ++ r') e) :: R) := by
  subst hnews
  have hn : n ≤ cap := by
    have : n * sz ≤ cap * sz := by rw [← hl, ← hxs]; simp
    exact Nat.le_of_mul_le_mul_right this hsz
  refine (Fx_append hx hy ht hb hz hz0 hq hg hl hn hm hfit h1 h48 h63).weak ?_
  rintro v H'' ⟨g', l', cap', rfl, _, hl', htk, rfl⟩
  have e1 : (xs ++ r).take (n * sz) = xs := by rw [← hxs]; exact List.take_left
  rw [e1] at htk
  have e2 : l' = (xs ++ (lx.drop offx).take (m * sz)) ++ l'.drop ((n + m) * sz) := by rw [← htk, List.take_append_drop]
  exact ⟨g', cap', l'.drop ((n + m) * sz), rfl, by rw [← e2]; exact hl', by rw [← e2]⟩
theorem Fx_appT {x y : Operand} {t e : TypeId} {sz by_ g n cap bx m c : Nat} {xs r news : List Value} {T : TypeId} {z z0 : Value} {q : Nat} {H1 R : Heap} (hx : ev L x = some (.slice (some ⟨g, 0, none⟩) n cap)) (hy : ev L y = some (.slice (some ⟨bx, 0, none⟩) m c))
    (ht : slOf P t = some (e, sz)) (hb : byOf P e = some by_) (hz : zeOf P e = some z) (hz0 : z.cells = (List.replicate q z0).toArray) (hq : q = sz)
    (hm : Rem H (bx, blk news T) H1) (hg : Rem H1 (g, blk (xs ++ r) e) R) (hl : (xs ++ r).length = cap * sz) (hxs : xs.length = n * sz)
    (hnews : news.length = m * sz) (h1 : ∀ u ∈ news, u.oneCell' = true) (hsz : 0 < sz) (h48 : (n + m) * by_ ≤ 140737488355328) (h63 : n + m ≤ 9223372036854775807) :
    Fx P E L H ⟨dst, .call ⟨.builtin .append, #[x, y], #[t, t]⟩, ty, pos, aft, gd⟩
      (fun v H'' => ∃ g' cap' r', v = .slice (some ⟨g', 0, none⟩) (n + m) cap' ∧ ((xs ++ news) ++ r').length = cap' * sz ∧ H'' = (g', blk ((xs ++ news) ++ r') e) :: R) := by
  refine Fx.less hm ?_
  intro nn a w next Q hf hh k
  refine Fx_app (news := news) hx hy ht hb hz hz0 hq (List.mem_cons_self ..) (.there _ hg) hl hxs (by rw [List.drop_zero, ← hnews, List.take_length]) (by rw [← hnews]; omega) h1 hsz h48 h63 nn a w next Q hf hh ?_
  rintro v w' H'' ⟨g', cap', r', rfl, h2, rfl⟩ hh'
  exact k _ w' _ ⟨g', cap', r', rfl, h2, rfl⟩ (hh'.sub (.cons_cons _ (List.sublist_cons_self _ _)))

theorem Fx_copy {x y : Operand} {t u e : TypeId} {sz b off m c bs offs ms cs : Nat} {l ls : List Value} {T Ts : TypeId} {fz : Nat × Nat} (hx : ev L x = some (.slice (some ⟨b, off, none⟩) m c)) (hy : ev L y = some (.slice (some ⟨bs, offs, none⟩) ms cs))
    (ht : slOf P t = some (e, sz)) (hm : (bs, Obj.cells ls.toArray Ts fz) ∈ H) (hfit : offs + min ms m * sz ≤ ls.length)
    (hr : Rep H (b, blk l T) (b, blk (spl off ((ls.drop offs).take (min ms m * sz)) l) T) H') (ho : off + min ms m * sz ≤ l.length) (h1 : ∀ u ∈ (ls.drop offs).take (min ms m * sz), u.oneCell' = true) :
    Fx P E L H ⟨dst, .call ⟨.builtin .copy, #[x, y], #[t, u]⟩, ty, pos, aft, gd⟩ (fun v H'' => v = .int .i64 ((min ms m : Nat) : Int) ∧ H'' = H') := by
  intro _ a w next Q hf hh k
  obtain ⟨inf, hu, hi, rfl⟩ := slOf_u ht
  have hlen : ((ls.drop offs).take (min ms m * inf.size)).length = min ms m * inf.size := by simp; omega
  have hload := run_loadCells_list (P := P) w ⟨bs, offs, none⟩ _ (hh.cellsAt hm (offx := offs) (k := min ms m * inf.size))
  rw [hlen] at hload
  obtain ⟨R, p1, p2⟩ := hr.perm
  obtain ⟨w', hst, hh'⟩ := run_storeCells_HA (P := P) b T R ((ls.drop offs).take (min ms m * inf.size)) off 0 l w (hh.perm p1) h1 (by rw [hlen]; exact ho)
  have hrun : (execOp a.eval ⟨dst, .call ⟨.builtin .copy, #[x, y], #[t, u]⟩, ty, pos, aft, gd⟩).run P w = .ok (.value (.int .i64 ((min ms m : Nat) : Int))) w' := by
    simp only [execOp, resolve, invoke, builtin, hf.eval hx, hf.eval hy, List.map_toArray, List.map_cons, List.map_nil]
    simp only [Builtin.copy_, Builtin.lenOf, Builtin.firstCells]
    have hmm : Nat.min ms m = min ms m := rfl
    simp [run_underlying hu, sizeOf, typeInfo, hi, hmm, hload, hst, goInt]
  simp only [Oper.wp, hrun, Oper.upon]
  exact k _ _ _ ⟨rfl, rfl⟩ (hh'.perm p2.symm)
/-! ### calls -/
def evs (L : Fra) : List Operand → Option (List Value)
  | [] => some []
  | x :: r => match ev L x, evs L r with
    | some v, some s => some (v :: s)
    | _, _ => none
theorem evs_map {n : Nat} {a : Act} (hf : FA n a L) : ∀ (xs : List Operand) (vs : List Value), evs L xs = some vs → xs.map a.eval = vs := by
  intro xs
  induction xs with
  | nil => intro vs h; simp [evs] at h; simp [h]
  | cons x r ih =>
    intro vs h
    simp only [evs] at h
    split at h
    · rename_i v s hv hs
      cases h
      simp [hf.eval hv, ih s hs]
    cases h
def callOk (P : Program) (f : FuncId) : Bool := match P.funcs[f]? with | some fn => !(fn.name == "runtime.NumGoroutine") && fn.body.isSome | none => false
theorem run_callFunc {f : FuncId} (h : callOk P f = true) (args : Array Value) (w : World) : (callFunc f args).run P w = .ok (.enter f args) w := by
  unfold callOk at h
  split at h
  · rename_i fn hf
    simp only [Bool.and_eq_true, Bool.not_eq_true'] at h
    have h1 : fn.name ≠ "runtime.NumGoroutine" := by simpa using h.1
    have h2 : fn.body ≠ none := by intro e; rw [e] at h; simp at h
    simp [callFunc, hf, h1, h2]
  cases h
theorem Fx_call {f : FuncId} {xs : List Operand} {vs : List Value} {ts : Array TypeId} {es F : Heap} {R : Value → Heap → Prop} (hok : callOk P f = true) (hv : evs L xs = some vs) (hp : Pick H es F) (hc : Ct P f vs es R) :
    Fx P E L H ⟨dst, .call ⟨.value (.func f), xs.toArray, ts⟩, ty, pos, aft, gd⟩ (fun v H'' => ∃ post, R v post ∧ H'' = post ++ F) := by
  intro _ a w next Q hf hh k
  have hrun : (execOp a.eval ⟨dst, .call ⟨.value (.func f), xs.toArray, ts⟩, ty, pos, aft, gd⟩).run P w = .ok (.enter f vs.toArray) w := by
    simp only [execOp, resolve, Deferred.ofValue, Act.eval, List.map_toArray, evs_map hf xs vs hv]
    simp [invoke, run_callFunc hok]
  simp only [Oper.wp, hrun, Oper.upon]
  refine (hc E F w (hh.perm hp.perm)).mono ?_
  rintro e w' ⟨v, post, rfl, hR, hh'⟩
  exact k v w' _ ⟨post, hR, rfl⟩ hh'
theorem Fx_callV {f : FuncId} {x : Operand} {fs cs : List Value} {xs : List Operand} {vs : List Value} {ts : Array TypeId} {es F : Heap} {R : Value → Heap → Prop} (hok : callOk P f = true) (hx : ev L x = some (.func (.func f) fs.toArray cs.toArray)) (hv : evs L xs = some vs)
    (hp : Pick H es F) (hc : Ct P f (fs ++ vs ++ cs) es R) :
    Fx P E L H ⟨dst, .call ⟨.value x, xs.toArray, ts⟩, ty, pos, aft, gd⟩ (fun v H'' => ∃ post, R v post ∧ H'' = post ++ F) := by
  intro _ a w next Q hf hh k
  have hrun : (execOp a.eval ⟨dst, .call ⟨.value x, xs.toArray, ts⟩, ty, pos, aft, gd⟩).run P w = .ok (.enter f (fs ++ vs ++ cs).toArray) w := by
    simp only [execOp, resolve, Deferred.ofValue, hf.eval hx, List.map_toArray, evs_map hf xs vs hv]
    simp [invoke, run_callFunc hok]
  simp only [Oper.wp, hrun, Oper.upon]
  refine (hc E F w (hh.perm hp.perm)).mono ?_
  rintro e w' ⟨v, post, rfl, hR, hh'⟩
  exact k v w' _ ⟨post, hR, rfl⟩ hh'
theorem Fx_callQ {f : FuncId} {xs : List Operand} {vs : List Value} {ts : Array TypeId} {es F : Heap} {R : Value → Prop} (hok : callOk P f = true) (hv : evs L xs = some vs) (hp : Pick H es F) (hc : Ct P f vs es (fun v p => R v ∧ p = es)) :
    Fx P E L H ⟨dst, .call ⟨.value (.func f), xs.toArray, ts⟩, ty, pos, aft, gd⟩ (fun v H'' => R v ∧ H'' = H) := by
  intro n a w next Q hf hh k
  refine Fx_call hok hv hp hc n a w next Q hf hh ?_
  rintro v w' H' ⟨post, ⟨hR, rfl⟩, rfl⟩ hh'
  exact k v w' H ⟨hR, rfl⟩ (hh'.perm hp.perm.symm)
end

theorem CW_live {P : Program} {E : World} {n : Nat} {L L' : Fra} {H : Heap} {c : Code} {Q : Exit → Act → World → Prop} {ks : List Nat} (hk : Keep L ks L') (h : CW P E n L' H c Q) : CW P E n L H c Q :=
  fun a w hf hh => h a w (hf.sub hk.sub) hh
theorem CW_dropB {P : Program} {E : World} {n : Nat} {L : Fra} {H H' : Heap} {e : Nat × Obj} {c : Code} {Q : Exit → Act → World → Prop} (hr : Rem H e H') (h : CW P E n L H' c Q) : CW P E n L H c Q :=
  fun a w hf hh => h a w hf ((hh.perm hr.perm).sub (List.sublist_cons_self _ _))

end Go.Proofs.YtgoddcicbpjknaaDoor

namespace Go.Proofs.YtgoddcicbpjknaaDoor
open Go

theorem sc_2 : Scal Tryd.prog 2 = true := by kernel_rfl
theorem sc_3 : Scal Tryd.prog 3 = true := by kernel_rfl
theorem sc_4 : Scal Tryd.prog 4 = true := by kernel_rfl
theorem sc_5 : Scal Tryd.prog 5 = true := by kernel_rfl
theorem sc_9 : Scal Tryd.prog 9 = true := by kernel_rfl
theorem sc_22 : Scal Tryd.prog 22 = true := by kernel_rfl
theorem sc_23 : Scal Tryd.prog 23 = true := by kernel_rfl
theorem sc_25 : Scal Tryd.prog 25 = true := by kernel_rfl
theorem sc_29 : Scal Tryd.prog 29 = true := by kernel_rfl
theorem sc_30 : Scal Tryd.prog 30 = true := by kernel_rfl
theorem sc_36 : Scal Tryd.prog 36 = true := by kernel_rfl
theorem sc_39 : Scal Tryd.prog 39 = true := by kernel_rfl
theorem sc_47 : Scal Tryd.prog 47 = true := by kernel_rfl
theorem sc_67 : Scal Tryd.prog 67 = true := by kernel_rfl
theorem sc_73 : Scal Tryd.prog 73 = true := by kernel_rfl
theorem sc_77 : Scal Tryd.prog 77 = true := by kernel_rfl
theorem sc_78 : Scal Tryd.prog 78 = true := by kernel_rfl
theorem sc_82 : Scal Tryd.prog 82 = true := by kernel_rfl
theorem sc_83 : Scal Tryd.prog 83 = true := by kernel_rfl
theorem sc_85 : Scal Tryd.prog 85 = true := by kernel_rfl
theorem sc_90 : Scal Tryd.prog 90 = true := by kernel_rfl
theorem sc_91 : Scal Tryd.prog 91 = true := by kernel_rfl
theorem sc_98 : Scal Tryd.prog 98 = true := by kernel_rfl
theorem sc_105 : Scal Tryd.prog 105 = true := by kernel_rfl
theorem sc_134 : Scal Tryd.prog 134 = true := by kernel_rfl
theorem fo_41_0 : fieldOff Tryd.prog 41 0 = some 0 := by kernel_rfl
theorem fo_41_1 : fieldOff Tryd.prog 41 1 = some 1 := by kernel_rfl
theorem fo_41_2 : fieldOff Tryd.prog 41 2 = some 2 := by kernel_rfl
theorem fo_41_3 : fieldOff Tryd.prog 41 3 = some 3 := by kernel_rfl
theorem fo_41_4 : fieldOff Tryd.prog 41 4 = some 4 := by kernel_rfl
theorem fo_41_5 : fieldOff Tryd.prog 41 5 = some 5 := by kernel_rfl
theorem fo_41_6 : fieldOff Tryd.prog 41 6 = some 21 := by kernel_rfl
theorem fo_41_7 : fieldOff Tryd.prog 41 7 = some 25 := by kernel_rfl
theorem fo_41_8 : fieldOff Tryd.prog 41 8 = some 26 := by kernel_rfl
theorem fo_43_0 : fieldOff Tryd.prog 43 0 = some 0 := by kernel_rfl
theorem fo_43_1 : fieldOff Tryd.prog 43 1 = some 1 := by kernel_rfl
theorem fo_43_2 : fieldOff Tryd.prog 43 2 = some 2 := by kernel_rfl
theorem fo_43_3 : fieldOff Tryd.prog 43 3 = some 3 := by kernel_rfl
theorem fo_43_4 : fieldOff Tryd.prog 43 4 = some 4 := by kernel_rfl
theorem fo_43_5 : fieldOff Tryd.prog 43 5 = some 5 := by kernel_rfl
theorem fo_43_6 : fieldOff Tryd.prog 43 6 = some 6 := by kernel_rfl
theorem fo_43_7 : fieldOff Tryd.prog 43 7 = some 22 := by kernel_rfl
theorem fo_43_8 : fieldOff Tryd.prog 43 8 = some 26 := by kernel_rfl
theorem fo_43_9 : fieldOff Tryd.prog 43 9 = some 27 := by kernel_rfl
theorem fo_89_0 : fieldOff Tryd.prog 89 0 = some 0 := by kernel_rfl
theorem fo_89_1 : fieldOff Tryd.prog 89 1 = some 1 := by kernel_rfl
theorem fo_89_2 : fieldOff Tryd.prog 89 2 = some 2 := by kernel_rfl
theorem fo_89_3 : fieldOff Tryd.prog 89 3 = some 3 := by kernel_rfl
theorem fo_89_4 : fieldOff Tryd.prog 89 4 = some 4 := by kernel_rfl
theorem fo_89_5 : fieldOff Tryd.prog 89 5 = some 5 := by kernel_rfl
theorem fo_89_7 : fieldOff Tryd.prog 89 7 = some 7 := by kernel_rfl
theorem fo_93_0 : fieldOff Tryd.prog 93 0 = some 0 := by kernel_rfl
theorem fo_93_1 : fieldOff Tryd.prog 93 1 = some 1 := by kernel_rfl
theorem fo_93_2 : fieldOff Tryd.prog 93 2 = some 2 := by kernel_rfl
theorem fo_93_3 : fieldOff Tryd.prog 93 3 = some 3 := by kernel_rfl
theorem fo_93_5 : fieldOff Tryd.prog 93 5 = some 5 := by kernel_rfl
theorem fo_93_7 : fieldOff Tryd.prog 93 7 = some 7 := by kernel_rfl
theorem fo_103_0 : fieldOff Tryd.prog 103 0 = some 0 := by kernel_rfl
theorem fo_112_0 : fieldOff Tryd.prog 112 0 = some 0 := by kernel_rfl
theorem fo_112_1 : fieldOff Tryd.prog 112 1 = some 32 := by kernel_rfl
theorem fo_112_2 : fieldOff Tryd.prog 112 2 = some 33 := by kernel_rfl
theorem fo_112_3 : fieldOff Tryd.prog 112 3 = some 34 := by kernel_rfl
theorem fo_112_4 : fieldOff Tryd.prog 112 4 = some 35 := by kernel_rfl
theorem fo_112_5 : fieldOff Tryd.prog 112 5 = some 36 := by kernel_rfl
theorem fo_112_6 : fieldOff Tryd.prog 112 6 = some 37 := by kernel_rfl
theorem fo_112_7 : fieldOff Tryd.prog 112 7 = some 38 := by kernel_rfl
theorem fo_112_8 : fieldOff Tryd.prog 112 8 = some 54 := by kernel_rfl
theorem fo_112_9 : fieldOff Tryd.prog 112 9 = some 58 := by kernel_rfl
theorem fo_112_10 : fieldOff Tryd.prog 112 10 = some 59 := by kernel_rfl
theorem fo_112_11 : fieldOff Tryd.prog 112 11 = some 60 := by kernel_rfl
theorem fo_112_12 : fieldOff Tryd.prog 112 12 = some 61 := by kernel_rfl
theorem fo_123_0 : fieldOff Tryd.prog 123 0 = some 0 := by kernel_rfl
theorem fo_137_0 : fieldOff Tryd.prog 137 0 = some 0 := by kernel_rfl
theorem fo_137_1 : fieldOff Tryd.prog 137 1 = some 1 := by kernel_rfl
theorem fo_137_2 : fieldOff Tryd.prog 137 2 = some 2 := by kernel_rfl
theorem fo_137_3 : fieldOff Tryd.prog 137 3 = some 3 := by kernel_rfl
theorem fo_142_0 : fieldOff Tryd.prog 142 0 = some 0 := by kernel_rfl
theorem fo_142_2 : fieldOff Tryd.prog 142 2 = some 17 := by kernel_rfl
theorem fo_142_3 : fieldOff Tryd.prog 142 3 = some 18 := by kernel_rfl
theorem fo_142_5 : fieldOff Tryd.prog 142 5 = some 21 := by kernel_rfl
theorem fo_142_8 : fieldOff Tryd.prog 142 8 = some 30 := by kernel_rfl
theorem fo_142_9 : fieldOff Tryd.prog 142 9 = some 31 := by kernel_rfl
theorem fo_142_10 : fieldOff Tryd.prog 142 10 = some 32 := by kernel_rfl
theorem fo_142_13 : fieldOff Tryd.prog 142 13 = some 41 := by kernel_rfl
theorem fo_142_14 : fieldOff Tryd.prog 142 14 = some 42 := by kernel_rfl
theorem fo_142_15 : fieldOff Tryd.prog 142 15 = some 43 := by kernel_rfl
theorem fo_142_16 : fieldOff Tryd.prog 142 16 = some 44 := by kernel_rfl
theorem fo_142_17 : fieldOff Tryd.prog 142 17 = some 45 := by kernel_rfl
theorem sl_22 : slOf Tryd.prog 22 = some (67, 1) := by kernel_rfl
theorem sl_23 : slOf Tryd.prog 23 = some (5, 1) := by kernel_rfl
theorem sl_25 : slOf Tryd.prog 25 = some (43, 28) := by kernel_rfl
theorem sl_29 : slOf Tryd.prog 29 = some (3, 1) := by kernel_rfl
theorem sl_30 : slOf Tryd.prog 30 = some (36, 1) := by kernel_rfl
theorem sl_33 : slOf Tryd.prog 33 = some (41, 27) := by kernel_rfl
theorem sl_36 : slOf Tryd.prog 36 = some (9, 1) := by kernel_rfl
theorem sl_61 : slOf Tryd.prog 61 = some (47, 1) := by kernel_rfl
theorem sl_66 : slOf Tryd.prog 66 = some (29, 1) := by kernel_rfl
theorem sl_83 : slOf Tryd.prog 83 = some (90, 1) := by kernel_rfl
theorem sl_160 : slOf Tryd.prog 160 = some (21, 1) := by kernel_rfl
theorem ar_37 : arOf Tryd.prog 37 = some (16, 1) := by kernel_rfl
theorem ar_38 : arOf Tryd.prog 38 = some (4, 1) := by kernel_rfl
theorem ar_95 : arOf Tryd.prog 95 = some (16, 1) := by kernel_rfl
theorem ar_109 : arOf Tryd.prog 109 = some (32, 1) := by kernel_rfl
theorem ar_110 : arOf Tryd.prog 110 = some (8, 1) := by kernel_rfl
theorem ar_140 : arOf Tryd.prog 140 = some (109, 1) := by kernel_rfl
theorem ar_162 : arOf Tryd.prog 162 = some (256, 1) := by kernel_rfl
theorem ag_37 : agOf Tryd.prog 37 = some 16 := by kernel_rfl
theorem ag_38 : agOf Tryd.prog 38 = some 4 := by kernel_rfl
theorem ag_41 : agOf Tryd.prog 41 = some 27 := by kernel_rfl
theorem ag_43 : agOf Tryd.prog 43 = some 28 := by kernel_rfl
theorem ag_95 : agOf Tryd.prog 95 = some 16 := by kernel_rfl
theorem ag_123 : agOf Tryd.prog 123 = some 3 := by kernel_rfl
theorem ag_146 : agOf Tryd.prog 146 = some 0 := by kernel_rfl
theorem sz_2 : szOf Tryd.prog 2 = some 1 := by kernel_rfl
theorem sz_3 : szOf Tryd.prog 3 = some 1 := by kernel_rfl
theorem sz_5 : szOf Tryd.prog 5 = some 1 := by kernel_rfl
theorem sz_9 : szOf Tryd.prog 9 = some 1 := by kernel_rfl
theorem sz_22 : szOf Tryd.prog 22 = some 1 := by kernel_rfl
theorem sz_23 : szOf Tryd.prog 23 = some 1 := by kernel_rfl
theorem sz_29 : szOf Tryd.prog 29 = some 1 := by kernel_rfl
theorem sz_30 : szOf Tryd.prog 30 = some 1 := by kernel_rfl
theorem sz_36 : szOf Tryd.prog 36 = some 1 := by kernel_rfl
theorem sz_38 : szOf Tryd.prog 38 = some 4 := by kernel_rfl
theorem sz_39 : szOf Tryd.prog 39 = some 1 := by kernel_rfl
theorem sz_41 : szOf Tryd.prog 41 = some 27 := by kernel_rfl
theorem sz_43 : szOf Tryd.prog 43 = some 28 := by kernel_rfl
theorem sz_47 : szOf Tryd.prog 47 = some 1 := by kernel_rfl
theorem sz_67 : szOf Tryd.prog 67 = some 1 := by kernel_rfl
theorem sz_73 : szOf Tryd.prog 73 = some 1 := by kernel_rfl
theorem sz_77 : szOf Tryd.prog 77 = some 1 := by kernel_rfl
theorem sz_82 : szOf Tryd.prog 82 = some 1 := by kernel_rfl
theorem sz_83 : szOf Tryd.prog 83 = some 1 := by kernel_rfl
theorem sz_91 : szOf Tryd.prog 91 = some 1 := by kernel_rfl
theorem sz_95 : szOf Tryd.prog 95 = some 16 := by kernel_rfl
theorem sz_98 : szOf Tryd.prog 98 = some 1 := by kernel_rfl
theorem sz_105 : szOf Tryd.prog 105 = some 1 := by kernel_rfl
theorem sz_123 : szOf Tryd.prog 123 = some 3 := by kernel_rfl
@[reducible] def zs_3 : List Value := [.int .i64 0]
theorem ze_3 : zeOf Tryd.prog 3 = some (.int .i64 0) := by kernel_rfl
theorem ze_5 : zeOf Tryd.prog 5 = some (.int .u8 0) := by kernel_rfl
theorem ze_9 : zeOf Tryd.prog 9 = some (.string ⟨#[]⟩) := by kernel_rfl
theorem ze_21 : zeOf Tryd.prog 21 = some (.int .i32 0) := by kernel_rfl
@[reducible] def zs_22 : List Value := [.slice none 0 0]
theorem ze_22 : zeOf Tryd.prog 22 = some (.slice none 0 0) := by kernel_rfl
@[reducible] def zs_23 : List Value := [.slice none 0 0]
theorem ze_23 : zeOf Tryd.prog 23 = some (.slice none 0 0) := by kernel_rfl
theorem ze_29 : zeOf Tryd.prog 29 = some (.slice none 0 0) := by kernel_rfl
theorem ze_30 : zeOf Tryd.prog 30 = some (.slice none 0 0) := by kernel_rfl
theorem ze_36 : zeOf Tryd.prog 36 = some (.slice none 0 0) := by kernel_rfl
@[reducible] def zs_38 : List Value := [.int .u8 0, .int .u8 0, .int .u8 0, .int .u8 0]
theorem ze_38 : zeOf Tryd.prog 38 = some (.agg zs_38.toArray) := by kernel_rfl
@[reducible] def zs_41 : List Value := [.string ⟨#[]⟩, .slice none 0 0, .int .i64 0, .int .i64 0, .int .i64 0, .int .u8 0, .int .u8 0, .int .u8 0, .int .u8 0, .int .u8 0, .int .u8 0, .int .u8 0, .int .u8 0, .int .u8 0, .int .u8 0, .int .u8 0, .int .u8 0, .int .u8 0, .int .u8 0, .int .u8 0, .int .u8 0, .int .u8 0, .int .u8 0, .int .u8 0, .int .u8 0, .int .u64 0, .int .u64 0]
theorem ze_41 : zeOf Tryd.prog 41 = some (.agg zs_41.toArray) := by kernel_rfl
@[reducible] def zs_43 : List Value := [.string ⟨#[]⟩, .bool false, .slice none 0 0, .int .i64 0, .int .i64 0, .int .i64 0, .int .u8 0, .int .u8 0, .int .u8 0, .int .u8 0, .int .u8 0, .int .u8 0, .int .u8 0, .int .u8 0, .int .u8 0, .int .u8 0, .int .u8 0, .int .u8 0, .int .u8 0, .int .u8 0, .int .u8 0, .int .u8 0, .int .u8 0, .int .u8 0, .int .u8 0, .int .u8 0, .int .u64 0, .int .u64 0]
theorem ze_43 : zeOf Tryd.prog 43 = some (.agg zs_43.toArray) := by kernel_rfl
theorem ze_67 : zeOf Tryd.prog 67 = some (.int .u32 0) := by kernel_rfl
@[reducible] def zs_73 : List Value := [.nilFunc]
theorem ze_73 : zeOf Tryd.prog 73 = some (.nilFunc) := by kernel_rfl
theorem ze_77 : zeOf Tryd.prog 77 = some (.nilFunc) := by kernel_rfl
@[reducible] def zs_89 : List Value := [.bool false, .int .u32 0, .slice none 0 0, .pointer none, .slice none 0 0, .slice none 0 0, .int .i64 0, .nilIface, .nilIface]
theorem ze_89 : zeOf Tryd.prog 89 = some (.agg zs_89.toArray) := by kernel_rfl
theorem ze_90 : zeOf Tryd.prog 90 = some (.pointer none) := by kernel_rfl
@[reducible] def zs_93 : List Value := [.string ⟨#[]⟩, .int .u16 0, .slice none 0 0, .int .i64 0, .int .i64 0, .int .u32 0, .int .i64 0, .pointer none, .pointer none]
theorem ze_93 : zeOf Tryd.prog 93 = some (.agg zs_93.toArray) := by kernel_rfl
@[reducible] def zs_95 : List Value := [.int .u8 0, .int .u8 0, .int .u8 0, .int .u8 0, .int .u8 0, .int .u8 0, .int .u8 0, .int .u8 0, .int .u8 0, .int .u8 0, .int .u8 0, .int .u8 0, .int .u8 0, .int .u8 0, .int .u8 0, .int .u8 0]
theorem ze_95 : zeOf Tryd.prog 95 = some (.agg zs_95.toArray) := by kernel_rfl
@[reducible] def zs_103 : List Value := [.slice none 0 0]
theorem ze_103 : zeOf Tryd.prog 103 = some (.agg zs_103.toArray) := by kernel_rfl
theorem ze_105 : zeOf Tryd.prog 105 = some (.nilIface) := by kernel_rfl
@[reducible] def zs_112 : List Value := [.int .u16 0, .int .u16 0, .int .u16 0, .int .u16 0, .int .u16 0, .int .u16 0, .int .u16 0, .int .u16 0, .int .u16 0, .int .u16 0, .int .u16 0, .int .u16 0, .int .u16 0, .int .u16 0, .int .u16 0, .int .u16 0, .int .u16 0, .int .u16 0, .int .u16 0, .int .u16 0, .int .u16 0, .int .u16 0, .int .u16 0, .int .u16 0, .int .u16 0, .int .u16 0, .int .u16 0, .int .u16 0, .int .u16 0, .int .u16 0, .int .u16 0, .int .u16 0, .int .u16 0, .int .u8 0, .int .u8 0, .int .u32 0, .int .u32 0, .int .u32 0, .int .u8 0, .int .u8 0, .int .u8 0, .int .u8 0, .int .u8 0, .int .u8 0, .int .u8 0, .int .u8 0, .int .u8 0, .int .u8 0, .int .u8 0, .int .u8 0, .int .u8 0, .int .u8 0, .int .u8 0, .int .u8 0, .int .u8 0, .int .u8 0, .int .u8 0, .int .u8 0, .int .u64 0, .int .u64 0, .int .u32 0, .int .u8 0, .int .u8 0, .int .u8 0, .int .u8 0, .int .u8 0, .int .u8 0, .int .u8 0, .int .u8 0]
theorem ze_112 : zeOf Tryd.prog 112 = some (.agg zs_112.toArray) := by kernel_rfl
@[reducible] def zs_123 : List Value := [.int .i64 0, .string ⟨#[]⟩, .int .i64 0]
theorem ze_123 : zeOf Tryd.prog 123 = some (.agg zs_123.toArray) := by kernel_rfl
@[reducible] def zs_137 : List Value := [.pointer none, .slice none 0 0, .slice none 0 0, .slice none 0 0]
theorem ze_137 : zeOf Tryd.prog 137 = some (.agg zs_137.toArray) := by kernel_rfl
@[reducible] def zs_142 : List Value := [.int .u64 0, .int .u8 0, .int .u8 0, .int .u8 0, .int .u8 0, .int .u8 0, .int .u8 0, .int .u8 0, .int .u8 0, .int .u8 0, .int .u8 0, .int .u8 0, .int .u8 0, .int .u8 0, .int .u8 0, .int .u8 0, .int .u8 0, .int .u16 0, .int .u16 0, .int .u8 0, .int .u8 0, .int .u16 0, .int .u8 0, .int .u8 0, .int .u8 0, .int .u8 0, .int .u8 0, .int .u8 0, .int .u8 0, .int .u8 0, .int .u32 0, .int .u32 0, .int .u32 0, .int .u8 0, .int .u8 0, .int .u8 0, .int .u8 0, .int .u8 0, .int .u8 0, .int .u8 0, .int .u8 0, .int .u32 0, .int .u32 0, .int .u32 0, .int .u32 0, .int .u32 0, .int .u32 0, .int .u32 0, .int .u32 0, .int .u32 0, .int .u32 0, .int .u32 0, .int .u32 0, .int .u32 0, .int .u32 0, .int .u32 0, .int .u32 0, .int .u32 0, .int .u32 0, .int .u32 0, .int .u32 0, .int .u32 0, .int .u32 0, .int .u32 0, .int .u32 0, .int .u32 0, .int .u32 0, .int .u32 0, .int .u32 0, .int .u32 0, .int .u32 0, .int .u32 0, .int .u32 0, .int .u32 0, .int .u32 0, .int .u32 0, .int .u32 0, .int .u32 0, .int .u32 0, .int .u32 0, .int .u32 0, .int .u32 0, .int .u32 0, .int .u32 0, .int .u32 0, .int .u32 0, .int .u32 0, .int .u32 0, .int .u32 0, .int .u32 0, .int .u32 0, .int .u32 0, .int .u32 0, .int .u32 0, .int .u32 0, .int .u32 0, .int .u32 0, .int .u32 0, .int .u32 0, .int .u32 0, .int .u32 0, .int .u32 0, .int .u32 0, .int .u32 0, .int .u32 0, .int .u32 0, .int .u32 0, .int .u32 0, .int .u32 0, .int .u32 0, .int .u32 0, .int .u32 0, .int .u32 0, .int .u32 0, .int .u32 0, .int .u32 0, .int .u32 0, .int .u32 0, .int .u32 0, .int .u32 0, .int .u32 0, .int .u32 0, .int .u32 0, .int .u32 0, .int .u32 0, .int .u32 0, .int .u32 0, .int .u32 0, .int .u32 0, .int .u32 0, .int .u32 0, .int .u32 0, .int .u32 0, .int .u32 0, .int .u32 0, .int .u32 0, .int .u32 0, .int .u32 0, .int .u32 0, .int .u32 0, .int .u32 0, .int .u32 0, .int .u32 0, .int .u32 0, .int .u32 0, .int .u32 0, .int .u32 0, .int .u32 0, .int .u32 0, .int .u32 0, .int .u32 0, .int .u32 0, .int .u32 0, .int .u32 0]
theorem ze_142 : zeOf Tryd.prog 142 = some (.agg zs_142.toArray) := by kernel_rfl
theorem in_2 : inOf Tryd.prog 2 = some .i64 := by kernel_rfl
theorem in_3 : inOf Tryd.prog 3 = some .i64 := by kernel_rfl
theorem in_5 : inOf Tryd.prog 5 = some .u8 := by kernel_rfl
theorem in_21 : inOf Tryd.prog 21 = some .i32 := by kernel_rfl
theorem in_39 : inOf Tryd.prog 39 = some .u64 := by kernel_rfl
theorem in_47 : inOf Tryd.prog 47 = some .u16 := by kernel_rfl
theorem in_67 : inOf Tryd.prog 67 = some .u32 := by kernel_rfl
theorem by_3 : byOf Tryd.prog 3 = some 8 := by kernel_rfl
theorem by_5 : byOf Tryd.prog 5 = some 1 := by kernel_rfl
theorem by_9 : byOf Tryd.prog 9 = some 16 := by kernel_rfl
theorem by_21 : byOf Tryd.prog 21 = some 4 := by kernel_rfl
theorem by_29 : byOf Tryd.prog 29 = some 24 := by kernel_rfl
theorem by_36 : byOf Tryd.prog 36 = some 24 := by kernel_rfl
theorem by_41 : byOf Tryd.prog 41 = some 104 := by kernel_rfl
theorem by_43 : byOf Tryd.prog 43 = some 112 := by kernel_rfl
theorem by_67 : byOf Tryd.prog 67 = some 4 := by kernel_rfl
theorem by_90 : byOf Tryd.prog 90 = some 8 := by kernel_rfl
theorem st_9 : isStr Tryd.prog 9 = true := by kernel_rfl
theorem ok_13 : callOk Tryd.prog 13 = true := by kernel_rfl
theorem ok_14 : callOk Tryd.prog 14 = true := by kernel_rfl
theorem ok_15 : callOk Tryd.prog 15 = true := by kernel_rfl
theorem ok_16 : callOk Tryd.prog 16 = true := by kernel_rfl
theorem ok_17 : callOk Tryd.prog 17 = true := by kernel_rfl
theorem ok_18 : callOk Tryd.prog 18 = true := by kernel_rfl
theorem ok_22 : callOk Tryd.prog 22 = true := by kernel_rfl
theorem ok_23 : callOk Tryd.prog 23 = true := by kernel_rfl
theorem ok_24 : callOk Tryd.prog 24 = true := by kernel_rfl
theorem ok_25 : callOk Tryd.prog 25 = true := by kernel_rfl
theorem ok_26 : callOk Tryd.prog 26 = true := by kernel_rfl
theorem ok_27 : callOk Tryd.prog 27 = true := by kernel_rfl
theorem ok_28 : callOk Tryd.prog 28 = true := by kernel_rfl
theorem ok_29 : callOk Tryd.prog 29 = true := by kernel_rfl
theorem ok_30 : callOk Tryd.prog 30 = true := by kernel_rfl
theorem ok_31 : callOk Tryd.prog 31 = true := by kernel_rfl
theorem ok_32 : callOk Tryd.prog 32 = true := by kernel_rfl
theorem ok_33 : callOk Tryd.prog 33 = true := by kernel_rfl
theorem ok_34 : callOk Tryd.prog 34 = true := by kernel_rfl
theorem ok_35 : callOk Tryd.prog 35 = true := by kernel_rfl
theorem ok_36 : callOk Tryd.prog 36 = true := by kernel_rfl
theorem ok_38 : callOk Tryd.prog 38 = true := by kernel_rfl
theorem ok_39 : callOk Tryd.prog 39 = true := by kernel_rfl
theorem ok_40 : callOk Tryd.prog 40 = true := by kernel_rfl
theorem ok_46 : callOk Tryd.prog 46 = true := by kernel_rfl
theorem ok_47 : callOk Tryd.prog 47 = true := by kernel_rfl
theorem ok_48 : callOk Tryd.prog 48 = true := by kernel_rfl
theorem ok_49 : callOk Tryd.prog 49 = true := by kernel_rfl
theorem ok_50 : callOk Tryd.prog 50 = true := by kernel_rfl
theorem ok_51 : callOk Tryd.prog 51 = true := by kernel_rfl
theorem ok_54 : callOk Tryd.prog 54 = true := by kernel_rfl
theorem ok_55 : callOk Tryd.prog 55 = true := by kernel_rfl
theorem ok_56 : callOk Tryd.prog 56 = true := by kernel_rfl
theorem ok_57 : callOk Tryd.prog 57 = true := by kernel_rfl
theorem ok_58 : callOk Tryd.prog 58 = true := by kernel_rfl
theorem ok_59 : callOk Tryd.prog 59 = true := by kernel_rfl
theorem ok_60 : callOk Tryd.prog 60 = true := by kernel_rfl
theorem ok_61 : callOk Tryd.prog 61 = true := by kernel_rfl
theorem ok_64 : callOk Tryd.prog 64 = true := by kernel_rfl
theorem ok_65 : callOk Tryd.prog 65 = true := by kernel_rfl
theorem ok_66 : callOk Tryd.prog 66 = true := by kernel_rfl
theorem ok_67 : callOk Tryd.prog 67 = true := by kernel_rfl
theorem ok_68 : callOk Tryd.prog 68 = true := by kernel_rfl
theorem ok_69 : callOk Tryd.prog 69 = true := by kernel_rfl
theorem ok_70 : callOk Tryd.prog 70 = true := by kernel_rfl
theorem ok_72 : callOk Tryd.prog 72 = true := by kernel_rfl

section
variable {P : Program} {ops : Array Oper} {Q : Exit → Act → World → Prop} {Hp : World → Prop} {Eff : List Nat}

def Till (Eff : List Nat) (Hp : World → Prop) (listed : Array Bool) (w : World) : Prop := (∀ e ∈ Eff, listed.getD e false = false) → Hp w

def wpAnyL (P : Program) (ops : Array Oper) (Q : Exit → Act → World → Prop) (Eff : List Nat) (Hp : World → Prop) : Nat → Array Bool → Act → World → Prop
  | 0, listed, a, w => Region.ready .any ops listed = [] ∧ Q .normal a w
  | fuel + 1, listed, a, w =>
    (Region.ready .any ops listed = [] → Q .normal a w) ∧
    ∀ i ∈ Region.ready .any ops listed, wpOp P ops Q i (fun a' w' => Till Eff Hp (listed.setIfInBounds i true) w' ∧ wpAnyL P ops Q Eff Hp fuel (listed.setIfInBounds i true) a' w') a w

theorem wpAny_of_L : ∀ (fuel : Nat) (listed : Array Bool) (a : Act) (w : World), wpAnyL P ops Q Eff Hp fuel listed a w → wpAny P .any ops Q fuel listed a w
  | 0, _, _, _, h => h
  | fuel + 1, _, _, _, h => ⟨h.1, fun i hi => wpOp_mono (fun a' w' h' => wpAny_of_L fuel _ a' w' h'.2) (h.2 i hi)⟩

theorem getD_set_iff (listed : Array Bool) (i j : Nat) (h : j ≠ i) : (listed.setIfInBounds i true).getD j false = listed.getD j false := getD_set_ne false (Ne.symm h)

theorem till_set {listed : Array Bool} {i : Nat} (hi : i ∉ Eff) {w : World} : Till Eff Hp (listed.setIfInBounds i true) w ↔ Till Eff Hp listed w := by
  unfold Till
  have : (∀ e ∈ Eff, (listed.setIfInBounds i true).getD e false = false) ↔ (∀ e ∈ Eff, listed.getD e false = false) := by
    constructor
    · intro h e he; rw [← getD_set_iff listed i e (fun e' => hi (e' ▸ he))]; exact h e he
    intro h e he; rw [getD_set_iff listed i e (fun e' => hi (e' ▸ he))]; exact h e he
  rw [this]

theorem not_after {i : Nat} {listed : Array Bool} {oj : Oper} (hr : i ∈ Region.ready .any ops listed) (hall : ∀ e ∈ oj.after, Region.binds .any e = true → listed.getD e.on false = true) :
    ∀ e ∈ oj.after, Region.binds .any e = true → e.on ≠ i := fun e he hb heq => by
  have h1 := hall e he hb
  have h0 := (mem_ready.1 hr).1
  rw [heq] at h1
  rcases Nat.lt_or_ge i listed.size with h' | h'
  · simp [h'] at h0 h1; rw [h0] at h1; cases h1
  simp [Array.getElem?_eq_none h'] at h1

theorem wpAnyL_any {i : Nat} {oi : Oper} {v : Value} (hi : ops[i]? = some oi) (hsel : ∀ (j : Nat) (o : Oper) cs b, ops[j]? = some o → o.op ≠ .select cs b)
    (hQ : ∀ c a w, Q (.panic c) (a.put oi.dst v) w → Q (.panic c) a w) (hE : i ∉ Eff) :
    ∀ (fuel : Nat) (listed : Array Bool) (a : Act) (w : World),
      (∀ j oj, ops[j]? = some oj → j ≠ i → listed.getD j true = false → (∀ e ∈ oj.after, Region.binds .any e = true → e.on ≠ i) → oi.apart ops oj = true) →
      i ∈ Region.ready .any ops listed → YieldsIf P ops (fun _ => True) oi v a → Till Eff Hp listed w →
      wpAnyL P ops Q Eff Hp fuel (listed.setIfInBounds i true) (a.put oi.dst v) w → wpAnyL P ops Q Eff Hp (fuel + 1) listed a w := by
  intro fuel
  induction fuel with
  | zero =>
    intro listed a w _ hr hy hS K
    refine ⟨fun h => (by rw [h] at hr; cases hr), fun j hj => ?_⟩
    by_cases hji : j = i
    · subst hji; exact hy.wpOp hi trivial ⟨(till_set hE).2 hS, K⟩
    have := ready_mono hj hji
    rw [K.1] at this
    cases this
  | succ fuel ih =>
    intro listed a w hfree hr hy hS K
    refine ⟨fun h => (by rw [h] at hr; cases hr), fun j hj => ?_⟩
    by_cases hji : j = i
    · subst hji; exact hy.wpOp hi trivial ⟨(till_set hE).2 hS, K⟩
    have h1 := K.2 j (ready_mono hj hji)
    obtain ⟨hjun, oj, hoj, hall⟩ := mem_ready.1 hj
    have h2 := wpOp_putIf hoj (hfree j oj hoj hji hjun (not_after hr hall)) (fun cs b => hsel i oi cs b hi) (fun cs b => hsel j oj cs b hoj) hQ hy h1
    have hfree' : ∀ k ok, ops[k]? = some ok → k ≠ i → (listed.setIfInBounds j true).getD k true = false →
        (∀ e ∈ ok.after, Region.binds .any e = true → e.on ≠ i) → oi.apart ops ok = true := fun k ok hk hki hun hno => by
      refine hfree k ok hk hki ?_ hno
      by_cases hjk : j = k
      · subst hjk; exact hjun
      rw [getD_set_ne true hjk] at hun; exact hun
    refine wpOp_mono (fun a' w' h3 => ?_) h2
    have hc : (listed.setIfInBounds i true).setIfInBounds j true = (listed.setIfInBounds j true).setIfInBounds i true := Array.setIfInBounds_comm _ _ (Ne.symm hji)
    have hT : Till Eff Hp (listed.setIfInBounds j true) w' := by
      have := h3.2.1
      rw [hc] at this
      exact (till_set hE).1 this
    refine ⟨hT, ih (listed.setIfInBounds j true) a' w' hfree' (ready_mono hr (Ne.symm hji)) h3.1 hT ?_⟩
    rw [← hc]
    exact h3.2.2

def closedB (ops : Array Oper) (M : Array Bool) (i : Nat) : Bool := (List.range ops.size).all fun j => j == i || M.getD j false || !((ops[j]?).map (·.after.all fun e => !Region.binds .any e || M.getD e.on false)).getD false
def subB (listed M : Array Bool) : Bool := (List.range listed.size).all fun j => !listed.getD j false || M.getD j false

theorem wpAnyL_load {i : Nat} {oi : Oper} {v : Value} (M : Array Bool) (hi : ops[i]? = some oi) (hsel : ∀ (j : Nat) (o : Oper) cs b, ops[j]? = some o → o.op ≠ .select cs b)
    (hQ : ∀ c a w, Q (.panic c) (a.put oi.dst v) w → Q (.panic c) a w) (hE : i ∉ Eff) (hcl : closedB ops M i = true) (hEM : ∀ e ∈ Eff, M.getD e false = false) :
    ∀ (fuel : Nat) (listed : Array Bool) (a : Act) (w : World), (∀ j, listed.getD j false = true → M.getD j false = true) →
      (∀ j oj, ops[j]? = some oj → j ≠ i → listed.getD j true = false → (∀ e ∈ oj.after, Region.binds .any e = true → e.on ≠ i) → oi.apart ops oj = true) →
      i ∈ Region.ready .any ops listed → YieldsIf P ops Hp oi v a → Hp w →
      wpAnyL P ops Q Eff Hp fuel (listed.setIfInBounds i true) (a.put oi.dst v) w → wpAnyL P ops Q Eff Hp (fuel + 1) listed a w := by
  intro fuel
  induction fuel with
  | zero =>
    intro listed a w _ _ hr hy hS K
    refine ⟨fun h => (by rw [h] at hr; cases hr), fun j hj => ?_⟩
    by_cases hji : j = i
    · subst hji; exact hy.wpOp hi hS ⟨fun _ => hS, K⟩
    have := ready_mono hj hji
    rw [K.1] at this
    cases this
  | succ fuel ih =>
    intro listed a w hsub hfree hr hy hS K
    refine ⟨fun h => (by rw [h] at hr; cases hr), fun j hj => ?_⟩
    by_cases hji : j = i
    · subst hji; exact hy.wpOp hi hS ⟨fun _ => hS, K⟩
    have h1 := K.2 j (ready_mono hj hji)
    obtain ⟨hjun, oj, hoj, hall⟩ := mem_ready.1 hj
    have h2 := wpOp_putIf hoj (hfree j oj hoj hji hjun (not_after hr hall)) (fun cs b => hsel i oi cs b hi) (fun cs b => hsel j oj cs b hoj) hQ hy h1
    have hfree' : ∀ k ok, ops[k]? = some ok → k ≠ i → (listed.setIfInBounds j true).getD k true = false →
        (∀ e ∈ ok.after, Region.binds .any e = true → e.on ≠ i) → oi.apart ops ok = true := fun k ok hk hki hun hno => by
      refine hfree k ok hk hki ?_ hno
      by_cases hjk : j = k
      · subst hjk; exact hjun
      rw [getD_set_ne true hjk] at hun; exact hun
    have hjlt : j < ops.size := by
      rcases Nat.lt_or_ge j ops.size with h | h
      · exact h
      simp [Array.getElem?_eq_none h] at hoj
    have hjM : M.getD j false = true := by
      unfold closedB at hcl
      rw [List.all_eq_true] at hcl
      have := hcl j (List.mem_range.2 hjlt)
      have hd : ((ops[j]?).map (·.after.all fun e => !Region.binds .any e || M.getD e.on false)).getD false = true := by
        rw [hoj]
        simp only [Option.map_some, Option.getD_some, Array.all_eq_true_iff_forall_mem]
        intro e he
        cases hb : Region.binds .any e with
        | false => simp
        | true => simp only [Bool.not_true, Bool.false_or]; exact hsub _ (hall e he hb)
      rw [hd] at this
      have hne : (j == i) = false := by simpa using hji
      simpa [hne] using this
    have hsub' : ∀ k, (listed.setIfInBounds j true).getD k false = true → M.getD k false = true := fun k hk => by
      by_cases hjk : k = j
      · subst hjk; exact hjM
      rw [getD_set_iff listed j k hjk] at hk; exact hsub k hk
    refine wpOp_mono (fun a' w' h3 => ?_) h2
    have hc : (listed.setIfInBounds i true).setIfInBounds j true = (listed.setIfInBounds j true).setIfInBounds i true := Array.setIfInBounds_comm _ _ (Ne.symm hji)
    have hT : Hp w' := by
      have h4 := h3.2.1
      rw [hc] at h4
      refine (till_set hE).1 h4 fun e he => ?_
      cases hb : (listed.setIfInBounds j true).getD e false with
      | false => rfl
      | true => exact absurd (hsub' e hb) (by rw [hEM e he]; simp)
    refine ⟨fun _ => hT, ih (listed.setIfInBounds j true) a' w' hsub' hfree' (ready_mono hr (Ne.symm hji)) h3.1 hT ?_⟩
    rw [← hc]
    exact h3.2.2
end

section
variable {P : Program} {E : World} {n : Nat} {ops : Array Oper} {L : Fra} {H : Heap} {Q : Exit → Act → World → Prop} {Hs : Heap} {Eff : List Nat}

def RD (P : Program) (E : World) (n : Nat) (ops : Array Oper) (Eff : List Nat) (Hs : Heap) (fuel : Nat) (listed : Array Bool) (L : Fra) (H : Heap) (Q : Exit → Act → World → Prop) : Prop :=
  ∀ a w, FA n a L → HA E w H → Till Eff (fun w' => HA E w' Hs) listed w → wpAnyL P ops Q Eff (fun w' => HA E w' Hs) fuel listed a w

inductive Sub : Heap → Heap → Prop
  | nil (H : Heap) : Sub [] H
  | cons {H R es : Heap} {e : Nat × Obj} (h : Rem H e R) (k : Sub es R) : Sub (e :: es) H
theorem Sub.ha {w : World} {H Hs : Heap} (h : Sub Hs H) (hh : HA E w H) : HA E w Hs := by
  induction h generalizing E w with
  | nil H => exact ⟨hh.os, hh.tape, hh.output, by simp, by simp, hh.size, hh.fresh⟩
  | cons h k ih =>
    rename_i H R es e
    have h1 := hh.perm h.perm
    have h2 := ih (E := E) (w := w) (h1.sub (List.sublist_cons_self _ _))
    refine ⟨hh.os, hh.tape, hh.output, ?_, ?_, hh.size, hh.fresh⟩
    · simp only [List.map_cons, List.nodup_cons]
      refine ⟨fun hm => ?_, h2.nodup⟩
      have h3 := h1.nodup
      simp only [List.map_cons, List.nodup_cons] at h3
      obtain ⟨p, hp, hpe⟩ := List.mem_map.1 hm
      have : ∀ {A B : Heap}, Sub A B → ∀ p ∈ A, p ∈ B := by
        intro A B hs
        induction hs with
        | nil _ => intro p hp; cases hp
        | cons h' _ ih' =>
          intro p hp
          rcases List.mem_cons.1 hp with rfl | hp
          · exact h'.mem
          exact h'.perm.mem_iff.2 (List.mem_cons_of_mem _ (ih' p hp))
      exact h3.1 (hpe ▸ List.mem_map_of_mem (this k p hp))
    intro p hp
    rcases List.mem_cons.1 hp with rfl | hp
    · exact hh.mem _ h.mem
    exact h2.mem p hp

theorem Sub.refl : ∀ (H : Heap), Sub H H
  | [] => .nil _
  | e :: H => .cons (.here e H) (Sub.refl H)
theorem Sub.more {e : Nat × Obj} {Hs H : Heap} (h : Sub Hs H) : Sub Hs (e :: H) := by
  induction h with
  | nil H => exact .nil _
  | cons h k ih => exact .cons (.there e h) ih
theorem CW_draw {id : Nat} {l : List Oper} (Eff : List Nat) (Hs : Heap) (hm : P.follows .mixedOrders = true) (hS : Sub Hs H)
    (h : RD P E n l.toArray Eff Hs l.length (Array.replicate l.length false) L H Q) : CW P E n L H (.region id l.toArray true) Q := by
  intro a w hf hh
  refine wp_region_any hm ?_
  have := h a _ hf hh.drew (fun _ => hS.ha hh.drew)
  simpa using wpAny_of_L _ _ _ _ this

def notIn (i : Nat) (l : List Nat) : Bool := l.all fun e => !(Nat.beq e i)
theorem notIn_spec {i : Nat} {l : List Nat} (h : notIn i l = true) : i ∉ l := by
  intro hm
  unfold notIn at h
  rw [List.all_eq_true] at h
  have := h i hm
  simp [Nat.beq_refl] at this

theorem RD_y {i d : Nat} {oi : Oper} {v : Value} {fuel : Nat} {listed : Array Bool} (hi : ops[i]? = some oi) (hd : oi.dst = some d) (hg : guardIs ops L oi = some true) (hn : Nat.blt d n = true)
    (hst : (Region.noSelect ops && Region.free .any ops listed i && (Region.ready .any ops listed).contains i && notIn i Eff) = true)
    (hQ : ∀ c a w, Q (.panic c) (a.put (some d) v) w → Q (.panic c) a w) (hy : Yl P L oi v)
    (k : RD P E n ops Eff Hs fuel (listed.setIfInBounds i true) ((d, v) :: L) H Q) : RD P E n ops Eff Hs (fuel + 1) listed L H Q := by
  intro a w hf hh hS
  simp only [Bool.and_eq_true] at hst
  obtain ⟨⟨⟨h1, h2⟩, h3⟩, h4⟩ := hst
  refine wpAnyL_any hi (Region.noSelect_spec h1) (by rw [hd]; exact hQ) (notIn_spec h4) fuel listed a w (Region.free_spec hi h2) (by simpa using h3) (Or.inl ⟨wanted_of hf hg, fun w' _ => hy n a w' hf⟩) hS ?_
  rw [hd]
  exact k _ w (hf.put (by simpa [Nat.blt_eq] using hn) v) hh ((till_set (notIn_spec h4)).2 hS)
theorem RD_skip {i d : Nat} {oi : Oper} {fuel : Nat} {listed : Array Bool} (hi : ops[i]? = some oi) (hd : oi.dst = some d) (hg : guardIs ops L oi = some false) (hn : Nat.blt d n = true)
    (hst : (Region.noSelect ops && Region.free .any ops listed i && (Region.ready .any ops listed).contains i && notIn i Eff) = true)
    (hQ : ∀ c a w, Q (.panic c) (a.put (some d) undef) w → Q (.panic c) a w)
    (k : RD P E n ops Eff Hs fuel (listed.setIfInBounds i true) ((d, undef) :: L) H Q) : RD P E n ops Eff Hs (fuel + 1) listed L H Q := by
  intro a w hf hh hS
  simp only [Bool.and_eq_true] at hst
  obtain ⟨⟨⟨h1, h2⟩, h3⟩, h4⟩ := hst
  refine wpAnyL_any hi (Region.noSelect_spec h1) (by rw [hd]; exact hQ) (notIn_spec h4) fuel listed a w (Region.free_spec hi h2) (by simpa using h3) (Or.inr ⟨wanted_of hf hg, rfl⟩) hS ?_
  rw [hd]
  exact k _ w (hf.put (by simpa [Nat.blt_eq] using hn) undef) hh ((till_set (notIn_spec h4)).2 hS)
theorem RD_h {i d : Nat} {oi : Oper} {v : Value} {fuel : Nat} {listed : Array Bool} (M : Array Bool) (hi : ops[i]? = some oi) (hd : oi.dst = some d) (hg : guardIs ops L oi = some true) (hn : Nat.blt d n = true)
    (hst : (Region.noSelect ops && Region.free .any ops listed i && (Region.ready .any ops listed).contains i && notIn i Eff && closedB ops M i && subB listed M && Eff.all (fun e => !(M.getD e false))) = true)
    (hQ : ∀ c a w, Q (.panic c) (a.put (some d) v) w → Q (.panic c) a w) (hy : Yh P E L Hs oi v)
    (k : RD P E n ops Eff Hs fuel (listed.setIfInBounds i true) ((d, v) :: L) H Q) : RD P E n ops Eff Hs (fuel + 1) listed L H Q := by
  intro a w hf hh hS
  simp only [Bool.and_eq_true] at hst
  obtain ⟨⟨⟨⟨⟨⟨h1, h2⟩, h3⟩, h4⟩, h5⟩, h6⟩, h7⟩ := hst
  have hEM : ∀ e ∈ Eff, M.getD e false = false := fun e he => by
    have := (List.all_eq_true.1 h7) e he
    simpa using this
  have hsub : ∀ j, listed.getD j false = true → M.getD j false = true := fun j hj => by
    unfold subB at h6
    have hlt : j < listed.size := by
      rcases Nat.lt_or_ge j listed.size with h | h
      · exact h
      simp [Array.getElem?_eq_none h] at hj
    have := (List.all_eq_true.1 h6) j (List.mem_range.2 hlt)
    rw [hj] at this
    simpa using this
  have hw : HA E w Hs := hS fun e he => by
    cases hb : listed.getD e false with
    | false => rfl
    | true => exact absurd (hsub e hb) (by rw [hEM e he]; simp)
  refine wpAnyL_load M hi (Region.noSelect_spec h1) (by rw [hd]; exact hQ) (notIn_spec h4) h5 hEM fuel listed a w hsub (Region.free_spec hi h2) (by simpa using h3) (Or.inl ⟨wanted_of hf hg, fun w' hw' => hy n a w' hf hw'⟩) hw ?_
  rw [hd]
  exact k _ w (hf.put (by simpa [Nat.blt_eq] using hn) v) hh ((till_set (notIn_spec h4)).2 hS)

def RO (P : Program) (E : World) (n : Nat) (ops : Array Oper) (Eff : List Nat) (Hs : Heap) (fuel : Nat) (listed : Array Bool) (L : Fra) (H : Heap) (Q : Exit → Act → World → Prop) (i : Nat) : Prop :=
  ∀ a w, FA n a L → HA E w H → Till Eff (fun w' => HA E w' Hs) listed w → wpOp P ops Q i (fun a' w' => Till Eff (fun w' => HA E w' Hs) (listed.setIfInBounds i true) w' ∧ wpAnyL P ops Q Eff (fun w' => HA E w' Hs) fuel (listed.setIfInBounds i true) a' w') a w
theorem RD_ready {fuel : Nat} {listed : Array Bool} {rs : List Nat} (hr : (Region.ready .any ops listed == rs && !rs.isEmpty) = true) (h : ∀ i ∈ rs, RO P E n ops Eff Hs fuel listed L H Q i) : RD P E n ops Eff Hs (fuel + 1) listed L H Q := by
  intro a w hf hh hS
  simp only [Bool.and_eq_true, beq_iff_eq] at hr
  obtain ⟨h1, h2⟩ := hr
  refine ⟨fun h0 => ?_, fun i hi => h i (h1 ▸ hi) a w hf hh hS⟩
  rw [h0] at h1; subst h1; simp at h2
theorem RD_one {fuel i : Nat} {listed : Array Bool} (hr : (Region.ready .any ops listed == [i] && true) = true) (h : RO P E n ops Eff Hs fuel listed L H Q i) : RD P E n ops Eff Hs (fuel + 1) listed L H Q :=
  RD_ready (rs := [i]) (by simpa using hr) (fun j hj => by simp only [List.mem_singleton] at hj; subst hj; exact h)
theorem RD_two {fuel i j : Nat} {listed : Array Bool} (hr : (Region.ready .any ops listed == [i, j] && true) = true) (h : RO P E n ops Eff Hs fuel listed L H Q i) (h' : RO P E n ops Eff Hs fuel listed L H Q j) : RD P E n ops Eff Hs (fuel + 1) listed L H Q :=
  RD_ready (rs := [i, j]) (by simpa using hr) (fun k hk => by simp only [List.mem_cons, List.not_mem_nil, or_false] at hk; rcases hk with rfl | rfl <;> assumption)
theorem RO_fx {fuel i d : Nat} {listed : Array Bool} {o : Oper} {R : Value → Heap → Prop} (hi : ops[i]? = some o) (hd : o.dst = some d) (hg : guardIs ops L o = some true) (hn : Nat.blt d n = true) (hy : Fx P E L H o R)
    (k : ∀ v H', R v H' → ((Eff.all fun e => !((listed.setIfInBounds i true).getD e false)) = false ∨ Sub Hs H') ∧ RD P E n ops Eff Hs fuel (listed.setIfInBounds i true) ((d, v) :: L) H' Q) : RO P E n ops Eff Hs fuel listed L H Q i := by
  intro a w hf hh hS
  unfold wpOp
  simp only [hi]
  rw [if_pos (wanted_of hf hg)]
  refine Or.inl (hy n a w _ Q hf hh fun v w' H' hR hh' => ?_)
  obtain ⟨h1, h2⟩ := k v H' hR
  have hT : Till Eff (fun w' => HA E w' Hs) (listed.setIfInBounds i true) w' := fun hall => by
    rcases h1 with h1 | h1
    · exfalso
      have : (Eff.all fun e => !((listed.setIfInBounds i true).getD e false)) = true := List.all_eq_true.2 fun e he => by rw [hall e he]; rfl
      rw [this] at h1; cases h1
    exact h1.ha hh'
  rw [hd]
  exact ⟨hT, h2 _ _ (hf.put (by simpa [Nat.blt_eq] using hn) v) hh' hT⟩
theorem RO_fx0 {fuel i : Nat} {listed : Array Bool} {o : Oper} {R : Value → Heap → Prop} (hi : ops[i]? = some o) (hd : o.dst = none) (hg : guardIs ops L o = some true) (hy : Fx P E L H o R)
    (k : ∀ v H', R v H' → ((Eff.all fun e => !((listed.setIfInBounds i true).getD e false)) = false ∨ Sub Hs H') ∧ RD P E n ops Eff Hs fuel (listed.setIfInBounds i true) L H' Q) : RO P E n ops Eff Hs fuel listed L H Q i := by
  intro a w hf hh hS
  unfold wpOp
  simp only [hi]
  rw [if_pos (wanted_of hf hg)]
  refine Or.inl (hy n a w _ Q hf hh fun v w' H' hR hh' => ?_)
  obtain ⟨h1, h2⟩ := k v H' hR
  have hT : Till Eff (fun w' => HA E w' Hs) (listed.setIfInBounds i true) w' := fun hall => by
    rcases h1 with h1 | h1
    · exfalso
      have : (Eff.all fun e => !((listed.setIfInBounds i true).getD e false)) = true := List.all_eq_true.2 fun e he => by rw [hall e he]; rfl
      rw [this] at h1; cases h1
    exact h1.ha hh'
  rw [hd]
  exact ⟨hT, h2 _ _ hf hh' hT⟩
theorem RD_done {fuel : Nat} {listed : Array Bool} (hr : (Region.ready .any ops listed == []) = true) (h : QW E n L H .normal Q) : RD P E n ops Eff Hs fuel listed L H Q := by
  intro a w hf hh _
  have hr' : Region.ready .any ops listed = [] := by simpa using hr
  cases fuel with
  | zero => exact ⟨hr', h a w hf hh⟩
  | succ f => exact ⟨fun _ => h a w hf hh, by rw [hr']; simp⟩
theorem RD_bool {fuel : Nat} {listed : Array Bool} (d : Nat) {b : Bool} (hd : look d L = some (.bool b)) (ht : b = true → RD P E n ops Eff Hs fuel listed ((d, .bool true) :: L) H Q) (hf' : b = false → RD P E n ops Eff Hs fuel listed ((d, .bool false) :: L) H Q) : RD P E n ops Eff Hs fuel listed L H Q := by
  intro a w hf hh
  have key : ∀ c : Bool, b = c → FA n a ((d, .bool c) :: L) := by
    intro c e
    refine hf.sub ?_
    intro k v hk
    simp only [look] at hk
    split at hk
    · rename_i e2
      have := Nat.eq_of_beq_eq_true e2
      subst this
      rw [hd, e]; exact hk
    exact hk
  cases b with
  | true => exact ht rfl a w (key _ rfl) hh
  | false => exact hf' rfl a w (key _ rfl) hh
end
theorem mixed : Tryd.prog.follows .mixedOrders = true := by kernel_rfl
section
variable {P : Program} {E : World} {n : Nat} {ops : Array Oper} {L L' : Fra} {H : Heap} {Q : Exit → Act → World → Prop}
theorem RW_l {o : Oper} {d : Nat} {v : Value} {rest : List Oper} (hy : Yl P L o v) (k : RW P E n ops ((d, v) :: L) H rest Q) (hd : o.dst = some d := by exact rfl) (hg : o.guard = none := by exact rfl) (hn : Nat.blt d n = true := by exact rfl) : RW P E n ops L H (o :: rest) Q := RW_y hd hg hn hy.h k
theorem RW_h {o : Oper} {d : Nat} {v : Value} {rest : List Oper} (hy : Yh P E L H o v) (k : RW P E n ops ((d, v) :: L) H rest Q) (hd : o.dst = some d := by exact rfl) (hg : o.guard = none := by exact rfl) (hn : Nat.blt d n = true := by exact rfl) : RW P E n ops L H (o :: rest) Q := RW_y hd hg hn hy k
theorem RW_m {x : Operand} {d : Nat} {v : Value} {ty : TypeId} {pos : String} {aft : Array Edge} {rest : List Oper} (k : RW P E n ops ((d, v) :: L) H rest Q) (hx : ev L x = some v := by exact rfl) (hn : Nat.blt d n = true := by exact rfl) : RW P E n ops L H (⟨some d, .move x, ty, pos, aft, none⟩ :: rest) Q := RW_y rfl rfl hn (Yl.h (Yl_move hx)) k
theorem RW_a {x : Operand} {d : Nat} {v : Value} {ty : TypeId} {pos : String} {aft : Array Edge} {rest : List Oper} (k : RW P E n ops ((d, v) :: L) H rest Q) (hx : ev L x = some v := by exact rfl) (hn : Nat.blt d n = true := by exact rfl) : RW P E n ops L H (⟨some d, .assign x, ty, pos, aft, none⟩ :: rest) Q := RW_y rfl rfl hn (Yl.h (Yl_assign hx)) k
theorem RD_l {d : Nat} {oi : Oper} {v : Value} {fuel : Nat} {listed : Array Bool} {Hs : Heap} {Eff : List Nat} (i : Nat) (hi : ops[i]? = some oi) (hy : Yl P L oi v) (k : RD P E n ops Eff Hs fuel (listed.setIfInBounds i true) ((d, v) :: L) H Q) (hd : oi.dst = some d := by exact rfl) (hg : guardIs ops L oi = some true := by exact rfl) (hn : Nat.blt d n = true := by exact rfl)
    (hst : (Region.noSelect ops && Region.free .any ops listed i && (Region.ready .any ops listed).contains i && notIn i Eff) = true := by kernel_rfl) (hQ : ∀ c a w, Q (.panic c) (a.put (some d) v) w → Q (.panic c) a w := by exact fun _ _ _ h => h) : RD P E n ops Eff Hs (fuel + 1) listed L H Q := RD_y hi hd hg hn hst hQ hy k
theorem Yh_ld {x : Operand} {t T : TypeId} {b off : Nat} {l : List Value} {fz : Nat × Nat} {v : Value} {dst : Option Tmp} {ty : TypeId} {pos : String} {aft : Array Edge} {gd : Option (Nat × Bool)} (ht : Scal P t = true) (hx : ev L x = some (.pointer (some ⟨b, off, none⟩)) := by exact rfl)
    (hm : (b, Obj.cells l.toArray T fz) ∈ H := by (repeat (first | exact List.Mem.head _ | apply List.Mem.tail)); done) (hv : l[off]? = some v := by exact rfl) : Yh P E L H ⟨dst, .load t x, ty, pos, aft, gd⟩ v := Yh_load hx ht hm hv
theorem Yh_lh {x : Operand} {t T : TypeId} {b off : Nat} {l : List Value} {fz : Nat × Nat} {v : Value} {dst : Option Tmp} {ty : TypeId} {pos : String} {aft : Array Edge} {gd : Option (Nat × Bool)} (ht : Scal P t = true) (hv : l[off]? = some v) (hx : ev L x = some (.pointer (some ⟨b, off, none⟩)) := by exact rfl)
    (hm : (b, Obj.cells l.toArray T fz) ∈ H := by (repeat (first | exact List.Mem.head _ | apply List.Mem.tail)); done) : Yh P E L H ⟨dst, .load t x, ty, pos, aft, gd⟩ v := Yh_load hx ht hm hv
theorem CW_sr {id : Nat} {l : List Oper} {y : Code} (h : RW P E n l.toArray L H l (Exit.then (y.wp P Q) Q)) : CW P E n L H (.seq (.region id l.toArray false) y) Q := CW_seq (CW_region h)
theorem QW_rn {σ : Type} {Ls : σ → Fra} {Hs : σ → Heap} {I : σ → Prop} {μ : σ → Nat} {m : Nat} (s' : σ) (hI : I s') (hm : μ s' < m) (hH : Prm H (Hs s') := by (repeat (first | exact Prm.nil _ | exact Rem.here _ _ | apply Rem.there | apply Prm.cons)); done) (hL : Keep L ((Ls s').map Prod.fst) (Ls s') := by (repeat (first | exact Keep.nil | exact rfl | apply Keep.cons)); done) :
    QW E n L H .normal (Exit.then (fun a' w' => ∃ s', (I s' ∧ μ s' < m) ∧ FA n a' (Ls s') ∧ HA E w' (Hs s')) Q) := QW_round s' hI hm hH hL
theorem QW_cu {σ : Type} {Ls : σ → Fra} {Hs : σ → Heap} {I : σ → Prop} (s : σ) (hI : I s) (hH : Prm H (Hs s) := by (repeat (first | exact Prm.nil _ | exact Rem.here _ _ | apply Rem.there | apply Prm.cons)); done) (hL : Keep L ((Ls s).map Prod.fst) (Ls s) := by (repeat (first | exact Keep.nil | exact rfl | apply Keep.cons)); done) :
    QW E n L H .normal (Exit.then (fun a' w' => ∃ s, I s ∧ FA n a' (Ls s) ∧ HA E w' (Hs s)) Q) := QW_cut s hI hH hL
theorem CW_lp {σ : Type} {c : Code} (Ls : σ → Fra) (Hs : σ → Heap) (I : σ → Prop) (μ : σ → Nat) (s0 : σ) (hI : I s0)
    (round : ∀ s, I s → CW P E n (Ls s) (Hs s) c (Exit.then (fun a' w' => ∃ s', (I s' ∧ μ s' < μ s) ∧ FA n a' (Ls s') ∧ HA E w' (Hs s')) Q)) (hH : Prm H (Hs s0) := by (repeat (first | exact Prm.nil _ | exact Rem.here _ _ | apply Rem.there | apply Prm.cons)); done) (hL : Keep L ((Ls s0).map Prod.fst) (Ls s0) := by (repeat (first | exact Keep.nil | exact rfl | apply Keep.cons)); done) :
    CW P E n L H (.loop c) Q := CW_loop Ls Hs I μ s0 hI hH hL round
theorem QW_lv (ks : List Nat) {c : Code} (h : CW P E n L' H c Q) (hk : Keep L ks L' := by (repeat (first | exact Keep.nil | exact rfl | apply Keep.cons)); done) : QW E n L H .normal (Exit.then (c.wp P Q) Q) := QW_then (CW_live hk h)
theorem RW_lv (ks : List Nat) {c : Code} (h : CW P E n L' H c Q) (hk : Keep L ks L' := by (repeat (first | exact Keep.nil | exact rfl | apply Keep.cons)); done) : RW P E n ops L H [] (Exit.then (c.wp P Q) Q) := RW_nil (QW_then (CW_live hk h))
end

section
variable {P : Program} {E : World} {n : Nat} {ops : Array Oper} {L L' : Fra} {H : Heap} {Q : Exit → Act → World → Prop} {fuel d : Nat} {listed : Array Bool} {Hs : Heap} {Eff : List Nat} {x : Operand} {v : Value} {p : Addr} {ty s : TypeId} {f b off o : Nat} {pos : String} {aft : Array Edge} {gd : Option (Nat × Bool)} {rest : List Oper}
theorem RW_n (k : RW P E n ops ((d, .pointer (some p)) :: L) H rest Q) (hx : ev L x = some (.pointer (some p)) := by exact rfl) (hn : Nat.blt d n = true := by exact rfl) : RW P E n ops L H (⟨some d, .nilCheck x, ty, pos, aft, none⟩ :: rest) Q := RW_y rfl rfl hn (Yl.h (Yl_nilCheck hx)) k
theorem RW_f (hs : fieldOff P s f = some o) (k : RW P E n ops ((d, .pointer (some ⟨b, off + o, none⟩)) :: L) H rest Q) (hx : ev L x = some (.pointer (some ⟨b, off, none⟩)) := by exact rfl) (hn : Nat.blt d n = true := by exact rfl) : RW P E n ops L H (⟨some d, .fieldAddr s x f, ty, pos, aft, none⟩ :: rest) Q := RW_y rfl rfl hn (Yl.h (Yl_field hx hs)) k
theorem RD_m (i : Nat) (k : RD P E n ops Eff Hs fuel (listed.setIfInBounds i true) ((d, v) :: L) H Q) (hi : ops[i]? = some ⟨some d, .move x, ty, pos, aft, gd⟩ := by exact rfl) (hx : ev L x = some v := by exact rfl) (hg : guardIs ops L ⟨some d, .move x, ty, pos, aft, gd⟩ = some true := by exact rfl) (hn : Nat.blt d n = true := by exact rfl)
    (hst : (Region.noSelect ops && Region.free .any ops listed i && (Region.ready .any ops listed).contains i && notIn i Eff) = true := by kernel_rfl) (hQ : ∀ c a w, Q (.panic c) (a.put (some d) v) w → Q (.panic c) a w := by exact fun _ _ _ h => h) : RD P E n ops Eff Hs (fuel + 1) listed L H Q := RD_y hi rfl hg hn hst hQ (Yl_move hx) k
theorem RD_a (i : Nat) (k : RD P E n ops Eff Hs fuel (listed.setIfInBounds i true) ((d, v) :: L) H Q) (hi : ops[i]? = some ⟨some d, .assign x, ty, pos, aft, gd⟩ := by exact rfl) (hx : ev L x = some v := by exact rfl) (hg : guardIs ops L ⟨some d, .assign x, ty, pos, aft, gd⟩ = some true := by exact rfl) (hn : Nat.blt d n = true := by exact rfl)
    (hst : (Region.noSelect ops && Region.free .any ops listed i && (Region.ready .any ops listed).contains i && notIn i Eff) = true := by kernel_rfl) (hQ : ∀ c a w, Q (.panic c) (a.put (some d) v) w → Q (.panic c) a w := by exact fun _ _ _ h => h) : RD P E n ops Eff Hs (fuel + 1) listed L H Q := RD_y hi rfl hg hn hst hQ (Yl_assign hx) k
theorem RD_n (i : Nat) (k : RD P E n ops Eff Hs fuel (listed.setIfInBounds i true) ((d, .pointer (some p)) :: L) H Q) (hi : ops[i]? = some ⟨some d, .nilCheck x, ty, pos, aft, gd⟩ := by exact rfl) (hx : ev L x = some (.pointer (some p)) := by exact rfl) (hg : guardIs ops L ⟨some d, .nilCheck x, ty, pos, aft, gd⟩ = some true := by exact rfl) (hn : Nat.blt d n = true := by exact rfl)
    (hst : (Region.noSelect ops && Region.free .any ops listed i && (Region.ready .any ops listed).contains i && notIn i Eff) = true := by kernel_rfl) (hQ : ∀ c a w, Q (.panic c) (a.put (some d) (.pointer (some p))) w → Q (.panic c) a w := by exact fun _ _ _ h => h) : RD P E n ops Eff Hs (fuel + 1) listed L H Q := RD_y hi rfl hg hn hst hQ (Yl_nilCheck hx) k
theorem RD_f (i : Nat) (hs : fieldOff P s f = some o) (k : RD P E n ops Eff Hs fuel (listed.setIfInBounds i true) ((d, .pointer (some ⟨b, off + o, none⟩)) :: L) H Q) (hi : ops[i]? = some ⟨some d, .fieldAddr s x f, ty, pos, aft, gd⟩ := by exact rfl) (hx : ev L x = some (.pointer (some ⟨b, off, none⟩)) := by exact rfl) (hg : guardIs ops L ⟨some d, .fieldAddr s x f, ty, pos, aft, gd⟩ = some true := by exact rfl) (hn : Nat.blt d n = true := by exact rfl)
    (hst : (Region.noSelect ops && Region.free .any ops listed i && (Region.ready .any ops listed).contains i && notIn i Eff) = true := by kernel_rfl) (hQ : ∀ c a w, Q (.panic c) (a.put (some d) (.pointer (some ⟨b, off + o, none⟩))) w → Q (.panic c) a w := by exact fun _ _ _ h => h) : RD P E n ops Eff Hs (fuel + 1) listed L H Q := RD_y hi rfl hg hn hst hQ (Yl_field hx hs) k
theorem RD_o (i : Nat) (h : RO P E n ops Eff Hs fuel listed L H Q i) (hr : (Region.ready .any ops listed == [i] && true) = true := by kernel_rfl) : RD P E n ops Eff Hs (fuel + 1) listed L H Q := RD_one hr h
theorem CW_cd {c : Operand} {x y : Code} {p : Prop} [Decidable p] (hc : ev L c = some (.bool (decide p))) (ht : p → CW P E n L H x Q) (hf' : ¬p → CW P E n L H y Q) : CW P E n L H (.cond c x y) Q := CW_cond hc (fun e => ht (of_decide_eq_true e)) (fun e => hf' (of_decide_eq_false e))
end

theorem prm_ {H K : Heap} (h : Prm H K := by (repeat (first | exact Prm.nil _ | exact Rem.here _ _ | apply Rem.there | apply Prm.cons)); done) : Prm H K := h
theorem rem_ {H : Heap} {e : Nat × Obj} {K : Heap} (h : Rem H e K := by (repeat (first | exact Rem.here _ _ | apply Rem.there)); done) : Rem H e K := h
theorem rep_ {H : Heap} {e f : Nat × Obj} {K : Heap} (h : Rep H e f K := by (repeat (first | exact Rep.here _ _ _ | apply Rep.there)); done) : Rep H e f K := h
theorem mem_ {e : Nat × Obj} {H : Heap} (h : e ∈ H := by (repeat (first | exact List.Mem.head _ | apply List.Mem.tail)); done) : e ∈ H := h
theorem kp_ {L : Fra} {ks : List Nat} {L' : Fra} (h : Keep L ks L' := by (repeat (first | exact Keep.nil | exact rfl | apply Keep.cons)); done) : Keep L ks L' := h
theorem pk_ {H K R : Heap} (h : Pick H K R := by (repeat (first | exact Pick.nil _ | apply Pick.cons | exact Rem.here _ _ | apply Rem.there)); done) : Pick H K R := h
theorem sub_ {H K : Heap} (h : Sub H K := by (repeat (first | exact Sub.nil _ | apply Sub.cons | exact Rem.here _ _ | apply Rem.there)); done) : Sub H K := h

end Go.Proofs.YtgoddcicbpjknaaDoor

namespace Go.Proofs.YtgoddcicbpjknaaDoor
open Go
open Cfb

def bv (x : UInt8) : Value := .int .u8 (x.toNat : Int)
def iv (x : Int) : Value := .int .i64 x
def nv (x : Nat) : Value := .int .i64 (x : Int)
abbrev nats (l : List Nat) : List Value := l.map nv
def uv (x : Nat) : Value := .int .u32 (x : Int)
abbrev bys (l : List UInt8) : List Value := l.map bv
abbrev ints (l : List Int) : List Value := l.map iv
abbrev u32s (l : List Nat) : List Value := l.map uv
theorem one_bv (x : UInt8) : (bv x).oneCell' = true := rfl
theorem one_nv (x : Nat) : (nv x).oneCell' = true := rfl
theorem one_map {α : Type} {f : α → Value} (hf : ∀ x, (f x).oneCell' = true) (l : List α) : ∀ u ∈ l.map f, u.oneCell' = true := by
  intro u hu
  obtain ⟨x, _, rfl⟩ := List.mem_map.1 hu
  exact hf x
theorem one_take {l : List Value} (h : ∀ u ∈ l, u.oneCell' = true) (a b : Nat) : ∀ u ∈ (l.drop a).take b, u.oneCell' = true :=
  fun u hu => h u (List.mem_of_mem_drop (List.mem_of_mem_take hu))
theorem bys_set (l : List UInt8) (i : Nat) (x : UInt8) : (bys l).set i (bv x) = bys (l.set i x) := by simp [bys, List.map_set]
theorem put_step (l : List UInt8) (A n s i : Nat) (h : A + s < l.length) (hi : i = A + s) : (bys (spl A (le n s) l)).set i (bv (UInt8.ofNat (n / 256 ^ s))) = bys (spl A (le n (s + 1)) l) := by
  subst hi
  have := spl_snoc (off := A) (cs := le n s) (l := l) (x := UInt8.ofNat (n / 256 ^ s)) (by simpa using h)
  rw [length_le] at this
  rw [bys_set, this, le_succ]
theorem byte_val (n : Int) (k : Nat) (h : 0 ≤ n) (hk : k < 8) : IntKind.u8.wrap (n.fdiv (2 ^ (min (8 * (k : Int)).toNat IntKind.u64.bits))) = ((UInt8.ofNat (n.toNat / 256 ^ k)).toNat : Int) := by
  have h1 : min (8 * (k : Int)).toNat IntKind.u64.bits = 8 * k := by show min (8 * (k : Int)).toNat 64 = 8 * k; omega
  rw [h1]
  obtain ⟨m, rfl⟩ := Int.eq_ofNat_of_zero_le h
  have h2 : (2 : Int) ^ (8 * k) = ((256 ^ k : Nat) : Int) := by
    rw [Int.pow_mul]; norm_cast
  rw [h2, Int.fdiv_eq_ediv_of_nonneg _ (Int.natCast_nonneg _)]
  simp only [Int.toNat_natCast]
  have h3 : ((m : Int) / ((256 ^ k : Nat) : Int)) = ((m / 256 ^ k : Nat) : Int) := by norm_cast
  rw [h3, IntKind.wrap_u8]
  simp
theorem at_nats {pl : List Nat} {r : List Value} {i j : Nat} (h : i < pl.length) (hj : j = i) : (nats pl ++ r)[j]? = some (nv (pl.getD i 0)) := by
  subst hj
  rw [List.getElem?_append_left (by simpa using h)]
  simp [List.getD_eq_getElem?_getD, h]
theorem at_u32s {pl : List Nat} {i j : Nat} (h : i < pl.length) (hj : j = i) : (u32s pl)[j]? = some (uv (pl.getD i 0)) := by
  subst hj
  simp [List.getD_eq_getElem?_getD, h]
theorem u32s_set (l : List Nat) (i j x : Nat) (hj : j = i) : (u32s l).set j (uv x) = u32s (l.set i x) := by subst hj; simp [u32s, List.map_set]
theorem mulN {a b : Nat} (h : a * b ≤ 9223372036854775807) : IntKind.i64.wrap ((a : Int) * (b : Int)) = ((a * b : Nat) : Int) := by
  rw [← Int.natCast_mul]; exact wi64 om_ om_
theorem remN (a b : Nat) : (a : Int).tmod (b : Int) = ((a % b : Nat) : Int) := rfl
theorem quoN {a b : Nat} (h : a ≤ 9223372036854775807) : IntKind.i64.wrap ((a : Int).tdiv (b : Int)) = ((a / b : Nat) : Int) := by
  show IntKind.i64.wrap ((a / b : Nat) : Int) = _
  have := Nat.div_le_self a b
  generalize a / b = q at *
  exact wi64 om_ om_
section
variable {P : Program} {L : Fra} {dst : Option Tmp} {ty : TypeId} {pos : String} {aft : Array Edge} {gd : Option (Nat × Bool)}
theorem Yl_maxN {x y : Operand} {m n : Nat} {ts : Array TypeId} (hx : ev L x = some (.int .i64 (m : Int))) (hy : ev L y = some (.int .i64 (n : Int))) :
    Yl P L ⟨dst, .call ⟨.builtin .max, #[x, y], ts⟩, ty, pos, aft, gd⟩ (.int .i64 ((max m n : Nat) : Int)) := by
  have := Yl_max (P := P) (dst := dst) (ty := ty) (pos := pos) (aft := aft) (gd := gd) (ts := ts) hx hy
  have e : (if (m : Int) < n then (n : Int) else m) = ((max m n : Nat) : Int) := by split <;> omega
  rw [e] at this; exact this
theorem Yl_cutLHN {x y z : Operand} {t e : TypeId} {sz m c b off l h o' m' : Nat} (hx : ev L x = some (.slice (some ⟨b, off, none⟩) m c)) (hy : ev L y = some (.int .i64 (l : Int))) (hz : ev L z = some (.int .i64 (h : Int)))
    (ht : slOf P t = some (e, sz)) (h1 : l ≤ h) (h2 : h ≤ c) (h3 : l < c) (e1 : off + l * sz = o') (e2 : h - l = m') :
    Yl P L ⟨dst, .slice t x (some y) (some z) none, ty, pos, aft, gd⟩ (.slice (some ⟨b, o', none⟩) m' (c - l)) := by
  have := Yl_cutLH (P := P) (dst := dst) (ty := ty) (pos := pos) (aft := aft) (gd := gd) hx hy hz ht om_ om_ om_
  simp only [Int.toNat_natCast] at this
  rw [cutAt_some h3, e1, e2] at this
  exact this
theorem Yl_cutLN {x y : Operand} {t e : TypeId} {sz m c b off l : Nat} (hx : ev L x = some (.slice (some ⟨b, off, none⟩) m c)) (hy : ev L y = some (.int .i64 (l : Int)))
    (ht : slOf P t = some (e, sz)) (h1 : l ≤ m) :
    Yl P L ⟨dst, .slice t x (some y) none none, ty, pos, aft, gd⟩ (.slice (some ⟨b, if c = l then off else off + l * sz, none⟩) (m - l) (c - l)) := by
  have := Yl_cutL (P := P) (dst := dst) (ty := ty) (pos := pos) (aft := aft) (gd := gd) hx hy ht om_ om_
  simp only [Int.toNat_natCast] at this
  rw [cutAt_any] at this
  exact this
end

end Go.Proofs.YtgoddcicbpjknaaDoor

namespace Go.Proofs.YtgoddcicbpjknaaDoor
open Go

def ment (k : IntKind) (p : Int × Value × Nat) : MapEntry := { key := .int k p.1, val := p.2.1, born := p.2.2 }
@[reducible] def mobj (k : IntKind) (l : List (Int × Value × Nat)) (c : Nat) : Obj := .map (l.map (ment k)).toArray c
def mpOf (P : Program) (t : TypeId) : Option (TypeId × TypeId) := match P.underlying t with | some (.map k e) => some (k, e) | _ => none
theorem mpOf_u {P : Program} {t : TypeId} {q : TypeId × TypeId} (h : mpOf P t = some q) : P.underlying t = some (.map q.1 q.2) := by
  unfold mpOf at h
  split at h
  · rename_i k e hu; cases h; exact hu
  cases h
theorem inOf_u {P : Program} {t : TypeId} {k : IntKind} (h : inOf P t = some k) : P.underlying t = some (.int k) := by
  unfold inOf at h
  split at h
  · rename_i k' hu; cases h; exact hu
  cases h
section
variable {P : Program} {E : World} {L : Fra} {H H' : Heap} {dst : Option Tmp} {ty : TypeId} {pos : String} {aft : Array Edge} {gd : Option (Nat × Bool)}
theorem Fx_makeMap {t : TypeId} (k : IntKind) : Fx P E L H ⟨dst, .makeMap t none, ty, pos, aft, gd⟩ (fun v H'' => ∃ b, v = .map (some b) ∧ H'' = (b, mobj k [] 0) :: H) := by
  intro _ a w next Q hf hh kk
  have hrun : (execOp a.eval ⟨dst, .makeMap t none, ty, pos, aft, gd⟩).run P w = .ok (.value (.map (some w.heap.size))) { w with heap := w.heap.push (mobj k [] 0) } := by
    have h1 : (Instr.makeMap t none).run P w = .ok (.map (some w.heap.size)) { w with heap := w.heap.push (mobj k [] 0) } := rfl
    simp only [execOp]
    simp [h1]
  simp only [Oper.wp, hrun, Oper.upon]
  exact kk _ _ _ ⟨_, rfl, rfl⟩ (hh.alloc _)
def mfind (n : Int) : List (Int × Value × Nat) → Nat → Option (Nat × Value)
  | [], _ => none
  | p :: r, i => if n == p.1 then some (i, p.2.1) else mfind n r (i + 1)
theorem findNow_mfind (k : IntKind) (n : Int) : ∀ (l : List (Int × Value × Nat)) (i : Nat), Instr.findNow (.int k) (.int k n) (l.map (ment k)) i = some (mfind n l i) := by
  intro l
  induction l with
  | nil => intro i; rfl
  | cons p r ih =>
    intro i
    have h1 : Instr.sameNow (.int k) (.int k n) (ment k p).key = some (n == p.1) := by simp [Instr.sameNow, ment]
    cases hb : (n == p.1) with
    | true => simp only [List.map_cons, Instr.findNow, h1, hb, mfind, if_true]; rfl
    | false => simp only [List.map_cons, Instr.findNow, h1, hb, mfind, ih]; simp
theorem run_findKey {kt : TypeId} {k : IntKind} (hk : P.underlying kt = some (.int k)) (n : Int) (l : List (Int × Value × Nat)) (w : World) :
    (Instr.findKey kt (.int k n) (l.map (ment k))).run P w = .ok (mfind n l 0) w := by
  simp [Instr.findKey, underlying, hk, findNow_mfind]
theorem run_checkKey {kt : TypeId} {k : IntKind} (hk : P.underlying kt = some (.int k)) (n : Int) (b : Bool) (w : World) : (Instr.checkKey b 10000 kt (.int k n)).run P w = .ok () w := by
  have : ∀ m, (Instr.checkKey b (m + 1) kt (.int k n)).run P w = .ok () w := by
    intro m
    simp [Instr.checkKey, underlying, hk]
  exact this 9999
theorem HA.obj {E w : World} {H : Heap} (h : HA E w H) {b : Nat} {o : Obj} (hm : (b, o) ∈ H) : w.heap[b]? = some o := h.mem _ hm
theorem HA.setObj {E w : World} {H H' : Heap} {b : Nat} {o o' : Obj} (h : HA E w H) (hr : Rep H (b, o) (b, o') H') (ho : freeO o' = true := by rfl) : HA E { w with heap := w.heap.modify b (fun _ => o') } H' := by
  obtain ⟨R, h1, h2⟩ := hr.perm
  have h' := h.perm h1
  refine HA.perm (H := (b, o') :: R) ?_ h2.symm
  refine ⟨h'.os, h'.tape, h'.output, h'.nodup, ?_, by have := h'.size; simp; omega, ?_⟩
  rotate_left
  · intro b' o2 hb' ho2
    simp only [Array.getElem?_modify] at ho2
    split at ho2
    · cases hq : w.heap[b']? with
      | none => rw [hq] at ho2; cases ho2
      | some x => rw [hq] at ho2; simp only [Option.map_some, Option.some.injEq] at ho2; rw [← ho2]; exact ho
    exact h'.fresh b' o2 hb' ho2
  intro p hp
  have hb := h'.mem (b, o) (by simp)
  rcases List.mem_cons.1 hp with rfl | hp
  · simp only [Array.getElem?_modify]
    simp only at hb
    simp [hb]
  have hne : p.1 ≠ b := by
    have := h'.nodup
    simp only [List.map_cons, List.nodup_cons] at this
    intro e
    exact this.1 (e ▸ List.mem_map_of_mem hp)
  have hm := h'.mem p (List.mem_cons_of_mem _ hp)
  simp only [Array.getElem?_modify]
  rw [if_neg om_]
  exact hm
theorem Yh_lookup {x y : Operand} {t kt e : TypeId} {b c : Nat} {k : IntKind} {n : Int} {l : List (Int × Value × Nat)} {z v : Value} (hx : ev L x = some (.map (some b))) (hy : ev L y = some (.int k n)) (ht : mpOf P t = some (kt, e)) (hk : inOf P kt = some k)
    (hz : zeOf P e = some z) (hm : (b, mobj k l c) ∈ H) (hv : v = ((mfind n l 0).map (·.2)).getD z) : Yh P E L H ⟨dst, .lookup t x y false, ty, pos, aft, gd⟩ v := by
  intro _ a w hf hh
  have hu := mpOf_u ht
  have hku := inOf_u hk
  have hob := hh.obj hm
  unfold zeOf at hz
  simp only [Option.bind_eq_some_iff] at hz
  obtain ⟨i, hi, hz'⟩ := hz
  have hg : (getObj b).run P w = .ok (mobj k l c) w := by simp [getObj, Sem.run, hob]
  have hfk := run_findKey (P := P) hku n l w
  have hck := fun b => run_checkKey (P := P) hku n b w
  subst hv
  cases hfd : mfind n l 0 with
  | none => rw [hfd] at hfk; simp [execOp, Instr.lookup, underlying, hu, hf.eval hx, hf.eval hy, hg, hck, hfk, zeroValue, typeInfo, hi, hz']
  | some p => rw [hfd] at hfk; simp [execOp, Instr.lookup, underlying, hu, hf.eval hx, hf.eval hy, hg, hck, hfk]
theorem mfind_none {n : Int} : ∀ {l : List (Int × Value × Nat)} {i : Nat}, (∀ p ∈ l, p.1 ≠ n) → mfind n l i = none := by
  intro l
  induction l with
  | nil => intro i _; rfl
  | cons p r ih =>
    intro i h
    have h1 : (n == p.1) = false := by
      have := h p (by simp)
      simp; exact fun e => this e.symm
    simp only [mfind, h1]
    exact ih (fun q hq => h q (by simp [hq]))
theorem run_mapUpdate {t kt e : TypeId} {b c : Nat} {k : IntKind} {n : Int} {l : List (Int × Value × Nat)} {v : Value} (ht : mpOf P t = some (kt, e)) (hk : inOf P kt = some k) {w : World}
    (hm : w.heap[b]? = some (mobj k l c)) (hn : ∀ p ∈ l, p.1 ≠ n) : (Instr.mapUpdate t (.map (some b)) (.int k n) v).run P w = .ok () { w with heap := w.heap.setIfInBounds b (mobj k (l ++ [(n, v, c)]) (c + 1)) } := by
  have hu := mpOf_u ht
  have hku := inOf_u hk
  have hg : (getObj b).run P w = .ok (mobj k l c) w := by simp [getObj, Sem.run, hm]
  have hfk := run_findKey (P := P) hku n l w
  rw [mfind_none hn] at hfk
  have hck := fun b => run_checkKey (P := P) hku n b w
  have hs : ∀ o, (setObj b o).run P w = .ok () { w with heap := w.heap.setIfInBounds b o } := fun o => MapKept.run_setObj_map o hm
  simp [Instr.mapUpdate, underlying, hu, hg, hck, hfk, hs, ment, mobj]
theorem setIf_modify {α : Type} (a : Array α) (b : Nat) (o : α) : a.setIfInBounds b o = a.modify b (fun _ => o) := by
  apply Array.ext_getElem?
  intro i
  rw [Array.getElem?_setIfInBounds, Array.getElem?_modify]
  by_cases h : b = i
  · subst h
    by_cases h2 : b < a.size
    · simp [h2]
    simp [h2, Array.getElem?_eq_none (by omega : a.size ≤ b)]
  simp [h]
theorem Fx_insert {x y u : Operand} {t kt e : TypeId} {b c : Nat} {k : IntKind} {n : Int} {l : List (Int × Value × Nat)} {v : Value} (hx : ev L x = some (.map (some b))) (hy : ev L y = some (.int k n)) (hv : ev L u = some v) (ht : mpOf P t = some (kt, e)) (hk : inOf P kt = some k)
    (hr : Rep H (b, mobj k l c) (b, mobj k (l ++ [(n, v, c)]) (c + 1)) H') (hn : ∀ p ∈ l, p.1 ≠ n) :
    Fx P E L H ⟨dst, .insert t x y u, ty, pos, aft, gd⟩ (fun v H'' => v = .tuple #[] ∧ H'' = H') := by
  intro _ a w next Q hf hh kk
  have hob := hh.obj hr.mem
  have hrun : (execOp a.eval ⟨dst, .insert t x y u, ty, pos, aft, gd⟩).run P w = .ok .skip { w with heap := w.heap.setIfInBounds b (mobj k (l ++ [(n, v, c)]) (c + 1)) } := by
    simp only [execOp, hf.eval hx, hf.eval hy, hf.eval hv]
    simp [run_mapUpdate ht hk hob hn]
  simp only [Oper.wp, hrun, Oper.upon]
  refine kk _ _ _ ⟨rfl, rfl⟩ ?_
  rw [setIf_modify]
  exact hh.setObj hr
theorem Fx_mapUpdate {x y u : Operand} {t kt e : TypeId} {b c : Nat} {k : IntKind} {n : Int} {l : List (Int × Value × Nat)} {v : Value} (hx : ev L x = some (.map (some b))) (hy : ev L y = some (.int k n)) (hv : ev L u = some v) (ht : mpOf P t = some (kt, e)) (hk : inOf P kt = some k)
    (hr : Rep H (b, mobj k l c) (b, mobj k (l ++ [(n, v, c)]) (c + 1)) H') (hn : ∀ p ∈ l, p.1 ≠ n) :
    Fx P E L H ⟨dst, .mapUpdate t x y u, ty, pos, aft, gd⟩ (fun v H'' => v = .tuple #[] ∧ H'' = H') := by
  intro _ a w next Q hf hh kk
  have hob := hh.obj hr.mem
  have hrun : (execOp a.eval ⟨dst, .mapUpdate t x y u, ty, pos, aft, gd⟩).run P w = .ok .skip { w with heap := w.heap.setIfInBounds b (mobj k (l ++ [(n, v, c)]) (c + 1)) } := by
    simp only [execOp, hf.eval hx, hf.eval hy, hf.eval hv]
    simp [run_mapUpdate ht hk hob hn]
  simp only [Oper.wp, hrun, Oper.upon]
  refine kk _ _ _ ⟨rfl, rfl⟩ ?_
  rw [setIf_modify]
  exact hh.setObj hr
end
theorem QW_dropB {E : World} {n : Nat} {L : Fra} {H H' : Heap} {e : Nat × Obj} {x : Exit} {Q : Exit → Act → World → Prop} (hr : Rem H e H') (h : QW E n L H' x Q) : QW E n L H x Q :=
  fun a w hf hh => h a w hf ((hh.perm hr.perm).sub (List.sublist_cons_self _ _))
theorem QW_heap {E : World} {n : Nat} {L : Fra} {H H' : Heap} {x : Exit} {Q : Exit → Act → World → Prop} (hr : H.Perm H') (h : QW E n L H' x Q) : QW E n L H x Q :=
  fun a w hf hh => h a w hf (hh.perm hr)
def dig : List Nat → Code → Code
  | [], c => c
  | 0 :: p, .seq x _ => dig p x
  | 1 :: p, .seq _ y => dig p y
  | 2 :: p, .block _ c => dig p c
  | 2 :: p, .loop c => dig p c
  | 3 :: p, .cond _ x _ => dig p x
  | 4 :: p, .cond _ _ y => dig p y
  | _ :: _, c => c

end Go.Proofs.YtgoddcicbpjknaaDoor

namespace Cfb

theorem nodup_getD {pl : List Nat} (h : pl.Nodup) {i j : Nat} (hi : i < pl.length) (hj : j < pl.length) (e : pl.getD i 0 = pl.getD j 0) : i = j := by
  simp only [List.getD_eq_getElem?_getD, hi, hj, List.getElem?_eq_getElem, Option.getD_some] at e
  exact (List.getElem_inj h).1 e
theorem getD_append_l (l m : List Nat) {i : Nat} (h : i < l.length) : (l ++ m).getD i 0 = l.getD i 0 := by
  simp [List.getD_eq_getElem?_getD, List.getElem?_append_left h]
theorem getD_append_r (l m : List Nat) {i : Nat} (h : l.length ≤ i) : (l ++ m).getD i 0 = m.getD (i - l.length) 0 := by
  simp [List.getD_eq_getElem?_getD, List.getElem?_append_right h]
theorem getD_set_of_ne (t : List Nat) {i j x : Nat} (h : i ≠ j) : (t.set i x).getD j 0 = t.getD j 0 := by
  simp [List.getD_eq_getElem?_getD, List.getElem?_set_ne h]
theorem getD_set_self (t : List Nat) {i x : Nat} (h : i < t.length) : (t.set i x).getD i 0 = x := by
  simp [List.getD_eq_getElem?_getD, h]
theorem linkTo_at {pl : List Nat} (hnd : pl.Nodup) {t : List Nat} (hpl : ∀ x ∈ pl, x < t.length) {from_ n : Nat} (hf : from_ + n ≤ pl.length) : ∀ k, k ≤ n → ∀ j, j < pl.length →
    (linkTo pl from_ n t k).getD (pl.getD j 0) 0 = if from_ ≤ j ∧ j < from_ + k then (if j + 1 = from_ + n then CE else pl.getD (j + 1) 0) else t.getD (pl.getD j 0) 0 := by
  intro k
  induction k with
  | zero => intro _ j hj; rw [if_neg (by omega)]; rfl
  | succ k ih =>
    intro hk j hj
    rw [linkTo_succ, linkAt]
    by_cases e : j = from_ + k
    · subst e
      rw [getD_set_self _ (by rw [length_linkTo]; exact getD_lt hpl hj), if_pos (show from_ ≤ from_ + k ∧ from_ + k < from_ + (k + 1) by omega)]
      by_cases h2 : k + 1 = n
      · rw [if_pos h2, if_pos (show from_ + k + 1 = from_ + n by omega)]
      rw [if_neg h2, if_neg (show ¬ (from_ + k + 1 = from_ + n) by omega)]
    rw [getD_set_of_ne _ (fun e2 => e (nodup_getD hnd hj (show from_ + k < pl.length by omega) e2.symm)), ih om_ j hj]
    by_cases h3 : from_ ≤ j ∧ j < from_ + k
    · rw [if_pos h3, if_pos (show from_ ≤ j ∧ j < from_ + (k + 1) by omega)]
    rw [if_neg h3, if_neg (show ¬ (from_ ≤ j ∧ j < from_ + (k + 1)) by omega)]
theorem chTo_at {pl : List Nat} (hnd : pl.Nodup) {t : List Nat} (hpl : ∀ x ∈ pl, x < t.length) {from_ : Nat} {cs : List Nat} (hf : from_ + cs.sum ≤ pl.length) : ∀ i, i ≤ cs.length →
    (∀ i', i' < i → (chTo pl t from_ cs i).outs.getD i' 0 = if cs.getD i' 0 = 0 then CE else pl.getD (from_ + (cs.take i').sum) 0) ∧
    (∀ i', i' < i → ∀ k, k < cs.getD i' 0 → (chTo pl t from_ cs i).table.getD (pl.getD (from_ + (cs.take i').sum + k) 0) 0 = if k + 1 = cs.getD i' 0 then CE else pl.getD (from_ + (cs.take i').sum + k + 1) 0) ∧
    (∀ j, j < pl.length → (j < from_ ∨ from_ + (cs.take i).sum ≤ j) → (chTo pl t from_ cs i).table.getD (pl.getD j 0) 0 = t.getD (pl.getD j 0) 0) := by
  intro i
  induction i with
  | zero => intro _; rw [chTo_zero]; exact ⟨fun i' h => by omega, fun i' h => by omega, fun _ _ _ => rfl⟩
  | succ i ih =>
    intro hi
    obtain ⟨h1, h2, h3⟩ := ih om_
    obtain ⟨f1, f2, f3⟩ := chTo_facts pl t from_ cs i om_
    have hs := sum_take_succ cs i om_
    have hsucc : (cs.take (i + 1)).sum = (cs.take i).sum + cs.getD i 0 := by
      rw [List.take_succ_eq_append_getElem om_, List.sum_append]
      simp [List.getD_eq_getElem?_getD, show i < cs.length by omega]
    have hmono : ∀ i', i' < i → (cs.take i').sum + cs.getD i' 0 ≤ (cs.take i).sum := by
      intro i' hi'
      have := sum_take_succ (cs.take i) i' (by simp; omega)
      rw [List.take_take, Nat.min_eq_left om_] at this
      have e : (cs.take i).getD i' 0 = cs.getD i' 0 := by simp [List.getD_eq_getElem?_getD, List.getElem?_take, hi']
      omega
    rw [chTo_succ _ _ _ _ _ om_, hsucc]
    unfold chStep
    by_cases hz : cs.getD i 0 = 0
    · rw [if_pos hz]
      refine ⟨?_, ?_, ?_⟩
      · intro i' hi'
        simp only
        rcases Nat.lt_or_ge i' i with h | h
        · rw [getD_append_l _ _ om_]; exact h1 i' h
        obtain rfl : i' = i := by omega
        rw [getD_append_r _ _ om_, f3, if_pos hz]; simp
      · intro i' hi' k hk
        rcases Nat.lt_or_ge i' i with h | h
        · exact h2 i' h k hk
        obtain rfl : i' = i := by omega
        omega
      intro j hj hc; exact h3 j hj om_
    rw [if_neg hz]
    have hpos : (chTo pl t from_ cs i).pos + cs.getD i 0 ≤ pl.length := by omega
    have hpl' : ∀ x ∈ pl, x < (chTo pl t from_ cs i).table.length := by rw [f1]; exact hpl
    refine ⟨?_, ?_, ?_⟩
    · intro i' hi'
      simp only
      rcases Nat.lt_or_ge i' i with h | h
      · rw [getD_append_l _ _ om_]; exact h1 i' h
      obtain rfl : i' = i := by omega
      rw [getD_append_r _ _ om_, f3, if_neg hz, f2]; simp
    · intro i' hi' k hk
      simp only
      rcases Nat.lt_or_ge i' i with h | h
      · have := hmono i' h
        rw [linkTo_at hnd hpl' hpos _ (Nat.le_refl _) _ om_, if_neg om_]
        exact h2 i' h k hk
      obtain rfl : i' = i := by omega
      rw [linkTo_at hnd hpl' hpos _ (Nat.le_refl _) _ om_, if_pos om_, f2]
      by_cases hl : k + 1 = cs.getD i' 0
      · rw [if_pos hl, if_pos om_]
      rw [if_neg hl, if_neg om_]
    intro j hj hc
    simp only
    rw [linkTo_at hnd hpl' hpos _ (Nat.le_refl _) _ hj, if_neg om_]
    exact h3 j hj om_
theorem chain_walk {pl : List Nat} (hnd : pl.Nodup) {t : List Nat} (hpl : ∀ x ∈ pl, x < t.length) {from_ : Nat} {cs : List Nat} (hf : from_ + cs.sum ≤ pl.length) {i : Nat} (hi : i < cs.length) : ∀ k, k < cs.getD i 0 →
    walkP (chainedF pl t from_ cs).table ((chainedF pl t from_ cs).outs.getD i 0) k = pl.getD (from_ + (cs.take i).sum + k) 0 := by
  rw [← chTo_all]
  obtain ⟨h1, h2, _⟩ := chTo_at hnd hpl hf cs.length (Nat.le_refl _)
  intro k
  induction k with
  | zero => intro hk; rw [walkP, h1 i hi, if_neg (by omega), Nat.add_zero]
  | succ k ih => intro hk; rw [walkP, ih (by omega), h2 i hi k (by omega), if_neg (by omega)]; rfl
theorem chain_end {pl : List Nat} (hnd : pl.Nodup) {t : List Nat} (hpl : ∀ x ∈ pl, x < t.length) {from_ : Nat} {cs : List Nat} (hf : from_ + cs.sum ≤ pl.length) {i : Nat} (hi : i < cs.length) :
    walkP (chainedF pl t from_ cs).table ((chainedF pl t from_ cs).outs.getD i 0) (cs.getD i 0) = CE := by
  have hw := chain_walk hnd hpl hf hi
  rw [← chTo_all] at *
  obtain ⟨h1, h2, _⟩ := chTo_at hnd hpl hf cs.length (Nat.le_refl _)
  by_cases hz : cs.getD i 0 = 0
  · rw [hz, walkP, h1 i hi, if_pos hz]
  obtain ⟨m, hm⟩ : ∃ m, cs.getD i 0 = m + 1 := ⟨cs.getD i 0 - 1, by omega⟩
  rw [hm, walkP, hw m om_, h2 i hi m om_, if_pos om_]

structure Nd where
  name : List UInt8
  stream : Bool
  data : List UInt8
  left : Int
  right : Int
  child : Int
  cls : List UInt8
  state : List UInt8
  created : Nat
  modified : Nat
  h16 : cls.length = 16
  h4 : state.length = 4
instance : Inhabited Nd := ⟨⟨[], false, [], 0, 0, 0, List.replicate 16 0, List.replicate 4 0, 0, 0, by simp, by simp⟩⟩
def iter {α : Type} (f : Nat → α → α) : Nat → α → α
  | 0, a => a
  | k + 1, a => f k (iter f k a)
def putF (at_ n k : Nat) (l : List UInt8) : List UInt8 := spl at_ (le n k) l
@[simp] theorem length_iter {β : Type} (f : Nat → List β → List β) (k : Nat) (l : List β) (h : ∀ j l', j < k → l'.length = l.length → (f j l').length = l.length) : (iter f k l).length = l.length := by
  induction k with
  | zero => rfl
  | succ k ih => exact h k _ (by omega) (ih (fun j l' hj => h j l' (by omega)))
theorem length_putF {at_ n k : Nat} {l : List UInt8} (h : at_ + k ≤ l.length) : (putF at_ n k l).length = l.length := by
  rw [putF, length_spl (by rw [length_le]; exact h)]
def sizeF (v : Nat) : Nat := if v = 4 then 4096 else 512
def smallF (n : Nd) : Nat := if n.stream = true ∧ n.data.length < 4096 then partsF n.data.length 64 else 0
def largeF (size : Nat) (n : Nd) : Nat := if n.stream = true ∧ ¬ n.data.length < 4096 then partsF n.data.length size else 0
def fgo (sum per : Nat) : Nat → Nat → Nat
  | 0, f => f
  | k + 1, f => if f < partsF (sum + f) per then fgo sum per k (f + 1) else f
def fatsF (sum per : Nat) : Nat := fgo sum per sum 1
theorem partsF_le {n per f : Nat} (hp : 2 ≤ per) (h : n ≤ 2 * f) : partsF n per ≤ f := by
  unfold partsF
  have h1 : n + per - 1 < (f + 1) * per := by
    have := Nat.mul_le_mul_left (f + 1) hp
    rcases Nat.eq_zero_or_pos f with rfl | hf
    · omega
    have h2 : (f + 1) * per = f * per + per := Nat.succ_mul f per
    have h3 : f * 2 ≤ f * per := Nat.mul_le_mul_left f hp
    omega
  have := (Nat.div_lt_iff_lt_mul (show 0 < per by omega)).2 h1
  omega
theorem fgo_ok {sum per : Nat} (hp : 2 ≤ per) : ∀ k f, k + f = sum + 1 → partsF (sum + fgo sum per k f) per ≤ fgo sum per k f ∧ f ≤ fgo sum per k f ∧ fgo sum per k f ≤ sum + 1 := by
  intro k
  induction k with
  | zero => intro f h; simp only [fgo]; exact ⟨partsF_le hp (by omega), Nat.le_refl _, by omega⟩
  | succ k ih =>
    intro f h
    simp only [fgo]
    split
    · have := ih (f + 1) om_; exact ⟨this.1, by omega, this.2.2⟩
    exact ⟨by omega, Nat.le_refl _, by omega⟩
theorem fatsF_ok {sum per : Nat} (hp : 2 ≤ per) : partsF (sum + fatsF sum per) per ≤ fatsF sum per ∧ 1 ≤ fatsF sum per ∧ fatsF sum per ≤ sum + 1 := fgo_ok hp sum 1 om_
def markTo (pl : List Nat) (v k : Nat) (t : List Nat) : List Nat := iter (fun k t => t.set (pl.getD k 0) v) k t
@[simp] theorem length_markTo (pl : List Nat) (v k : Nat) (t : List Nat) : (markTo pl v k t).length = t.length := by
  unfold markTo
  exact length_iter _ _ _ (fun j l' _ h => by simp [h])
def tabTo (t : List Nat) (off : Nat) (k : Nat) (l : List UInt8) : List UInt8 := iter (fun j l => putF (off + 4 * j) (t.getD j 0) 4 l) k l
def countsF (m minis size : Nat) (lg : List Nat) : List Nat := partsF m (size / 128) :: partsF minis (size / 4) :: partsF (minis * 64) size :: lg
theorem take_sum_succ (cs : List Nat) (i : Nat) (h : i < cs.length) : (cs.take (i + 1)).sum = (cs.take i).sum + cs.getD i 0 := by
  rw [List.take_succ_eq_append_getElem h, List.sum_append]
  simp [List.getD_eq_getElem?_getD, h]
abbrev FREE : Nat := 4294967295
abbrev FS : Nat := 4294967293
theorem repl_set (n k a b : Nat) (h : k < n) : (List.replicate k a ++ List.replicate (n - k) b).set k a = List.replicate (k + 1) a ++ List.replicate (n - (k + 1)) b := by
  obtain ⟨m, rfl⟩ : ∃ m, n = k + m + 1 := ⟨n - k - 1, by omega⟩
  rw [show k + m + 1 - k = m + 1 by omega, show k + m + 1 - (k + 1) = m by omega, List.set_append_right _ _ (by simp), List.replicate_succ (n := m), List.replicate_succ' (n := k)]
  simp
theorem markTo_succ (pl : List Nat) (v k : Nat) (t : List Nat) : markTo pl v (k + 1) t = (markTo pl v k t).set (pl.getD k 0) v := rfl
def magic : List UInt8 := [0xd0, 0xcf, 0x11, 0xe0, 0xa1, 0xb1, 0x1a, 0xe1]
def shiftF (size : Nat) : Nat := if size = 512 then 9 else 12
def headF (size v dirs fats s0 s1 nm : Nat) (l : List UInt8) : List UInt8 :=
  putF 68 CE 4 (putF 64 nm 4 (putF 60 s1 4 (putF 56 4096 4 (putF 48 s0 4 (putF 44 fats 4
    ((if v = 4 then putF 40 dirs 4 else id) (putF 32 6 2 (putF 30 (shiftF size) 2 (putF 28 65534 2 (putF 26 v 2 (putF 24 62 2 (spl 0 magic l))))))))))))
def freeTo (k : Nat) (l : List UInt8) : List UInt8 := iter (fun k l => putF (76 + 4 * k) FREE 4 l) k l
theorem length_freeTo (k : Nat) (l : List UInt8) (h : 76 + 4 * k ≤ l.length) : (freeTo k l).length = l.length := by
  unfold freeTo
  exact length_iter _ _ _ (fun j l' hj hl => by rw [length_putF om_]; exact hl)
def rowTo (fat : List Nat) (size per p k j : Nat) (l : List UInt8) : List UInt8 := iter (fun j l => putF (size * (1 + p) + 4 * j) (fat.getD (k * per + j) 0) 4 l) j l
def fatTo (pl fat : List Nat) (size per k : Nat) (l : List UInt8) : List UInt8 := iter (fun k l => rowTo fat size per (pl.getD k 0) k per (putF (76 + 4 * k) (pl.getD k 0) 4 l)) k l
theorem length_rowTo (fat : List Nat) (size per p k j : Nat) (l : List UInt8) (h : size * (1 + p) + 4 * j ≤ l.length) : (rowTo fat size per p k j l).length = l.length := by
  unfold rowTo
  exact length_iter _ _ _ (fun j l' hj hl => by rw [length_putF om_]; exact hl)
theorem length_fatTo (pl fat : List Nat) (size per k : Nat) (l : List UInt8) (h1 : 76 + 4 * k ≤ l.length) (h2 : ∀ j, j < k → size * (1 + pl.getD j 0) + 4 * per ≤ l.length) : (fatTo pl fat size per k l).length = l.length := by
  unfold fatTo
  exact length_iter _ _ _ (fun j l' hj hl => by
    have h3 : (putF (76 + 4 * j) (pl.getD j 0) 4 l').length = l.length := by rw [length_putF om_]; exact hl
    rw [length_rowTo _ _ _ _ _ _ _ (by rw [h3]; exact h2 j hj), h3])
theorem sector_le {size p T : Nat} (h : p < T) : size * (1 + p) + size ≤ size * (1 + T) := by
  rw [← Nat.mul_succ]; exact Nat.mul_le_mul_left _ om_
theorem length_tabTo (t : List Nat) (off k : Nat) (l : List UInt8) (h : off + 4 * k ≤ l.length) : (tabTo t off k l).length = l.length := by
  unfold tabTo
  exact length_iter _ _ _ (fun j l' hj hl => by rw [length_putF om_]; exact hl)
def tabF (t : List Nat) : List UInt8 := tabTo t 0 t.length (List.replicate (4 * t.length) 0)
@[simp] theorem length_tabF (t : List Nat) : (tabF t).length = 4 * t.length := by
  unfold tabF
  rw [length_tabTo _ _ _ _ (by simp)]; simp
theorem length_fillF {fat : List Nat} {size : Nat} {data : List UInt8} {start : Nat} {out : List UInt8} (hs : 0 < size) (h : ∀ j, j * size < data.length → size * (2 + walkP fat start j) ≤ out.length) :
    (fillF fat size data start out).length = out.length :=
  length_fillTo _ (fun j hj => h j ((lt_partsF hs).1 hj))
theorem sector_le2 {size p T : Nat} (h : p < T) : size * (2 + p) ≤ size * (1 + T) := Nat.mul_le_mul_left _ om_
def dir3 (k j : Nat) (l : List UInt8) : List UInt8 := iter (fun j l => putF (128 * k + 68 + 4 * j) FREE 4 l) j l
def dirTo (k : Nat) (l : List UInt8) : List UInt8 := iter (fun k l => dir3 k 3 l) k l
theorem length_dir3 (k j : Nat) (l : List UInt8) (hj : j ≤ 3) (h : 128 * k + 128 ≤ l.length) : (dir3 k j l).length = l.length := by
  unfold dir3
  exact length_iter _ _ _ (fun j l' hj hl => by rw [length_putF om_]; exact hl)
theorem length_dirTo (k : Nat) (l : List UInt8) (h : 128 * k ≤ l.length) : (dirTo k l).length = l.length := by
  unfold dirTo
  exact length_iter _ _ _ (fun j l' hj hl => by rw [length_dir3 _ _ _ om_ om_]; exact hl)
def nameTo (name : List UInt8) (A j : Nat) (l : List UInt8) : List UInt8 := iter (fun j l => putF (A + 2 * j) (name.getD j 0).toNat 2 l) j l
theorem length_nameTo (name : List UInt8) (A j : Nat) (l : List UInt8) (h : A + 2 * j ≤ l.length) : (nameTo name A j l).length = l.length := by
  unfold nameTo
  exact length_iter _ _ _ (fun j l' hj hl => by rw [length_putF om_]; exact hl)
def fill0To (mt : List Nat) (data : List UInt8) (start : Nat) (out : List UInt8) : Nat → List UInt8
  | 0 => out
  | k + 1 => spl (64 * walkP mt start k) ((data.drop (k * 64)).take 64) (fill0To mt data start out k)
def fill0F (mt : List Nat) (data : List UInt8) (start : Nat) (out : List UInt8) : List UInt8 := fill0To mt data start out (partsF data.length 64)
theorem length_fill0To {mt : List Nat} {data : List UInt8} {start : Nat} {out : List UInt8} (k : Nat) (h : ∀ j, j < k → 64 * walkP mt start j + 64 ≤ out.length) :
    (fill0To mt data start out k).length = out.length := by
  induction k with
  | zero => rfl
  | succ k ih =>
    have h1 := ih (fun j hj => h j om_)
    have h2 := h k om_
    rw [fill0To, length_spl, h1]
    rw [h1]
    have : ((data.drop (k * 64)).take 64).length ≤ 64 := by simp; omega
    omega
theorem length_fill0F {mt : List Nat} {data : List UInt8} {start : Nat} {out : List UInt8} (h : ∀ j, j * 64 < data.length → 64 * walkP mt start j + 64 ≤ out.length) :
    (fill0F mt data start out).length = out.length :=
  length_fill0To _ (fun j hj => h j ((lt_partsF om_).1 hj))
def swF (k minis size : Nat) (sts mst fat mt : List Nat) (x : Nd) (wl ol : List UInt8) : UInt8 × Nat × Nat × List UInt8 × List UInt8 :=
  if k = 0 then (5, sts.getD 2 0, 64 * minis, wl, ol)
  else if x.stream = true then
    if x.data.length < 4096 then (2, mst.getD k 0, x.data.length, fill0F mt x.data (mst.getD k 0) wl, ol)
    else (2, sts.getD (3 + k) 0, x.data.length, wl, fillF fat size x.data (sts.getD (3 + k) 0) ol)
  else (1, 0, 0, wl, ol)
def linkF (A j : Nat) (v : Int) (l : List UInt8) : List UInt8 := if 0 ≤ v then putF (A + 68 + 4 * j) v.toNat 4 l else l
def link3 (A : Nat) (vs : List Int) (j : Nat) (l : List UInt8) : List UInt8 := iter (fun j l => linkF A j (vs.getD j 0) l) j l
theorem length_linkF (A j : Nat) (v : Int) (l : List UInt8) (h : A + 68 + 4 * j + 4 ≤ l.length) : (linkF A j v l).length = l.length := by
  unfold linkF; split
  · rw [length_putF om_]
  rfl
theorem length_link3 (A : Nat) (vs : List Int) (j : Nat) (l : List UInt8) (h : A + 68 + 4 * j ≤ l.length) : (link3 A vs j l).length = l.length := by
  unfold link3
  exact length_iter _ _ _ (fun j l' hj hl => by rw [length_linkF _ _ _ _ om_]; exact hl)
def entF (A : Nat) (x : Nd) (kd : UInt8) (st ln : Nat) (l : List UInt8) : List UInt8 :=
  putF (A + 120) ln 8 (putF (A + 116) st 4 (putF (A + 108) x.modified 8 (putF (A + 100) x.created 8 (spl (A + 96) x.state (spl (A + 80) x.cls
    (link3 A [x.left, x.right, x.child] 3 ((l.set (A + 66) kd).set (A + 67) 1)))))))
def nameF (A : Nat) (x : Nd) (l : List UInt8) : List UInt8 := putF (A + 64) (2 * x.name.length + 2) 2 (nameTo x.name A x.name.length l)
theorem length_nameF (A : Nat) (x : Nd) (l : List UInt8) (h : A + 128 ≤ l.length) (hn : x.name.length ≤ 31) : (nameF A x l).length = l.length := by
  have h1 := length_nameTo x.name A x.name.length l om_
  unfold nameF
  rw [length_putF om_, h1]
theorem length_entF (A : Nat) (x : Nd) (kd : UInt8) (st ln : Nat) (l : List UInt8) (h : A + 128 ≤ l.length) : (entF A x kd st ln l).length = l.length := by
  have h0 : ((l.set (A + 66) kd).set (A + 67) 1).length = l.length := by simp
  have h1 := length_link3 A [x.left, x.right, x.child] 3 ((l.set (A + 66) kd).set (A + 67) 1) om_
  have h2 : (spl (A + 80) x.cls (link3 A [x.left, x.right, x.child] 3 ((l.set (A + 66) kd).set (A + 67) 1))).length = l.length := by rw [length_spl (by rw [x.h16]; omega)]; omega
  have h3 : (spl (A + 96) x.state (spl (A + 80) x.cls (link3 A [x.left, x.right, x.child] 3 ((l.set (A + 66) kd).set (A + 67) 1)))).length = l.length := by rw [length_spl (by rw [x.h4]; omega)]; exact h2
  unfold entF
  have h4 := length_putF (at_ := A + 100) (n := x.created) (k := 8) (l := spl (A + 96) x.state (spl (A + 80) x.cls (link3 A [x.left, x.right, x.child] 3 ((l.set (A + 66) kd).set (A + 67) 1)))) om_
  have h5 := length_putF (at_ := A + 108) (n := x.modified) (k := 8) (l := putF (A + 100) x.created 8 (spl (A + 96) x.state (spl (A + 80) x.cls (link3 A [x.left, x.right, x.child] 3 ((l.set (A + 66) kd).set (A + 67) 1))))) om_
  rw [length_putF, length_putF]
  · omega
  · omega
  rw [length_putF]
  · omega
  omega
theorem le_getD {l : List Nat} {N : Nat} (h : ∀ x ∈ l, x ≤ N) {i : Nat} (hi : i < l.length) : l.getD i 0 ≤ N := by
  have : l.getD i 0 = l[i] := by simp [List.getD_eq_getElem?_getD, hi]
  rw [this]; exact h _ (List.getElem_mem hi)
def nodeF (minis size : Nat) (sts mst fat mt : List Nat) (xs : List Nd) (k : Nat) (q : List UInt8 × List UInt8 × List UInt8) : List UInt8 × List UInt8 × List UInt8 :=
  ((entF (128 * k) (xs.getD k default) (swF k minis size sts mst fat mt (xs.getD k default) q.2.1 q.2.2).1 (swF k minis size sts mst fat mt (xs.getD k default) q.2.1 q.2.2).2.1 (swF k minis size sts mst fat mt (xs.getD k default) q.2.1 q.2.2).2.2.1 (nameF (128 * k) (xs.getD k default) q.1)),
    (swF k minis size sts mst fat mt (xs.getD k default) q.2.1 q.2.2).2.2.2.1, (swF k minis size sts mst fat mt (xs.getD k default) q.2.1 q.2.2).2.2.2.2)
def nodesTo (minis size : Nat) (sts mst fat mt : List Nat) (xs : List Nd) (k : Nat) (q : List UInt8 × List UInt8 × List UInt8) : List UInt8 × List UInt8 × List UInt8 := iter (nodeF minis size sts mst fat mt xs) k q
theorem swF_facts {k minis size N T : Nat} {sts mst fat mt : List Nat} {x : Nd} {wl ol : List UInt8} (hs : 0 < size) (hsb : ∀ y ∈ sts, y ≤ 4294967295) (hmsb : ∀ y ∈ mst, y ≤ 4294967295) (hks : 3 + k < sts.length) (hkm : k < mst.length)
    (hN : size * (1 + T) = N) (hol : ol.length = N) (hwl : wl.length = 64 * minis) (hW : 64 * minis ≤ 100000000) (hd : x.data.length ≤ 9000)
    (hch1 : k ≠ 0 → x.stream = true → x.data.length < 4096 → ∀ j, j * 64 < x.data.length → walkP mt (mst.getD k 0) j < minis) (hch2 : k ≠ 0 → x.stream = true → ¬ x.data.length < 4096 → ∀ j, j * size < x.data.length → walkP fat (sts.getD (3 + k) 0) j < T) :
    (swF k minis size sts mst fat mt x wl ol).2.1 ≤ 4294967295 ∧ (swF k minis size sts mst fat mt x wl ol).2.2.1 ≤ 100000000 ∧ (swF k minis size sts mst fat mt x wl ol).2.2.2.1.length = 64 * minis ∧ (swF k minis size sts mst fat mt x wl ol).2.2.2.2.length = N := by
  unfold swF
  split
  · exact ⟨le_getD hsb om_, hW, hwl, hol⟩
  split
  · split
    · refine ⟨le_getD hmsb hkm, by simp only; omega, ?_, hol⟩
      simp only
      rw [length_fill0F (fun j hj => by have := hch1 (by assumption) (by assumption) (by assumption) j hj; omega)]; exact hwl
    refine ⟨le_getD hsb hks, by simp only; omega, hwl, ?_⟩
    simp only
    rw [length_fillF hs (fun j hj => by have := sector_le2 (size := size) (hch2 (by assumption) (by assumption) (by assumption) j hj); omega)]; exact hol
  exact ⟨by simp, by simp, hwl, hol⟩

end Cfb

namespace Go.Proofs.YtgoddcicbpjknaaDoor
open Go

theorem parts_ct (n size : Int) (h0 : 0 ≤ n) (h1 : 1 ≤ size) (h2 : n ≤ 1000000000000) (h3 : size ≤ 1000000000000) :
  Ct Tryd.prog 24 [.int .i64 n, .int .i64 size] [] (fun v p => v = .int .i64 ((n + size - 1) / size) ∧ p = []) := by
 refine Ct_of Tryd.func24 rfl Tryd.ntmps24 rfl ?_
 intro E F
 simp only [numL, List.nil_append, List.cons_append]
 refine CW_sr ?_
 refine RW_a ?_
 refine RW_lv [0,1] ?_
 refine CW_sr ?_
 refine RW_m ?_
 refine RW_m ?_
 refine RW_l (Yl_add rfl rfl (wi64 om_ om_)) ?_
 refine RW_l (Yl_sub rfl rfl (wi64 om_ om_)) ?_
 refine RW_m ?_
 refine RW_l (Yl_quo rfl rfl om_ (IntWalk.i64_quo _ _ ⟨by omega, by omega, by omega⟩)) ?_
 refine RW_a ?_
 refine RW_lv [4] ?_
 refine CW_ret ?_
 exact QW_ret1 rfl rfl [] ⟨rfl, rfl⟩ (Prm.nil _)
theorem common_ct (a b : Nat) (h0 : a ≤ 1000000000000) (h1 : b ≤ 1000000000000) :
  Ct Tryd.prog 38 [.int .i64 a, .int .i64 b] [] (fun v p => v = .int .i64 (Nat.gcd a b) ∧ p = []) := by
 refine Ct_of Tryd.func38 rfl Tryd.ntmps38 rfl ?_
 intro E F
 simp only [numL, List.nil_append, List.cons_append]
 refine CW_sr ?_
 refine RW_a ?_
 refine RW_lv [0,1] ?_
 refine CW_seq ?_
 refine CW_block ?_
 refine CW_loop (σ := Nat × Nat) (fun s => [(0, .int .i64 (s.1 : Int)), (1, .int .i64 (s.2 : Int))]) (fun _ => F) (fun s => s.1 ≤ 1000000000000 ∧ s.2 ≤ 1000000000000 ∧ Nat.gcd s.1 s.2 = Nat.gcd a b) (fun s => s.2) (a, b) ⟨h0, h1, rfl⟩ (Prm.nil _) (.cons rfl (.cons rfl .nil)) ?_
 rintro ⟨x, y⟩ hs
 simp only at hs ⊢
 refine CW_seq ?_
 refine CW_sr ?_
 refine RW_m ?_
 refine RW_l (Yl_neq rfl rfl) ?_
 refine RW_lv [0,1,6] ?_
 refine CW_cd rfl (fun hc1 => ?_) (fun hc1 => ?_)
 ·refine (CW_skip (QW_lv [0,1] ?_))
  refine CW_block ?_
  refine CW_draw [] _ mixed (Sub.refl _) ?_
  refine RD_m 0 ?_
  refine RD_m 1 ?_
  refine RD_m 2 ?_
  refine RD_l 3 rfl (Yl_rem rfl rfl om_ (Int.tmod_eq_emod_of_nonneg om_)) ?_
  refine RD_a 4 ?_
  refine RD_a 5 ?_
  refine RD_done kr_ ?_
  refine QW_normal_block ?_
  refine QW_round (y, x % y) ⟨hs.2.1, ?_, ?_⟩ ?_ (Prm.nil _) (.cons rfl (.cons rfl .nil))
  ·have := Nat.mod_lt x (show 0 < y by omega); omega
  ·rw [← hs.2.2, Nat.gcd_comm x y, Nat.gcd_rec y x, Nat.gcd_comm]
  exact Nat.mod_lt _ om_
 refine CW_exit ?_
 refine QW_exit_then ?_
 refine QW_exit_then ?_
 refine QW_exit_block ?_
 refine (QW_lv [0] ?_)
 refine CW_sr ?_
 refine RW_m ?_
 refine RW_a ?_
 refine RW_lv [4] ?_
 refine CW_ret ?_
 exact QW_ret1 rfl rfl [] ⟨by rw [← hs.2.2, show y = 0 by omega]; simp, rfl⟩ (Prm.nil _)

end Go.Proofs.YtgoddcicbpjknaaDoor

namespace Go.Proofs.YtgoddcicbpjknaaDoor
open Go
open Cfb

theorem put_ct (b off m c : Nat) (l : List UInt8) (at_ n k : Int) (h0 : 0 ≤ at_) (hn : 0 ≤ n) (hk0 : 0 ≤ k) (hk : k ≤ 8) (hm : at_ + k ≤ m) (hl : off + m ≤ l.length) (hb : l.length ≤ 1000000000000) :
  Ct Tryd.prog 29 [.slice (some ⟨b, off, none⟩) m c, .int .i64 at_, .int .u64 n, .int .i64 k] [(b, blk (bys l) 5)]
   (fun v p => v = .tuple #[] ∧ p = [(b, blk (bys (spl (off + at_.toNat) (le n.toNat k.toNat) l)) 5)]) := by
 refine Ct_of Tryd.func29 rfl Tryd.ntmps29 rfl ?_
 intro E F
 simp only [numL, List.nil_append, List.cons_append]
 refine CW_sr ?_
 refine RW_m ?_
 refine RW_m ?_
 refine RW_lv [0,1,2,9,10] ?_
 refine CW_block ?_
 refine CW_loop (σ := Nat) (fun s => [(0, .slice (some ⟨b, off, none⟩) m c), (1, .int .i64 at_), (2, .int .u64 n), (9, .int .i64 k), (10, .int .i64 (s : Int))]) (fun s => (b, blk (bys (spl (off + at_.toNat) (le n.toNat s) l)) 5) :: F) (fun s => (s : Int) ≤ k) (fun s => k.toNat - s) 0 om_ (Prm.of_eq (by simp [le, spl_nil])) kp_ ?_
 intro s hs
 refine CW_sr ?_
 refine RW_l (Yl_lss rfl rfl) ?_
 refine RW_lv [0,1,2,9,10,11] ?_
 refine CW_seq ?_
 refine CW_cd rfl (fun hc1 => ?_) (fun hc1 => ?_)
 ·refine (CW_skip (QW_lv [0,1,2,9,10] ?_))
  refine CW_seq ?_
  refine CW_block ?_
  refine CW_sr ?_
  refine RW_m ?_
  refine RW_a ?_
  refine RW_lv [0,1,2,8,9,10] ?_
  refine CW_region ?_
  refine RW_m ?_
  refine RW_m ?_
  refine RW_m ?_
  refine RW_l (Yl_add rfl rfl (wi64 om_ om_)) ?_
  refine RW_m ?_
  refine RW_m ?_
  refine RW_l (Yl_mul rfl rfl (wi64 om_ om_)) ?_
  refine RW_l (Yl_shr rfl rfl om_ rfl) ?_
  refine RW_l (Yl_conv rfl in_39 in_5 (byte_val n s hn om_)) ?_
  refine RW_l (Yl_index rfl rfl sl_23 om_ om_) ?_
  refine RW_fx0 rfl rfl (Fx_store (v := bv (UInt8.ofNat (n.toNat / 256 ^ s))) rfl rfl sz_5 rfl rep_ (by simp only [bys, List.length_map]; rw [length_spl (by rw [length_le]; omega)]; omega)) ?_
  rintro _ _ rfl
  refine RW_nil ?_
  refine QW_normal_block ?_
  refine (QW_lv [0,1,2,9,10] ?_)
  refine CW_region ?_
  refine RW_l (Yl_add rfl rfl (wi64 om_ om_)) ?_
  refine RW_m ?_
  refine RW_nil ?_
  refine QW_round (s + 1) om_ om_ ?_ kp_
  rw [put_step l (off + at_.toNat) n.toNat s _ om_ om_]
  exact Prm.nil _
 refine CW_exit ?_
 refine QW_exit_then ?_
 refine QW_exit_then ?_
 refine QW_exit_block ?_
 obtain rfl : s = k.toNat := by omega
 exact QW_end0 rfl _ ⟨rfl, rfl⟩ (Prm.nil _)

theorem mp_76 : mpOf Tryd.prog 76 = some (3, 39) := by kernel_rfl
theorem mp_143 : mpOf Tryd.prog 143 = some (67, 4) := by kernel_rfl
theorem zm_39 : zeOf Tryd.prog 39 = some (.int .u64 0) := by kernel_rfl
theorem zm_4 : zeOf Tryd.prog 4 = some (.bool false) := by kernel_rfl
theorem at_ints {pl : List Int} {i j : Nat} (h : i < pl.length) (hj : j = i) : (ints pl)[j]? = some (iv (pl.getD i 0)) := by
  subst hj
  simp [List.getD_eq_getElem?_getD, h]
def bar (l : List UInt8) : ByteArray := ⟨l.toArray⟩
@[simp] theorem size_bar (l : List UInt8) : (bar l).size = l.length := by simp [bar, ByteArray.size]
theorem get_bar (l : List UInt8) (i : Nat) (h : i < (bar l).size) : (bar l)[i] = l.getD i 0 := by
  have : i < l.length := by simpa using h
  simp [bar, ByteArray.getElem_eq_getElem_data, List.getD_eq_getElem?_getD, this]
structure Nm where
  nd : Nd
  b : Option Nat
  cap : Nat
  rest : List Value
def Nm.slice (x : Nm) : Value := .slice (x.b.map fun b => ⟨b, 0, none⟩) x.nd.data.length x.cap
def Nm.cells (x : Nm) : List Value :=
  .string (bar x.nd.name) :: .bool x.nd.stream :: x.slice :: iv x.nd.left :: iv x.nd.right :: iv x.nd.child :: (bys x.nd.cls ++ (bys x.nd.state ++ [.int .u64 (x.nd.created : Int), .int .u64 (x.nd.modified : Int)]))
def Nm.heap (x : Nm) : Heap := match x.b with | none => [] | some b => [(b, blk (bys x.nd.data ++ x.rest) 5)]
structure Nm.ok (x : Nm) : Prop where
  none : x.b = none → x.nd.data = []
  fit : x.nd.data.length ≤ x.cap
  small : x.nd.data.length ≤ 9000
  name : x.nd.name.length ≤ 31
  left : -1 ≤ x.nd.left ∧ x.nd.left ≤ 100000
  right : -1 ≤ x.nd.right ∧ x.nd.right ≤ 100000
  child : -1 ≤ x.nd.child ∧ x.nd.child ≤ 100000
  created : x.nd.created < 18446744073709551616
  modified : x.nd.modified < 18446744073709551616
instance : Inhabited Nm := ⟨⟨default, none, 0, []⟩⟩
theorem Nm.data_ok {x : Nm} (h : x.ok) (h0 : 0 < x.nd.data.length) : (x.b.map fun b => (⟨b, 0, Option.none⟩ : Addr)) = some ⟨x.b.getD 0, 0, Option.none⟩ ∧ x.heap = [(x.b.getD 0, blk (bys x.nd.data ++ x.rest) 5)] := by
  cases hb : x.b with
  | none => have := h.none hb; rw [this] at h0; simp at h0
  | some b => simp [Nm.heap, hb]
theorem Nm.length_cells (x : Nm) : x.cells.length = 28 := by simp [Nm.cells, x.nd.h16, x.nd.h4]
theorem Nm.one_cells (x : Nm) : ∀ v ∈ x.cells, v.oneCell' = true := by
  intro v hv
  simp only [Nm.cells, List.mem_cons, List.mem_append, List.mem_map, List.not_mem_nil, or_false] at hv
  rcases hv with rfl | rfl | rfl | rfl | rfl | rfl | ⟨y, _, rfl⟩ | ⟨y, _, rfl⟩ | rfl | rfl <;> rfl
theorem Nm.at26 (x : Nm) : x.cells[26]? = some (.int .u64 (x.nd.created : Int)) := by
  unfold Nm.cells
  simp only [List.getElem?_cons_succ]
  rw [List.getElem?_append_right (by simp [x.nd.h16]), List.getElem?_append_right (by simp [x.nd.h16, x.nd.h4])]
  simp [x.nd.h16, x.nd.h4]
theorem Nm.at27 (x : Nm) : x.cells[27]? = some (.int .u64 (x.nd.modified : Int)) := by
  unfold Nm.cells
  simp only [List.getElem?_cons_succ]
  rw [List.getElem?_append_right (by simp [x.nd.h16]), List.getElem?_append_right (by simp [x.nd.h16, x.nd.h4])]
  simp [x.nd.h16, x.nd.h4]
theorem Nm.cls (x : Nm) : (x.cells.drop 6).take 16 = bys x.nd.cls := by
  unfold Nm.cells
  simp only [List.drop_succ_cons, List.drop_zero]
  rw [List.take_append_of_le_length (by simp [x.nd.h16]), List.take_of_length_le (by simp [x.nd.h16])]
theorem Nm.state (x : Nm) : (x.cells.drop 22).take 4 = bys x.nd.state := by
  unfold Nm.cells
  simp only [List.drop_succ_cons]
  rw [List.drop_append_of_le_length (by simp [x.nd.h16]), List.drop_of_length_le (by simp [x.nd.h16]), List.nil_append, List.take_append_of_le_length (by simp [x.nd.h4]), List.take_of_length_le (by simp [x.nd.h4])]
abbrev nms (l : List Nm) : List Value := l.flatMap Nm.cells
theorem length_nms (l : List Nm) : (nms l).length = l.length * 28 := by
  induction l with
  | nil => rfl
  | cons x r ih => simp only [nms, List.flatMap_cons, List.length_append, Nm.length_cells, List.length_cons] at *; omega
theorem nms_at : ∀ (l : List Nm) (r : List Value) (k : Nat), k < l.length → ((nms l ++ r).drop (k * 28)).take 28 = (l.getD k default).cells := by
  intro l
  induction l with
  | nil => intro r k h; simp at h
  | cons x l ih =>
    intro r k h
    cases k with
    | zero =>
      simp only [nms, List.flatMap_cons, Nat.zero_mul, List.drop_zero, List.append_assoc, List.getD_cons_zero]
      rw [List.take_append_of_le_length (by rw [Nm.length_cells]; omega), List.take_of_length_le (by rw [Nm.length_cells]; omega)]
    | succ k =>
      have h1 := ih r k (by simpa using h)
      simp only [nms, List.flatMap_cons, List.append_assoc, List.getD_cons_succ] at *
      rw [show (k + 1) * 28 = x.cells.length + k * 28 by rw [Nm.length_cells]; omega, List.drop_append]
      simp only [Nm.length_cells, Nat.add_sub_cancel_left]
      rw [List.drop_of_length_le (by rw [Nm.length_cells]; omega), List.nil_append]
      exact h1
theorem parts_ctN (n size : Nat) (h1 : 1 ≤ size) (h2 : n ≤ 1000000000000) (h3 : size ≤ 1000000000000) :
    Ct Tryd.prog 24 [.int .i64 (n : Int), .int .i64 (size : Int)] [] (fun v p => v = nv (partsF n size) ∧ p = []) := by
  refine (parts_ct (n : Int) (size : Int) om_ om_ om_ om_).mono ?_
  rintro v p ⟨rfl, rfl⟩
  refine ⟨?_, rfl⟩
  unfold nv partsF
  congr 1
  rw [show ((n : Int) + (size : Int) - 1) = ((n + size - 1 : Nat) : Int) by omega]
  rfl
theorem put_ctN (b off m c A : Nat) (l : List UInt8) (at_ n k : Nat) (hA : off + at_ = A) (hk : k ≤ 8) (hm : at_ + k ≤ m) (hl : off + m ≤ l.length) (hb : l.length ≤ 1000000000000) :
    Ct Tryd.prog 29 [.slice (some ⟨b, off, none⟩) m c, .int .i64 (at_ : Int), .int .u64 (n : Int), .int .i64 (k : Int)] [(b, blk (bys l) 5)]
      (fun v p => v = .tuple #[] ∧ p = [(b, blk (bys (putF A n k l)) 5)]) := by
  subst hA
  exact put_ct b off m c l (at_ : Int) (n : Int) (k : Int) om_ om_ om_ om_ om_ hl hb
theorem take_map_succ {α β : Type} [Inhabited α] (f : α → β) (l : List α) (k : Nat) (h : k < l.length) : (l.take (k + 1)).map f = (l.take k).map f ++ [f (l.getD k default)] := by
  rw [List.take_succ_eq_append_getElem h]
  simp only [List.map_append, List.map_cons, List.map_nil]
  congr 2
  simp [List.getD_eq_getElem?_getD, h]
def QP (Q : Exit → Act → World → Prop) : Prop := ∀ c a d v w, Q (.panic c) (a.put (some d) v) w → Q (.panic c) a w
theorem QW_live {E : World} {n : Nat} {L L' : Fra} {H : Heap} {x : Exit} {Q : Exit → Act → World → Prop} {ks : List Nat} (hk : Keep L ks L') (h : QW E n L' H x Q) : QW E n L H x Q :=
  fun a w hf hh => h a w (hf.sub hk.sub) hh
def bodyOf (f : Func) : Code := match f.body with | some c => c | none => .skip
abbrev nmsH (l : List Nm) : Heap := l.flatMap Nm.heap
theorem nmsH_perm : ∀ (l : List Nm) (k : Nat), k < l.length → (nmsH l).Perm ((l.getD k default).heap ++ nmsH (l.eraseIdx k)) := by
  intro l
  induction l with
  | nil => intro k h; simp at h
  | cons x l ih =>
    intro k h
    cases k with
    | zero => simp
    | succ k =>
      have h1 := ih k (by simpa using h)
      simp only [nmsH, List.flatMap_cons, List.eraseIdx_cons_succ, List.getD_cons_succ] at *
      refine (h1.append_left x.heap).trans ?_
      exact List.perm_append_comm_assoc _ _ _
theorem perm_in (A B : Heap) {NH Dh NR : Heap} (F : Heap) (h : NH.Perm (Dh ++ NR)) : (A ++ (B ++ (NH ++ F))).Perm (A ++ (Dh ++ (B ++ (NR ++ F)))) := by
  refine List.Perm.append_left A ?_
  refine ((h.append_right F).append_left B).trans ?_
  rw [List.append_assoc]
  exact List.perm_append_comm_assoc _ _ _
theorem perm_in2 (A : Heap) (e : Nat × Obj) (NH F : Heap) : (A ++ (e :: (NH ++ F))).Perm (A ++ (NH ++ (e :: F))) :=
  List.Perm.append_left A (List.perm_middle.symm)
theorem ok_at {l : List Nm} (h : ∀ x ∈ l, x.ok) {k : Nat} (hk : k < l.length) : (l.getD k default).ok := by
  rw [List.getD_eq_getElem?_getD, List.getElem?_eq_getElem hk]; exact h _ (List.getElem_mem _)
theorem nd_at (l : List Nm) (k : Nat) (hk : k < l.length) : (l.map Nm.nd).getD k default = (l.getD k default).nd := by
  simp [List.getD_eq_getElem?_getD, hk]
section
variable {P : Program} {E : World} {L : Fra} {H H' : Heap} {dst : Option Tmp} {ty : TypeId} {pos : String} {aft : Array Edge} {gd : Option (Nat × Bool)}
theorem Yh_loadNm {x : Operand} {b k : Nat} {l : List Nm} {r : List Value} {o : Nat} (hx : ev L x = some (.pointer (some ⟨b, o, none⟩))) (ho : o = k * 28)
    (hm : (b, blk (nms l ++ r) 43) ∈ H) (hk : k < l.length) : Yh Tryd.prog E L H ⟨dst, .load 43 x, ty, pos, aft, gd⟩ (.agg (l.getD k default).cells.toArray) := by
  subst ho
  have h1 := length_nms l
  have := Yh_loadA (E := E) (H := H) (dst := dst) (ty := ty) (pos := pos) (aft := aft) (gd := gd) hx ag_43 hm (by simp only [List.length_append]; omega)
  rw [nms_at l r k hk] at this
  exact this
theorem Fx_storeNm {x y : Operand} {b : Nat} {l : List Value} {z : Nm} (hx : ev L x = some (.pointer (some ⟨b, 0, none⟩))) (hy : ev L y = some (.agg z.cells.toArray))
    (hr : Rep H (b, blk l 43) (b, blk z.cells 43) H') (hl : l.length = 28) :
    Fx Tryd.prog E L H ⟨dst, .store 43 x y, ty, pos, aft, gd⟩ (fun _ H'' => H'' = H') := by
  have hs : spl 0 z.cells l = z.cells := by simp [spl, Nm.length_cells, hl, List.drop_of_length_le]
  refine Fx_storeA hx hy (by rw [Nm.length_cells]; exact sz_43) (Nm.one_cells z) (by rw [hs]; exact hr) (by rw [Nm.length_cells, hl]; omega)
theorem Fx_makeU32 {x y : Operand} (N : Nat) (hx : ev L x = some (.int .i64 (N : Int))) (hy : ev L y = some (.int .i64 (N : Int))) (hN : N ≤ 1000000000) :
    Fx Tryd.prog E L H ⟨dst, .makeSlice 22 x y, ty, pos, aft, gd⟩ (fun v H'' => ∃ b, v = .slice (some ⟨b, 0, none⟩) N N ∧ H'' = (b, blk (u32s (List.replicate N 0)) 67) :: H) := by
  have := Fx_makeSlice (E := E) (H := H) (dst := dst) (ty := ty) (pos := pos) (aft := aft) (gd := gd) (z0 := .int .u32 0) (m := 1) hx hy sl_22 by_67 ze_67 rfl rfl om_ om_ om_ om_
  simp only [Int.toNat_natCast, Nat.mul_one] at this
  have e : u32s (List.replicate N 0) = List.replicate N (.int .u32 0) := by simp [u32s, uv]
  rw [e]; exact this
theorem Fx_makeU8 {x y : Operand} (N : Nat) (hx : ev L x = some (.int .i64 (N : Int))) (hy : ev L y = some (.int .i64 (N : Int))) (hN : N ≤ 1000000000) :
    Fx Tryd.prog E L H ⟨dst, .makeSlice 23 x y, ty, pos, aft, gd⟩ (fun v H'' => ∃ b, v = .slice (some ⟨b, 0, none⟩) N N ∧ H'' = (b, blk (bys (List.replicate N 0)) 5) :: H) := by
  have := Fx_makeSlice (E := E) (H := H) (dst := dst) (ty := ty) (pos := pos) (aft := aft) (gd := gd) (z0 := .int .u8 0) (m := 1) hx hy sl_23 by_5 ze_5 rfl rfl om_ om_ om_ om_
  simp only [Int.toNat_natCast, Nat.mul_one] at this
  have e : bys (List.replicate N 0) = List.replicate N (.int .u8 0) := by simp [bys, bv]
  rw [e]; exact this
theorem Yl_cutHN {x z : Operand} {t e : TypeId} {sz m c b off h : Nat} (hx : ev L x = some (.slice (some ⟨b, off, none⟩) m c)) (hz : ev L z = some (.int .i64 (h : Int)))
    (ht : slOf P t = some (e, sz)) (h2 : h ≤ c) : Yl P L ⟨dst, .slice t x none (some z) none, ty, pos, aft, gd⟩ (.slice (some ⟨b, off, none⟩) h c) := by
  have := Yl_cutH (P := P) (dst := dst) (ty := ty) (pos := pos) (aft := aft) (gd := gd) hx hz ht om_ om_
  simp only [Int.toNat_natCast, cutAt_zero] at this
  exact this
theorem Fx_callVQ {f : FuncId} {x : Operand} {fs cs : List Value} {xs : List Operand} {vs : List Value} {ts : Array TypeId} {es F : Heap} {R : Value → Prop} (hok : callOk P f = true) (hx : ev L x = some (.func (.func f) fs.toArray cs.toArray)) (hv : evs L xs = some vs)
    (hp : Pick H es F) (hc : Ct P f (fs ++ vs ++ cs) es (fun v p => R v ∧ p = es)) :
    Fx P E L H ⟨dst, .call ⟨.value x, xs.toArray, ts⟩, ty, pos, aft, gd⟩ (fun v H'' => R v ∧ H'' = H) := by
  intro n a w next Q hf hh k
  refine Fx_callV hok hx hv hp hc n a w next Q hf hh ?_
  rintro v w' H' ⟨post, ⟨hR, rfl⟩, rfl⟩ hh'
  exact k v w' H ⟨hR, rfl⟩ (hh'.perm hp.perm.symm)
theorem Yl_cutLL {x y : Operand} {t e : TypeId} {sz m c b off l o' m' c' : Nat} (hx : ev L x = some (.slice (some ⟨b, off, none⟩) m c)) (hy : ev L y = some (.int .i64 (l : Int)))
    (ht : slOf P t = some (e, sz)) (h1 : l ≤ m) (h2 : l < c) (e1 : off + l * sz = o') (e2 : m - l = m') (e3 : c - l = c') :
    Yl P L ⟨dst, .slice t x (some y) none none, ty, pos, aft, gd⟩ (.slice (some ⟨b, o', none⟩) m' c') := by
  have := Yl_cutLN (P := P) (dst := dst) (ty := ty) (pos := pos) (aft := aft) (gd := gd) hx hy ht h1
  rw [if_neg om_, e1, e2, e3] at this
  exact this
theorem Yl_lenB {x : Operand} {l : List UInt8} {t : TypeId} (hx : ev L x = some (.string (bar l))) (ht : isStr P t = true) :
    Yl P L ⟨dst, .call ⟨.builtin .len, #[x], #[t]⟩, ty, pos, aft, gd⟩ (nv l.length) := by
  have := Yl_lenS (P := P) (dst := dst) (ty := ty) (pos := pos) (aft := aft) (gd := gd) hx ht
  rw [size_bar] at this
  exact this
theorem Yl_atB {x y : Operand} {t : TypeId} {l : List UInt8} {i : Nat} (hx : ev L x = some (.string (bar l))) (hy : ev L y = some (.int .i64 (i : Int))) (ht : isStr P t = true) (h1 : i < l.length) :
    Yl P L ⟨dst, .index t x y, ty, pos, aft, gd⟩ (bv (l.getD i 0)) := by
  have := Yl_indexS (P := P) (dst := dst) (ty := ty) (pos := pos) (aft := aft) (gd := gd) hx hy ht om_ (by rw [size_bar]; simpa using h1)
  rw [get_bar] at this
  exact this
end

end Go.Proofs.YtgoddcicbpjknaaDoor

namespace Go.Proofs.YtgoddcicbpjknaaDoor
open Go

section
variable {P : Program} {E : World} {L : Fra} {H H' : Heap} {dst : Option Tmp} {ty : TypeId} {pos : String} {aft : Array Edge} {gd : Option (Nat × Bool)}
def conc (P : Program) (t : TypeId) : Bool := match P.underlying t with | some (.interface _) => false | some _ => true | none => false
theorem Yl_iface {x : Operand} {t : TypeId} {v : Value} (hx : ev L x = some v) (ht : conc P t = true) : Yl P L ⟨dst, .makeInterface t x, ty, pos, aft, gd⟩ (.iface t v) := by
  intro _ a w hf
  unfold conc at ht
  cases hu : P.underlying t with
  | none => simp [hu] at ht
  | some d => cases d <;> simp [hu] at ht <;> simp [execOp, Instr.makeInterface, underlying, hu, hf.eval hx]
def isIf (P : Program) (t : TypeId) : Bool := match P.underlying t with | some (.interface _) => true | _ => false
theorem isIf_u {t : TypeId} (h : isIf P t = true) : ∃ ms, P.underlying t = some (.interface ms) := by
  unfold isIf at h
  split at h
  · rename_i ms hu; exact ⟨ms, hu⟩
  cases h
theorem equal_nil {t : TypeId} (h : isIf P t = true) (w : World) : (Op.equal t .nilIface .nilIface).run P w = .ok true w := by
  obtain ⟨ms, hu⟩ := isIf_u h
  have : ∀ d, (Op.equalIn (d + 1) t .nilIface .nilIface).run P w = .ok true w := by intro d; simp [Op.equalIn, underlying, hu]
  exact this 9999
theorem equal_iface {t T : TypeId} {v : Value} (h : isIf P t = true) (w : World) : (Op.equal t (.iface T v) .nilIface).run P w = .ok false w := by
  obtain ⟨ms, hu⟩ := isIf_u h
  have : ∀ d, (Op.equalIn (d + 1) t (.iface T v) .nilIface).run P w = .ok false w := by intro d; simp [Op.equalIn, underlying, hu]
  exact this 9999
theorem Yl_ifNeNil {x : Operand} {t u : TypeId} (hx : ev L x = some .nilIface) (ht : isIf P t = true) : Yl P L ⟨dst, .binOp .neq t x (.const .nilIface) u, ty, pos, aft, gd⟩ (.bool false) := by
  intro _ a w hf
  have he := equal_nil ht w
  have hc : a.eval (.const .nilIface) = .nilIface := rfl
  simp [execOp, hf.eval hx, hc, eqGuard, binOp, he]
theorem Yl_ifEqNil {x : Operand} {t u : TypeId} (hx : ev L x = some .nilIface) (ht : isIf P t = true) : Yl P L ⟨dst, .binOp .eql t x (.const .nilIface) u, ty, pos, aft, gd⟩ (.bool true) := by
  intro _ a w hf
  have he := equal_nil ht w
  have hc : a.eval (.const .nilIface) = .nilIface := rfl
  simp [execOp, hf.eval hx, hc, eqGuard, binOp, he]
theorem Yl_ifNe {x : Operand} {t u T : TypeId} {v : Value} (hx : ev L x = some (.iface T v)) (ht : isIf P t = true) : Yl P L ⟨dst, .binOp .neq t x (.const .nilIface) u, ty, pos, aft, gd⟩ (.bool true) := by
  intro _ a w hf
  have he := equal_iface (T := T) (v := v) ht w
  have hc : a.eval (.const .nilIface) = .nilIface := rfl
  simp [execOp, hf.eval hx, hc, eqGuard, binOp, he]
theorem Yl_ifEq {x : Operand} {t u T : TypeId} {v : Value} (hx : ev L x = some (.iface T v)) (ht : isIf P t = true) : Yl P L ⟨dst, .binOp .eql t x (.const .nilIface) u, ty, pos, aft, gd⟩ (.bool false) := by
  intro _ a w hf
  have he := equal_iface (T := T) (v := v) ht w
  have hc : a.eval (.const .nilIface) = .nilIface := rfl
  simp [execOp, hf.eval hx, hc, eqGuard, binOp, he]
theorem Yl_assertIs {x : Operand} {t T : TypeId} {v : Value} (hx : ev L x = some (.iface T v)) (ht : conc P T = true) : Yl P L ⟨dst, .typeAssert x t T true, ty, pos, aft, gd⟩ (.tuple #[v, .bool true]) := by
  intro _ a w hf
  unfold conc at ht
  cases hu : P.underlying T with
  | none => simp [hu] at ht
  | some d => cases d <;> simp [hu] at ht <;> simp [execOp, Instr.typeAssert, underlying, hu, hf.eval hx]
def lacks (P : Program) (T U : TypeId) : Bool := match P.underlying T, P.info? U with | some (.interface want), some i => (Instr.missingMethod want i.methods).isSome | _, _ => false
theorem Yl_assertLacks {x : Operand} {t T U : TypeId} {v z : Value} (hx : ev L x = some (.iface U v)) (ht : lacks P T U = true) (hz : zeOf P T = some z) : Yl P L ⟨dst, .typeAssert x t T true, ty, pos, aft, gd⟩ (.tuple #[z, .bool false]) := by
  intro _ a w hf
  unfold zeOf at hz
  simp only [Option.bind_eq_some_iff] at hz
  obtain ⟨i, hi, hz'⟩ := hz
  unfold lacks at ht
  split at ht
  · rename_i want j hu hj
    cases hm : Instr.missingMethod want j.methods with
    | none => simp [hm] at ht
    | some m => simp [execOp, Instr.typeAssert, underlying, hu, hf.eval hx, zeroValue, typeInfo, hi, hj, hz', hm]
  cases ht
def mtOf (P : Program) (t : TypeId) (name : String) : Option (FuncId × Bool) := match P.info? t with | some i => (match i.methods.find? (·.name == name) with | some m => if m.path.isEmpty then m.func else none | none => none) | none => none
def isPtr (P : Program) (t : TypeId) : Bool := match P.underlying t with | some (.pointer _) => true | _ => false
theorem run_method {t : TypeId} {v : Value} {name : String} {f : FuncId} {b : Bool} (hm : mtOf P t name = some (f, b)) (hp : b = isPtr P t) (fuel : Nat) (hu : (P.underlying t).isSome = true) (w : World) : (method (fuel + 1) t v name).run P w = .ok (f, v) w := by
  unfold mtOf at hm
  split at hm
  · rename_i i hi
    split at hm
    · rename_i m hfm
      split at hm
      · rename_i hpe
        have hpl : m.path.toList = [] := by simpa using hpe
        subst hp
        cases hu' : P.underlying t with
        | none => simp [hu'] at hu
        | some d =>
          cases d <;> simp [method, typeInfo, hi, hfm, hpl, follow, hm, isPtr, hu', receiverAt, underlying, Place.get, hpe]
      cases hm
    cases hm
  cases hm
theorem Fx_invoke {x : Operand} {xs : List Operand} {vs : List Value} {ts : Array TypeId} {T : TypeId} {v : Value} {name : String} {f : FuncId} {b : Bool} {es F : Heap} {R : Value → Heap → Prop} (hx : ev L x = some (.iface T v)) (hm : mtOf P T name = some (f, b)) (hp : (b == isPtr P T && (P.underlying T).isSome) = true)
    (hok : callOk P f = true) (hv : evs L xs = some vs) (hpk : Pick H es F) (hc : Ct P f (v :: vs) es R) :
    Fx P E L H ⟨dst, .call ⟨.invoke x name, xs.toArray, ts⟩, ty, pos, aft, gd⟩ (fun v H'' => ∃ post, R v post ∧ H'' = post ++ F) := by
  intro _ a w next Q hf hh k
  simp only [Bool.and_eq_true, beq_iff_eq] at hp
  have hfl : ∃ m, P.types.size + Made.depth = m + 1 := ⟨P.types.size + Made.depth - 1, by have : 0 < Made.depth := by decide
                                                                                          omega⟩
  obtain ⟨m, hfm⟩ := hfl
  have hmr := run_method (v := v) hm hp.1 m hp.2 w
  have hrun : (execOp a.eval ⟨dst, .call ⟨.invoke x name, xs.toArray, ts⟩, ty, pos, aft, gd⟩).run P w = .ok (.enter f (v :: vs).toArray) w := by
    have e1 : xs.toArray.map a.eval = vs.toArray := by rw [List.map_toArray, evs_map hf xs vs hv]
    simp only [execOp, resolve, e1, hf.eval hx]
    simp [invoke, callMethod, hfm, hmr, run_callFunc hok]
  simp only [Oper.wp, hrun, Oper.upon]
  refine (hc E F w (hh.perm hpk.perm)).mono ?_
  rintro e w' ⟨v, post, rfl, hR, hh'⟩
  exact k v w' _ ⟨post, hR, rfl⟩ hh'
def plsOf (P : Program) (t : TypeId) : Option (List (Nat × Nat)) := match P.underlying t with
  | some (.struct fields) => fields.toList.mapM fun f => (P.info? f.type).map fun i => (f.offset, i.size)
  | _ => none
theorem run_places (w : World) : ∀ (fs : List Field) (pl : List (Nat × Nat)), (fs.mapM fun f => (P.info? f.type).map fun i => (f.offset, i.size)) = some pl →
    (fs.mapM (m := Sem) fun f => Prod.mk f.offset <$> sizeOf f.type).run P w = .ok pl w := by
  intro fs
  induction fs with
  | nil => intro pl h; simp at h; subst h; simp
  | cons f r ih =>
    intro pl h
    simp only [List.mapM_cons] at h
    cases hi : P.info? f.type with
    | none => simp [hi] at h
    | some i =>
      cases hr : (r.mapM fun f => (P.info? f.type).map fun i => (f.offset, i.size)) with
      | none => simp [hi, hr] at h
      | some pr =>
        simp [hi, hr] at h
        subst h
        have := ih pr hr
        rw [List.mapM_cons]
        have hsz : (sizeOf f.type).run P w = .ok i.size w := by simp [sizeOf, typeInfo, hi]
        simp [hsz, this]
theorem Yl_build {t : TypeId} {ps : List (Nat × Operand)} {vs : List (Nat × Value)} {pl : List (Nat × Nat)} {z : Value} {cs : List Value} (ht : plsOf P t = some pl) (hz : zeOf P t = some z) (hp : evp L ps = some vs)
    (hfill : Instr.fill (fun i => pl[i]?) z.cells vs = some cs.toArray) : Yl P L ⟨dst, .build t ps.toArray, ty, pos, aft, gd⟩ (.agg cs.toArray) := by
  intro _ a w hf
  unfold plsOf at ht
  split at ht
  · rename_i fields hu
    unfold zeOf at hz
    simp only [Option.bind_eq_some_iff] at hz
    obtain ⟨i, hi, hz'⟩ := hz
    have hpl := run_places (P := P) w fields.toList pl ht
    have hpl' : (fields.mapM (m := Sem) fun f => Prod.mk f.offset <$> sizeOf f.type).run P w = .ok pl.toArray w := by
      rw [Array.mapM_eq_mapM_toList]
      simp [hpl]
    have he := evp_map hf ps vs hp
    simp [execOp, Instr.build, zeroValue, typeInfo, hi, hz', underlying, hu, hpl', he, hfill]
  cases ht
end
theorem pl_103 : plsOf Tryd.prog 103 = some [(0, 1)] := by kernel_rfl

theorem fo_198_0 : fieldOff Tryd.prog 198 0 = some 0 := by kernel_rfl
theorem ze_119 : zeOf Tryd.prog 119 = some (.nilIface) := by kernel_rfl
@[reducible] def zs_198 : List Value := [.slice none 0 0, .int .i64 0, .int .i64 0]
theorem ze_198 : zeOf Tryd.prog 198 = some (.agg zs_198.toArray) := by kernel_rfl
theorem ok_93 : callOk Tryd.prog 93 = true := by kernel_rfl
theorem ok_95 : callOk Tryd.prog 95 = true := by kernel_rfl
theorem ok_96 : callOk Tryd.prog 96 = true := by kernel_rfl
theorem pl_41 : plsOf Tryd.prog 41 = some [(0, 1), (1, 1), (2, 1), (3, 1), (4, 1), (5, 16), (21, 4), (25, 1), (26, 1)] := by kernel_rfl
theorem pl_43 : plsOf Tryd.prog 43 = some [(0, 1), (1, 1), (2, 1), (3, 1), (4, 1), (5, 1), (6, 16), (22, 4), (26, 1), (27, 1)] := by kernel_rfl
theorem pl_89 : plsOf Tryd.prog 89 = some [(0, 1), (1, 1), (2, 1), (3, 1), (4, 1), (5, 1), (6, 1), (7, 1), (8, 1)] := by kernel_rfl
theorem pl_93 : plsOf Tryd.prog 93 = some [(0, 1), (1, 1), (2, 1), (3, 1), (4, 1), (5, 1), (6, 1), (7, 1), (8, 1)] := by kernel_rfl
theorem pl_112 : plsOf Tryd.prog 112 = some [(0, 32), (32, 1), (33, 1), (34, 1), (35, 1), (36, 1), (37, 1), (38, 16), (54, 4), (58, 1), (59, 1), (60, 1), (61, 8)] := by kernel_rfl
theorem pl_123 : plsOf Tryd.prog 123 = some [(0, 1), (1, 1), (2, 1)] := by kernel_rfl
theorem pl_137 : plsOf Tryd.prog 137 = some [(0, 1), (1, 1), (2, 1), (3, 1)] := by kernel_rfl
theorem pl_142 : plsOf Tryd.prog 142 = some [(0, 1), (1, 16), (17, 1), (18, 1), (19, 2), (21, 1), (22, 2), (24, 6), (30, 1), (31, 1), (32, 1), (33, 4), (37, 4), (41, 1), (42, 1), (43, 1), (44, 1), (45, 109)] := by kernel_rfl
theorem pl_198 : plsOf Tryd.prog 198 = some [(0, 1), (1, 1), (2, 1)] := by kernel_rfl
theorem co_79 : conc Tryd.prog 79 = true := by kernel_rfl
theorem co_123 : conc Tryd.prog 123 = true := by kernel_rfl
theorem if_105 : isIf Tryd.prog 105 = true := by kernel_rfl

end Go.Proofs.YtgoddcicbpjknaaDoor

namespace Go.Proofs.YtgoddcicbpjknaaDoor
open Go
open Cfb

theorem or_add {a b s : Nat} (h : a < 2 ^ s) : a ||| (b * 2 ^ s) = a + b * 2 ^ s := by
  rw [Nat.or_comm, ← Nat.shiftLeft_eq, ← Nat.shiftLeft_add_eq_or_of_lt h]; omega
theorem or_bits {P : Program} {k : IntKind} {a b s c : Nat} (hk : k = .u16 ∨ k = .u32 ∨ k = .u64) (ha : a < 2 ^ s) (hb : a + b * 2 ^ s < 2 ^ k.bits) (hc : c = a + b * 2 ^ s) (w : World) :
    (Op.intBits .or k (a : Int) ((b * 2 ^ s : Nat) : Int)).run P w = .ok (.int k (c : Int)) w := by
  have h1 : (BitVec.ofInt k.bits (a : Int) ||| BitVec.ofInt k.bits ((b * 2 ^ s : Nat) : Int)).toNat = c := by
    rw [BitVec.toNat_or, BitVec.ofInt_natCast, BitVec.ofInt_natCast, BitVec.toNat_ofNat, BitVec.toNat_ofNat, Nat.mod_eq_of_lt om_, Nat.mod_eq_of_lt om_, or_add ha, hc]
  have h2 : k.wrap (c : Int) = (c : Int) := by
    rcases hk with rfl | rfl | rfl
    · exact wu16 (by omega) (by have : IntKind.u16.bits = 16 := rfl
                                rw [this] at hb; omega)
    · exact wu32 (by omega) (by have : IntKind.u32.bits = 32 := rfl
                                rw [this] at hb; omega)
    exact wu64 (by omega) (by have : IntKind.u64.bits = 64 := rfl
                              rw [this] at hb; omega)
  simp only [Op.intBits]
  rw [h1, h2]
  simp
theorem shl_val {k : IntKind} {x s : Nat} (hk : k = .u16 ∨ k = .u32 ∨ k = .u64) (hs : s ≤ k.bits) (hb : x * 2 ^ s < 2 ^ k.bits) : k.wrap ((x : Int) * 2 ^ (min (s : Int).toNat k.bits)) = ((x * 2 ^ s : Nat) : Int) := by
  have h1 : min (s : Int).toNat k.bits = s := by simp; omega
  rw [h1]
  have h2 : (x : Int) * 2 ^ s = ((x * 2 ^ s : Nat) : Int) := by push_cast; rfl
  rw [h2]
  rcases hk with rfl | rfl | rfl
  · exact wu16 (by omega) (by have : IntKind.u16.bits = 16 := rfl
                              rw [this] at hb; omega)
  · exact wu32 (by omega) (by have : IntKind.u32.bits = 32 := rfl
                              rw [this] at hb; omega)
  exact wu64 (by omega) (by have : IntKind.u64.bits = 64 := rfl
                            rw [this] at hb; omega)
theorem Yl_nilCheckI {P : Program} {L : Fra} {dst : Option Tmp} {ty : TypeId} {pos : String} {aft : Array Edge} {gd : Option (Nat × Bool)} {x : Operand} {T : TypeId} {v : Value} (h : ev L x = some (.iface T v)) : Yl P L ⟨dst, .nilCheck x, ty, pos, aft, gd⟩ (.iface T v) := by
  intro n a w hf
  simp [execOp, hf.eval h]
theorem mt_79 : mtOf Tryd.prog 79 "ReadAt" = some (93, true) := by kernel_rfl
theorem pt_79 : (true == isPtr Tryd.prog 79 && (Tryd.prog.underlying 79).isSome) = true := by kernel_rfl
theorem len_drop_take {α : Type} (B : List α) (o n : Nat) (h : o + n ≤ B.length) : ((B.drop o).take n).length = n := by simp; omega
theorem at4 {B : List UInt8} {l : List Value} (h : l = bys B) (i : Nat) (hi : i < B.length) : l[0 + i]? = some (bv (B.getD i 0)) := by
  subst h
  simp [List.getD_eq_getElem?_getD, hi]
theorem list4 (B : List UInt8) (h : B.length = 4) : B = [B.getD 0 0, B.getD 1 0, B.getD 2 0, B.getD 3 0] := by
  match B, h with
  | [a, b, c, d], _ => rfl
theorem spl_full {α : Type} (c l : List α) (h : c.length = l.length) : spl 0 c l = c := by simp [spl, h]
theorem Yl_load0 {P : Program} {L : Fra} {dst : Option Tmp} {ty : TypeId} {pos : String} {aft : Array Edge} {gd : Option (Nat × Bool)} {x : Operand} {t : TypeId} {b off : Nat} (hx : ev L x = some (.pointer (some ⟨b, off, none⟩))) (ht : agOf P t = some 0) :
    Yl P L ⟨dst, .load t x, ty, pos, aft, gd⟩ (.agg #[]) := by
  intro _ a w hf
  have hr := run_loadCells_list (P := P) w ⟨b, off, none⟩ [] (fun j v hj => by simp at hj)
  obtain ⟨h1, h2⟩ := agOf_agg ht w
  simp only [List.length_nil] at hr
  simp [execOp, Instr.loadAt, Instr.sureAddr, hf.eval hx, loadVar, h1, h2, hr]
theorem quo32 {a b : Nat} (h : a ≤ 4294967295) : IntKind.u32.wrap ((a : Int).tdiv (b : Int)) = ((a / b : Nat) : Int) := by
  show IntKind.u32.wrap ((a / b : Nat) : Int) = _
  have := Nat.div_le_self a b
  generalize a / b = q at *
  exact wu32 om_ om_
theorem mul32 {a b : Nat} (h : a * b ≤ 4294967295) : IntKind.u32.wrap ((a : Int) * (b : Int)) = ((a * b : Nat) : Int) := by
  rw [← Int.natCast_mul]; exact wu32 om_ om_
theorem gdt (X : List UInt8) (off : Nat) {i n : Nat} (h : i < n) : ((X.drop off).take n).getD i 0 = X.getD (off + i) 0 := by
  simp [List.getD_eq_getElem?_getD, List.getElem?_take, h, List.getElem?_drop]
theorem list2 (B : List UInt8) (h : B.length = 2) : B = [B.getD 0 0, B.getD 1 0] := by
  match B, h with
  | [a, b], _ => rfl
theorem list8 (B : List UInt8) (h : B.length = 8) : B = [B.getD 0 0, B.getD 1 0, B.getD 2 0, B.getD 3 0, B.getD 4 0, B.getD 5 0, B.getD 6 0, B.getD 7 0] := by
  match B, h with
  | [a, b, c, d, e, f, g, i], _ => rfl
theorem Yl_indexAN {P : Program} {L : Fra} {dst : Option Tmp} {ty : TypeId} {pos : String} {aft : Array Edge} {gd : Option (Nat × Bool)} {x y : Operand} {t : TypeId} {n sz b off i o' : Nat} {k : IntKind} (hx : ev L x = some (.pointer (some ⟨b, off, none⟩))) (hy : ev L y = some (.int k (i : Int)))
    (ht : arOf P t = some (n, sz)) (h1 : i < n) (ho : off + i * sz = o') : Yl P L ⟨dst, .indexAddr t x y, ty, pos, aft, gd⟩ (.pointer (some ⟨b, o', none⟩)) := by
  have := Yl_indexA (P := P) (dst := dst) (ty := ty) (pos := pos) (aft := aft) (gd := gd) hx hy ht om_ om_
  simp only [Int.toNat_natCast, ho] at this
  exact this
theorem Yl_indexN {P : Program} {L : Fra} {dst : Option Tmp} {ty : TypeId} {pos : String} {aft : Array Edge} {gd : Option (Nat × Bool)} {x y : Operand} {t e : TypeId} {sz b off m c i o' : Nat} {k : IntKind} (hx : ev L x = some (.slice (some ⟨b, off, none⟩) m c)) (hy : ev L y = some (.int k (i : Int)))
    (ht : slOf P t = some (e, sz)) (h1 : i < m) (ho : off + i * sz = o') : Yl P L ⟨dst, .indexAddr t x y, ty, pos, aft, gd⟩ (.pointer (some ⟨b, o', none⟩)) := by
  have := Yl_index (P := P) (dst := dst) (ty := ty) (pos := pos) (aft := aft) (gd := gd) hx hy ht om_ om_
  simp only [Int.toNat_natCast, ho] at this
  exact this

theorem le16_ct (g : Value) (hg : ∃ zs : List Value, g.cells = zs.toArray) (b off m c : Nat) (l : List Value) (T : TypeId) (x0 x1 : UInt8) (hm : 2 ≤ m) (h0 : l[off + 0]? = some (bv x0)) (h1 : l[off + 1]? = some (bv x1)) :
  Ct Tryd.prog 65 [g, .slice (some ⟨b, off, none⟩) m c] [(b, blk l T)] (fun v p => v = .int .u16 ((num [x0, x1] : Nat) : Int) ∧ p = [(b, blk l T)]) := by
 obtain ⟨zs, hz⟩ := hg
 have hx0 := x0.toNat_lt
 have hx1 := x1.toNat_lt
 have hnum : num [x0, x1] = (x0.toNat + x1.toNat * 2 ^ 8) := by simp only [num]; omega
 refine Ct_of Tryd.func65 rfl Tryd.ntmps65 rfl ?_
 intro E F
 simp only [numL, List.nil_append, List.cons_append]
 refine CW_sr ?_
 refine RW_fx rfl rfl rfl (Fx_box rfl hz) ?_
 rintro _ _ ⟨b2, rfl, rfl⟩
 refine RW_a ?_
 refine RW_lv [1] ?_
 refine CW_sr ?_
 refine RW_m ?_
 refine RW_l (Yl_index rfl rfl sl_23 om_ om_) ?_
 refine RW_h (Yh_lh (v := bv x1) sc_5 h1) ?_
 refine RW_lv [1] ?_
 refine CW_seq ?_
 refine CW_draw [] _ mixed (Sub.refl _) ?_
 refine RD_m 0 ?_
 refine RD_l 1 rfl (Yl_index rfl rfl sl_23 om_ om_) ?_
 refine RD_m 4 ?_
 refine RD_l 5 rfl (Yl_index rfl rfl sl_23 om_ om_) ?_
 refine RD_h (i := 2) #[true, true, false, false, true, true, true, true, true, false, false] rfl rfl rfl rfl kr_ (fun _ _ _ h => h) (Yh_lh (v := bv x0) sc_5 h0) ?_
 refine RD_l 3 rfl (Yl_conv (c := ((x0.toNat : Nat) : Int)) rfl in_5 in_47 (wu16 om_ om_)) ?_
 refine RD_h (i := 6) #[true, true, true, true, true, true, false, false, false, false, false] rfl rfl rfl rfl kr_ (fun _ _ _ h => h) (Yh_lh (v := bv x1) sc_5 h1) ?_
 refine RD_l 7 rfl (Yl_conv (c := ((x1.toNat : Nat) : Int)) rfl in_5 in_47 (wu16 om_ om_)) ?_
 refine RD_l 8 rfl (Yl_shl (c := ((x1.toNat * 2 ^ 8 : Nat) : Int)) rfl rfl om_ (shl_val (k := .u16) (x := x1.toNat) (s := 8) (Or.inl rfl) (by decide) (show x1.toNat * 2 ^ 8 < 2 ^ 16 by omega))) ?_
 refine RD_l 9 rfl (Yl_bits (c := (((x0.toNat + x1.toNat * 2 ^ 8) : Nat) : Int)) rfl rfl (Or.inr (Or.inl rfl)) (fun w => or_bits (k := .u16) (a := x0.toNat) (b := x1.toNat) (s := 8) (Or.inl rfl) (show _ < 2 ^ 8 by omega) (show _ < 2 ^ 16 by omega) rfl w)) ?_
 refine RD_a 10 ?_
 refine (RD_done kr_ (QW_lv [4] ?_))
 refine CW_ret ?_
 refine QW_dropB (e := (b2, _)) rem_ ?_
 exact QW_ret1 rfl rfl [_] ⟨by rw [hnum], rfl⟩ (Prm.nil _)
theorem le32_ct (g : Value) (hg : ∃ zs : List Value, g.cells = zs.toArray) (b off m c : Nat) (l : List Value) (T : TypeId) (x0 x1 x2 x3 : UInt8) (hm : 4 ≤ m) (h0 : l[off + 0]? = some (bv x0)) (h1 : l[off + 1]? = some (bv x1)) (h2 : l[off + 2]? = some (bv x2)) (h3 : l[off + 3]? = some (bv x3)) :
  Ct Tryd.prog 57 [g, .slice (some ⟨b, off, none⟩) m c] [(b, blk l T)] (fun v p => v = .int .u32 ((num [x0, x1, x2, x3] : Nat) : Int) ∧ p = [(b, blk l T)]) := by
 obtain ⟨zs, hz⟩ := hg
 have hx0 := x0.toNat_lt
 have hx1 := x1.toNat_lt
 have hx2 := x2.toNat_lt
 have hx3 := x3.toNat_lt
 have hnum : num [x0, x1, x2, x3] = (((x0.toNat + x1.toNat * 2 ^ 8) + x2.toNat * 2 ^ 16) + x3.toNat * 2 ^ 24) := by simp only [num]; omega
 refine Ct_of Tryd.func57 rfl Tryd.ntmps57 rfl ?_
 intro E F
 simp only [numL, List.nil_append, List.cons_append]
 refine CW_sr ?_
 refine RW_fx rfl rfl rfl (Fx_box rfl hz) ?_
 rintro _ _ ⟨b2, rfl, rfl⟩
 refine RW_a ?_
 refine RW_lv [1] ?_
 refine CW_sr ?_
 refine RW_m ?_
 refine RW_l (Yl_index rfl rfl sl_23 om_ om_) ?_
 refine RW_h (Yh_lh (v := bv x3) sc_5 h3) ?_
 refine RW_lv [1] ?_
 refine CW_seq ?_
 refine CW_draw [] _ mixed (Sub.refl _) ?_
 refine RD_m 0 ?_
 refine RD_l 1 rfl (Yl_index rfl rfl sl_23 om_ om_) ?_
 refine RD_m 4 ?_
 refine RD_l 5 rfl (Yl_index rfl rfl sl_23 om_ om_) ?_
 refine RD_m 10 ?_
 refine RD_l 11 rfl (Yl_index rfl rfl sl_23 om_ om_) ?_
 refine RD_m 16 ?_
 refine RD_l 17 rfl (Yl_index rfl rfl sl_23 om_ om_) ?_
 refine RD_h (i := 2) #[true, true, false, false, true, true, true, true, true, false, true, true, true, true, true, false, true, true, true, true, true, false, false] rfl rfl rfl rfl kr_ (fun _ _ _ h => h) (Yh_lh (v := bv x0) sc_5 h0) ?_
 refine RD_l 3 rfl (Yl_conv (c := ((x0.toNat : Nat) : Int)) rfl in_5 in_67 (wu32 om_ om_)) ?_
 refine RD_h (i := 6) #[true, true, true, true, true, true, false, false, false, false, true, true, true, true, true, false, true, true, true, true, true, false, false] rfl rfl rfl rfl kr_ (fun _ _ _ h => h) (Yh_lh (v := bv x1) sc_5 h1) ?_
 refine RD_l 7 rfl (Yl_conv (c := ((x1.toNat : Nat) : Int)) rfl in_5 in_67 (wu32 om_ om_)) ?_
 refine RD_l 8 rfl (Yl_shl (c := ((x1.toNat * 2 ^ 8 : Nat) : Int)) rfl rfl om_ (shl_val (k := .u32) (x := x1.toNat) (s := 8) (Or.inr (Or.inl rfl)) (by decide) (show x1.toNat * 2 ^ 8 < 2 ^ 32 by omega))) ?_
 refine RD_l 9 rfl (Yl_bits (c := (((x0.toNat + x1.toNat * 2 ^ 8) : Nat) : Int)) rfl rfl (Or.inr (Or.inl rfl)) (fun w => or_bits (k := .u32) (a := x0.toNat) (b := x1.toNat) (s := 8) (Or.inr (Or.inl rfl)) (show _ < 2 ^ 8 by omega) (show _ < 2 ^ 32 by omega) rfl w)) ?_
 refine RD_h (i := 12) #[true, true, true, true, true, true, true, true, true, true, true, true, false, false, false, false, true, true, true, true, true, false, false] rfl rfl rfl rfl kr_ (fun _ _ _ h => h) (Yh_lh (v := bv x2) sc_5 h2) ?_
 refine RD_l 13 rfl (Yl_conv (c := ((x2.toNat : Nat) : Int)) rfl in_5 in_67 (wu32 om_ om_)) ?_
 refine RD_l 14 rfl (Yl_shl (c := ((x2.toNat * 2 ^ 16 : Nat) : Int)) rfl rfl om_ (shl_val (k := .u32) (x := x2.toNat) (s := 16) (Or.inr (Or.inl rfl)) (by decide) (show x2.toNat * 2 ^ 16 < 2 ^ 32 by omega))) ?_
 refine RD_l 15 rfl (Yl_bits (c := ((((x0.toNat + x1.toNat * 2 ^ 8) + x2.toNat * 2 ^ 16) : Nat) : Int)) rfl rfl (Or.inr (Or.inl rfl)) (fun w => or_bits (k := .u32) (a := (x0.toNat + x1.toNat * 2 ^ 8)) (b := x2.toNat) (s := 16) (Or.inr (Or.inl rfl)) (show _ < 2 ^ 16 by omega) (show _ < 2 ^ 32 by omega) rfl w)) ?_
 refine RD_h (i := 18) #[true, true, true, true, true, true, true, true, true, true, true, true, true, true, true, true, true, true, false, false, false, false, false] rfl rfl rfl rfl kr_ (fun _ _ _ h => h) (Yh_lh (v := bv x3) sc_5 h3) ?_
 refine RD_l 19 rfl (Yl_conv (c := ((x3.toNat : Nat) : Int)) rfl in_5 in_67 (wu32 om_ om_)) ?_
 refine RD_l 20 rfl (Yl_shl (c := ((x3.toNat * 2 ^ 24 : Nat) : Int)) rfl rfl om_ (shl_val (k := .u32) (x := x3.toNat) (s := 24) (Or.inr (Or.inl rfl)) (by decide) (show x3.toNat * 2 ^ 24 < 2 ^ 32 by omega))) ?_
 refine RD_l 21 rfl (Yl_bits (c := (((((x0.toNat + x1.toNat * 2 ^ 8) + x2.toNat * 2 ^ 16) + x3.toNat * 2 ^ 24) : Nat) : Int)) rfl rfl (Or.inr (Or.inl rfl)) (fun w => or_bits (k := .u32) (a := ((x0.toNat + x1.toNat * 2 ^ 8) + x2.toNat * 2 ^ 16)) (b := x3.toNat) (s := 24) (Or.inr (Or.inl rfl)) (show _ < 2 ^ 24 by omega) (show _ < 2 ^ 32 by omega) rfl w)) ?_
 refine RD_a 22 ?_
 refine (RD_done kr_ (QW_lv [4] ?_))
 refine CW_ret ?_
 refine QW_dropB (e := (b2, _)) rem_ ?_
 exact QW_ret1 rfl rfl [_] ⟨by rw [hnum], rfl⟩ (Prm.nil _)
theorem le64_ct (g : Value) (hg : ∃ zs : List Value, g.cells = zs.toArray) (b off m c : Nat) (l : List Value) (T : TypeId) (x0 x1 x2 x3 x4 x5 x6 x7 : UInt8) (hm : 8 ≤ m) (h0 : l[off + 0]? = some (bv x0)) (h1 : l[off + 1]? = some (bv x1)) (h2 : l[off + 2]? = some (bv x2)) (h3 : l[off + 3]? = some (bv x3)) (h4 : l[off + 4]? = some (bv x4)) (h5 : l[off + 5]? = some (bv x5)) (h6 : l[off + 6]? = some (bv x6)) (h7 : l[off + 7]? = some (bv x7)) :
  Ct Tryd.prog 64 [g, .slice (some ⟨b, off, none⟩) m c] [(b, blk l T)] (fun v p => v = .int .u64 ((num [x0, x1, x2, x3, x4, x5, x6, x7] : Nat) : Int) ∧ p = [(b, blk l T)]) := by
 obtain ⟨zs, hz⟩ := hg
 have hx0 := x0.toNat_lt
 have hx1 := x1.toNat_lt
 have hx2 := x2.toNat_lt
 have hx3 := x3.toNat_lt
 have hx4 := x4.toNat_lt
 have hx5 := x5.toNat_lt
 have hx6 := x6.toNat_lt
 have hx7 := x7.toNat_lt
 have hnum : num [x0, x1, x2, x3, x4, x5, x6, x7] = (((((((x0.toNat + x1.toNat * 2 ^ 8) + x2.toNat * 2 ^ 16) + x3.toNat * 2 ^ 24) + x4.toNat * 2 ^ 32) + x5.toNat * 2 ^ 40) + x6.toNat * 2 ^ 48) + x7.toNat * 2 ^ 56) := by simp only [num]; omega
 refine Ct_of Tryd.func64 rfl Tryd.ntmps64 rfl ?_
 intro E F
 simp only [numL, List.nil_append, List.cons_append]
 refine CW_sr ?_
 refine RW_fx rfl rfl rfl (Fx_box rfl hz) ?_
 rintro _ _ ⟨b2, rfl, rfl⟩
 refine RW_a ?_
 refine RW_lv [1] ?_
 refine CW_sr ?_
 refine RW_m ?_
 refine RW_l (Yl_index rfl rfl sl_23 om_ om_) ?_
 refine RW_h (Yh_lh (v := bv x7) sc_5 h7) ?_
 refine RW_lv [1] ?_
 refine CW_seq ?_
 refine CW_draw [] _ mixed (Sub.refl _) ?_
 refine RD_m 0 ?_
 refine RD_l 1 rfl (Yl_index rfl rfl sl_23 om_ om_) ?_
 refine RD_m 4 ?_
 refine RD_l 5 rfl (Yl_index rfl rfl sl_23 om_ om_) ?_
 refine RD_m 10 ?_
 refine RD_l 11 rfl (Yl_index rfl rfl sl_23 om_ om_) ?_
 refine RD_m 16 ?_
 refine RD_l 17 rfl (Yl_index rfl rfl sl_23 om_ om_) ?_
 refine RD_m 22 ?_
 refine RD_l 23 rfl (Yl_index rfl rfl sl_23 om_ om_) ?_
 refine RD_m 28 ?_
 refine RD_l 29 rfl (Yl_index rfl rfl sl_23 om_ om_) ?_
 refine RD_m 34 ?_
 refine RD_l 35 rfl (Yl_index rfl rfl sl_23 om_ om_) ?_
 refine RD_m 40 ?_
 refine RD_l 41 rfl (Yl_index rfl rfl sl_23 om_ om_) ?_
 refine RD_h (i := 2) #[true, true, false, false, true, true, true, true, true, false, true, true, true, true, true, false, true, true, true, true, true, false, true, true, true, true, true, false, true, true, true, true, true, false, true, true, true, true, true, false, true, true, true, true, true, false, false] rfl rfl rfl rfl kr_ (fun _ _ _ h => h) (Yh_lh (v := bv x0) sc_5 h0) ?_
 refine RD_l 3 rfl (Yl_conv (c := ((x0.toNat : Nat) : Int)) rfl in_5 in_39 (wu64 om_ om_)) ?_
 refine RD_h (i := 6) #[true, true, true, true, true, true, false, false, false, false, true, true, true, true, true, false, true, true, true, true, true, false, true, true, true, true, true, false, true, true, true, true, true, false, true, true, true, true, true, false, true, true, true, true, true, false, false] rfl rfl rfl rfl kr_ (fun _ _ _ h => h) (Yh_lh (v := bv x1) sc_5 h1) ?_
 refine RD_l 7 rfl (Yl_conv (c := ((x1.toNat : Nat) : Int)) rfl in_5 in_39 (wu64 om_ om_)) ?_
 refine RD_l 8 rfl (Yl_shl (c := ((x1.toNat * 2 ^ 8 : Nat) : Int)) rfl rfl om_ (shl_val (k := .u64) (x := x1.toNat) (s := 8) (Or.inr (Or.inr rfl)) (by decide) (show x1.toNat * 2 ^ 8 < 2 ^ 64 by omega))) ?_
 refine RD_l 9 rfl (Yl_bits (c := (((x0.toNat + x1.toNat * 2 ^ 8) : Nat) : Int)) rfl rfl (Or.inr (Or.inl rfl)) (fun w => or_bits (k := .u64) (a := x0.toNat) (b := x1.toNat) (s := 8) (Or.inr (Or.inr rfl)) (show _ < 2 ^ 8 by omega) (show _ < 2 ^ 64 by omega) rfl w)) ?_
 refine RD_h (i := 12) #[true, true, true, true, true, true, true, true, true, true, true, true, false, false, false, false, true, true, true, true, true, false, true, true, true, true, true, false, true, true, true, true, true, false, true, true, true, true, true, false, true, true, true, true, true, false, false] rfl rfl rfl rfl kr_ (fun _ _ _ h => h) (Yh_lh (v := bv x2) sc_5 h2) ?_
 refine RD_l 13 rfl (Yl_conv (c := ((x2.toNat : Nat) : Int)) rfl in_5 in_39 (wu64 om_ om_)) ?_
 refine RD_l 14 rfl (Yl_shl (c := ((x2.toNat * 2 ^ 16 : Nat) : Int)) rfl rfl om_ (shl_val (k := .u64) (x := x2.toNat) (s := 16) (Or.inr (Or.inr rfl)) (by decide) (show x2.toNat * 2 ^ 16 < 2 ^ 64 by omega))) ?_
 refine RD_l 15 rfl (Yl_bits (c := ((((x0.toNat + x1.toNat * 2 ^ 8) + x2.toNat * 2 ^ 16) : Nat) : Int)) rfl rfl (Or.inr (Or.inl rfl)) (fun w => or_bits (k := .u64) (a := (x0.toNat + x1.toNat * 2 ^ 8)) (b := x2.toNat) (s := 16) (Or.inr (Or.inr rfl)) (show _ < 2 ^ 16 by omega) (show _ < 2 ^ 64 by omega) rfl w)) ?_
 refine RD_h (i := 18) #[true, true, true, true, true, true, true, true, true, true, true, true, true, true, true, true, true, true, false, false, false, false, true, true, true, true, true, false, true, true, true, true, true, false, true, true, true, true, true, false, true, true, true, true, true, false, false] rfl rfl rfl rfl kr_ (fun _ _ _ h => h) (Yh_lh (v := bv x3) sc_5 h3) ?_
 refine RD_l 19 rfl (Yl_conv (c := ((x3.toNat : Nat) : Int)) rfl in_5 in_39 (wu64 om_ om_)) ?_
 refine RD_l 20 rfl (Yl_shl (c := ((x3.toNat * 2 ^ 24 : Nat) : Int)) rfl rfl om_ (shl_val (k := .u64) (x := x3.toNat) (s := 24) (Or.inr (Or.inr rfl)) (by decide) (show x3.toNat * 2 ^ 24 < 2 ^ 64 by omega))) ?_
 refine RD_l 21 rfl (Yl_bits (c := (((((x0.toNat + x1.toNat * 2 ^ 8) + x2.toNat * 2 ^ 16) + x3.toNat * 2 ^ 24) : Nat) : Int)) rfl rfl (Or.inr (Or.inl rfl)) (fun w => or_bits (k := .u64) (a := ((x0.toNat + x1.toNat * 2 ^ 8) + x2.toNat * 2 ^ 16)) (b := x3.toNat) (s := 24) (Or.inr (Or.inr rfl)) (show _ < 2 ^ 24 by omega) (show _ < 2 ^ 64 by omega) rfl w)) ?_
 refine RD_h (i := 24) #[true, true, true, true, true, true, true, true, true, true, true, true, true, true, true, true, true, true, true, true, true, true, true, true, false, false, false, false, true, true, true, true, true, false, true, true, true, true, true, false, true, true, true, true, true, false, false] rfl rfl rfl rfl kr_ (fun _ _ _ h => h) (Yh_lh (v := bv x4) sc_5 h4) ?_
 refine RD_l 25 rfl (Yl_conv (c := ((x4.toNat : Nat) : Int)) rfl in_5 in_39 (wu64 om_ om_)) ?_
 refine RD_l 26 rfl (Yl_shl (c := ((x4.toNat * 2 ^ 32 : Nat) : Int)) rfl rfl om_ (shl_val (k := .u64) (x := x4.toNat) (s := 32) (Or.inr (Or.inr rfl)) (by decide) (show x4.toNat * 2 ^ 32 < 2 ^ 64 by omega))) ?_
 refine RD_l 27 rfl (Yl_bits (c := ((((((x0.toNat + x1.toNat * 2 ^ 8) + x2.toNat * 2 ^ 16) + x3.toNat * 2 ^ 24) + x4.toNat * 2 ^ 32) : Nat) : Int)) rfl rfl (Or.inr (Or.inl rfl)) (fun w => or_bits (k := .u64) (a := (((x0.toNat + x1.toNat * 2 ^ 8) + x2.toNat * 2 ^ 16) + x3.toNat * 2 ^ 24)) (b := x4.toNat) (s := 32) (Or.inr (Or.inr rfl)) (show _ < 2 ^ 32 by omega) (show _ < 2 ^ 64 by omega) rfl w)) ?_
 refine RD_h (i := 30) #[true, true, true, true, true, true, true, true, true, true, true, true, true, true, true, true, true, true, true, true, true, true, true, true, true, true, true, true, true, true, false, false, false, false, true, true, true, true, true, false, true, true, true, true, true, false, false] rfl rfl rfl rfl kr_ (fun _ _ _ h => h) (Yh_lh (v := bv x5) sc_5 h5) ?_
 refine RD_l 31 rfl (Yl_conv (c := ((x5.toNat : Nat) : Int)) rfl in_5 in_39 (wu64 om_ om_)) ?_
 refine RD_l 32 rfl (Yl_shl (c := ((x5.toNat * 2 ^ 40 : Nat) : Int)) rfl rfl om_ (shl_val (k := .u64) (x := x5.toNat) (s := 40) (Or.inr (Or.inr rfl)) (by decide) (show x5.toNat * 2 ^ 40 < 2 ^ 64 by omega))) ?_
 refine RD_l 33 rfl (Yl_bits (c := (((((((x0.toNat + x1.toNat * 2 ^ 8) + x2.toNat * 2 ^ 16) + x3.toNat * 2 ^ 24) + x4.toNat * 2 ^ 32) + x5.toNat * 2 ^ 40) : Nat) : Int)) rfl rfl (Or.inr (Or.inl rfl)) (fun w => or_bits (k := .u64) (a := ((((x0.toNat + x1.toNat * 2 ^ 8) + x2.toNat * 2 ^ 16) + x3.toNat * 2 ^ 24) + x4.toNat * 2 ^ 32)) (b := x5.toNat) (s := 40) (Or.inr (Or.inr rfl)) (show _ < 2 ^ 40 by omega) (show _ < 2 ^ 64 by omega) rfl w)) ?_
 refine RD_h (i := 36) #[true, true, true, true, true, true, true, true, true, true, true, true, true, true, true, true, true, true, true, true, true, true, true, true, true, true, true, true, true, true, true, true, true, true, true, true, false, false, false, false, true, true, true, true, true, false, false] rfl rfl rfl rfl kr_ (fun _ _ _ h => h) (Yh_lh (v := bv x6) sc_5 h6) ?_
 refine RD_l 37 rfl (Yl_conv (c := ((x6.toNat : Nat) : Int)) rfl in_5 in_39 (wu64 om_ om_)) ?_
 refine RD_l 38 rfl (Yl_shl (c := ((x6.toNat * 2 ^ 48 : Nat) : Int)) rfl rfl om_ (shl_val (k := .u64) (x := x6.toNat) (s := 48) (Or.inr (Or.inr rfl)) (by decide) (show x6.toNat * 2 ^ 48 < 2 ^ 64 by omega))) ?_
 refine RD_l 39 rfl (Yl_bits (c := ((((((((x0.toNat + x1.toNat * 2 ^ 8) + x2.toNat * 2 ^ 16) + x3.toNat * 2 ^ 24) + x4.toNat * 2 ^ 32) + x5.toNat * 2 ^ 40) + x6.toNat * 2 ^ 48) : Nat) : Int)) rfl rfl (Or.inr (Or.inl rfl)) (fun w => or_bits (k := .u64) (a := (((((x0.toNat + x1.toNat * 2 ^ 8) + x2.toNat * 2 ^ 16) + x3.toNat * 2 ^ 24) + x4.toNat * 2 ^ 32) + x5.toNat * 2 ^ 40)) (b := x6.toNat) (s := 48) (Or.inr (Or.inr rfl)) (show _ < 2 ^ 48 by omega) (show _ < 2 ^ 64 by omega) rfl w)) ?_
 refine RD_h (i := 42) #[true, true, true, true, true, true, true, true, true, true, true, true, true, true, true, true, true, true, true, true, true, true, true, true, true, true, true, true, true, true, true, true, true, true, true, true, true, true, true, true, true, true, false, false, false, false, false] rfl rfl rfl rfl kr_ (fun _ _ _ h => h) (Yh_lh (v := bv x7) sc_5 h7) ?_
 refine RD_l 43 rfl (Yl_conv (c := ((x7.toNat : Nat) : Int)) rfl in_5 in_39 (wu64 om_ om_)) ?_
 refine RD_l 44 rfl (Yl_shl (c := ((x7.toNat * 2 ^ 56 : Nat) : Int)) rfl rfl om_ (shl_val (k := .u64) (x := x7.toNat) (s := 56) (Or.inr (Or.inr rfl)) (by decide) (show x7.toNat * 2 ^ 56 < 2 ^ 64 by omega))) ?_
 refine RD_l 45 rfl (Yl_bits (c := (((((((((x0.toNat + x1.toNat * 2 ^ 8) + x2.toNat * 2 ^ 16) + x3.toNat * 2 ^ 24) + x4.toNat * 2 ^ 32) + x5.toNat * 2 ^ 40) + x6.toNat * 2 ^ 48) + x7.toNat * 2 ^ 56) : Nat) : Int)) rfl rfl (Or.inr (Or.inl rfl)) (fun w => or_bits (k := .u64) (a := ((((((x0.toNat + x1.toNat * 2 ^ 8) + x2.toNat * 2 ^ 16) + x3.toNat * 2 ^ 24) + x4.toNat * 2 ^ 32) + x5.toNat * 2 ^ 40) + x6.toNat * 2 ^ 48)) (b := x7.toNat) (s := 56) (Or.inr (Or.inr rfl)) (show _ < 2 ^ 56 by omega) (show _ < 2 ^ 64 by omega) rfl w)) ?_
 refine RD_a 46 ?_
 refine (RD_done kr_ (QW_lv [4] ?_))
 refine CW_ret ?_
 refine QW_dropB (e := (b2, _)) rem_ ?_
 exact QW_ret1 rfl rfl [_] ⟨by rw [hnum], rfl⟩ (Prm.nil _)
theorem fileOffset_ct (ss sn : Nat) (hs : ss ≤ 4294967295) (hn : sn + 1 ≤ 4294967295) (hb : (sn + 1) * ss ≤ 9223372036854775807) :
  Ct Tryd.prog 56 [.int .u32 (ss : Int), .int .u32 (sn : Int)] [] (fun v p => v = nv ((sn + 1) * ss) ∧ p = []) := by
 refine Ct_of Tryd.func56 rfl Tryd.ntmps56 rfl ?_
 intro E F
 simp only [numL, List.nil_append, List.cons_append]
 refine CW_sr ?_
 refine RW_a ?_
 refine RW_lv [0,1] ?_
 refine CW_sr ?_
 refine RW_m ?_
 refine RW_l (Yl_add (c := ((sn + 1 : Nat) : Int)) rfl rfl (wu32 om_ om_)) ?_
 refine RW_l (Yl_conv (c := ((sn + 1 : Nat) : Int)) rfl in_67 in_2 (wi64 om_ om_)) ?_
 refine RW_m ?_
 refine RW_l (Yl_conv (c := (ss : Int)) rfl in_67 in_2 (wi64 om_ om_)) ?_
 refine RW_l (Yl_mul (c := (((sn + 1) * ss : Nat) : Int)) rfl rfl (mulN (a := sn + 1) (b := ss) hb)) ?_
 refine RW_a ?_
 refine RW_lv [4] ?_
 refine CW_ret ?_
 exact QW_ret1 rfl rfl [] ⟨rfl, rfl⟩ (Prm.nil _)

theorem newReader_ct (p : Option Addr) (n c : Nat) :
  Ct Tryd.prog 95 [.slice p n c] [] (fun v q => ∃ g, v = .pointer (some ⟨g, 0, none⟩) ∧ q = [(g, blk [.slice p n c, .int .i64 0, .int .i64 (-1)] 198)]) := by
 refine Ct_of Tryd.func95 rfl Tryd.ntmps95 rfl ?_
 intro E F
 simp only [numL, List.nil_append, List.cons_append]
 refine CW_sr ?_
 refine RW_a ?_
 refine RW_lv [0] ?_
 refine CW_sr ?_
 refine RW_m ?_
 refine RW_l (Yl_build (cs := [.slice p n c, .int .i64 0, .int .i64 (-1)]) pl_198 ze_198 rfl rfl) ?_
 refine RW_fx rfl rfl rfl (Fx_box (zs := [.slice p n c, .int .i64 0, .int .i64 (-1)]) rfl rfl) ?_
 rintro _ _ ⟨b5, rfl, rfl⟩
 refine RW_a ?_
 refine RW_lv [2] ?_
 refine CW_ret ?_
 exact QW_ret1 rfl rfl [(b5, _)] ⟨b5, rfl, rfl⟩ (Prm.nil _)
theorem readerReadAt_ct (br bB bp o m c N cN off : Nat) (B : List UInt8) (rB lp : List Value) (T : TypeId) (hB : B.length = N) (hcN : N ≤ cN) (hN : N ≤ 1000000000) (hm : 0 < m) (hoff : off + m ≤ N) (hlp : o + m ≤ lp.length) :
  Ct Tryd.prog 96 [.pointer (some ⟨br, 0, none⟩), .slice (some ⟨bp, o, none⟩) m c, nv off] [(br, blk [.slice (some ⟨bB, 0, none⟩) N cN, .int .i64 0, .int .i64 (-1)] 198), (bB, blk (bys B ++ rB) 5), (bp, blk lp T)]
   (fun v q => v = .tuple #[nv m, .nilIface] ∧ q = [(br, blk [.slice (some ⟨bB, 0, none⟩) N cN, .int .i64 0, .int .i64 (-1)] 198), (bB, blk (bys B ++ rB) 5), (bp, blk (spl o (bys ((B.drop off).take m)) lp) T)]) := by
 refine Ct_of Tryd.func96 rfl Tryd.ntmps96 rfl ?_
 intro E F
 simp only [numL, List.nil_append, List.cons_append]
 refine CW_sr ?_
 refine RW_a ?_
 refine RW_a ?_
 refine RW_lv [0,1,2,7] ?_
 refine CW_seq ?_
 refine CW_sr ?_
 refine RW_m ?_
 refine RW_l (Yl_lss rfl rfl) ?_
 refine RW_lv [0,1,2,7,9] ?_
 refine CW_cd rfl (fun hc1 => ?_) (fun hc1 => ?_)
 ·exfalso; omega
 refine (CW_skip (QW_lv [0,1,2,7] ?_))
 refine CW_seq ?_
 refine CW_sr ?_
 refine RW_m ?_
 refine RW_m ?_
 refine RW_n ?_
 refine RW_f fo_198_0 ?_
 refine RW_h (Yh_ld (v := .slice (some ⟨bB, 0, none⟩) N cN) sc_23) ?_
 refine RW_l (Yl_len rfl sl_23) ?_
 refine RW_l (Yl_geq rfl rfl) ?_
 refine RW_lv [0,1,2,7,17] ?_
 refine CW_cd rfl (fun hc2 => ?_) (fun hc2 => ?_)
 ·exfalso; omega
 refine (CW_skip (QW_lv [0,1,2,7] ?_))
 refine CW_seq ?_
 have hcp : ((bys B ++ rB).drop off).take (min (N - off) m * 1) = bys ((B.drop off).take m) := by
  rw [Nat.min_eq_right om_, Nat.mul_one, List.drop_append_of_le_length (by simp; omega), List.take_append_of_le_length (by simp; omega)]; simp [bys, List.map_take, List.map_drop]
 refine CW_region ?_
 refine RW_m ?_
 refine RW_m ?_
 refine RW_n ?_
 refine RW_f fo_198_0 ?_
 refine RW_h (Yh_ld (v := .slice (some ⟨bB, 0, none⟩) N cN) sc_23) ?_
 refine RW_m ?_
 refine RW_l (Yl_cutLL (l := off) (o' := off) (m' := N - off) (c' := cN - off) rfl rfl sl_23 om_ om_ om_ rfl rfl) ?_
 refine RW_fx rfl rfl rfl (Fx_copy (m := m) (ms := N - off) (offs := off) (off := o) (ls := bys B ++ rB) rfl rfl sl_23 mem_ (by simp; omega) rep_ om_ (by rw [hcp]; exact one_map one_bv _)) ?_
 rintro _ _ ⟨rfl, rfl⟩
 rw [hcp, Nat.min_eq_right (show m ≤ N - off by omega)]
 refine RW_a ?_
 refine RW_lv [1,6,7] ?_
 refine CW_seq ?_
 refine CW_sr ?_
 refine RW_m ?_
 refine RW_m ?_
 refine RW_l (Yl_len rfl sl_23) ?_
 refine RW_l (Yl_lss rfl rfl) ?_
 refine RW_lv [6,7,30] ?_
 refine CW_cd rfl (fun hc3 => ?_) (fun hc3 => ?_)
 ·exfalso; omega
 refine (CW_skip (QW_lv [6,7] ?_))
 refine CW_ret ?_
 exact QW_ret2 rfl rfl rfl [_, _, _] ⟨rfl, rfl⟩ (Prm.nil _)
theorem storeReadAt_ct (bs bB bp o m c N cN off : Nat) (B : List UInt8) (rB lp : List Value) (T : TypeId) (hB : B.length = N) (hcN : N ≤ cN) (hN : N ≤ 1000000000) (hm : 0 < m) (hoff : off + m ≤ N) (hlp : o + m ≤ lp.length) :
  Ct Tryd.prog 93 [.pointer (some ⟨bs, 0, none⟩), .slice (some ⟨bp, o, none⟩) m c, nv off] [(bs, blk [.slice (some ⟨bB, 0, none⟩) N cN] 103), (bB, blk (bys B ++ rB) 5), (bp, blk lp T)]
   (fun v q => v = .tuple #[nv m, .nilIface] ∧ q = [(bs, blk [.slice (some ⟨bB, 0, none⟩) N cN] 103), (bB, blk (bys B ++ rB) 5), (bp, blk (spl o (bys ((B.drop off).take m)) lp) T)]) := by
 refine Ct_of Tryd.func93 rfl Tryd.ntmps93 rfl ?_
 intro E F
 simp only [numL, List.nil_append, List.cons_append]
 refine CW_sr ?_
 refine RW_a ?_
 refine RW_a ?_
 refine RW_lv [0,1,2] ?_
 refine CW_sr ?_
 refine RW_m ?_
 refine RW_n ?_
 refine RW_f fo_103_0 ?_
 refine RW_h (Yh_ld (v := .slice (some ⟨bB, 0, none⟩) N cN) sc_23) ?_
 refine RW_fx rfl rfl rfl (Fx_call ok_95 (vs := [.slice (some ⟨bB, 0, none⟩) N cN]) rfl pk_ (newReader_ct _ N cN)) ?_
 rintro _ _ ⟨_, ⟨g, rfl, rfl⟩, rfl⟩
 refine RW_m ?_
 refine RW_m ?_
 refine RW_fx rfl rfl rfl (Fx_call ok_96 (vs := [.pointer (some ⟨g, 0, none⟩), .slice (some ⟨bp, o, none⟩) m c, nv off]) rfl pk_ (readerReadAt_ct g bB bp o m c N cN off B rB lp T hB hcN hN hm hoff hlp)) ?_
 rintro _ _ ⟨_, ⟨rfl, rfl⟩, rfl⟩
 refine RW_l (Yl_extract rfl rfl) ?_
 refine RW_l (Yl_extract rfl rfl) ?_
 refine RW_a ?_
 refine RW_a ?_
 refine RW_lv [6,7] ?_
 refine CW_ret ?_
 refine QW_dropB (e := (g, _)) rem_ ?_
 exact QW_ret2 rfl rfl rfl [_, _, _] ⟨rfl, rfl⟩ prm_

theorem readAt_ct (br bb bs bB nb cb m N cN off : Nat) (B : List UInt8) (rB lb rd : List Value) (T : TypeId) (h0 : rd[0]? = some (.bool false)) (h2 : rd[2]? = some (.slice (some ⟨bb, 0, none⟩) nb cb)) (h7 : rd[7]? = some (.iface 79 (.pointer (some ⟨bs, 0, none⟩)))) (hB : B.length = N) (hcN : N ≤ cN) (hN : N ≤ 1000000000) (hm : 0 < m) (hmb : m ≤ nb) (hnc : nb ≤ cb) (hoff : off + m ≤ N) (hlb : m ≤ lb.length) :
  Ct Tryd.prog 54 [.pointer (some ⟨br, 0, none⟩), nv off, nv m] [(br, blk rd 89), (bb, blk lb T), (bs, blk [.slice (some ⟨bB, 0, none⟩) N cN] 103), (bB, blk (bys B ++ rB) 5)]
   (fun v q => v = .tuple #[.slice (some ⟨bb, 0, none⟩) m cb, .nilIface] ∧ q = [(br, blk rd 89), (bb, blk (spl 0 (bys ((B.drop off).take m)) lb) T), (bs, blk [.slice (some ⟨bB, 0, none⟩) N cN] 103), (bB, blk (bys B ++ rB) 5)]) := by
 refine Ct_of Tryd.func54 rfl Tryd.ntmps54 rfl ?_
 intro E F
 simp only [numL, List.nil_append, List.cons_append]
 refine CW_sr ?_
 refine RW_a ?_
 refine RW_a ?_
 refine RW_lv [0,1,2] ?_
 refine CW_seq ?_
 refine CW_sr ?_
 refine RW_m ?_
 refine RW_n ?_
 refine RW_f fo_89_0 ?_
 refine RW_h (Yh_lh (v := .bool false) sc_4 h0) ?_
 refine RW_lv [0,1,2,15] ?_
 refine CW_cond rfl (fun hc1 => ?_) (fun hc1 => ?_)
 ·skip
  exact absurd hc1 (by decide)
 skip
 refine (CW_skip (QW_lv [0,1,2] ?_))
 refine CW_seq ?_
 refine CW_sr ?_
 refine RW_m ?_
 refine RW_m ?_
 refine RW_n ?_
 refine RW_f fo_89_2 ?_
 refine RW_h (Yh_lh (v := .slice (some ⟨bb, 0, none⟩) nb cb) sc_23 h2) ?_
 refine RW_l (Yl_len rfl sl_23) ?_
 refine RW_l (Yl_gtr rfl rfl) ?_
 refine RW_lv [0,1,2,43] ?_
 refine CW_cd rfl (fun hc2 => ?_) (fun hc2 => ?_)
 ·exfalso; omega
 refine (CW_skip (QW_lv [0,1,2] ?_))
 refine CW_seq ?_
 refine CW_seq ?_
 refine CW_draw [13] _ mixed (Sub.refl _) ?_
 refine RD_m 0 ?_
 refine RD_n 1 ?_
 refine RD_f 2 fo_89_7 ?_
 refine RD_m 4 ?_
 refine RD_n 5 ?_
 refine RD_f 6 fo_89_2 ?_
 refine RD_m 8 ?_
 refine RD_m 10 ?_
 refine RD_h (i := 3) #[true, true, true, false, true, true, true, true, true, true, true, false, false, false, false, false, false, false, false] rfl rfl rfl rfl kr_ (fun _ _ _ h => h) (Yh_lh (v := .iface 79 (.pointer (some ⟨bs, 0, none⟩))) sc_85 h7) ?_
 refine RD_l 11 rfl (Yl_nilCheckI rfl) ?_
 refine RD_m 12 ?_
 refine RD_h (i := 7) #[true, true, true, true, true, true, true, false, true, false, true, true, true, false, false, false, false, false, false] rfl rfl rfl rfl kr_ (fun _ _ _ h => h) (Yh_lh (v := .slice (some ⟨bb, 0, none⟩) nb cb) sc_23 h2) ?_
 refine RD_l 9 rfl (Yl_cutHN (h := m) rfl rfl sl_23 om_) ?_
 refine RD_o 13 ?_
 refine RO_fx rfl rfl rfl rfl (Fx_invoke (T := 79) (v := .pointer (some ⟨bs, 0, none⟩)) (vs := [.slice (some ⟨bb, 0, none⟩) m cb, nv off]) rfl mt_79 pt_79 ok_93 rfl pk_ (storeReadAt_ct bs bB bb 0 m cb N cN off B rB lb T hB hcN hN hm hoff om_)) ?_
 rintro _ _ ⟨_, ⟨rfl, rfl⟩, rfl⟩
 refine ⟨Or.inl kr_, ?_⟩
 refine RD_m 14 ?_
 refine RD_l 15 rfl (Yl_extract rfl rfl) ?_
 refine RD_l 16 rfl (Yl_extract rfl rfl) ?_
 refine RD_a 17 ?_
 refine RD_a 18 ?_
 refine (RD_done kr_ (QW_lv [0,1,2,11] ?_))
 refine CW_sr ?_
 refine RW_m ?_
 refine RW_l (Yl_ifNeNil rfl if_105) ?_
 refine RW_lv [0,1,2,11,65] ?_
 refine CW_cond rfl (fun hc3 => ?_) (fun hc3 => ?_)
 ·skip
  exact absurd hc3 (by decide)
 skip
 refine (CW_skip (QW_lv [0,2] ?_))
 refine CW_sr ?_
 refine RW_m ?_
 refine RW_n ?_
 refine RW_f fo_89_2 ?_
 refine RW_h (Yh_lh (v := .slice (some ⟨bb, 0, none⟩) nb cb) sc_23 h2) ?_
 refine RW_m ?_
 refine RW_l (Yl_cutHN (h := m) rfl rfl sl_23 om_) ?_
 refine RW_a ?_
 refine RW_a ?_
 refine RW_lv [6,7] ?_
 refine CW_ret ?_
 exact QW_ret2 rfl rfl rfl [_, _, _, _] ⟨rfl, rfl⟩ prm_

theorem findNext_ct (br bh bd bs bB ss sn sect od nd cd o N cN : Nat) (B : List UInt8) (rB rd hd ld : List Value) (T : TypeId) (h1 : rd[1]? = some (uv ss)) (h3 : rd[3]? = some (.pointer (some ⟨bh, 0, none⟩))) (h7 : rd[7]? = some (.iface 79 (.pointer (some ⟨bs, 0, none⟩)))) (h2 : hd[1]? = some (.slice (some ⟨bd, od, none⟩) nd cd)) (hld : ld[od + sn / (ss / 4)]? = some (uv sect)) (hsn : sn / (ss / 4) < nd) (hnd : nd ≤ 100000000) (hss : 512 ≤ ss ∧ ss ≤ 4096) (hsnb : sn ≤ 4294967295) (hse : sect ≤ 1000000)
  (ho : o = (sect + 1) * ss + sn % (ss / 4) * 4) (ho4 : o + 4 ≤ N) (hB : B.length = N) (hcN : N ≤ cN) (hN : N ≤ 1000000000) :
  Ct Tryd.prog 60 [.pointer (some ⟨br, 0, none⟩), uv sn, .bool false] [(br, blk rd 89), (bh, blk hd 137), (bd, blk ld T), (bs, blk [.slice (some ⟨bB, 0, none⟩) N cN] 103), (bB, blk (bys B ++ rB) 5)]
   (fun v q => v = .tuple #[uv (num ((B.drop o).take 4)), .nilIface] ∧ q = [(br, blk rd 89), (bh, blk hd 137), (bd, blk ld T), (bs, blk [.slice (some ⟨bB, 0, none⟩) N cN] 103), (bB, blk (bys B ++ rB) 5)]) := by
 have hX : ((B.drop o).take 4).length = 4 := len_drop_take B o 4 om_
 have hX4 : num ((B.drop o).take 4) = num [((B.drop o).take 4).getD 0 0, ((B.drop o).take 4).getD 1 0, ((B.drop o).take 4).getD 2 0, ((B.drop o).take 4).getD 3 0] := congrArg num (list4 _ hX)
 obtain ⟨e, he⟩ : ∃ e, e = ss / 4 := ⟨_, rfl⟩
 have hq4 : 128 ≤ e ∧ e ≤ 1024 := by omega
 rw [← he] at hld hsn ho
 obtain ⟨q, hq⟩ : ∃ q, q = sn / e := ⟨_, rfl⟩
 obtain ⟨r, hr⟩ : ∃ r, r = sn % e := ⟨_, rfl⟩
 rw [← hq] at hld hsn
 rw [← hr] at ho
 have hdl : q ≤ sn := by rw [hq]; exact Nat.div_le_self sn e
 have hml : r < e := by rw [hr]; exact Nat.mod_lt sn om_
 have hprod : (sect + 1) * ss ≤ 1000001 * 4096 := Nat.mul_le_mul om_ om_
 refine Ct_of Tryd.func60 rfl Tryd.ntmps60 rfl ?_
 intro E F
 simp only [numL, List.nil_append, List.cons_append]
 refine CW_sr ?_
 refine RW_a ?_
 refine RW_a ?_
 refine RW_lv [0,1,2] ?_
 refine CW_sr ?_
 refine RW_m ?_
 refine RW_n ?_
 refine RW_f fo_89_1 ?_
 refine RW_h (Yh_lh (v := uv ss) sc_67 h1) ?_
 refine RW_l (Yl_quo (c := (e : Int)) rfl rfl om_ (by rw [he]; exact quo32 (b := 4) om_)) ?_
 refine RW_a ?_
 refine RW_lv [0,1,2,8] ?_
 refine CW_sr ?_
 refine RW_m ?_
 refine RW_m ?_
 refine RW_l (Yl_quo (c := (q : Int)) rfl rfl om_ (by rw [hq]; exact quo32 (a := sn) (b := e) om_)) ?_
 refine RW_l (Yl_conv (c := (q : Int)) rfl in_67 in_3 (wi64 om_ om_)) ?_
 refine RW_a ?_
 refine RW_lv [0,1,2,8,9] ?_
 refine CW_sr ?_
 refine RW_a ?_
 refine RW_lv [0,1,2,8,9] ?_
 refine CW_seq ?_
 refine CW_sr ?_
 refine RW_m ?_
 refine RW_lv [0,1,8,9,25] ?_
 refine CW_cond rfl (fun hc1 => ?_) (fun hc1 => ?_)
 ·skip
  exact absurd hc1 (by decide)
 skip
 refine CW_seq ?_
 refine CW_sr ?_
 refine RW_m ?_
 refine RW_l (Yl_lss rfl rfl) ?_
 refine RW_m ?_
 refine RW_bool 55 rfl (fun hg2 => ?_) (fun hg2 => ?_)
 ·replace hg2 := of_decide_eq_true hg2
  exfalso; omega
 replace hg2 := of_decide_eq_false hg2
 refine RW_gy rfl rfl rfl (Yl.h (Yl_move rfl)) ?_
 refine RW_gy rfl rfl rfl (Yl.h (Yl_move rfl)) ?_
 refine RW_gy rfl rfl rfl (Yl.h (Yl_nilCheck rfl)) ?_
 refine RW_gy rfl rfl rfl (Yl.h (Yl_field rfl fo_89_3)) ?_
 refine RW_gy rfl rfl rfl (Yh_lh (v := .pointer (some ⟨bh, 0, none⟩)) sc_82 h3) ?_
 refine RW_gy rfl rfl rfl (Yl.h (Yl_nilCheck rfl)) ?_
 refine RW_gy rfl rfl rfl (Yl.h (Yl_field rfl fo_137_1)) ?_
 refine RW_gy rfl rfl rfl (Yh_lh (v := .slice (some ⟨bd, od, none⟩) nd cd) sc_22 h2) ?_
 refine RW_gy rfl rfl rfl (Yl.h (Yl_len rfl sl_22)) ?_
 refine RW_gy rfl rfl rfl (Yl.h (Yl_geq rfl rfl)) ?_
 refine RW_l (Yl_pick_f rfl rfl) ?_
 refine RW_lv [0,1,8,9,66] ?_
 refine CW_cd rfl (fun hc3 => ?_) (fun hc3 => ?_)
 ·exfalso; omega
 refine (CW_skip (QW_lv [0,1,8,9] ?_))
 refine CW_region ?_
 refine RW_m ?_
 refine RW_n ?_
 refine RW_f fo_89_3 ?_
 refine RW_h (Yh_lh (v := .pointer (some ⟨bh, 0, none⟩)) sc_82 h3) ?_
 refine RW_n ?_
 refine RW_f fo_137_1 ?_
 refine RW_h (Yh_lh (v := .slice (some ⟨bd, od, none⟩) nd cd) sc_22 h2) ?_
 refine RW_m ?_
 refine RW_l (Yl_index rfl rfl sl_22 om_ om_) ?_
 refine RW_h (Yh_load (v := uv sect) rfl sc_67 mem_ (by rw [← hld]; congr 1; omega)) ?_
 refine RW_a ?_
 refine RW_lv [0,1,8,10] ?_
 refine CW_sr ?_
 refine RW_m ?_
 refine RW_m ?_
 refine RW_l (Yl_rem (c := (r : Int)) rfl rfl om_ (by rw [hr]; exact remN sn e)) ?_
 refine RW_a ?_
 refine RW_lv [0,10,11] ?_
 refine CW_sr ?_
 refine RW_m ?_
 refine RW_n ?_
 refine RW_f fo_89_1 ?_
 refine RW_h (Yh_lh (v := uv ss) sc_67 h1) ?_
 refine RW_m ?_
 refine RW_fx rfl rfl rfl (Fx_callQ ok_56 (vs := [uv ss, uv sect]) rfl pk_ (fileOffset_ct ss sect om_ om_ om_)) ?_
 rintro _ _ ⟨rfl, rfl⟩
 refine RW_m ?_
 refine RW_l (Yl_mul (c := ((r * 4 : Nat) : Int)) rfl rfl (mul32 (a := r) (b := 4) om_)) ?_
 refine RW_l (Yl_conv (c := ((r * 4 : Nat) : Int)) rfl in_67 in_2 (wi64 om_ om_)) ?_
 refine RW_l (Yl_add (c := (o : Int)) rfl rfl (by rw [ho]; exact wi64 om_ om_)) ?_
 refine RW_a ?_
 refine RW_lv [0,12] ?_
 refine CW_sr ?_
 refine RW_fx rfl rfl rfl (Fx_makeU8 4 rfl rfl om_) ?_
 rintro _ _ ⟨b93, rfl, rfl⟩
 refine RW_a ?_
 refine RW_lv [0,12,13] ?_
 refine CW_sr ?_
 refine RW_m ?_
 refine RW_n ?_
 refine RW_f fo_89_7 ?_
 refine RW_h (Yh_lh (v := .iface 79 (.pointer (some ⟨bs, 0, none⟩))) sc_85 h7) ?_
 refine RW_m ?_
 refine RW_m ?_
 refine RW_fx rfl rfl rfl (Fx_invoke (T := 79) (v := .pointer (some ⟨bs, 0, none⟩)) (vs := [.slice (some ⟨b93, 0, none⟩) 4 4, nv o]) rfl mt_79 pt_79 ok_93 rfl pk_ (storeReadAt_ct bs bB b93 0 4 4 N cN o B rB (bys (List.replicate 4 0)) 5 hB hcN hN om_ ho4 (by simp))) ?_
 rintro _ _ ⟨_, ⟨rfl, rfl⟩, rfl⟩
 rw [spl_full _ _ (by simp; omega)]
 refine RW_m ?_
 refine RW_l (Yl_extract rfl rfl) ?_
 refine RW_l (Yl_extract rfl rfl) ?_
 refine RW_a ?_
 refine RW_a ?_
 refine RW_lv [12,13,15] ?_
 refine CW_seq ?_
 refine CW_sr ?_
 refine RW_m ?_
 refine RW_l (Yl_ifNeNil rfl if_105) ?_
 refine RW_lv [12,13,15,105] ?_
 refine CW_cond rfl (fun hc4 => ?_) (fun hc4 => ?_)
 ·skip
  exact absurd hc4 (by decide)
 skip
 refine (CW_skip (QW_lv [13] ?_))
 refine CW_sr ?_
 refine RW_l (Yl_load0 rfl ag_146) ?_
 refine RW_m ?_
 refine RW_fx rfl rfl rfl (Fx_call ok_57 (vs := [.agg #[], .slice (some ⟨b93, 0, none⟩) 4 4]) rfl pk_ (le32_ct (.agg #[]) ⟨[], rfl⟩ b93 0 4 4 (bys ((B.drop o).take 4)) 5 (((B.drop o).take 4).getD 0 0) (((B.drop o).take 4).getD 1 0) (((B.drop o).take 4).getD 2 0) (((B.drop o).take 4).getD 3 0) om_ (at4 rfl 0 om_) (at4 rfl 1 om_) (at4 rfl 2 om_) (at4 rfl 3 om_))) ?_
 rintro _ _ ⟨_, ⟨rfl, rfl⟩, rfl⟩
 refine RW_a ?_
 refine RW_a ?_
 refine RW_lv [6,7] ?_
 refine CW_ret ?_
 refine QW_dropB (e := (b93, _)) rem_ ?_
 exact QW_ret2 rfl rfl rfl [_, _, _, _, _] ⟨by rw [hX4]; rfl, rfl⟩ prm_

theorem ats (X : List UInt8) {i : Nat} (h : i < X.length) : (bys X)[i]? = some (bv (X.getD i 0)) := by
 simp [List.getD_eq_getElem?_getD, h]
theorem le16_sl (g : Value) (hg : ∃ zs : List Value, g.cells = zs.toArray) (b off m c : Nat) (X : List UInt8) (hm : 2 ≤ m) (h : off + 2 ≤ X.length) :
  Ct Tryd.prog 65 [g, .slice (some ⟨b, off, none⟩) m c] [(b, blk (bys X) 5)] (fun v p => v = .int .u16 ((num ((X.drop off).take 2) : Nat) : Int) ∧ p = [(b, blk (bys X) 5)]) := by
 have e : (X.drop off).take 2 = [X.getD (off + 0) 0, X.getD (off + 1) 0] := by
  rw [list2 _ (len_drop_take X off 2 om_)]
  simp only [gdt X off (n := 2) (show 0 < 2 by omega), gdt X off (n := 2) (show 1 < 2 by omega)]
 rw [e]
 exact le16_ct g hg b off m c (bys X) 5 (X.getD (off + 0) 0) (X.getD (off + 1) 0) hm (ats X om_) (ats X om_)
theorem le32_sl (g : Value) (hg : ∃ zs : List Value, g.cells = zs.toArray) (b off m c : Nat) (X : List UInt8) (hm : 4 ≤ m) (h : off + 4 ≤ X.length) :
  Ct Tryd.prog 57 [g, .slice (some ⟨b, off, none⟩) m c] [(b, blk (bys X) 5)] (fun v p => v = .int .u32 ((num ((X.drop off).take 4) : Nat) : Int) ∧ p = [(b, blk (bys X) 5)]) := by
 have e : (X.drop off).take 4 = [X.getD (off + 0) 0, X.getD (off + 1) 0, X.getD (off + 2) 0, X.getD (off + 3) 0] := by
  rw [list4 _ (len_drop_take X off 4 om_)]
  simp only [gdt X off (n := 4) (show 0 < 4 by omega), gdt X off (n := 4) (show 1 < 4 by omega), gdt X off (n := 4) (show 2 < 4 by omega), gdt X off (n := 4) (show 3 < 4 by omega)]
 rw [e]
 exact le32_ct g hg b off m c (bys X) 5 (X.getD (off + 0) 0) (X.getD (off + 1) 0) (X.getD (off + 2) 0) (X.getD (off + 3) 0) hm (ats X om_) (ats X om_) (ats X om_) (ats X om_)
theorem le64_sl (g : Value) (hg : ∃ zs : List Value, g.cells = zs.toArray) (b off m c : Nat) (X : List UInt8) (hm : 8 ≤ m) (h : off + 8 ≤ X.length) :
  Ct Tryd.prog 64 [g, .slice (some ⟨b, off, none⟩) m c] [(b, blk (bys X) 5)] (fun v p => v = .int .u64 ((num ((X.drop off).take 8) : Nat) : Int) ∧ p = [(b, blk (bys X) 5)]) := by
 have e : (X.drop off).take 8 = [X.getD (off + 0) 0, X.getD (off + 1) 0, X.getD (off + 2) 0, X.getD (off + 3) 0, X.getD (off + 4) 0, X.getD (off + 5) 0, X.getD (off + 6) 0, X.getD (off + 7) 0] := by
  rw [list8 _ (len_drop_take X off 8 om_)]
  simp only [gdt X off (n := 8) (show 0 < 8 by omega), gdt X off (n := 8) (show 1 < 8 by omega), gdt X off (n := 8) (show 2 < 8 by omega), gdt X off (n := 8) (show 3 < 8 by omega), gdt X off (n := 8) (show 4 < 8 by omega), gdt X off (n := 8) (show 5 < 8 by omega), gdt X off (n := 8) (show 6 < 8 by omega), gdt X off (n := 8) (show 7 < 8 by omega)]
 rw [e]
 exact le64_ct g hg b off m c (bys X) 5 (X.getD (off + 0) 0) (X.getD (off + 1) 0) (X.getD (off + 2) 0) (X.getD (off + 3) 0) (X.getD (off + 4) 0) (X.getD (off + 5) 0) (X.getD (off + 6) 0) (X.getD (off + 7) 0) hm (ats X om_) (ats X om_) (ats X om_) (ats X om_) (ats X om_) (ats X om_) (ats X om_) (ats X om_)
def hc0F (X : List UInt8) : List Value := (((((((((((zs_142.set 0 (.int .u64 ((num ((X.drop 0).take 8) : Nat) : Int))).set 17 (.int .u16 ((num ((X.drop 24).take 2) : Nat) : Int))).set 18 (.int .u16 ((num ((X.drop 26).take 2) : Nat) : Int))).set 21 (.int .u16 ((num ((X.drop 30).take 2) : Nat) : Int))).set 30 (.int .u32 ((num ((X.drop 40).take 4) : Nat) : Int))).set 31 (.int .u32 ((num ((X.drop 44).take 4) : Nat) : Int))).set 32 (.int .u32 ((num ((X.drop 48).take 4) : Nat) : Int))).set 41 (.int .u32 ((num ((X.drop 60).take 4) : Nat) : Int))).set 42 (.int .u32 ((num ((X.drop 64).take 4) : Nat) : Int))).set 43 (.int .u32 ((num ((X.drop 68).take 4) : Nat) : Int))).set 44 (.int .u32 ((num ((X.drop 72).take 4) : Nat) : Int)))
def hcF (X : List UInt8) (k : Nat) : List Value := iter (fun k l => l.set (45 + k) (.int .u32 ((num ((X.drop (76 + 4 * k)).take 4) : Nat) : Int))) k (hc0F X)
theorem length_hcF (X : List UInt8) (k : Nat) : (hcF X k).length = 154 := by
 unfold hcF
 rw [length_iter _ _ _ (fun j l' _ h => by simp [h])]
 simp [hc0F]
theorem makeHeader_ct (bb nb cb : Nat) (X : List UInt8) (hX : X.length = 512) (hn : nb = 512) (hc : 512 ≤ cb) :
  Ct Tryd.prog 55 [.slice (some ⟨bb, 0, none⟩) nb cb] [(bb, blk (bys X) 5)] (fun v p => ∃ g, v = .pointer (some ⟨g, 0, none⟩) ∧ p = [(g, blk (hcF X 109) 142), (bb, blk (bys X) 5)]) := by
 refine Ct_of Tryd.func55 rfl Tryd.ntmps55 rfl ?_
 intro E F
 simp only [numL, List.nil_append, List.cons_append]
 refine CW_sr ?_
 refine RW_a ?_
 refine RW_lv [0] ?_
 refine CW_sr ?_
 refine RW_l (Yl_build (cs := zs_142) pl_142 ze_142 rfl rfl) ?_
 refine RW_fx rfl rfl rfl (Fx_box (zs := zs_142) rfl rfl) ?_
 rintro _ _ ⟨b7, rfl, rfl⟩
 refine RW_a ?_
 refine RW_lv [0,3] ?_
 refine CW_seq ?_
 refine CW_draw [7] _ mixed (Sub.refl _) ?_
 refine RD_m 0 ?_
 refine RD_l 1 rfl (Yl_load0 rfl ag_146) ?_
 refine RD_m 2 ?_
 refine RD_l 3 rfl (Yl_cutHN (h := 8) rfl rfl sl_23 om_) ?_
 refine RD_o 4 ?_
 refine RO_fx rfl rfl rfl rfl (Fx_callQ ok_64 (vs := [.agg #[], .slice (some ⟨bb, 0, none⟩) 8 cb]) rfl pk_ (le64_sl (.agg #[]) ⟨[], rfl⟩ bb 0 8 cb X om_ om_)) ?_
 rintro _ _ ⟨rfl, rfl⟩
 refine ⟨Or.inr (Sub.refl _), ?_⟩
 refine RD_n 5 ?_
 refine RD_f 6 fo_142_0 ?_
 refine RD_o 7 ?_
 refine RO_fx0 rfl rfl rfl (Fx_store (v := .int .u64 ((num ((X.drop 0).take 8) : Nat) : Int)) rfl rfl sz_39 rfl rep_ (by simp)) ?_
 rintro _ _ rfl
 refine ⟨Or.inl kr_, ?_⟩
 refine (RD_done kr_ (QW_lv [0,3] ?_))
 refine CW_seq ?_
 refine CW_draw [7] _ mixed (Sub.refl _) ?_
 refine RD_m 0 ?_
 refine RD_l 1 rfl (Yl_load0 rfl ag_146) ?_
 refine RD_m 2 ?_
 refine RD_l 3 rfl (Yl_cutLHN (l := 24) (h := 26) (o' := 24) (m' := 2) rfl rfl rfl sl_23 om_ om_ om_ om_ om_) ?_
 refine RD_o 4 ?_
 refine RO_fx rfl rfl rfl rfl (Fx_callQ ok_65 (vs := [.agg #[], .slice (some ⟨bb, 24, none⟩) 2 (cb - 24)]) rfl pk_ (le16_sl (.agg #[]) ⟨[], rfl⟩ bb 24 2 (cb - 24) X om_ om_)) ?_
 rintro _ _ ⟨rfl, rfl⟩
 refine ⟨Or.inr (Sub.refl _), ?_⟩
 refine RD_n 5 ?_
 refine RD_f 6 fo_142_2 ?_
 refine RD_o 7 ?_
 refine RO_fx0 rfl rfl rfl (Fx_store (v := .int .u16 ((num ((X.drop 24).take 2) : Nat) : Int)) rfl rfl sz_47 rfl rep_ (by simp)) ?_
 rintro _ _ rfl
 refine ⟨Or.inl kr_, ?_⟩
 refine (RD_done kr_ (QW_lv [0,3] ?_))
 refine CW_seq ?_
 refine CW_draw [7] _ mixed (Sub.refl _) ?_
 refine RD_m 0 ?_
 refine RD_l 1 rfl (Yl_load0 rfl ag_146) ?_
 refine RD_m 2 ?_
 refine RD_l 3 rfl (Yl_cutLHN (l := 26) (h := 28) (o' := 26) (m' := 2) rfl rfl rfl sl_23 om_ om_ om_ om_ om_) ?_
 refine RD_o 4 ?_
 refine RO_fx rfl rfl rfl rfl (Fx_callQ ok_65 (vs := [.agg #[], .slice (some ⟨bb, 26, none⟩) 2 (cb - 26)]) rfl pk_ (le16_sl (.agg #[]) ⟨[], rfl⟩ bb 26 2 (cb - 26) X om_ om_)) ?_
 rintro _ _ ⟨rfl, rfl⟩
 refine ⟨Or.inr (Sub.refl _), ?_⟩
 refine RD_n 5 ?_
 refine RD_f 6 fo_142_3 ?_
 refine RD_o 7 ?_
 refine RO_fx0 rfl rfl rfl (Fx_store (v := .int .u16 ((num ((X.drop 26).take 2) : Nat) : Int)) rfl rfl sz_47 rfl rep_ (by simp)) ?_
 rintro _ _ rfl
 refine ⟨Or.inl kr_, ?_⟩
 refine (RD_done kr_ (QW_lv [0,3] ?_))
 refine CW_seq ?_
 refine CW_draw [7] _ mixed (Sub.refl _) ?_
 refine RD_m 0 ?_
 refine RD_l 1 rfl (Yl_load0 rfl ag_146) ?_
 refine RD_m 2 ?_
 refine RD_l 3 rfl (Yl_cutLHN (l := 30) (h := 32) (o' := 30) (m' := 2) rfl rfl rfl sl_23 om_ om_ om_ om_ om_) ?_
 refine RD_o 4 ?_
 refine RO_fx rfl rfl rfl rfl (Fx_callQ ok_65 (vs := [.agg #[], .slice (some ⟨bb, 30, none⟩) 2 (cb - 30)]) rfl pk_ (le16_sl (.agg #[]) ⟨[], rfl⟩ bb 30 2 (cb - 30) X om_ om_)) ?_
 rintro _ _ ⟨rfl, rfl⟩
 refine ⟨Or.inr (Sub.refl _), ?_⟩
 refine RD_n 5 ?_
 refine RD_f 6 fo_142_5 ?_
 refine RD_o 7 ?_
 refine RO_fx0 rfl rfl rfl (Fx_store (v := .int .u16 ((num ((X.drop 30).take 2) : Nat) : Int)) rfl rfl sz_47 rfl rep_ (by simp)) ?_
 rintro _ _ rfl
 refine ⟨Or.inl kr_, ?_⟩
 refine (RD_done kr_ (QW_lv [0,3] ?_))
 refine CW_seq ?_
 refine CW_draw [7] _ mixed (Sub.refl _) ?_
 refine RD_m 0 ?_
 refine RD_l 1 rfl (Yl_load0 rfl ag_146) ?_
 refine RD_m 2 ?_
 refine RD_l 3 rfl (Yl_cutLHN (l := 40) (h := 44) (o' := 40) (m' := 4) rfl rfl rfl sl_23 om_ om_ om_ om_ om_) ?_
 refine RD_o 4 ?_
 refine RO_fx rfl rfl rfl rfl (Fx_callQ ok_57 (vs := [.agg #[], .slice (some ⟨bb, 40, none⟩) 4 (cb - 40)]) rfl pk_ (le32_sl (.agg #[]) ⟨[], rfl⟩ bb 40 4 (cb - 40) X om_ om_)) ?_
 rintro _ _ ⟨rfl, rfl⟩
 refine ⟨Or.inr (Sub.refl _), ?_⟩
 refine RD_n 5 ?_
 refine RD_f 6 fo_142_8 ?_
 refine RD_o 7 ?_
 refine RO_fx0 rfl rfl rfl (Fx_store (v := .int .u32 ((num ((X.drop 40).take 4) : Nat) : Int)) rfl rfl sz_67 rfl rep_ (by simp)) ?_
 rintro _ _ rfl
 refine ⟨Or.inl kr_, ?_⟩
 refine (RD_done kr_ (QW_lv [0,3] ?_))
 refine CW_seq ?_
 refine CW_draw [7] _ mixed (Sub.refl _) ?_
 refine RD_m 0 ?_
 refine RD_l 1 rfl (Yl_load0 rfl ag_146) ?_
 refine RD_m 2 ?_
 refine RD_l 3 rfl (Yl_cutLHN (l := 44) (h := 48) (o' := 44) (m' := 4) rfl rfl rfl sl_23 om_ om_ om_ om_ om_) ?_
 refine RD_o 4 ?_
 refine RO_fx rfl rfl rfl rfl (Fx_callQ ok_57 (vs := [.agg #[], .slice (some ⟨bb, 44, none⟩) 4 (cb - 44)]) rfl pk_ (le32_sl (.agg #[]) ⟨[], rfl⟩ bb 44 4 (cb - 44) X om_ om_)) ?_
 rintro _ _ ⟨rfl, rfl⟩
 refine ⟨Or.inr (Sub.refl _), ?_⟩
 refine RD_n 5 ?_
 refine RD_f 6 fo_142_9 ?_
 refine RD_o 7 ?_
 refine RO_fx0 rfl rfl rfl (Fx_store (v := .int .u32 ((num ((X.drop 44).take 4) : Nat) : Int)) rfl rfl sz_67 rfl rep_ (by simp)) ?_
 rintro _ _ rfl
 refine ⟨Or.inl kr_, ?_⟩
 refine (RD_done kr_ (QW_lv [0,3] ?_))
 refine CW_seq ?_
 refine CW_draw [7] _ mixed (Sub.refl _) ?_
 refine RD_m 0 ?_
 refine RD_l 1 rfl (Yl_load0 rfl ag_146) ?_
 refine RD_m 2 ?_
 refine RD_l 3 rfl (Yl_cutLHN (l := 48) (h := 52) (o' := 48) (m' := 4) rfl rfl rfl sl_23 om_ om_ om_ om_ om_) ?_
 refine RD_o 4 ?_
 refine RO_fx rfl rfl rfl rfl (Fx_callQ ok_57 (vs := [.agg #[], .slice (some ⟨bb, 48, none⟩) 4 (cb - 48)]) rfl pk_ (le32_sl (.agg #[]) ⟨[], rfl⟩ bb 48 4 (cb - 48) X om_ om_)) ?_
 rintro _ _ ⟨rfl, rfl⟩
 refine ⟨Or.inr (Sub.refl _), ?_⟩
 refine RD_n 5 ?_
 refine RD_f 6 fo_142_10 ?_
 refine RD_o 7 ?_
 refine RO_fx0 rfl rfl rfl (Fx_store (v := .int .u32 ((num ((X.drop 48).take 4) : Nat) : Int)) rfl rfl sz_67 rfl rep_ (by simp)) ?_
 rintro _ _ rfl
 refine ⟨Or.inl kr_, ?_⟩
 refine (RD_done kr_ (QW_lv [0,3] ?_))
 refine CW_seq ?_
 refine CW_draw [7] _ mixed (Sub.refl _) ?_
 refine RD_m 0 ?_
 refine RD_l 1 rfl (Yl_load0 rfl ag_146) ?_
 refine RD_m 2 ?_
 refine RD_l 3 rfl (Yl_cutLHN (l := 60) (h := 64) (o' := 60) (m' := 4) rfl rfl rfl sl_23 om_ om_ om_ om_ om_) ?_
 refine RD_o 4 ?_
 refine RO_fx rfl rfl rfl rfl (Fx_callQ ok_57 (vs := [.agg #[], .slice (some ⟨bb, 60, none⟩) 4 (cb - 60)]) rfl pk_ (le32_sl (.agg #[]) ⟨[], rfl⟩ bb 60 4 (cb - 60) X om_ om_)) ?_
 rintro _ _ ⟨rfl, rfl⟩
 refine ⟨Or.inr (Sub.refl _), ?_⟩
 refine RD_n 5 ?_
 refine RD_f 6 fo_142_13 ?_
 refine RD_o 7 ?_
 refine RO_fx0 rfl rfl rfl (Fx_store (v := .int .u32 ((num ((X.drop 60).take 4) : Nat) : Int)) rfl rfl sz_67 rfl rep_ (by simp)) ?_
 rintro _ _ rfl
 refine ⟨Or.inl kr_, ?_⟩
 refine (RD_done kr_ (QW_lv [0,3] ?_))
 refine CW_seq ?_
 refine CW_draw [7] _ mixed (Sub.refl _) ?_
 refine RD_m 0 ?_
 refine RD_l 1 rfl (Yl_load0 rfl ag_146) ?_
 refine RD_m 2 ?_
 refine RD_l 3 rfl (Yl_cutLHN (l := 64) (h := 68) (o' := 64) (m' := 4) rfl rfl rfl sl_23 om_ om_ om_ om_ om_) ?_
 refine RD_o 4 ?_
 refine RO_fx rfl rfl rfl rfl (Fx_callQ ok_57 (vs := [.agg #[], .slice (some ⟨bb, 64, none⟩) 4 (cb - 64)]) rfl pk_ (le32_sl (.agg #[]) ⟨[], rfl⟩ bb 64 4 (cb - 64) X om_ om_)) ?_
 rintro _ _ ⟨rfl, rfl⟩
 refine ⟨Or.inr (Sub.refl _), ?_⟩
 refine RD_n 5 ?_
 refine RD_f 6 fo_142_14 ?_
 refine RD_o 7 ?_
 refine RO_fx0 rfl rfl rfl (Fx_store (v := .int .u32 ((num ((X.drop 64).take 4) : Nat) : Int)) rfl rfl sz_67 rfl rep_ (by simp)) ?_
 rintro _ _ rfl
 refine ⟨Or.inl kr_, ?_⟩
 refine (RD_done kr_ (QW_lv [0,3] ?_))
 refine CW_seq ?_
 refine CW_draw [7] _ mixed (Sub.refl _) ?_
 refine RD_m 0 ?_
 refine RD_l 1 rfl (Yl_load0 rfl ag_146) ?_
 refine RD_m 2 ?_
 refine RD_l 3 rfl (Yl_cutLHN (l := 68) (h := 72) (o' := 68) (m' := 4) rfl rfl rfl sl_23 om_ om_ om_ om_ om_) ?_
 refine RD_o 4 ?_
 refine RO_fx rfl rfl rfl rfl (Fx_callQ ok_57 (vs := [.agg #[], .slice (some ⟨bb, 68, none⟩) 4 (cb - 68)]) rfl pk_ (le32_sl (.agg #[]) ⟨[], rfl⟩ bb 68 4 (cb - 68) X om_ om_)) ?_
 rintro _ _ ⟨rfl, rfl⟩
 refine ⟨Or.inr (Sub.refl _), ?_⟩
 refine RD_n 5 ?_
 refine RD_f 6 fo_142_15 ?_
 refine RD_o 7 ?_
 refine RO_fx0 rfl rfl rfl (Fx_store (v := .int .u32 ((num ((X.drop 68).take 4) : Nat) : Int)) rfl rfl sz_67 rfl rep_ (by simp)) ?_
 rintro _ _ rfl
 refine ⟨Or.inl kr_, ?_⟩
 refine (RD_done kr_ (QW_lv [0,3] ?_))
 refine CW_seq ?_
 refine CW_draw [7] _ mixed (Sub.refl _) ?_
 refine RD_m 0 ?_
 refine RD_l 1 rfl (Yl_load0 rfl ag_146) ?_
 refine RD_m 2 ?_
 refine RD_l 3 rfl (Yl_cutLHN (l := 72) (h := 76) (o' := 72) (m' := 4) rfl rfl rfl sl_23 om_ om_ om_ om_ om_) ?_
 refine RD_o 4 ?_
 refine RO_fx rfl rfl rfl rfl (Fx_callQ ok_57 (vs := [.agg #[], .slice (some ⟨bb, 72, none⟩) 4 (cb - 72)]) rfl pk_ (le32_sl (.agg #[]) ⟨[], rfl⟩ bb 72 4 (cb - 72) X om_ om_)) ?_
 rintro _ _ ⟨rfl, rfl⟩
 refine ⟨Or.inr (Sub.refl _), ?_⟩
 refine RD_n 5 ?_
 refine RD_f 6 fo_142_16 ?_
 refine RD_o 7 ?_
 refine RO_fx0 rfl rfl rfl (Fx_store (v := .int .u32 ((num ((X.drop 72).take 4) : Nat) : Int)) rfl rfl sz_67 rfl rep_ (by simp)) ?_
 rintro _ _ rfl
 refine ⟨Or.inl kr_, ?_⟩
 refine (RD_done kr_ (QW_lv [0,3] ?_))
 refine CW_sr ?_
 refine RW_a ?_
 refine RW_lv [0,3,4] ?_
 refine CW_seq ?_
 refine CW_sr ?_
 refine RW_a ?_
 refine RW_lv [0,3,4,5] ?_
 refine CW_block ?_
 refine CW_loop (σ := Nat) (fun k => [(0, .slice (some ⟨bb, 0, none⟩) nb cb), (3, .pointer (some ⟨b7, 0, none⟩)), (4, nv k), (5, nv (76 + 4 * k))]) (fun k => (b7, blk (hcF X k) 142) :: (bb, blk (bys X) 5) :: F) (fun k => k ≤ 109) (fun k => 109 - k) 0 om_ (Prm.nil _) kp_ ?_
 intro k hkm
 refine CW_seq ?_
 refine CW_sr ?_
 refine RW_m ?_
 refine RW_l (Yl_lss rfl rfl) ?_
 refine RW_lv [0,3,4,5,86] ?_
 refine CW_cd rfl (fun hc1 => ?_) (fun hc1 => ?_)
 ·refine (CW_skip (QW_lv [0,3,4,5] ?_))
  refine CW_seq ?_
  refine CW_block ?_
  refine CW_seq ?_
  refine CW_draw [12] _ mixed (Sub.refl _) ?_
  refine RD_m 0 ?_
  refine RD_m 1 ?_
  refine RD_l 2 rfl (Yl_load0 rfl ag_146) ?_
  refine RD_m 3 ?_
  refine RD_m 4 ?_
  refine RD_m 5 ?_
  refine RD_l 6 rfl (Yl_add (c := ((76 + 4 * k + 4 : Nat) : Int)) rfl rfl (wi64 om_ om_)) ?_
  refine RD_l 7 rfl (Yl_cutLHN (l := 76 + 4 * k) (h := 76 + 4 * k + 4) (o' := 76 + 4 * k) (m' := 4) rfl rfl rfl sl_23 om_ om_ om_ om_ om_) ?_
  refine RD_n 9 ?_
  refine RD_f 10 fo_142_17 ?_
  refine RD_o 8 ?_
  refine RO_fx rfl rfl rfl rfl (Fx_callQ ok_57 (vs := [.agg #[], .slice (some ⟨bb, 76 + 4 * k, none⟩) 4 (cb - (76 + 4 * k))]) rfl pk_ (le32_sl (.agg #[]) ⟨[], rfl⟩ bb (76 + 4 * k) 4 (cb - (76 + 4 * k)) X om_ om_)) ?_
  rintro _ _ ⟨rfl, rfl⟩
  refine ⟨Or.inr (Sub.refl _), ?_⟩
  refine RD_l 11 rfl (Yl_indexAN (b := b7) (off := 45) (i := k) (o' := 45 + k) rfl rfl ar_140 om_ om_) ?_
  refine RD_o 12 ?_
  refine RO_fx0 rfl rfl rfl (Fx_store (v := .int .u32 ((num ((X.drop (76 + 4 * k)).take 4) : Nat) : Int)) (off := 45 + k) rfl rfl sz_67 rfl rep_ (by rw [length_hcF]; omega)) ?_
  rintro _ _ rfl
  refine ⟨Or.inl kr_, ?_⟩
  refine (RD_done kr_ (QW_lv [0,3,4,5] ?_))
  refine CW_region ?_
  refine RW_m ?_
  refine RW_l (Yl_add (c := ((k + 1 : Nat) : Int)) rfl rfl (wi64 om_ om_)) ?_
  refine RW_a ?_
  refine RW_nil ?_
  refine QW_normal_block ?_
  refine (QW_lv [0,3,4,5] ?_)
  refine CW_region ?_
  refine RW_m ?_
  refine RW_l (Yl_add (c := ((76 + 4 * (k + 1) : Nat) : Int)) rfl rfl (wi64 om_ om_)) ?_
  refine RW_a ?_
  refine RW_nil ?_
  exact QW_round (k + 1) om_ om_ (Prm.nil _) kp_
 refine CW_exit ?_
 refine QW_exit_then ?_
 refine QW_exit_then ?_
 refine QW_exit_block ?_
 refine (QW_lv [3] ?_)
 refine CW_sr ?_
 refine RW_m ?_
 refine RW_a ?_
 refine RW_lv [2] ?_
 refine CW_ret ?_
 obtain rfl : k = 109 := by omega
 exact QW_ret1 rfl rfl [(b7, _), _] ⟨b7, rfl, rfl⟩ prm_

end Go.Proofs.YtgoddcicbpjknaaDoor
