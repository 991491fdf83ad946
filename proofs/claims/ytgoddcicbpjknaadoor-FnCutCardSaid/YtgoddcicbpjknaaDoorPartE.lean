/- What FnCut's card leans on: walks of the program's functions, and plain facts on files (part 5). -/
import Derived.Test.YtgoddcicbpjknaaDoorPartD
set_option maxRecDepth 20000
set_option maxHeartbeats 4000000

set_option maxRecDepth 100000
namespace Go.Proofs.YtgoddcicbpjknaaDoor
open Go
open Cfb
open Go.ChangeShapes Go.WideShapes Go.ChangeAt Go.RowKit
theorem only_181 : ((List.range Tryd.prog.types.size).all fun u => u == 181 || !(Tryd.prog.typeName? 3 u == some "*errors.errorString")) = true := by kernel_rfl
def DescNo : TypeDesc → Prop
  | .named _ _ | .bool | .int _ | .float _ | .string => False
  | _ => True
theorem reckon_no {f : TypeId → Option TypeInfo} {d : TypeDesc} {i : TypeInfo} (h : Made.reckon f d = some i) : DescNo i.desc ∧ ∀ e, i.desc = .pointer e → ∃ j, f e = some j ∧ ∀ n u, j.desc ≠ .named n u := by
  unfold Made.reckon at h
  cases d with
  | pointer e =>
    simp only [Option.bind_eq_bind, Option.bind_eq_some_iff] at h
    obtain ⟨j, hj, h⟩ := h
    have key : i.desc = .pointer e ∧ ∀ n u, j.desc ≠ .named n u := by
      split at h
      · cases h
      · rename_i hd
        split at h
        · cases h
        simp only [Option.bind_eq_some_iff] at h
        obtain ⟨s, _, h⟩ := h
        cases h
        exact ⟨rfl, fun n u hh => by rw [hd] at hh; cases hh⟩
      rename_i hno _
      simp only [Option.bind_eq_some_iff] at h
      obtain ⟨s, _, h⟩ := h
      cases h
      exact ⟨rfl, fun n u hh => hno n u hh⟩
    refine ⟨by rw [key.1]; trivial, fun e' he => ?_⟩
    rw [key.1] at he
    cases he
    exact ⟨j, hj, key.2⟩
  | slice e => simp [Option.bind_eq_some_iff] at h; obtain ⟨_, _, _, _, rfl⟩ := h; exact ⟨trivial, fun _ he => by cases he⟩
  | map k e => simp [Option.bind_eq_some_iff] at h; obtain ⟨_, _, _, _, _, _, _, _, rfl⟩ := h; exact ⟨trivial, fun _ he => by cases he⟩
  | chan c e => simp [Option.bind_eq_some_iff] at h; obtain ⟨_, _, _, _, rfl⟩ := h; exact ⟨trivial, fun _ he => by cases he⟩
  | func a b c => simp [Option.bind_eq_some_iff] at h; obtain ⟨_, _, rfl⟩ := h; exact ⟨trivial, fun _ he => by cases he⟩
  | array n e => simp [Option.bind_eq_some_iff] at h; obtain ⟨_, _, _, _, rfl⟩ := h; exact ⟨trivial, fun _ he => by cases he⟩
  | struct fs =>
    simp only [Made.reckonStruct, Option.bind_eq_bind, Option.bind_eq_some_iff] at h
    obtain ⟨r, _, h⟩ := h
    split at h <;> (cases h; exact ⟨trivial, fun _ he => by cases he⟩)
  | _ => cases h
theorem info_lt {t : TypeId} (h : t < Tryd.prog.types.size) (n : Nat) : Made.infoAt Tryd.prog.toTables (n + 1) t = Tryd.prog.types[t]? := by
  unfold Made.infoAt
  exact if_pos h
theorem info_ge {t : TypeId} (h : ¬ t < Tryd.prog.types.size) {i : TypeInfo} (hi : Tryd.prog.info? t = some i) : DescNo i.desc ∧ ∀ e, i.desc = .pointer e → ∃ j, Made.infoAt Tryd.prog.toTables 99 e = some j ∧ ∀ n u, j.desc ≠ .named n u := by
  unfold Tables.info? at hi
  rw [if_neg h] at hi
  unfold Made.depth Made.infoAt at hi
  rw [if_neg h] at hi
  obtain ⟨d, _, hd⟩ := Option.bind_eq_some_iff.1 hi
  exact reckon_no hd
theorem only_str : (Tryd.prog.types.toList.all fun j => match j.desc with | .bool | .int _ | .float _ | .string => !(j.str == "errors.errorString") | _ => true) = true := by kernel_rfl
theorem name_181 {U : TypeId} (h : Tryd.prog.typeName? 3 U = some "*errors.errorString") : U = 181 := by
  by_cases hU : U < Tryd.prog.types.size
  · have := List.all_eq_true.1 only_181 U (List.mem_range.2 hU)
    simp only [h, beq_self_eq_true, Bool.not_true, Bool.or_false] at this
    exact eq_of_beq this
  exfalso
  unfold Program.typeName? at h
  cases hi : Tryd.prog.info? U with
  | none => rw [hi] at h; cases h
  | some i =>
    rw [hi] at h
    obtain ⟨h1, h2⟩ := info_ge hU hi
    simp only at h
    cases hd : i.desc with
    | pointer e =>
      rw [hd] at h
      simp only [Option.map_eq_some_iff] at h
      obtain ⟨s, hs, hs2⟩ := h
      obtain rfl : s = "errors.errorString" := by
        have := congrArg String.toList hs2
        simp only [String.toList_append] at this
        exact String.toList_inj.1 (List.cons.inj this).2
      obtain ⟨j, hj1, hj2⟩ := h2 e hd
      unfold Program.typeName? at hs
      cases hj : Tryd.prog.info? e with
      | none => rw [hj] at hs; cases hs
      | some j' =>
        rw [hj] at hs
        simp only at hs
        have plain : ∀ x, j'.desc = x → (match x with | .bool | .int _ | .float _ | .string => True | _ => False) → j'.str = "errors.errorString" → False := by
          intro x hx hp hstr
          by_cases he : e < Tryd.prog.types.size
          · have hm : j' ∈ Tryd.prog.types.toList := by
              unfold Tables.info? at hj
              rw [if_pos he] at hj
              exact Array.mem_toList_iff.2 (Array.mem_of_getElem? hj)
            have := List.all_eq_true.1 only_str j' hm
            rw [hx, hstr] at this
            cases x <;> simp at hp this
          have := (info_ge he hj).1
          rw [hx] at this
          cases x <;> first | exact hp | exact this
        cases hd' : j'.desc with
        | named n u =>
          by_cases he : e < Tryd.prog.types.size
          · unfold Tables.info? at hj
            rw [if_pos he] at hj
            rw [info_lt he, hj] at hj1
            cases hj1
            exact hj2 n u hd'
          have := (info_ge he hj).1
          rw [hd'] at this
          exact this
        | pointer e2 =>
          rw [hd'] at hs
          simp only [Option.map_eq_some_iff] at hs
          obtain ⟨s, _, hs2⟩ := hs
          have := congrArg String.toList hs2
          simp only [String.toList_append] at this
          exact absurd (List.cons.inj this).1 (by decide)
        | bool => rw [hd'] at hs; exact plain _ hd' trivial (by simp only at hs; split at hs; cases hs; exact Option.some.inj hs)
        | int k => rw [hd'] at hs; exact plain _ hd' trivial (by simp only at hs; split at hs; cases hs; exact Option.some.inj hs)
        | float k => rw [hd'] at hs; exact plain _ hd' trivial (by simp only at hs; split at hs; cases hs; exact Option.some.inj hs)
        | string => rw [hd'] at hs; exact plain _ hd' trivial (by simp only at hs; split at hs; cases hs; exact Option.some.inj hs)
        | _ => rw [hd'] at hs; cases hs
    | named n u => rw [hd] at h1; exact h1
    | bool => rw [hd] at h1; exact h1
    | int k => rw [hd] at h1; exact h1
    | float k => rw [hd] at h1; exact h1
    | string => rw [hd] at h1; exact h1
    | _ => rw [hd] at h; cases h
theorem un_181 : Tryd.prog.underlying 181 = some (.pointer 201) := by kernel_rfl
theorem un_9 : Tryd.prog.underlying 9 = some .string := by kernel_rfl
theorem un_201 : ∃ f : Field, Tryd.prog.underlying 201 = some (.struct #[f]) ∧ f.type = 9 ∧ f.offset = 0 := by
  have h : (match Tryd.prog.underlying 201 with | some (.struct fs) => decide (fs.size = 1) && ((fs.getD 0 default).type == 9 && (fs.getD 0 default).offset == 0) | _ => false) = true := by kernel_rfl
  split at h
  · rename_i fs hu
    simp only [Bool.and_eq_true, decide_eq_true_eq, beq_iff_eq] at h
    obtain ⟨l⟩ := fs
    match l, h with
    | [f], h => exact ⟨f, hu, by simpa using h.2.1, by simpa using h.2.2⟩
  cases h
theorem cells201 : Tryd.prog.cellsOf 201 = 1 := by kernel_rfl
theorem cells9 : Tryd.prog.cellsOf 9 = 1 := by kernel_rfl
theorem eof_full {W : World} (h : laidMetH Tryd.prog laid2 W) : ∃ b o, W.var? Tryd.prog "io.EOF" = some #[.iface 181 (.pointer (some ⟨b, o, none⟩))] ∧ W.cell? ⟨b, o, none⟩ = some (.string (bar [69, 79, 70])) := by
  obtain ⟨ps, hv, -, hok⟩ := laid2_plain h
  obtain ⟨g, t, cs, fuel, p, q, hg, ht, hvar, hd, -, hps⟩ := hv
  obtain rfl := Option.some.inj (gEof.symm.trans hg)
  obtain rfl := Option.some.inj (gEofT.symm.trans ht)
  obtain ⟨ms, hu⟩ := un_105
  cases fuel with
  | zero => simp [DataW.trod] at hd
  | succ fuel =>
    obtain ⟨l⟩ := cs
    unfold DataW.trod at hd
    rw [hu] at hd
    unfold Rows.laid_io_EOF at hd
    cases l with
    | nil => simp at hd
    | cons v r =>
      cases r with
      | cons a b => simp at hd
      | nil =>
        cases v with
        | iface U u =>
          have hcell : W.cell? ⟨0, 0, none⟩ = some (.iface U u) := World.var?_cell gEof hvar 0
          have hmem : MemPlace.cell 0 0 ∈ ps := by
            rw [hps]
            exact List.mem_append_left _ (List.mem_append_left _ (by simp [MemPlace.row]))
          have hw := (hok 0 0 hmem).2 U u hcell
          simp only at hd
          cases hn : Tryd.prog.typeName? 3 U with
          | none => rw [hn] at hd; simp at hd
          | some name =>
            rw [hn] at hd
            simp only [Option.map_eq_some_iff, Prod.mk.injEq, DataW.iface.injEq] at hd
            obtain ⟨x, hx, ⟨hname, hx1⟩, _⟩ := hd
            rw [hname] at hn
            obtain rfl := name_181 hn
            unfold Value.okWide at hw
            rw [un_181] at hw
            simp only at hw
            unfold Cell.okWide at hw
            rw [un_181] at hw
            cases u with
            | pointer a =>
              cases a with
              | none =>
                cases fuel with
                | zero => simp [DataW.trod] at hx
                | succ fuel =>
                  unfold DataW.trod at hx
                  rw [un_181] at hx
                  simp [Value.cells] at hx
                  rw [← hx] at hx1
                  cases hx1
              | some a =>
                simp only at hw
                unfold Cell.ok at hw
                rw [un_181] at hw
                simp only [World.has] at hw
                obtain ⟨b, o, s⟩ := a
                obtain rfl : s = none := hw.2.1
                refine ⟨b, o, hvar, ?_⟩
                cases fuel with
                | zero => simp [DataW.trod] at hx
                | succ fuel =>
                  unfold DataW.trod at hx
                  rw [un_181] at hx
                  simp only [Value.cells, cells201, Option.map_eq_some_iff, Option.bind_eq_some_iff] at hx
                  obtain ⟨y, ⟨cl, hcl, hy⟩, rfl⟩ := hx
                  simp only [DataW.ptr.injEq] at hx1
                  unfold World.cells? at hcl
                  rw [if_pos (Nat.zero_le _)] at hcl
                  cases hc : W.cell? ⟨b, o, none⟩ with
                  | none => simp [List.range_succ, Addr.add, hc] at hcl
                  | some c =>
                    simp [List.range_succ, Addr.add, hc] at hcl
                    subst hcl
                    cases fuel with
                    | zero => simp [DataW.trod] at hy
                    | succ fuel =>
                      obtain ⟨f, hf, hf1, hf2⟩ := un_201
                      unfold DataW.trod at hy
                      rw [hf] at hy
                      simp [cells201, hf1, hf2, cells9, Option.bind_eq_some_iff] at hy
                      obtain ⟨z, pz, hz, rfl⟩ := hy
                      have hz1 : z = DataW.lit (.string [69, 79, 70]) := by
                        have h2 : DataW.agg [z] = DataW.agg [DataW.lit (.string [69, 79, 70])] := hx1
                        simpa using h2
                      subst hz1
                      cases fuel with
                      | zero => simp [DataW.trod] at hz
                      | succ fuel =>
                        unfold DataW.trod at hz
                        rw [un_9] at hz
                        cases c with
                        | string s =>
                          simp only at hz
                          split at hz
                          · simp only [Option.some.injEq, Prod.mk.injEq, DataW.lit.injEq, Lit.string.injEq] at hz
                            have e : s = bar [69, 79, 70] := by
                              obtain ⟨d⟩ := s
                              obtain ⟨l⟩ := d
                              have e1 : l = [69, 79, 70] := hz.1
                              rw [e1]; rfl
                            rw [e]
                          cases hz
                        | _ => simp at hz
            | _ => simp only at hw; unfold Cell.ok at hw; rw [un_181] at hw; exact hw.elim
        | _ => simp at hd
theorem eof_blocks {W : World} (h : laidMetH Tryd.prog laid2 W) (hS : W.ShapedOpen Tryd.prog) : ∃ (bE : EofB) (TE : TypeId) (fzE : Nat × Nat) (T0 : TypeId),
    W.heap[0]? = some (blk [.iface 181 (.pointer (some ⟨bE.b, bE.o, none⟩))] T0) ∧ W.heap[bE.b]? = some (Obj.cells bE.l.toArray TE fzE) := by
  obtain ⟨b, o, hv, hc⟩ := eof_full h
  obtain ⟨⟨zero, t⟩, hr⟩ := Option.isSome_iff_exists.1 row0
  obtain ⟨cs, hcs, _, _⟩ := hS.1 0 zero t zero_lt hr
  unfold World.cell? at hc
  cases hb : W.heap[b]? with
  | none => rw [hb] at hc; cases hc
  | some x =>
    rw [hb] at hc
    cases x with
    | cells l TE fzE =>
      obtain ⟨l⟩ := l
      refine ⟨⟨b, o, l, by simpa using hc⟩, TE, fzE, t, ?_, hb⟩
      rw [hcs]
      have : cs = ([.iface 181 (.pointer (some ⟨b, o, none⟩))] : List Value).toArray := by
        apply Array.ext_getElem?
        intro i
        have h1 := World.var?_cell gEof hv i
        have h2 : W.cell? ⟨0, i, none⟩ = cs[i]? := by simp [World.cell?, hcs]
        rw [← h2, h1]
      rw [this]
    | _ => cases hc
theorem row5 : ((((begin Tryd.prog (fun _ _ => 0) default).world.heap[5]?).bind Obj.row?).map fun x => x.1.size == 20 && Tryd.prog.buildable x.2 && match Tryd.prog.cellTypes Tryd.prog.depth x.2 with
  | some ts => ts.all (fun u => match Tryd.prog.underlying u with | some (.int .u64) => true | _ => false) | none => false) = some true := by kernel_rfl
theorem five_lt : 5 < Tryd.prog.globals.size := by
  have : Nat.blt 5 Tryd.prog.globals.size = true := by kernel_rfl
  exact Nat.le_of_ble_eq_true this
theorem pow_block {W : World} (hS : W.ShapedOpen Tryd.prog) : ∃ (lp : List Value) (Tp : TypeId) (fp : Nat × Nat), W.heap[5]? = some (Obj.cells lp.toArray Tp fp) ∧ lp.length = 20 ∧ ∀ i, i < 20 → ∃ z : Int, lp[i]? = some (.int .u64 z) := by
  obtain ⟨⟨zero, t⟩, hr, hb⟩ := Option.map_eq_some_iff.1 row5
  simp only [Bool.and_eq_true, beq_iff_eq] at hb
  obtain ⟨⟨hz, hbu⟩, hts⟩ := hb
  obtain ⟨cs, hc, hsz, hok⟩ := hS.1 5 zero t five_lt hr
  obtain ⟨ts, h1, _, h3⟩ := hok hbu
  rw [h1] at hts
  obtain ⟨l⟩ := cs
  have h20 : l.length = 20 := by rw [← hz, ← hsz]; simp
  refine ⟨l, t, _, hc, h20, fun i hi => ?_⟩
  have hl : i < l.length := by omega
  obtain ⟨u, hu, hcell⟩ := h3 i l[i] (by simp [hl])
  have := List.all_eq_true.1 hts u (List.mem_of_getElem? hu)
  unfold Cell.ok at hcell
  split at this
  · rename_i hun
    rw [hun] at hcell
    rw [List.getElem?_eq_getElem hl]
    generalize l[i] = v at hcell
    cases v with
    | int k n => exact ⟨n, by rw [hcell.1]⟩
    | _ => exact hcell.elim
  cases this
theorem four_blocks {W : World} (h : laidMetH Tryd.prog laid2 W) (hS : W.ShapedOpen Tryd.prog) : ∃ (bE : EofB) (TE : TypeId) (fzE : Nat × Nat) (T0 T : TypeId) (lp : List Value) (Tp : TypeId) (fp : Nat × Nat), (∀ i, i < 20 → ∃ z : Int, lp[i]? = some (.int .u64 z)) ∧
    (∀ p ∈ [(2, blk propsV T), (0, Obj.cells [Value.iface 181 (.pointer (some ⟨bE.b, bE.o, none⟩))].toArray T0 (0, 0)), (5, Obj.cells lp.toArray Tp fp), (bE.b, Obj.cells bE.l.toArray TE fzE)], W.heap[p.1]? = some p.2) ∧
    ([(2, blk propsV T), (0, Obj.cells [Value.iface 181 (.pointer (some ⟨bE.b, bE.o, none⟩))].toArray T0 (0, 0)), (5, Obj.cells lp.toArray Tp fp), (bE.b, Obj.cells bE.l.toArray TE fzE)].map Prod.fst).Nodup := by
  obtain ⟨T, hT⟩ := tab_block (props_tab2 h) hS
  obtain ⟨bE, TE, fzE, T0, h0, hE⟩ := eof_blocks h hS
  obtain ⟨lp, Tp, fp, h5, h20, hlp⟩ := pow_block hS
  have key : ∀ (b : Nat) (l : List Value) (t : TypeId) (fz : Nat × Nat), W.heap[b]? = some (Obj.cells l.toArray t fz) → (∀ s, Value.string s ∉ l) → b ≠ bE.b := by
    rintro b l t fz hb hl rfl
    rw [hE] at hb
    have e : bE.l = l := by
      have := Option.some.inj hb
      injection this with h1
      simpa using h1
    have h1 := bE.h
    rw [e] at h1
    exact hl _ (List.mem_of_getElem? h1)
  have n2 := key 2 _ _ _ hT (fun s hs => by
    unfold propsV at hs
    obtain ⟨z, _, hz⟩ := List.mem_map.1 hs
    cases hz)
  have n0 := key 0 _ _ _ h0 (fun s hs => by cases List.mem_singleton.1 hs)
  have n5 := key 5 _ _ _ h5 (fun s hs => by
    obtain ⟨i, hi, he⟩ := List.getElem_of_mem hs
    obtain ⟨z, hz⟩ := hlp i om_
    rw [List.getElem?_eq_getElem hi, he] at hz
    cases hz)
  refine ⟨bE, TE, fzE, T0, T, lp, Tp, fp, hlp, ?_, ?_⟩
  · intro p hp
    simp only [List.mem_cons, List.not_mem_nil, or_false] at hp
    rcases hp with rfl | rfl | rfl | rfl
    · exact hT
    · exact h0
    · exact h5
    exact hE
  simp [n2, n0, n5]
end Go.Proofs.YtgoddcicbpjknaaDoor

namespace Go.Proofs.YtgoddcicbpjknaaDoor
open Go
open Cfb

theorem bool2_ct (b : Bool) : Ct Tryd.prog 107 [.bool b] [] (fun v q => (∃ e, e ≤ 1 ∧ v = nv e) ∧ q = []) := by
 refine Ct_of Tryd.func107 rfl Tryd.ntmps107 rfl ?_
 intro E F
 simp only [numL, List.nil_append, List.cons_append]
 refine CW_sr ?_
 refine RW_a ?_
 refine RW_lv [0] ?_
 refine CW_seq ?_
 refine CW_sr ?_
 refine RW_m ?_
 refine RW_lv [3] ?_
 refine CW_cond rfl (fun hc1 => ?_) (fun hc1 => ?_)
 ·skip
  refine CW_sr ?_
  refine RW_a ?_
  refine RW_lv [2] ?_
  refine CW_ret ?_
  refine QW_ret_then ?_
  first
   | exact QW_ret1 rfl rfl [] ⟨⟨0, by omega, rfl⟩, rfl⟩ (Prm.nil _)
   | exact QW_ret1 rfl rfl [] ⟨⟨1, by omega, rfl⟩, rfl⟩ (Prm.nil _)
 skip
 refine (CW_skip (QW_lv [] ?_))
 refine CW_sr ?_
 refine RW_a ?_
 refine RW_lv [2] ?_
 refine CW_ret ?_
 first
  | exact QW_ret1 rfl rfl [] ⟨⟨0, by omega, rfl⟩, rfl⟩ (Prm.nil _)
  | exact QW_ret1 rfl rfl [] ⟨⟨1, by omega, rfl⟩, rfl⟩ (Prm.nil _)
theorem log10_ct (n : Nat) (hn : n ≤ 18) : Ct Tryd.prog 105 [nv n] [] (fun v q => (∃ r, r ≤ 5 ∧ v = nv r) ∧ q = []) := by
 refine Ct_of Tryd.func105 rfl Tryd.ntmps105 rfl ?_
 intro E F
 simp only [numL, List.nil_append, List.cons_append]
 refine CW_sr ?_
 refine RW_a ?_
 refine RW_lv [0] ?_
 refine CW_sr ?_
 refine RW_m ?_
 refine RW_l (Yl_mul (c := ((n * 78913 : Nat) : Int)) rfl rfl (wi64 om_ om_)) ?_
 refine RW_l (Yl_shr (c := ((n * 78913 / 262144 : Nat) : Int)) rfl rfl om_ (fdivN (n * 78913) 18 .i64 18 rfl)) ?_
 refine RW_a ?_
 refine RW_lv [2] ?_
 refine CW_ret ?_
 exact QW_ret1 rfl rfl [] ⟨⟨_, by omega, rfl⟩, rfl⟩ (Prm.nil _)
theorem len64_ct (x : Nat) (hx : x ≤ 262143) : Ct Tryd.prog 106 [.int .u64 (x : Int)] [] (fun v q => (∃ r, r ≤ 18 ∧ v = nv r) ∧ q = []) := by
 refine Ct_of Tryd.func106 rfl Tryd.ntmps106 rfl ?_
 intro E F
 simp only [numL, List.nil_append, List.cons_append]
 refine CW_sr ?_
 refine RW_a ?_
 refine RW_lv [0,2] ?_
 refine CW_seq ?_
 refine CW_sr ?_
 refine RW_m ?_
 refine RW_l (Yl_geq rfl rfl) ?_
 refine RW_lv [0,2,4] ?_
 refine CW_cd rfl (fun hc1 => ?_) (fun hc1 => ?_)
 ·exfalso; omega
 refine (CW_skip (QW_lv [0,2] ?_))
 refine CW_cut (σ := Nat × Nat) (fun q => [(0, .int .u64 (q.1 : Int)), (2, nv q.2)]) (fun _ => F) (fun q => (q.1 ≤ 65535 ∧ q.2 = 0) ∨ (q.1 ≤ 3 ∧ q.2 = 16)) ?_ ?_
 ·skip
  refine CW_sr ?_
  refine RW_m ?_
  refine RW_l (Yl_geq rfl rfl) ?_
  refine RW_lv [0,2,8] ?_
  refine CW_cd rfl (fun hc2 => ?_) (fun hc2 => ?_)
  ·refine CW_sr ?_
   refine RW_m ?_
   refine RW_l (Yl_shr (c := ((x / 65536 : Nat) : Int)) rfl rfl om_ (fdivN (x) 16 .u64 16 rfl)) ?_
   refine RW_a ?_
   refine RW_lv [0,2] ?_
   refine CW_region ?_
   refine RW_m ?_
   refine RW_l (Yl_add (c := ((16 : Nat) : Int)) rfl rfl (wi64 om_ om_)) ?_
   refine RW_a ?_
   refine RW_nil ?_
   first
    | exact QW_cut (x / 65536, 16) (.inr ⟨by show x / 65536 ≤ 3; omega, rfl⟩) (by repeat (first | exact Prm.nil _ | exact Rem.here _ _ | apply Rem.there | apply Prm.cons)) (.cons rfl (.cons rfl .nil))
    | exact QW_cut (x, 0) (.inl ⟨by show x ≤ 65535; omega, rfl⟩) (by repeat (first | exact Prm.nil _ | exact Rem.here _ _ | apply Rem.there | apply Prm.cons)) (.cons rfl (.cons rfl .nil))
  refine CW_skip ?_
  first
   | exact QW_cut (x / 65536, 16) (.inr ⟨by show x / 65536 ≤ 3; omega, rfl⟩) (by repeat (first | exact Prm.nil _ | exact Rem.here _ _ | apply Rem.there | apply Prm.cons)) (.cons rfl (.cons rfl .nil))
   | exact QW_cut (x, 0) (.inl ⟨by show x ≤ 65535; omega, rfl⟩) (by repeat (first | exact Prm.nil _ | exact Rem.here _ _ | apply Rem.there | apply Prm.cons)) (.cons rfl (.cons rfl .nil))
 rintro ⟨z, m⟩ hz
 simp only at hz ⊢
 refine CW_cut (σ := Nat × Nat) (fun q => [(0, .int .u64 (q.1 : Int)), (2, nv q.2)]) (fun _ => F) (fun q => q.1 ≤ 255 ∧ (q.2 ≤ 8 ∨ (q.1 ≤ 3 ∧ q.2 = 16))) ?_ ?_
 ·skip
  refine CW_sr ?_
  refine RW_m ?_
  refine RW_l (Yl_geq rfl rfl) ?_
  refine RW_lv [0,2,14] ?_
  refine CW_cd rfl (fun hc3 => ?_) (fun hc3 => ?_)
  ·refine CW_sr ?_
   refine RW_m ?_
   refine RW_l (Yl_shr (c := ((z / 256 : Nat) : Int)) rfl rfl om_ (fdivN (z) 8 .u64 8 rfl)) ?_
   refine RW_a ?_
   refine RW_lv [0,2] ?_
   refine CW_region ?_
   refine RW_m ?_
   refine RW_l (Yl_add (c := ((m + 8 : Nat) : Int)) rfl rfl (wi64 om_ om_)) ?_
   refine RW_a ?_
   refine RW_nil ?_
   first
    | exact QW_cut (z / 256, m + 8) (show z / 256 ≤ 255 ∧ (m + 8 ≤ 8 ∨ (z / 256 ≤ 3 ∧ m + 8 = 16)) by omega) (by repeat (first | exact Prm.nil _ | exact Rem.here _ _ | apply Rem.there | apply Prm.cons)) (.cons rfl (.cons rfl .nil))
    | exact QW_cut (z, m) (show z ≤ 255 ∧ (m ≤ 8 ∨ (z ≤ 3 ∧ m = 16)) by omega) (by repeat (first | exact Prm.nil _ | exact Rem.here _ _ | apply Rem.there | apply Prm.cons)) (.cons rfl (.cons rfl .nil))
  refine CW_skip ?_
  first
   | exact QW_cut (z / 256, m + 8) (show z / 256 ≤ 255 ∧ (m + 8 ≤ 8 ∨ (z / 256 ≤ 3 ∧ m + 8 = 16)) by omega) (by repeat (first | exact Prm.nil _ | exact Rem.here _ _ | apply Rem.there | apply Prm.cons)) (.cons rfl (.cons rfl .nil))
   | exact QW_cut (z, m) (show z ≤ 255 ∧ (m ≤ 8 ∨ (z ≤ 3 ∧ m = 16)) by omega) (by repeat (first | exact Prm.nil _ | exact Rem.here _ _ | apply Rem.there | apply Prm.cons)) (.cons rfl (.cons rfl .nil))
 rintro ⟨y, m2⟩ hy
 simp only at hy ⊢
 refine CW_seq ?_
 have hl8 := l8L_le (i := y) om_
 refine CW_region ?_
 refine RW_m ?_
 refine RW_m ?_
 refine RW_l (Yl_conv (c := (y : Int)) rfl in_39 in_5 (wu8 om_ om_)) ?_
 refine RW_l (Yl_lit (l := l8L) (i := y) rfl rfl kr_ st_9 (by rw [l8L_len]; omega)) ?_
 refine RW_l (Yl_conv (c := (((l8L.getD y 0).toNat : Nat) : Int)) rfl in_5 in_3 (wi64 om_ om_)) ?_
 refine RW_l (Yl_add (c := ((m2 + (l8L.getD y 0).toNat : Nat) : Int)) rfl rfl (wi64 om_ om_)) ?_
 refine RW_a ?_
 refine RW_lv [2] ?_
 refine CW_ret ?_
 exact QW_ret1 rfl rfl [] ⟨⟨_, by omega, rfl⟩, rfl⟩ (Prm.nil _)
theorem numDigits_ct (x : Nat) (hx : x ≤ 262143) (lp : List Value) (Tp : TypeId) (fp : Nat × Nat) (hp : ∀ i, i < 20 → ∃ z : Int, lp[i]? = some (.int .u64 z)) :
  Ct Tryd.prog 102 [.int .u64 (x : Int)] [(5, Obj.cells lp.toArray Tp fp)] (fun v q => (∃ r, r ≤ 6 ∧ v = nv r) ∧ q = [(5, Obj.cells lp.toArray Tp fp)]) := by
 refine Ct_of Tryd.func102 rfl Tryd.ntmps102 rfl ?_
 intro E F
 simp only [numL, List.nil_append, List.cons_append]
 refine CW_sr ?_
 refine RW_a ?_
 refine RW_lv [0] ?_
 refine CW_sr ?_
 refine RW_m ?_
 refine RW_fx rfl rfl rfl (Fx_callQ ok_106 (vs := [.int .u64 (x : Int)]) (R := fun v => ∃ r, r ≤ 18 ∧ v = nv r) rfl (Pick.nil _) (len64_ct x hx)) ?_
 rintro _ _ ⟨⟨r, hr, rfl⟩, rfl⟩
 refine RW_fx rfl rfl rfl (Fx_callQ ok_105 (vs := [nv r]) (R := fun v => ∃ r, r ≤ 5 ∧ v = nv r) rfl (Pick.nil _) (log10_ct r hr)) ?_
 rintro _ _ ⟨⟨d, hd, rfl⟩, rfl⟩
 refine RW_a ?_
 refine RW_lv [0,3] ?_
 refine CW_seq ?_
 obtain ⟨z, hz⟩ := hp d om_
 refine CW_region ?_
 refine RW_m ?_
 refine RW_m ?_
 refine RW_m ?_
 refine RW_l (Yl_indexAN (b := 5) (off := 0) (i := d) (o' := d) rfl rfl ar_210 om_ om_) ?_
 refine RW_h (Yh_lh (v := .int .u64 z) sc_39 hz) ?_
 refine RW_l (Yl_geq rfl rfl) ?_
 refine RW_fx rfl rfl rfl (Fx_callQ ok_107 (vs := [.bool (decide ((x : Int) ≥ z))]) (R := fun v => ∃ e, e ≤ 1 ∧ v = nv e) rfl (Pick.nil _) (bool2_ct _)) ?_
 rintro _ _ ⟨⟨e, he, rfl⟩, rfl⟩
 refine RW_l (Yl_add (c := ((d + e : Nat) : Int)) rfl rfl (wi64 om_ om_)) ?_
 refine RW_a ?_
 refine RW_lv [2] ?_
 refine CW_ret ?_
 exact QW_ret1 rfl rfl [_] ⟨⟨_, by omega, rfl⟩, rfl⟩ (Prm.nil _)
theorem formatBase10_ct (x n b o c : Nat) (hx : x ≤ 262143) (hn : n ≤ 7) (l : List UInt8) (T : TypeId) (hl : o + n ≤ l.length) :
  Ct Tryd.prog 103 [.slice (some ⟨b, o, none⟩) n c, .int .u64 (x : Int)] [(b, blk (bys l) T)] (fun v q => v = .tuple #[] ∧ ∃ l', l'.length = l.length ∧ q = [(b, blk (bys l') T)]) := by
 refine Ct_of Tryd.func103 rfl Tryd.ntmps103 rfl ?_
 intro E F
 simp only [numL, List.nil_append, List.cons_append]
 refine CW_sr ?_
 refine RW_m ?_
 refine RW_l (Yl_len rfl sl_23) ?_
 refine RW_a ?_
 refine RW_lv [0,1,4] ?_
 refine CW_seq ?_
 refine CW_block ?_
 refine CW_lp (σ := Unit) (fun _ => [(0, .slice (some ⟨b, o, none⟩) n c), (1, .int .u64 (x : Int)), (4, nv n)]) (fun _ => (b, blk (bys l) T) :: F) (fun _ => True) (fun _ => 0) () trivial ?_
 rintro ⟨⟩ -
 refine CW_seq ?_
 refine CW_sr ?_
 refine RW_m ?_
 refine RW_l (Yl_geqB false rfl rfl (decide_eq_false om_)) ?_
 refine RW_lv [0,1,4,20] ?_
 refine CW_false rfl ?_
 refine CW_exit ?_
 refine QW_exit_then ?_
 refine QW_exit_then ?_
 refine QW_exit_block ?_
 refine (QW_lv [0,1,4] ?_)
 refine CW_sr ?_
 refine RW_m ?_
 refine RW_l (Yl_conv (c := (x : Int)) rfl in_39 in_67 (wu32 om_ om_)) ?_
 refine RW_a ?_
 refine RW_lv [0,4,12] ?_
 refine CW_cut (σ := Nat × Nat × List UInt8) (fun q => [(0, .slice (some ⟨b, o, none⟩) n c), (4, nv q.1), (12, .int .u32 (q.2.1 : Int))]) (fun q => (b, blk (bys q.2.2) T) :: F) (fun q => q.1 ≤ n ∧ q.2.1 ≤ 4294967295 ∧ q.2.2.length = l.length) ?_ ?_
 ·skip
  refine CW_sr ?_
  refine RW_m ?_
  refine RW_l (Yl_geq rfl rfl) ?_
  refine RW_lv [0,4,12,99] ?_
  refine CW_cd rfl (fun hc1 => ?_) (fun hc1 => ?_)
  ·refine CW_sr ?_
   refine RW_m ?_
   refine RW_l (Yl_rem (c := ((x % 10000 : Nat) : Int)) rfl rfl om_ (remN x 10000)) ?_
   refine RW_a ?_
   refine RW_lv [0,4,12,13] ?_
   refine CW_sr ?_
   refine RW_m ?_
   refine RW_l (Yl_quo (c := ((x / 10000 : Nat) : Int)) rfl rfl om_ (quo32 (a := x) (b := 10000) om_)) ?_
   refine RW_a ?_
   refine RW_lv [0,4,12,13] ?_
   refine CW_sr ?_
   refine RW_m ?_
   refine RW_l (Yl_quo (c := ((x % 10000 / 100 : Nat) : Int)) rfl rfl om_ (quo32 (a := x % 10000) (b := 100) om_)) ?_
   refine RW_l (Yl_mul (c := ((x % 10000 / 100 * 2 : Nat) : Int)) rfl rfl (by rw [wu32 om_ om_]; omega)) ?_
   refine RW_m ?_
   refine RW_l (Yl_rem (c := ((x % 10000 % 100 : Nat) : Int)) rfl rfl om_ (remN (x % 10000) 100)) ?_
   refine RW_l (Yl_mul (c := ((x % 10000 % 100 * 2 : Nat) : Int)) rfl rfl (by rw [wu32 om_ om_]; omega)) ?_
   refine RW_a ?_
   refine RW_a ?_
   refine RW_lv [0,4,12,14,15] ?_
   refine CW_seq ?_
   refine CW_draw [12, 14] _ mixed (Sub.refl _) ?_
   refine RD_m 0 ?_
   refine RD_m 1 ?_
   refine RD_l 2 rfl (Yl_sub (c := ((n - 1 : Nat) : Int)) rfl rfl (by rw [wi64 om_ om_]; omega)) ?_
   refine RD_m 3 ?_
   refine RD_m 4 ?_
   refine RD_l 5 rfl (Yl_sub (c := ((n - 2 : Nat) : Int)) rfl rfl (by rw [wi64 om_ om_]; omega)) ?_
   refine RD_m 6 ?_
   refine RD_l 7 rfl (Yl_add (c := ((x % 10000 % 100 * 2 + 1 : Nat) : Int)) rfl rfl (by rw [wu32 om_ om_]; omega)) ?_
   refine RD_l 8 rfl (Yl_lit (l := smL) (i := x % 10000 % 100 * 2 + 1) rfl rfl kr_ st_9 (by rw [smL_len]; omega)) ?_
   refine RD_m 9 ?_
   refine RD_l 10 rfl (Yl_lit (l := smL) (i := x % 10000 % 100 * 2) rfl rfl kr_ st_9 (by rw [smL_len]; omega)) ?_
   refine RD_l 11 rfl (Yl_indexN (b := b) (off := o) (i := n - 1) (o' := o + (n - 1)) rfl rfl sl_23 om_ om_) ?_
   refine RD_o 12 ?_
   refine RO_fx0 rfl rfl rfl (Fx_store (v := bv (smL.getD (x % 10000 % 100 * 2 + 1) 0)) rfl rfl sz_5 rfl rep_ (by simp; omega)) ?_
   rintro _ _ rfl
   refine ⟨Or.inl kr_, ?_⟩
   refine RD_l 13 rfl (Yl_indexN (b := b) (off := o) (i := n - 2) (o' := o + (n - 2)) rfl rfl sl_23 om_ om_) ?_
   refine RD_o 14 ?_
   refine RO_fx0 rfl rfl rfl (Fx_store (v := bv (smL.getD (x % 10000 % 100 * 2) 0)) rfl rfl sz_5 rfl rep_ (by simp; omega)) ?_
   rintro _ _ rfl
   refine ⟨Or.inl kr_, ?_⟩
   refine (RD_done kr_ (QW_lv [0,4,12,14] ?_))
   refine CW_seq ?_
   refine CW_draw [12, 14] _ mixed (Sub.refl _) ?_
   refine RD_m 0 ?_
   refine RD_m 1 ?_
   refine RD_l 2 rfl (Yl_sub (c := ((n - 3 : Nat) : Int)) rfl rfl (by rw [wi64 om_ om_]; omega)) ?_
   refine RD_m 3 ?_
   refine RD_m 4 ?_
   refine RD_l 5 rfl (Yl_sub (c := ((n - 4 : Nat) : Int)) rfl rfl (by rw [wi64 om_ om_]; omega)) ?_
   refine RD_m 6 ?_
   refine RD_l 7 rfl (Yl_add (c := ((x % 10000 / 100 * 2 + 1 : Nat) : Int)) rfl rfl (by rw [wu32 om_ om_]; omega)) ?_
   refine RD_l 8 rfl (Yl_lit (l := smL) (i := x % 10000 / 100 * 2 + 1) rfl rfl kr_ st_9 (by rw [smL_len]; omega)) ?_
   refine RD_m 9 ?_
   refine RD_l 10 rfl (Yl_lit (l := smL) (i := x % 10000 / 100 * 2) rfl rfl kr_ st_9 (by rw [smL_len]; omega)) ?_
   refine RD_l 11 rfl (Yl_indexN (b := b) (off := o) (i := n - 3) (o' := o + (n - 3)) rfl rfl sl_23 om_ om_) ?_
   refine RD_o 12 ?_
   refine RO_fx0 rfl rfl rfl (Fx_store (v := bv (smL.getD (x % 10000 / 100 * 2 + 1) 0)) rfl rfl sz_5 rfl rep_ (by simp; omega)) ?_
   rintro _ _ rfl
   refine ⟨Or.inl kr_, ?_⟩
   refine RD_l 13 rfl (Yl_indexN (b := b) (off := o) (i := n - 4) (o' := o + (n - 4)) rfl rfl sl_23 om_ om_) ?_
   refine RD_o 14 ?_
   refine RO_fx0 rfl rfl rfl (Fx_store (v := bv (smL.getD (x % 10000 / 100 * 2) 0)) rfl rfl sz_5 rfl rep_ (by simp; omega)) ?_
   rintro _ _ rfl
   refine ⟨Or.inl kr_, ?_⟩
   refine (RD_done kr_ (QW_lv [0,4,12] ?_))
   refine CW_region ?_
   refine RW_m ?_
   refine RW_l (Yl_sub (c := ((n - 4 : Nat) : Int)) rfl rfl (by rw [wi64 om_ om_]; omega)) ?_
   refine RW_a ?_
   refine RW_nil ?_
   first
    | (rw [bys_set, bys_set, bys_set, bys_set]; exact QW_cut (n - 4, x / 10000, ((((l).set (o + (n - 1)) (smL.getD (x % 10000 % 100 * 2 + 1) 0)).set (o + (n - 2)) (smL.getD (x % 10000 % 100 * 2) 0)).set (o + (n - 3)) (smL.getD (x % 10000 / 100 * 2 + 1) 0)).set (o + (n - 4)) (smL.getD (x % 10000 / 100 * 2) 0)) ⟨by show n - 4 ≤ n; omega, by show x / 10000 ≤ _; omega, by simp⟩ (by repeat (first | exact Prm.nil _ | exact Rem.here _ _ | apply Rem.there | apply Prm.cons)) (.cons rfl (.cons rfl (.cons rfl .nil))))
    | exact QW_cut (n, x, l) ⟨Nat.le_refl _, by show x ≤ _; omega, rfl⟩ (by repeat (first | exact Prm.nil _ | exact Rem.here _ _ | apply Rem.there | apply Prm.cons)) (.cons rfl (.cons rfl (.cons rfl .nil)))
  refine CW_skip ?_
  first
   | (rw [bys_set, bys_set, bys_set, bys_set]; exact QW_cut (n - 4, x / 10000, ((((l).set (o + (n - 1)) (smL.getD (x % 10000 % 100 * 2 + 1) 0)).set (o + (n - 2)) (smL.getD (x % 10000 % 100 * 2) 0)).set (o + (n - 3)) (smL.getD (x % 10000 / 100 * 2 + 1) 0)).set (o + (n - 4)) (smL.getD (x % 10000 / 100 * 2) 0)) ⟨by show n - 4 ≤ n; omega, by show x / 10000 ≤ _; omega, by simp⟩ (by repeat (first | exact Prm.nil _ | exact Rem.here _ _ | apply Rem.there | apply Prm.cons)) (.cons rfl (.cons rfl (.cons rfl .nil))))
   | exact QW_cut (n, x, l) ⟨Nat.le_refl _, by show x ≤ _; omega, rfl⟩ (by repeat (first | exact Prm.nil _ | exact Rem.here _ _ | apply Rem.there | apply Prm.cons)) (.cons rfl (.cons rfl (.cons rfl .nil)))
 rintro ⟨i, u, l1⟩ ⟨hi, hu, hl1⟩
 simp only at hi hu hl1 ⊢
 refine CW_cut (σ := Nat × Nat × List UInt8) (fun q => [(0, .slice (some ⟨b, o, none⟩) n c), (4, nv q.1), (12, .int .u32 (q.2.1 : Int))]) (fun q => (b, blk (bys q.2.2) T) :: F) (fun q => q.1 ≤ n ∧ q.2.1 ≤ 4294967295 ∧ q.2.2.length = l.length) ?_ ?_
 ·skip
  refine CW_sr ?_
  refine RW_m ?_
  refine RW_l (Yl_geq rfl rfl) ?_
  refine RW_lv [0,4,12,139] ?_
  refine CW_cd rfl (fun hc2 => ?_) (fun hc2 => ?_)
  ·refine CW_sr ?_
   refine RW_m ?_
   refine RW_l (Yl_rem (c := ((u % 100 : Nat) : Int)) rfl rfl om_ (remN u 100)) ?_
   refine RW_l (Yl_mul (c := ((u % 100 * 2 : Nat) : Int)) rfl rfl (by rw [wu32 om_ om_]; omega)) ?_
   refine RW_a ?_
   refine RW_lv [0,4,12,16] ?_
   refine CW_sr ?_
   refine RW_m ?_
   refine RW_l (Yl_quo (c := ((u / 100 : Nat) : Int)) rfl rfl om_ (quo32 (a := u) (b := 100) om_)) ?_
   refine RW_a ?_
   refine RW_lv [0,4,12,16] ?_
   refine CW_seq ?_
   refine CW_draw [12, 14] _ mixed (Sub.refl _) ?_
   refine RD_m 0 ?_
   refine RD_m 1 ?_
   refine RD_l 2 rfl (Yl_sub (c := ((i - 1 : Nat) : Int)) rfl rfl (by rw [wi64 om_ om_]; omega)) ?_
   refine RD_m 3 ?_
   refine RD_m 4 ?_
   refine RD_l 5 rfl (Yl_sub (c := ((i - 2 : Nat) : Int)) rfl rfl (by rw [wi64 om_ om_]; omega)) ?_
   refine RD_m 6 ?_
   refine RD_l 7 rfl (Yl_add (c := ((u % 100 * 2 + 1 : Nat) : Int)) rfl rfl (by rw [wu32 om_ om_]; omega)) ?_
   refine RD_l 8 rfl (Yl_lit (l := smL) (i := u % 100 * 2 + 1) rfl rfl kr_ st_9 (by rw [smL_len]; omega)) ?_
   refine RD_m 9 ?_
   refine RD_l 10 rfl (Yl_lit (l := smL) (i := u % 100 * 2) rfl rfl kr_ st_9 (by rw [smL_len]; omega)) ?_
   refine RD_l 11 rfl (Yl_indexN (b := b) (off := o) (i := i - 1) (o' := o + (i - 1)) rfl rfl sl_23 om_ om_) ?_
   refine RD_o 12 ?_
   refine RO_fx0 rfl rfl rfl (Fx_store (v := bv (smL.getD (u % 100 * 2 + 1) 0)) rfl rfl sz_5 rfl rep_ (by simp; omega)) ?_
   rintro _ _ rfl
   refine ⟨Or.inl kr_, ?_⟩
   refine RD_l 13 rfl (Yl_indexN (b := b) (off := o) (i := i - 2) (o' := o + (i - 2)) rfl rfl sl_23 om_ om_) ?_
   refine RD_o 14 ?_
   refine RO_fx0 rfl rfl rfl (Fx_store (v := bv (smL.getD (u % 100 * 2) 0)) rfl rfl sz_5 rfl rep_ (by simp; omega)) ?_
   rintro _ _ rfl
   refine ⟨Or.inl kr_, ?_⟩
   refine (RD_done kr_ (QW_lv [0,4,12] ?_))
   refine CW_region ?_
   refine RW_m ?_
   refine RW_l (Yl_sub (c := ((i - 2 : Nat) : Int)) rfl rfl (by rw [wi64 om_ om_]; omega)) ?_
   refine RW_a ?_
   refine RW_nil ?_
   first
    | (rw [bys_set, bys_set]; exact QW_cut (i - 2, u / 100, ((l1).set (o + (i - 1)) (smL.getD (u % 100 * 2 + 1) 0)).set (o + (i - 2)) (smL.getD (u % 100 * 2) 0)) ⟨by show i - 2 ≤ n; omega, by show u / 100 ≤ _; omega, by simpa using hl1⟩ (by repeat (first | exact Prm.nil _ | exact Rem.here _ _ | apply Rem.there | apply Prm.cons)) (.cons rfl (.cons rfl (.cons rfl .nil))))
    | exact QW_cut (i, u, l1) ⟨hi, hu, hl1⟩ (by repeat (first | exact Prm.nil _ | exact Rem.here _ _ | apply Rem.there | apply Prm.cons)) (.cons rfl (.cons rfl (.cons rfl .nil)))
  refine CW_skip ?_
  first
   | (rw [bys_set, bys_set]; exact QW_cut (i - 2, u / 100, ((l1).set (o + (i - 1)) (smL.getD (u % 100 * 2 + 1) 0)).set (o + (i - 2)) (smL.getD (u % 100 * 2) 0)) ⟨by show i - 2 ≤ n; omega, by show u / 100 ≤ _; omega, by simpa using hl1⟩ (by repeat (first | exact Prm.nil _ | exact Rem.here _ _ | apply Rem.there | apply Prm.cons)) (.cons rfl (.cons rfl (.cons rfl .nil))))
   | exact QW_cut (i, u, l1) ⟨hi, hu, hl1⟩ (by repeat (first | exact Prm.nil _ | exact Rem.here _ _ | apply Rem.there | apply Prm.cons)) (.cons rfl (.cons rfl (.cons rfl .nil)))
 rintro ⟨j, w, l2⟩ ⟨hj, hw, hl2⟩
 simp only at hj hw hl2 ⊢
 refine CW_sr ?_
 refine RW_m ?_
 refine RW_l (Yl_gtr rfl rfl) ?_
 refine RW_lv [0,12,161] ?_
 refine CW_cd rfl (fun hc3 => ?_) (fun hc3 => ?_)
 ·obtain ⟨q, hq, hq2⟩ := wrap32 ((48 : Int) + (w : Int))
  obtain ⟨y, hy⟩ := wrap_byte (q : Int)
  refine CW_region ?_
  refine RW_m ?_
  refine RW_m ?_
  refine RW_l (Yl_add (c := (q : Int)) rfl rfl hq2) ?_
  refine RW_l (Yl_conv (c := (y.toNat : Int)) rfl in_67 in_5 hy) ?_
  refine RW_l (Yl_indexN (b := b) (off := o) (i := 0) (o' := o) rfl rfl sl_23 om_ om_) ?_
  refine RW_fx0 rfl rfl (Fx_store (v := bv (y)) rfl rfl sz_5 rfl rep_ (by simp; omega)) ?_
  rintro _ _ rfl
  refine RW_nil ?_
  first
   | (rw [bys_set]; exact QW_end0 rfl [_] ⟨rfl, l2.set o y, by simpa using hl2, rfl⟩ (Prm.nil _))
   | exact QW_end0 rfl [_] ⟨rfl, l2, hl2, rfl⟩ (Prm.nil _)
 refine CW_skip ?_
 first
  | (rw [bys_set]; exact QW_end0 rfl [_] ⟨rfl, l2.set o y, by simpa using hl2, rfl⟩ (Prm.nil _))
  | exact QW_end0 rfl [_] ⟨rfl, l2, hl2, rfl⟩ (Prm.nil _)
theorem formatInt_ct (n : Nat) (h100 : 100 ≤ n) (hn : n ≤ 262143) (lp : List Value) (Tp : TypeId) (fp : Nat × Nat) (hp : ∀ i, i < 20 → ∃ z : Int, lp[i]? = some (.int .u64 z)) :
  Ct Tryd.prog 100 [nv n, nv 10] [(5, Obj.cells lp.toArray Tp fp)] (fun v q => (∃ s : List UInt8, s.length ≤ 6 ∧ v = .string (bar s)) ∧ q = [(5, Obj.cells lp.toArray Tp fp)]) := by
 refine Ct_of Tryd.func100 rfl Tryd.ntmps100 rfl ?_
 intro E F
 simp only [numL, List.nil_append, List.cons_append]
 refine CW_sr ?_
 refine RW_a ?_
 refine RW_lv [0,1] ?_
 refine CW_seq ?_
 refine CW_sr ?_
 refine RW_m ?_
 refine RW_l (Yl_eqlB true rfl rfl (decide_eq_true om_)) ?_
 refine RW_lv [0,1,11] ?_
 refine CW_true rfl ?_
 refine CW_seq ?_
 refine CW_sr ?_
 refine RW_m ?_
 refine RW_l (Yl_leqB true rfl rfl (decide_eq_true om_)) ?_
 refine RW_m ?_
 refine RW_gy rfl rfl rfl (Yl.h (Yl_move rfl)) ?_
 refine RW_gy rfl rfl rfl (Yl.h (Yl_lssB false rfl rfl (decide_eq_false om_))) ?_
 refine RW_l (Yl_pick_t rfl rfl) ?_
 refine RW_lv [0,17] ?_
 refine CW_false rfl ?_
 refine (CW_skip (QW_lv [0] ?_))
 refine CW_sr ?_
 refine RW_fx rfl rfl rfl (Fx_alloc (zs := zs_204) ze_204 rfl) ?_
 rintro _ _ ⟨b5, rfl, rfl⟩
 rw [show zs_204 = bys (List.replicate 24 0) from rfl]
 refine RW_lv [0,5] ?_
 refine CW_sr ?_
 refine RW_m ?_
 refine RW_l (Yl_conv (c := (n : Int)) rfl in_2 in_39 (wu64 om_ om_)) ?_
 refine RW_a ?_
 refine RW_lv [0,5,6] ?_
 refine CW_seq ?_
 refine CW_sr ?_
 refine RW_m ?_
 refine RW_l (Yl_lssB false rfl rfl (decide_eq_false om_)) ?_
 refine RW_lv [0,5,6,23] ?_
 refine CW_false rfl ?_
 refine (CW_skip (QW_lv [0,5,6] ?_))
 refine CW_sr ?_
 refine RW_m ?_
 refine RW_fx rfl rfl rfl (Fx_callQ ok_102 (vs := [.int .u64 (n : Int)]) (R := fun v => ∃ r, r ≤ 6 ∧ v = nv r) rfl (Pick.cons rem_ (Pick.nil _)) (numDigits_ct n hn lp Tp fp hp)) ?_
 rintro _ _ ⟨⟨d, hd, rfl⟩, rfl⟩
 refine RW_a ?_
 refine RW_lv [0,5,6,7] ?_
 refine CW_sr ?_
 refine RW_m ?_
 refine RW_l (Yl_add (c := ((1 + d : Nat) : Int)) rfl rfl (wi64 om_ om_)) ?_
 refine RW_l (Yl_cutALH (b := b5) (off := 0) (l := 1) (h := 1 + d) (o' := 1) (m' := d) rfl rfl rfl ar_204 om_ om_ om_ rfl om_) ?_
 refine RW_m ?_
 refine RW_fx rfl rfl rfl (Fx_call ok_103 (vs := [.slice (some ⟨b5, 1, none⟩) d 23, .int .u64 (n : Int)]) rfl (Pick.cons rem_ (Pick.nil _)) (formatBase10_ct n d b5 1 23 hn om_ (List.replicate 24 0) 204 (by simp; omega))) ?_
 rintro _ _ ⟨_, ⟨rfl, l1, hl1, rfl⟩, rfl⟩
 rw [List.length_replicate] at hl1
 simp only [List.cons_append, List.nil_append]
 refine RW_lv [0,5,7] ?_
 refine CW_seq ?_
 refine CW_sr ?_
 refine RW_m ?_
 refine RW_l (Yl_lssB false rfl rfl (decide_eq_false om_)) ?_
 refine RW_lv [5,7,34] ?_
 refine CW_false rfl ?_
 refine (CW_skip (QW_lv [5,7] ?_))
 refine CW_sr ?_
 refine RW_m ?_
 refine RW_l (Yl_add (c := ((1 + d : Nat) : Int)) rfl rfl (wi64 om_ om_)) ?_
 refine RW_l (Yl_cutALH (b := b5) (off := 0) (l := 1) (h := 1 + d) (o' := 1) (m' := d) rfl rfl rfl ar_204 om_ om_ om_ rfl om_) ?_
 refine RW_h (Yh_by rfl (by_mid (b := b5) (o := 1) (n := d) (l := l1) (T := 204) (fz := (0, 0)) mem_ om_)) ?_
 refine RW_a ?_
 refine RW_lv [4] ?_
 refine CW_ret ?_
 refine QW_ret_then ?_
 refine QW_dropB (e := (b5, _)) rem_ ?_
 exact QW_ret1 rfl rfl [_] ⟨⟨(l1.drop 1).take d, by simp; omega, rfl⟩, rfl⟩ (Prm.nil _)
theorem formatIntS_ct (n : Nat) (h100 : 100 ≤ n) (hn : n ≤ 262143) (lp : List Value) (Tp : TypeId) (fp : Nat × Nat) (hp : ∀ i, i < 20 → ∃ z : Int, lp[i]? = some (.int .u64 z)) :
  Ct Tryd.prog 99 [nv n, nv 10] [(5, Obj.cells lp.toArray Tp fp)] (fun v q => (∃ s : List UInt8, s.length ≤ 6 ∧ v = .string (bar s)) ∧ q = [(5, Obj.cells lp.toArray Tp fp)]) := by
 refine Ct_of Tryd.func99 rfl Tryd.ntmps99 rfl ?_
 intro E F
 simp only [numL, List.nil_append, List.cons_append]
 refine CW_sr ?_
 refine RW_a ?_
 refine RW_lv [0,1] ?_
 refine CW_sr ?_
 refine RW_m ?_
 refine RW_m ?_
 refine RW_fx rfl rfl rfl (Fx_callQ ok_100 (vs := [nv n, nv 10]) (R := fun v => (∃ s : List UInt8, s.length ≤ 6 ∧ v = .string (bar s))) rfl (Pick.cons rem_ (Pick.nil _)) (formatInt_ct n h100 hn lp Tp fp hp)) ?_
 rintro _ _ ⟨⟨s, hs, rfl⟩, rfl⟩
 refine RW_a ?_
 refine RW_lv [4] ?_
 refine CW_ret ?_
 exact QW_ret1 rfl rfl [_] ⟨⟨s, hs, rfl⟩, rfl⟩ (Prm.nil _)
theorem errError_ct (ty off : Nat) (m : List UInt8) (hm : m.length ≤ 1000) (h100 : 100 ≤ off) (hn : off ≤ 262143) (lp : List Value) (Tp : TypeId) (fp : Nat × Nat) (hp : ∀ i, i < 20 → ∃ z : Int, lp[i]? = some (.int .u64 z)) :
  Ct Tryd.prog 98 [.agg #[nv ty, .string (bar m), nv off]] [(5, Obj.cells lp.toArray Tp fp)] (fun v q => (∃ s : List UInt8, s.length ≤ m.length + 15 ∧ v = .string (bar s)) ∧ q = [(5, Obj.cells lp.toArray Tp fp)]) := by
 refine Ct_of Tryd.func98 rfl Tryd.ntmps98 rfl ?_
 intro E F
 simp only [numL, List.nil_append, List.cons_append]
 refine CW_sr ?_
 refine RW_fx rfl rfl rfl (Fx_box (zs := [nv ty, .string (bar m), nv off]) rfl rfl) ?_
 rintro _ _ ⟨b1, rfl, rfl⟩
 refine RW_a ?_
 refine RW_lv [1] ?_
 refine CW_seq ?_
 refine CW_draw [6] _ mixed (Sub.refl _) ?_
 refine RD_f 0 fo_123_1 ?_
 refine RD_f 4 fo_123_2 ?_
 refine RD_h (i := 5) #[true, true, true, true, true, false, false, false, false] rfl rfl rfl rfl kr_ (fun _ _ _ h => h) (Yh_ld (v := nv off) sc_2) ?_
 refine RD_two (i := 1) (j := 6) kr_ ?_ ?_
 ·skip
  refine RO_fx rfl rfl rfl rfl (Yh.fx (Yh_ld (v := .string (bar m)) sc_9)) ?_
  rintro _ _ ⟨rfl, rfl⟩
  refine ⟨Or.inr (Sub.refl _), ?_⟩
  refine RD_l 2 rfl (Yl_concatB (a := [109, 115, 99, 102, 98, 58, 32]) (b := m) rfl rfl (by simp; omega)) ?_
  refine RD_l 3 rfl (Yl_concatB (a := [109, 115, 99, 102, 98, 58, 32] ++ m) (b := [59, 32]) rfl rfl (by simp; omega)) ?_
  refine RD_o 6 ?_
  refine RO_fx rfl rfl rfl rfl (Fx_callQ ok_99 (vs := [nv off, nv 10]) (R := fun v => (∃ s : List UInt8, s.length ≤ 6 ∧ v = .string (bar s))) rfl (Pick.cons rem_ (Pick.nil _)) (formatIntS_ct off h100 hn lp Tp fp hp)) ?_
  rintro _ _ ⟨⟨s, hs, rfl⟩, rfl⟩
  refine ⟨Or.inl kr_, ?_⟩
  refine RD_l 7 rfl (Yl_concatB (a := ([109, 115, 99, 102, 98, 58, 32] ++ m) ++ [59, 32]) (b := s) rfl rfl (by simp; omega)) ?_
  refine RD_a 8 ?_
  refine (RD_done kr_ (QW_lv [2] ?_))
  refine CW_ret ?_
  refine QW_dropB (e := (b1, _)) rem_ ?_
  exact QW_ret1 rfl rfl [_] ⟨⟨(([109, 115, 99, 102, 98, 58, 32] ++ m) ++ [59, 32]) ++ s, by simp; omega, rfl⟩, rfl⟩ (Prm.nil _)
 skip
 refine RO_fx rfl rfl rfl rfl (Fx_callQ ok_99 (vs := [nv off, nv 10]) (R := fun v => (∃ s : List UInt8, s.length ≤ 6 ∧ v = .string (bar s))) rfl (Pick.cons rem_ (Pick.nil _)) (formatIntS_ct off h100 hn lp Tp fp hp)) ?_
 rintro _ _ ⟨⟨s, hs, rfl⟩, rfl⟩
 refine ⟨Or.inl kr_, ?_⟩
 refine RD_o 1 ?_
 refine RO_fx rfl rfl rfl rfl (Yh.fx (Yh_ld (v := .string (bar m)) sc_9)) ?_
 rintro _ _ ⟨rfl, rfl⟩
 refine ⟨Or.inl kr_, ?_⟩
 refine RD_l 2 rfl (Yl_concatB (a := [109, 115, 99, 102, 98, 58, 32]) (b := m) rfl rfl (by simp; omega)) ?_
 refine RD_l 3 rfl (Yl_concatB (a := [109, 115, 99, 102, 98, 58, 32] ++ m) (b := [59, 32]) rfl rfl (by simp; omega)) ?_
 refine RD_l 7 rfl (Yl_concatB (a := ([109, 115, 99, 102, 98, 58, 32] ++ m) ++ [59, 32]) (b := s) rfl rfl (by simp; omega)) ?_
 refine RD_a 8 ?_
 refine (RD_done kr_ (QW_lv [2] ?_))
 refine CW_ret ?_
 refine QW_dropB (e := (b1, _)) rem_ ?_
 exact QW_ret1 rfl rfl [_] ⟨⟨(([109, 115, 99, 102, 98, 58, 32] ++ m) ++ [59, 32]) ++ s, by simp; omega, rfl⟩, rfl⟩ (Prm.nil _)
theorem eofError_ct (bE : EofB) (T : TypeId) (fz : Nat × Nat) : Ct Tryd.prog 114 [.pointer (some ⟨bE.b, bE.o, none⟩)] [(bE.b, Obj.cells bE.l.toArray T fz)] (fun v q => v = .string (bar [69, 79, 70]) ∧ q = [(bE.b, Obj.cells bE.l.toArray T fz)]) := by
 refine Ct_of Tryd.func114 rfl Tryd.ntmps114 rfl ?_
 intro E F
 simp only [numL, List.nil_append, List.cons_append]
 refine CW_sr ?_
 refine RW_a ?_
 refine RW_lv [0] ?_
 refine CW_sr ?_
 refine RW_m ?_
 refine RW_n ?_
 refine RW_f fo_201_0 ?_
 refine RW_h (Yh_lh (v := .string (bar [69, 79, 70])) sc_9 bE.h) ?_
 refine RW_a ?_
 refine RW_lv [2] ?_
 refine CW_ret ?_
 exact QW_ret1 rfl rfl [_] ⟨rfl, rfl⟩ (Prm.nil _)

theorem readerShort_ct (br bB bp o m c N cN off : Nat) (B : List UInt8) (rB lp : List Value) (T : TypeId) (bE : EofB) (T0 TE : TypeId) (fz0 fzE : Nat × Nat) (hB : B.length = N) (hcN : N ≤ cN) (hN : N ≤ 1000000000) (hoff : N < off + m) (ho : off ≤ 1000000000) (hm : m ≤ 1000000000) (hlp : o + m ≤ lp.length) :
    Ct Tryd.prog 96 [.pointer (some ⟨br, 0, none⟩), .slice (some ⟨bp, o, none⟩) m c, nv off] [(br, blk [.slice (some ⟨bB, 0, none⟩) N cN, .int .i64 0, .int .i64 (-1)] 198), (bB, blk (bys B ++ rB) 5), (bp, blk lp T), (0, Obj.cells [.iface 181 (.pointer (some ⟨bE.b, bE.o, none⟩))].toArray T0 fz0)]
      (fun v q => v = .tuple #[nv (N - off), .iface 181 (.pointer (some ⟨bE.b, bE.o, none⟩))] ∧ q = [(br, blk [.slice (some ⟨bB, 0, none⟩) N cN, .int .i64 0, .int .i64 (-1)] 198), (bB, blk (bys B ++ rB) 5), (bp, blk (spl o (bys ((B.drop off).take (N - off))) lp) T), (0, Obj.cells [.iface 181 (.pointer (some ⟨bE.b, bE.o, none⟩))].toArray T0 fz0)]) := by
  refine Ct_of Tryd.func96 rfl Tryd.ntmps96 rfl ?_
  intro E F
  simp only [numL, List.nil_append, List.cons_append]
  refine CW_sr ?_
  refine RW_a ?_
  refine RW_a ?_
  refine RW_lv [0,1,2,7] ?_
  refine CW_seq ?_
  refine CW_sr ?_
  refine RW_m ?_
  refine RW_l (Yl_lss rfl rfl) ?_
  refine RW_lv [0,1,2,7,9] ?_
  refine CW_cd rfl (fun hc1 => ?_) (fun hc1 => ?_)
  · exfalso; omega
  refine (CW_skip (QW_lv [0,1,2,7] ?_))
  refine CW_seq ?_
  refine CW_sr ?_
  refine RW_m ?_
  refine RW_m ?_
  refine RW_n ?_
  refine RW_f fo_198_0 ?_
  refine RW_h (Yh_ld (v := .slice (some ⟨bB, 0, none⟩) N cN) sc_23) ?_
  refine RW_l (Yl_len rfl sl_23) ?_
  refine RW_l (Yl_geq rfl rfl) ?_
  refine RW_lv [0,1,2,7,17] ?_
  refine CW_cd rfl (fun hc2 => ?_) (fun hc2 => ?_)
  · refine CW_seq ?_
    refine CW_draw [] _ mixed (Sub.refl _) ?_
    refine RD_a 1 ?_
    refine RD_h (i := 0) #[false, true, false] rfl rfl rfl rfl kr_ (fun _ _ _ h => h) (Yh_ld (v := .iface 181 (.pointer (some ⟨bE.b, bE.o, none⟩))) sc_105) ?_
    refine RD_a 2 ?_
    refine (RD_done kr_ (QW_lv [6,7] ?_))
    refine CW_ret ?_
    refine QW_ret_then ?_
    first
      | (exact QW_ret2 rfl rfl rfl [_, _, _, _] ⟨rfl, rfl⟩ (by repeat (first | exact Prm.nil _ | exact Rem.here _ _ | apply Rem.there | apply Prm.cons)))
      | (have e0 : N - off = 0 := by omega
         rw [e0, List.take_zero]
         exact QW_ret2 rfl rfl rfl [_, _, _, _] ⟨rfl, rfl⟩ (by rw [show spl o (bys []) lp = lp by simp [spl, bys]]; repeat (first | exact Prm.nil _ | exact Rem.here _ _ | apply Rem.there | apply Prm.cons)))
  refine (CW_skip (QW_lv [0,1,2,7] ?_))
  refine CW_seq ?_
  have hcp : ((bys B ++ rB).drop off).take (min (N - off) m * 1) = bys ((B.drop off).take (N - off)) := by
    rw [Nat.min_eq_left om_, Nat.mul_one, List.drop_append_of_le_length (by simp; omega), List.take_append_of_le_length (by simp; omega)]; simp [bys, List.map_take, List.map_drop]
  refine CW_region ?_
  refine RW_m ?_
  refine RW_m ?_
  refine RW_n ?_
  refine RW_f fo_198_0 ?_
  refine RW_h (Yh_ld (v := .slice (some ⟨bB, 0, none⟩) N cN) sc_23) ?_
  refine RW_m ?_
  refine RW_l (Yl_cutLL (l := off) (o' := off) (m' := N - off) (c' := cN - off) rfl rfl sl_23 om_ om_ om_ rfl rfl) ?_
  refine RW_fx rfl rfl rfl (Fx_copy (m := m) (ms := N - off) (offs := off) (off := o) (ls := bys B ++ rB) rfl rfl sl_23 mem_ (by simp; omega) rep_ om_ (by rw [hcp]; exact one_map one_bv _)) ?_
  rintro _ _ ⟨rfl, rfl⟩
  rw [hcp, Nat.min_eq_left (show N - off ≤ m by omega)]
  refine RW_a ?_
  refine RW_lv [1,6,7] ?_
  refine CW_seq ?_
  refine CW_sr ?_
  refine RW_m ?_
  refine RW_m ?_
  refine RW_l (Yl_len rfl sl_23) ?_
  refine RW_l (Yl_lss rfl rfl) ?_
  refine RW_lv [6,7,30] ?_
  refine CW_cd rfl (fun hc3 => ?_) (fun hc3 => ?_)
  · refine CW_region ?_
    refine RW_h (Yh_ld (v := .iface 181 (.pointer (some ⟨bE.b, bE.o, none⟩))) sc_105) ?_
    refine RW_a ?_
    refine RW_lv [6,7] ?_
    refine CW_ret ?_
    first
      | (exact QW_ret2 rfl rfl rfl [_, _, _, _] ⟨rfl, rfl⟩ (by repeat (first | exact Prm.nil _ | exact Rem.here _ _ | apply Rem.there | apply Prm.cons)))
      | (have e0 : N - off = 0 := by omega
         rw [e0, List.take_zero]
         exact QW_ret2 rfl rfl rfl [_, _, _, _] ⟨rfl, rfl⟩ (by rw [show spl o (bys []) lp = lp by simp [spl, bys]]; repeat (first | exact Prm.nil _ | exact Rem.here _ _ | apply Rem.there | apply Prm.cons)))
  exfalso; omega
theorem storeShort_ct (bs bB bp o m c N cN off : Nat) (B : List UInt8) (rB lp : List Value) (T : TypeId) (bE : EofB) (T0 TE : TypeId) (fz0 fzE : Nat × Nat) (hB : B.length = N) (hcN : N ≤ cN) (hN : N ≤ 1000000000) (hoff : N < off + m) (ho : off ≤ 1000000000) (hm : m ≤ 1000000000) (hlp : o + m ≤ lp.length) :
    Ct Tryd.prog 93 [.pointer (some ⟨bs, 0, none⟩), .slice (some ⟨bp, o, none⟩) m c, nv off] [(bs, blk [.slice (some ⟨bB, 0, none⟩) N cN] 103), (bB, blk (bys B ++ rB) 5), (bp, blk lp T), (0, Obj.cells [.iface 181 (.pointer (some ⟨bE.b, bE.o, none⟩))].toArray T0 fz0)]
      (fun v q => v = .tuple #[nv (N - off), .iface 181 (.pointer (some ⟨bE.b, bE.o, none⟩))] ∧ q = [(bs, blk [.slice (some ⟨bB, 0, none⟩) N cN] 103), (bB, blk (bys B ++ rB) 5), (bp, blk (spl o (bys ((B.drop off).take (N - off))) lp) T), (0, Obj.cells [.iface 181 (.pointer (some ⟨bE.b, bE.o, none⟩))].toArray T0 fz0)]) := by
  refine Ct_of Tryd.func93 rfl Tryd.ntmps93 rfl ?_
  intro E F
  simp only [numL, List.nil_append, List.cons_append]
  refine CW_sr ?_
  refine RW_a ?_
  refine RW_a ?_
  refine RW_lv [0,1,2] ?_
  refine CW_sr ?_
  refine RW_m ?_
  refine RW_n ?_
  refine RW_f fo_103_0 ?_
  refine RW_h (Yh_ld (v := .slice (some ⟨bB, 0, none⟩) N cN) sc_23) ?_
  refine RW_fx rfl rfl rfl (Fx_call ok_95 (vs := [.slice (some ⟨bB, 0, none⟩) N cN]) rfl pk_ (newReader_ct _ N cN)) ?_
  rintro _ _ ⟨_, ⟨g, rfl, rfl⟩, rfl⟩
  refine RW_m ?_
  refine RW_m ?_
  refine RW_fx rfl rfl rfl (Fx_call ok_96 (vs := [.pointer (some ⟨g, 0, none⟩), .slice (some ⟨bp, o, none⟩) m c, nv off]) rfl pk_ (readerShort_ct g bB bp o m c N cN off B rB lp T bE T0 TE fz0 fzE hB hcN hN hoff ho hm hlp)) ?_
  rintro _ _ ⟨_, ⟨rfl, rfl⟩, rfl⟩
  refine RW_l (Yl_extract rfl rfl) ?_
  refine RW_l (Yl_extract rfl rfl) ?_
  refine RW_a ?_
  refine RW_a ?_
  refine RW_lv [6,7] ?_
  refine CW_ret ?_
  refine QW_dropB (e := (g, _)) rem_ ?_
  exact QW_ret2 rfl rfl rfl [_, _, _, _] ⟨rfl, rfl⟩ prm_
theorem readShort_ct (br bb bs bB nb cb m N cN off : Nat) (B : List UInt8) (rB lb rd : List Value) (T : TypeId) (bE : EofB) (T0 TE : TypeId) (fz0 fzE : Nat × Nat) (h0 : rd[0]? = some (.bool false)) (h2 : rd[2]? = some (.slice (some ⟨bb, 0, none⟩) nb cb)) (h7 : rd[7]? = some (.iface 79 (.pointer (some ⟨bs, 0, none⟩)))) (hB : B.length = N) (hcN : N ≤ cN) (hN : N ≤ 1000000000) (hmb : m ≤ nb) (hnc : nb ≤ cb) (hoff : N < off + m) (ho : off ≤ 1000000000) (hlb : m ≤ lb.length) (hm9 : m ≤ 1000000000) :
    Ct Tryd.prog 54 [.pointer (some ⟨br, 0, none⟩), nv off, nv m] [(br, blk rd 89), (bb, blk lb T), (bs, blk [.slice (some ⟨bB, 0, none⟩) N cN] 103), (bB, blk (bys B ++ rB) 5), (0, Obj.cells [.iface 181 (.pointer (some ⟨bE.b, bE.o, none⟩))].toArray T0 fz0), (bE.b, Obj.cells bE.l.toArray TE fzE)]
      (fun v q => v = .tuple #[.slice none 0 0, .iface 123 (.agg #[nv 1, .string (bar [69, 79, 70]), nv off])] ∧ q = [(br, blk rd 89), (bb, blk (spl 0 (bys ((B.drop off).take (N - off))) lb) T), (bs, blk [.slice (some ⟨bB, 0, none⟩) N cN] 103), (bB, blk (bys B ++ rB) 5), (0, Obj.cells [.iface 181 (.pointer (some ⟨bE.b, bE.o, none⟩))].toArray T0 fz0), (bE.b, Obj.cells bE.l.toArray TE fzE)]) := by
  refine Ct_of Tryd.func54 rfl Tryd.ntmps54 rfl ?_
  intro E F
  simp only [numL, List.nil_append, List.cons_append]
  refine CW_sr ?_
  refine RW_a ?_
  refine RW_a ?_
  refine RW_lv [0,1,2] ?_
  refine CW_seq ?_
  refine CW_sr ?_
  refine RW_m ?_
  refine RW_n ?_
  refine RW_f fo_89_0 ?_
  refine RW_h (Yh_lh (v := .bool false) sc_4 h0) ?_
  refine RW_lv [0,1,2,15] ?_
  refine CW_cond rfl (fun hc1 => ?_) (fun hc1 => ?_)
  · skip
    exact absurd hc1 (by decide)
  skip
  refine (CW_skip (QW_lv [0,1,2] ?_))
  refine CW_seq ?_
  refine CW_sr ?_
  refine RW_m ?_
  refine RW_m ?_
  refine RW_n ?_
  refine RW_f fo_89_2 ?_
  refine RW_h (Yh_lh (v := .slice (some ⟨bb, 0, none⟩) nb cb) sc_23 h2) ?_
  refine RW_l (Yl_len rfl sl_23) ?_
  refine RW_l (Yl_gtr rfl rfl) ?_
  refine RW_lv [0,1,2,43] ?_
  refine CW_cd rfl (fun hc2 => ?_) (fun hc2 => ?_)
  · exfalso; omega
  refine (CW_skip (QW_lv [0,1,2] ?_))
  refine CW_seq ?_
  refine CW_seq ?_
  refine CW_draw [13] _ mixed (Sub.refl _) ?_
  refine RD_m 0 ?_
  refine RD_n 1 ?_
  refine RD_f 2 fo_89_7 ?_
  refine RD_m 4 ?_
  refine RD_n 5 ?_
  refine RD_f 6 fo_89_2 ?_
  refine RD_m 8 ?_
  refine RD_m 10 ?_
  refine RD_h (i := 3) #[true, true, true, false, true, true, true, true, true, true, true, false, false, false, false, false, false, false, false] rfl rfl rfl rfl kr_ (fun _ _ _ h => h) (Yh_lh (v := .iface 79 (.pointer (some ⟨bs, 0, none⟩))) sc_85 h7) ?_
  refine RD_l 11 rfl (Yl_nilCheckI rfl) ?_
  refine RD_m 12 ?_
  refine RD_h (i := 7) #[true, true, true, true, true, true, true, false, true, false, true, true, true, false, false, false, false, false, false] rfl rfl rfl rfl kr_ (fun _ _ _ h => h) (Yh_lh (v := .slice (some ⟨bb, 0, none⟩) nb cb) sc_23 h2) ?_
  refine RD_l 9 rfl (Yl_cutHN (h := m) rfl rfl sl_23 om_) ?_
  refine RD_o 13 ?_
  refine RO_fx rfl rfl rfl rfl (Fx_invoke (T := 79) (v := .pointer (some ⟨bs, 0, none⟩)) (vs := [.slice (some ⟨bb, 0, none⟩) m cb, nv off]) rfl mt_79 pt_79 ok_93 rfl pk_ (storeShort_ct bs bB bb 0 m cb N cN off B rB lb T bE T0 TE fz0 fzE hB hcN hN hoff om_ om_ om_)) ?_
  rintro _ _ ⟨_, ⟨rfl, rfl⟩, rfl⟩
  refine ⟨Or.inl kr_, ?_⟩
  refine RD_m 14 ?_
  refine RD_l 15 rfl (Yl_extract rfl rfl) ?_
  refine RD_l 16 rfl (Yl_extract rfl rfl) ?_
  refine RD_a 17 ?_
  refine RD_a 18 ?_
  refine (RD_done kr_ (QW_lv [0,1,2,11] ?_))
  refine CW_sr ?_
  refine RW_m ?_
  refine RW_l (Yl_ifNe rfl if_105) ?_
  refine RW_lv [0,1,2,11,65] ?_
  refine CW_cond rfl (fun hc3 => ?_) (fun hc3 => ?_)
  · skip
    refine CW_sr ?_
    refine RW_m ?_
    refine RW_fx rfl rfl rfl (Fx_invokeQ (T := 181) (v := .pointer (some ⟨bE.b, bE.o, none⟩)) (vs := []) (R := fun v => v = .string (bar [69, 79, 70])) rfl mt_181 pt_181 ok_114 rfl (Pick.cons rem_ (Pick.nil _)) (eofError_ct bE TE fzE)) ?_
    rintro _ _ ⟨rfl, rfl⟩
    refine RW_m ?_
    refine RW_l (Yl_build (cs := [nv 1, .string (bar [69, 79, 70]), nv off]) pl_123 ze_123 rfl rfl) ?_
    refine RW_l (Yl_iface rfl co_123) ?_
    refine RW_a ?_
    refine RW_a ?_
    refine RW_lv [6,7] ?_
    refine CW_ret ?_
    refine QW_ret_then ?_
    exact QW_ret2 rfl rfl rfl [_, _, _, _, _, _] ⟨rfl, rfl⟩ prm_
  skip
  exact absurd hc3 (by decide)
def fnMsg : List UInt8 := (([98, 97, 100, 32, 114, 101, 97, 100, 32, 102, 105, 110, 100, 105, 110, 103, 32, 110, 101, 120, 116, 32, 115, 101, 99, 116, 111, 114, 32, 40] ++ [69, 79, 70]) ++ [41])
theorem findNextShort_ct (br bh bd bs bB ss sn sect od nd cd o N cN : Nat) (B : List UInt8) (rB rd hd ld : List Value) (T : TypeId) (bE : EofB) (T0 TE : TypeId) (fz0 fzE : Nat × Nat) (h1 : rd[1]? = some (uv ss)) (h3 : rd[3]? = some (.pointer (some ⟨bh, 0, none⟩))) (h7 : rd[7]? = some (.iface 79 (.pointer (some ⟨bs, 0, none⟩)))) (h2 : hd[1]? = some (.slice (some ⟨bd, od, none⟩) nd cd)) (hld : ld[od + sn / (ss / 4)]? = some (uv sect)) (hsn : sn / (ss / 4) < nd) (hnd : nd ≤ 100000000) (hss : 512 ≤ ss ∧ ss ≤ 4096) (hsnb : sn ≤ 4294967295) (hse : sect ≤ 100000)
    (ho : o = (sect + 1) * ss + sn % (ss / 4) * 4) (ho4 : N < o + 4) (hB : B.length = N) (hcN : N ≤ cN) (hN : N ≤ 1000000000) :
    Ct Tryd.prog 60 [.pointer (some ⟨br, 0, none⟩), uv sn, .bool false] [(br, blk rd 89), (bh, blk hd 137), (bd, blk ld T), (bs, blk [.slice (some ⟨bB, 0, none⟩) N cN] 103), (bB, blk (bys B ++ rB) 5), (0, Obj.cells [.iface 181 (.pointer (some ⟨bE.b, bE.o, none⟩))].toArray T0 fz0), (bE.b, Obj.cells bE.l.toArray TE fzE)]
      (fun v q => v = .tuple #[uv 0, .iface 123 (.agg #[nv 1, .string (bar fnMsg), nv o])] ∧ q = [(br, blk rd 89), (bh, blk hd 137), (bd, blk ld T), (bs, blk [.slice (some ⟨bB, 0, none⟩) N cN] 103), (bB, blk (bys B ++ rB) 5), (0, Obj.cells [.iface 181 (.pointer (some ⟨bE.b, bE.o, none⟩))].toArray T0 fz0), (bE.b, Obj.cells bE.l.toArray TE fzE)]) := by
  obtain ⟨e, he⟩ : ∃ e, e = ss / 4 := ⟨_, rfl⟩
  have hq4 : 128 ≤ e ∧ e ≤ 1024 := by omega
  rw [← he] at hld hsn ho
  obtain ⟨q, hq⟩ : ∃ q, q = sn / e := ⟨_, rfl⟩
  obtain ⟨r, hr⟩ : ∃ r, r = sn % e := ⟨_, rfl⟩
  rw [← hq] at hld hsn
  rw [← hr] at ho
  have hdl : q ≤ sn := by rw [hq]; exact Nat.div_le_self sn e
  have hml : r < e := by rw [hr]; exact Nat.mod_lt sn om_
  have hprod : (sect + 1) * ss ≤ 100001 * 4096 := Nat.mul_le_mul om_ om_
  refine Ct_of Tryd.func60 rfl Tryd.ntmps60 rfl ?_
  intro E F
  simp only [numL, List.nil_append, List.cons_append]
  refine CW_sr ?_
  refine RW_a ?_
  refine RW_a ?_
  refine RW_lv [0,1,2] ?_
  refine CW_sr ?_
  refine RW_m ?_
  refine RW_n ?_
  refine RW_f fo_89_1 ?_
  refine RW_h (Yh_lh (v := uv ss) sc_67 h1) ?_
  refine RW_l (Yl_quo (c := (e : Int)) rfl rfl om_ (by rw [he]; exact quo32 (b := 4) om_)) ?_
  refine RW_a ?_
  refine RW_lv [0,1,2,8] ?_
  refine CW_sr ?_
  refine RW_m ?_
  refine RW_m ?_
  refine RW_l (Yl_quo (c := (q : Int)) rfl rfl om_ (by rw [hq]; exact quo32 (a := sn) (b := e) om_)) ?_
  refine RW_l (Yl_conv (c := (q : Int)) rfl in_67 in_3 (wi64 om_ om_)) ?_
  refine RW_a ?_
  refine RW_lv [0,1,2,8,9] ?_
  refine CW_sr ?_
  refine RW_a ?_
  refine RW_lv [0,1,2,8,9] ?_
  refine CW_seq ?_
  refine CW_sr ?_
  refine RW_m ?_
  refine RW_lv [0,1,8,9,25] ?_
  refine CW_cond rfl (fun hc1 => ?_) (fun hc1 => ?_)
  · skip
    exact absurd hc1 (by decide)
  skip
  refine CW_seq ?_
  refine CW_sr ?_
  refine RW_m ?_
  refine RW_l (Yl_lss rfl rfl) ?_
  refine RW_m ?_
  refine RW_bool 55 rfl (fun hg2 => ?_) (fun hg2 => ?_)
  · replace hg2 := of_decide_eq_true hg2
    exfalso; omega
  replace hg2 := of_decide_eq_false hg2
  refine RW_gy rfl rfl rfl (Yl.h (Yl_move rfl)) ?_
  refine RW_gy rfl rfl rfl (Yl.h (Yl_move rfl)) ?_
  refine RW_gy rfl rfl rfl (Yl.h (Yl_nilCheck rfl)) ?_
  refine RW_gy rfl rfl rfl (Yl.h (Yl_field rfl fo_89_3)) ?_
  refine RW_gy rfl rfl rfl (Yh_lh (v := .pointer (some ⟨bh, 0, none⟩)) sc_82 h3) ?_
  refine RW_gy rfl rfl rfl (Yl.h (Yl_nilCheck rfl)) ?_
  refine RW_gy rfl rfl rfl (Yl.h (Yl_field rfl fo_137_1)) ?_
  refine RW_gy rfl rfl rfl (Yh_lh (v := .slice (some ⟨bd, od, none⟩) nd cd) sc_22 h2) ?_
  refine RW_gy rfl rfl rfl (Yl.h (Yl_len rfl sl_22)) ?_
  refine RW_gy rfl rfl rfl (Yl.h (Yl_geq rfl rfl)) ?_
  refine RW_l (Yl_pick_f rfl rfl) ?_
  refine RW_lv [0,1,8,9,66] ?_
  refine CW_cd rfl (fun hc3 => ?_) (fun hc3 => ?_)
  · exfalso; omega
  refine (CW_skip (QW_lv [0,1,8,9] ?_))
  refine CW_region ?_
  refine RW_m ?_
  refine RW_n ?_
  refine RW_f fo_89_3 ?_
  refine RW_h (Yh_lh (v := .pointer (some ⟨bh, 0, none⟩)) sc_82 h3) ?_
  refine RW_n ?_
  refine RW_f fo_137_1 ?_
  refine RW_h (Yh_lh (v := .slice (some ⟨bd, od, none⟩) nd cd) sc_22 h2) ?_
  refine RW_m ?_
  refine RW_l (Yl_index rfl rfl sl_22 om_ om_) ?_
  refine RW_h (Yh_load (v := uv sect) rfl sc_67 mem_ (by rw [← hld]; congr 1; omega)) ?_
  refine RW_a ?_
  refine RW_lv [0,1,8,10] ?_
  refine CW_sr ?_
  refine RW_m ?_
  refine RW_m ?_
  refine RW_l (Yl_rem (c := (r : Int)) rfl rfl om_ (by rw [hr]; exact remN sn e)) ?_
  refine RW_a ?_
  refine RW_lv [0,10,11] ?_
  refine CW_sr ?_
  refine RW_m ?_
  refine RW_n ?_
  refine RW_f fo_89_1 ?_
  refine RW_h (Yh_lh (v := uv ss) sc_67 h1) ?_
  refine RW_m ?_
  refine RW_fx rfl rfl rfl (Fx_callQ ok_56 (vs := [uv ss, uv sect]) rfl pk_ (fileOffset_ct ss sect om_ om_ om_)) ?_
  rintro _ _ ⟨rfl, rfl⟩
  refine RW_m ?_
  refine RW_l (Yl_mul (c := ((r * 4 : Nat) : Int)) rfl rfl (mul32 (a := r) (b := 4) om_)) ?_
  refine RW_l (Yl_conv (c := ((r * 4 : Nat) : Int)) rfl in_67 in_2 (wi64 om_ om_)) ?_
  refine RW_l (Yl_add (c := (o : Int)) rfl rfl (by rw [ho]; exact wi64 om_ om_)) ?_
  refine RW_a ?_
  refine RW_lv [0,12] ?_
  refine CW_sr ?_
  refine RW_fx rfl rfl rfl (Fx_makeU8 4 rfl rfl om_) ?_
  rintro _ _ ⟨b93, rfl, rfl⟩
  refine RW_a ?_
  refine RW_lv [0,12,13] ?_
  refine CW_sr ?_
  refine RW_m ?_
  refine RW_n ?_
  refine RW_f fo_89_7 ?_
  refine RW_h (Yh_lh (v := .iface 79 (.pointer (some ⟨bs, 0, none⟩))) sc_85 h7) ?_
  refine RW_m ?_
  refine RW_m ?_
  refine RW_fx rfl rfl rfl (Fx_invoke (T := 79) (v := .pointer (some ⟨bs, 0, none⟩)) (vs := [.slice (some ⟨b93, 0, none⟩) 4 4, nv o]) rfl mt_79 pt_79 ok_93 rfl pk_ (storeShort_ct bs bB b93 0 4 4 N cN o B rB (bys (List.replicate 4 0)) 5 bE T0 TE fz0 fzE hB hcN hN om_ om_ om_ (by simp))) ?_
  rintro _ _ ⟨_, ⟨rfl, rfl⟩, rfl⟩
  refine RW_m ?_
  refine RW_l (Yl_extract rfl rfl) ?_
  refine RW_l (Yl_extract rfl rfl) ?_
  refine RW_a ?_
  refine RW_a ?_
  refine RW_lv [12,13,15] ?_
  refine CW_seq ?_
  refine CW_sr ?_
  refine RW_m ?_
  refine RW_l (Yl_ifNe rfl if_105) ?_
  refine RW_lv [12,13,15,105] ?_
  refine CW_cond rfl (fun hc4 => ?_) (fun hc4 => ?_)
  · skip
    refine CW_sr ?_
    refine RW_m ?_
    refine RW_fx rfl rfl rfl (Fx_invokeQ (T := 181) (v := .pointer (some ⟨bE.b, bE.o, none⟩)) (vs := []) (R := fun v => v = .string (bar [69, 79, 70])) rfl mt_181 pt_181 ok_114 rfl (Pick.cons rem_ (Pick.nil _)) (eofError_ct bE TE fzE)) ?_
    rintro _ _ ⟨rfl, rfl⟩
    refine RW_l (Yl_concatB (a := [98, 97, 100, 32, 114, 101, 97, 100, 32, 102, 105, 110, 100, 105, 110, 103, 32, 110, 101, 120, 116, 32, 115, 101, 99, 116, 111, 114, 32, 40]) (b := [69, 79, 70]) rfl rfl (by simp)) ?_
    refine RW_l (Yl_concatB (a := [98, 97, 100, 32, 114, 101, 97, 100, 32, 102, 105, 110, 100, 105, 110, 103, 32, 110, 101, 120, 116, 32, 115, 101, 99, 116, 111, 114, 32, 40] ++ [69, 79, 70]) (b := [41]) rfl rfl (by simp)) ?_
    refine RW_m ?_
    refine RW_l (Yl_build (cs := [nv 1, .string (bar (([98, 97, 100, 32, 114, 101, 97, 100, 32, 102, 105, 110, 100, 105, 110, 103, 32, 110, 101, 120, 116, 32, 115, 101, 99, 116, 111, 114, 32, 40] ++ [69, 79, 70]) ++ [41])), nv o]) pl_123 ze_123 rfl rfl) ?_
    refine RW_l (Yl_iface rfl co_123) ?_
    refine RW_a ?_
    refine RW_a ?_
    refine RW_lv [6,7] ?_
    refine CW_ret ?_
    refine QW_ret_then ?_
    refine QW_dropB (e := (b93, _)) rem_ ?_
    exact QW_ret2 rfl rfl rfl [_, _, _, _, _, _, _] ⟨rfl, rfl⟩ prm_
  skip
  exact absurd hc4 (by decide)
theorem findNextMShort_ct (br bh bd bs bB ss sn sect od nd cd o N cN : Nat) (B : List UInt8) (rB rd hd ld : List Value) (T : TypeId) (bE : EofB) (T0 TE : TypeId) (fz0 fzE : Nat × Nat) (h1 : rd[1]? = some (uv ss)) (h3 : rd[3]? = some (.pointer (some ⟨bh, 0, none⟩))) (h7 : rd[7]? = some (.iface 79 (.pointer (some ⟨bs, 0, none⟩)))) (h2 : hd[2]? = some (.slice (some ⟨bd, od, none⟩) nd cd)) (hld : ld[od + sn / (ss / 4)]? = some (uv sect)) (hsn : sn / (ss / 4) < nd) (hnd : nd ≤ 100000000) (hss : 512 ≤ ss ∧ ss ≤ 4096) (hsnb : sn ≤ 4294967295) (hse : sect ≤ 100000)
    (ho : o = (sect + 1) * ss + sn % (ss / 4) * 4) (ho4 : N < o + 4) (hB : B.length = N) (hcN : N ≤ cN) (hN : N ≤ 1000000000) :
    Ct Tryd.prog 60 [.pointer (some ⟨br, 0, none⟩), uv sn, .bool true] [(br, blk rd 89), (bh, blk hd 137), (bd, blk ld T), (bs, blk [.slice (some ⟨bB, 0, none⟩) N cN] 103), (bB, blk (bys B ++ rB) 5), (0, Obj.cells [.iface 181 (.pointer (some ⟨bE.b, bE.o, none⟩))].toArray T0 fz0), (bE.b, Obj.cells bE.l.toArray TE fzE)]
      (fun v q => v = .tuple #[uv 0, .iface 123 (.agg #[nv 1, .string (bar fnMsg), nv o])] ∧ q = [(br, blk rd 89), (bh, blk hd 137), (bd, blk ld T), (bs, blk [.slice (some ⟨bB, 0, none⟩) N cN] 103), (bB, blk (bys B ++ rB) 5), (0, Obj.cells [.iface 181 (.pointer (some ⟨bE.b, bE.o, none⟩))].toArray T0 fz0), (bE.b, Obj.cells bE.l.toArray TE fzE)]) := by
  obtain ⟨e, he⟩ : ∃ e, e = ss / 4 := ⟨_, rfl⟩
  have hq4 : 128 ≤ e ∧ e ≤ 1024 := by omega
  rw [← he] at hld hsn ho
  obtain ⟨q, hq⟩ : ∃ q, q = sn / e := ⟨_, rfl⟩
  obtain ⟨r, hr⟩ : ∃ r, r = sn % e := ⟨_, rfl⟩
  rw [← hq] at hld hsn
  rw [← hr] at ho
  have hdl : q ≤ sn := by rw [hq]; exact Nat.div_le_self sn e
  have hml : r < e := by rw [hr]; exact Nat.mod_lt sn om_
  have hprod : (sect + 1) * ss ≤ 100001 * 4096 := Nat.mul_le_mul om_ om_
  refine Ct_of Tryd.func60 rfl Tryd.ntmps60 rfl ?_
  intro E F
  simp only [numL, List.nil_append, List.cons_append]
  refine CW_sr ?_
  refine RW_a ?_
  refine RW_a ?_
  refine RW_lv [0,1,2] ?_
  refine CW_sr ?_
  refine RW_m ?_
  refine RW_n ?_
  refine RW_f fo_89_1 ?_
  refine RW_h (Yh_lh (v := uv ss) sc_67 h1) ?_
  refine RW_l (Yl_quo (c := (e : Int)) rfl rfl om_ (by rw [he]; exact quo32 (b := 4) om_)) ?_
  refine RW_a ?_
  refine RW_lv [0,1,2,8] ?_
  refine CW_sr ?_
  refine RW_m ?_
  refine RW_m ?_
  refine RW_l (Yl_quo (c := (q : Int)) rfl rfl om_ (by rw [hq]; exact quo32 (a := sn) (b := e) om_)) ?_
  refine RW_l (Yl_conv (c := (q : Int)) rfl in_67 in_3 (wi64 om_ om_)) ?_
  refine RW_a ?_
  refine RW_lv [0,1,2,8,9] ?_
  refine CW_sr ?_
  refine RW_a ?_
  refine RW_lv [0,1,2,8,9] ?_
  refine CW_seq ?_
  refine CW_sr ?_
  refine RW_m ?_
  refine RW_lv [0,1,8,9,25] ?_
  refine CW_cond rfl (fun hc1 => ?_) (fun hc1 => ?_)
  · skip
    refine CW_seq ?_
    refine CW_sr ?_
    refine RW_m ?_
    refine RW_l (Yl_lss rfl rfl) ?_
    refine RW_m ?_
    refine RW_bool 28 rfl (fun hg2 => ?_) (fun hg2 => ?_)
    · replace hg2 := of_decide_eq_true hg2
      exfalso; omega
    replace hg2 := of_decide_eq_false hg2
    refine RW_gy rfl rfl rfl (Yl.h (Yl_move rfl)) ?_
    refine RW_gy rfl rfl rfl (Yl.h (Yl_move rfl)) ?_
    refine RW_gy rfl rfl rfl (Yl.h (Yl_nilCheck rfl)) ?_
    refine RW_gy rfl rfl rfl (Yl.h (Yl_field rfl fo_89_3)) ?_
    refine RW_gy rfl rfl rfl (Yh_lh (v := .pointer (some ⟨bh, 0, none⟩)) sc_82 h3) ?_
    refine RW_gy rfl rfl rfl (Yl.h (Yl_nilCheck rfl)) ?_
    refine RW_gy rfl rfl rfl (Yl.h (Yl_field rfl fo_137_2)) ?_
    refine RW_gy rfl rfl rfl (Yh_lh (v := .slice (some ⟨bd, od, none⟩) nd cd) sc_22 h2) ?_
    refine RW_gy rfl rfl rfl (Yl.h (Yl_len rfl sl_22)) ?_
    refine RW_gy rfl rfl rfl (Yl.h (Yl_geq rfl rfl)) ?_
    refine RW_l (Yl_pick_f rfl rfl) ?_
    refine RW_lv [0,1,8,9,39] ?_
    refine CW_cd rfl (fun hc3 => ?_) (fun hc3 => ?_)
    · exfalso; omega
    refine (CW_skip (QW_lv [0,1,8,9] ?_))
    refine CW_region ?_
    refine RW_m ?_
    refine RW_n ?_
    refine RW_f fo_89_3 ?_
    refine RW_h (Yh_lh (v := .pointer (some ⟨bh, 0, none⟩)) sc_82 h3) ?_
    refine RW_n ?_
    refine RW_f fo_137_2 ?_
    refine RW_h (Yh_lh (v := .slice (some ⟨bd, od, none⟩) nd cd) sc_22 h2) ?_
    refine RW_m ?_
    refine RW_l (Yl_index rfl rfl sl_22 om_ om_) ?_
    refine RW_h (Yh_load (v := uv sect) rfl sc_67 mem_ (by rw [← hld]; congr 1; omega)) ?_
    refine RW_a ?_
    refine RW_lv [0,1,8,10] ?_
    refine CW_sr ?_
    refine RW_m ?_
    refine RW_m ?_
    refine RW_l (Yl_rem (c := (r : Int)) rfl rfl om_ (by rw [hr]; exact remN sn e)) ?_
    refine RW_a ?_
    refine RW_lv [0,10,11] ?_
    refine CW_sr ?_
    refine RW_m ?_
    refine RW_n ?_
    refine RW_f fo_89_1 ?_
    refine RW_h (Yh_lh (v := uv ss) sc_67 h1) ?_
    refine RW_m ?_
    refine RW_fx rfl rfl rfl (Fx_callQ ok_56 (vs := [uv ss, uv sect]) rfl pk_ (fileOffset_ct ss sect om_ om_ om_)) ?_
    rintro _ _ ⟨rfl, rfl⟩
    refine RW_m ?_
    refine RW_l (Yl_mul (c := ((r * 4 : Nat) : Int)) rfl rfl (mul32 (a := r) (b := 4) om_)) ?_
    refine RW_l (Yl_conv (c := ((r * 4 : Nat) : Int)) rfl in_67 in_2 (wi64 om_ om_)) ?_
    refine RW_l (Yl_add (c := (o : Int)) rfl rfl (by rw [ho]; exact wi64 om_ om_)) ?_
    refine RW_a ?_
    refine RW_lv [0,12] ?_
    refine CW_sr ?_
    refine RW_fx rfl rfl rfl (Fx_makeU8 4 rfl rfl om_) ?_
    rintro _ _ ⟨b93, rfl, rfl⟩
    refine RW_a ?_
    refine RW_lv [0,12,13] ?_
    refine CW_sr ?_
    refine RW_m ?_
    refine RW_n ?_
    refine RW_f fo_89_7 ?_
    refine RW_h (Yh_lh (v := .iface 79 (.pointer (some ⟨bs, 0, none⟩))) sc_85 h7) ?_
    refine RW_m ?_
    refine RW_m ?_
    refine RW_fx rfl rfl rfl (Fx_invoke (T := 79) (v := .pointer (some ⟨bs, 0, none⟩)) (vs := [.slice (some ⟨b93, 0, none⟩) 4 4, nv o]) rfl mt_79 pt_79 ok_93 rfl pk_ (storeShort_ct bs bB b93 0 4 4 N cN o B rB (bys (List.replicate 4 0)) 5 bE T0 TE fz0 fzE hB hcN hN om_ om_ om_ (by simp))) ?_
    rintro _ _ ⟨_, ⟨rfl, rfl⟩, rfl⟩
    refine RW_m ?_
    refine RW_l (Yl_extract rfl rfl) ?_
    refine RW_l (Yl_extract rfl rfl) ?_
    refine RW_a ?_
    refine RW_a ?_
    refine RW_lv [12,13,15] ?_
    refine CW_seq ?_
    refine CW_sr ?_
    refine RW_m ?_
    refine RW_l (Yl_ifNe rfl if_105) ?_
    refine RW_lv [12,13,15,105] ?_
    refine CW_cond rfl (fun hc4 => ?_) (fun hc4 => ?_)
    · skip
      refine CW_sr ?_
      refine RW_m ?_
      refine RW_fx rfl rfl rfl (Fx_invokeQ (T := 181) (v := .pointer (some ⟨bE.b, bE.o, none⟩)) (vs := []) (R := fun v => v = .string (bar [69, 79, 70])) rfl mt_181 pt_181 ok_114 rfl (Pick.cons rem_ (Pick.nil _)) (eofError_ct bE TE fzE)) ?_
      rintro _ _ ⟨rfl, rfl⟩
      refine RW_l (Yl_concatB (a := [98, 97, 100, 32, 114, 101, 97, 100, 32, 102, 105, 110, 100, 105, 110, 103, 32, 110, 101, 120, 116, 32, 115, 101, 99, 116, 111, 114, 32, 40]) (b := [69, 79, 70]) rfl rfl (by simp)) ?_
      refine RW_l (Yl_concatB (a := [98, 97, 100, 32, 114, 101, 97, 100, 32, 102, 105, 110, 100, 105, 110, 103, 32, 110, 101, 120, 116, 32, 115, 101, 99, 116, 111, 114, 32, 40] ++ [69, 79, 70]) (b := [41]) rfl rfl (by simp)) ?_
      refine RW_m ?_
      refine RW_l (Yl_build (cs := [nv 1, .string (bar (([98, 97, 100, 32, 114, 101, 97, 100, 32, 102, 105, 110, 100, 105, 110, 103, 32, 110, 101, 120, 116, 32, 115, 101, 99, 116, 111, 114, 32, 40] ++ [69, 79, 70]) ++ [41])), nv o]) pl_123 ze_123 rfl rfl) ?_
      refine RW_l (Yl_iface rfl co_123) ?_
      refine RW_a ?_
      refine RW_a ?_
      refine RW_lv [6,7] ?_
      refine CW_ret ?_
      refine QW_ret_then ?_
      refine QW_dropB (e := (b93, _)) rem_ ?_
      exact QW_ret2 rfl rfl rfl [_, _, _, _, _, _, _] ⟨rfl, rfl⟩ prm_
    skip
    exact absurd hc4 (by decide)
  skip
  exact absurd hc1 (by decide)

structure ChTry (B : List UInt8) (N ss : Nat) (hc : List Value) (sns : List Nat) (o : Nat → Nat) : Prop where
  nodup : sns.Nodup
  small : ∀ j, j < sns.length → snx sns j ≤ 100000
  top : ∀ j, j < sns.length → (snx sns j + 1) * ss ≤ 200000
  next : ∀ j, j < sns.length → ∃ sect, hc[45 + snx sns j / (ss / 4)]? = some (uv sect) ∧ snx sns j / (ss / 4) < 109 ∧ sect ≤ 100000 ∧ o j = (sect + 1) * ss + snx sns j % (ss / 4) * 4 ∧ o j ≤ 200000 ∧ (o j + 4 ≤ N → num ((B.drop (o j)).take 4) = snx sns (j + 1))
theorem ChTry.ne {B : List UInt8} {N ss : Nat} {hc : List Value} {sns : List Nat} {o : Nat → Nat} (h : ChTry B N ss hc sns o) {i j : Nat} (hi : i < sns.length) (hj : j ≤ sns.length) (hne : i ≠ j) : snx sns i ≠ snx sns j := by
  intro e
  rcases Nat.lt_or_ge j sns.length with hl | hl
  · rw [snx_in _ hi, snx_in _ hl] at e
    exact hne (nodup_getD h.nodup hi hl e)
  rw [snx_end sns (show j = sns.length by omega)] at e
  have := h.small i hi
  omega
def DirFit (N ss : Nat) (sns : List Nat) (o : Nat → Nat) : Prop := ∀ j, j < sns.length → (snx sns j + 1) * ss + ss ≤ N ∧ o j + 4 ≤ N
def LkFit (N n : Nat) (o : Nat → Nat) : Prop := ∀ j, j < n → o j + 4 ≤ N
def ErrX (v : Value) : Prop := ∃ (ty : Nat) (m : List UInt8) (x : Int), ty ≤ 10 ∧ v = .iface 123 (.agg #[nv ty, .string (bar m), .int .i64 x])
theorem ErrX.code {v : Value} (h : ErrX v) : Ct Tryd.prog 40 [v] [] (fun u q => (∃ c, 1 ≤ c ∧ c ≤ 11 ∧ u = nv c) ∧ q = []) := by
  obtain ⟨ty, m, x, h1, rfl⟩ := h
  refine (code_err (ty : Int) (.string (bar m)) (.int .i64 x) om_ rfl rfl).mono ?_
  rintro u q ⟨rfl, rfl⟩
  exact ⟨⟨ty + 1, by omega, by omega, by first | rfl | (congr 1; omega)⟩, rfl⟩

theorem setDirTry_ct (br bh bhf bb bs bB ss ver nd num_ N cN : Nat) (B : List UInt8) (rB hc ps lb0 : List Value) (T : TypeId) (sns : List Nat) (o : Nat → Nat) (es : List En) (file wa m1 m2 : Value) (lp : List Value) (Tp : TypeId) (fp : Nat × Nat) (hp : ∀ i, i < 20 → ∃ z : Int, lp[i]? = some (.int .u64 z)) (bE : EofB) (T0 TE : TypeId) (fz0 fzE : Nat × Nat) (hch : ChTry B N ss hc sns o) (hK : 1 ≤ sns.length) (hver : hc[18]? = some (.int .u16 (ver : Int))) (hnd : hc[30]? = some (uv nd)) (hdl : hc[32]? = some (uv (snx sns 0))) (hv4 : ver ≤ 4) (hnd1 : nd ≤ 64000) (hss : 512 ≤ ss ∧ ss ≤ 4096) (hnum : num_ = ss / 128)
  (hes : es.length = sns.length * num_) (hn20 : es.length ≤ 100000) (hent : ∀ j, j < sns.length → (snx sns j + 1) * ss + ss ≤ N → ∀ i, i < num_ → EnOk ps ver ((B.drop ((snx sns j + 1) * ss)).take ss) (i * 128) (es.getD (j * num_ + i) default)) (hB : B.length = N) (hcN : N ≤ cN) (hN : N ≤ 1000000000) (hlb0 : lb0.length = ss) :
  Ct Tryd.prog 48 [pv br] [(br, blk (rdF bs ss (.slice (some ⟨bb, 0, none⟩) ss ss) (pv bh) file (.slice none 0 0) wa) 89), (bh, blk [pv bhf, .slice (some ⟨bhf, 45, none⟩) 109 109, m1, m2] 137), (bhf, blk hc 142), (bb, blk lb0 5), (bs, blk [.slice (some ⟨bB, 0, none⟩) N cN] 103), (bB, blk (bys B ++ rB) 5), (2, blk ps T), (5, Obj.cells lp.toArray Tp fp), (0, Obj.cells [.iface 181 (.pointer (some ⟨bE.b, bE.o, none⟩))].toArray T0 fz0), (bE.b, Obj.cells bE.l.toArray TE fzE)] (fun v q => (DirFit N ss sns o ∧ v = .nilIface ∧ ∃ g cap r lb fs, fs.map Fil.en = es ∧ (ptrs fs ++ r).length = cap ∧ lb.length = ss ∧ q = ((br, blk (rdF bs ss (.slice (some ⟨bb, 0, none⟩) ss ss) (pv bh) file (.slice (some ⟨g, 0, none⟩) es.length cap) wa) 89) :: (bh, blk [pv bhf, .slice (some ⟨bhf, 45, none⟩) 109 109, m1, m2] 137) :: (bhf, blk hc 142) :: (bb, blk lb 5) :: (bs, blk [.slice (some ⟨bB, 0, none⟩) N cN] 103) :: (bB, blk (bys B ++ rB) 5) :: (2, blk ps T) :: (5, Obj.cells lp.toArray Tp fp) :: (0, Obj.cells [.iface 181 (.pointer (some ⟨bE.b, bE.o, none⟩))].toArray T0 fz0) :: (bE.b, Obj.cells bE.l.toArray TE fzE) :: (g, blk (ptrs fs ++ r) 90) :: filsH br fs)) ∨ (¬ DirFit N ss sns o ∧ ErrX v ∧ q = [(2, blk ps T), (5, Obj.cells lp.toArray Tp fp), (0, Obj.cells [.iface 181 (.pointer (some ⟨bE.b, bE.o, none⟩))].toArray T0 fz0), (bE.b, Obj.cells bE.l.toArray TE fzE)])) := by
 have hd128 : num_ * 128 ≤ ss ∧ ss < num_ * 128 + 128 := by omega
 have hn4 : 4 ≤ num_ := by omega
 refine Ct_of Tryd.func48 rfl Tryd.ntmps48 rfl ?_
 intro E F
 simp only [numL, List.nil_append, List.cons_append]
 refine CW_sr ?_
 refine RW_a ?_
 refine RW_lv [0] ?_
 refine CW_sr ?_
 refine RW_a ?_
 refine RW_lv [0,3] ?_
 refine CW_cut (σ := Nat) (fun q => [(0, pv br), (3, nv q)]) (fun _ => (br, blk (rdF bs ss (.slice (some ⟨bb, 0, none⟩) ss ss) (pv bh) file (.slice none 0 0) wa) 89) :: (bh, blk [pv bhf, .slice (some ⟨bhf, 45, none⟩) 109 109, m1, m2] 137) :: (bhf, blk hc 142) :: (bb, blk lb0 5) :: (bs, blk [.slice (some ⟨bB, 0, none⟩) N cN] 103) :: (bB, blk (bys B ++ rB) 5) :: (2, blk ps T) :: (5, Obj.cells lp.toArray Tp fp) :: (0, Obj.cells [.iface 181 (.pointer (some ⟨bE.b, bE.o, none⟩))].toArray T0 fz0) :: (bE.b, Obj.cells bE.l.toArray TE fzE) :: F) (fun q => q ≤ 64000) ?_ ?_
 ·skip
  refine CW_sr ?_
  refine RW_m ?_
  refine RW_n ?_
  refine RW_f fo_89_3 ?_
  refine RW_h (Yh_ld (v := pv bh) sc_82) ?_
  refine RW_n ?_
  refine RW_f fo_137_0 ?_
  refine RW_h (Yh_ld (v := pv bhf) sc_134) ?_
  refine RW_n ?_
  refine RW_f fo_142_3 ?_
  refine RW_h (Yh_lh (v := .int .u16 (ver : Int)) sc_47 hver) ?_
  refine RW_l (Yl_gtr rfl rfl) ?_
  refine RW_m ?_
  refine RW_bool 24 rfl (fun hg1 => ?_) (fun hg1 => ?_)
  ·replace hg1 := of_decide_eq_true hg1
   refine RW_gy rfl rfl rfl (Yl.h (Yl_move rfl)) ?_
   refine RW_gy rfl rfl rfl (Yl.h (Yl_nilCheck rfl)) ?_
   refine RW_gy rfl rfl rfl (Yl.h (Yl_field rfl fo_89_3)) ?_
   refine RW_gy rfl rfl rfl (Yh_ld (v := pv bh) sc_82) ?_
   refine RW_gy rfl rfl rfl (Yl.h (Yl_nilCheck rfl)) ?_
   refine RW_gy rfl rfl rfl (Yl.h (Yl_field rfl fo_137_0)) ?_
   refine RW_gy rfl rfl rfl (Yh_ld (v := pv bhf) sc_134) ?_
   refine RW_gy rfl rfl rfl (Yl.h (Yl_nilCheck rfl)) ?_
   refine RW_gy rfl rfl rfl (Yl.h (Yl_field rfl fo_142_8)) ?_
   refine RW_gy rfl rfl rfl (Yh_lh (v := uv nd) sc_67 hnd) ?_
   refine RW_gy rfl rfl rfl (Yl.h (Yl_gtr rfl rfl)) ?_
   refine RW_l (Yl_pick_t rfl rfl) ?_
   refine RW_lv [0,3,36] ?_
   refine CW_cd rfl (fun hc2 => ?_) (fun hc2 => ?_)
   ·refine CW_sr ?_
    refine RW_m ?_
    refine RW_n ?_
    refine RW_f fo_89_3 ?_
    refine RW_h (Yh_ld (v := pv bh) sc_82) ?_
    refine RW_n ?_
    refine RW_f fo_137_0 ?_
    refine RW_h (Yh_ld (v := pv bhf) sc_134) ?_
    refine RW_n ?_
    refine RW_f fo_142_8 ?_
    refine RW_h (Yh_lh (v := uv nd) sc_67 hnd) ?_
    refine RW_l (Yl_gtr rfl rfl) ?_
    refine RW_lv [0,47] ?_
    refine CW_cd rfl (fun hc3 => ?_) (fun hc3 => ?_)
    ·exfalso; omega
    refine CW_region ?_
    refine RW_m ?_
    refine RW_n ?_
    refine RW_f fo_89_3 ?_
    refine RW_h (Yh_ld (v := pv bh) sc_82) ?_
    refine RW_n ?_
    refine RW_f fo_137_0 ?_
    refine RW_h (Yh_ld (v := pv bhf) sc_134) ?_
    refine RW_n ?_
    refine RW_f fo_142_8 ?_
    refine RW_h (Yh_lh (v := uv nd) sc_67 hnd) ?_
    refine RW_l (Yl_conv (c := (nd : Int)) rfl in_67 in_3 (wi64 om_ om_)) ?_
    refine RW_a ?_
    refine RW_nil ?_
    first
     | exact QW_cut nd (by omega) (by repeat (first | exact Prm.nil _ | exact Rem.here _ _ | apply Rem.there | apply Prm.cons)) (.cons rfl (.cons rfl .nil))
     | exact QW_cut 20 (by omega) (by repeat (first | exact Prm.nil _ | exact Rem.here _ _ | apply Rem.there | apply Prm.cons)) (.cons rfl (.cons rfl .nil))
   refine CW_skip ?_
   first
    | exact QW_cut nd (by omega) (by repeat (first | exact Prm.nil _ | exact Rem.here _ _ | apply Rem.there | apply Prm.cons)) (.cons rfl (.cons rfl .nil))
    | exact QW_cut 20 (by omega) (by repeat (first | exact Prm.nil _ | exact Rem.here _ _ | apply Rem.there | apply Prm.cons)) (.cons rfl (.cons rfl .nil))
  replace hg1 := of_decide_eq_false hg1
  refine RW_skip rfl rfl rfl ?_
  refine RW_skip rfl rfl rfl ?_
  refine RW_skip rfl rfl rfl ?_
  refine RW_skip rfl rfl rfl ?_
  refine RW_skip rfl rfl rfl ?_
  refine RW_skip rfl rfl rfl ?_
  refine RW_skip rfl rfl rfl ?_
  refine RW_skip rfl rfl rfl ?_
  refine RW_skip rfl rfl rfl ?_
  refine RW_skip rfl rfl rfl ?_
  refine RW_skip rfl rfl rfl ?_
  refine RW_l (Yl_pick_f rfl rfl) ?_
  refine RW_lv [0,3,36] ?_
  refine CW_false rfl ?_
  refine CW_skip ?_
  first
   | exact QW_cut nd (by omega) (by repeat (first | exact Prm.nil _ | exact Rem.here _ _ | apply Rem.there | apply Prm.cons)) (.cons rfl (.cons rfl .nil))
   | exact QW_cut 20 (by omega) (by repeat (first | exact Prm.nil _ | exact Rem.here _ _ | apply Rem.there | apply Prm.cons)) (.cons rfl (.cons rfl .nil))
 rintro cc hcc
 refine CW_sr ?_
 refine RW_m ?_
 refine RW_fx rfl rfl rfl (Fx_makeSlice (z0 := .pointer none) (m := 1) (l := 0) (c := (cc : Int)) rfl rfl sl_83 by_90 ze_90 rfl rfl om_ om_ om_ om_) ?_
 rintro _ _ ⟨g0, rfl, rfl⟩
 refine RW_a ?_
 refine RW_lv [0,4] ?_
 refine CW_sr ?_
 refine RW_fx rfl rfl rfl (Fx_makeMap .u32) ?_
 rintro _ _ ⟨bm, rfl, rfl⟩
 refine RW_a ?_
 refine RW_lv [0,4,5] ?_
 refine CW_sr ?_
 refine RW_m ?_
 refine RW_n ?_
 refine RW_f fo_89_1 ?_
 refine RW_h (Yh_ld (v := uv ss) sc_67) ?_
 refine RW_l (Yl_quo (c := (num_ : Int)) rfl rfl om_ (by rw [hnum]; exact quo32 (b := 128) om_)) ?_
 refine RW_l (Yl_conv (c := (num_ : Int)) rfl in_67 in_3 (wi64 om_ om_)) ?_
 refine RW_a ?_
 refine RW_lv [0,4,5,6] ?_
 refine CW_sr ?_
 refine RW_m ?_
 refine RW_n ?_
 refine RW_f fo_89_3 ?_
 refine RW_h (Yh_ld (v := pv bh) sc_82) ?_
 refine RW_n ?_
 refine RW_f fo_137_0 ?_
 refine RW_h (Yh_ld (v := pv bhf) sc_134) ?_
 refine RW_n ?_
 refine RW_f fo_142_10 ?_
 refine RW_h (Yh_lh (v := uv (snx sns 0)) sc_67 hdl) ?_
 refine RW_a ?_
 refine RW_lv [0,4,5,6,7] ?_
 refine CW_seq ?_
 refine CW_block ?_
 refine CW_loop (σ := DrS) (fun q => [(0, pv br), (4, .slice (some ⟨q.g, 0, none⟩) q.rs.length q.cap), (5, .map (some bm)), (6, nv num_), (7, uv (snx sns q.j))]) (fun q => (br, blk (rdF bs ss (.slice (some ⟨bb, 0, none⟩) ss ss) (pv bh) file (.slice none 0 0) wa) 89) :: (bh, blk [pv bhf, .slice (some ⟨bhf, 45, none⟩) 109 109, m1, m2] 137) :: (bhf, blk hc 142) :: (bb, blk q.lb 5) :: (bs, blk [.slice (some ⟨bB, 0, none⟩) N cN] 103) :: (bB, blk (bys B ++ rB) 5) :: (2, blk ps T) :: (5, Obj.cells lp.toArray Tp fp) :: (0, Obj.cells [.iface 181 (.pointer (some ⟨bE.b, bE.o, none⟩))].toArray T0 fz0) :: (bE.b, Obj.cells bE.l.toArray TE fzE) :: (bm, mobj .u32 q.l q.c) :: (q.g, blk (ptrs q.rs.reverse ++ q.r) 90) :: (filsH br q.rs ++ F)) (fun q => q.j ≤ sns.length ∧ q.rs.length = q.j * num_ ∧ q.rs.reverse.map Fil.en = es.take (q.j * num_) ∧ (ptrs q.rs.reverse ++ q.r).length = q.cap ∧ q.lb.length = ss ∧ (∀ p ∈ q.l, ∃ i, 1 ≤ i ∧ i ≤ q.j ∧ p.1 = ((snx sns i : Nat) : Int)) ∧ (∀ i, i < q.j → (snx sns i + 1) * ss + ss ≤ N ∧ o i + 4 ≤ N)) (fun q => sns.length - q.j) ⟨0, g0, cc, List.replicate cc (.pointer none), [], lb0, [], 0⟩ ⟨Nat.zero_le _, by simp, by simp, by simp, hlb0, by simp, fun i hi => by simp only at hi; omega⟩ (by simp only [List.reverse_nil, List.map_nil, List.nil_append, filsH, Int.toNat_natCast, Nat.mul_one]; exact prm_) kp_ ?_
 rintro ⟨j, g, cap, r, rs, lb, l, c⟩ ⟨hj, hrl, hre, hl, hlb, hmap, hfits⟩
 simp only at hj hrl hre hl hlb hmap hfits ⊢
 refine CW_seq ?_
 refine CW_sr ?_
 refine RW_m ?_
 refine RW_l (Yl_neq rfl rfl) ?_
 refine RW_lv [0,4,5,6,7,79] ?_
 refine CW_cd rfl (fun hc4 => ?_) (fun hc4 => ?_)
 ·have hjK : j < sns.length := by
   rcases Nat.lt_or_ge j sns.length with hh | hh
   ·exact hh
   exact absurd (by rw [snx_end sns (show j = sns.length by omega)]; rfl) hc4
  have hsm := hch.small j hjK
  have htop := hch.top j hjK
  have hge := Nat.mul_le_mul_right ss (show 1 ≤ snx sns j + 1 by omega)
  obtain ⟨sect, hsect, hs109, hse, ho, hotop, hnx⟩ := hch.next j hjK
  refine (CW_skip (QW_lv [0,4,5,6,7] ?_))
  refine CW_block ?_
  refine CW_seq ?_
  by_cases hft : (snx sns j + 1) * ss + ss ≤ N
  ·skip
   have hXl : ((B.drop ((snx sns j + 1) * ss)).take ss).length = ss := len_drop_take B _ ss om_
   refine CW_draw [12] _ mixed (Sub.refl _) ?_
   refine RD_m 0 ?_
   refine RD_m 1 ?_
   refine RD_n 2 ?_
   refine RD_f 3 fo_89_1 ?_
   refine RD_m 5 ?_
   refine RD_m 7 ?_
   refine RD_n 8 ?_
   refine RD_f 9 fo_89_1 ?_
   refine RD_h (i := 4) #[true, true, true, true, false, true, false, true, true, true, true, true, false, false, false, false, false, false] rfl rfl rfl rfl kr_ (fun _ _ _ h => h) (Yh_ld (v := uv ss) sc_67) ?_
   refine RD_h (i := 10) #[true, true, true, true, true, true, true, true, true, true, false, false, false, false, false, false, false, false] rfl rfl rfl rfl kr_ (fun _ _ _ h => h) (Yh_ld (v := uv ss) sc_67) ?_
   refine RD_l 11 rfl (Yl_conv (c := (ss : Int)) rfl in_67 in_3 (wi64 om_ om_)) ?_
   refine RD_o 6 ?_
   refine RO_fx rfl rfl rfl rfl (Fx_callQ ok_56 (vs := [uv ss, uv (snx sns j)]) rfl pk_ (fileOffset_ct ss (snx sns j) om_ om_ om_)) ?_
   rintro _ _ ⟨rfl, rfl⟩
   refine ⟨Or.inr (Sub.refl _), ?_⟩
   refine RD_o 12 ?_
   refine RO_fx rfl rfl rfl rfl (Fx_call ok_54 (vs := [pv br, nv ((snx sns j + 1) * ss), nv ss]) rfl pk_ (readAt_ct br bb bs bB ss ss ss N cN ((snx sns j + 1) * ss) B rB lb (rdF bs ss (.slice (some ⟨bb, 0, none⟩) ss ss) (pv bh) file (.slice none 0 0) wa) 5 rfl rfl rfl hB hcN hN om_ om_ om_ om_ om_)) ?_
   rintro _ _ ⟨_, ⟨rfl, rfl⟩, rfl⟩
   rw [spl_full _ _ (by rw [List.length_map, hXl, hlb])]
   refine ⟨Or.inl kr_, ?_⟩
   refine RD_m 13 ?_
   refine RD_l 14 rfl (Yl_extract rfl rfl) ?_
   refine RD_l 15 rfl (Yl_extract rfl rfl) ?_
   refine RD_a 16 ?_
   refine RD_a 17 ?_
   refine (RD_done kr_ (QW_lv [0,4,5,6,7,8,9] ?_))
   refine CW_seq ?_
   refine CW_sr ?_
   refine RW_m ?_
   refine RW_l (Yl_ifNeNil rfl if_105) ?_
   refine RW_lv [0,4,5,6,7,8,9,97] ?_
   refine CW_cond rfl (fun hc5 => ?_) (fun hc5 => ?_)
   ·skip
    exact absurd hc5 (by decide)
   skip
   refine (CW_skip (QW_lv [0,4,5,6,7,8] ?_))
   refine CW_seq ?_
   refine CW_sr ?_
   refine RW_a ?_
   refine RW_lv [0,4,5,6,7,8,10] ?_
   refine CW_block ?_
   refine CW_lp (σ := DrS) (fun q => [(0, pv br), (4, .slice (some ⟨q.g, 0, none⟩) q.rs.length q.cap), (5, .map (some bm)), (6, nv num_), (7, uv (snx sns j)), (8, .slice (some ⟨bb, 0, none⟩) ss ss), (10, nv q.j)]) (fun q => (br, blk (rdF bs ss (.slice (some ⟨bb, 0, none⟩) ss ss) (pv bh) file (.slice none 0 0) wa) 89) :: (bh, blk [pv bhf, .slice (some ⟨bhf, 45, none⟩) 109 109, m1, m2] 137) :: (bhf, blk hc 142) :: (bb, blk (bys ((B.drop ((snx sns j + 1) * ss)).take ss)) 5) :: (bs, blk [.slice (some ⟨bB, 0, none⟩) N cN] 103) :: (bB, blk (bys B ++ rB) 5) :: (2, blk ps T) :: (5, Obj.cells lp.toArray Tp fp) :: (0, Obj.cells [.iface 181 (.pointer (some ⟨bE.b, bE.o, none⟩))].toArray T0 fz0) :: (bE.b, Obj.cells bE.l.toArray TE fzE) :: (bm, mobj .u32 l c) :: (q.g, blk (ptrs q.rs.reverse ++ q.r) 90) :: (filsH br q.rs ++ F)) (fun q => q.j ≤ num_ ∧ q.rs.length = j * num_ + q.j ∧ q.rs.reverse.map Fil.en = es.take (j * num_ + q.j) ∧ (ptrs q.rs.reverse ++ q.r).length = q.cap) (fun q => num_ - q.j) ⟨0, g, cap, r, rs, [], l, c⟩ ⟨Nat.zero_le _, by simpa using hrl, by simpa using hre, hl⟩ ?_
   rintro ⟨i, g, cap, r, rs, lbX, lX, cX⟩ ⟨hi, hrl2, hre2, hl⟩
   simp only at hi hrl2 hre2 hl ⊢
   refine CW_seq ?_
   refine CW_sr ?_
   refine RW_m ?_
   refine RW_m ?_
   refine RW_l (Yl_lss rfl rfl) ?_
   refine RW_lv [0,4,5,6,7,8,10,112] ?_
   refine CW_cd rfl (fun hc6 => ?_) (fun hc6 => ?_)
   ·refine (CW_skip (QW_lv [0,4,5,6,7,8,10] ?_))
    refine CW_seq ?_
    refine CW_block ?_
    refine CW_seq ?_
    have hlen2 : (j * num_ + i) < es.length := by rw [hes]; have := Nat.mul_le_mul_right num_ (show j + 1 ≤ sns.length by omega); rw [Nat.succ_mul] at this; omega
    obtain ⟨e, he⟩ : ∃ e, e = es.getD (j * num_ + i) default := ⟨_, rfl⟩
    have hen : EnOk ps ver ((B.drop ((snx sns j + 1) * ss)).take ss) (i * 128) e := by rw [he]; exact hent j hjK hft i om_
    refine CW_region ?_
    refine RW_m ?_
    refine RW_l (Yl_build (cs := [.string (bar []), .int .u16 0, .slice none 0 0, .int .i64 0, .int .i64 0, .int .u32 0, .int .i64 0, .pointer none, pv br]) pl_93 ze_93 rfl rfl) ?_
    refine RW_fx rfl rfl rfl (Fx_box (zs := [.string (bar []), .int .u16 0, .slice none 0 0, .int .i64 0, .int .i64 0, .int .u32 0, .int .i64 0, .pointer none, pv br]) rfl rfl) ?_
    rintro _ _ ⟨bf, rfl, rfl⟩
    refine RW_a ?_
    refine RW_lv [0,4,5,6,7,8,10,11] ?_
    refine CW_sr ?_
    refine RW_m ?_
    refine RW_m ?_
    refine RW_m ?_
    refine RW_l (Yl_mul (c := ((i * 128 : Nat) : Int)) rfl rfl (mulN (a := i) (b := 128) om_)) ?_
    refine RW_l (Yl_cutLO (b := bb) (off := 0) (l := i * 128) (m := ss) (c := ss) (o' := i * 128) (m' := ss - i * 128) (c' := ss - i * 128) rfl rfl sl_23 om_ om_ om_ rfl rfl) ?_
    refine RW_fx rfl rfl rfl (Fx_call ok_58 (vs := [.slice (some ⟨bb, i * 128, none⟩) (ss - i * 128) (ss - i * 128)]) rfl pk_ (makeDirEntry_ct bb (i * 128) (ss - i * 128) (ss - i * 128) ((B.drop ((snx sns j + 1) * ss)).take ss) om_ om_ om_)) ?_
    rintro _ _ ⟨_, ⟨bd, rfl, rfl⟩, rfl⟩
    simp only [List.cons_append, List.nil_append]
    refine RW_n ?_
    refine RW_f fo_93_7 ?_
    refine RW_fx0 rfl rfl (Fx_store (v := pv bd) (b := bf) (off := 7) (T := 93) (l := [.string (bar []), .int .u16 0, .slice none 0 0, .int .i64 0, .int .i64 0, .int .u32 0, .int .i64 0, .pointer none, pv br]) rfl rfl sz_91 rfl rep_ (by simp only [List.length_cons, List.length_nil]; omega)) ?_
    rintro _ _ rfl
    refine RW_lv [0,4,5,6,7,8,10,11] ?_
    refine CW_seq ?_
    rw [← hen.dc]
    refine CW_region ?_
    refine RW_m ?_
    refine RW_n ?_
    refine RW_f fo_89_3 ?_
    refine RW_h (Yh_ld (v := pv bh) sc_82) ?_
    refine RW_n ?_
    refine RW_f fo_137_0 ?_
    refine RW_h (Yh_ld (v := pv bhf) sc_134) ?_
    refine RW_n ?_
    refine RW_f fo_142_3 ?_
    refine RW_h (Yh_lh (v := .int .u16 (ver : Int)) sc_47 hver) ?_
    refine RW_m ?_
    refine RW_fx rfl rfl rfl (Fx_call ok_59 (vs := [.int .u16 (ver : Int), pv bf]) rfl (Pick.cons rem_ (Pick.cons rem_ (Pick.cons rem_ (Pick.nil _)))) (fixFile_en (br := br) (bf := bf) (bd := bd) (T := T) hen hv4)) ?_
    rintro _ _ ⟨_, ⟨rfl, rfl⟩, rfl⟩
    simp only [List.cons_append, List.nil_append]
    refine RW_lv [0,4,5,6,7,8,10,11] ?_
    refine CW_sr ?_
    refine RW_m ?_
    refine RW_m ?_
    refine RW_n ?_
    refine RW_f fo_93_7 ?_
    refine RW_h (Yh_ld (v := pv bd) sc_91) ?_
    refine RW_n ?_
    refine RW_f fo_112_11 ?_
    refine RW_h (Yh_load (v := uv e.cur) rfl sc_67 mem_ (by rw [hen.dc]; exact hen.cur)) ?_
    refine RW_n ?_
    refine RW_f fo_93_5 ?_
    refine RW_fx0 rfl rfl (Fx_store (v := uv e.cur) (b := bf) (off := 5) (T := 93) (l := fiF e.nm e.ini (.slice none 0 0) e.size 0 0 0 bd br) rfl rfl sz_67 rfl rep_ (by simp [fiF])) ?_
    rintro _ _ rfl
    refine RW_lv [0,4,5,6,7,8,10,11] ?_
    refine CW_region ?_
    refine RW_m ?_
    refine RW_m ?_
    refine RW_fx rfl rfl rfl (Fx_litS (vs := [pv bf]) sl_83 ze_90 rfl rfl rfl rfl rfl) ?_
    rintro _ _ ⟨b150, rfl, rfl⟩
    refine RW_fx rfl rfl rfl (Fx_appT (xs := ptrs rs.reverse) (r := r) (news := [pv bf]) (n := rs.length) (cap := cap) (z0 := .pointer none) (q := 1) rfl rfl sl_83 by_90 ze_90 rfl rfl rem_ rem_ (by rw [hl]; omega) (by simp) rfl (by simp [Value.oneCell']) om_ om_ om_) ?_
    rintro _ _ ⟨g', cap', r', rfl, hl', rfl⟩
    refine RW_a ?_
    refine RW_nil ?_
    refine QW_normal_block ?_
    refine (QW_lv [0,4,5,6,7,8,10] ?_)
    refine CW_region ?_
    refine RW_m ?_
    refine RW_l (Yl_add (c := ((i + 1 : Nat) : Int)) rfl rfl (wi64 om_ om_)) ?_
    refine RW_a ?_
    refine RW_nil ?_
    have htk : es.take (j * num_ + (i + 1)) = es.take (j * num_ + i) ++ [e] := by rw [← Nat.add_assoc, List.take_succ_eq_append_getElem hlen2]; congr 2; rw [he]; simp [List.getD_eq_getElem?_getD, hlen2]
    refine QW_round ⟨i + 1, g', cap', r', ⟨bf, bd, e⟩ :: rs, [], [], 0⟩ ⟨by simp only; omega, by simp only [List.length_cons]; omega, ?_, ?_⟩ (by simp only; omega) ?_ kp_
    ·simp only [List.reverse_cons, List.map_append, List.map_cons, List.map_nil]; rw [htk, ← hre2]
    ·simp only [List.reverse_cons, List.map_append, List.map_cons, List.map_nil]; rw [← Nat.mul_one cap']; exact hl'
    simp only [List.reverse_cons, List.map_append, List.map_cons, List.map_nil, filsH, enB, List.cons_append, hen.path, hen.pos, hen.rem]; exact prm_
   refine CW_exit ?_
   refine QW_exit_then ?_
   refine QW_exit_then ?_
   refine QW_exit_block ?_
   refine (QW_lv [0,4,5,6,7] ?_)
   refine CW_seq ?_
   have hin : i = num_ := by omega
   rw [hin] at hrl2 hre2
   by_cases hlk : o j + 4 ≤ N
   ·skip
    have hfn := findNext_ct br bh bhf bs bB ss (snx sns j) sect 45 109 109 (o j) N cN B rB (rdF bs ss (.slice (some ⟨bb, 0, none⟩) ss ss) (pv bh) file (.slice none 0 0) wa) [pv bhf, .slice (some ⟨bhf, 45, none⟩) 109 109, m1, m2] hc 142 rfl rfl rfl rfl hsect hs109 om_ om_ om_ om_ ho hlk hB hcN hN
    rw [hnx hlk] at hfn
    refine CW_region ?_
    refine RW_m ?_
    refine RW_m ?_
    refine RW_fx rfl rfl rfl (Fx_callQ ok_60 (vs := [pv br, uv (snx sns j), .bool false]) (R := fun v => v = .tuple #[uv (snx sns (j + 1)), .nilIface]) rfl pk_ hfn) ?_
    rintro _ _ ⟨rfl, rfl⟩
    refine RW_m ?_
    refine RW_l (Yl_extract rfl rfl) ?_
    refine RW_l (Yl_extract rfl rfl) ?_
    refine RW_a ?_
    refine RW_a ?_
    refine RW_lv [0,4,5,6,7,9,12] ?_
    refine CW_seq ?_
    refine CW_sr ?_
    refine RW_m ?_
    refine RW_l (Yl_ifNeNil rfl if_105) ?_
    refine RW_lv [0,4,5,6,7,9,12,159] ?_
    refine CW_cond rfl (fun hc7 => ?_) (fun hc7 => ?_)
    ·skip
     exact absurd hc7 (by decide)
    skip
    refine (CW_skip (QW_lv [0,4,5,6,7,12] ?_))
    refine CW_seq ?_
    refine CW_sr ?_
    refine RW_m ?_
    refine RW_m ?_
    refine RW_l (Yl_leq rfl rfl) ?_
    refine RW_lv [0,4,5,6,7,12,170] ?_
    refine CW_cd rfl (fun hc8 => ?_) (fun hc8 => ?_)
    ·refine CW_seq ?_
     refine CW_sr ?_
     refine RW_m ?_
     refine RW_m ?_
     refine RW_l (Yl_eql rfl rfl) ?_
     refine RW_m ?_
     refine RW_bool 174 rfl (fun hg9 => ?_) (fun hg9 => ?_)
     ·replace hg9 := of_decide_eq_true hg9
      exact absurd (by exact_mod_cast hg9) (hch.ne (i := j) (j := j + 1) om_ om_ om_).symm
     replace hg9 := of_decide_eq_false hg9
     refine RW_gy rfl rfl rfl (Yl.h (Yl_move rfl)) ?_
     refine RW_gy rfl rfl rfl (Yl.h (Yl_move rfl)) ?_
     refine RW_gy rfl rfl rfl (Yh_lookup (v := .bool false) (n := ((snx sns (j + 1) : Nat) : Int)) (k := .u32) (l := l) (c := c) rfl rfl mp_143 in_67 zm_4 mem_ (by rw [mfind_none (by intro p hp; obtain ⟨i, hi1, hi2, hi3⟩ := hmap p hp; rw [hi3]; intro e; exact hch.ne (i := i) (j := j + 1) om_ om_ om_ (by exact_mod_cast e))]; rfl)) ?_
     refine RW_l (Yl_pick_f rfl rfl) ?_
     refine RW_lv [0,4,5,6,12,178] ?_
     refine CW_false rfl ?_
     refine (CW_skip (QW_lv [0,4,5,6,12] ?_))
     refine CW_region ?_
     refine RW_m ?_
     refine RW_m ?_
     refine RW_fx0 rfl rfl (Fx_mapUpdate (n := ((snx sns (j + 1) : Nat) : Int)) (v := .bool true) (k := .u32) (l := l) (c := c) rfl rfl rfl mp_143 in_67 rep_ (by intro p hp; obtain ⟨i, hi1, hi2, hi3⟩ := hmap p hp; rw [hi3]; intro e; exact hch.ne (i := i) (j := j + 1) om_ om_ om_ (by exact_mod_cast e))) ?_
     rintro _ _ ⟨rfl, rfl⟩
     refine RW_lv [0,4,5,6,12] ?_
     refine CW_region ?_
     refine RW_m ?_
     refine RW_a ?_
     refine RW_nil ?_
     refine QW_normal_block ?_
     first
      | (refine QW_round ⟨j + 1, g, cap, r, rs, bys ((B.drop ((snx sns j + 1) * ss)).take ss), l, c⟩ ⟨by simp only; omega, by simp only; rw [hrl2, Nat.succ_mul], by simp only; rw [hre2, Nat.succ_mul], hl, by rw [List.length_map]; exact hXl, (by intro p hp; obtain ⟨i, hi1, hi2, hi3⟩ := hmap p hp; exact ⟨i, hi1, by simp only; omega, hi3⟩), (by intro i hi; simp only at hi; rcases Nat.lt_or_ge i j with h | h; exact hfits i h; obtain rfl : i = j := (by omega); exact ⟨hft, hlk⟩)⟩ (by simp only; omega) ?_ (.cons rfl (.cons rfl (.cons rfl (.cons rfl (.cons rfl .nil))))); (repeat (first | exact Prm.nil _ | exact Rem.here _ _ | apply Rem.there | apply Prm.cons)); done)
      | (refine QW_round ⟨j + 1, g, cap, r, rs, bys ((B.drop ((snx sns j + 1) * ss)).take ss), l ++ [(((snx sns (j + 1) : Nat) : Int), .bool true, c)], c + 1⟩ ⟨by simp only; omega, by simp only; rw [hrl2, Nat.succ_mul], by simp only; rw [hre2, Nat.succ_mul], hl, by rw [List.length_map]; exact hXl, (by intro p hp; rcases List.mem_append.1 hp with hp | hp; (obtain ⟨i, hi1, hi2, hi3⟩ := hmap p hp; exact ⟨i, hi1, by simp only; omega, hi3⟩); (rw [List.mem_singleton.1 hp]; exact ⟨j + 1, by omega, by simp only; omega, rfl⟩)), (by intro i hi; simp only at hi; rcases Nat.lt_or_ge i j with h | h; exact hfits i h; obtain rfl : i = j := (by omega); exact ⟨hft, hlk⟩)⟩ (by simp only; omega) ?_ (.cons rfl (.cons rfl (.cons rfl (.cons rfl (.cons rfl .nil))))); (repeat (first | exact Prm.nil _ | exact Rem.here _ _ | apply Rem.there | apply Prm.cons)); done)
    refine (CW_skip (QW_lv [0,4,5,6,12] ?_))
    refine CW_region ?_
    refine RW_m ?_
    refine RW_a ?_
    refine RW_nil ?_
    refine QW_normal_block ?_
    first
     | (refine QW_round ⟨j + 1, g, cap, r, rs, bys ((B.drop ((snx sns j + 1) * ss)).take ss), l, c⟩ ⟨by simp only; omega, by simp only; rw [hrl2, Nat.succ_mul], by simp only; rw [hre2, Nat.succ_mul], hl, by rw [List.length_map]; exact hXl, (by intro p hp; obtain ⟨i, hi1, hi2, hi3⟩ := hmap p hp; exact ⟨i, hi1, by simp only; omega, hi3⟩), (by intro i hi; simp only at hi; rcases Nat.lt_or_ge i j with h | h; exact hfits i h; obtain rfl : i = j := (by omega); exact ⟨hft, hlk⟩)⟩ (by simp only; omega) ?_ (.cons rfl (.cons rfl (.cons rfl (.cons rfl (.cons rfl .nil))))); (repeat (first | exact Prm.nil _ | exact Rem.here _ _ | apply Rem.there | apply Prm.cons)); done)
     | (refine QW_round ⟨j + 1, g, cap, r, rs, bys ((B.drop ((snx sns j + 1) * ss)).take ss), l ++ [(((snx sns (j + 1) : Nat) : Int), .bool true, c)], c + 1⟩ ⟨by simp only; omega, by simp only; rw [hrl2, Nat.succ_mul], by simp only; rw [hre2, Nat.succ_mul], hl, by rw [List.length_map]; exact hXl, (by intro p hp; rcases List.mem_append.1 hp with hp | hp; (obtain ⟨i, hi1, hi2, hi3⟩ := hmap p hp; exact ⟨i, hi1, by simp only; omega, hi3⟩); (rw [List.mem_singleton.1 hp]; exact ⟨j + 1, by omega, by simp only; omega, rfl⟩)), (by intro i hi; simp only at hi; rcases Nat.lt_or_ge i j with h | h; exact hfits i h; obtain rfl : i = j := (by omega); exact ⟨hft, hlk⟩)⟩ (by simp only; omega) ?_ (.cons rfl (.cons rfl (.cons rfl (.cons rfl (.cons rfl .nil))))); (repeat (first | exact Prm.nil _ | exact Rem.here _ _ | apply Rem.there | apply Prm.cons)); done)
   skip
   have hfs := findNextShort_ct br bh bhf bs bB ss (snx sns j) sect 45 109 109 (o j) N cN B rB (rdF bs ss (.slice (some ⟨bb, 0, none⟩) ss ss) (pv bh) file (.slice none 0 0) wa) [pv bhf, .slice (some ⟨bhf, 45, none⟩) 109 109, m1, m2] hc 142 bE T0 TE fz0 fzE rfl rfl rfl rfl hsect hs109 om_ om_ om_ om_ ho om_ hB hcN hN
   refine CW_region ?_
   refine RW_m ?_
   refine RW_m ?_
   refine RW_fx rfl rfl rfl (Fx_callQ ok_60 (vs := [pv br, uv (snx sns j), .bool false]) (R := fun v => v = .tuple #[uv 0, .iface 123 (.agg #[nv 1, .string (bar fnMsg), nv (o j)])]) rfl pk_ hfs) ?_
   rintro _ _ ⟨rfl, rfl⟩
   refine RW_m ?_
   refine RW_l (Yl_extract rfl rfl) ?_
   refine RW_l (Yl_extract rfl rfl) ?_
   refine RW_a ?_
   refine RW_a ?_
   refine RW_lv [0,4,5,6,7,9,12] ?_
   refine CW_seq ?_
   refine CW_sr ?_
   refine RW_m ?_
   refine RW_l (Yl_ifNe rfl if_105) ?_
   refine RW_lv [0,4,5,6,7,9,12,159] ?_
   refine CW_cond rfl (fun hc10 => ?_) (fun hc10 => ?_)
   ·skip
    refine CW_sr ?_
    refine RW_m ?_
    refine RW_fx rfl rfl rfl (Fx_invokeQ (T := 123) (v := .agg #[nv 1, .string (bar fnMsg), nv (o j)]) (vs := []) (R := fun v => ∃ s : List UInt8, s.length ≤ fnMsg.length + 15 ∧ v = .string (bar s)) rfl mt_123 pt_123 ok_98 rfl (Pick.cons rem_ (Pick.nil _)) (errError_ct 1 (o j) fnMsg (by decide) om_ om_ lp Tp fp hp)) ?_
    rintro _ _ ⟨⟨s, hs, rfl⟩, rfl⟩
    refine RW_l (Yl_concatB (a := [100, 105, 114, 101, 99, 116, 111, 114, 121, 32, 101, 110, 116, 114, 105, 101, 115, 32, 101, 114, 114, 111, 114, 32, 102, 105, 110, 100, 105, 110, 103, 32, 115, 101, 99, 116, 111, 114, 32, 40]) (b := s) rfl rfl (by simp [fnMsg] at hs ⊢; omega)) ?_
    refine RW_l (Yl_concatB (a := [100, 105, 114, 101, 99, 116, 111, 114, 121, 32, 101, 110, 116, 114, 105, 101, 115, 32, 101, 114, 114, 111, 114, 32, 102, 105, 110, 100, 105, 110, 103, 32, 115, 101, 99, 116, 111, 114, 32, 40] ++ s) (b := [41]) rfl rfl (by simp [fnMsg] at hs ⊢; omega)) ?_
    refine RW_m ?_
    refine RW_l (Yl_conv (c := 0) rfl in_67 in_2 (wi64 om_ om_)) ?_
    refine RW_l (Yl_build (cs := [nv 1, .string (bar (([100, 105, 114, 101, 99, 116, 111, 114, 121, 32, 101, 110, 116, 114, 105, 101, 115, 32, 101, 114, 114, 111, 114, 32, 102, 105, 110, 100, 105, 110, 103, 32, 115, 101, 99, 116, 111, 114, 32, 40] ++ s) ++ [41])), .int .i64 0]) pl_123 ze_123 rfl rfl) ?_
    refine RW_l (Yl_iface rfl co_123) ?_
    refine RW_a ?_
    refine RW_lv [2] ?_
    refine CW_ret ?_
    refine QW_ret_then ?_
    refine QW_ret_block ?_
    refine QW_ret_then ?_
    refine QW_ret_block ?_
    refine QW_ret_then ?_
    first
     | (refine QW_dropB (e := (bm, _)) (by repeat (first | exact Rem.here _ _ | apply Rem.there)) ?_; exact QW_heap (List.Perm.append_left [_, _, _, _, _, _, _, _, _, _, _] (List.Perm.append_right F (filsH_rev br rs).symm)) (QW_ret1 rfl rfl (_ :: _ :: _ :: _ :: _ :: _ :: _ :: _ :: _ :: _ :: _ :: filsH br rs.reverse) (.inl ⟨hfitall, rfl, g, cap, r, lb, rs.reverse, hre, hl, hlb, by rw [hlen]; rfl⟩) (Prm.nil _)))
     | (refine QW_heap (Prm.perm (show Prm _ ((2, blk ps T) :: (5, Obj.cells lp.toArray Tp fp) :: (0, Obj.cells [.iface 181 (.pointer (some ⟨bE.b, bE.o, none⟩))].toArray T0 fz0) :: (bE.b, Obj.cells bE.l.toArray TE fzE) :: _) from Prm.cons (by repeat (first | exact Rem.here _ _ | apply Rem.there)) (Prm.cons (by repeat (first | exact Rem.here _ _ | apply Rem.there)) (Prm.cons (by repeat (first | exact Rem.here _ _ | apply Rem.there)) (Prm.cons (by repeat (first | exact Rem.here _ _ | apply Rem.there)) (Prm.nil _)))))) ?_; refine QW_sub (H' := (2, blk ps T) :: (5, Obj.cells lp.toArray Tp fp) :: (0, Obj.cells [.iface 181 (.pointer (some ⟨bE.b, bE.o, none⟩))].toArray T0 fz0) :: (bE.b, Obj.cells bE.l.toArray TE fzE) :: F) (by repeat (first | exact List.Sublist.refl _ | exact List.sublist_append_right _ _ | apply List.Sublist.cons_cons | apply List.Sublist.cons)) ?_; exact QW_ret1 rfl rfl [(2, blk ps T), (5, Obj.cells lp.toArray Tp fp), (0, Obj.cells [.iface 181 (.pointer (some ⟨bE.b, bE.o, none⟩))].toArray T0 fz0), (bE.b, Obj.cells bE.l.toArray TE fzE)] (.inr ⟨fun hf => absurd (hf j hjK).1 (by omega), ⟨_, _, _, by omega, rfl⟩, rfl⟩) (Prm.nil _))
     | (refine QW_heap (Prm.perm (show Prm _ ((2, blk ps T) :: (5, Obj.cells lp.toArray Tp fp) :: (0, Obj.cells [.iface 181 (.pointer (some ⟨bE.b, bE.o, none⟩))].toArray T0 fz0) :: (bE.b, Obj.cells bE.l.toArray TE fzE) :: _) from Prm.cons (by repeat (first | exact Rem.here _ _ | apply Rem.there)) (Prm.cons (by repeat (first | exact Rem.here _ _ | apply Rem.there)) (Prm.cons (by repeat (first | exact Rem.here _ _ | apply Rem.there)) (Prm.cons (by repeat (first | exact Rem.here _ _ | apply Rem.there)) (Prm.nil _)))))) ?_; refine QW_sub (H' := (2, blk ps T) :: (5, Obj.cells lp.toArray Tp fp) :: (0, Obj.cells [.iface 181 (.pointer (some ⟨bE.b, bE.o, none⟩))].toArray T0 fz0) :: (bE.b, Obj.cells bE.l.toArray TE fzE) :: F) (by repeat (first | exact List.Sublist.refl _ | exact List.sublist_append_right _ _ | apply List.Sublist.cons_cons | apply List.Sublist.cons)) ?_; exact QW_ret1 rfl rfl [(2, blk ps T), (5, Obj.cells lp.toArray Tp fp), (0, Obj.cells [.iface 181 (.pointer (some ⟨bE.b, bE.o, none⟩))].toArray T0 fz0), (bE.b, Obj.cells bE.l.toArray TE fzE)] (.inr ⟨fun hf => absurd (hf j hjK).2 (by omega), ⟨_, _, _, by omega, rfl⟩, rfl⟩) (Prm.nil _))
   skip
   exact absurd hc10 (by decide)
  skip
  refine CW_draw [12] _ mixed (Sub.refl _) ?_
  refine RD_m 0 ?_
  refine RD_m 1 ?_
  refine RD_n 2 ?_
  refine RD_f 3 fo_89_1 ?_
  refine RD_m 5 ?_
  refine RD_m 7 ?_
  refine RD_n 8 ?_
  refine RD_f 9 fo_89_1 ?_
  refine RD_h (i := 4) #[true, true, true, true, false, true, false, true, true, true, true, true, false, false, false, false, false, false] rfl rfl rfl rfl kr_ (fun _ _ _ h => h) (Yh_ld (v := uv ss) sc_67) ?_
  refine RD_h (i := 10) #[true, true, true, true, true, true, true, true, true, true, false, false, false, false, false, false, false, false] rfl rfl rfl rfl kr_ (fun _ _ _ h => h) (Yh_ld (v := uv ss) sc_67) ?_
  refine RD_l 11 rfl (Yl_conv (c := (ss : Int)) rfl in_67 in_3 (wi64 om_ om_)) ?_
  refine RD_o 6 ?_
  refine RO_fx rfl rfl rfl rfl (Fx_callQ ok_56 (vs := [uv ss, uv (snx sns j)]) rfl pk_ (fileOffset_ct ss (snx sns j) om_ om_ om_)) ?_
  rintro _ _ ⟨rfl, rfl⟩
  refine ⟨Or.inr (Sub.refl _), ?_⟩
  refine RD_o 12 ?_
  refine RO_fx rfl rfl rfl rfl (Fx_call ok_54 (vs := [pv br, nv ((snx sns j + 1) * ss), nv ss]) rfl pk_ (readShort_ct br bb bs bB ss ss ss N cN ((snx sns j + 1) * ss) B rB lb (rdF bs ss (.slice (some ⟨bb, 0, none⟩) ss ss) (pv bh) file (.slice none 0 0) wa) 5 bE T0 TE fz0 fzE rfl rfl rfl hB hcN hN om_ om_ om_ om_ om_ om_)) ?_
  rintro _ _ ⟨_, ⟨rfl, rfl⟩, rfl⟩
  refine ⟨Or.inl kr_, ?_⟩
  refine RD_m 13 ?_
  refine RD_l 14 rfl (Yl_extract rfl rfl) ?_
  refine RD_l 15 rfl (Yl_extract rfl rfl) ?_
  refine RD_a 16 ?_
  refine RD_a 17 ?_
  refine (RD_done kr_ (QW_lv [0,4,5,6,7,8,9] ?_))
  refine CW_seq ?_
  refine CW_sr ?_
  refine RW_m ?_
  refine RW_l (Yl_ifNe rfl if_105) ?_
  refine RW_lv [0,4,5,6,7,8,9,97] ?_
  refine CW_cond rfl (fun hc11 => ?_) (fun hc11 => ?_)
  ·skip
   refine CW_seq ?_
   refine CW_draw [1] _ mixed (Sub.refl _) ?_
   refine RD_m 0 ?_
   refine RD_m 4 ?_
   refine RD_n 5 ?_
   refine RD_f 6 fo_89_1 ?_
   refine RD_m 8 ?_
   refine RD_two (i := 1) (j := 7) kr_ ?_ ?_
   ·skip
    refine RO_fx rfl rfl rfl rfl (Fx_invokeQ (T := 123) (v := .agg #[nv 1, .string (bar [69, 79, 70]), nv ((snx sns j + 1) * ss)]) (vs := []) (R := fun v => ∃ s : List UInt8, s.length ≤ [69, 79, 70].length + 15 ∧ v = .string (bar s)) rfl mt_123 pt_123 ok_98 rfl (Pick.cons rem_ (Pick.nil _)) (errError_ct 1 ((snx sns j + 1) * ss) [69, 79, 70] (by decide) om_ om_ lp Tp fp hp)) ?_
    rintro _ _ ⟨⟨s, hs, rfl⟩, rfl⟩
    refine ⟨Or.inl kr_, ?_⟩
    refine RD_l 2 rfl (Yl_concatB (a := [100, 105, 114, 101, 99, 116, 111, 114, 121, 32, 101, 110, 116, 114, 105, 101, 115, 32, 114, 101, 97, 100, 32, 101, 114, 114, 111, 114, 32, 40]) (b := s) rfl rfl (by simp at hs ⊢; omega)) ?_
    refine RD_l 3 rfl (Yl_concatB (a := [100, 105, 114, 101, 99, 116, 111, 114, 121, 32, 101, 110, 116, 114, 105, 101, 115, 32, 114, 101, 97, 100, 32, 101, 114, 114, 111, 114, 32, 40] ++ s) (b := [41]) rfl rfl (by simp at hs ⊢; omega)) ?_
    refine RD_o 7 ?_
    refine RO_fx rfl rfl rfl rfl (Yh.fx (Yh_ld (v := uv ss) sc_67)) ?_
    rintro _ _ ⟨rfl, rfl⟩
    refine ⟨Or.inl kr_, ?_⟩
    refine RD_o 9 ?_
    refine RO_fx rfl rfl rfl rfl (Fx_callQ ok_56 (vs := [uv ss, uv (snx sns j)]) rfl pk_ (fileOffset_ct ss (snx sns j) om_ om_ om_)) ?_
    rintro _ _ ⟨rfl, rfl⟩
    refine ⟨Or.inl kr_, ?_⟩
    refine RD_l 10 rfl (Yl_build (cs := [nv 1, .string (bar (([100, 105, 114, 101, 99, 116, 111, 114, 121, 32, 101, 110, 116, 114, 105, 101, 115, 32, 114, 101, 97, 100, 32, 101, 114, 114, 111, 114, 32, 40] ++ s) ++ [41])), nv ((snx sns j + 1) * ss)]) pl_123 ze_123 rfl rfl) ?_
    refine RD_l 11 rfl (Yl_iface rfl co_123) ?_
    refine RD_a 12 ?_
    refine (RD_done kr_ (QW_lv [2] ?_))
    refine CW_ret ?_
    refine QW_ret_then ?_
    refine QW_ret_block ?_
    refine QW_ret_then ?_
    refine QW_ret_block ?_
    refine QW_ret_then ?_
    first
     | (refine QW_dropB (e := (bm, _)) (by repeat (first | exact Rem.here _ _ | apply Rem.there)) ?_; exact QW_heap (List.Perm.append_left [_, _, _, _, _, _, _, _, _, _, _] (List.Perm.append_right F (filsH_rev br rs).symm)) (QW_ret1 rfl rfl (_ :: _ :: _ :: _ :: _ :: _ :: _ :: _ :: _ :: _ :: _ :: filsH br rs.reverse) (.inl ⟨hfitall, rfl, g, cap, r, lb, rs.reverse, hre, hl, hlb, by rw [hlen]; rfl⟩) (Prm.nil _)))
     | (refine QW_heap (Prm.perm (show Prm _ ((2, blk ps T) :: (5, Obj.cells lp.toArray Tp fp) :: (0, Obj.cells [.iface 181 (.pointer (some ⟨bE.b, bE.o, none⟩))].toArray T0 fz0) :: (bE.b, Obj.cells bE.l.toArray TE fzE) :: _) from Prm.cons (by repeat (first | exact Rem.here _ _ | apply Rem.there)) (Prm.cons (by repeat (first | exact Rem.here _ _ | apply Rem.there)) (Prm.cons (by repeat (first | exact Rem.here _ _ | apply Rem.there)) (Prm.cons (by repeat (first | exact Rem.here _ _ | apply Rem.there)) (Prm.nil _)))))) ?_; refine QW_sub (H' := (2, blk ps T) :: (5, Obj.cells lp.toArray Tp fp) :: (0, Obj.cells [.iface 181 (.pointer (some ⟨bE.b, bE.o, none⟩))].toArray T0 fz0) :: (bE.b, Obj.cells bE.l.toArray TE fzE) :: F) (by repeat (first | exact List.Sublist.refl _ | exact List.sublist_append_right _ _ | apply List.Sublist.cons_cons | apply List.Sublist.cons)) ?_; exact QW_ret1 rfl rfl [(2, blk ps T), (5, Obj.cells lp.toArray Tp fp), (0, Obj.cells [.iface 181 (.pointer (some ⟨bE.b, bE.o, none⟩))].toArray T0 fz0), (bE.b, Obj.cells bE.l.toArray TE fzE)] (.inr ⟨fun hf => absurd (hf j hjK).1 (by omega), ⟨_, _, _, by omega, rfl⟩, rfl⟩) (Prm.nil _))
     | (refine QW_heap (Prm.perm (show Prm _ ((2, blk ps T) :: (5, Obj.cells lp.toArray Tp fp) :: (0, Obj.cells [.iface 181 (.pointer (some ⟨bE.b, bE.o, none⟩))].toArray T0 fz0) :: (bE.b, Obj.cells bE.l.toArray TE fzE) :: _) from Prm.cons (by repeat (first | exact Rem.here _ _ | apply Rem.there)) (Prm.cons (by repeat (first | exact Rem.here _ _ | apply Rem.there)) (Prm.cons (by repeat (first | exact Rem.here _ _ | apply Rem.there)) (Prm.cons (by repeat (first | exact Rem.here _ _ | apply Rem.there)) (Prm.nil _)))))) ?_; refine QW_sub (H' := (2, blk ps T) :: (5, Obj.cells lp.toArray Tp fp) :: (0, Obj.cells [.iface 181 (.pointer (some ⟨bE.b, bE.o, none⟩))].toArray T0 fz0) :: (bE.b, Obj.cells bE.l.toArray TE fzE) :: F) (by repeat (first | exact List.Sublist.refl _ | exact List.sublist_append_right _ _ | apply List.Sublist.cons_cons | apply List.Sublist.cons)) ?_; exact QW_ret1 rfl rfl [(2, blk ps T), (5, Obj.cells lp.toArray Tp fp), (0, Obj.cells [.iface 181 (.pointer (some ⟨bE.b, bE.o, none⟩))].toArray T0 fz0), (bE.b, Obj.cells bE.l.toArray TE fzE)] (.inr ⟨fun hf => absurd (hf j hjK).2 (by omega), ⟨_, _, _, by omega, rfl⟩, rfl⟩) (Prm.nil _))
   skip
   refine RO_fx rfl rfl rfl rfl (Yh.fx (Yh_ld (v := uv ss) sc_67)) ?_
   rintro _ _ ⟨rfl, rfl⟩
   refine ⟨Or.inr (Sub.refl _), ?_⟩
   refine RD_o 1 ?_
   refine RO_fx rfl rfl rfl rfl (Fx_invokeQ (T := 123) (v := .agg #[nv 1, .string (bar [69, 79, 70]), nv ((snx sns j + 1) * ss)]) (vs := []) (R := fun v => ∃ s : List UInt8, s.length ≤ [69, 79, 70].length + 15 ∧ v = .string (bar s)) rfl mt_123 pt_123 ok_98 rfl (Pick.cons rem_ (Pick.nil _)) (errError_ct 1 ((snx sns j + 1) * ss) [69, 79, 70] (by decide) om_ om_ lp Tp fp hp)) ?_
   rintro _ _ ⟨⟨s, hs, rfl⟩, rfl⟩
   refine ⟨Or.inl kr_, ?_⟩
   refine RD_l 2 rfl (Yl_concatB (a := [100, 105, 114, 101, 99, 116, 111, 114, 121, 32, 101, 110, 116, 114, 105, 101, 115, 32, 114, 101, 97, 100, 32, 101, 114, 114, 111, 114, 32, 40]) (b := s) rfl rfl (by simp at hs ⊢; omega)) ?_
   refine RD_l 3 rfl (Yl_concatB (a := [100, 105, 114, 101, 99, 116, 111, 114, 121, 32, 101, 110, 116, 114, 105, 101, 115, 32, 114, 101, 97, 100, 32, 101, 114, 114, 111, 114, 32, 40] ++ s) (b := [41]) rfl rfl (by simp at hs ⊢; omega)) ?_
   refine RD_o 9 ?_
   refine RO_fx rfl rfl rfl rfl (Fx_callQ ok_56 (vs := [uv ss, uv (snx sns j)]) rfl pk_ (fileOffset_ct ss (snx sns j) om_ om_ om_)) ?_
   rintro _ _ ⟨rfl, rfl⟩
   refine ⟨Or.inl kr_, ?_⟩
   refine RD_l 10 rfl (Yl_build (cs := [nv 1, .string (bar (([100, 105, 114, 101, 99, 116, 111, 114, 121, 32, 101, 110, 116, 114, 105, 101, 115, 32, 114, 101, 97, 100, 32, 101, 114, 114, 111, 114, 32, 40] ++ s) ++ [41])), nv ((snx sns j + 1) * ss)]) pl_123 ze_123 rfl rfl) ?_
   refine RD_l 11 rfl (Yl_iface rfl co_123) ?_
   refine RD_a 12 ?_
   refine (RD_done kr_ (QW_lv [2] ?_))
   refine CW_ret ?_
   refine QW_ret_then ?_
   refine QW_ret_block ?_
   refine QW_ret_then ?_
   refine QW_ret_block ?_
   refine QW_ret_then ?_
   first
    | (refine QW_dropB (e := (bm, _)) (by repeat (first | exact Rem.here _ _ | apply Rem.there)) ?_; exact QW_heap (List.Perm.append_left [_, _, _, _, _, _, _, _, _, _, _] (List.Perm.append_right F (filsH_rev br rs).symm)) (QW_ret1 rfl rfl (_ :: _ :: _ :: _ :: _ :: _ :: _ :: _ :: _ :: _ :: _ :: filsH br rs.reverse) (.inl ⟨hfitall, rfl, g, cap, r, lb, rs.reverse, hre, hl, hlb, by rw [hlen]; rfl⟩) (Prm.nil _)))
    | (refine QW_heap (Prm.perm (show Prm _ ((2, blk ps T) :: (5, Obj.cells lp.toArray Tp fp) :: (0, Obj.cells [.iface 181 (.pointer (some ⟨bE.b, bE.o, none⟩))].toArray T0 fz0) :: (bE.b, Obj.cells bE.l.toArray TE fzE) :: _) from Prm.cons (by repeat (first | exact Rem.here _ _ | apply Rem.there)) (Prm.cons (by repeat (first | exact Rem.here _ _ | apply Rem.there)) (Prm.cons (by repeat (first | exact Rem.here _ _ | apply Rem.there)) (Prm.cons (by repeat (first | exact Rem.here _ _ | apply Rem.there)) (Prm.nil _)))))) ?_; refine QW_sub (H' := (2, blk ps T) :: (5, Obj.cells lp.toArray Tp fp) :: (0, Obj.cells [.iface 181 (.pointer (some ⟨bE.b, bE.o, none⟩))].toArray T0 fz0) :: (bE.b, Obj.cells bE.l.toArray TE fzE) :: F) (by repeat (first | exact List.Sublist.refl _ | exact List.sublist_append_right _ _ | apply List.Sublist.cons_cons | apply List.Sublist.cons)) ?_; exact QW_ret1 rfl rfl [(2, blk ps T), (5, Obj.cells lp.toArray Tp fp), (0, Obj.cells [.iface 181 (.pointer (some ⟨bE.b, bE.o, none⟩))].toArray T0 fz0), (bE.b, Obj.cells bE.l.toArray TE fzE)] (.inr ⟨fun hf => absurd (hf j hjK).1 (by omega), ⟨_, _, _, by omega, rfl⟩, rfl⟩) (Prm.nil _))
    | (refine QW_heap (Prm.perm (show Prm _ ((2, blk ps T) :: (5, Obj.cells lp.toArray Tp fp) :: (0, Obj.cells [.iface 181 (.pointer (some ⟨bE.b, bE.o, none⟩))].toArray T0 fz0) :: (bE.b, Obj.cells bE.l.toArray TE fzE) :: _) from Prm.cons (by repeat (first | exact Rem.here _ _ | apply Rem.there)) (Prm.cons (by repeat (first | exact Rem.here _ _ | apply Rem.there)) (Prm.cons (by repeat (first | exact Rem.here _ _ | apply Rem.there)) (Prm.cons (by repeat (first | exact Rem.here _ _ | apply Rem.there)) (Prm.nil _)))))) ?_; refine QW_sub (H' := (2, blk ps T) :: (5, Obj.cells lp.toArray Tp fp) :: (0, Obj.cells [.iface 181 (.pointer (some ⟨bE.b, bE.o, none⟩))].toArray T0 fz0) :: (bE.b, Obj.cells bE.l.toArray TE fzE) :: F) (by repeat (first | exact List.Sublist.refl _ | exact List.sublist_append_right _ _ | apply List.Sublist.cons_cons | apply List.Sublist.cons)) ?_; exact QW_ret1 rfl rfl [(2, blk ps T), (5, Obj.cells lp.toArray Tp fp), (0, Obj.cells [.iface 181 (.pointer (some ⟨bE.b, bE.o, none⟩))].toArray T0 fz0), (bE.b, Obj.cells bE.l.toArray TE fzE)] (.inr ⟨fun hf => absurd (hf j hjK).2 (by omega), ⟨_, _, _, by omega, rfl⟩, rfl⟩) (Prm.nil _))
  skip
  exact absurd hc11 (by decide)
 have hjK2 : j = sns.length := by
  rcases Nat.lt_or_ge j sns.length with hh | hh
  ·have := hch.small j hh
   exfalso; omega
  omega
 have hlen : rs.length = es.length := by rw [hrl, hjK2, hes]
 rw [hjK2, ← hes, List.take_length] at hre
 have hpos : 0 < es.length := by rw [hes]; exact Nat.mul_pos hK om_
 have hfitall : DirFit N ss sns o := fun i hi => hfits i om_
 refine CW_exit ?_
 refine QW_exit_then ?_
 refine QW_exit_then ?_
 refine QW_exit_block ?_
 refine (QW_lv [0,4] ?_)
 refine CW_seq ?_
 refine CW_sr ?_
 refine RW_m ?_
 refine RW_l (Yl_len rfl sl_83) ?_
 refine RW_l (Yl_eql rfl rfl) ?_
 refine RW_lv [0,4,188] ?_
 refine CW_cd rfl (fun hc12 => ?_) (fun hc12 => ?_)
 ·exfalso; omega
 refine (CW_skip (QW_lv [0,4] ?_))
 refine CW_sr ?_
 refine RW_m ?_
 refine RW_m ?_
 refine RW_n ?_
 refine RW_f fo_89_5 ?_
 refine RW_fx0 rfl rfl (Fx_store (v := .slice (some ⟨g, 0, none⟩) rs.length cap) rfl rfl sz_83 rfl rep_ (by simp [rdF])) ?_
 rintro _ _ rfl
 refine RW_lv [] ?_
 refine CW_sr ?_
 refine RW_a ?_
 refine RW_lv [2] ?_
 refine CW_ret ?_
 first
  | (refine QW_dropB (e := (bm, _)) (by repeat (first | exact Rem.here _ _ | apply Rem.there)) ?_; exact QW_heap (List.Perm.append_left [_, _, _, _, _, _, _, _, _, _, _] (List.Perm.append_right F (filsH_rev br rs).symm)) (QW_ret1 rfl rfl (_ :: _ :: _ :: _ :: _ :: _ :: _ :: _ :: _ :: _ :: _ :: filsH br rs.reverse) (.inl ⟨hfitall, rfl, g, cap, r, lb, rs.reverse, hre, hl, hlb, by rw [hlen]; rfl⟩) (Prm.nil _)))
  | (refine QW_heap (Prm.perm (show Prm _ ((2, blk ps T) :: (5, Obj.cells lp.toArray Tp fp) :: (0, Obj.cells [.iface 181 (.pointer (some ⟨bE.b, bE.o, none⟩))].toArray T0 fz0) :: (bE.b, Obj.cells bE.l.toArray TE fzE) :: _) from Prm.cons (by repeat (first | exact Rem.here _ _ | apply Rem.there)) (Prm.cons (by repeat (first | exact Rem.here _ _ | apply Rem.there)) (Prm.cons (by repeat (first | exact Rem.here _ _ | apply Rem.there)) (Prm.cons (by repeat (first | exact Rem.here _ _ | apply Rem.there)) (Prm.nil _)))))) ?_; refine QW_sub (H' := (2, blk ps T) :: (5, Obj.cells lp.toArray Tp fp) :: (0, Obj.cells [.iface 181 (.pointer (some ⟨bE.b, bE.o, none⟩))].toArray T0 fz0) :: (bE.b, Obj.cells bE.l.toArray TE fzE) :: F) (by repeat (first | exact List.Sublist.refl _ | exact List.sublist_append_right _ _ | apply List.Sublist.cons_cons | apply List.Sublist.cons)) ?_; exact QW_ret1 rfl rfl [(2, blk ps T), (5, Obj.cells lp.toArray Tp fp), (0, Obj.cells [.iface 181 (.pointer (some ⟨bE.b, bE.o, none⟩))].toArray T0 fz0), (bE.b, Obj.cells bE.l.toArray TE fzE)] (.inr ⟨fun hf => absurd (hf j hjK).1 (by omega), ⟨_, _, _, by omega, rfl⟩, rfl⟩) (Prm.nil _))
  | (refine QW_heap (Prm.perm (show Prm _ ((2, blk ps T) :: (5, Obj.cells lp.toArray Tp fp) :: (0, Obj.cells [.iface 181 (.pointer (some ⟨bE.b, bE.o, none⟩))].toArray T0 fz0) :: (bE.b, Obj.cells bE.l.toArray TE fzE) :: _) from Prm.cons (by repeat (first | exact Rem.here _ _ | apply Rem.there)) (Prm.cons (by repeat (first | exact Rem.here _ _ | apply Rem.there)) (Prm.cons (by repeat (first | exact Rem.here _ _ | apply Rem.there)) (Prm.cons (by repeat (first | exact Rem.here _ _ | apply Rem.there)) (Prm.nil _)))))) ?_; refine QW_sub (H' := (2, blk ps T) :: (5, Obj.cells lp.toArray Tp fp) :: (0, Obj.cells [.iface 181 (.pointer (some ⟨bE.b, bE.o, none⟩))].toArray T0 fz0) :: (bE.b, Obj.cells bE.l.toArray TE fzE) :: F) (by repeat (first | exact List.Sublist.refl _ | exact List.sublist_append_right _ _ | apply List.Sublist.cons_cons | apply List.Sublist.cons)) ?_; exact QW_ret1 rfl rfl [(2, blk ps T), (5, Obj.cells lp.toArray Tp fp), (0, Obj.cells [.iface 181 (.pointer (some ⟨bE.b, bE.o, none⟩))].toArray T0 fz0), (bE.b, Obj.cells bE.l.toArray TE fzE)] (.inr ⟨fun hf => absurd (hf j hjK).2 (by omega), ⟨_, _, _, by omega, rfl⟩, rfl⟩) (Prm.nil _))

theorem setMiniTry_ct (br bh bhf bs bB ss g N cN : Nat) (B : List UInt8) (rB hc : List Value) (buf file wa : Value) (lp : List Value) (Tp : TypeId) (fp : Nat × Nat) (hp : ∀ i, i < 20 → ∃ z : Int, lp[i]? = some (.int .u64 z)) (bE : EofB) (T0 TE : TypeId) (fz0 fzE : Nat × Nat) (n cap : Nat) (r : List Value) (f0 : Fil) (fr : List Fil) (hn : 0 < n)
  (sns1 sns2 : List Nat) (ml nm : Nat) (o1 o2 : Nat → Nat) (h1 : ChTry B N ss hc sns1 o1) (h2 : ChTry B N ss hc sns2 o2) (hst : f0.en.dc[60]? = some (uv (snx sns2 0))) (hK2 : 1 ≤ sns2.length) (hml0 : ml = snx sns1 0) (hnm1 : nm = sns1.length) (hnm0 : 1 ≤ nm) (hml : hc[41]? = some (uv ml)) (hnm : hc[42]? = some (uv nm)) (hcm : ss / 4 * nm ≤ 64000) (hnm4 : nm ≤ 64000) (hs2 : sns2.length ≤ 100000)
  (hss : 512 ≤ ss ∧ ss ≤ 4096) (hB : B.length = N) (hcN : N ≤ cN) (hN : N ≤ 1000000000) :
  Ct Tryd.prog 49 [pv br] ((br, blk (rdF bs ss buf (pv bh) file (.slice (some ⟨g, 0, none⟩) n cap) wa) 89) :: (bh, blk [pv bhf, .slice (some ⟨bhf, 45, none⟩) 109 109, .slice none 0 0, .slice none 0 0] 137) :: (bhf, blk hc 142) :: (bs, blk [.slice (some ⟨bB, 0, none⟩) N cN] 103) :: (bB, blk (bys B ++ rB) 5) :: (g, blk (ptrs (f0 :: fr) ++ r) 90) :: (5, Obj.cells lp.toArray Tp fp) :: (0, Obj.cells [.iface 181 (.pointer (some ⟨bE.b, bE.o, none⟩))].toArray T0 fz0) :: (bE.b, Obj.cells bE.l.toArray TE fzE) :: filsH br (f0 :: fr)) (fun v q => (LkFit N (nm - 1) o1 ∧ LkFit N sns2.length o2 ∧ v = .nilIface ∧ ∃ bm1 Tl g2 cap2 r2, Tl.length = nm ∧ (∀ k, k < nm → Tl[k]? = some (uv (snx sns1 k))) ∧ (u32s sns2 ++ r2).length = cap2 ∧ q = ((br, blk (rdF bs ss buf (pv bh) file (.slice (some ⟨g, 0, none⟩) n cap) wa) 89) :: (bh, blk [pv bhf, .slice (some ⟨bhf, 45, none⟩) 109 109, .slice (some ⟨bm1, 0, none⟩) nm nm, .slice (some ⟨g2, 0, none⟩) sns2.length cap2] 137) :: (bhf, blk hc 142) :: (bs, blk [.slice (some ⟨bB, 0, none⟩) N cN] 103) :: (bB, blk (bys B ++ rB) 5) :: (g, blk (ptrs (f0 :: fr) ++ r) 90) :: (5, Obj.cells lp.toArray Tp fp) :: (0, Obj.cells [.iface 181 (.pointer (some ⟨bE.b, bE.o, none⟩))].toArray T0 fz0) :: (bE.b, Obj.cells bE.l.toArray TE fzE) :: (bm1, blk Tl 67) :: (g2, blk (u32s sns2 ++ r2) 67) :: filsH br (f0 :: fr))) ∨ (¬ (LkFit N (nm - 1) o1 ∧ LkFit N sns2.length o2) ∧ ErrX v ∧ q = [(5, Obj.cells lp.toArray Tp fp), (0, Obj.cells [.iface 181 (.pointer (some ⟨bE.b, bE.o, none⟩))].toArray T0 fz0), (bE.b, Obj.cells bE.l.toArray TE fzE)])) := by
 simp only [filsH]
 refine Ct_of Tryd.func49 rfl Tryd.ntmps49 rfl ?_
 intro E F
 simp only [numL, List.nil_append, List.cons_append]
 refine CW_sr ?_
 refine RW_a ?_
 refine RW_lv [0] ?_
 refine CW_seq ?_
 refine CW_sr ?_
 refine RW_m ?_
 refine RW_n ?_
 refine RW_f fo_89_5 ?_
 refine RW_h (Yh_ld (v := .slice (some ⟨g, 0, none⟩) n cap) sc_83) ?_
 refine RW_l (Yl_indexN (b := g) (off := 0) (i := 0) (o' := 0) rfl rfl sl_83 om_ om_) ?_
 refine RW_h (Yh_ld (v := pv f0.bf) sc_90) ?_
 refine RW_n ?_
 refine RW_f fo_93_7 ?_
 refine RW_h (Yh_ld (v := pv f0.bd) sc_91) ?_
 refine RW_n ?_
 refine RW_f fo_112_11 ?_
 refine RW_h (Yh_lh (v := uv (snx sns2 0)) sc_67 hst) ?_
 refine RW_l (Yl_eql rfl rfl) ?_
 refine RW_m ?_
 refine RW_bool 24 rfl (fun hg1 => ?_) (fun hg1 => ?_)
 ·replace hg1 := of_decide_eq_true hg1
  exfalso
  have := h2.small 0 om_
  omega
 replace hg1 := of_decide_eq_false hg1
 refine RW_gy rfl rfl rfl (Yl.h (Yl_move rfl)) ?_
 refine RW_gy rfl rfl rfl (Yl.h (Yl_nilCheck rfl)) ?_
 refine RW_gy rfl rfl rfl (Yl.h (Yl_field rfl fo_89_3)) ?_
 refine RW_gy rfl rfl rfl (Yh_ld (v := pv bh) sc_82) ?_
 refine RW_gy rfl rfl rfl (Yl.h (Yl_nilCheck rfl)) ?_
 refine RW_gy rfl rfl rfl (Yl.h (Yl_field rfl fo_137_0)) ?_
 refine RW_gy rfl rfl rfl (Yh_ld (v := pv bhf) sc_134) ?_
 refine RW_gy rfl rfl rfl (Yl.h (Yl_nilCheck rfl)) ?_
 refine RW_gy rfl rfl rfl (Yl.h (Yl_field rfl fo_142_13)) ?_
 refine RW_gy rfl rfl rfl (Yh_lh (v := uv ml) sc_67 hml) ?_
 refine RW_gy rfl rfl rfl (Yl.h (Yl_eql rfl rfl)) ?_
 refine RW_l (Yl_pick_f rfl rfl) ?_
 refine RW_m ?_
 refine RW_bool 37 rfl (fun hg2 => ?_) (fun hg2 => ?_)
 ·replace hg2 := of_decide_eq_true hg2
  exfalso
  have := h1.small 0 om_
  omega
 replace hg2 := of_decide_eq_false hg2
 refine RW_gy rfl rfl rfl (Yl.h (Yl_move rfl)) ?_
 refine RW_gy rfl rfl rfl (Yl.h (Yl_nilCheck rfl)) ?_
 refine RW_gy rfl rfl rfl (Yl.h (Yl_field rfl fo_89_3)) ?_
 refine RW_gy rfl rfl rfl (Yh_ld (v := pv bh) sc_82) ?_
 refine RW_gy rfl rfl rfl (Yl.h (Yl_nilCheck rfl)) ?_
 refine RW_gy rfl rfl rfl (Yl.h (Yl_field rfl fo_137_0)) ?_
 refine RW_gy rfl rfl rfl (Yh_ld (v := pv bhf) sc_134) ?_
 refine RW_gy rfl rfl rfl (Yl.h (Yl_nilCheck rfl)) ?_
 refine RW_gy rfl rfl rfl (Yl.h (Yl_field rfl fo_142_14)) ?_
 refine RW_gy rfl rfl rfl (Yh_lh (v := uv nm) sc_67 hnm) ?_
 refine RW_gy rfl rfl rfl (Yl.h (Yl_eql rfl rfl)) ?_
 refine RW_l (Yl_pick_f rfl rfl) ?_
 refine RW_lv [0,49] ?_
 refine CW_cd rfl (fun hc3 => ?_) (fun hc3 => ?_)
 ·exfalso; omega
 refine (CW_skip (QW_lv [0] ?_))
 refine CW_sr ?_
 refine RW_m ?_
 refine RW_n ?_
 refine RW_f fo_89_3 ?_
 refine RW_h (Yh_ld (v := pv bh) sc_82) ?_
 refine RW_n ?_
 refine RW_f fo_137_0 ?_
 refine RW_h (Yh_ld (v := pv bhf) sc_134) ?_
 refine RW_n ?_
 refine RW_f fo_142_14 ?_
 refine RW_h (Yh_lh (v := uv nm) sc_67 hnm) ?_
 refine RW_l (Yl_conv (c := (nm : Int)) rfl in_67 in_3 (wi64 om_ om_)) ?_
 refine RW_a ?_
 refine RW_lv [0,3] ?_
 refine CW_seq ?_
 refine CW_sr ?_
 refine RW_m ?_
 refine RW_n ?_
 refine RW_f fo_89_3 ?_
 refine RW_h (Yh_ld (v := pv bh) sc_82) ?_
 refine RW_n ?_
 refine RW_f fo_137_0 ?_
 refine RW_h (Yh_ld (v := pv bhf) sc_134) ?_
 refine RW_n ?_
 refine RW_f fo_142_14 ?_
 refine RW_h (Yh_lh (v := uv nm) sc_67 hnm) ?_
 refine RW_l (Yl_gtr rfl rfl) ?_
 refine RW_lv [0,3,71] ?_
 refine CW_cd rfl (fun hc4 => ?_) (fun hc4 => ?_)
 ·exfalso; omega
 refine (CW_skip (QW_lv [0,3] ?_))
 refine CW_seq ?_
 refine CW_draw [8] _ mixed (Sub.refl _) ?_
 refine RD_m 0 ?_
 refine RD_n 1 ?_
 refine RD_f 2 fo_89_3 ?_
 refine RD_m 4 ?_
 refine RD_h (i := 3) #[true, true, true, false, true, true, false, false, false] rfl rfl rfl rfl kr_ (fun _ _ _ h => h) (Yh_ld (v := pv bh) sc_82) ?_
 refine RD_o 5 ?_
 refine RO_fx rfl rfl rfl rfl (Fx_makeU32 nm rfl rfl om_) ?_
 rintro _ _ ⟨bm1, rfl, rfl⟩
 refine ⟨Or.inr (Sub.more (Sub.refl _)), ?_⟩
 refine RD_n 6 ?_
 refine RD_f 7 fo_137_2 ?_
 refine RD_o 8 ?_
 refine RO_fx0 rfl rfl rfl (Fx_store (v := .slice (some ⟨bm1, 0, none⟩) nm nm) rfl rfl sz_22 rfl rep_ (by simp)) ?_
 rintro _ _ rfl
 refine ⟨Or.inl kr_, ?_⟩
 refine (RD_done kr_ (QW_lv [0,3] ?_))
 refine CW_seq ?_
 refine CW_draw [18] _ mixed (Sub.refl _) ?_
 refine RD_m 0 ?_
 refine RD_n 1 ?_
 refine RD_f 2 fo_89_3 ?_
 refine RD_m 7 ?_
 refine RD_n 8 ?_
 refine RD_f 9 fo_89_3 ?_
 refine RD_h (i := 3) #[true, true, true, false, false, false, false, true, true, true, true, true, true, true, true, true, true, false, false] rfl rfl rfl rfl kr_ (fun _ _ _ h => h) (Yh_ld (v := pv bh) sc_82) ?_
 refine RD_n 4 ?_
 refine RD_f 5 fo_137_2 ?_
 refine RD_h (i := 6) #[true, true, true, true, true, true, false, true, true, true, true, true, true, true, true, true, true, false, false] rfl rfl rfl rfl kr_ (fun _ _ _ h => h) (Yh_ld (v := .slice (some ⟨bm1, 0, none⟩) nm nm) sc_22) ?_
 refine RD_h (i := 10) #[true, true, true, true, true, true, true, true, true, true, false, false, false, false, false, false, false, false, false] rfl rfl rfl rfl kr_ (fun _ _ _ h => h) (Yh_ld (v := pv bh) sc_82) ?_
 refine RD_n 11 ?_
 refine RD_f 12 fo_137_0 ?_
 refine RD_h (i := 13) #[true, true, true, true, true, true, true, true, true, true, true, true, true, false, false, false, false, false, false] rfl rfl rfl rfl kr_ (fun _ _ _ h => h) (Yh_ld (v := pv bhf) sc_134) ?_
 refine RD_n 14 ?_
 refine RD_f 15 fo_142_13 ?_
 refine RD_h (i := 16) #[true, true, true, true, true, true, true, true, true, true, true, true, true, true, true, true, false, false, false] rfl rfl rfl rfl kr_ (fun _ _ _ h => h) (Yh_lh (v := uv ml) sc_67 hml) ?_
 refine RD_l 17 rfl (Yl_indexN (b := bm1) (off := 0) (i := 0) (o' := 0) rfl rfl sl_22 om_ om_) ?_
 refine RD_o 18 ?_
 refine RO_fx0 rfl rfl rfl (Fx_store (v := uv ml) rfl rfl sz_67 rfl rep_ (by simp; omega)) ?_
 rintro _ _ rfl
 refine ⟨Or.inl kr_, ?_⟩
 refine (RD_done kr_ (QW_lv [0,3] ?_))
 refine CW_seq ?_
 refine CW_sr ?_
 refine RW_a ?_
 refine RW_lv [0,3,4] ?_
 refine CW_block ?_
 refine CW_lp (σ := Nat × List Value) (fun q => [(0, pv br), (3, nv nm), (4, nv q.1)]) (fun q => (br, blk (rdF bs ss buf (pv bh) file (.slice (some ⟨g, 0, none⟩) n cap) wa) 89) :: (bh, blk [pv bhf, .slice (some ⟨bhf, 45, none⟩) 109 109, .slice (some ⟨bm1, 0, none⟩) nm nm, .slice none 0 0] 137) :: (bhf, blk hc 142) :: (bs, blk [.slice (some ⟨bB, 0, none⟩) N cN] 103) :: (bB, blk (bys B ++ rB) 5) :: (g, blk (ptrs (f0 :: fr) ++ r) 90) :: (5, Obj.cells lp.toArray Tp fp) :: (0, Obj.cells [.iface 181 (.pointer (some ⟨bE.b, bE.o, none⟩))].toArray T0 fz0) :: (bE.b, Obj.cells bE.l.toArray TE fzE) :: (bm1, blk q.2 67) :: (f0.bf, blk (fiF f0.en.nm f0.en.ini f0.en.path f0.en.size f0.en.pos f0.en.cur f0.en.rem f0.bd br) 93) :: (f0.bd, blk f0.en.dc 112) :: (filsH br fr ++ F)) (fun q => 1 ≤ q.1 ∧ q.1 ≤ nm ∧ q.2.length = nm ∧ (∀ k, k < q.1 → q.2[k]? = some (uv (snx sns1 k))) ∧ ∀ k, k + 1 < q.1 → o1 k + 4 ≤ N) (fun q => nm - q.1) (1, (u32s (List.replicate nm 0)).set 0 (uv ml)) ⟨Nat.le_refl _, by simpa using hnm0, by simp, (by intro k hk; simp only at hk ⊢; obtain rfl : k = 0 := om_; rw [← hml0]; exact List.getElem?_set_self (by simp only [List.length_map, List.length_replicate]; omega)), fun k hk => by simp only at hk; omega⟩ ?_
 rintro ⟨i, Tl⟩ ⟨hi1, hi, hTl, hT, hf1⟩
 simp only at hi1 hi hTl hT hf1 ⊢
 refine CW_seq ?_
 refine CW_sr ?_
 refine RW_m ?_
 refine RW_m ?_
 refine RW_l (Yl_lss rfl rfl) ?_
 refine RW_lv [0,3,4,113] ?_
 refine CW_cd rfl (fun hc5 => ?_) (fun hc5 => ?_)
 ·have hsm := h1.small (i - 1) om_
  obtain ⟨sect, hsect, hs109, hse, ho, hotop, hnx⟩ := h1.next (i - 1) om_
  rw [show i - 1 + 1 = i by omega] at hnx
  have hoge : 512 ≤ o1 (i - 1) := by rw [ho, Nat.add_mul]; omega
  refine (CW_skip (QW_lv [0,3,4] ?_))
  refine CW_seq ?_
  refine CW_block ?_
  refine CW_seq ?_
  by_cases hlk : o1 (i - 1) + 4 ≤ N
  ·skip
   have hfn := findNext_ct br bh bhf bs bB ss (snx sns1 (i - 1)) sect 45 109 109 (o1 (i - 1)) N cN B rB (rdF bs ss buf (pv bh) file (.slice (some ⟨g, 0, none⟩) n cap) wa) [pv bhf, .slice (some ⟨bhf, 45, none⟩) 109 109, .slice (some ⟨bm1, 0, none⟩) nm nm, .slice none 0 0] hc 142 rfl rfl rfl rfl hsect hs109 om_ om_ om_ om_ ho hlk hB hcN hN
   rw [hnx hlk] at hfn
   refine CW_region ?_
   refine RW_m ?_
   refine RW_m ?_
   refine RW_n ?_
   refine RW_f fo_89_3 ?_
   refine RW_h (Yh_ld (v := pv bh) sc_82) ?_
   refine RW_n ?_
   refine RW_f fo_137_2 ?_
   refine RW_h (Yh_ld (v := .slice (some ⟨bm1, 0, none⟩) nm nm) sc_22) ?_
   refine RW_m ?_
   refine RW_l (Yl_sub (c := ((i - 1 : Nat) : Int)) rfl rfl (by rw [wi64 om_ om_]; omega)) ?_
   refine RW_l (Yl_indexN (b := bm1) (off := 0) (i := i - 1) (o' := i - 1) rfl rfl sl_22 om_ om_) ?_
   refine RW_h (Yh_load (v := uv (snx sns1 (i - 1))) rfl sc_67 mem_ (hT (i - 1) om_)) ?_
   refine RW_fx rfl rfl rfl (Fx_callQ ok_60 (vs := [pv br, uv (snx sns1 (i - 1)), .bool false]) (R := fun v => v = .tuple #[uv (snx sns1 i), .nilIface]) rfl pk_ hfn) ?_
   rintro _ _ ⟨rfl, rfl⟩
   refine RW_m ?_
   refine RW_l (Yl_extract rfl rfl) ?_
   refine RW_l (Yl_extract rfl rfl) ?_
   refine RW_a ?_
   refine RW_a ?_
   refine RW_lv [0,3,4,5,6] ?_
   refine CW_seq ?_
   refine CW_sr ?_
   refine RW_m ?_
   refine RW_l (Yl_ifNeNil rfl if_105) ?_
   refine RW_lv [0,3,4,5,6,133] ?_
   refine CW_cond rfl (fun hc6 => ?_) (fun hc6 => ?_)
   ·skip
    exact absurd hc6 (by decide)
   skip
   refine (CW_skip (QW_lv [0,3,4,5] ?_))
   refine CW_region ?_
   refine RW_m ?_
   refine RW_n ?_
   refine RW_f fo_89_3 ?_
   refine RW_h (Yh_ld (v := pv bh) sc_82) ?_
   refine RW_n ?_
   refine RW_f fo_137_2 ?_
   refine RW_h (Yh_ld (v := .slice (some ⟨bm1, 0, none⟩) nm nm) sc_22) ?_
   refine RW_m ?_
   refine RW_m ?_
   refine RW_l (Yl_indexN (b := bm1) (off := 0) (i := i) (o' := i) rfl rfl sl_22 om_ om_) ?_
   refine RW_fx0 rfl rfl (Fx_store (v := uv (snx sns1 i)) rfl rfl sz_67 rfl rep_ om_) ?_
   rintro _ _ rfl
   refine RW_nil ?_
   refine QW_normal_block ?_
   refine (QW_lv [0,3,4] ?_)
   refine CW_region ?_
   refine RW_m ?_
   refine RW_l (Yl_add (c := ((i + 1 : Nat) : Int)) rfl rfl (wi64 om_ om_)) ?_
   refine RW_a ?_
   refine RW_nil ?_
   refine QW_round (i + 1, Tl.set i (uv (snx sns1 i))) ⟨by simp only; omega, by simp only; omega, by simp only [List.length_set]; exact hTl, ?_, (by intro k hk; simp only at hk; rcases Nat.lt_or_ge (k + 1) i with h | h; exact hf1 k h; obtain rfl : k = i - 1 := om_; exact hlk)⟩ (by simp only; omega) prm_ kp_
   intro k hk
   simp only at hk ⊢
   by_cases e : k = i
   ·subst e; exact List.getElem?_set_self om_
   rw [List.getElem?_set_ne om_]; exact hT k om_
  skip
  have hfs := findNextShort_ct br bh bhf bs bB ss (snx sns1 (i - 1)) sect 45 109 109 (o1 (i - 1)) N cN B rB (rdF bs ss buf (pv bh) file (.slice (some ⟨g, 0, none⟩) n cap) wa) [pv bhf, .slice (some ⟨bhf, 45, none⟩) 109 109, .slice (some ⟨bm1, 0, none⟩) nm nm, .slice none 0 0] hc 142 bE T0 TE fz0 fzE rfl rfl rfl rfl hsect hs109 om_ om_ om_ om_ ho om_ hB hcN hN
  refine CW_region ?_
  refine RW_m ?_
  refine RW_m ?_
  refine RW_n ?_
  refine RW_f fo_89_3 ?_
  refine RW_h (Yh_ld (v := pv bh) sc_82) ?_
  refine RW_n ?_
  refine RW_f fo_137_2 ?_
  refine RW_h (Yh_ld (v := .slice (some ⟨bm1, 0, none⟩) nm nm) sc_22) ?_
  refine RW_m ?_
  refine RW_l (Yl_sub (c := ((i - 1 : Nat) : Int)) rfl rfl (by rw [wi64 om_ om_]; omega)) ?_
  refine RW_l (Yl_indexN (b := bm1) (off := 0) (i := i - 1) (o' := i - 1) rfl rfl sl_22 om_ om_) ?_
  refine RW_h (Yh_load (v := uv (snx sns1 (i - 1))) rfl sc_67 mem_ (hT (i - 1) om_)) ?_
  refine RW_fx rfl rfl rfl (Fx_callQ ok_60 (vs := [pv br, uv (snx sns1 (i - 1)), .bool false]) (R := fun v => v = .tuple #[uv 0, .iface 123 (.agg #[nv 1, .string (bar fnMsg), nv (o1 (i - 1))])]) rfl pk_ hfs) ?_
  rintro _ _ ⟨rfl, rfl⟩
  refine RW_m ?_
  refine RW_l (Yl_extract rfl rfl) ?_
  refine RW_l (Yl_extract rfl rfl) ?_
  refine RW_a ?_
  refine RW_a ?_
  refine RW_lv [0,3,4,5,6] ?_
  refine CW_seq ?_
  refine CW_sr ?_
  refine RW_m ?_
  refine RW_l (Yl_ifNe rfl if_105) ?_
  refine RW_lv [0,3,4,5,6,133] ?_
  refine CW_cond rfl (fun hc7 => ?_) (fun hc7 => ?_)
  ·skip
   refine CW_seq ?_
   refine CW_draw [1] _ mixed (Sub.refl _) ?_
   refine RD_m 0 ?_
   refine RD_m 4 ?_
   refine RD_n 5 ?_
   refine RD_f 6 fo_89_3 ?_
   refine RD_m 11 ?_
   refine RD_l 12 rfl (Yl_sub (c := ((i - 1 : Nat) : Int)) rfl rfl (by rw [wi64 om_ om_]; omega)) ?_
   refine RD_two (i := 1) (j := 7) kr_ ?_ ?_
   ·skip
    refine RO_fx rfl rfl rfl rfl (Fx_invokeQ (T := 123) (v := .agg #[nv 1, .string (bar fnMsg), nv (o1 (i - 1))]) (vs := []) (R := fun v => ∃ s : List UInt8, s.length ≤ fnMsg.length + 15 ∧ v = .string (bar s)) rfl mt_123 pt_123 ok_98 rfl (Pick.cons rem_ (Pick.nil _)) (errError_ct 1 (o1 (i - 1)) fnMsg (by decide) om_ om_ lp Tp fp hp)) ?_
    rintro _ _ ⟨⟨s, hs, rfl⟩, rfl⟩
    refine ⟨Or.inl kr_, ?_⟩
    refine RD_l 2 rfl (Yl_concatB (a := [115, 101, 116, 116, 105, 110, 103, 32, 109, 105, 110, 105, 32, 115, 116, 114, 101, 97, 109, 32, 40]) (b := s) rfl rfl (by simp [fnMsg] at hs ⊢; omega)) ?_
    refine RD_l 3 rfl (Yl_concatB (a := [115, 101, 116, 116, 105, 110, 103, 32, 109, 105, 110, 105, 32, 115, 116, 114, 101, 97, 109, 32, 40] ++ s) (b := [41]) rfl rfl (by simp [fnMsg] at hs ⊢; omega)) ?_
    refine RD_o 7 ?_
    refine RO_fx rfl rfl rfl rfl (Yh.fx (Yh_ld (v := pv bh) sc_82)) ?_
    rintro _ _ ⟨rfl, rfl⟩
    refine ⟨Or.inl kr_, ?_⟩
    refine RD_n 8 ?_
    refine RD_f 9 fo_137_2 ?_
    refine RD_o 10 ?_
    refine RO_fx rfl rfl rfl rfl (Yh.fx (Yh_ld (v := .slice (some ⟨bm1, 0, none⟩) nm nm) sc_22)) ?_
    rintro _ _ ⟨rfl, rfl⟩
    refine ⟨Or.inl kr_, ?_⟩
    refine RD_l 13 rfl (Yl_indexN (b := bm1) (off := 0) (i := i - 1) (o' := i - 1) rfl rfl sl_22 om_ om_) ?_
    refine RD_o 14 ?_
    refine RO_fx rfl rfl rfl rfl (Yh.fx (Yh_load (v := uv (snx sns1 (i - 1))) rfl sc_67 mem_ (hT (i - 1) om_))) ?_
    rintro _ _ ⟨rfl, rfl⟩
    refine ⟨Or.inl kr_, ?_⟩
    refine RD_l 15 rfl (Yl_conv (c := ((snx sns1 (i - 1) : Nat) : Int)) rfl in_67 in_2 (wi64 om_ om_)) ?_
    refine RD_l 16 rfl (Yl_build (cs := [nv 0, .string (bar (([115, 101, 116, 116, 105, 110, 103, 32, 109, 105, 110, 105, 32, 115, 116, 114, 101, 97, 109, 32, 40] ++ s) ++ [41])), nv (snx sns1 (i - 1))]) pl_123 ze_123 rfl rfl) ?_
    refine RD_l 17 rfl (Yl_iface rfl co_123) ?_
    refine RD_a 18 ?_
    refine (RD_done kr_ (QW_lv [2] ?_))
    refine CW_ret ?_
    refine QW_ret_then ?_
    refine QW_ret_block ?_
    refine QW_ret_then ?_
    refine QW_ret_then ?_
    refine QW_ret_block ?_
    refine QW_ret_then ?_
    first
     | (refine QW_dropB (e := (bm, _)) (by repeat (first | exact Rem.here _ _ | apply Rem.there)) ?_; exact QW_ret1 rfl rfl (_ :: _ :: _ :: _ :: _ :: _ :: _ :: _ :: _ :: _ :: _ :: filsH br (f0 :: fr)) (.inl ⟨hfa1, hf2, rfl, bm1, Tl, g2, cap2, r2, hTl, hT, hl, rfl⟩) (Prm.nil _))
     | (refine QW_heap (Prm.perm (show Prm _ ((5, Obj.cells lp.toArray Tp fp) :: (0, Obj.cells [.iface 181 (.pointer (some ⟨bE.b, bE.o, none⟩))].toArray T0 fz0) :: (bE.b, Obj.cells bE.l.toArray TE fzE) :: _) from Prm.cons (by repeat (first | exact Rem.here _ _ | apply Rem.there)) (Prm.cons (by repeat (first | exact Rem.here _ _ | apply Rem.there)) (Prm.cons (by repeat (first | exact Rem.here _ _ | apply Rem.there)) (Prm.nil _))))) ?_; refine QW_sub (H' := (5, Obj.cells lp.toArray Tp fp) :: (0, Obj.cells [.iface 181 (.pointer (some ⟨bE.b, bE.o, none⟩))].toArray T0 fz0) :: (bE.b, Obj.cells bE.l.toArray TE fzE) :: F) (.cons_cons _ (.cons_cons _ (.cons_cons _ (by repeat (first | exact List.Sublist.refl _ | exact List.sublist_append_right _ _ | apply List.Sublist.cons))))) ?_; exact QW_ret1 rfl rfl [(5, Obj.cells lp.toArray Tp fp), (0, Obj.cells [.iface 181 (.pointer (some ⟨bE.b, bE.o, none⟩))].toArray T0 fz0), (bE.b, Obj.cells bE.l.toArray TE fzE)] (.inr ⟨fun hf => absurd (hf.1 (i - 1) (by omega)) hlk, ⟨_, _, _, by omega, rfl⟩, rfl⟩) (Prm.nil _))
     | (refine QW_heap (Prm.perm (show Prm _ ((5, Obj.cells lp.toArray Tp fp) :: (0, Obj.cells [.iface 181 (.pointer (some ⟨bE.b, bE.o, none⟩))].toArray T0 fz0) :: (bE.b, Obj.cells bE.l.toArray TE fzE) :: _) from Prm.cons (by repeat (first | exact Rem.here _ _ | apply Rem.there)) (Prm.cons (by repeat (first | exact Rem.here _ _ | apply Rem.there)) (Prm.cons (by repeat (first | exact Rem.here _ _ | apply Rem.there)) (Prm.nil _))))) ?_; refine QW_sub (H' := (5, Obj.cells lp.toArray Tp fp) :: (0, Obj.cells [.iface 181 (.pointer (some ⟨bE.b, bE.o, none⟩))].toArray T0 fz0) :: (bE.b, Obj.cells bE.l.toArray TE fzE) :: F) (.cons_cons _ (.cons_cons _ (.cons_cons _ (by repeat (first | exact List.Sublist.refl _ | exact List.sublist_append_right _ _ | apply List.Sublist.cons))))) ?_; exact QW_ret1 rfl rfl [(5, Obj.cells lp.toArray Tp fp), (0, Obj.cells [.iface 181 (.pointer (some ⟨bE.b, bE.o, none⟩))].toArray T0 fz0), (bE.b, Obj.cells bE.l.toArray TE fzE)] (.inr ⟨fun hf => absurd (hf.2 j hjK) hlk, ⟨_, _, _, by omega, rfl⟩, rfl⟩) (Prm.nil _))
   skip
   refine RO_fx rfl rfl rfl rfl (Yh.fx (Yh_ld (v := pv bh) sc_82)) ?_
   rintro _ _ ⟨rfl, rfl⟩
   refine ⟨Or.inr (Sub.refl _), ?_⟩
   refine RD_n 8 ?_
   refine RD_f 9 fo_137_2 ?_
   refine RD_two (i := 1) (j := 10) kr_ ?_ ?_
   ·skip
    refine RO_fx rfl rfl rfl rfl (Fx_invokeQ (T := 123) (v := .agg #[nv 1, .string (bar fnMsg), nv (o1 (i - 1))]) (vs := []) (R := fun v => ∃ s : List UInt8, s.length ≤ fnMsg.length + 15 ∧ v = .string (bar s)) rfl mt_123 pt_123 ok_98 rfl (Pick.cons rem_ (Pick.nil _)) (errError_ct 1 (o1 (i - 1)) fnMsg (by decide) om_ om_ lp Tp fp hp)) ?_
    rintro _ _ ⟨⟨s, hs, rfl⟩, rfl⟩
    refine ⟨Or.inl kr_, ?_⟩
    refine RD_l 2 rfl (Yl_concatB (a := [115, 101, 116, 116, 105, 110, 103, 32, 109, 105, 110, 105, 32, 115, 116, 114, 101, 97, 109, 32, 40]) (b := s) rfl rfl (by simp [fnMsg] at hs ⊢; omega)) ?_
    refine RD_l 3 rfl (Yl_concatB (a := [115, 101, 116, 116, 105, 110, 103, 32, 109, 105, 110, 105, 32, 115, 116, 114, 101, 97, 109, 32, 40] ++ s) (b := [41]) rfl rfl (by simp [fnMsg] at hs ⊢; omega)) ?_
    refine RD_o 10 ?_
    refine RO_fx rfl rfl rfl rfl (Yh.fx (Yh_ld (v := .slice (some ⟨bm1, 0, none⟩) nm nm) sc_22)) ?_
    rintro _ _ ⟨rfl, rfl⟩
    refine ⟨Or.inl kr_, ?_⟩
    refine RD_l 13 rfl (Yl_indexN (b := bm1) (off := 0) (i := i - 1) (o' := i - 1) rfl rfl sl_22 om_ om_) ?_
    refine RD_o 14 ?_
    refine RO_fx rfl rfl rfl rfl (Yh.fx (Yh_load (v := uv (snx sns1 (i - 1))) rfl sc_67 mem_ (hT (i - 1) om_))) ?_
    rintro _ _ ⟨rfl, rfl⟩
    refine ⟨Or.inl kr_, ?_⟩
    refine RD_l 15 rfl (Yl_conv (c := ((snx sns1 (i - 1) : Nat) : Int)) rfl in_67 in_2 (wi64 om_ om_)) ?_
    refine RD_l 16 rfl (Yl_build (cs := [nv 0, .string (bar (([115, 101, 116, 116, 105, 110, 103, 32, 109, 105, 110, 105, 32, 115, 116, 114, 101, 97, 109, 32, 40] ++ s) ++ [41])), nv (snx sns1 (i - 1))]) pl_123 ze_123 rfl rfl) ?_
    refine RD_l 17 rfl (Yl_iface rfl co_123) ?_
    refine RD_a 18 ?_
    refine (RD_done kr_ (QW_lv [2] ?_))
    refine CW_ret ?_
    refine QW_ret_then ?_
    refine QW_ret_block ?_
    refine QW_ret_then ?_
    refine QW_ret_then ?_
    refine QW_ret_block ?_
    refine QW_ret_then ?_
    first
     | (refine QW_dropB (e := (bm, _)) (by repeat (first | exact Rem.here _ _ | apply Rem.there)) ?_; exact QW_ret1 rfl rfl (_ :: _ :: _ :: _ :: _ :: _ :: _ :: _ :: _ :: _ :: _ :: filsH br (f0 :: fr)) (.inl ⟨hfa1, hf2, rfl, bm1, Tl, g2, cap2, r2, hTl, hT, hl, rfl⟩) (Prm.nil _))
     | (refine QW_heap (Prm.perm (show Prm _ ((5, Obj.cells lp.toArray Tp fp) :: (0, Obj.cells [.iface 181 (.pointer (some ⟨bE.b, bE.o, none⟩))].toArray T0 fz0) :: (bE.b, Obj.cells bE.l.toArray TE fzE) :: _) from Prm.cons (by repeat (first | exact Rem.here _ _ | apply Rem.there)) (Prm.cons (by repeat (first | exact Rem.here _ _ | apply Rem.there)) (Prm.cons (by repeat (first | exact Rem.here _ _ | apply Rem.there)) (Prm.nil _))))) ?_; refine QW_sub (H' := (5, Obj.cells lp.toArray Tp fp) :: (0, Obj.cells [.iface 181 (.pointer (some ⟨bE.b, bE.o, none⟩))].toArray T0 fz0) :: (bE.b, Obj.cells bE.l.toArray TE fzE) :: F) (.cons_cons _ (.cons_cons _ (.cons_cons _ (by repeat (first | exact List.Sublist.refl _ | exact List.sublist_append_right _ _ | apply List.Sublist.cons))))) ?_; exact QW_ret1 rfl rfl [(5, Obj.cells lp.toArray Tp fp), (0, Obj.cells [.iface 181 (.pointer (some ⟨bE.b, bE.o, none⟩))].toArray T0 fz0), (bE.b, Obj.cells bE.l.toArray TE fzE)] (.inr ⟨fun hf => absurd (hf.1 (i - 1) (by omega)) hlk, ⟨_, _, _, by omega, rfl⟩, rfl⟩) (Prm.nil _))
     | (refine QW_heap (Prm.perm (show Prm _ ((5, Obj.cells lp.toArray Tp fp) :: (0, Obj.cells [.iface 181 (.pointer (some ⟨bE.b, bE.o, none⟩))].toArray T0 fz0) :: (bE.b, Obj.cells bE.l.toArray TE fzE) :: _) from Prm.cons (by repeat (first | exact Rem.here _ _ | apply Rem.there)) (Prm.cons (by repeat (first | exact Rem.here _ _ | apply Rem.there)) (Prm.cons (by repeat (first | exact Rem.here _ _ | apply Rem.there)) (Prm.nil _))))) ?_; refine QW_sub (H' := (5, Obj.cells lp.toArray Tp fp) :: (0, Obj.cells [.iface 181 (.pointer (some ⟨bE.b, bE.o, none⟩))].toArray T0 fz0) :: (bE.b, Obj.cells bE.l.toArray TE fzE) :: F) (.cons_cons _ (.cons_cons _ (.cons_cons _ (by repeat (first | exact List.Sublist.refl _ | exact List.sublist_append_right _ _ | apply List.Sublist.cons))))) ?_; exact QW_ret1 rfl rfl [(5, Obj.cells lp.toArray Tp fp), (0, Obj.cells [.iface 181 (.pointer (some ⟨bE.b, bE.o, none⟩))].toArray T0 fz0), (bE.b, Obj.cells bE.l.toArray TE fzE)] (.inr ⟨fun hf => absurd (hf.2 j hjK) hlk, ⟨_, _, _, by omega, rfl⟩, rfl⟩) (Prm.nil _))
   skip
   refine RO_fx rfl rfl rfl rfl (Yh.fx (Yh_ld (v := .slice (some ⟨bm1, 0, none⟩) nm nm) sc_22)) ?_
   rintro _ _ ⟨rfl, rfl⟩
   refine ⟨Or.inr (Sub.refl _), ?_⟩
   refine RD_l 13 rfl (Yl_indexN (b := bm1) (off := 0) (i := i - 1) (o' := i - 1) rfl rfl sl_22 om_ om_) ?_
   refine RD_two (i := 1) (j := 14) kr_ ?_ ?_
   ·skip
    refine RO_fx rfl rfl rfl rfl (Fx_invokeQ (T := 123) (v := .agg #[nv 1, .string (bar fnMsg), nv (o1 (i - 1))]) (vs := []) (R := fun v => ∃ s : List UInt8, s.length ≤ fnMsg.length + 15 ∧ v = .string (bar s)) rfl mt_123 pt_123 ok_98 rfl (Pick.cons rem_ (Pick.nil _)) (errError_ct 1 (o1 (i - 1)) fnMsg (by decide) om_ om_ lp Tp fp hp)) ?_
    rintro _ _ ⟨⟨s, hs, rfl⟩, rfl⟩
    refine ⟨Or.inl kr_, ?_⟩
    refine RD_l 2 rfl (Yl_concatB (a := [115, 101, 116, 116, 105, 110, 103, 32, 109, 105, 110, 105, 32, 115, 116, 114, 101, 97, 109, 32, 40]) (b := s) rfl rfl (by simp [fnMsg] at hs ⊢; omega)) ?_
    refine RD_l 3 rfl (Yl_concatB (a := [115, 101, 116, 116, 105, 110, 103, 32, 109, 105, 110, 105, 32, 115, 116, 114, 101, 97, 109, 32, 40] ++ s) (b := [41]) rfl rfl (by simp [fnMsg] at hs ⊢; omega)) ?_
    refine RD_o 14 ?_
    refine RO_fx rfl rfl rfl rfl (Yh.fx (Yh_load (v := uv (snx sns1 (i - 1))) rfl sc_67 mem_ (hT (i - 1) om_))) ?_
    rintro _ _ ⟨rfl, rfl⟩
    refine ⟨Or.inl kr_, ?_⟩
    refine RD_l 15 rfl (Yl_conv (c := ((snx sns1 (i - 1) : Nat) : Int)) rfl in_67 in_2 (wi64 om_ om_)) ?_
    refine RD_l 16 rfl (Yl_build (cs := [nv 0, .string (bar (([115, 101, 116, 116, 105, 110, 103, 32, 109, 105, 110, 105, 32, 115, 116, 114, 101, 97, 109, 32, 40] ++ s) ++ [41])), nv (snx sns1 (i - 1))]) pl_123 ze_123 rfl rfl) ?_
    refine RD_l 17 rfl (Yl_iface rfl co_123) ?_
    refine RD_a 18 ?_
    refine (RD_done kr_ (QW_lv [2] ?_))
    refine CW_ret ?_
    refine QW_ret_then ?_
    refine QW_ret_block ?_
    refine QW_ret_then ?_
    refine QW_ret_then ?_
    refine QW_ret_block ?_
    refine QW_ret_then ?_
    first
     | (refine QW_dropB (e := (bm, _)) (by repeat (first | exact Rem.here _ _ | apply Rem.there)) ?_; exact QW_ret1 rfl rfl (_ :: _ :: _ :: _ :: _ :: _ :: _ :: _ :: _ :: _ :: _ :: filsH br (f0 :: fr)) (.inl ⟨hfa1, hf2, rfl, bm1, Tl, g2, cap2, r2, hTl, hT, hl, rfl⟩) (Prm.nil _))
     | (refine QW_heap (Prm.perm (show Prm _ ((5, Obj.cells lp.toArray Tp fp) :: (0, Obj.cells [.iface 181 (.pointer (some ⟨bE.b, bE.o, none⟩))].toArray T0 fz0) :: (bE.b, Obj.cells bE.l.toArray TE fzE) :: _) from Prm.cons (by repeat (first | exact Rem.here _ _ | apply Rem.there)) (Prm.cons (by repeat (first | exact Rem.here _ _ | apply Rem.there)) (Prm.cons (by repeat (first | exact Rem.here _ _ | apply Rem.there)) (Prm.nil _))))) ?_; refine QW_sub (H' := (5, Obj.cells lp.toArray Tp fp) :: (0, Obj.cells [.iface 181 (.pointer (some ⟨bE.b, bE.o, none⟩))].toArray T0 fz0) :: (bE.b, Obj.cells bE.l.toArray TE fzE) :: F) (.cons_cons _ (.cons_cons _ (.cons_cons _ (by repeat (first | exact List.Sublist.refl _ | exact List.sublist_append_right _ _ | apply List.Sublist.cons))))) ?_; exact QW_ret1 rfl rfl [(5, Obj.cells lp.toArray Tp fp), (0, Obj.cells [.iface 181 (.pointer (some ⟨bE.b, bE.o, none⟩))].toArray T0 fz0), (bE.b, Obj.cells bE.l.toArray TE fzE)] (.inr ⟨fun hf => absurd (hf.1 (i - 1) (by omega)) hlk, ⟨_, _, _, by omega, rfl⟩, rfl⟩) (Prm.nil _))
     | (refine QW_heap (Prm.perm (show Prm _ ((5, Obj.cells lp.toArray Tp fp) :: (0, Obj.cells [.iface 181 (.pointer (some ⟨bE.b, bE.o, none⟩))].toArray T0 fz0) :: (bE.b, Obj.cells bE.l.toArray TE fzE) :: _) from Prm.cons (by repeat (first | exact Rem.here _ _ | apply Rem.there)) (Prm.cons (by repeat (first | exact Rem.here _ _ | apply Rem.there)) (Prm.cons (by repeat (first | exact Rem.here _ _ | apply Rem.there)) (Prm.nil _))))) ?_; refine QW_sub (H' := (5, Obj.cells lp.toArray Tp fp) :: (0, Obj.cells [.iface 181 (.pointer (some ⟨bE.b, bE.o, none⟩))].toArray T0 fz0) :: (bE.b, Obj.cells bE.l.toArray TE fzE) :: F) (.cons_cons _ (.cons_cons _ (.cons_cons _ (by repeat (first | exact List.Sublist.refl _ | exact List.sublist_append_right _ _ | apply List.Sublist.cons))))) ?_; exact QW_ret1 rfl rfl [(5, Obj.cells lp.toArray Tp fp), (0, Obj.cells [.iface 181 (.pointer (some ⟨bE.b, bE.o, none⟩))].toArray T0 fz0), (bE.b, Obj.cells bE.l.toArray TE fzE)] (.inr ⟨fun hf => absurd (hf.2 j hjK) hlk, ⟨_, _, _, by omega, rfl⟩, rfl⟩) (Prm.nil _))
   skip
   refine RO_fx rfl rfl rfl rfl (Yh.fx (Yh_load (v := uv (snx sns1 (i - 1))) rfl sc_67 mem_ (hT (i - 1) om_))) ?_
   rintro _ _ ⟨rfl, rfl⟩
   refine ⟨Or.inr (Sub.refl _), ?_⟩
   refine RD_l 15 rfl (Yl_conv (c := ((snx sns1 (i - 1) : Nat) : Int)) rfl in_67 in_2 (wi64 om_ om_)) ?_
   refine RD_o 1 ?_
   refine RO_fx rfl rfl rfl rfl (Fx_invokeQ (T := 123) (v := .agg #[nv 1, .string (bar fnMsg), nv (o1 (i - 1))]) (vs := []) (R := fun v => ∃ s : List UInt8, s.length ≤ fnMsg.length + 15 ∧ v = .string (bar s)) rfl mt_123 pt_123 ok_98 rfl (Pick.cons rem_ (Pick.nil _)) (errError_ct 1 (o1 (i - 1)) fnMsg (by decide) om_ om_ lp Tp fp hp)) ?_
   rintro _ _ ⟨⟨s, hs, rfl⟩, rfl⟩
   refine ⟨Or.inl kr_, ?_⟩
   refine RD_l 2 rfl (Yl_concatB (a := [115, 101, 116, 116, 105, 110, 103, 32, 109, 105, 110, 105, 32, 115, 116, 114, 101, 97, 109, 32, 40]) (b := s) rfl rfl (by simp [fnMsg] at hs ⊢; omega)) ?_
   refine RD_l 3 rfl (Yl_concatB (a := [115, 101, 116, 116, 105, 110, 103, 32, 109, 105, 110, 105, 32, 115, 116, 114, 101, 97, 109, 32, 40] ++ s) (b := [41]) rfl rfl (by simp [fnMsg] at hs ⊢; omega)) ?_
   refine RD_l 16 rfl (Yl_build (cs := [nv 0, .string (bar (([115, 101, 116, 116, 105, 110, 103, 32, 109, 105, 110, 105, 32, 115, 116, 114, 101, 97, 109, 32, 40] ++ s) ++ [41])), nv (snx sns1 (i - 1))]) pl_123 ze_123 rfl rfl) ?_
   refine RD_l 17 rfl (Yl_iface rfl co_123) ?_
   refine RD_a 18 ?_
   refine (RD_done kr_ (QW_lv [2] ?_))
   refine CW_ret ?_
   refine QW_ret_then ?_
   refine QW_ret_block ?_
   refine QW_ret_then ?_
   refine QW_ret_then ?_
   refine QW_ret_block ?_
   refine QW_ret_then ?_
   first
    | (refine QW_dropB (e := (bm, _)) (by repeat (first | exact Rem.here _ _ | apply Rem.there)) ?_; exact QW_ret1 rfl rfl (_ :: _ :: _ :: _ :: _ :: _ :: _ :: _ :: _ :: _ :: _ :: filsH br (f0 :: fr)) (.inl ⟨hfa1, hf2, rfl, bm1, Tl, g2, cap2, r2, hTl, hT, hl, rfl⟩) (Prm.nil _))
    | (refine QW_heap (Prm.perm (show Prm _ ((5, Obj.cells lp.toArray Tp fp) :: (0, Obj.cells [.iface 181 (.pointer (some ⟨bE.b, bE.o, none⟩))].toArray T0 fz0) :: (bE.b, Obj.cells bE.l.toArray TE fzE) :: _) from Prm.cons (by repeat (first | exact Rem.here _ _ | apply Rem.there)) (Prm.cons (by repeat (first | exact Rem.here _ _ | apply Rem.there)) (Prm.cons (by repeat (first | exact Rem.here _ _ | apply Rem.there)) (Prm.nil _))))) ?_; refine QW_sub (H' := (5, Obj.cells lp.toArray Tp fp) :: (0, Obj.cells [.iface 181 (.pointer (some ⟨bE.b, bE.o, none⟩))].toArray T0 fz0) :: (bE.b, Obj.cells bE.l.toArray TE fzE) :: F) (.cons_cons _ (.cons_cons _ (.cons_cons _ (by repeat (first | exact List.Sublist.refl _ | exact List.sublist_append_right _ _ | apply List.Sublist.cons))))) ?_; exact QW_ret1 rfl rfl [(5, Obj.cells lp.toArray Tp fp), (0, Obj.cells [.iface 181 (.pointer (some ⟨bE.b, bE.o, none⟩))].toArray T0 fz0), (bE.b, Obj.cells bE.l.toArray TE fzE)] (.inr ⟨fun hf => absurd (hf.1 (i - 1) (by omega)) hlk, ⟨_, _, _, by omega, rfl⟩, rfl⟩) (Prm.nil _))
    | (refine QW_heap (Prm.perm (show Prm _ ((5, Obj.cells lp.toArray Tp fp) :: (0, Obj.cells [.iface 181 (.pointer (some ⟨bE.b, bE.o, none⟩))].toArray T0 fz0) :: (bE.b, Obj.cells bE.l.toArray TE fzE) :: _) from Prm.cons (by repeat (first | exact Rem.here _ _ | apply Rem.there)) (Prm.cons (by repeat (first | exact Rem.here _ _ | apply Rem.there)) (Prm.cons (by repeat (first | exact Rem.here _ _ | apply Rem.there)) (Prm.nil _))))) ?_; refine QW_sub (H' := (5, Obj.cells lp.toArray Tp fp) :: (0, Obj.cells [.iface 181 (.pointer (some ⟨bE.b, bE.o, none⟩))].toArray T0 fz0) :: (bE.b, Obj.cells bE.l.toArray TE fzE) :: F) (.cons_cons _ (.cons_cons _ (.cons_cons _ (by repeat (first | exact List.Sublist.refl _ | exact List.sublist_append_right _ _ | apply List.Sublist.cons))))) ?_; exact QW_ret1 rfl rfl [(5, Obj.cells lp.toArray Tp fp), (0, Obj.cells [.iface 181 (.pointer (some ⟨bE.b, bE.o, none⟩))].toArray T0 fz0), (bE.b, Obj.cells bE.l.toArray TE fzE)] (.inr ⟨fun hf => absurd (hf.2 j hjK) hlk, ⟨_, _, _, by omega, rfl⟩, rfl⟩) (Prm.nil _))
  skip
  exact absurd hc7 (by decide)
 have hin : i = nm := by omega
 rw [hin] at hT
 have hfa1 : LkFit N (nm - 1) o1 := fun k hk => hf1 k om_
 refine CW_exit ?_
 refine QW_exit_then ?_
 refine QW_exit_then ?_
 refine QW_exit_block ?_
 refine (QW_lv [0] ?_)
 refine CW_seq ?_
 refine CW_draw [] _ mixed (Sub.refl _) ?_
 refine RD_m 0 ?_
 refine RD_n 1 ?_
 refine RD_f 2 fo_89_1 ?_
 refine RD_m 5 ?_
 refine RD_n 6 ?_
 refine RD_f 7 fo_89_3 ?_
 refine RD_h (i := 3) #[true, true, true, false, false, true, true, true, true, true, true, true, true, true, true, false, false, false] rfl rfl rfl rfl kr_ (fun _ _ _ h => h) (Yh_ld (v := uv ss) sc_67) ?_
 refine RD_l 4 rfl (Yl_quo (c := ((ss / 4 : Nat) : Int)) rfl rfl om_ (quo32 (b := 4) om_)) ?_
 refine RD_h (i := 8) #[true, true, true, true, true, true, true, true, false, false, false, false, false, false, false, false, false, false] rfl rfl rfl rfl kr_ (fun _ _ _ h => h) (Yh_ld (v := pv bh) sc_82) ?_
 refine RD_n 9 ?_
 refine RD_f 10 fo_137_0 ?_
 refine RD_h (i := 11) #[true, true, true, true, true, true, true, true, true, true, true, false, false, false, false, false, false, false] rfl rfl rfl rfl kr_ (fun _ _ _ h => h) (Yh_ld (v := pv bhf) sc_134) ?_
 refine RD_n 12 ?_
 refine RD_f 13 fo_142_14 ?_
 refine RD_h (i := 14) #[true, true, true, true, true, true, true, true, true, true, true, true, true, true, false, false, false, false] rfl rfl rfl rfl kr_ (fun _ _ _ h => h) (Yh_lh (v := uv nm) sc_67 hnm) ?_
 refine RD_l 15 rfl (Yl_mul (c := ((ss / 4 * nm : Nat) : Int)) rfl rfl (mul32 (a := ss / 4) (b := nm) om_)) ?_
 refine RD_l 16 rfl (Yl_conv (c := ((ss / 4 * nm : Nat) : Int)) rfl in_67 in_3 (wi64 om_ om_)) ?_
 refine RD_a 17 ?_
 refine (RD_done kr_ (QW_lv [0,3] ?_))
 refine CW_seq ?_
 refine CW_sr ?_
 refine RW_m ?_
 refine RW_l (Yl_gtr rfl rfl) ?_
 refine RW_lv [0,3,180] ?_
 refine CW_cd rfl (fun hc8 => ?_) (fun hc8 => ?_)
 ·exfalso; omega
 refine (CW_skip (QW_lv [0,3] ?_))
 refine CW_seq ?_
 refine CW_draw [8] _ mixed (Sub.refl _) ?_
 refine RD_m 0 ?_
 refine RD_n 1 ?_
 refine RD_f 2 fo_89_3 ?_
 refine RD_m 4 ?_
 refine RD_h (i := 3) #[true, true, true, false, true, true, false, false, false] rfl rfl rfl rfl kr_ (fun _ _ _ h => h) (Yh_ld (v := pv bh) sc_82) ?_
 refine RD_o 5 ?_
 refine RO_fx rfl rfl rfl rfl (Fx_makeSlice (z0 := .int .u32 0) (m := 1) (l := 0) (c := ((ss / 4 * nm : Nat) : Int)) rfl rfl sl_22 by_67 ze_67 rfl rfl om_ om_ om_ om_) ?_
 rintro _ _ ⟨g2, rfl, rfl⟩
 refine ⟨Or.inr (Sub.more (Sub.refl _)), ?_⟩
 refine RD_n 6 ?_
 refine RD_f 7 fo_137_3 ?_
 refine RD_o 8 ?_
 refine RO_fx0 rfl rfl rfl (Fx_store (v := .slice (some ⟨g2, 0, none⟩) 0 (ss / 4 * nm)) rfl rfl sz_22 rfl rep_ (by simp)) ?_
 rintro _ _ rfl
 refine ⟨Or.inl kr_, ?_⟩
 refine (RD_done kr_ (QW_lv [0] ?_))
 refine CW_sr ?_
 refine RW_fx rfl rfl rfl (Fx_makeMap .u32) ?_
 rintro _ _ ⟨bm, rfl, rfl⟩
 refine RW_a ?_
 refine RW_lv [0,7] ?_
 refine CW_sr ?_
 refine RW_m ?_
 refine RW_n ?_
 refine RW_f fo_89_5 ?_
 refine RW_h (Yh_ld (v := .slice (some ⟨g, 0, none⟩) n cap) sc_83) ?_
 refine RW_l (Yl_indexN (b := g) (off := 0) (i := 0) (o' := 0) rfl rfl sl_83 om_ om_) ?_
 refine RW_h (Yh_ld (v := pv f0.bf) sc_90) ?_
 refine RW_n ?_
 refine RW_f fo_93_7 ?_
 refine RW_h (Yh_ld (v := pv f0.bd) sc_91) ?_
 refine RW_n ?_
 refine RW_f fo_112_11 ?_
 refine RW_h (Yh_lh (v := uv (snx sns2 0)) sc_67 hst) ?_
 refine RW_a ?_
 refine RW_lv [0,7,8] ?_
 refine CW_seq ?_
 refine CW_block ?_
 refine CW_loop (σ := MsS) (fun q => [(0, pv br), (7, .map (some bm)), (8, uv (snx sns2 q.j))]) (fun q => (br, blk (rdF bs ss buf (pv bh) file (.slice (some ⟨g, 0, none⟩) n cap) wa) 89) :: (bh, blk [pv bhf, .slice (some ⟨bhf, 45, none⟩) 109 109, .slice (some ⟨bm1, 0, none⟩) nm nm, .slice (some ⟨q.g2, 0, none⟩) q.j q.cap2] 137) :: (bhf, blk hc 142) :: (bs, blk [.slice (some ⟨bB, 0, none⟩) N cN] 103) :: (bB, blk (bys B ++ rB) 5) :: (g, blk (ptrs (f0 :: fr) ++ r) 90) :: (5, Obj.cells lp.toArray Tp fp) :: (0, Obj.cells [.iface 181 (.pointer (some ⟨bE.b, bE.o, none⟩))].toArray T0 fz0) :: (bE.b, Obj.cells bE.l.toArray TE fzE) :: (bm1, blk Tl 67) :: (bm, mobj .u32 q.l q.c) :: (q.g2, blk (u32s (sns2.take q.j) ++ q.r2) 67) :: (f0.bf, blk (fiF f0.en.nm f0.en.ini f0.en.path f0.en.size f0.en.pos f0.en.cur f0.en.rem f0.bd br) 93) :: (f0.bd, blk f0.en.dc 112) :: (filsH br fr ++ F)) (fun q => q.j ≤ sns2.length ∧ (u32s (sns2.take q.j) ++ q.r2).length = q.cap2 ∧ (∀ p ∈ q.l, ∃ i, 1 ≤ i ∧ i ≤ q.j ∧ p.1 = ((snx sns2 i : Nat) : Int)) ∧ ∀ k, k < q.j → o2 k + 4 ≤ N) (fun q => sns2.length - q.j) ⟨0, g2, ss / 4 * nm, List.replicate (ss / 4 * nm) (.int .u32 0), [], 0⟩ ⟨Nat.zero_le _, by simp, by simp, fun k hk => by simp only at hk; omega⟩ (by simp only [List.take_zero, List.map_nil, List.nil_append, Int.toNat_natCast, Nat.mul_one]; exact prm_) kp_ ?_
 rintro ⟨j, g2, cap2, r2, l, c⟩ ⟨hj, hl, hmap, hf2⟩
 simp only at hj hl hmap hf2 ⊢
 refine CW_seq ?_
 refine CW_sr ?_
 refine RW_m ?_
 refine RW_l (Yl_neq rfl rfl) ?_
 refine RW_lv [0,7,8,203] ?_
 refine CW_cd rfl (fun hc9 => ?_) (fun hc9 => ?_)
 ·have hjK : j < sns2.length := by
   rcases Nat.lt_or_ge j sns2.length with hh | hh
   ·exact hh
   exact absurd (by rw [snx_end sns2 (show j = sns2.length by omega)]; rfl) hc9
  have hsm := h2.small j hjK
  obtain ⟨sect, hsect, hs109, hse, ho, hotop, hnx⟩ := h2.next j hjK
  have hoge : 512 ≤ o2 j := by rw [ho, Nat.add_mul]; omega
  refine (CW_skip (QW_lv [0,7,8] ?_))
  refine CW_block ?_
  refine CW_seq ?_
  refine CW_draw [16] [(br, blk (rdF bs ss buf (pv bh) file (.slice (some ⟨g, 0, none⟩) n cap) wa) 89), (bh, blk [pv bhf, .slice (some ⟨bhf, 45, none⟩) 109 109, .slice (some ⟨bm1, 0, none⟩) nm nm, .slice (some ⟨g2, 0, none⟩) j cap2] 137)] mixed sub_ ?_
  refine RD_m 0 ?_
  refine RD_n 1 ?_
  refine RD_f 2 fo_89_3 ?_
  refine RD_m 4 ?_
  refine RD_n 5 ?_
  refine RD_f 6 fo_89_3 ?_
  refine RD_m 11 ?_
  refine RD_h (i := 3) #[true, true, true, false, true, true, true, true, true, true, true, true, true, true, false, false, false] rfl rfl rfl rfl kr_ (fun _ _ _ h => h) (Yh_ld (v := pv bh) sc_82) ?_
  refine RD_h (i := 7) #[true, true, true, true, true, true, true, false, false, false, false, true, true, false, false, false, false] rfl rfl rfl rfl kr_ (fun _ _ _ h => h) (Yh_ld (v := pv bh) sc_82) ?_
  refine RD_n 8 ?_
  refine RD_f 9 fo_137_3 ?_
  refine RD_h (i := 10) #[true, true, true, true, true, true, true, true, true, true, false, true, true, false, false, false, false] rfl rfl rfl rfl kr_ (fun _ _ _ h => h) (Yh_ld (v := .slice (some ⟨g2, 0, none⟩) j cap2) sc_22) ?_
  refine RD_o 12 ?_
  refine RO_fx rfl rfl rfl rfl (Fx_litS (vs := [uv (snx sns2 j)]) sl_22 ze_67 rfl rfl rfl rfl rfl) ?_
  rintro _ _ ⟨b216, rfl, rfl⟩
  refine ⟨Or.inr sub_, ?_⟩
  refine RD_o 13 ?_
  refine RO_fx rfl rfl rfl rfl (Fx_appT (xs := u32s (sns2.take j)) (r := r2) (news := [uv (snx sns2 j)]) (n := j) (cap := cap2) (z0 := .int .u32 0) (q := 1) rfl rfl sl_22 by_67 ze_67 rfl rfl rem_ rem_ (by rw [hl]; omega) (by simp; omega) rfl (by simp [Value.oneCell', uv]) om_ om_ om_) ?_
  rintro _ _ ⟨g', cap', r', rfl, hl', rfl⟩
  refine ⟨Or.inr sub_, ?_⟩
  refine RD_n 14 ?_
  refine RD_f 15 fo_137_3 ?_
  refine RD_o 16 ?_
  refine RO_fx0 rfl rfl rfl (Fx_store (v := .slice (some ⟨g', 0, none⟩) (j + 1) cap') rfl rfl sz_22 rfl rep_ (by simp)) ?_
  rintro _ _ rfl
  refine ⟨Or.inl kr_, ?_⟩
  refine (RD_done kr_ (QW_lv [0,7,8] ?_))
  refine CW_seq ?_
  by_cases hlk : o2 j + 4 ≤ N
  ·skip
   have hfn := findNext_ct br bh bhf bs bB ss (snx sns2 j) sect 45 109 109 (o2 j) N cN B rB (rdF bs ss buf (pv bh) file (.slice (some ⟨g, 0, none⟩) n cap) wa) [pv bhf, .slice (some ⟨bhf, 45, none⟩) 109 109, .slice (some ⟨bm1, 0, none⟩) nm nm, .slice (some ⟨g', 0, none⟩) (j + 1) cap'] hc 142 rfl rfl rfl rfl hsect hs109 om_ om_ om_ om_ ho hlk hB hcN hN
   rw [hnx hlk] at hfn
   refine CW_region ?_
   refine RW_m ?_
   refine RW_m ?_
   refine RW_fx rfl rfl rfl (Fx_callQ ok_60 (vs := [pv br, uv (snx sns2 j), .bool false]) (R := fun v => v = .tuple #[uv (snx sns2 (j + 1)), .nilIface]) rfl pk_ hfn) ?_
   rintro _ _ ⟨rfl, rfl⟩
   refine RW_m ?_
   refine RW_l (Yl_extract rfl rfl) ?_
   refine RW_l (Yl_extract rfl rfl) ?_
   refine RW_a ?_
   refine RW_a ?_
   refine RW_lv [0,7,8,9,10] ?_
   refine CW_seq ?_
   refine CW_sr ?_
   refine RW_m ?_
   refine RW_l (Yl_ifNeNil rfl if_105) ?_
   refine RW_lv [0,7,8,9,10,227] ?_
   refine CW_cond rfl (fun hc10 => ?_) (fun hc10 => ?_)
   ·skip
    exact absurd hc10 (by decide)
   skip
   refine (CW_skip (QW_lv [0,7,8,9] ?_))
   refine CW_seq ?_
   refine CW_sr ?_
   refine RW_m ?_
   refine RW_m ?_
   refine RW_l (Yl_leq rfl rfl) ?_
   refine RW_lv [0,7,8,9,238] ?_
   refine CW_cd rfl (fun hc11 => ?_) (fun hc11 => ?_)
   ·refine CW_seq ?_
    refine CW_sr ?_
    refine RW_m ?_
    refine RW_m ?_
    refine RW_l (Yl_eql rfl rfl) ?_
    refine RW_m ?_
    refine RW_bool 242 rfl (fun hg12 => ?_) (fun hg12 => ?_)
    ·replace hg12 := of_decide_eq_true hg12
     exact absurd (by exact_mod_cast hg12) (h2.ne (i := j) (j := j + 1) om_ om_ om_).symm
    replace hg12 := of_decide_eq_false hg12
    refine RW_gy rfl rfl rfl (Yl.h (Yl_move rfl)) ?_
    refine RW_gy rfl rfl rfl (Yl.h (Yl_move rfl)) ?_
    refine RW_gy rfl rfl rfl (Yh_lookup (v := .bool false) (n := ((snx sns2 (j + 1) : Nat) : Int)) (k := .u32) (l := l) (c := c) rfl rfl mp_143 in_67 zm_4 mem_ (by rw [mfind_none (by intro p hp; obtain ⟨i, hi1, hi2, hi3⟩ := hmap p hp; rw [hi3]; intro e; exact h2.ne (i := i) (j := j + 1) om_ om_ om_ (by exact_mod_cast e))]; rfl)) ?_
    refine RW_l (Yl_pick_f rfl rfl) ?_
    refine RW_lv [0,7,9,246] ?_
    refine CW_false rfl ?_
    refine (CW_skip (QW_lv [0,7,9] ?_))
    refine CW_region ?_
    refine RW_m ?_
    refine RW_m ?_
    refine RW_fx0 rfl rfl (Fx_mapUpdate (n := ((snx sns2 (j + 1) : Nat) : Int)) (v := .bool true) (k := .u32) (l := l) (c := c) rfl rfl rfl mp_143 in_67 rep_ (by intro p hp; obtain ⟨i, hi1, hi2, hi3⟩ := hmap p hp; rw [hi3]; intro e; exact h2.ne (i := i) (j := j + 1) om_ om_ om_ (by exact_mod_cast e))) ?_
    rintro _ _ ⟨rfl, rfl⟩
    refine RW_lv [0,7,9] ?_
    refine CW_region ?_
    refine RW_m ?_
    refine RW_a ?_
    refine RW_nil ?_
    refine QW_normal_block ?_
    have htk : u32s (sns2.take (j + 1)) = u32s (sns2.take j) ++ [uv (snx sns2 j)] := by
     rw [List.take_succ_eq_append_getElem hjK]; simp only [u32s, List.map_append, List.map_cons, List.map_nil]; congr 2; rw [snx_in _ hjK]; simp [List.getD_eq_getElem?_getD, hjK]
    first
     | (refine QW_round ⟨j + 1, g', cap', r', l, c⟩ ⟨by simp only; omega, by simp only [htk]; rw [← Nat.mul_one cap']; exact hl', (by intro p hp; obtain ⟨i, hi1, hi2, hi3⟩ := hmap p hp; exact ⟨i, hi1, by simp only; omega, hi3⟩), (by intro k hk; simp only at hk; rcases Nat.lt_or_ge k j with h | h; exact hf2 k h; obtain rfl : k = j := (by omega); exact hlk)⟩ (by simp only; omega) ?_ (.cons rfl (.cons rfl (.cons rfl .nil))); simp only [htk]; (repeat (first | exact Prm.nil _ | exact Rem.here _ _ | apply Rem.there | apply Prm.cons)); done)
     | (refine QW_round ⟨j + 1, g', cap', r', l ++ [(((snx sns2 (j + 1) : Nat) : Int), .bool true, c)], c + 1⟩ ⟨by simp only; omega, by simp only [htk]; rw [← Nat.mul_one cap']; exact hl', (by intro p hp; rcases List.mem_append.1 hp with hp | hp; (obtain ⟨i, hi1, hi2, hi3⟩ := hmap p hp; exact ⟨i, hi1, by simp only; omega, hi3⟩); (rw [List.mem_singleton.1 hp]; exact ⟨j + 1, by omega, by simp only; omega, rfl⟩)), (by intro k hk; simp only at hk; rcases Nat.lt_or_ge k j with h | h; exact hf2 k h; obtain rfl : k = j := (by omega); exact hlk)⟩ (by simp only; omega) ?_ (.cons rfl (.cons rfl (.cons rfl .nil))); simp only [htk]; (repeat (first | exact Prm.nil _ | exact Rem.here _ _ | apply Rem.there | apply Prm.cons)); done)
   refine (CW_skip (QW_lv [0,7,9] ?_))
   refine CW_region ?_
   refine RW_m ?_
   refine RW_a ?_
   refine RW_nil ?_
   refine QW_normal_block ?_
   have htk : u32s (sns2.take (j + 1)) = u32s (sns2.take j) ++ [uv (snx sns2 j)] := by
    rw [List.take_succ_eq_append_getElem hjK]; simp only [u32s, List.map_append, List.map_cons, List.map_nil]; congr 2; rw [snx_in _ hjK]; simp [List.getD_eq_getElem?_getD, hjK]
   first
    | (refine QW_round ⟨j + 1, g', cap', r', l, c⟩ ⟨by simp only; omega, by simp only [htk]; rw [← Nat.mul_one cap']; exact hl', (by intro p hp; obtain ⟨i, hi1, hi2, hi3⟩ := hmap p hp; exact ⟨i, hi1, by simp only; omega, hi3⟩), (by intro k hk; simp only at hk; rcases Nat.lt_or_ge k j with h | h; exact hf2 k h; obtain rfl : k = j := (by omega); exact hlk)⟩ (by simp only; omega) ?_ (.cons rfl (.cons rfl (.cons rfl .nil))); simp only [htk]; (repeat (first | exact Prm.nil _ | exact Rem.here _ _ | apply Rem.there | apply Prm.cons)); done)
    | (refine QW_round ⟨j + 1, g', cap', r', l ++ [(((snx sns2 (j + 1) : Nat) : Int), .bool true, c)], c + 1⟩ ⟨by simp only; omega, by simp only [htk]; rw [← Nat.mul_one cap']; exact hl', (by intro p hp; rcases List.mem_append.1 hp with hp | hp; (obtain ⟨i, hi1, hi2, hi3⟩ := hmap p hp; exact ⟨i, hi1, by simp only; omega, hi3⟩); (rw [List.mem_singleton.1 hp]; exact ⟨j + 1, by omega, by simp only; omega, rfl⟩)), (by intro k hk; simp only at hk; rcases Nat.lt_or_ge k j with h | h; exact hf2 k h; obtain rfl : k = j := (by omega); exact hlk)⟩ (by simp only; omega) ?_ (.cons rfl (.cons rfl (.cons rfl .nil))); simp only [htk]; (repeat (first | exact Prm.nil _ | exact Rem.here _ _ | apply Rem.there | apply Prm.cons)); done)
  skip
  have hfs := findNextShort_ct br bh bhf bs bB ss (snx sns2 j) sect 45 109 109 (o2 j) N cN B rB (rdF bs ss buf (pv bh) file (.slice (some ⟨g, 0, none⟩) n cap) wa) [pv bhf, .slice (some ⟨bhf, 45, none⟩) 109 109, .slice (some ⟨bm1, 0, none⟩) nm nm, .slice (some ⟨g', 0, none⟩) (j + 1) cap'] hc 142 bE T0 TE fz0 fzE rfl rfl rfl rfl hsect hs109 om_ om_ om_ om_ ho om_ hB hcN hN
  refine CW_region ?_
  refine RW_m ?_
  refine RW_m ?_
  refine RW_fx rfl rfl rfl (Fx_callQ ok_60 (vs := [pv br, uv (snx sns2 j), .bool false]) (R := fun v => v = .tuple #[uv 0, .iface 123 (.agg #[nv 1, .string (bar fnMsg), nv (o2 j)])]) rfl pk_ hfs) ?_
  rintro _ _ ⟨rfl, rfl⟩
  refine RW_m ?_
  refine RW_l (Yl_extract rfl rfl) ?_
  refine RW_l (Yl_extract rfl rfl) ?_
  refine RW_a ?_
  refine RW_a ?_
  refine RW_lv [0,7,8,9,10] ?_
  refine CW_seq ?_
  refine CW_sr ?_
  refine RW_m ?_
  refine RW_l (Yl_ifNe rfl if_105) ?_
  refine RW_lv [0,7,8,9,10,227] ?_
  refine CW_cond rfl (fun hc13 => ?_) (fun hc13 => ?_)
  ·skip
   refine CW_sr ?_
   refine RW_m ?_
   refine RW_fx rfl rfl rfl (Fx_invokeQ (T := 123) (v := .agg #[nv 1, .string (bar fnMsg), nv (o2 j)]) (vs := []) (R := fun v => ∃ s : List UInt8, s.length ≤ fnMsg.length + 15 ∧ v = .string (bar s)) rfl mt_123 pt_123 ok_98 rfl (Pick.cons rem_ (Pick.nil _)) (errError_ct 1 (o2 j) fnMsg (by decide) om_ om_ lp Tp fp hp)) ?_
   rintro _ _ ⟨⟨s, hs, rfl⟩, rfl⟩
   refine RW_l (Yl_concatB (a := [115, 101, 116, 116, 105, 110, 103, 32, 109, 105, 110, 105, 32, 115, 116, 114, 101, 97, 109, 32, 40]) (b := s) rfl rfl (by simp [fnMsg] at hs ⊢; omega)) ?_
   refine RW_l (Yl_concatB (a := [115, 101, 116, 116, 105, 110, 103, 32, 109, 105, 110, 105, 32, 115, 116, 114, 101, 97, 109, 32, 40] ++ s) (b := [41]) rfl rfl (by simp [fnMsg] at hs ⊢; omega)) ?_
   refine RW_m ?_
   refine RW_l (Yl_conv (c := ((snx sns2 j : Nat) : Int)) rfl in_67 in_2 (wi64 om_ om_)) ?_
   refine RW_l (Yl_build (cs := [nv 0, .string (bar (([115, 101, 116, 116, 105, 110, 103, 32, 109, 105, 110, 105, 32, 115, 116, 114, 101, 97, 109, 32, 40] ++ s) ++ [41])), nv (snx sns2 j)]) pl_123 ze_123 rfl rfl) ?_
   refine RW_l (Yl_iface rfl co_123) ?_
   refine RW_a ?_
   refine RW_lv [2] ?_
   refine CW_ret ?_
   refine QW_ret_then ?_
   refine QW_ret_block ?_
   refine QW_ret_then ?_
   refine QW_ret_block ?_
   refine QW_ret_then ?_
   first
    | (refine QW_dropB (e := (bm, _)) (by repeat (first | exact Rem.here _ _ | apply Rem.there)) ?_; exact QW_ret1 rfl rfl (_ :: _ :: _ :: _ :: _ :: _ :: _ :: _ :: _ :: _ :: _ :: filsH br (f0 :: fr)) (.inl ⟨hfa1, hf2, rfl, bm1, Tl, g2, cap2, r2, hTl, hT, hl, rfl⟩) (Prm.nil _))
    | (refine QW_heap (Prm.perm (show Prm _ ((5, Obj.cells lp.toArray Tp fp) :: (0, Obj.cells [.iface 181 (.pointer (some ⟨bE.b, bE.o, none⟩))].toArray T0 fz0) :: (bE.b, Obj.cells bE.l.toArray TE fzE) :: _) from Prm.cons (by repeat (first | exact Rem.here _ _ | apply Rem.there)) (Prm.cons (by repeat (first | exact Rem.here _ _ | apply Rem.there)) (Prm.cons (by repeat (first | exact Rem.here _ _ | apply Rem.there)) (Prm.nil _))))) ?_; refine QW_sub (H' := (5, Obj.cells lp.toArray Tp fp) :: (0, Obj.cells [.iface 181 (.pointer (some ⟨bE.b, bE.o, none⟩))].toArray T0 fz0) :: (bE.b, Obj.cells bE.l.toArray TE fzE) :: F) (.cons_cons _ (.cons_cons _ (.cons_cons _ (by repeat (first | exact List.Sublist.refl _ | exact List.sublist_append_right _ _ | apply List.Sublist.cons))))) ?_; exact QW_ret1 rfl rfl [(5, Obj.cells lp.toArray Tp fp), (0, Obj.cells [.iface 181 (.pointer (some ⟨bE.b, bE.o, none⟩))].toArray T0 fz0), (bE.b, Obj.cells bE.l.toArray TE fzE)] (.inr ⟨fun hf => absurd (hf.1 (i - 1) (by omega)) hlk, ⟨_, _, _, by omega, rfl⟩, rfl⟩) (Prm.nil _))
    | (refine QW_heap (Prm.perm (show Prm _ ((5, Obj.cells lp.toArray Tp fp) :: (0, Obj.cells [.iface 181 (.pointer (some ⟨bE.b, bE.o, none⟩))].toArray T0 fz0) :: (bE.b, Obj.cells bE.l.toArray TE fzE) :: _) from Prm.cons (by repeat (first | exact Rem.here _ _ | apply Rem.there)) (Prm.cons (by repeat (first | exact Rem.here _ _ | apply Rem.there)) (Prm.cons (by repeat (first | exact Rem.here _ _ | apply Rem.there)) (Prm.nil _))))) ?_; refine QW_sub (H' := (5, Obj.cells lp.toArray Tp fp) :: (0, Obj.cells [.iface 181 (.pointer (some ⟨bE.b, bE.o, none⟩))].toArray T0 fz0) :: (bE.b, Obj.cells bE.l.toArray TE fzE) :: F) (.cons_cons _ (.cons_cons _ (.cons_cons _ (by repeat (first | exact List.Sublist.refl _ | exact List.sublist_append_right _ _ | apply List.Sublist.cons))))) ?_; exact QW_ret1 rfl rfl [(5, Obj.cells lp.toArray Tp fp), (0, Obj.cells [.iface 181 (.pointer (some ⟨bE.b, bE.o, none⟩))].toArray T0 fz0), (bE.b, Obj.cells bE.l.toArray TE fzE)] (.inr ⟨fun hf => absurd (hf.2 j hjK) hlk, ⟨_, _, _, by omega, rfl⟩, rfl⟩) (Prm.nil _))
  skip
  exact absurd hc13 (by decide)
 have hjK2 : j = sns2.length := by
  rcases Nat.lt_or_ge j sns2.length with hh | hh
  ·have := h2.small j hh
   exfalso; omega
  omega
 rw [hjK2, List.take_length] at hl
 rw [hjK2, List.take_length]
 rw [hjK2] at hf2
 refine CW_exit ?_
 refine QW_exit_then ?_
 refine QW_exit_then ?_
 refine QW_exit_block ?_
 refine (QW_lv [] ?_)
 refine CW_sr ?_
 refine RW_a ?_
 refine RW_lv [2] ?_
 refine CW_ret ?_
 first
  | (refine QW_dropB (e := (bm, _)) (by repeat (first | exact Rem.here _ _ | apply Rem.there)) ?_; exact QW_ret1 rfl rfl (_ :: _ :: _ :: _ :: _ :: _ :: _ :: _ :: _ :: _ :: _ :: filsH br (f0 :: fr)) (.inl ⟨hfa1, hf2, rfl, bm1, Tl, g2, cap2, r2, hTl, hT, hl, rfl⟩) (Prm.nil _))
  | (refine QW_heap (Prm.perm (show Prm _ ((5, Obj.cells lp.toArray Tp fp) :: (0, Obj.cells [.iface 181 (.pointer (some ⟨bE.b, bE.o, none⟩))].toArray T0 fz0) :: (bE.b, Obj.cells bE.l.toArray TE fzE) :: _) from Prm.cons (by repeat (first | exact Rem.here _ _ | apply Rem.there)) (Prm.cons (by repeat (first | exact Rem.here _ _ | apply Rem.there)) (Prm.cons (by repeat (first | exact Rem.here _ _ | apply Rem.there)) (Prm.nil _))))) ?_; refine QW_sub (H' := (5, Obj.cells lp.toArray Tp fp) :: (0, Obj.cells [.iface 181 (.pointer (some ⟨bE.b, bE.o, none⟩))].toArray T0 fz0) :: (bE.b, Obj.cells bE.l.toArray TE fzE) :: F) (.cons_cons _ (.cons_cons _ (.cons_cons _ (by repeat (first | exact List.Sublist.refl _ | exact List.sublist_append_right _ _ | apply List.Sublist.cons))))) ?_; exact QW_ret1 rfl rfl [(5, Obj.cells lp.toArray Tp fp), (0, Obj.cells [.iface 181 (.pointer (some ⟨bE.b, bE.o, none⟩))].toArray T0 fz0), (bE.b, Obj.cells bE.l.toArray TE fzE)] (.inr ⟨fun hf => absurd (hf.1 (i - 1) (by omega)) hlk, ⟨_, _, _, by omega, rfl⟩, rfl⟩) (Prm.nil _))
  | (refine QW_heap (Prm.perm (show Prm _ ((5, Obj.cells lp.toArray Tp fp) :: (0, Obj.cells [.iface 181 (.pointer (some ⟨bE.b, bE.o, none⟩))].toArray T0 fz0) :: (bE.b, Obj.cells bE.l.toArray TE fzE) :: _) from Prm.cons (by repeat (first | exact Rem.here _ _ | apply Rem.there)) (Prm.cons (by repeat (first | exact Rem.here _ _ | apply Rem.there)) (Prm.cons (by repeat (first | exact Rem.here _ _ | apply Rem.there)) (Prm.nil _))))) ?_; refine QW_sub (H' := (5, Obj.cells lp.toArray Tp fp) :: (0, Obj.cells [.iface 181 (.pointer (some ⟨bE.b, bE.o, none⟩))].toArray T0 fz0) :: (bE.b, Obj.cells bE.l.toArray TE fzE) :: F) (.cons_cons _ (.cons_cons _ (.cons_cons _ (by repeat (first | exact List.Sublist.refl _ | exact List.sublist_append_right _ _ | apply List.Sublist.cons))))) ?_; exact QW_ret1 rfl rfl [(5, Obj.cells lp.toArray Tp fp), (0, Obj.cells [.iface 181 (.pointer (some ⟨bE.b, bE.o, none⟩))].toArray T0 fz0), (bE.b, Obj.cells bE.l.toArray TE fzE)] (.inr ⟨fun hf => absurd (hf.2 j hjK) hlk, ⟨_, _, _, by omega, rfl⟩, rfl⟩) (Prm.nil _))

def MiniTry (B : List UInt8) (N ss : Nat) (hc : List Value) (st0 ml nm : Nat) (o1 o2 : Nat → Nat) : Option (List Nat × List Nat) → Prop
  | none => st0 = 4294967294
  | some s => ChTry B N ss hc s.1 o1 ∧ ChTry B N ss hc s.2 o2 ∧ st0 = snx s.2 0 ∧ 1 ≤ s.2.length ∧ ml = snx s.1 0 ∧ nm = s.1.length ∧ 1 ≤ nm ∧ ss / 4 * nm ≤ 64000 ∧ s.2.length ≤ 100000
def MiniFit (N : Nat) (mi : Option (List Nat × List Nat)) (o1 o2 : Nat → Nat) : Prop := ∀ s, mi = some s → LkFit N (s.1.length - 1) o1 ∧ LkFit N s.2.length o2
structure FileTry (ps : List Value) (B : List UInt8) (N ss ver sh nd nf dl ml nm num_ : Nat) (sns : List Nat) (es : List En) (tn : List Tn) (mi : Option (List Nat × List Nat)) (o0 o1 o2 : Nat → Nat) : Prop where
  hd : HdOk ((B.drop 0).take 512) ver sh nd nf dl ml nm
  hsh : sh = 9 ∨ sh = 12
  hss : ss = 2 ^ sh
  ss2 : 512 ≤ ss ∧ ss ≤ 4096
  m1 : ss / 4 * nm ≤ 1000000
  m2 : nm ≤ nf * (ss / 64)
  m3 : nf * (ss / 64) ≤ 1000000
  ch : ChTry B N ss (hcF ((B.drop 0).take 512) 109) sns o0
  K : 1 ≤ sns.length
  hdl : dl = snx sns 0
  ver4 : ver ≤ 4
  nd4 : nd ≤ 64000
  num : num_ = ss / 128
  len : es.length = sns.length * num_
  len2 : es.length ≤ 100000
  ent : ∀ j, j < sns.length → (snx sns j + 1) * ss + ss ≤ N → ∀ i, i < num_ → EnOk ps ver ((B.drop ((snx sns j + 1) * ss)).take ss) (i * 128) (es.getD (j * num_ + i) default)
  mini : ∃ st0 e0, es[0]? = some e0 ∧ e0.dc[60]? = some (uv st0) ∧ MiniTry B N ss (hcF ((B.drop 0).take 512) 109) st0 ml nm o1 o2 mi
  link : LinkOk tn es
  hB : B.length = N
  hN : N ≤ 1000000000
  hN5 : 512 ≤ N
def OpenFit (N ss : Nat) (sns : List Nat) (mi : Option (List Nat × List Nat)) (o0 o1 o2 : Nat → Nat) : Prop := DirFit N ss sns o0 ∧ MiniFit N mi o1 o2
theorem perm_c {A B : Heap} (h : ∀ (i : DecidableEq (Nat × Obj)) (a : Nat × Obj), @List.count _ (@instBEqOfDecidableEq _ i) a A = @List.count _ (@instBEqOfDecidableEq _ i) a B) : A.Perm B := by
  letI i : DecidableEq (Nat × Obj) := fun a b => Classical.propDecidable (a = b)
  exact (@List.perm_iff_count _ (@instBEqOfDecidableEq _ i) inferInstance A B).2 fun a => h i a
theorem setMiniTry_any (mi : Option (List Nat × List Nat)) (o1 o2 : Nat → Nat) (br bh bhf bb bs bB ss g N cN : Nat) (B : List UInt8) (rB hc lb ps : List Value) (T : TypeId) (buf file wa : Value) (n cap : Nat) (r : List Value) (fs : List Fil) (st0 ml nm : Nat) (lp : List Value) (Tp : TypeId) (fp : Nat × Nat) (hp : ∀ i, i < 20 → ∃ z : Int, lp[i]? = some (.int .u64 z)) (bE : EofB) (T0 TE : TypeId) (fz0 fzE : Nat × Nat) (hst : ∃ f0, fs[0]? = some f0 ∧ f0.en.dc[60]? = some (uv st0)) (hn : 0 < n)
    (hmi : MiniTry B N ss hc st0 ml nm o1 o2 mi) (hml : hc[41]? = some (uv ml)) (hnm : hc[42]? = some (uv nm)) (hss : 512 ≤ ss ∧ ss ≤ 4096) (hB : B.length = N) (hcN : N ≤ cN) (hN : N ≤ 1000000000) :
    Ct Tryd.prog 49 [pv br] ((5, Obj.cells lp.toArray Tp fp) :: (0, Obj.cells [.iface 181 (.pointer (some ⟨bE.b, bE.o, none⟩))].toArray T0 fz0) :: (bE.b, Obj.cells bE.l.toArray TE fzE) :: (br, blk (rdF bs ss buf (pv bh) file (.slice (some ⟨g, 0, none⟩) n cap) wa) 89) :: (bh, blk [pv bhf, .slice (some ⟨bhf, 45, none⟩) 109 109, .slice none 0 0, .slice none 0 0] 137) :: (bhf, blk hc 142) :: (bb, blk lb 5) :: (bs, blk [.slice (some ⟨bB, 0, none⟩) N cN] 103) :: (bB, blk (bys B ++ rB) 5) :: (2, blk ps T) :: (g, blk (ptrs fs ++ r) 90) :: filsH br fs)
      (fun v q => (MiniFit N mi o1 o2 ∧ v = .nilIface ∧ ∃ m1 m2 X, MiniOk mi m1 m2 X ∧ q = (5, Obj.cells lp.toArray Tp fp) :: (0, Obj.cells [.iface 181 (.pointer (some ⟨bE.b, bE.o, none⟩))].toArray T0 fz0) :: (bE.b, Obj.cells bE.l.toArray TE fzE) :: (br, blk (rdF bs ss buf (pv bh) file (.slice (some ⟨g, 0, none⟩) n cap) wa) 89) :: (bh, blk [pv bhf, .slice (some ⟨bhf, 45, none⟩) 109 109, m1, m2] 137) :: (bhf, blk hc 142) :: (bb, blk lb 5) :: (bs, blk [.slice (some ⟨bB, 0, none⟩) N cN] 103) :: (bB, blk (bys B ++ rB) 5) :: (2, blk ps T) :: (g, blk (ptrs fs ++ r) 90) :: (filsH br fs ++ X)) ∨ (¬ MiniFit N mi o1 o2 ∧ ErrX v ∧ ∃ Z, q = ((2, blk ps T) :: [(5, Obj.cells lp.toArray Tp fp), (0, Obj.cells [.iface 181 (.pointer (some ⟨bE.b, bE.o, none⟩))].toArray T0 fz0), (bE.b, Obj.cells bE.l.toArray TE fzE)]) ++ Z)) := by
  obtain ⟨f0, hf0, hst⟩ := hst
  obtain ⟨fr, rfl⟩ : ∃ fr, fs = f0 :: fr := by
    cases fs with
    | nil => simp at hf0
    | cons a r => simp at hf0; subst hf0; exact ⟨r, rfl⟩
  cases mi with
  | none =>
    have h0 : st0 = 4294967294 := hmi
    have P1 : ∀ (x y z a b c d e f p h : Nat × Obj) (A : Heap), (x :: y :: z :: a :: b :: c :: d :: e :: f :: p :: h :: A).Perm ((a :: b :: h :: A) ++ [x, y, z, c, d, e, f, p]) := fun x y z a b c d e f p h A => perm_c fun i w => by simp only [List.count_append, List.count_cons, List.count_nil]; omega
    refine (setMini0_ct br bh bhf bs bB ss g N cN B rB hc buf file wa (.slice none 0 0) (.slice none 0 0) n cap r f0 fr st0 hst hn h0).conseq (P1 _ _ _ _ _ _ _ _ _ _ _ _) ?_
    rintro v post ⟨rfl, rfl⟩
    refine ⟨_, .inl ⟨(fun s hs => by cases hs), rfl, .slice none 0 0, .slice none 0 0, [], ⟨rfl, rfl, rfl⟩, rfl⟩, ?_⟩
    rw [List.append_nil]
    exact (P1 _ _ _ _ _ _ _ _ _ _ _ _).symm
  | some s =>
    obtain ⟨h1, h2, h3, h4, h5, h6, h7, h8, h9⟩ := hmi
    have hq : 128 ≤ ss / 4 := by omega
    have hnm4 : nm ≤ 64000 := by
      have := Nat.mul_le_mul_right nm hq
      omega
    have P2 : ∀ (x y z a b c d e f p h : Nat × Obj) (A : Heap), (x :: y :: z :: a :: b :: c :: d :: e :: f :: p :: h :: A).Perm ((a :: b :: c :: e :: f :: h :: x :: y :: z :: A) ++ [p, d]) := fun x y z a b c d e f p h A => perm_c fun i w => by simp only [List.count_append, List.count_cons, List.count_nil]; omega
    refine (setMiniTry_ct br bh bhf bs bB ss g N cN B rB hc buf file wa lp Tp fp hp bE T0 TE fz0 fzE n cap r f0 fr hn s.1 s.2 ml nm o1 o2 h1 h2 (by rw [← h3]; exact hst) h4 h5 h6 h7 hml hnm h8 hnm4 h9 hss hB hcN hN).conseq (P2 _ _ _ _ _ _ _ _ _ _ _ _) ?_
    have hfit : MiniFit N (some s) o1 o2 ↔ (LkFit N (nm - 1) o1 ∧ LkFit N s.2.length o2) := by
      rw [h6]
      exact ⟨fun h => h s rfl, fun h t ht => by cases ht; exact h⟩
    rintro v post (⟨l1, l2, rfl, bm1, Tl, g2, cap2, r2, t1, t2, t3, rfl⟩ | ⟨l1, l2, rfl⟩)
    · refine ⟨_, .inl ⟨hfit.2 ⟨l1, l2⟩, rfl, .slice (some ⟨bm1, 0, none⟩) nm nm, .slice (some ⟨g2, 0, none⟩) s.2.length cap2, [(bm1, blk Tl 67), (g2, blk (u32s s.2 ++ r2) 67)], ?_, rfl⟩, ?_⟩
      · subst h6
        exact ⟨bm1, Tl, g2, cap2, r2, t1, t2, t3, rfl, rfl, rfl⟩
      exact perm_c fun i w => by simp only [List.count_append, List.count_cons, List.count_nil]; omega
    refine ⟨_, .inr ⟨fun h => l1 (hfit.1 h), l2, [(bb, blk lb 5)], rfl⟩, ?_⟩
    exact perm_c fun i w => by simp only [List.count_append, List.count_cons, List.count_nil]; omega

theorem hpm2 (x y z a b d c f k l m n : Nat × Obj) (P X F : Heap) : (a :: b :: d :: (P ++ (x :: y :: z :: c :: f :: k :: l :: m :: n :: (X ++ F)))).Perm (x :: y :: z :: a :: c :: f :: k :: l :: m :: n :: b :: d :: (P ++ (X ++ F))) :=
 perm_c fun i w => by simp only [List.count_append, List.count_cons]; omega
theorem NewTry_ct (bs bB N cN ss ver sh nd nf dl ml nm num_ : Nat) (B : List UInt8) (rB ps : List Value) (T : TypeId) (sns : List Nat) (es : List En) (tn : List Tn) (mi : Option (List Nat × List Nat)) (o0 o1 o2 : Nat → Nat) (lp : List Value) (Tp : TypeId) (fp : Nat × Nat) (hp : ∀ i, i < 20 → ∃ z : Int, lp[i]? = some (.int .u64 z)) (bE : EofB) (T0 TE : TypeId) (fz0 fzE : Nat × Nat) (h : FileTry ps B N ss ver sh nd nf dl ml nm num_ sns es tn mi o0 o1 o2) (hcN : N ≤ cN) :
  Ct Tryd.prog 39 [.iface 79 (pv bs)] [(bs, blk [.slice (some ⟨bB, 0, none⟩) N cN] 103), (bB, blk (bys B ++ rB) 5), (2, blk ps T), (5, Obj.cells lp.toArray Tp fp), (0, Obj.cells [.iface 181 (.pointer (some ⟨bE.b, bE.o, none⟩))].toArray T0 fz0), (bE.b, Obj.cells bE.l.toArray TE fzE)] (fun v q => (OpenFit N ss sns mi o0 o1 o2 ∧ ∃ (R : Rdr) (er : Value), R.Ok es (STv tn) mi er ∧ R.B = B ∧ R.N = N ∧ R.cN = cN ∧ R.ss = ss ∧ R.bs = bs ∧ R.bB = bB ∧ R.rB = rB ∧ R.ps = ps ∧ R.T = T ∧ v = .tuple #[if (STv tn).bad = true then .pointer none else pv R.br, er] ∧ q = (5, Obj.cells lp.toArray Tp fp) :: (0, Obj.cells [.iface 181 (.pointer (some ⟨bE.b, bE.o, none⟩))].toArray T0 fz0) :: (bE.b, Obj.cells bE.l.toArray TE fzE) :: R.H) ∨ (¬ OpenFit N ss sns mi o0 o1 o2 ∧ ∃ e, ErrX e ∧ v = .tuple #[.pointer none, e] ∧ q = [(2, blk ps T), (5, Obj.cells lp.toArray Tp fp), (0, Obj.cells [.iface 181 (.pointer (some ⟨bE.b, bE.o, none⟩))].toArray T0 fz0), (bE.b, Obj.cells bE.l.toArray TE fzE)])) := by
 obtain ⟨st0, e0, he0, hst0, hMi⟩ := h.mini
 refine Ct_of Tryd.func39 rfl Tryd.ntmps39 rfl ?_
 intro E F
 simp only [numL, List.nil_append, List.cons_append]
 refine CW_sr ?_
 refine RW_a ?_
 refine RW_a ?_
 refine RW_lv [0] ?_
 refine CW_sr ?_
 refine RW_m ?_
 refine RW_l (Yl_build (cs := rdF bs 0 (.slice none 0 0) (.pointer none) (.slice none 0 0) (.slice none 0 0) .nilIface) pl_89 ze_89 rfl rfl) ?_
 refine RW_fx rfl rfl rfl (Fx_box (zs := rdF bs 0 (.slice none 0 0) (.pointer none) (.slice none 0 0) (.slice none 0 0) .nilIface) rfl rfl) ?_
 rintro _ _ ⟨br, rfl, rfl⟩
 refine RW_a ?_
 refine RW_lv [0,4] ?_
 refine CW_seq ?_
 refine CW_sr ?_
 refine RW_m ?_
 refine RW_l (Yl_assertLacks rfl lk_119_79 ze_119) ?_
 refine RW_m ?_
 refine RW_l (Yl_extract rfl rfl) ?_
 refine RW_l (Yl_extract rfl rfl) ?_
 refine RW_a ?_
 refine RW_a ?_
 refine RW_lv [4,6] ?_
 refine CW_sr ?_
 refine RW_m ?_
 refine RW_lv [4,20] ?_
 refine CW_cond rfl (fun hc1 => ?_) (fun hc1 => ?_)
 ·skip
  exact Bool.noConfusion hc1
 skip
 refine CW_region ?_
 refine RW_m ?_
 refine RW_fx rfl rfl rfl (Fx_makeU8 512 rfl rfl om_) ?_
 rintro _ _ ⟨bb0, rfl, rfl⟩
 refine RW_n ?_
 refine RW_f fo_89_2 ?_
 refine RW_fx0 rfl rfl (Fx_store (v := .slice (some ⟨bb0, 0, none⟩) 512 512) rfl rfl sz_23 rfl rep_ (by simp [rdF])) ?_
 rintro _ _ rfl
 refine RW_lv [4] ?_
 refine CW_seq ?_
 refine CW_sr ?_
 refine RW_m ?_
 refine RW_fx rfl rfl rfl (Fx_call ok_46 (vs := [pv br]) rfl pk_ (setHeader_ct br bb0 bs bB N cN ver sh nd nf dl ml nm ss B rB (bys (List.replicate 512 0)) (.slice none 0 0) (.slice none 0 0) .nilIface h.hd h.hsh h.hss h.ss2 h.m1 h.m2 h.m3 h.hB hcN h.hN h.hN5 (by simp))) ?_
 rintro _ _ ⟨_, ⟨rfl, bh, bhf, rfl⟩, rfl⟩
 simp only [List.cons_append, List.nil_append]
 refine RW_a ?_
 refine RW_lv [4,7] ?_
 refine CW_sr ?_
 refine RW_m ?_
 refine RW_l (Yl_ifNeNil rfl if_105) ?_
 refine RW_lv [4,7,31] ?_
 refine CW_cond rfl (fun hc2 => ?_) (fun hc2 => ?_)
 ·skip
  exact absurd hc2 (by decide)
 skip
 refine (CW_skip (QW_lv [4] ?_))
 refine CW_cut (σ := Nat × List Value) (fun _ => [(4, pv br)]) (fun q => (br, blk (rdF bs ss (.slice (some ⟨q.1, 0, none⟩) ss ss) (pv bh) (.slice none 0 0) (.slice none 0 0) .nilIface) 89) :: (bh, blk [pv bhf, .slice none 0 0, .slice none 0 0, .slice none 0 0] 137) :: (bhf, blk (hcF ((B.drop 0).take 512) 109) 142) :: (q.1, blk q.2 5) :: (bs, blk [.slice (some ⟨bB, 0, none⟩) N cN] 103) :: (bB, blk (bys B ++ rB) 5) :: (2, blk ps T) :: (5, Obj.cells lp.toArray Tp fp) :: (0, Obj.cells [.iface 181 (.pointer (some ⟨bE.b, bE.o, none⟩))].toArray T0 fz0) :: (bE.b, Obj.cells bE.l.toArray TE fzE) :: F) (fun q => q.2.length = ss) ?_ ?_
 ·skip
  refine CW_seq ?_
  have hs5 := h.ss2
  refine CW_draw [] _ mixed (Sub.refl _) ?_
  refine RD_m 0 ?_
  refine RD_n 1 ?_
  refine RD_f 2 fo_89_0 ?_
  refine RD_h (i := 3) #[true, true, true, false, false, false, false, false, false, false, false, false, false, false, false, false, false, false] rfl rfl rfl rfl kr_ (fun _ _ _ h => h) (Yh_ld (v := .bool false) sc_4) ?_
  refine RD_l 4 rfl (Yl_not rfl) ?_
  refine RD_m 5 ?_
  refine RD_bool 38 rfl (fun hg3 => ?_) (fun hg3 => ?_)
  ·skip
   refine RD_m 6 ?_
   refine RD_n 7 ?_
   refine RD_f 8 fo_89_1 ?_
   refine RD_m 11 ?_
   refine RD_n 12 ?_
   refine RD_f 13 fo_89_2 ?_
   refine RD_h (i := 9) #[true, true, true, true, true, true, true, true, true, false, false, true, true, true, true, true, false, false] rfl rfl rfl rfl kr_ (fun _ _ _ h => h) (Yh_ld (v := uv ss) sc_67) ?_
   refine RD_l 10 rfl (Yl_conv (c := (ss : Int)) rfl in_67 in_3 (wi64 om_ om_)) ?_
   refine RD_h (i := 14) #[true, true, true, true, true, true, true, true, true, true, true, true, true, true, false, false, false, false] rfl rfl rfl rfl kr_ (fun _ _ _ h => h) (Yh_ld (v := .slice (some ⟨bb0, 0, none⟩) 512 512) sc_23) ?_
   refine RD_l 15 rfl (Yl_len rfl sl_23) ?_
   refine RD_l 16 rfl (Yl_gtr rfl rfl) ?_
   refine RD_l 17 rfl (Yl_pick_t rfl rfl) ?_
   refine (RD_done kr_ (QW_lv [4,50] ?_))
   refine CW_cd rfl (fun hc4 => ?_) (fun hc4 => ?_)
   ·refine CW_region ?_
    refine RW_m ?_
    refine RW_m ?_
    refine RW_n ?_
    refine RW_f fo_89_1 ?_
    refine RW_h (Yh_ld (v := uv ss) sc_67) ?_
    refine RW_fx rfl rfl rfl (Fx_makeU8' ss rfl rfl rfl om_) ?_
    rintro _ _ ⟨bb, rfl, rfl⟩
    refine RW_n ?_
    refine RW_f fo_89_2 ?_
    refine RW_fx0 rfl rfl (Fx_store (v := .slice (some ⟨bb, 0, none⟩) ss ss) rfl rfl sz_23 rfl rep_ (by simp [rdF])) ?_
    rintro _ _ rfl
    refine RW_nil ?_
    first
     | (refine QW_dropB (e := (bb0, _)) (by repeat (first | exact Rem.here _ _ | apply Rem.there)) ?_; exact QW_cut (bb, List.replicate ss (.int .u8 0)) (by simp) (by repeat (first | exact Prm.nil _ | exact Rem.here _ _ | apply Rem.there | apply Prm.cons)) (.cons rfl .nil))
     | (have e512 : ss = 512 := (by have := h.ss2; omega); exact QW_cut (bb0, bys ((B.drop 0).take 512)) (by rw [e512, List.length_map]; exact len_drop_take B 0 512 (by have := h.hB; have := h.hN5; omega)) (by rw [e512]; exact (by repeat (first | exact Prm.nil _ | exact Rem.here _ _ | apply Rem.there | apply Prm.cons))) (.cons rfl .nil))
   refine CW_skip ?_
   first
    | (refine QW_dropB (e := (bb0, _)) (by repeat (first | exact Rem.here _ _ | apply Rem.there)) ?_; exact QW_cut (bb, List.replicate ss (.int .u8 0)) (by simp) (by repeat (first | exact Prm.nil _ | exact Rem.here _ _ | apply Rem.there | apply Prm.cons)) (.cons rfl .nil))
    | (have e512 : ss = 512 := (by have := h.ss2; omega); exact QW_cut (bb0, bys ((B.drop 0).take 512)) (by rw [e512, List.length_map]; exact len_drop_take B 0 512 (by have := h.hB; have := h.hN5; omega)) (by rw [e512]; exact (by repeat (first | exact Prm.nil _ | exact Rem.here _ _ | apply Rem.there | apply Prm.cons))) (.cons rfl .nil))
  skip
  exact Bool.noConfusion hg3
 rintro ⟨bb, lb0⟩ hlb0
 simp only at hlb0 ⊢
 refine CW_seq ?_
 refine CW_sr ?_
 refine RW_m ?_
 refine RW_fx rfl rfl rfl (Fx_call ok_47 (vs := [pv br]) rfl pk_ (setDifats_ct br bh bhf (rdF bs ss (.slice (some ⟨bb, 0, none⟩) ss ss) (pv bh) (.slice none 0 0) (.slice none 0 0) .nilIface) (hcF ((B.drop 0).take 512) 109) (.slice none 0 0) (.slice none 0 0) (.slice none 0 0) rfl h.hd.ndif)) ?_
 rintro _ _ ⟨_, ⟨rfl, rfl⟩, rfl⟩
 simp only [List.cons_append, List.nil_append]
 refine RW_a ?_
 refine RW_lv [4,8] ?_
 refine CW_sr ?_
 refine RW_m ?_
 refine RW_l (Yl_ifNeNil rfl if_105) ?_
 refine RW_lv [4,8,62] ?_
 refine CW_cond rfl (fun hc5 => ?_) (fun hc5 => ?_)
 ·skip
  exact absurd hc5 (by decide)
 skip
 refine (CW_skip (QW_lv [4] ?_))
 refine CW_seq ?_
 refine CW_seq ?_
 have hdt := setDirTry_ct br bh bhf bb bs bB ss ver nd num_ N cN B rB (hcF ((B.drop 0).take 512) 109) ps lb0 T sns o0 es (.slice none 0 0) .nilIface (.slice none 0 0) (.slice none 0 0) lp Tp fp hp bE T0 TE fz0 fzE h.ch h.K h.hd.ver h.hd.nd (by rw [← h.hdl]; exact h.hd.dl) h.ver4 h.nd4 h.ss2 h.num h.len h.len2 h.ent h.hB hcN h.hN hlb0
 by_cases hdf : DirFit N ss sns o0
 ·skip
  refine CW_region ?_
  refine RW_m ?_
  refine RW_fx rfl rfl rfl (Fx_call ok_48 (vs := [pv br]) rfl pk_ hdt) ?_
  rintro _ _ ⟨_, (⟨-, rfl, g, cap, rn, lb, fs, hfs, hln, hlb, rfl⟩ | ⟨hbad, -⟩), rfl⟩
  rotate_left
  ·exact absurd hdf hbad
  simp only [List.cons_append, List.nil_append, List.append_assoc]
  refine RW_a ?_
  refine RW_lv [4,9] ?_
  refine CW_sr ?_
  refine RW_m ?_
  refine RW_l (Yl_ifNeNil rfl if_105) ?_
  refine RW_lv [4,9,67] ?_
  refine CW_cond rfl (fun hc6 => ?_) (fun hc6 => ?_)
  ·skip
   exact absurd hc6 (by decide)
  skip
  refine (CW_skip (QW_lv [4] ?_))
  refine CW_seq ?_
  refine CW_seq ?_
  have hf0 : ∃ f0, fs[0]? = some f0 ∧ f0.en.dc[60]? = some (uv st0) := by
   rw [← hfs, List.getElem?_map] at he0
   cases hq : fs[0]? with
   | none => rw [hq] at he0; cases he0
   | some f0 => rw [hq] at he0; cases he0; exact ⟨f0, rfl, hst0⟩
  have hmn := setMiniTry_any (g := g) (bB := bB) mi o1 o2 br bh bhf bb bs ss N cN B rB (hcF ((B.drop 0).take 512) 109) lb ps T (.slice (some ⟨bb, 0, none⟩) ss ss) (.slice none 0 0) .nilIface es.length cap rn fs st0 ml nm lp Tp fp hp bE T0 TE fz0 fzE hf0 (by rw [h.len]; exact Nat.mul_pos h.K (by have := h.num; have := h.ss2; omega)) hMi h.hd.ml h.hd.nm h.ss2 h.hB hcN h.hN
  by_cases hmf : MiniFit N mi o1 o2
  ·skip
   refine CW_region ?_
   refine RW_m ?_
   refine RW_fx rfl rfl rfl (Fx_call ok_49 (vs := [pv br]) rfl (by exact (Pick.cons rem_ (Pick.cons rem_ (Pick.cons rem_ (Pick.cons rem_ (Pick.cons rem_ (Pick.cons rem_ (Pick.cons rem_ (Pick.cons rem_ (Pick.cons rem_ (Pick.cons rem_ (Pick.cons rem_ ((pick_app _ F)))))))))))))) hmn) ?_
   rintro _ _ ⟨_, (⟨-, rfl, m1, m2, X, hmi, rfl⟩ | ⟨hbad, -⟩), rfl⟩
   rotate_left
   ·exact absurd hmf hbad
   simp only [List.cons_append, List.nil_append, List.append_assoc]
   refine RW_a ?_
   refine RW_lv [4,10] ?_
   refine CW_sr ?_
   refine RW_m ?_
   refine RW_l (Yl_ifNeNil rfl if_105) ?_
   refine RW_lv [4,10,72] ?_
   refine CW_cond rfl (fun hc7 => ?_) (fun hc7 => ?_)
   ·skip
    exact absurd hc7 (by decide)
   skip
   refine (CW_skip (QW_lv [4] ?_))
   refine CW_seq ?_
   refine CW_seq ?_
   have hle : tn.length = es.length := h.link.len.symm
   have hlf : fs.length = tn.length := by rw [hle, ← hfs, List.length_map]
   have htr := traverse_ct br bs ss g es.length cap (.slice (some ⟨bb, 0, none⟩) ss ss) (pv bh) (.slice none 0 0) .nilIface rn fs tn hlf hle.symm (by rw [hle]; exact h.len2) (by rw [hfs]; exact h.link)
   rw [show (trav tn (tn.length + 1) 0 [] ⟨0, false, [], fun _ => []⟩ : TS) = STv tn from rfl] at htr
   generalize STv tn = S at htr ⊢
   refine CW_region ?_
   refine RW_m ?_
   refine RW_fx rfl rfl rfl (Fx_call ok_50 (vs := [pv br]) rfl (by exact (Pick.cons rem_ (Pick.cons rem_ (pick_mid (filsH br fs) [_, _, _, _, _, _, _, _, _] (X ++ F))))) htr) ?_
   rintro _ _ ⟨_, ⟨fs', pth, bo, capo, ro, er, rfl, hT, hlo, rfl⟩, rfl⟩
   simp only [List.cons_append, List.nil_append]
   refine RW_a ?_
   refine RW_lv [4,11] ?_
   refine CW_sr ?_
   refine RW_m ?_
   refine RW_y rfl rfl rfl (Yl.h (v := .bool S.bad) (by rcases hT.err with ⟨hb, rfl⟩ | ⟨hb, m, x, rfl⟩ <;> rw [hb]; exact Yl_ifNeNil rfl if_105; exact Yl_ifNe rfl if_105)) ?_
   refine RW_lv [4,11,77] ?_
   refine CW_cond rfl (fun hc8 => ?_) (fun hc8 => ?_)
   ·skip
    have hvv : (.tuple #[.pointer none, er] : Value) = .tuple #[if S.bad = true then .pointer none else pv br, er] := by rw [if_pos hc8]
    refine CW_sr ?_
    refine RW_m ?_
    refine RW_a ?_
    refine RW_a ?_
    refine RW_lv [2,3] ?_
    refine CW_ret ?_
    refine QW_ret_then ?_
    first
     | (refine QW_heap (Prm.perm (show Prm _ ((2, blk ps T) :: (5, Obj.cells lp.toArray Tp fp) :: (0, Obj.cells [.iface 181 (.pointer (some ⟨bE.b, bE.o, none⟩))].toArray T0 fz0) :: (bE.b, Obj.cells bE.l.toArray TE fzE) :: _) from Prm.cons (by repeat (first | exact Rem.here _ _ | apply Rem.there)) (Prm.cons (by repeat (first | exact Rem.here _ _ | apply Rem.there)) (Prm.cons (by repeat (first | exact Rem.here _ _ | apply Rem.there)) (Prm.cons (by repeat (first | exact Rem.here _ _ | apply Rem.there)) (Prm.nil _)))))) ?_; refine QW_sub (H' := (2, blk ps T) :: (5, Obj.cells lp.toArray Tp fp) :: (0, Obj.cells [.iface 181 (.pointer (some ⟨bE.b, bE.o, none⟩))].toArray T0 fz0) :: (bE.b, Obj.cells bE.l.toArray TE fzE) :: F) (.cons_cons _ (.cons_cons _ (.cons_cons _ (.cons_cons _ (by repeat (first | exact List.Sublist.refl _ | exact List.sublist_append_right _ _ | apply List.Sublist.cons)))))) ?_; exact QW_ret2 rfl rfl rfl [(2, blk ps T), (5, Obj.cells lp.toArray Tp fp), (0, Obj.cells [.iface 181 (.pointer (some ⟨bE.b, bE.o, none⟩))].toArray T0 fz0), (bE.b, Obj.cells bE.l.toArray TE fzE)] (.inr ⟨fun hf => absurd hf.1 hdf, _, ⟨ty, em, ex, hty, rfl⟩, rfl, rfl⟩) (Prm.nil _))
     | (refine QW_heap (Prm.perm (show Prm _ ((2, blk ps T) :: (5, Obj.cells lp.toArray Tp fp) :: (0, Obj.cells [.iface 181 (.pointer (some ⟨bE.b, bE.o, none⟩))].toArray T0 fz0) :: (bE.b, Obj.cells bE.l.toArray TE fzE) :: _) from Prm.cons (by repeat (first | exact Rem.here _ _ | apply Rem.there)) (Prm.cons (by repeat (first | exact Rem.here _ _ | apply Rem.there)) (Prm.cons (by repeat (first | exact Rem.here _ _ | apply Rem.there)) (Prm.cons (by repeat (first | exact Rem.here _ _ | apply Rem.there)) (Prm.nil _)))))) ?_; refine QW_sub (H' := (2, blk ps T) :: (5, Obj.cells lp.toArray Tp fp) :: (0, Obj.cells [.iface 181 (.pointer (some ⟨bE.b, bE.o, none⟩))].toArray T0 fz0) :: (bE.b, Obj.cells bE.l.toArray TE fzE) :: F) (.cons_cons _ (.cons_cons _ (.cons_cons _ (.cons_cons _ (by repeat (first | exact List.Sublist.refl _ | exact List.sublist_append_right _ _ | apply List.Sublist.cons)))))) ?_; exact QW_ret2 rfl rfl rfl [(2, blk ps T), (5, Obj.cells lp.toArray Tp fp), (0, Obj.cells [.iface 181 (.pointer (some ⟨bE.b, bE.o, none⟩))].toArray T0 fz0), (bE.b, Obj.cells bE.l.toArray TE fzE)] (.inr ⟨fun hf => absurd hf.2 hmf, _, ⟨ty, em, ex, hty, rfl⟩, rfl, rfl⟩) (Prm.nil _))
     | (have hT2 : TOk (fs.map Fil.bf) es S fs' pth er := (by rw [hfs] at hT; exact hT); have hmm : (fs.map Fil.bf).map pv = ptrs fs := (by rw [List.map_map]; rfl); have hln2 : ((fs.map Fil.bf).map pv ++ rn).length = cap := (by rw [hmm]; exact hln); have hok : Rdr.Ok ({ br := br, bh := bh, bhf := bhf, bb := bb, bs := bs, bB := bB, ss := ss, g := g, cap := cap, N := N, cN := cN, bo := bo, capo := capo, B := B, rB := rB, hc := (hcF ((B.drop 0).take 512) 109), lb := lb, rn := rn, ps := ps, ro := ro, T := T, m1 := m1, m2 := m2, wa := .nilIface, X := X, fs := fs', pth := pth, bfs := fs.map Fil.bf, out := S.out }) es S mi er := ⟨hT2, rfl, hlo, hln2, hlb, hmi, by dsimp only, rfl⟩; have hfl : fs'.length = es.length := (by have := congrArg List.length hT.rest; simp only [List.length_map] at this; rw [this, ← hfs, List.length_map]); refine QW_heap (hpm2 _ _ _ _ _ _ _ _ _ _ _ _ _ _ _) ?_; exact QW_ret2 rfl rfl rfl ((5, Obj.cells lp.toArray Tp fp) :: (0, Obj.cells [.iface 181 (.pointer (some ⟨bE.b, bE.o, none⟩))].toArray T0 fz0) :: (bE.b, Obj.cells bE.l.toArray TE fzE) :: Rdr.H ({ br := br, bh := bh, bhf := bhf, bb := bb, bs := bs, bB := bB, ss := ss, g := g, cap := cap, N := N, cN := cN, bo := bo, capo := capo, B := B, rB := rB, hc := (hcF ((B.drop 0).take 512) 109), lb := lb, rn := rn, ps := ps, ro := ro, T := T, m1 := m1, m2 := m2, wa := .nilIface, X := X, fs := fs', pth := pth, bfs := fs.map Fil.bf, out := S.out })) (.inl ⟨⟨hdf, hmf⟩, _, er, hok, rfl, rfl, rfl, rfl, rfl, rfl, rfl, rfl, rfl, hvv, rfl⟩) (by simp only [Rdr.H, Rdr.cells, Rdr.hcells, hfl, hmm, List.cons_append, List.append_assoc]; exact Prm.nil _))
   skip
   have hbad := hc8
   have her : er = .nilIface := by rcases hT.err with ⟨_, hh⟩ | ⟨hh, _⟩; exact hh; rw [hh] at hbad; cases hbad
   have hvv : (.tuple #[pv br, .nilIface] : Value) = .tuple #[if S.bad = true then .pointer none else pv br, er] := by rw [if_neg (by rw [hbad]; simp), her]
   refine (CW_skip (QW_lv [4] ?_))
   refine CW_sr ?_
   refine RW_m ?_
   refine RW_a ?_
   refine RW_a ?_
   refine RW_lv [2,3] ?_
   refine CW_ret ?_
   first
    | (refine QW_heap (Prm.perm (show Prm _ ((2, blk ps T) :: (5, Obj.cells lp.toArray Tp fp) :: (0, Obj.cells [.iface 181 (.pointer (some ⟨bE.b, bE.o, none⟩))].toArray T0 fz0) :: (bE.b, Obj.cells bE.l.toArray TE fzE) :: _) from Prm.cons (by repeat (first | exact Rem.here _ _ | apply Rem.there)) (Prm.cons (by repeat (first | exact Rem.here _ _ | apply Rem.there)) (Prm.cons (by repeat (first | exact Rem.here _ _ | apply Rem.there)) (Prm.cons (by repeat (first | exact Rem.here _ _ | apply Rem.there)) (Prm.nil _)))))) ?_; refine QW_sub (H' := (2, blk ps T) :: (5, Obj.cells lp.toArray Tp fp) :: (0, Obj.cells [.iface 181 (.pointer (some ⟨bE.b, bE.o, none⟩))].toArray T0 fz0) :: (bE.b, Obj.cells bE.l.toArray TE fzE) :: F) (.cons_cons _ (.cons_cons _ (.cons_cons _ (.cons_cons _ (by repeat (first | exact List.Sublist.refl _ | exact List.sublist_append_right _ _ | apply List.Sublist.cons)))))) ?_; exact QW_ret2 rfl rfl rfl [(2, blk ps T), (5, Obj.cells lp.toArray Tp fp), (0, Obj.cells [.iface 181 (.pointer (some ⟨bE.b, bE.o, none⟩))].toArray T0 fz0), (bE.b, Obj.cells bE.l.toArray TE fzE)] (.inr ⟨fun hf => absurd hf.1 hdf, _, ⟨ty, em, ex, hty, rfl⟩, rfl, rfl⟩) (Prm.nil _))
    | (refine QW_heap (Prm.perm (show Prm _ ((2, blk ps T) :: (5, Obj.cells lp.toArray Tp fp) :: (0, Obj.cells [.iface 181 (.pointer (some ⟨bE.b, bE.o, none⟩))].toArray T0 fz0) :: (bE.b, Obj.cells bE.l.toArray TE fzE) :: _) from Prm.cons (by repeat (first | exact Rem.here _ _ | apply Rem.there)) (Prm.cons (by repeat (first | exact Rem.here _ _ | apply Rem.there)) (Prm.cons (by repeat (first | exact Rem.here _ _ | apply Rem.there)) (Prm.cons (by repeat (first | exact Rem.here _ _ | apply Rem.there)) (Prm.nil _)))))) ?_; refine QW_sub (H' := (2, blk ps T) :: (5, Obj.cells lp.toArray Tp fp) :: (0, Obj.cells [.iface 181 (.pointer (some ⟨bE.b, bE.o, none⟩))].toArray T0 fz0) :: (bE.b, Obj.cells bE.l.toArray TE fzE) :: F) (.cons_cons _ (.cons_cons _ (.cons_cons _ (.cons_cons _ (by repeat (first | exact List.Sublist.refl _ | exact List.sublist_append_right _ _ | apply List.Sublist.cons)))))) ?_; exact QW_ret2 rfl rfl rfl [(2, blk ps T), (5, Obj.cells lp.toArray Tp fp), (0, Obj.cells [.iface 181 (.pointer (some ⟨bE.b, bE.o, none⟩))].toArray T0 fz0), (bE.b, Obj.cells bE.l.toArray TE fzE)] (.inr ⟨fun hf => absurd hf.2 hmf, _, ⟨ty, em, ex, hty, rfl⟩, rfl, rfl⟩) (Prm.nil _))
    | (have hT2 : TOk (fs.map Fil.bf) es S fs' pth er := (by rw [hfs] at hT; exact hT); have hmm : (fs.map Fil.bf).map pv = ptrs fs := (by rw [List.map_map]; rfl); have hln2 : ((fs.map Fil.bf).map pv ++ rn).length = cap := (by rw [hmm]; exact hln); have hok : Rdr.Ok ({ br := br, bh := bh, bhf := bhf, bb := bb, bs := bs, bB := bB, ss := ss, g := g, cap := cap, N := N, cN := cN, bo := bo, capo := capo, B := B, rB := rB, hc := (hcF ((B.drop 0).take 512) 109), lb := lb, rn := rn, ps := ps, ro := ro, T := T, m1 := m1, m2 := m2, wa := .nilIface, X := X, fs := fs', pth := pth, bfs := fs.map Fil.bf, out := S.out }) es S mi er := ⟨hT2, rfl, hlo, hln2, hlb, hmi, by dsimp only, rfl⟩; have hfl : fs'.length = es.length := (by have := congrArg List.length hT.rest; simp only [List.length_map] at this; rw [this, ← hfs, List.length_map]); refine QW_heap (hpm2 _ _ _ _ _ _ _ _ _ _ _ _ _ _ _) ?_; exact QW_ret2 rfl rfl rfl ((5, Obj.cells lp.toArray Tp fp) :: (0, Obj.cells [.iface 181 (.pointer (some ⟨bE.b, bE.o, none⟩))].toArray T0 fz0) :: (bE.b, Obj.cells bE.l.toArray TE fzE) :: Rdr.H ({ br := br, bh := bh, bhf := bhf, bb := bb, bs := bs, bB := bB, ss := ss, g := g, cap := cap, N := N, cN := cN, bo := bo, capo := capo, B := B, rB := rB, hc := (hcF ((B.drop 0).take 512) 109), lb := lb, rn := rn, ps := ps, ro := ro, T := T, m1 := m1, m2 := m2, wa := .nilIface, X := X, fs := fs', pth := pth, bfs := fs.map Fil.bf, out := S.out })) (.inl ⟨⟨hdf, hmf⟩, _, er, hok, rfl, rfl, rfl, rfl, rfl, rfl, rfl, rfl, rfl, hvv, rfl⟩) (by simp only [Rdr.H, Rdr.cells, Rdr.hcells, hfl, hmm, List.cons_append, List.append_assoc]; exact Prm.nil _))
  skip
  refine CW_region ?_
  refine RW_m ?_
  refine RW_fx rfl rfl rfl (Fx_call ok_49 (vs := [pv br]) rfl (by exact (Pick.cons rem_ (Pick.cons rem_ (Pick.cons rem_ (Pick.cons rem_ (Pick.cons rem_ (Pick.cons rem_ (Pick.cons rem_ (Pick.cons rem_ (Pick.cons rem_ (Pick.cons rem_ (Pick.cons rem_ ((pick_app _ F)))))))))))))) hmn) ?_
  rintro _ _ ⟨_, (⟨hgood, -⟩ | ⟨-, ⟨ty, em, ex, hty, rfl⟩, Z, rfl⟩), rfl⟩
  ·exact absurd hgood hmf
  simp only [List.cons_append, List.nil_append, List.append_assoc]
  refine RW_a ?_
  refine RW_lv [4,10] ?_
  refine CW_sr ?_
  refine RW_m ?_
  refine RW_l (Yl_ifNe rfl if_105) ?_
  refine RW_lv [4,10,72] ?_
  refine CW_cond rfl (fun hc9 => ?_) (fun hc9 => ?_)
  ·skip
   refine CW_sr ?_
   refine RW_m ?_
   refine RW_a ?_
   refine RW_a ?_
   refine RW_lv [2,3] ?_
   refine CW_ret ?_
   refine QW_ret_then ?_
   first
    | (refine QW_heap (Prm.perm (show Prm _ ((2, blk ps T) :: (5, Obj.cells lp.toArray Tp fp) :: (0, Obj.cells [.iface 181 (.pointer (some ⟨bE.b, bE.o, none⟩))].toArray T0 fz0) :: (bE.b, Obj.cells bE.l.toArray TE fzE) :: _) from Prm.cons (by repeat (first | exact Rem.here _ _ | apply Rem.there)) (Prm.cons (by repeat (first | exact Rem.here _ _ | apply Rem.there)) (Prm.cons (by repeat (first | exact Rem.here _ _ | apply Rem.there)) (Prm.cons (by repeat (first | exact Rem.here _ _ | apply Rem.there)) (Prm.nil _)))))) ?_; refine QW_sub (H' := (2, blk ps T) :: (5, Obj.cells lp.toArray Tp fp) :: (0, Obj.cells [.iface 181 (.pointer (some ⟨bE.b, bE.o, none⟩))].toArray T0 fz0) :: (bE.b, Obj.cells bE.l.toArray TE fzE) :: F) (.cons_cons _ (.cons_cons _ (.cons_cons _ (.cons_cons _ (by repeat (first | exact List.Sublist.refl _ | exact List.sublist_append_right _ _ | apply List.Sublist.cons)))))) ?_; exact QW_ret2 rfl rfl rfl [(2, blk ps T), (5, Obj.cells lp.toArray Tp fp), (0, Obj.cells [.iface 181 (.pointer (some ⟨bE.b, bE.o, none⟩))].toArray T0 fz0), (bE.b, Obj.cells bE.l.toArray TE fzE)] (.inr ⟨fun hf => absurd hf.1 hdf, _, ⟨ty, em, ex, hty, rfl⟩, rfl, rfl⟩) (Prm.nil _))
    | (refine QW_heap (Prm.perm (show Prm _ ((2, blk ps T) :: (5, Obj.cells lp.toArray Tp fp) :: (0, Obj.cells [.iface 181 (.pointer (some ⟨bE.b, bE.o, none⟩))].toArray T0 fz0) :: (bE.b, Obj.cells bE.l.toArray TE fzE) :: _) from Prm.cons (by repeat (first | exact Rem.here _ _ | apply Rem.there)) (Prm.cons (by repeat (first | exact Rem.here _ _ | apply Rem.there)) (Prm.cons (by repeat (first | exact Rem.here _ _ | apply Rem.there)) (Prm.cons (by repeat (first | exact Rem.here _ _ | apply Rem.there)) (Prm.nil _)))))) ?_; refine QW_sub (H' := (2, blk ps T) :: (5, Obj.cells lp.toArray Tp fp) :: (0, Obj.cells [.iface 181 (.pointer (some ⟨bE.b, bE.o, none⟩))].toArray T0 fz0) :: (bE.b, Obj.cells bE.l.toArray TE fzE) :: F) (.cons_cons _ (.cons_cons _ (.cons_cons _ (.cons_cons _ (by repeat (first | exact List.Sublist.refl _ | exact List.sublist_append_right _ _ | apply List.Sublist.cons)))))) ?_; exact QW_ret2 rfl rfl rfl [(2, blk ps T), (5, Obj.cells lp.toArray Tp fp), (0, Obj.cells [.iface 181 (.pointer (some ⟨bE.b, bE.o, none⟩))].toArray T0 fz0), (bE.b, Obj.cells bE.l.toArray TE fzE)] (.inr ⟨fun hf => absurd hf.2 hmf, _, ⟨ty, em, ex, hty, rfl⟩, rfl, rfl⟩) (Prm.nil _))
    | (have hT2 : TOk (fs.map Fil.bf) es S fs' pth er := (by rw [hfs] at hT; exact hT); have hmm : (fs.map Fil.bf).map pv = ptrs fs := (by rw [List.map_map]; rfl); have hln2 : ((fs.map Fil.bf).map pv ++ rn).length = cap := (by rw [hmm]; exact hln); have hok : Rdr.Ok ({ br := br, bh := bh, bhf := bhf, bb := bb, bs := bs, bB := bB, ss := ss, g := g, cap := cap, N := N, cN := cN, bo := bo, capo := capo, B := B, rB := rB, hc := (hcF ((B.drop 0).take 512) 109), lb := lb, rn := rn, ps := ps, ro := ro, T := T, m1 := m1, m2 := m2, wa := .nilIface, X := X, fs := fs', pth := pth, bfs := fs.map Fil.bf, out := S.out }) es S mi er := ⟨hT2, rfl, hlo, hln2, hlb, hmi, by dsimp only, rfl⟩; have hfl : fs'.length = es.length := (by have := congrArg List.length hT.rest; simp only [List.length_map] at this; rw [this, ← hfs, List.length_map]); refine QW_heap (hpm2 _ _ _ _ _ _ _ _ _ _ _ _ _ _ _) ?_; exact QW_ret2 rfl rfl rfl ((5, Obj.cells lp.toArray Tp fp) :: (0, Obj.cells [.iface 181 (.pointer (some ⟨bE.b, bE.o, none⟩))].toArray T0 fz0) :: (bE.b, Obj.cells bE.l.toArray TE fzE) :: Rdr.H ({ br := br, bh := bh, bhf := bhf, bb := bb, bs := bs, bB := bB, ss := ss, g := g, cap := cap, N := N, cN := cN, bo := bo, capo := capo, B := B, rB := rB, hc := (hcF ((B.drop 0).take 512) 109), lb := lb, rn := rn, ps := ps, ro := ro, T := T, m1 := m1, m2 := m2, wa := .nilIface, X := X, fs := fs', pth := pth, bfs := fs.map Fil.bf, out := S.out })) (.inl ⟨⟨hdf, hmf⟩, _, er, hok, rfl, rfl, rfl, rfl, rfl, rfl, rfl, rfl, rfl, hvv, rfl⟩) (by simp only [Rdr.H, Rdr.cells, Rdr.hcells, hfl, hmm, List.cons_append, List.append_assoc]; exact Prm.nil _))
  skip
  exact absurd hc9 (by decide)
 skip
 refine CW_region ?_
 refine RW_m ?_
 refine RW_fx rfl rfl rfl (Fx_call ok_48 (vs := [pv br]) rfl pk_ hdt) ?_
 rintro _ _ ⟨_, (⟨hgood, -⟩ | ⟨-, ⟨ty, em, ex, hty, rfl⟩, rfl⟩), rfl⟩
 ·exact absurd hgood hdf
 simp only [List.cons_append, List.nil_append, List.append_assoc]
 refine RW_a ?_
 refine RW_lv [4,9] ?_
 refine CW_sr ?_
 refine RW_m ?_
 refine RW_l (Yl_ifNe rfl if_105) ?_
 refine RW_lv [4,9,67] ?_
 refine CW_cond rfl (fun hc10 => ?_) (fun hc10 => ?_)
 ·skip
  refine CW_sr ?_
  refine RW_m ?_
  refine RW_a ?_
  refine RW_a ?_
  refine RW_lv [2,3] ?_
  refine CW_ret ?_
  refine QW_ret_then ?_
  first
   | (refine QW_heap (Prm.perm (show Prm _ ((2, blk ps T) :: (5, Obj.cells lp.toArray Tp fp) :: (0, Obj.cells [.iface 181 (.pointer (some ⟨bE.b, bE.o, none⟩))].toArray T0 fz0) :: (bE.b, Obj.cells bE.l.toArray TE fzE) :: _) from Prm.cons (by repeat (first | exact Rem.here _ _ | apply Rem.there)) (Prm.cons (by repeat (first | exact Rem.here _ _ | apply Rem.there)) (Prm.cons (by repeat (first | exact Rem.here _ _ | apply Rem.there)) (Prm.cons (by repeat (first | exact Rem.here _ _ | apply Rem.there)) (Prm.nil _)))))) ?_; refine QW_sub (H' := (2, blk ps T) :: (5, Obj.cells lp.toArray Tp fp) :: (0, Obj.cells [.iface 181 (.pointer (some ⟨bE.b, bE.o, none⟩))].toArray T0 fz0) :: (bE.b, Obj.cells bE.l.toArray TE fzE) :: F) (.cons_cons _ (.cons_cons _ (.cons_cons _ (.cons_cons _ (by repeat (first | exact List.Sublist.refl _ | exact List.sublist_append_right _ _ | apply List.Sublist.cons)))))) ?_; exact QW_ret2 rfl rfl rfl [(2, blk ps T), (5, Obj.cells lp.toArray Tp fp), (0, Obj.cells [.iface 181 (.pointer (some ⟨bE.b, bE.o, none⟩))].toArray T0 fz0), (bE.b, Obj.cells bE.l.toArray TE fzE)] (.inr ⟨fun hf => absurd hf.1 hdf, _, ⟨ty, em, ex, hty, rfl⟩, rfl, rfl⟩) (Prm.nil _))
   | (refine QW_heap (Prm.perm (show Prm _ ((2, blk ps T) :: (5, Obj.cells lp.toArray Tp fp) :: (0, Obj.cells [.iface 181 (.pointer (some ⟨bE.b, bE.o, none⟩))].toArray T0 fz0) :: (bE.b, Obj.cells bE.l.toArray TE fzE) :: _) from Prm.cons (by repeat (first | exact Rem.here _ _ | apply Rem.there)) (Prm.cons (by repeat (first | exact Rem.here _ _ | apply Rem.there)) (Prm.cons (by repeat (first | exact Rem.here _ _ | apply Rem.there)) (Prm.cons (by repeat (first | exact Rem.here _ _ | apply Rem.there)) (Prm.nil _)))))) ?_; refine QW_sub (H' := (2, blk ps T) :: (5, Obj.cells lp.toArray Tp fp) :: (0, Obj.cells [.iface 181 (.pointer (some ⟨bE.b, bE.o, none⟩))].toArray T0 fz0) :: (bE.b, Obj.cells bE.l.toArray TE fzE) :: F) (.cons_cons _ (.cons_cons _ (.cons_cons _ (.cons_cons _ (by repeat (first | exact List.Sublist.refl _ | exact List.sublist_append_right _ _ | apply List.Sublist.cons)))))) ?_; exact QW_ret2 rfl rfl rfl [(2, blk ps T), (5, Obj.cells lp.toArray Tp fp), (0, Obj.cells [.iface 181 (.pointer (some ⟨bE.b, bE.o, none⟩))].toArray T0 fz0), (bE.b, Obj.cells bE.l.toArray TE fzE)] (.inr ⟨fun hf => absurd hf.2 hmf, _, ⟨ty, em, ex, hty, rfl⟩, rfl, rfl⟩) (Prm.nil _))
   | (have hT2 : TOk (fs.map Fil.bf) es S fs' pth er := (by rw [hfs] at hT; exact hT); have hmm : (fs.map Fil.bf).map pv = ptrs fs := (by rw [List.map_map]; rfl); have hln2 : ((fs.map Fil.bf).map pv ++ rn).length = cap := (by rw [hmm]; exact hln); have hok : Rdr.Ok ({ br := br, bh := bh, bhf := bhf, bb := bb, bs := bs, bB := bB, ss := ss, g := g, cap := cap, N := N, cN := cN, bo := bo, capo := capo, B := B, rB := rB, hc := (hcF ((B.drop 0).take 512) 109), lb := lb, rn := rn, ps := ps, ro := ro, T := T, m1 := m1, m2 := m2, wa := .nilIface, X := X, fs := fs', pth := pth, bfs := fs.map Fil.bf, out := S.out }) es S mi er := ⟨hT2, rfl, hlo, hln2, hlb, hmi, by dsimp only, rfl⟩; have hfl : fs'.length = es.length := (by have := congrArg List.length hT.rest; simp only [List.length_map] at this; rw [this, ← hfs, List.length_map]); refine QW_heap (hpm2 _ _ _ _ _ _ _ _ _ _ _ _ _ _ _) ?_; exact QW_ret2 rfl rfl rfl ((5, Obj.cells lp.toArray Tp fp) :: (0, Obj.cells [.iface 181 (.pointer (some ⟨bE.b, bE.o, none⟩))].toArray T0 fz0) :: (bE.b, Obj.cells bE.l.toArray TE fzE) :: Rdr.H ({ br := br, bh := bh, bhf := bhf, bb := bb, bs := bs, bB := bB, ss := ss, g := g, cap := cap, N := N, cN := cN, bo := bo, capo := capo, B := B, rB := rB, hc := (hcF ((B.drop 0).take 512) 109), lb := lb, rn := rn, ps := ps, ro := ro, T := T, m1 := m1, m2 := m2, wa := .nilIface, X := X, fs := fs', pth := pth, bfs := fs.map Fil.bf, out := S.out })) (.inl ⟨⟨hdf, hmf⟩, _, er, hok, rfl, rfl, rfl, rfl, rfl, rfl, rfl, rfl, rfl, hvv, rfl⟩) (by simp only [Rdr.H, Rdr.cells, Rdr.hcells, hfl, hmm, List.cons_append, List.append_assoc]; exact Prm.nil _))
 skip
 exact absurd hc10 (by decide)

theorem p_gi (x y z gi : Nat × Obj) (A F : Heap) : (x :: y :: z :: (A ++ (gi :: F))).Perm (gi :: x :: y :: z :: (A ++ F)) :=
 perm_c fun i w => by simp only [List.count_append, List.count_cons]; omega
theorem openedTry_ct (gI cI : Nat) (rI : List Value) (N ss ver sh nd nf dl ml nm num_ : Nat) (B : List UInt8) (ps : List Value) (T : TypeId) (sns : List Nat) (es : List En) (tn : List Tn) (mi : Option (List Nat × List Nat)) (o0 o1 o2 : Nat → Nat) (lp : List Value) (Tp : TypeId) (fp : Nat × Nat) (hp : ∀ i, i < 20 → ∃ z : Int, lp[i]? = some (.int .u64 z)) (bE : EofB) (T0 TE : TypeId) (fz0 fzE : Nat × Nat) (h : FileTry ps B N ss ver sh nd nf dl ml nm num_ sns es tn mi o0 o1 o2) (hN1 : N ≤ 131072) :
  Ct Tryd.prog 31 [.slice (some ⟨gI, 0, none⟩) N cI] [(gI, blk (bys B ++ rI) 5), (2, blk ps T), (5, Obj.cells lp.toArray Tp fp), (0, Obj.cells [.iface 181 (.pointer (some ⟨bE.b, bE.o, none⟩))].toArray T0 fz0), (bE.b, Obj.cells bE.l.toArray TE fzE)] (fun v q => (OpenFit N ss sns mi o0 o1 o2 ∧ ∃ (R : Rdr) (er : Value), R.Ok es (STv tn) mi er ∧ R.B = B ∧ R.N = N ∧ R.ss = ss ∧ R.ps = ps ∧ R.T = T ∧ N ≤ R.cN ∧ (bys R.B ++ R.rB).length = R.cN ∧ v = .tuple #[if (STv tn).bad = true then .pointer none else pv R.br, pv R.bs, nv (if (STv tn).bad = true then 5 else 0)] ∧ q = (gI, blk (bys B ++ rI) 5) :: (5, Obj.cells lp.toArray Tp fp) :: (0, Obj.cells [.iface 181 (.pointer (some ⟨bE.b, bE.o, none⟩))].toArray T0 fz0) :: (bE.b, Obj.cells bE.l.toArray TE fzE) :: R.H) ∨ (¬ OpenFit N ss sns mi o0 o1 o2 ∧ ∃ (x y : Value) (c : Nat), 1 ≤ c ∧ c ≤ 11 ∧ v = .tuple #[x, y, nv c] ∧ q = [(gI, blk (bys B ++ rI) 5), (2, blk ps T), (5, Obj.cells lp.toArray Tp fp), (0, Obj.cells [.iface 181 (.pointer (some ⟨bE.b, bE.o, none⟩))].toArray T0 fz0), (bE.b, Obj.cells bE.l.toArray TE fzE)])) := by
 have hN5 := h.hN5
 have hBl := h.hB
 refine Ct_of Tryd.func31 rfl Tryd.ntmps31 rfl ?_
 intro E F
 simp only [numL, List.nil_append, List.cons_append]
 refine CW_sr ?_
 refine RW_a ?_
 refine RW_a ?_
 refine RW_a ?_
 refine RW_lv [0] ?_
 refine CW_seq ?_
 refine CW_sr ?_
 refine RW_m ?_
 refine RW_l (Yl_len rfl sl_23) ?_
 refine RW_l (Yl_gtr rfl rfl) ?_
 refine RW_lv [0,10] ?_
 refine CW_cd rfl (fun hc1 => ?_) (fun hc1 => ?_)
 ·exfalso; omega
 refine (CW_skip (QW_lv [0] ?_))
 refine CW_sr ?_
 refine RW_m ?_
 refine RW_fx rfl rfl rfl (Fx_append_nil (z0 := .int .u8 0) (q := 1) rfl rfl sl_23 by_5 ze_5 rfl rfl mem_ (by simp; omega) om_ om_ om_) ?_
 rintro _ _ ⟨bB, lB, cN, rfl, hcN, hlB, htk, rfl⟩
 obtain ⟨rB, hlB2⟩ : ∃ rB, lB = bys B ++ rB := by
  refine ⟨lB.drop N, ?_⟩
  have e1 : lB.take N = bys B := by
   have e2 : N = (bys B).length := by rw [List.length_map]; exact h.hB.symm
   rw [Nat.mul_one] at htk
   rw [htk, List.drop_zero, e2, List.take_left]
  rw [← e1, List.take_append_drop]
 rw [hlB2]
 refine RW_l (Yl_build (cs := [.slice (some ⟨bB, 0, none⟩) N cN]) pl_103 ze_103 rfl rfl) ?_
 refine RW_fx rfl rfl rfl (Fx_box (zs := [.slice (some ⟨bB, 0, none⟩) N cN]) rfl rfl) ?_
 rintro _ _ ⟨bs, rfl, rfl⟩
 refine RW_a ?_
 refine RW_lv [5] ?_
 refine CW_seq ?_
 have hnew := NewTry_ct bs bB N cN ss ver sh nd nf dl ml nm num_ B rB ps T sns es tn mi o0 o1 o2 lp Tp fp hp bE T0 TE fz0 fzE h hcN
 by_cases hof : OpenFit N ss sns mi o0 o1 o2
 ·skip
  refine CW_region ?_
  refine RW_m ?_
  refine RW_l (Yl_iface rfl co_79) ?_
  refine RW_fx rfl rfl rfl (Fx_call ok_39 (vs := [.iface 79 (pv bs)]) rfl pk_ hnew) ?_
  rintro _ _ ⟨_, (⟨-, R, er, hok, hRB, hRN, hRc, hRs, hRbs, hRbB, hRr, hRp, hRT, rfl, rfl⟩ | ⟨hbad, -⟩), rfl⟩
  rotate_left
  ·exact absurd hof hbad
  simp only [List.cons_append, List.nil_append]
  refine RW_m ?_
  refine RW_l (Yl_extract rfl rfl) ?_
  refine RW_l (Yl_extract rfl rfl) ?_
  refine RW_a ?_
  refine RW_a ?_
  refine RW_lv [5,6,7] ?_
  refine CW_seq ?_
  generalize STv tn = S at hok ⊢
  have hcode : Ct Tryd.prog 40 [er] [] (fun v q => v = nv (if S.bad = true then 5 else 0) ∧ q = []) := code_any er _ (hc5 hok.tok.err)
  refine CW_region ?_
  refine RW_m ?_
  refine RW_m ?_
  refine RW_m ?_
  refine RW_fx rfl rfl rfl (Fx_callQ ok_40 (vs := [er]) (R := fun v => v = nv (if S.bad = true then 5 else 0)) rfl (Pick.nil _) hcode) ?_
  rintro _ _ ⟨rfl, rfl⟩
  refine RW_a ?_
  refine RW_a ?_
  refine RW_a ?_
  refine RW_lv [2,3,4] ?_
  refine CW_ret ?_
  first
   | (refine QW_heap (p_gi _ _ _ _ _ _) ?_; exact QW_ret3 rfl rfl rfl rfl ((gI, blk (bys B ++ rI) 5) :: (5, Obj.cells lp.toArray Tp fp) :: (0, Obj.cells [.iface 181 (.pointer (some ⟨bE.b, bE.o, none⟩))].toArray T0 fz0) :: (bE.b, Obj.cells bE.l.toArray TE fzE) :: R.H) (.inl ⟨hof, R, er, hok, hRB, hRN, hRs, hRp, hRT, by rw [hRc]; exact hcN, by rw [hRB, hRr, ← hlB2, hRc, hlB, Nat.mul_one], by rw [hRbs], rfl⟩) (Prm.nil _))
   | exact QW_ret3 rfl rfl rfl rfl [(gI, blk (bys B ++ rI) 5), (2, blk ps T), (5, Obj.cells lp.toArray Tp fp), (0, Obj.cells [.iface 181 (.pointer (some ⟨bE.b, bE.o, none⟩))].toArray T0 fz0), (bE.b, Obj.cells bE.l.toArray TE fzE)] (.inr ⟨hof, _, _, c, hc1, hc2, rfl, rfl⟩) (by repeat (first | exact Prm.nil _ | exact Rem.here _ _ | apply Rem.there | apply Prm.cons))
 skip
 refine CW_region ?_
 refine RW_m ?_
 refine RW_l (Yl_iface rfl co_79) ?_
 refine RW_fx rfl rfl rfl (Fx_call ok_39 (vs := [.iface 79 (pv bs)]) rfl pk_ hnew) ?_
 rintro _ _ ⟨_, (⟨hgood, -⟩ | ⟨-, e, hex, rfl, rfl⟩), rfl⟩
 ·exact absurd hgood hof
 simp only [List.cons_append, List.nil_append]
 refine RW_m ?_
 refine RW_l (Yl_extract rfl rfl) ?_
 refine RW_l (Yl_extract rfl rfl) ?_
 refine RW_a ?_
 refine RW_a ?_
 refine RW_lv [5,6,7] ?_
 refine CW_sr ?_
 refine RW_m ?_
 refine RW_m ?_
 refine RW_m ?_
 refine RW_fx rfl rfl rfl (Fx_callQ ok_40 (vs := [e]) (R := fun v => ∃ c, 1 ≤ c ∧ c ≤ 11 ∧ v = nv c) rfl (Pick.nil _) hex.code) ?_
 rintro _ _ ⟨⟨c, hc1, hc2, rfl⟩, rfl⟩
 refine RW_a ?_
 refine RW_a ?_
 refine RW_a ?_
 refine RW_lv [2,3,4] ?_
 refine CW_ret ?_
 first
  | (refine QW_heap (p_gi _ _ _ _ _ _) ?_; exact QW_ret3 rfl rfl rfl rfl ((gI, blk (bys B ++ rI) 5) :: (5, Obj.cells lp.toArray Tp fp) :: (0, Obj.cells [.iface 181 (.pointer (some ⟨bE.b, bE.o, none⟩))].toArray T0 fz0) :: (bE.b, Obj.cells bE.l.toArray TE fzE) :: R.H) (.inl ⟨hof, R, er, hok, hRB, hRN, hRs, hRp, hRT, by rw [hRc]; exact hcN, by rw [hRB, hRr, ← hlB2, hRc, hlB, Nat.mul_one], by rw [hRbs], rfl⟩) (Prm.nil _))
  | exact QW_ret3 rfl rfl rfl rfl [(gI, blk (bys B ++ rI) 5), (2, blk ps T), (5, Obj.cells lp.toArray Tp fp), (0, Obj.cells [.iface 181 (.pointer (some ⟨bE.b, bE.o, none⟩))].toArray T0 fz0), (bE.b, Obj.cells bE.l.toArray TE fzE)] (.inr ⟨hof, _, _, c, hc1, hc2, rfl, rfl⟩) (by repeat (first | exact Prm.nil _ | exact Rem.here _ _ | apply Rem.there | apply Prm.cons))

theorem p_x (gi : Nat × Obj) (X A F : Heap) : (gi :: ((X ++ A) ++ F)).Perm (gi :: (A ++ (X ++ F))) := perm_c fun i w => by simp only [List.count_append, List.count_cons]; omega
theorem EntriesX_ct (gI cI : Nat) (rI : List Value) (N ss : Nat) (B : List UInt8) (ps : List Value) (T : TypeId) (es : List En) (tn : List Tn) (mi : Option (List Nat × List Nat)) (X : Heap) (hop : Ct Tryd.prog 31 [.slice (some ⟨gI, 0, none⟩) N cI] ((gI, blk (bys B ++ rI) 5) :: (2, blk ps T) :: X) (fun v q => ∃ (R : Rdr) (er : Value), R.Ok es (STv tn) mi er ∧ R.B = B ∧ R.N = N ∧ R.ss = ss ∧ R.ps = ps ∧ R.T = T ∧ N ≤ R.cN ∧ (bys R.B ++ R.rB).length = R.cN ∧ v = .tuple #[if (STv tn).bad = true then .pointer none else pv R.br, pv R.bs, nv (if (STv tn).bad = true then 5 else 0)] ∧ q = (gI, blk (bys B ++ rI) 5) :: (X ++ R.H))) (hlinkl : es.length = tn.length) (hb : (STv tn).bad = false) (hde : ∀ e ∈ es, DcOk e) (hpl0 : ∀ k, ((STv tn).pth k).length ≤ 1000000) (hol0 : (STv tn).out.length ≤ 1000000) :
  Ct Tryd.prog 18 [.slice (some ⟨gI, 0, none⟩) N cI] ((gI, blk (bys B ++ rI) 5) :: (2, blk ps T) :: X) (fun v q => ∃ (g : Option Nat) (cap : Nat) (r xs : List Value), oOk g xs r (STv tn).out.length cap 27 ∧ v = .tuple #[osl g (STv tn).out.length cap, nv 0] ∧ q = (gI, blk (bys B ++ rI) 5) :: (2, blk ps T) :: X) := by
 refine Ct_of Tryd.func18 rfl Tryd.ntmps18 rfl ?_
 intro E F
 simp only [numL, List.nil_append, List.cons_append]
 refine CW_sr ?_
 refine RW_a ?_
 refine RW_a ?_
 refine RW_lv [0] ?_
 refine CW_sr ?_
 refine RW_m ?_
 refine RW_fx rfl rfl rfl (Fx_call ok_31 (vs := [.slice (some ⟨gI, 0, none⟩) N cI]) rfl (Pick.cons (.here _ _) (Pick.cons (.here _ _) (pick_app X F))) hop) ?_
 rintro _ _ ⟨_, ⟨R, er, hok, hRB, hRN, hRs, hRp, hRT, hRc, hRr, hve, rfl⟩, rfl⟩
 refine RW_heap (p_x _ _ _ _) ?_
 obtain ⟨F2, hF2⟩ : ∃ F2, F2 = X ++ F := ⟨_, rfl⟩
 rw [← hF2]
 simp only [hb] at hve
 subst hve
 simp only [Rdr.H, List.cons_append, hRp, hRT]
 refine RW_m ?_
 refine RW_l (Yl_extract (v := pv R.br) rfl rfl) ?_
 refine RW_l (Yl_extract (v := pv R.bs) rfl rfl) ?_
 refine RW_l (Yl_extract (v := nv 0) rfl rfl) ?_
 refine RW_a ?_
 refine RW_a ?_
 refine RW_a ?_
 refine RW_lv [4,6] ?_
 refine CW_seq ?_
 refine CW_sr ?_
 refine RW_m ?_
 refine RW_l (Yl_neq rfl rfl) ?_
 refine RW_lv [4,6,17] ?_
 refine CW_cd rfl (fun hc1 => ?_) (fun hc1 => ?_)
 ·exact absurd rfl hc1
 refine (CW_skip (QW_lv [4] ?_))
 refine CW_seq ?_
 obtain ⟨S, hS⟩ : ∃ x, x = STv tn := ⟨_, rfl⟩
 rw [← hS] at hok
 have hall : ∀ k ∈ S.out, ∃ f, R.fs[k]? = some f := by
  intro k hk
  have h1 : k < tn.length := by rw [hS] at hk; exact trav_lt tn _ _ _ _ (by intro k hk; cases hk) k hk
  have h2 : R.fs.length = es.length := by have := congrArg List.length hok.tok.rest; simpa using this
  have h3 := hlinkl
  exact ⟨_, List.getElem?_eq_getElem om_⟩
 have hdcs : ∀ (k : Nat) (f : Fil), R.fs[k]? = some f → DcOk f.en := by
  intro k f hf
  have h1 := congrArg (fun l => l[k]?) hok.tok.rest
  simp only [List.getElem?_map, hf, Option.map_some] at h1
  cases hq : es[k]? with
  | none => rw [hq] at h1; cases h1
  | some e =>
   rw [hq] at h1; simp only [Option.map_some, Option.some.injEq] at h1
   have h2 := hde e (List.mem_of_getElem? hq)
   have a1 : f.en.dc = e.dc := by have := congrArg En.dc h1; exact this
   have a2 : f.en.ini = e.ini := by have := congrArg En.ini h1; exact this
   exact ⟨by rw [a1]; exact h2.len, by rw [a1]; exact h2.one, by rw [a1]; exact h2.ot, by rw [a2]; exact h2.ini⟩
 have hpl : ∀ k, (S.pth k).length ≤ 1000000 := by rw [hS]; exact hpl0
 have houtl : R.out.length ≤ 1000000 := by rw [hok.out, hS]; exact hol0
 refine CW_region ?_
 refine RW_a ?_
 refine RW_lv [4,7] ?_
 refine CW_seq ?_
 refine CW_sr ?_
 refine RW_m ?_
 refine RW_n ?_
 refine RW_f fo_89_4 ?_
 refine RW_h (Yh_ld (v := .slice (some ⟨R.bo, 0, none⟩) R.out.length R.capo) sc_83) ?_
 refine RW_l (Yl_len rfl sl_83) ?_
 refine RW_m ?_
 refine RW_lv [7,22,23,24] ?_
 refine CW_block ?_
 obtain ⟨Y, hY⟩ : ∃ Y, Y = (R.br, blk R.cells 89) :: (R.bh, blk R.hcells 137) :: (R.bhf, blk R.hc 142) :: (R.bb, blk R.lb 5) :: (R.bs, blk [.slice (some ⟨R.bB, 0, none⟩) R.N R.cN] 103) :: (R.bB, blk (bys R.B ++ R.rB) 5) :: (R.g, blk (R.bfs.map pv ++ R.rn) 90) :: (R.X ++ F2) := ⟨_, rfl⟩
 obtain ⟨Z, hZ⟩ : ∃ Z, Z = (gI, blk (bys B ++ rI) 5) :: (2, blk ps T) :: Y := ⟨_, rfl⟩
 refine CW_heap (H' := (R.bo, blk (outs R.bfs R.out ++ R.ro) 90) :: ((filsH R.br R.fs ++ psH R.pth) ++ ([] ++ ([] ++ Z)))) (by rw [hZ, hY]; exact pE) ?_
 refine CW_loop (σ := EtS) (fun q => [(7, osl q.g q.n q.cap), (22, .slice (some ⟨R.bo, 0, none⟩) R.out.length R.capo), (23, nv R.out.length), (24, nv q.n)]) (fun q => (R.bo, blk (outs R.bfs R.out ++ R.ro) 90) :: ((filsH R.br R.fs ++ psH R.pth) ++ (oH q.g (q.rows.flatten ++ q.r) 41 ++ (q.pp ++ Z)))) (fun q => q.o = R.out.take q.n ∧ q.n ≤ R.out.length ∧ RowsOk R.fs S.pth q.pp q.o q.rows ∧ oOk q.g q.rows.flatten q.r q.n q.cap 27) (fun q => R.out.length - q.n) ⟨0, [], none, 0, [], [], []⟩ ⟨rfl, Nat.zero_le _, .nil, ⟨rfl, rfl⟩⟩ (Prm.nil _) kp_ ?_
 rintro q ⟨hpre, hqle, hrows, hoo⟩
 refine CW_sr ?_
 refine RW_l (Yl_lss rfl rfl) ?_
 refine RW_lv [7,22,23,24,25] ?_
 refine CW_seq ?_
 refine CW_cd rfl (fun hc2 => ?_) (fun hc2 => ?_)
 ·have hlt : q.n < R.out.length := by omega
  obtain ⟨k, hk⟩ : ∃ k, k = R.out.getD q.n 0 := ⟨_, rfl⟩
  have hkm : k ∈ S.out := by rw [hk, ← hok.out, List.getD_eq_getElem?_getD, List.getElem?_eq_getElem hlt]; exact List.getElem_mem _
  obtain ⟨f, hf⟩ : ∃ f, R.fs[k]? = some f := hall k hkm
  have hbf : R.bfs.getD k 0 = f.bf := by rw [← hok.tok.bf]; simp [List.getD_eq_getElem?_getD, hf]
  obtain ⟨bp, hbp, hpath⟩ := hok.tok.path k hkm f hf
  have hdc : DcOk f.en := hdcs k f hf
  obtain ⟨otx, hot0⟩ := hdc.ot
  have hbo : (outs R.bfs R.out ++ R.ro)[q.n]? = some (pv f.bf) := by rw [List.getElem?_append_left (by rw [List.length_map]; exact hlt), List.getElem?_map, List.getElem?_eq_getElem hlt, ← hbf, hk]; simp [List.getD_eq_getElem?_getD, hlt]
  refine (CW_skip (QW_lv [7,22,23,24] ?_))
  refine CW_seq ?_
  refine CW_block ?_
  refine CW_sr ?_
  refine RW_l (Yl_indexN (b := R.bo) (off := 0) (i := q.n) (o' := q.n) rfl rfl sl_83 om_ om_) ?_
  refine RW_h (Yh_lh (v := pv f.bf) sc_90 hbo) ?_
  refine RW_a ?_
  refine RW_lv [7,9,22,23,24] ?_
  have hzt : Ct Tryd.prog 32 [pv f.bf] [(f.bf, blk (fiF f.en.nm f.en.ini f.en.path f.en.size f.en.pos f.en.cur f.en.rem f.bd R.br) 93), (f.bd, blk f.en.dc 112)] (fun v q => v = nv (otv f.en) ∧ q = [(f.bf, blk (fiF f.en.nm f.en.ini f.en.path f.en.size f.en.pos f.en.cur f.en.rem f.bd R.br) 93), (f.bd, blk f.en.dc 112)]) := by rw [otv_bv hot0]; exact ZZType_ct f.bf f.bd R.br f.en.cur f.en.ini f.en.nm f.en.path f.en.size f.en.pos f.en.rem f.en.dc otx hot0
  obtain ⟨G, hG⟩ := pS (br := R.br) hf hbp
  refine CW_heap (pA hG) ?_
  have hini := hdc.ini
  have hl16 : ((f.en.dc.drop 38).take 16).length = 16 := by have := hdc.len; simp; omega
  have hl4 : ((f.en.dc.drop 54).take 4).length = 4 := by have := hdc.len; simp; omega
  refine CW_draw [31] [(enB R.br f.bf f.bd f.en), (f.bd, blk f.en.dc 112)] mixed sub_ ?_
  refine RD_m 0 ?_
  refine RD_m 1 ?_
  refine RD_n 2 ?_
  refine RD_f 3 fo_93_0 ?_
  refine RD_m 5 ?_
  refine RD_n 6 ?_
  refine RD_f 7 fo_93_2 ?_
  refine RD_m 10 ?_
  refine RD_m 12 ?_
  refine RD_n 13 ?_
  refine RD_f 14 fo_93_3 ?_
  refine RD_m 16 ?_
  refine RD_n 17 ?_
  refine RD_f 18 fo_93_1 ?_
  refine RD_m 21 ?_
  refine RD_m 23 ?_
  refine RD_m 25 ?_
  refine RD_m 27 ?_
  refine RD_h (i := 4) #[true, true, true, true, false, true, true, true, true, true, true, true, true, true, true, true, true, true, true, true, true, true, true, true, true, true, true, true, true, false, false, false, false] rfl rfl rfl rfl kr_ (fun _ _ _ h => h) (Yh_ld (v := .string (bar f.en.nm)) sc_9) ?_
  refine RD_h (i := 8) #[true, true, true, true, true, true, true, true, false, false, true, false, true, true, true, true, true, true, true, true, true, true, false, true, false, true, false, true, false, false, false, false, false] rfl rfl rfl rfl kr_ (fun _ _ _ h => h) (Yh_load (v := .slice (some ⟨bp, 0, none⟩) (S.pth k).length (S.pth k).length) rfl sc_36 mem_ (by rw [← hpath]; rfl)) ?_
  refine RD_h (i := 15) #[true, true, true, true, true, true, true, true, true, true, true, true, true, true, true, false, true, true, true, true, true, true, true, true, true, true, true, true, true, false, false, false, false] rfl rfl rfl rfl kr_ (fun _ _ _ h => h) (Yh_ld (v := .int .i64 f.en.size) sc_2) ?_
  refine RD_h (i := 19) #[true, true, true, true, true, true, true, true, true, true, true, true, true, true, true, true, true, true, true, false, false, true, true, true, true, true, true, true, true, false, false, false, false] rfl rfl rfl rfl kr_ (fun _ _ _ h => h) (Yh_ld (v := .int .u16 (f.en.ini : Int)) sc_47) ?_
  refine RD_l 20 rfl (Yl_conv (c := (f.en.ini : Int)) rfl in_47 in_3 (wi64 om_ om_)) ?_
  refine RD_o 9 ?_
  refine RO_fx rfl rfl rfl rfl (Fx_pathcopy (pp := q.pp) (F := Z) (L0 := (enB R.br f.bf f.bd f.en) :: (f.bd, blk f.en.dc 112) :: (bp, blk (strs (S.pth k)) 9) :: (R.bo, blk (outs R.bfs R.out ++ R.ro) 90) :: (G ++ oH q.g (q.rows.flatten ++ q.r) 41)) rfl rfl mem_ (.refl _) (hpl k)) ?_
  rintro _ _ ⟨pp', pvv, rfl, hpp, hpc, rfl⟩
  simp only [List.cons_append]
  have hcc : ([.string (bar f.en.nm), pvv, nv (otv f.en), .int .i64 f.en.size, .int .i64 (f.en.ini : Int), .agg ((f.en.dc.drop 38).take 16).toArray, .agg ((f.en.dc.drop 54).take 4).toArray, f.en.dc.getD 58 undef, f.en.dc.getD 59 undef]).map Value.cells = ([[.string (bar f.en.nm)], [pvv], [nv (otv f.en)], [.int .i64 f.en.size], [.int .i64 (f.en.ini : Int)], (f.en.dc.drop 38).take 16, (f.en.dc.drop 54).take 4, [f.en.dc.getD 58 undef], [f.en.dc.getD 59 undef]]).map List.toArray := by simp only [List.map_cons, List.map_nil]; rw [hpc.one.2, cells_one (hdc.at (show 58 < 69 by omega)).2, cells_one (hdc.at (show 59 < 69 by omega)).2]; rfl
  have hone27 := one_entC hdc hpc.one.1
  refine ⟨Or.inr sub_, ?_⟩
  refine RD_o 11 ?_
  refine RO_fx rfl rfl rfl rfl (Fx_callQ ok_32 (vs := [pv f.bf]) (R := fun v => v = nv (otv f.en)) rfl (Pick.cons rem_ (Pick.cons rem_ (Pick.nil _))) hzt) ?_
  rintro _ _ ⟨rfl, rfl⟩
  refine ⟨Or.inr sub_, ?_⟩
  refine RD_o 22 ?_
  refine RO_fx rfl rfl rfl rfl (Fx_callQ ok_33 (vs := [pv f.bf]) (R := fun v => v = .agg ((f.en.dc.drop 38).take 16).toArray) rfl (Pick.cons rem_ (Pick.cons rem_ (Pick.nil _))) (ID_ct f.bf f.bd R.br f.en.cur f.en.ini f.en.nm f.en.path f.en.size f.en.pos f.en.rem f.en.dc hdc.len hdc.one)) ?_
  rintro _ _ ⟨rfl, rfl⟩
  refine ⟨Or.inr sub_, ?_⟩
  refine RD_o 24 ?_
  refine RO_fx rfl rfl rfl rfl (Fx_callQ ok_34 (vs := [pv f.bf]) (R := fun v => v = .agg ((f.en.dc.drop 54).take 4).toArray) rfl (Pick.cons rem_ (Pick.cons rem_ (Pick.nil _))) (ZZState_ct f.bf f.bd R.br f.en.cur f.en.ini f.en.nm f.en.path f.en.size f.en.pos f.en.rem f.en.dc hdc.len hdc.one)) ?_
  rintro _ _ ⟨rfl, rfl⟩
  refine ⟨Or.inr sub_, ?_⟩
  refine RD_o 26 ?_
  refine RO_fx rfl rfl rfl rfl (Fx_callQ ok_35 (vs := [pv f.bf]) (R := fun v => v = f.en.dc.getD 58 undef) rfl (Pick.cons rem_ (Pick.cons rem_ (Pick.nil _))) (Created_ct f.bf f.bd R.br f.en.cur f.en.ini f.en.nm f.en.path f.en.size f.en.pos f.en.rem f.en.dc _ (hdc.at (show 58 < 69 by omega)).1)) ?_
  rintro _ _ ⟨rfl, rfl⟩
  refine ⟨Or.inr sub_, ?_⟩
  refine RD_o 28 ?_
  refine RO_fx rfl rfl rfl rfl (Fx_callQ ok_36 (vs := [pv f.bf]) (R := fun v => v = f.en.dc.getD 59 undef) rfl (Pick.cons rem_ (Pick.cons rem_ (Pick.nil _))) (Modified_ct f.bf f.bd R.br f.en.cur f.en.ini f.en.nm f.en.path f.en.size f.en.pos f.en.rem f.en.dc _ (hdc.at (show 59 < 69 by omega)).1)) ?_
  rintro _ _ ⟨rfl, rfl⟩
  refine ⟨Or.inr sub_, ?_⟩
  refine RD_l 29 rfl (Yl_buildL (vs := [.string (bar f.en.nm), pvv, nv (otv f.en), .int .i64 f.en.size, .int .i64 (f.en.ini : Int), .agg ((f.en.dc.drop 38).take 16).toArray, .agg ((f.en.dc.drop 54).take 4).toArray, f.en.dc.getD 58 undef, f.en.dc.getD 59 undef]) (css := [[.string (bar f.en.nm)], [pvv], [nv (otv f.en)], [.int .i64 f.en.size], [.int .i64 (f.en.ini : Int)], (f.en.dc.drop 38).take 16, (f.en.dc.drop 54).take 4, [f.en.dc.getD 58 undef], [f.en.dc.getD 59 undef]]) (zc := zs_41) (cs := (entC f.en pvv)) pl_41 ze_41 rfl rfl hcc (by refine ⟨rfl, rfl, rfl, rfl, rfl, ?_, ?_, ?_, ?_, trivial⟩ <;> simp only [hl16, hl4] <;> rfl) (by show 27 = (entC f.en pvv).length; rw [length_entC hdc]) rfl) ?_
  refine RD_o 30 ?_
  refine RO_fx rfl rfl rfl rfl (Fx_lit (vs := [.agg (entC f.en pvv).toArray]) (css := [(entC f.en pvv)]) (cs := (entC f.en pvv)) sl_33 ze_41 rfl rfl rfl rfl rfl (by intro c hc; rw [List.mem_singleton.1 hc]; exact length_entC hdc pvv) (by simp)) ?_
  rintro _ _ ⟨b58, rfl, rfl⟩
  refine ⟨Or.inr sub_, ?_⟩
  refine RD_o 31 ?_
  refine RO_fx rfl rfl rfl rfl (Fx_appOG (o := q.g) (xs := q.rows.flatten) (r := q.r) (news := (entC f.en pvv)) (T := 41) (n := q.n) (cap := q.cap) (m := 1) (c := 1) (R := (enB R.br f.bf f.bd f.en) :: (f.bd, blk f.en.dc 112) :: (bp, blk (strs (S.pth k)) 9) :: (R.bo, blk (outs R.bfs R.out ++ R.ro) 90) :: (G ++ (pp' ++ Z))) rfl rfl sl_33 by_41 ze_41 rfl (.here _ _) pB hoo (by rw [length_entC hdc]) hone27 om_ om_ om_ om_) ?_
  rintro _ _ ⟨g', cap', r', rfl, hoo', rfl⟩
  refine ⟨Or.inl kr_, ?_⟩
  refine RD_a 32 ?_
  refine RD_done kr_ ?_
  refine QW_normal_block ?_
  refine (QW_lv [7,22,23,24] ?_)
  refine CW_region ?_
  refine RW_l (Yl_add (c := ((q.n + 1 : Nat) : Int)) rfl rfl (wi64 om_ om_)) ?_
  refine RW_m ?_
  refine RW_nil ?_
  have hrows2 : RowsOk R.fs S.pth pp' (q.o ++ [k]) (q.rows ++ [entC f.en pvv]) := .snoc (hrows.more hpp) hf hdc hpc
  refine QW_heap (pC hG) ?_
  refine QW_round (σ := EtS) ⟨q.n + 1, q.o ++ [k], some g', cap', r', q.rows ++ [entC f.en pvv], pp'⟩ ⟨?_, by simp only; omega, hrows2, ?_⟩ (by simp only; omega) ?_ kp_
  ·simp only; rw [List.take_succ_eq_append_getElem hlt, ← hpre, hk]; simp [List.getD_eq_getElem?_getD, hlt]
  ·simp only [List.flatten_append, List.flatten_cons, List.flatten_nil, List.append_nil]; exact hoo'
  simp only [oH, List.flatten_append, List.flatten_cons, List.flatten_nil, List.append_nil, List.cons_append, List.nil_append]; exact Prm.nil _
 refine CW_exit ?_
 refine QW_exit_then ?_
 refine QW_exit_then ?_
 refine QW_exit_block ?_
 refine (QW_lv [7] ?_)
 refine CW_sr ?_
 refine RW_m ?_
 refine RW_a ?_
 refine RW_a ?_
 refine RW_lv [2,3] ?_
 refine CW_ret ?_
 have hqn : q.o.length = q.n := by rw [hpre, List.length_take]; omega
 have hqN : q.n = (STv tn).out.length := by rw [show q.n = R.out.length by omega, hok.out, hS]
 refine QW_sub (H' := (gI, blk (bys B ++ rI) 5) :: (2, blk ps T) :: F2) ?_ ?_
 ·refine .cons _ (List.Sublist.trans ?_ (List.sublist_append_right _ _)); refine List.Sublist.trans ?_ (List.sublist_append_right _ _); refine List.Sublist.trans ?_ (List.sublist_append_right _ _); rw [hZ, hY]; exact .cons_cons _ (.cons_cons _ (.cons _ (.cons _ (.cons _ (.cons _ (.cons _ (.cons _ (.cons _ (List.sublist_append_right _ _)))))))))
 subst hF2
 exact QW_ret2 rfl rfl rfl ((gI, blk (bys B ++ rI) 5) :: (2, blk ps T) :: X) ⟨q.g, q.cap, q.r, q.rows.flatten, by rw [← hqN]; exact hoo, by rw [← hqN]; rfl, rfl⟩ (Prm.nil _)
theorem EntriesNo_ct (gI cI N : Nat) (rI : List Value) (B : List UInt8) (ps : List Value) (T : TypeId) (X : Heap) (hop : Ct Tryd.prog 31 [.slice (some ⟨gI, 0, none⟩) N cI] ((gI, blk (bys B ++ rI) 5) :: (2, blk ps T) :: X) (fun v q => ∃ (x y : Value) (c : Nat), 1 ≤ c ∧ c ≤ 11 ∧ v = .tuple #[x, y, nv c] ∧ q = (gI, blk (bys B ++ rI) 5) :: (2, blk ps T) :: X)) :
  Ct Tryd.prog 18 [.slice (some ⟨gI, 0, none⟩) N cI] ((gI, blk (bys B ++ rI) 5) :: (2, blk ps T) :: X) (fun v q => ∃ c : Nat, 1 ≤ c ∧ c ≤ 11 ∧ v = .tuple #[.slice none 0 0, nv c] ∧ q = (gI, blk (bys B ++ rI) 5) :: (2, blk ps T) :: X) := by
 refine Ct_of Tryd.func18 rfl Tryd.ntmps18 rfl ?_
 intro E F
 simp only [numL, List.nil_append, List.cons_append]
 refine CW_sr ?_
 refine RW_a ?_
 refine RW_a ?_
 refine RW_lv [0] ?_
 refine CW_sr ?_
 refine RW_m ?_
 refine RW_fx rfl rfl rfl (Fx_call ok_31 (vs := [.slice (some ⟨gI, 0, none⟩) N cI]) rfl (Pick.cons (.here _ _) (Pick.cons (.here _ _) (pick_app X F))) hop) ?_
 rintro _ _ ⟨_, ⟨x, y, c, hq1, hq2, rfl, rfl⟩, rfl⟩
 simp only [List.cons_append]
 refine RW_m ?_
 refine RW_l (Yl_extract (v := x) rfl rfl) ?_
 refine RW_l (Yl_extract (v := y) rfl rfl) ?_
 refine RW_l (Yl_extract (v := nv c) rfl rfl) ?_
 refine RW_a ?_
 refine RW_a ?_
 refine RW_a ?_
 refine RW_lv [4,6] ?_
 refine CW_seq ?_
 refine CW_sr ?_
 refine RW_m ?_
 refine RW_l (Yl_neq rfl rfl) ?_
 refine RW_lv [4,6,17] ?_
 refine CW_cd rfl (fun hc1 => ?_) (fun hc1 => ?_)
 ·refine CW_sr ?_
  refine RW_m ?_
  refine RW_a ?_
  refine RW_a ?_
  refine RW_lv [2,3] ?_
  refine CW_ret ?_
  refine QW_ret_then ?_
  exact QW_ret2 rfl rfl rfl ((gI, blk (bys B ++ rI) 5) :: (2, blk ps T) :: X) ⟨c, hq1, hq2, rfl, rfl⟩ (Prm.nil _)
 exact absurd hc1 om_

theorem p_y (gi b : Nat × Obj) (X A E F : Heap) : (gi :: ((X ++ A) ++ (b :: (E ++ F)))).Perm (gi :: (A ++ (b :: ((X ++ E) ++ F)))) := perm_c fun i w => by simp only [List.count_append, List.count_cons]; omega
theorem StepsX_ct (gI cI : Nat) (rI : List Value) (N ss : Nat) (B : List UInt8) (ps : List Value) (T : TypeId) (es : List En) (tn : List Tn) (mi : Option (List Nat × List Nat)) (X : Heap) (hop : Ct Tryd.prog 31 [.slice (some ⟨gI, 0, none⟩) N cI] ((gI, blk (bys B ++ rI) 5) :: (2, blk ps T) :: X) (fun v q => ∃ (R : Rdr) (er : Value), R.Ok es (STv tn) mi er ∧ R.B = B ∧ R.N = N ∧ R.ss = ss ∧ R.ps = ps ∧ R.T = T ∧ N ≤ R.cN ∧ (bys R.B ++ R.rB).length = R.cN ∧ v = .tuple #[if (STv tn).bad = true then .pointer none else pv R.br, pv R.bs, nv (if (STv tn).bad = true then 5 else 0)] ∧ q = (gI, blk (bys B ++ rI) 5) :: (X ++ R.H))) (hN5 : 512 ≤ N) (hN1 : N ≤ 131072) (hB : B.length = N) (hb : (STv tn).bad = false) (bst n cst : Nat) (sts : List (List Value)) (rst : List Value) (E1 : Heap) (i : Nat) (hsn : sts.length = n) (hn : n ≤ 100000) (hs5 : ∀ x ∈ sts, x.length = 5) (hs1 : ∀ x ∈ sts, ∀ u ∈ x, u.oneCell' = true) (hi : i < (STv tn).out.length) (hol0 : (STv tn).out.length ≤ 1000000)
  (Inv : Rdr → Nat → List (List Value) → List UInt8 → Heap → Prop) (hinv : ∀ R, ROk R ps T B N ss es tn mi → Inv R 0 [] B (R.H ++ (X ++ E1))) (hstp : ∀ R, ROk R ps T B N ss es tn mi → Stp R i n sts (Inv R)) :
  Ct Tryd.prog 20 [.slice (some ⟨gI, 0, none⟩) N cI, nv i, .slice (some ⟨bst, 0, none⟩) n cst] ((gI, blk (bys B ++ rI) 5) :: (2, blk ps T) :: (bst, blk (sts.flatten ++ rst) 53) :: (X ++ E1))
   (fun v q => ∃ (R : Rdr) (g : Option Nat) (cap : Nat) (r : List Value) (rs : List (List Value)) (b2 cap2 : Nat) (r2 : List Value) (B2 : List UInt8) (H : Heap), ROk R ps T B N ss es tn mi ∧ v = .tuple #[osl g n cap, .slice (some ⟨b2, 0, none⟩) N cap2, .bool true] ∧ Inv R n rs B2 H ∧ rs.length = n ∧ oOk g rs.flatten r n cap 3 ∧ B2.length = N ∧ (R.bB, blk (bys B2 ++ R.rB) 5) ∈ H ∧
    q = (b2, blk (bys B2 ++ r2) 5) :: (H ++ ((gI, blk (bys B ++ rI) 5) :: (bst, blk (sts.flatten ++ rst) 53) :: oH g (rs.flatten ++ r) 58))) := by
 refine Ct_of Tryd.func20 rfl Tryd.ntmps20 rfl ?_
 intro E F
 simp only [numL, List.nil_append, List.cons_append]
 refine CW_sr ?_
 refine RW_a ?_
 refine RW_a ?_
 refine RW_a ?_
 refine RW_lv [0,1,2] ?_
 refine CW_sr ?_
 refine RW_m ?_
 refine RW_fx rfl rfl rfl (Fx_call ok_31 (vs := [.slice (some ⟨gI, 0, none⟩) N cI]) rfl (Pick.cons (.here _ _) (Pick.cons (.here _ _) (by rw [List.append_assoc]; exact pick_mid X [_] (E1 ++ F)))) hop) ?_
 rintro _ _ ⟨_, ⟨R, er, hok, hRB, hRN, hRs, hRp, hRT, hRc, hRr, hve, rfl⟩, rfl⟩
 simp only [List.cons_append, List.nil_append]
 refine RW_heap (p_y _ _ _ _ _ _) ?_
 rw [if_neg (by rw [hb]; decide), if_neg (by rw [hb]; decide)] at hve
 subst hve
 refine RW_m ?_
 refine RW_l (Yl_extract (v := pv R.br) rfl rfl) ?_
 refine RW_l (Yl_extract (v := pv R.bs) rfl rfl) ?_
 refine RW_l (Yl_extract (v := nv 0) rfl rfl) ?_
 refine RW_a ?_
 refine RW_a ?_
 refine RW_a ?_
 refine RW_lv [1,2,9,10,11] ?_
 refine CW_seq ?_
 refine CW_seq ?_
 have hro : ROk R ps T B N ss es tn mi := ⟨⟨er, hok⟩, hRB, hRN, hRs, hRp, hRT, hRc, hRr⟩
 have hol : R.out.length = (STv tn).out.length := by rw [hok.out]
 refine CW_heap (p_open _ _ _ _ _) ?_
 refine CW_region ?_
 refine RW_m ?_
 refine RW_l (Yl_neqB false rfl rfl (decide_eq_false (fun h => h rfl))) ?_
 refine RW_m ?_
 refine RW_gy rfl rfl rfl (Yl.h (Yl_move rfl)) ?_
 refine RW_gy rfl rfl rfl (Yl.h (Yl_lssB false rfl rfl (decide_eq_false om_))) ?_
 refine RW_l (Yl_pick_f rfl rfl) ?_
 refine RW_m ?_
 refine RW_gy rfl rfl rfl (Yl.h (Yl_move rfl)) ?_
 refine RW_gy rfl rfl rfl (Yl.h (Yl_move rfl)) ?_
 refine RW_gy rfl rfl rfl (Yl.h (Yl_nilCheck rfl)) ?_
 refine RW_gy rfl rfl rfl (Yl.h (Yl_field rfl fo_89_4)) ?_
 refine RW_gy rfl rfl rfl (Yh_load (v := .slice (some ⟨R.bo, 0, none⟩) R.out.length R.capo) rfl sc_83 (by repeat (first | exact List.mem_append_left _ (List.mem_append_left _ (List.Mem.head _)) | apply List.Mem.tail)) rfl) ?_
 refine RW_gy rfl rfl rfl (Yl.h (Yl_len rfl sl_83)) ?_
 refine RW_gy rfl rfl rfl (Yl.h (Yl_geqB false rfl rfl (decide_eq_false om_))) ?_
 refine RW_l (Yl_pick_f rfl rfl) ?_
 refine RW_lv [1,2,9,10,37] ?_
 refine CW_false rfl ?_
 refine (CW_skip (QW_lv [1,2,9,10] ?_))
 refine CW_sr ?_
 refine RW_a ?_
 refine RW_lv [1,2,9,10,12] ?_
 refine CW_seq ?_
 refine CW_sr ?_
 refine RW_m ?_
 refine RW_l (Yl_len rfl sl_51) ?_
 refine RW_m ?_
 refine RW_lv [1,9,10,12,38,39,40] ?_
 refine CW_block ?_
 refine CW_loop (σ := SSt) (fun q => [(1, nv i), (9, pv R.br), (10, pv R.bs), (12, osl q.g q.j q.cap), (38, .slice (some ⟨bst, 0, none⟩) n cst), (39, nv n), (40, nv q.j)]) (fun q => q.H ++ ((gI, blk (bys B ++ rI) 5) :: (bst, blk (sts.flatten ++ rst) 53) :: (oH q.g (q.rs.flatten ++ q.r) 58 ++ F))) (fun q => q.j ≤ n ∧ Inv R q.j q.rs q.B q.H ∧ q.rs.length = q.j ∧ oOk q.g q.rs.flatten q.r q.j q.cap 3) (fun q => n - q.j) ⟨0, R.H ++ (X ++ E1), B, [], none, 0, []⟩ ⟨by simp, hinv R hro, rfl, ⟨rfl, rfl⟩⟩ (Prm.nil _) kp_ ?_
 rintro ⟨j, H, B2, rs, g, cap, r⟩ ⟨hj, hI, hrl, ho⟩
 simp only at hj hI hrl ho ⊢
 obtain ⟨⟨wa2, hm1⟩, hm2, hm3, hB2, hm4⟩ := (hstp R hro).mem j rs B2 H hI
 refine CW_sr ?_
 refine RW_l (Yl_lss rfl rfl) ?_
 refine RW_lv [1,9,10,12,38,39,40,41] ?_
 refine CW_seq ?_
 refine CW_cd rfl (fun hc1 => ?_) (fun hc1 => ?_)
 ·refine (CW_skip (QW_lv [1,9,10,12,38,39,40] ?_))
  refine CW_seq ?_
  refine CW_block ?_
  refine CW_seq ?_
  obtain ⟨st, hst⟩ : ∃ st, sts.getD j [] = st := ⟨_, rfl⟩
  have hstm : st ∈ sts := by rw [← hst, List.getD_eq_getElem?_getD, List.getElem?_eq_getElem om_]; exact List.getElem_mem _
  have hst5 := hs5 st hstm
  have hst1 := hs1 st hstm
  refine CW_region ?_
  refine RW_l (Yl_indexN (b := bst) (off := 0) (i := j) (o' := j * 5) rfl rfl sl_51 om_ om_) ?_
  refine RW_h (Yh_loadE (cs := st) rfl ag_53 (List.mem_append_right _ (List.Mem.tail _ (List.Mem.head _))) (by rw [List.length_append, chunk_len 5 _ hs5]; omega) (by rw [chunk_at 5 _ _ _ hs5 om_]; exact hst)) ?_
  refine RW_fx rfl rfl rfl (Fx_alloc (zs := zs_53) ze_53 rfl) ?_
  rintro _ _ ⟨b14, rfl, rfl⟩
  refine RW_fx0 rfl rfl (Fx_storeA (b := b14) (off := 0) (l := zs_53) (T := 53) (cs := st) rfl rfl (by rw [hst5]; exact sz_53) hst1 (.here _ _ _) (by rw [hst5]; exact Nat.le_refl 5)) ?_
  rintro _ _ rfl
  refine RW_lv [1,9,10,12,14,38,39,40] ?_
  rw [spl_full _ _ (by rw [hst5]; rfl)]
  have hone := (hstp R hro).step j rs B2 H hI om_
  rw [hst] at hone
  refine CW_cut (σ := Nat × Heap × List Value × List UInt8) (fun q => [(1, nv i), (9, pv R.br), (10, pv R.bs), (12, osl g j cap), (15, pv q.1), (16, .bool true), (38, .slice (some ⟨bst, 0, none⟩) n cst), (39, nv n), (40, nv j)]) (fun q => (q.1, blk q.2.2.1 58) :: (q.2.1 ++ ((gI, blk (bys B ++ rI) 5) :: (bst, blk (sts.flatten ++ rst) 53) :: (oH g (rs.flatten ++ r) 58 ++ F)))) (fun q => q.2.2.1.length = 3 ∧ (∀ u ∈ q.2.2.1, u.oneCell' = true) ∧ Inv R (j + 1) (rs ++ [q.2.2.1]) q.2.2.2 q.2.1) ?_ ?_
  ·skip
   refine CW_draw [8] _ mixed (Sub.refl _) ?_
   refine RD_m 0 ?_
   refine RD_n 1 ?_
   refine RD_f 2 fo_89_4 ?_
   refine RD_m 4 ?_
   refine RD_h (i := 3) #[true, true, true, false, true, false, false, true, false, false, false, false, true, false, false] rfl rfl rfl rfl kr_ (fun _ _ _ h => h) (Yh_load (v := .slice (some ⟨R.bo, 0, none⟩) R.out.length R.capo) rfl sc_83 (by repeat (first | exact List.mem_append_left _ hm1 | apply List.Mem.tail)) rfl) ?_
   refine RD_l 5 rfl (Yl_indexN (b := R.bo) (off := 0) (i := i) (o' := i) rfl rfl sl_83 om_ om_) ?_
   refine RD_h (i := 6) #[true, true, true, true, true, true, false, true, false, false, false, false, true, false, false] rfl rfl rfl rfl kr_ (fun _ _ _ h => h) (Yh_load (v := pv (R.bfs.getD (R.out.getD i 0) 0)) rfl sc_90 (by repeat (first | exact List.mem_append_left _ hm2 | apply List.Mem.tail)) (outs_at _ _ _ om_)) ?_
   refine RD_h (i := 7) #[true, true, true, true, true, true, true, false, false, false, false, false, true, false, false] rfl rfl rfl rfl kr_ (fun _ _ _ h => h) (Yh_loadAll (b := b14) (k := 5) (T := 53) (fz := (0, 0)) (l := st) rfl ag_53 mem_ hst5) ?_
   refine RD_two (i := 8) (j := 12) kr_ ?_ ?_
   ·skip
    refine RO_fx rfl rfl rfl rfl (Fx_call ok_37 (vs := [pv (R.bfs.getD (R.out.getD i 0) 0), .agg st.toArray]) rfl (by first | exact pick_mid _ [_] _ | exact pick_mid _ [_, _] _) hone) ?_
    rintro _ _ ⟨_, ⟨rr, B3, rfl, hr3, hr1, hI2⟩, rfl⟩
    refine ⟨Or.inl kr_, ?_⟩
    refine RD_m 9 ?_
    refine RD_l 10 rfl (Yl_extract (v := .agg rr.toArray) rfl rfl) ?_
    refine RD_l 11 rfl (Yl_extract (v := .bool true) rfl rfl) ?_
    refine RD_o 12 ?_
    refine RO_fx rfl rfl rfl rfl (Fx_alloc (zs := zs_58) ze_58 rfl) ?_
    rintro _ _ ⟨b15, rfl, rfl⟩
    refine ⟨Or.inl kr_, ?_⟩
    refine RD_o 13 ?_
    refine RO_fx0 rfl rfl rfl (Fx_storeA (b := b15) (off := 0) (l := zs_58) (T := 58) (cs := rr) rfl rfl (by rw [hr3]; exact sz_58) hr1 (by first | exact Rep.here _ _ _ | exact rep_r _ (Rep.here _ _ _)) (by rw [hr3]; exact Nat.le_refl 3)) ?_
    rintro _ _ rfl
    rw [spl_full _ _ (by rw [hr3]; rfl)]
    refine ⟨Or.inl kr_, ?_⟩
    refine RD_a 14 ?_
    refine RD_done kr_ ?_
    first
     | (refine QW_sub (List.Sublist.append_left (.cons_cons _ (.cons _ (.refl _))) _) ?_; refine QW_heap List.perm_middle ?_; exact QW_cut (b15, _, rr, B3) ⟨hr3, hr1, hI2⟩ (Prm.nil _) (.cons rfl (.cons rfl (.cons rfl (.cons rfl (.cons rfl (.cons rfl (.cons rfl (.cons rfl (.cons rfl .nil))))))))))
     | (refine QW_sub (.cons_cons _ (List.Sublist.append_left (.cons _ (.refl _)) _)) ?_; exact QW_cut (b15, _, rr, B3) ⟨hr3, hr1, hI2⟩ (Prm.nil _) (.cons rfl (.cons rfl (.cons rfl (.cons rfl (.cons rfl (.cons rfl (.cons rfl (.cons rfl (.cons rfl .nil))))))))))
   skip
   refine RO_fx rfl rfl rfl rfl (Fx_alloc (zs := zs_58) ze_58 rfl) ?_
   rintro _ _ ⟨b15, rfl, rfl⟩
   refine ⟨Or.inr (Sub.more (Sub.refl _)), ?_⟩
   refine RD_o 8 ?_
   refine RO_fx rfl rfl rfl rfl (Fx_call ok_37 (vs := [pv (R.bfs.getD (R.out.getD i 0) 0), .agg st.toArray]) rfl (by first | exact pick_mid _ [_] _ | exact pick_mid _ [_, _] _) hone) ?_
   rintro _ _ ⟨_, ⟨rr, B3, rfl, hr3, hr1, hI2⟩, rfl⟩
   refine ⟨Or.inl kr_, ?_⟩
   refine RD_m 9 ?_
   refine RD_l 10 rfl (Yl_extract (v := .agg rr.toArray) rfl rfl) ?_
   refine RD_l 11 rfl (Yl_extract (v := .bool true) rfl rfl) ?_
   refine RD_o 13 ?_
   refine RO_fx0 rfl rfl rfl (Fx_storeA (b := b15) (off := 0) (l := zs_58) (T := 58) (cs := rr) rfl rfl (by rw [hr3]; exact sz_58) hr1 (by first | exact Rep.here _ _ _ | exact rep_r _ (Rep.here _ _ _)) (by rw [hr3]; exact Nat.le_refl 3)) ?_
   rintro _ _ rfl
   rw [spl_full _ _ (by rw [hr3]; rfl)]
   refine ⟨Or.inl kr_, ?_⟩
   refine RD_a 14 ?_
   refine RD_done kr_ ?_
   first
    | (refine QW_sub (List.Sublist.append_left (.cons_cons _ (.cons _ (.refl _))) _) ?_; refine QW_heap List.perm_middle ?_; exact QW_cut (b15, _, rr, B3) ⟨hr3, hr1, hI2⟩ (Prm.nil _) (.cons rfl (.cons rfl (.cons rfl (.cons rfl (.cons rfl (.cons rfl (.cons rfl (.cons rfl (.cons rfl .nil))))))))))
    | (refine QW_sub (.cons_cons _ (List.Sublist.append_left (.cons _ (.refl _)) _)) ?_; exact QW_cut (b15, _, rr, B3) ⟨hr3, hr1, hI2⟩ (Prm.nil _) (.cons rfl (.cons rfl (.cons rfl (.cons rfl (.cons rfl (.cons rfl (.cons rfl (.cons rfl (.cons rfl .nil))))))))))
  rintro ⟨b15, q, rr, B3⟩ ⟨hr3, hr1, hI2⟩
  simp only at hr3 hr1 hI2 ⊢
  refine CW_seq ?_
  refine CW_sr ?_
  refine RW_m ?_
  refine RW_l (Yl_not rfl) ?_
  refine RW_lv [1,9,10,12,15,38,39,40,57] ?_
  refine CW_cond rfl (fun hc2 => ?_) (fun hc2 => ?_)
  ·skip
   exact absurd hc2 (by decide)
  skip
  refine (CW_skip (QW_lv [1,9,10,12,15,38,39,40] ?_))
  refine CW_region ?_
  refine RW_m ?_
  refine RW_h (Yh_loadAll (b := b15) (k := 3) (T := 58) (fz := (0, 0)) (l := rr) rfl ag_58 mem_ hr3) ?_
  refine RW_fx rfl rfl rfl (Fx_lit (vs := [.agg rr.toArray]) (css := [rr]) (cs := rr) sl_54 ze_58 rfl rfl rfl rfl rfl (by intro c hc; rw [List.mem_singleton.1 hc]; exact hr3) (by simp)) ?_
  rintro _ _ ⟨b60, rfl, rfl⟩
  refine RW_fx rfl rfl rfl (Fx_appOG (o := g) (xs := rs.flatten) (r := r) (news := rr) (T := 58) (n := j) (cap := cap) (m := 1) (c := 1) (R := (b15, blk rr 58) :: (q ++ ((gI, blk (bys B ++ rI) 5) :: (bst, blk (sts.flatten ++ rst) 53) :: F))) rfl rfl sl_54 by_58 ze_58 rfl (.here _ _) (p_app _ _ _ _ _ _) ho hr3 hr1 om_ om_ om_ om_) ?_
  rintro _ _ ⟨g', cap', r', rfl, ho', rfl⟩
  refine RW_a ?_
  refine RW_nil ?_
  refine QW_normal_block ?_
  refine (QW_lv [1,9,10,12,38,39,40] ?_)
  refine CW_region ?_
  refine RW_l (Yl_add (c := ((j + 1 : Nat) : Int)) rfl rfl (wi64 om_ om_)) ?_
  refine RW_m ?_
  refine RW_nil ?_
  refine QW_sub (H' := (g', blk ((rs.flatten ++ rr) ++ r') 58) :: (q ++ ((gI, blk (bys B ++ rI) 5) :: (bst, blk (sts.flatten ++ rst) 53) :: F))) (.cons_cons _ (.cons _ (.refl _))) ?_
  refine QW_heap (p_back _ _ _ _ _) ?_
  refine QW_round (σ := SSt) ⟨j + 1, q, B3, rs ++ [rr], some g', cap', r'⟩ ⟨by simp only; omega, hI2, by simp [hrl], ?_⟩ (by simp only; omega) ?_ kp_
  ·simp only [List.flatten_append, List.flatten_cons, List.flatten_nil, List.append_nil]; exact ho'
  simp only [List.flatten_append, List.flatten_cons, List.flatten_nil, List.append_nil, List.cons_append, List.nil_append]; exact Prm.nil _
 refine CW_exit ?_
 refine QW_exit_then ?_
 refine QW_exit_then ?_
 refine QW_exit_block ?_
 refine (QW_lv [10,12] ?_)
 refine CW_sr ?_
 refine RW_m ?_
 refine RW_m ?_
 refine RW_n ?_
 refine RW_f fo_103_0 ?_
 refine RW_h (Yh_load (v := .slice (some ⟨R.bB, 0, none⟩) R.N R.cN) rfl sc_23 (List.mem_append_left _ hm3) rfl) ?_
 refine RW_fx rfl rfl rfl (Fx_append_nil (z0 := .int .u8 0) (q := 1) (lx := bys B2 ++ R.rB) (offx := 0) rfl rfl sl_23 by_5 ze_5 rfl rfl (List.mem_append_left _ hm4) (by rw [List.length_append, List.length_map]; omega) om_ om_ om_) ?_
 rintro _ _ ⟨b2, l2, cap2, rfl, hc1, hc2, hc3, rfl⟩
 refine RW_a ?_
 refine RW_a ?_
 refine RW_a ?_
 refine RW_lv [6,7,8] ?_
 refine CW_ret ?_
 have hjn : j = n := by omega
 rw [hjn] at hI ho hrl
 skip
 have e2 : l2 = bys B2 ++ l2.drop R.N := by
  have h4 : (bys B2 ++ R.rB).take R.N = bys B2 := by rw [List.take_append_of_le_length (by simp; omega), List.take_of_length_le (by simp; omega)]
  rw [Nat.mul_one, List.drop_zero, h4] at hc3
  have := List.take_append_drop R.N l2
  rw [hc3] at this; exact this.symm
 rw [e2]
 exact QW_ret3 rfl rfl rfl rfl ((b2, blk (bys B2 ++ l2.drop R.N) 5) :: (H ++ ((gI, blk (bys B ++ rI) 5) :: (bst, blk (sts.flatten ++ rst) 53) :: oH g (rs.flatten ++ r) 58))) ⟨R, g, cap, r, rs, b2, cap2, l2.drop R.N, B2, H, hro, by rw [hjn, hRN], hI, hrl, ho, by rw [hB2, hRN], hm4, rfl⟩ (by simp only [List.cons_append, List.append_assoc]; exact Prm.nil _)
theorem p_z (a b c : Nat × Obj) (X F : Heap) : (a :: b :: (X ++ (c :: F))).Perm (a :: b :: c :: (X ++ F)) := perm_c fun i w => by simp only [List.count_append, List.count_cons]; omega
theorem StepsNo_ct (gI cI N i bst n cst : Nat) (rI rst : List Value) (sts : List (List Value)) (B : List UInt8) (ps : List Value) (T : TypeId) (X : Heap) (hop : Ct Tryd.prog 31 [.slice (some ⟨gI, 0, none⟩) N cI] ((gI, blk (bys B ++ rI) 5) :: (2, blk ps T) :: X) (fun v q => ∃ (x y : Value) (c : Nat), 1 ≤ c ∧ c ≤ 11 ∧ v = .tuple #[x, y, nv c] ∧ q = (gI, blk (bys B ++ rI) 5) :: (2, blk ps T) :: X)) :
  Ct Tryd.prog 20 [.slice (some ⟨gI, 0, none⟩) N cI, nv i, .slice (some ⟨bst, 0, none⟩) n cst] ((gI, blk (bys B ++ rI) 5) :: (2, blk ps T) :: (bst, blk (sts.flatten ++ rst) 53) :: X) (fun v q => v = .tuple #[.slice none 0 0, .slice none 0 0, .bool false] ∧ q = (gI, blk (bys B ++ rI) 5) :: (2, blk ps T) :: (bst, blk (sts.flatten ++ rst) 53) :: X) := by
 refine Ct_of Tryd.func20 rfl Tryd.ntmps20 rfl ?_
 intro E F
 simp only [numL, List.nil_append, List.cons_append]
 refine CW_sr ?_
 refine RW_a ?_
 refine RW_a ?_
 refine RW_a ?_
 refine RW_lv [0,1,2] ?_
 refine CW_sr ?_
 refine RW_m ?_
 refine RW_fx rfl rfl rfl (Fx_call ok_31 (vs := [.slice (some ⟨gI, 0, none⟩) N cI]) rfl (Pick.cons (.here _ _) (Pick.cons (.here _ _) (pick_mid X [_] F))) hop) ?_
 rintro _ _ ⟨_, ⟨x, y, c, hq1, hq2, rfl, rfl⟩, rfl⟩
 simp only [List.cons_append, List.nil_append]
 refine RW_m ?_
 refine RW_l (Yl_extract (v := x) rfl rfl) ?_
 refine RW_l (Yl_extract (v := y) rfl rfl) ?_
 refine RW_l (Yl_extract (v := nv c) rfl rfl) ?_
 refine RW_a ?_
 refine RW_a ?_
 refine RW_a ?_
 refine RW_lv [1,2,9,10,11] ?_
 refine CW_seq ?_
 refine CW_sr ?_
 refine RW_m ?_
 refine RW_l (Yl_neqB true rfl rfl (decide_eq_true om_)) ?_
 refine RW_m ?_
 refine RW_skip rfl rfl rfl ?_
 refine RW_skip rfl rfl rfl ?_
 refine RW_l (Yl_pick_t rfl rfl) ?_
 refine RW_m ?_
 refine RW_skip rfl rfl rfl ?_
 refine RW_skip rfl rfl rfl ?_
 refine RW_skip rfl rfl rfl ?_
 refine RW_skip rfl rfl rfl ?_
 refine RW_skip rfl rfl rfl ?_
 refine RW_skip rfl rfl rfl ?_
 refine RW_skip rfl rfl rfl ?_
 refine RW_l (Yl_pick_t rfl rfl) ?_
 refine RW_lv [1,2,9,10,37] ?_
 refine CW_true rfl ?_
 refine CW_sr ?_
 refine RW_a ?_
 refine RW_a ?_
 refine RW_a ?_
 refine RW_lv [6,7,8] ?_
 refine CW_ret ?_
 refine QW_ret_then ?_
 refine QW_heap (p_z _ _ _ _ _) ?_
 exact QW_ret3 rfl rfl rfl rfl ((gI, blk (bys B ++ rI) 5) :: (2, blk ps T) :: (bst, blk (sts.flatten ++ rst) 53) :: X) ⟨rfl, rfl⟩ (Prm.nil _)

structure Src.Try (S : Src) (ft : Nat → Prop) : Prop where
  sel : (S.mini = true ∧ S.size < 4096 ∧ S.u = 64) ∨ (S.mini = false ∧ 4096 ≤ S.size ∧ S.u = S.ss)
  rd1 : S.rd[1]? = some (uv S.ss)
  ss2 : 512 ≤ S.ss ∧ S.ss ≤ 4096
  sz : S.size ≤ 1000000
  cs1 : ∀ j, j * S.u < S.size → snx S.cs j ≤ 1000000
  of1 : ∀ j, j * S.u < S.size → S.of_ j ≤ 100000000
  nx : ∀ j, j * S.u < S.size → ft j → Ct Tryd.prog 60 [pv S.br, uv (snx S.cs j), .bool S.mini] (S.rb :: S.G) (fun v q => v = .tuple #[uv (snx S.cs (j + 1)), .nilIface] ∧ q = S.rb :: S.G)
  bad : ∀ j, j * S.u < S.size → ¬ ft j → Ct Tryd.prog 60 [pv S.br, uv (snx S.cs j), .bool S.mini] (S.rb :: S.G) (fun v q => (∃ (ty : Nat) (m : List UInt8) (x : Int), ty ≤ 10 ∧ v = .tuple #[uv 0, .iface 123 (.agg #[nv ty, .string (bar m), .int .i64 x])]) ∧ q = S.rb :: S.G)
  off : ∀ j, j * S.u < S.size → Ct Tryd.prog 62 [pv S.br, uv (snx S.cs j), .bool S.mini] (S.rb :: S.G) (fun v q => v = .tuple #[nv (S.of_ j), .nilIface] ∧ q = S.rb :: S.G)
def Src.Bad (S : Src) (ft : Nat → Prop) (N : Nat) : Prop := (∃ j, j * S.u < S.size ∧ ¬ ft j) ∨ ∃ i, i < S.size ∧ N ≤ S.ad i
theorem Src.Try.u1 {S : Src} {ft : Nat → Prop} (h : S.Try ft) : 64 ≤ S.u ∧ S.u ≤ 4096 := by
  have h1 := h.ss2
  rcases h.sel with ⟨_, _, e⟩ | ⟨_, _, e⟩ <;> omega
theorem Src.Try.piece {S : Src} {ft : Nat → Prop} (h : S.Try ft) {q k r l e : Nat} {L : List (Nat × Nat)} (hr : Run S.ad q L e) (he : k * S.u + r = e) (h0 : 0 < l) (hl : r + l ≤ S.u) : Run S.ad q (L ++ [(S.of_ k + r, l)]) (e + l) :=
  Run.snoc hr h0 (fun j hj => by subst he; exact Src.ad_part om_)

end Go.Proofs.YtgoddcicbpjknaaDoor
