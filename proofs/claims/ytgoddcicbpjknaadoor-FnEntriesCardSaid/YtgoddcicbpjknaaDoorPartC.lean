/- What the card leans on: walks of the program's functions, and plain facts on files (part 3). -/
import Derived.Test.YtgoddcicbpjknaaDoorPartB
import Derived.OwnWalk
set_option maxRecDepth 20000
set_option maxHeartbeats 4000000

namespace Go.Proofs.YtgoddcicbpjknaaDoor
open Go
open Cfb

structure FileIn (ps : List Value) (B : List UInt8) (N ss ver sh nd nf dl ml nm num_ : Nat) (sns : List Nat) (es : List En) (tn : List Tn) (mi : Option (List Nat × List Nat)) : Prop where
  hd : HdOk ((B.drop 0).take 512) ver sh nd nf dl ml nm
  hsh : sh = 9 ∨ sh = 12
  hss : ss = 2 ^ sh
  ss2 : 512 ≤ ss ∧ ss ≤ 4096
  m1 : ss / 4 * nm ≤ 1000000
  m2 : nm ≤ nf * (ss / 64)
  m3 : nf * (ss / 64) ≤ 1000000
  ch : ChOk B N ss (hcF ((B.drop 0).take 512) 109) sns
  K : 1 ≤ sns.length
  hdl : dl = snx sns 0
  ver4 : ver ≤ 4
  nd4 : nd ≤ 64000
  num : num_ = ss / 128
  len : es.length = sns.length * num_
  len2 : es.length ≤ 100000
  ent : ∀ j, j < sns.length → ∀ i, i < num_ → EnOk ps ver ((B.drop ((snx sns j + 1) * ss)).take ss) (i * 128) (es.getD (j * num_ + i) default)
  mini : ∃ st0 e0, es[0]? = some e0 ∧ e0.dc[60]? = some (uv st0) ∧ MiniIn B N ss (hcF ((B.drop 0).take 512) 109) st0 ml nm mi
  link : LinkOk tn es
  hB : B.length = N
  hN : N ≤ 1000000000
  hN5 : 512 ≤ N
structure Rdr where
  br : Nat
  bh : Nat
  bhf : Nat
  bb : Nat
  bs : Nat
  bB : Nat
  ss : Nat
  g : Nat
  cap : Nat
  N : Nat
  cN : Nat
  bo : Nat
  capo : Nat
  B : List UInt8
  rB : List Value
  hc : List Value
  lb : List Value
  rn : List Value
  ps : List Value
  ro : List Value
  T : TypeId
  m1 : Value
  m2 : Value
  wa : Value
  X : Heap
  fs : List Fil
  pth : List (Nat × List (List UInt8))
  bfs : List Nat
  out : List Nat
@[reducible] def Rdr.cells (R : Rdr) : List Value := rdF R.bs R.ss (.slice (some ⟨R.bb, 0, none⟩) R.ss R.ss) (pv R.bh) (.slice (some ⟨R.bo, 0, none⟩) R.out.length R.capo) (.slice (some ⟨R.g, 0, none⟩) R.fs.length R.cap) R.wa
@[reducible] def Rdr.hcells (R : Rdr) : List Value := [pv R.bhf, .slice (some ⟨R.bhf, 45, none⟩) 109 109, R.m1, R.m2]
def Rdr.H (R : Rdr) : Heap := (R.br, blk R.cells 89) :: (R.bh, blk R.hcells 137) :: (R.bhf, blk R.hc 142) :: (R.bb, blk R.lb 5) :: (R.bs, blk [.slice (some ⟨R.bB, 0, none⟩) R.N R.cN] 103) :: (R.bB, blk (bys R.B ++ R.rB) 5) :: (2, blk R.ps R.T) ::
  (R.g, blk (R.bfs.map pv ++ R.rn) 90) :: (R.bo, blk (outs R.bfs R.out ++ R.ro) 90) :: (filsH R.br R.fs ++ (psH R.pth ++ R.X))
structure Rdr.Ok (R : Rdr) (es : List En) (S : TS) (mi : Option (List Nat × List Nat)) (er : Value) : Prop where
  tok : TOk R.bfs es S R.fs R.pth er
  out : R.out = S.out
  lo : (outs R.bfs R.out ++ R.ro).length = R.capo
  ln : (R.bfs.map pv ++ R.rn).length = R.cap
  lb : R.lb.length = R.ss
  mini : MiniOk mi R.m1 R.m2 R.X
  hc : R.hc = hcF ((R.B.drop 0).take 512) 109
  wa : R.wa = .nilIface
abbrev S0 : TS := ⟨0, false, [], fun _ => []⟩
abbrev STv (tn : List Tn) : TS := trav tn (tn.length + 1) 0 [] S0
theorem Fx_makeU8' {P : Program} {E : World} {L : Fra} {H : Heap} {dst : Option Tmp} {ty : TypeId} {pos : String} {aft : Array Edge} {gd : Option (Nat × Bool)} {x y : Operand} (N : Nat) (hP : P = Tryd.prog) (hx : ev L x = some (.int .u32 (N : Int))) (hy : ev L y = some (.int .u32 (N : Int))) (hN : N ≤ 1000000000) :
    Fx P E L H ⟨dst, .makeSlice 23 x y, ty, pos, aft, gd⟩ (fun v H'' => ∃ b, v = .slice (some ⟨b, 0, none⟩) N N ∧ H'' = (b, blk (List.replicate N (.int .u8 0)) 5) :: H) := by
  subst hP
  have := Fx_makeSlice (E := E) (H := H) (dst := dst) (ty := ty) (pos := pos) (aft := aft) (gd := gd) (z0 := .int .u8 0) (m := 1) hx hy sl_23 by_5 ze_5 rfl rfl om_ om_ om_ om_
  simp only [Int.toNat_natCast, Nat.mul_one] at this
  exact this

theorem hpm (a b d c f k l m n : Nat × Obj) (P X F : Heap) : (a :: b :: d :: (P ++ (c :: f :: k :: l :: m :: n :: (X ++ F)))).Perm (a :: c :: f :: k :: l :: m :: n :: b :: d :: (P ++ (X ++ F))) := by
 have h1 : (b :: d :: (P ++ (c :: f :: k :: l :: m :: n :: (X ++ F)))).Perm ([c, f, k, l, m, n] ++ (b :: d :: (P ++ (X ++ F)))) := by
  have h2 : ((b :: d :: P) ++ ([c, f, k, l, m, n] ++ (X ++ F))).Perm ([c, f, k, l, m, n] ++ ((b :: d :: P) ++ (X ++ F))) := by
   have := List.Perm.append_right (X ++ F) (List.perm_append_comm (l₁ := b :: d :: P) (l₂ := [c, f, k, l, m, n]))
   rw [List.append_assoc, List.append_assoc] at this
   exact this
  exact h2
 exact h1.cons a
theorem New_ct (bs bB N cN ss ver sh nd nf dl ml nm num_ : Nat) (B : List UInt8) (rB ps : List Value) (T : TypeId) (sns : List Nat) (es : List En) (tn : List Tn) (mi : Option (List Nat × List Nat)) (h : FileIn ps B N ss ver sh nd nf dl ml nm num_ sns es tn mi) (hcN : N ≤ cN) :
  Ct Tryd.prog 39 [.iface 79 (pv bs)] [(bs, blk [.slice (some ⟨bB, 0, none⟩) N cN] 103), (bB, blk (bys B ++ rB) 5), (2, blk ps T)] (fun v q => ∃ (R : Rdr) (er : Value), R.Ok es (STv tn) mi er ∧ R.B = B ∧ R.N = N ∧ R.cN = cN ∧ R.ss = ss ∧ R.bs = bs ∧ R.bB = bB ∧ R.rB = rB ∧ R.ps = ps ∧ R.T = T ∧ v = .tuple #[if (STv tn).bad = true then .pointer none else pv R.br, er] ∧ q = R.H) := by
 obtain ⟨st0, e0, he0, hst0, hMi⟩ := h.mini
 refine Ct_of Tryd.func39 rfl Tryd.ntmps39 rfl ?_
 intro E F
 simp only [numL, List.nil_append, List.cons_append]
 refine CW_sr ?_
 refine RW_a ?_
 refine RW_a ?_
 refine RW_lv [0] ?_
 refine CW_sr ?_
 refine RW_m ?_
 refine RW_l (Yl_build (cs := rdF bs 0 (.slice none 0 0) (.pointer none) (.slice none 0 0) (.slice none 0 0) .nilIface) pl_89 ze_89 rfl rfl) ?_
 refine RW_fx rfl rfl rfl (Fx_box (zs := rdF bs 0 (.slice none 0 0) (.pointer none) (.slice none 0 0) (.slice none 0 0) .nilIface) rfl rfl) ?_
 rintro _ _ ⟨br, rfl, rfl⟩
 refine RW_a ?_
 refine RW_lv [0,4] ?_
 refine CW_seq ?_
 refine CW_sr ?_
 refine RW_m ?_
 refine RW_l (Yl_assertLacks rfl lk_119_79 ze_119) ?_
 refine RW_m ?_
 refine RW_l (Yl_extract rfl rfl) ?_
 refine RW_l (Yl_extract rfl rfl) ?_
 refine RW_a ?_
 refine RW_a ?_
 refine RW_lv [4,6] ?_
 refine CW_sr ?_
 refine RW_m ?_
 refine RW_lv [4,20] ?_
 refine CW_cond rfl (fun hc1 => ?_) (fun hc1 => ?_)
 ·skip
  exact Bool.noConfusion hc1
 skip
 refine CW_region ?_
 refine RW_m ?_
 refine RW_fx rfl rfl rfl (Fx_makeU8 512 rfl rfl om_) ?_
 rintro _ _ ⟨bb0, rfl, rfl⟩
 refine RW_n ?_
 refine RW_f fo_89_2 ?_
 refine RW_fx0 rfl rfl (Fx_store (v := .slice (some ⟨bb0, 0, none⟩) 512 512) rfl rfl sz_23 rfl rep_ (by simp [rdF])) ?_
 rintro _ _ rfl
 refine RW_lv [4] ?_
 refine CW_seq ?_
 refine CW_sr ?_
 refine RW_m ?_
 refine RW_fx rfl rfl rfl (Fx_call ok_46 (vs := [pv br]) rfl pk_ (setHeader_ct br bb0 bs bB N cN ver sh nd nf dl ml nm ss B rB (bys (List.replicate 512 0)) (.slice none 0 0) (.slice none 0 0) .nilIface h.hd h.hsh h.hss h.ss2 h.m1 h.m2 h.m3 h.hB hcN h.hN h.hN5 (by simp))) ?_
 rintro _ _ ⟨_, ⟨rfl, bh, bhf, rfl⟩, rfl⟩
 simp only [List.cons_append, List.nil_append]
 refine RW_a ?_
 refine RW_lv [4,7] ?_
 refine CW_sr ?_
 refine RW_m ?_
 refine RW_l (Yl_ifNeNil rfl if_105) ?_
 refine RW_lv [4,7,31] ?_
 refine CW_cond rfl (fun hc2 => ?_) (fun hc2 => ?_)
 ·skip
  exact absurd hc2 (by decide)
 skip
 refine (CW_skip (QW_lv [4] ?_))
 refine CW_cut (σ := Nat × List Value) (fun _ => [(4, pv br)]) (fun q => (br, blk (rdF bs ss (.slice (some ⟨q.1, 0, none⟩) ss ss) (pv bh) (.slice none 0 0) (.slice none 0 0) .nilIface) 89) :: (bh, blk [pv bhf, .slice none 0 0, .slice none 0 0, .slice none 0 0] 137) :: (bhf, blk (hcF ((B.drop 0).take 512) 109) 142) :: (q.1, blk q.2 5) :: (bs, blk [.slice (some ⟨bB, 0, none⟩) N cN] 103) :: (bB, blk (bys B ++ rB) 5) :: (2, blk ps T) :: F) (fun q => q.2.length = ss) ?_ ?_
 ·skip
  refine CW_seq ?_
  have hs5 := h.ss2
  refine CW_draw [] _ mixed (Sub.refl _) ?_
  refine RD_m 0 ?_
  refine RD_n 1 ?_
  refine RD_f 2 fo_89_0 ?_
  refine RD_h (i := 3) #[true, true, true, false, false, false, false, false, false, false, false, false, false, false, false, false, false, false] rfl rfl rfl rfl kr_ (fun _ _ _ h => h) (Yh_ld (v := .bool false) sc_4) ?_
  refine RD_l 4 rfl (Yl_not rfl) ?_
  refine RD_m 5 ?_
  refine RD_bool 38 rfl (fun hg3 => ?_) (fun hg3 => ?_)
  ·skip
   refine RD_m 6 ?_
   refine RD_n 7 ?_
   refine RD_f 8 fo_89_1 ?_
   refine RD_m 11 ?_
   refine RD_n 12 ?_
   refine RD_f 13 fo_89_2 ?_
   refine RD_h (i := 9) #[true, true, true, true, true, true, true, true, true, false, false, true, true, true, true, true, false, false] rfl rfl rfl rfl kr_ (fun _ _ _ h => h) (Yh_ld (v := uv ss) sc_67) ?_
   refine RD_l 10 rfl (Yl_conv (c := (ss : Int)) rfl in_67 in_3 (wi64 om_ om_)) ?_
   refine RD_h (i := 14) #[true, true, true, true, true, true, true, true, true, true, true, true, true, true, false, false, false, false] rfl rfl rfl rfl kr_ (fun _ _ _ h => h) (Yh_ld (v := .slice (some ⟨bb0, 0, none⟩) 512 512) sc_23) ?_
   refine RD_l 15 rfl (Yl_len rfl sl_23) ?_
   refine RD_l 16 rfl (Yl_gtr rfl rfl) ?_
   refine RD_l 17 rfl (Yl_pick_t rfl rfl) ?_
   refine (RD_done kr_ (QW_lv [4,50] ?_))
   refine CW_cd rfl (fun hc4 => ?_) (fun hc4 => ?_)
   ·refine CW_region ?_
    refine RW_m ?_
    refine RW_m ?_
    refine RW_n ?_
    refine RW_f fo_89_1 ?_
    refine RW_h (Yh_ld (v := uv ss) sc_67) ?_
    refine RW_fx rfl rfl rfl (Fx_makeU8' ss rfl rfl rfl om_) ?_
    rintro _ _ ⟨bb, rfl, rfl⟩
    refine RW_n ?_
    refine RW_f fo_89_2 ?_
    refine RW_fx0 rfl rfl (Fx_store (v := .slice (some ⟨bb, 0, none⟩) ss ss) rfl rfl sz_23 rfl rep_ (by simp [rdF])) ?_
    rintro _ _ rfl
    refine RW_nil ?_
    first
     | (refine QW_dropB (e := (bb0, _)) (by repeat (first | exact Rem.here _ _ | apply Rem.there)) ?_; exact QW_cut (bb, List.replicate ss (.int .u8 0)) (by simp) (by repeat (first | exact Prm.nil _ | exact Rem.here _ _ | apply Rem.there | apply Prm.cons)) (.cons rfl .nil))
     | (have e512 : ss = 512 := (by have := h.ss2; omega); exact QW_cut (bb0, bys ((B.drop 0).take 512)) (by rw [e512, List.length_map]; exact len_drop_take B 0 512 (by have := h.hB; have := h.hN5; omega)) (by rw [e512]; exact (by repeat (first | exact Prm.nil _ | exact Rem.here _ _ | apply Rem.there | apply Prm.cons))) (.cons rfl .nil))
   refine CW_skip ?_
   first
    | (refine QW_dropB (e := (bb0, _)) (by repeat (first | exact Rem.here _ _ | apply Rem.there)) ?_; exact QW_cut (bb, List.replicate ss (.int .u8 0)) (by simp) (by repeat (first | exact Prm.nil _ | exact Rem.here _ _ | apply Rem.there | apply Prm.cons)) (.cons rfl .nil))
    | (have e512 : ss = 512 := (by have := h.ss2; omega); exact QW_cut (bb0, bys ((B.drop 0).take 512)) (by rw [e512, List.length_map]; exact len_drop_take B 0 512 (by have := h.hB; have := h.hN5; omega)) (by rw [e512]; exact (by repeat (first | exact Prm.nil _ | exact Rem.here _ _ | apply Rem.there | apply Prm.cons))) (.cons rfl .nil))
  skip
  exact Bool.noConfusion hg3
 rintro ⟨bb, lb0⟩ hlb0
 simp only at hlb0 ⊢
 refine CW_seq ?_
 refine CW_sr ?_
 refine RW_m ?_
 refine RW_fx rfl rfl rfl (Fx_call ok_47 (vs := [pv br]) rfl pk_ (setDifats_ct br bh bhf (rdF bs ss (.slice (some ⟨bb, 0, none⟩) ss ss) (pv bh) (.slice none 0 0) (.slice none 0 0) .nilIface) (hcF ((B.drop 0).take 512) 109) (.slice none 0 0) (.slice none 0 0) (.slice none 0 0) rfl h.hd.ndif)) ?_
 rintro _ _ ⟨_, ⟨rfl, rfl⟩, rfl⟩
 simp only [List.cons_append, List.nil_append]
 refine RW_a ?_
 refine RW_lv [4,8] ?_
 refine CW_sr ?_
 refine RW_m ?_
 refine RW_l (Yl_ifNeNil rfl if_105) ?_
 refine RW_lv [4,8,62] ?_
 refine CW_cond rfl (fun hc5 => ?_) (fun hc5 => ?_)
 ·skip
  exact absurd hc5 (by decide)
 skip
 refine (CW_skip (QW_lv [4] ?_))
 refine CW_seq ?_
 refine CW_sr ?_
 refine RW_m ?_
 refine RW_fx rfl rfl rfl (Fx_call ok_48 (vs := [pv br]) rfl pk_ (setDirEntries_ct br bh bhf bb bs bB ss ver nd num_ N cN B rB (hcF ((B.drop 0).take 512) 109) ps lb0 T sns es (.slice none 0 0) .nilIface (.slice none 0 0) (.slice none 0 0) h.ch h.K h.hd.ver h.hd.nd (by rw [← h.hdl]; exact h.hd.dl) h.ver4 h.nd4 h.ss2 h.num h.len h.len2 h.ent h.hB hcN h.hN hlb0)) ?_
 rintro _ _ ⟨_, ⟨rfl, g, cap, rn, lb, fs, hfs, hln, hlb, rfl⟩, rfl⟩
 simp only [List.cons_append, List.nil_append]
 refine RW_a ?_
 refine RW_lv [4,9] ?_
 refine CW_sr ?_
 refine RW_m ?_
 refine RW_l (Yl_ifNeNil rfl if_105) ?_
 refine RW_lv [4,9,67] ?_
 refine CW_cond rfl (fun hc6 => ?_) (fun hc6 => ?_)
 ·skip
  exact absurd hc6 (by decide)
 skip
 refine (CW_skip (QW_lv [4] ?_))
 refine CW_seq ?_
 refine CW_seq ?_
 have hf0 : ∃ f0, fs[0]? = some f0 ∧ f0.en.dc[60]? = some (uv st0) := by
  rw [← hfs, List.getElem?_map] at he0
  cases hq : fs[0]? with
  | none => rw [hq] at he0; cases he0
  | some f0 => rw [hq] at he0; cases he0; exact ⟨f0, rfl, hst0⟩
 have hmn := setMini_any (g := g) (bB := bB) mi br bh bhf bb bs ss N cN B rB (hcF ((B.drop 0).take 512) 109) lb ps T (.slice (some ⟨bb, 0, none⟩) ss ss) (.slice none 0 0) .nilIface es.length cap rn fs st0 ml nm hf0 (by rw [h.len]; exact Nat.mul_pos h.K (by have := h.num; have := h.ss2; omega)) hMi h.hd.ml h.hd.nm h.ss2 h.hB hcN h.hN
 refine CW_region ?_
 refine RW_m ?_
 refine RW_fx rfl rfl rfl (Fx_call ok_49 (vs := [pv br]) rfl (by exact (Pick.cons rem_ (Pick.cons rem_ (Pick.cons rem_ (Pick.cons rem_ (Pick.cons rem_ (Pick.cons rem_ (Pick.cons rem_ (Pick.cons rem_ (pick_app _ F)))))))))) hmn) ?_
 rintro _ _ ⟨_, ⟨rfl, m1, m2, X, hmi, rfl⟩, rfl⟩
 simp only [List.cons_append, List.nil_append, List.append_assoc]
 refine RW_a ?_
 refine RW_lv [4,10] ?_
 refine CW_sr ?_
 refine RW_m ?_
 refine RW_l (Yl_ifNeNil rfl if_105) ?_
 refine RW_lv [4,10,72] ?_
 refine CW_cond rfl (fun hc7 => ?_) (fun hc7 => ?_)
 ·skip
  exact absurd hc7 (by decide)
 skip
 refine (CW_skip (QW_lv [4] ?_))
 refine CW_seq ?_
 refine CW_seq ?_
 have hle : tn.length = es.length := h.link.len.symm
 have hlf : fs.length = tn.length := by rw [hle, ← hfs, List.length_map]
 have htr := traverse_ct br bs ss g es.length cap (.slice (some ⟨bb, 0, none⟩) ss ss) (pv bh) (.slice none 0 0) .nilIface rn fs tn hlf hle.symm (by rw [hle]; exact h.len2) (by rw [hfs]; exact h.link)
 rw [show (trav tn (tn.length + 1) 0 [] ⟨0, false, [], fun _ => []⟩ : TS) = STv tn from rfl] at htr
 generalize STv tn = S at htr ⊢
 refine CW_region ?_
 refine RW_m ?_
 refine RW_fx rfl rfl rfl (Fx_call ok_50 (vs := [pv br]) rfl (by exact (Pick.cons rem_ (Pick.cons rem_ (pick_mid (filsH br fs) [_, _, _, _, _, _] (X ++ F))))) htr) ?_
 rintro _ _ ⟨_, ⟨fs', pth, bo, capo, ro, er, rfl, hT, hlo, rfl⟩, rfl⟩
 simp only [List.cons_append, List.nil_append]
 refine RW_a ?_
 refine RW_lv [4,11] ?_
 refine CW_sr ?_
 refine RW_m ?_
 refine RW_y rfl rfl rfl (Yl.h (v := .bool S.bad) (by rcases hT.err with ⟨hb, rfl⟩ | ⟨hb, m, x, rfl⟩ <;> rw [hb]; exact Yl_ifNeNil rfl if_105; exact Yl_ifNe rfl if_105)) ?_
 refine RW_lv [4,11,77] ?_
 refine CW_cond rfl (fun hc8 => ?_) (fun hc8 => ?_)
 ·skip
  have hvv : (.tuple #[.pointer none, er] : Value) = .tuple #[if S.bad = true then .pointer none else pv br, er] := by rw [if_pos hc8]
  refine CW_sr ?_
  refine RW_m ?_
  refine RW_a ?_
  refine RW_a ?_
  refine RW_lv [2,3] ?_
  refine CW_ret ?_
  refine QW_ret_then ?_
  have hT2 : TOk (fs.map Fil.bf) es S fs' pth er := (by rw [hfs] at hT; exact hT)
  have hmm : (fs.map Fil.bf).map pv = ptrs fs := (by rw [List.map_map]; rfl)
  have hln2 : ((fs.map Fil.bf).map pv ++ rn).length = cap := (by rw [hmm]; exact hln)
  have hok : Rdr.Ok ({ br := br, bh := bh, bhf := bhf, bb := bb, bs := bs, bB := bB, ss := ss, g := g, cap := cap, N := N, cN := cN, bo := bo, capo := capo, B := B, rB := rB, hc := (hcF ((B.drop 0).take 512) 109), lb := lb, rn := rn, ps := ps, ro := ro, T := T, m1 := m1, m2 := m2, wa := .nilIface, X := X, fs := fs', pth := pth, bfs := fs.map Fil.bf, out := S.out }) es S mi er := ⟨hT2, rfl, hlo, hln2, hlb, hmi, by dsimp only, rfl⟩
  have hfl : fs'.length = es.length := by have := congrArg List.length hT.rest; simp only [List.length_map] at this; rw [this, ← hfs, List.length_map]
  refine QW_heap (hpm _ _ _ _ _ _ _ _ _ _ _ _) ?_
  exact QW_ret2 rfl rfl rfl (Rdr.H ({ br := br, bh := bh, bhf := bhf, bb := bb, bs := bs, bB := bB, ss := ss, g := g, cap := cap, N := N, cN := cN, bo := bo, capo := capo, B := B, rB := rB, hc := (hcF ((B.drop 0).take 512) 109), lb := lb, rn := rn, ps := ps, ro := ro, T := T, m1 := m1, m2 := m2, wa := .nilIface, X := X, fs := fs', pth := pth, bfs := fs.map Fil.bf, out := S.out })) ⟨_, er, hok, rfl, rfl, rfl, rfl, rfl, rfl, rfl, rfl, rfl, hvv, rfl⟩ (by simp only [Rdr.H, Rdr.cells, Rdr.hcells, hfl, hmm, List.cons_append, List.append_assoc]; exact Prm.nil _)
 skip
 have hbad := hc8
 have her : er = .nilIface := by rcases hT.err with ⟨_, hh⟩ | ⟨hh, _⟩; exact hh; rw [hh] at hbad; cases hbad
 have hvv : (.tuple #[pv br, .nilIface] : Value) = .tuple #[if S.bad = true then .pointer none else pv br, er] := by rw [if_neg (by rw [hbad]; simp), her]
 refine (CW_skip (QW_lv [4] ?_))
 refine CW_sr ?_
 refine RW_m ?_
 refine RW_a ?_
 refine RW_a ?_
 refine RW_lv [2,3] ?_
 refine CW_ret ?_
 have hT2 : TOk (fs.map Fil.bf) es S fs' pth er := (by rw [hfs] at hT; exact hT)
 have hmm : (fs.map Fil.bf).map pv = ptrs fs := (by rw [List.map_map]; rfl)
 have hln2 : ((fs.map Fil.bf).map pv ++ rn).length = cap := (by rw [hmm]; exact hln)
 have hok : Rdr.Ok ({ br := br, bh := bh, bhf := bhf, bb := bb, bs := bs, bB := bB, ss := ss, g := g, cap := cap, N := N, cN := cN, bo := bo, capo := capo, B := B, rB := rB, hc := (hcF ((B.drop 0).take 512) 109), lb := lb, rn := rn, ps := ps, ro := ro, T := T, m1 := m1, m2 := m2, wa := .nilIface, X := X, fs := fs', pth := pth, bfs := fs.map Fil.bf, out := S.out }) es S mi er := ⟨hT2, rfl, hlo, hln2, hlb, hmi, by dsimp only, rfl⟩
 have hfl : fs'.length = es.length := by have := congrArg List.length hT.rest; simp only [List.length_map] at this; rw [this, ← hfs, List.length_map]
 refine QW_heap (hpm _ _ _ _ _ _ _ _ _ _ _ _) ?_
 exact QW_ret2 rfl rfl rfl (Rdr.H ({ br := br, bh := bh, bhf := bhf, bb := bb, bs := bs, bB := bB, ss := ss, g := g, cap := cap, N := N, cN := cN, bo := bo, capo := capo, B := B, rB := rB, hc := (hcF ((B.drop 0).take 512) 109), lb := lb, rn := rn, ps := ps, ro := ro, T := T, m1 := m1, m2 := m2, wa := .nilIface, X := X, fs := fs', pth := pth, bfs := fs.map Fil.bf, out := S.out })) ⟨_, er, hok, rfl, rfl, rfl, rfl, rfl, rfl, rfl, rfl, rfl, hvv, rfl⟩ (by simp only [Rdr.H, Rdr.cells, Rdr.hcells, hfl, hmm, List.cons_append, List.append_assoc]; exact Prm.nil _)

theorem Yh_loadAll {P : Program} {E : World} {L : Fra} {H : Heap} {dst : Option Tmp} {ty : TypeId} {pos : String} {aft : Array Edge} {gd : Option (Nat × Bool)} {x : Operand} {t T : TypeId} {b k : Nat} {l : List Value} {fz : Nat × Nat} (hx : ev L x = some (.pointer (some ⟨b, 0, none⟩))) (ht : agOf P t = some k)
  (hm : (b, Obj.cells l.toArray T fz) ∈ H) (hv : l.length = k) : Yh P E L H ⟨dst, .load t x, ty, pos, aft, gd⟩ (.agg l.toArray) := by
 have h := Yh_loadA (E := E) (dst := dst) (ty := ty) (pos := pos) (aft := aft) (gd := gd) hx ht hm om_
 rw [List.drop_zero, ← hv, List.take_length] at h
 exact h
theorem Typ_ct (t : Int) (s x : Value) : Ct Tryd.prog 51 [.agg [.int .i64 t, s, x].toArray] [] (fun v q => v = .int .i64 t ∧ q = []) := by
 refine Ct_of Tryd.func51 rfl Tryd.ntmps51 rfl ?_
 intro E F
 simp only [numL, List.nil_append, List.cons_append]
 refine CW_sr ?_
 refine RW_fx rfl rfl rfl (Fx_box (zs := [.int .i64 t, s, x]) rfl rfl) ?_
 rintro _ _ ⟨b1, rfl, rfl⟩
 refine RW_a ?_
 refine RW_lv [1] ?_
 refine CW_sr ?_
 refine RW_f fo_123_0 ?_
 refine RW_h (Yh_ld (v := .int .i64 t) sc_3) ?_
 refine RW_a ?_
 refine RW_lv [2] ?_
 refine CW_ret ?_
 refine QW_dropB (e := (b1, _)) rem_ ?_
 exact QW_ret1 rfl rfl [] ⟨rfl, rfl⟩ (Prm.nil _)
theorem code_err (t : Int) (s x : Value) (h0 : 0 ≤ t ∧ t ≤ 10) (hs : s.oneCell' = true) (hx : x.oneCell' = true) : Ct Tryd.prog 40 [.iface 123 (.agg [.int .i64 t, s, x].toArray)] [] (fun v q => v = .int .i64 (t + 1) ∧ q = []) := by
 refine Ct_of Tryd.func40 rfl Tryd.ntmps40 rfl ?_
 intro E F
 simp only [numL, List.nil_append, List.cons_append]
 refine CW_sr ?_
 refine RW_a ?_
 refine RW_lv [0] ?_
 refine CW_seq ?_
 refine CW_sr ?_
 refine RW_m ?_
 refine RW_l (Yl_ifEq rfl if_105) ?_
 refine RW_lv [0,6] ?_
 refine CW_cond rfl (fun hc1 => ?_) (fun hc1 => ?_)
 ·skip
  exact Bool.noConfusion hc1
 skip
 refine (CW_skip (QW_lv [0] ?_))
 refine CW_seq ?_
 refine CW_sr ?_
 refine RW_m ?_
 refine RW_l (Yl_assertIs rfl co_123) ?_
 refine RW_m ?_
 refine RW_l (Yl_extract rfl rfl) ?_
 refine RW_l (Yl_extract rfl rfl) ?_
 refine RW_fx rfl rfl rfl (Fx_alloc (zs := zs_123) ze_123 rfl) ?_
 rintro _ _ ⟨b3, rfl, rfl⟩
 refine RW_fx0 rfl rfl (Fx_storeA (b := b3) (off := 0) (l := zs_123) (T := 123) (cs := [.int .i64 t, s, x]) rfl rfl sz_123 (by intro u hu; simp only [List.mem_cons, List.not_mem_nil, or_false] at hu; rcases hu with hu | hu | hu <;> rw [hu] <;> first | rfl | assumption) rep_ (Nat.le_refl 3)) ?_
 rintro _ _ rfl
 refine RW_a ?_
 refine RW_lv [3,4] ?_
 refine CW_seq ?_
 rw [spl_full [.int .i64 t, s, x] zs_123 rfl]
 refine CW_region ?_
 refine RW_m ?_
 refine RW_lv [3,12] ?_
 refine CW_cond rfl (fun hc2 => ?_) (fun hc2 => ?_)
 ·skip
  refine CW_sr ?_
  refine RW_h (Yh_loadAll (b := b3) (k := 3) (T := 123) (fz := (0, 0)) (l := [.int .i64 t, s, x]) rfl ag_123 mem_ rfl) ?_
  have htyp := Typ_ct t s x
  refine RW_fx (R := fun v H'' => v = .int .i64 t ∧ H'' = (b3, blk [.int .i64 t, s, x] 123) :: F) rfl rfl rfl ?hfx ?_
  case hfx =>
   refine Fx_callQ (R := fun v => v = .int .i64 t) ok_51 (vs := [.agg [.int .i64 t, s, x].toArray]) ?_ (Pick.nil _) ?_
   ·exact rfl
   exact htyp
  rintro _ _ ⟨rfl, rfl⟩
  refine RW_l (Yl_add rfl rfl (wi64 om_ om_)) ?_
  refine RW_a ?_
  refine RW_lv [2] ?_
  refine CW_ret ?_
  refine QW_ret_then ?_
  refine QW_dropB (e := (b3, _)) rem_ ?_
  exact QW_ret1 rfl rfl [] ⟨rfl, rfl⟩ (Prm.nil _)
 skip
 exact Bool.noConfusion hc2
theorem code_any (er : Value) (c : Nat) (h : (er = .nilIface ∧ c = 0) ∨ (∃ (m : ByteArray) (x : Int), er = .iface 123 (.agg [.int .i64 4, .string m, .int .i64 x].toArray) ∧ c = 5)) : Ct Tryd.prog 40 [er] [] (fun v q => v = nv c ∧ q = []) := by
 rcases h with ⟨rfl, rfl⟩ | ⟨m, x, rfl, rfl⟩
 ·exact code_nil
 exact code_err 4 (.string m) (.int .i64 x) om_ rfl rfl

theorem QW_ret3 {P : Program} {E : World} {n : Nat} {L : Fra} {H : Heap} {fn : Func} {t u s : Tmp} {F : Heap} {x y z : Value} {R : Value → Heap → Prop} (hr : fn.results = #[.tmp t, .tmp u, .tmp s]) (hx : look t L = some x) (hy : look u L = some y) (hz : look s L = some z) (post : Heap) (hR : R (.tuple #[x, y, z]) post) (hH : Prm H (post ++ F)) :
    QW E n L H .ret (bodyPost P fn (Done E F R)) := by
  intro a w hf hh
  refine ⟨hf.defers, _, ?_, _, post, rfl, hR, hh.perm hH.perm⟩
  rw [results_tmp3 hr]
  simp [hf.mem t x hx, hf.mem u y hy, hf.mem s z hz]

theorem hc5 {b : Bool} {er : Value} (h : (b = false ∧ er = .nilIface) ∨ (b = true ∧ ∃ (m : ByteArray) (x : Int), er = .iface 123 (.agg [.int .i64 4, .string m, .int .i64 x].toArray))) :
  (er = .nilIface ∧ (if b = true then 5 else 0) = 0) ∨ (∃ (m : ByteArray) (x : Int), er = .iface 123 (.agg [.int .i64 4, .string m, .int .i64 x].toArray) ∧ (if b = true then 5 else 0) = 5) := by
 rcases h with ⟨h1, h2⟩ | ⟨h1, m, x, h2⟩
 ·left; refine ⟨h2, ?_⟩; rw [h1]; simp
 right; refine ⟨m, x, h2, ?_⟩; rw [h1]; simp
theorem opened_ct (gI cI : Nat) (rI : List Value) (N ss ver sh nd nf dl ml nm num_ : Nat) (B : List UInt8) (ps : List Value) (T : TypeId) (sns : List Nat) (es : List En) (tn : List Tn) (mi : Option (List Nat × List Nat)) (h : FileIn ps B N ss ver sh nd nf dl ml nm num_ sns es tn mi) (hN1 : N ≤ 131072) (hT0 : 2 ≠ gI) :
  Ct Tryd.prog 31 [.slice (some ⟨gI, 0, none⟩) N cI] [(gI, blk (bys B ++ rI) 5), (2, blk ps T)] (fun v q => ∃ (R : Rdr) (er : Value), R.Ok es (STv tn) mi er ∧ R.B = B ∧ R.N = N ∧ R.ss = ss ∧ R.ps = ps ∧ R.T = T ∧ N ≤ R.cN ∧ (bys R.B ++ R.rB).length = R.cN ∧ v = .tuple #[if (STv tn).bad = true then .pointer none else pv R.br, pv R.bs, nv (if (STv tn).bad = true then 5 else 0)] ∧ q = (gI, blk (bys B ++ rI) 5) :: R.H) := by
 have hN5 := h.hN5
 have hBl := h.hB
 refine Ct_of Tryd.func31 rfl Tryd.ntmps31 rfl ?_
 intro E F
 simp only [numL, List.nil_append, List.cons_append]
 refine CW_sr ?_
 refine RW_a ?_
 refine RW_a ?_
 refine RW_a ?_
 refine RW_lv [0] ?_
 refine CW_seq ?_
 refine CW_sr ?_
 refine RW_m ?_
 refine RW_l (Yl_len rfl sl_23) ?_
 refine RW_l (Yl_gtr rfl rfl) ?_
 refine RW_lv [0,10] ?_
 refine CW_cd rfl (fun hc1 => ?_) (fun hc1 => ?_)
 ·exfalso; omega
 refine (CW_skip (QW_lv [0] ?_))
 refine CW_sr ?_
 refine RW_m ?_
 refine RW_fx rfl rfl rfl (Fx_append_nil (z0 := .int .u8 0) (q := 1) rfl rfl sl_23 by_5 ze_5 rfl rfl mem_ (by simp; omega) om_ om_ om_) ?_
 rintro _ _ ⟨bB, lB, cN, rfl, hcN, hlB, htk, rfl⟩
 obtain ⟨rB, hlB2⟩ : ∃ rB, lB = bys B ++ rB := by
  refine ⟨lB.drop N, ?_⟩
  have e1 : lB.take N = bys B := by
   have e2 : N = (bys B).length := by rw [List.length_map]; exact h.hB.symm
   rw [Nat.mul_one] at htk
   rw [htk, List.drop_zero, e2, List.take_left]
  rw [← e1, List.take_append_drop]
 rw [hlB2]
 refine RW_l (Yl_build (cs := [.slice (some ⟨bB, 0, none⟩) N cN]) pl_103 ze_103 rfl rfl) ?_
 refine RW_fx rfl rfl rfl (Fx_box (zs := [.slice (some ⟨bB, 0, none⟩) N cN]) rfl rfl) ?_
 rintro _ _ ⟨bs, rfl, rfl⟩
 refine RW_a ?_
 refine RW_lv [5] ?_
 refine CW_sr ?_
 refine RW_m ?_
 refine RW_l (Yl_iface rfl co_79) ?_
 refine RW_fx rfl rfl rfl (Fx_call ok_39 (vs := [.iface 79 (pv bs)]) rfl pk_ (New_ct bs bB N cN ss ver sh nd nf dl ml nm num_ B rB ps T sns es tn mi h hcN)) ?_
 rintro _ _ ⟨_, ⟨R, er, hok, hRB, hRN, hRc, hRs, hRbs, hRbB, hRr, hRp, hRT, rfl, rfl⟩, rfl⟩
 refine RW_m ?_
 refine RW_l (Yl_extract rfl rfl) ?_
 refine RW_l (Yl_extract rfl rfl) ?_
 refine RW_a ?_
 refine RW_a ?_
 refine RW_lv [5,6,7] ?_
 refine CW_seq ?_
 generalize STv tn = S at hok ⊢
 have hcode : Ct Tryd.prog 40 [er] [] (fun v q => v = nv (if S.bad = true then 5 else 0) ∧ q = []) := code_any er _ (hc5 hok.tok.err)
 have hprm : Prm (R.H ++ ((gI, blk (bys B ++ rI) 5) :: F)) ((gI, blk (bys B ++ rI) 5) :: R.H ++ F) := Prm.cons (rem_mid _ _ _) (Prm.nil _)
 refine CW_region ?_
 refine RW_m ?_
 refine RW_m ?_
 refine RW_m ?_
 refine RW_fx rfl rfl rfl (Fx_callQ ok_40 (vs := [er]) (R := fun v => v = nv (if S.bad = true then 5 else 0)) rfl (Pick.nil _) hcode) ?_
 rintro _ _ ⟨rfl, rfl⟩
 refine RW_a ?_
 refine RW_a ?_
 refine RW_a ?_
 refine RW_lv [2,3,4] ?_
 refine CW_ret ?_
 exact QW_ret3 rfl rfl rfl rfl ((gI, blk (bys B ++ rI) 5) :: R.H) ⟨R, er, hok, hRB, hRN, hRs, hRp, hRT, by rw [hRc]; exact hcN, by rw [hRB, hRr, ← hlB2, hRc, hlB, Nat.mul_one], by rw [hRbs], rfl⟩ hprm

@[reducible] def osl (o : Option Nat) (n cap : Nat) : Value := match o with | none => .slice none 0 0 | some g => .slice (some ⟨g, 0, none⟩) n cap
@[reducible] def oH (o : Option Nat) (cs : List Value) (T : TypeId) : Heap := match o with | none => [] | some g => [(g, blk cs T)]
def oOk (o : Option Nat) (xs r : List Value) (n cap sz : Nat) : Prop := match o with | none => n = 0 ∧ xs = [] | some _ => (xs ++ r).length = cap * sz ∧ xs.length = n * sz
section
variable {P : Program} {E : World} {L : Fra} {H H' : Heap} {dst : Option Tmp} {ty : TypeId} {pos : String} {aft : Array Edge} {gd : Option (Nat × Bool)}
theorem Yl_append0 {x y : Operand} {t e : TypeId} {sz n cap c : Nat} {base p : Option Addr} (hx : ev L x = some (.slice base n cap)) (hy : ev L y = some (.slice p 0 c)) (ht : slOf P t = some (e, sz)) (hle : n ≤ cap) :
    Yl P L ⟨dst, .call ⟨.builtin .append, #[x, y], #[t, t]⟩, ty, pos, aft, gd⟩ (.slice base n cap) := by
  intro _ a w hf
  obtain ⟨inf, hu, hi, rfl⟩ := slOf_u ht
  simp only [execOp, resolve, invoke, builtin, hf.eval hx, hf.eval hy, List.map_toArray, List.map_cons, List.map_nil]
  cases base <;> cases p <;> simp [Builtin.append_, Builtin.lenOf, Builtin.firstCells, run_underlying hu, sizeOf, typeInfo, hi, hle, storeCells, loadCells, loadCellsFrom]
theorem perm_front (L A F : Heap) : (L ++ (A ++ F)).Perm (A ++ (L ++ F)) := by
  rw [← List.append_assoc, ← List.append_assoc]
  exact List.Perm.append_right F List.perm_append_comm
theorem Fx_appO {x y : Operand} {t e : TypeId} {sz by_ n cap bx m c : Nat} {o : Option Nat} {xs r news : List Value} {T : TypeId} {z z0 : Value} {q : Nat} {H1 R : Heap} (hx : ev L x = some (osl o n cap)) (hy : ev L y = some (.slice (some ⟨bx, 0, none⟩) m c))
    (ht : slOf P t = some (e, sz)) (hb : byOf P e = some by_) (hz : zeOf P e = some z) (hz0 : z.cells = (List.replicate q z0).toArray) (hq : q = sz)
    (hm : Rem H (bx, blk news T) H1) (hg : H1.Perm (oH o (xs ++ r) e ++ R)) (ho : oOk o xs r n cap sz)
    (hnews : news.length = m * sz) (h1 : ∀ u ∈ news, u.oneCell' = true) (hsz : 0 < sz) (h0 : 0 < m) (h48 : (n + m) * by_ ≤ 140737488355328) (h63 : n + m ≤ 9223372036854775807) :
    Fx P E L H ⟨dst, .call ⟨.builtin .append, #[x, y], #[t, t]⟩, ty, pos, aft, gd⟩
      (fun v H'' => ∃ g' cap' r', v = osl (some g') (n + m) cap' ∧ oOk (some g') (xs ++ news) r' (n + m) cap' sz ∧ H'' = (g', blk ((xs ++ news) ++ r') e) :: R) := by
  cases o with
  | some g =>
    obtain ⟨hl, hxs⟩ := ho
    intro nn a w next Q hf hh k
    have hh2 : HA E w ((bx, blk news T) :: (g, blk (xs ++ r) e) :: R) := hh.perm (hm.perm.trans (hg.cons _))
    refine Fx_appT (P := P) (H1 := (g, blk (xs ++ r) e) :: R) hx hy ht hb hz hz0 hq (.here _ _) (.here _ _) hl hxs hnews h1 hsz h48 h63 nn a w next Q hf hh2 ?_
    rintro v w' H'' ⟨g', cap', r', rfl, h2, rfl⟩ hh'
    exact k _ w' _ ⟨g', cap', r', rfl, ⟨h2, by rw [List.length_append, hxs, hnews, Nat.add_mul]⟩, rfl⟩ hh'
  | none =>
    obtain ⟨rfl, rfl⟩ := ho
    intro nn a w next Q hf hh k
    have hh2 : HA E w ((bx, blk news T) :: R) := hh.perm (hm.perm.trans (hg.cons _))
    refine Fx_append_nil (P := P) (lx := news) (offx := 0) hx hy ht hb hz hz0 hq (List.mem_cons_self ..) (by rw [hnews]; omega) h0 (by rw [Nat.zero_add] at h48; omega) om_ nn a w next Q hf hh2 ?_
    rintro v w' H'' ⟨g', l', cap', rfl, hle, hl', htk, rfl⟩ hh'
    rw [List.drop_zero, ← hnews, List.take_length, hnews] at htk
    have e2 : l' = ([] ++ news) ++ l'.drop (m * sz) := by rw [List.nil_append, ← htk, List.take_append_drop]
    refine k _ w' ((g', blk (([] ++ news) ++ l'.drop (m * sz)) e) :: R) ⟨g', cap', l'.drop (m * sz), by rw [Nat.zero_add], ⟨by rw [← e2]; exact hl', by rw [List.nil_append, hnews, Nat.zero_add]⟩, rfl⟩ ?_
    rw [← e2]
    exact hh'.sub (.cons_cons _ (List.sublist_cons_self _ _))
end
theorem filsH_split {br : Nat} : ∀ {fs : List Fil} {k : Nat} {f : Fil}, fs[k]? = some f → ∃ G, (filsH br fs).Perm (enB br f.bf f.bd f.en :: (f.bd, blk f.en.dc 112) :: G) := by
  intro fs
  induction fs with
  | nil => intro k f h; simp at h
  | cons x r ih =>
    intro k f h
    cases k with
    | zero => simp at h; subst h; exact ⟨filsH br r, .refl _⟩
    | succ k =>
      simp at h
      obtain ⟨G, hG⟩ := ih h
      refine ⟨enB br x.bf x.bd x.en :: (x.bd, blk x.en.dc 112) :: G, ?_⟩
      simp only [filsH]
      refine ((hG.cons _).cons _).trans ?_
      exact List.perm_append_comm (l₁ := [enB br x.bf x.bd x.en, (x.bd, blk x.en.dc 112)]) (l₂ := [enB br f.bf f.bd f.en, (f.bd, blk f.en.dc 112)]) |>.append_right G
theorem psH_split {b : Nat} {ns : List (List UInt8)} : ∀ {ps : List (Nat × List (List UInt8))}, (b, ns) ∈ ps → ∃ G, (psH ps).Perm ((b, blk (strs ns) 9) :: G) := by
  intro ps
  induction ps with
  | nil => intro h; cases h
  | cons x r ih =>
    intro h
    rcases List.mem_cons.1 h with rfl | h
    · exact ⟨psH r, .refl _⟩
    obtain ⟨G, hG⟩ := ih h
    refine ⟨(x.1, blk (strs x.2) 9) :: G, ?_⟩
    simp only [psH]
    exact (hG.cons _).trans (.swap _ _ _)

theorem ZZType_ct (bf bd br cur ini : Nat) (nm : List UInt8) (path : Value) (size i rem : Int) (dc : List Value) (ot : UInt8) (h33 : dc[33]? = some (bv ot)) :
  Ct Tryd.prog 32 [pv bf] [(bf, blk (fiF nm ini path size i cur rem bd br) 93), (bd, blk dc 112)] (fun v q => v = nv ot.toNat ∧ q = [(bf, blk (fiF nm ini path size i cur rem bd br) 93), (bd, blk dc 112)]) := by
 refine Ct_of Tryd.func32 rfl Tryd.ntmps32 rfl ?_
 intro E F
 simp only [numL, List.nil_append, List.cons_append]
 refine CW_sr ?_
 refine RW_a ?_
 refine RW_lv [0] ?_
 refine CW_sr ?_
 refine RW_m ?_
 refine RW_n ?_
 refine RW_f fo_93_7 ?_
 refine RW_h (Yh_ld (v := pv bd) sc_91) ?_
 refine RW_n ?_
 refine RW_f fo_112_2 ?_
 refine RW_h (Yh_lh (v := bv ot) sc_5 h33) ?_
 refine RW_l (Yl_conv (c := ((ot.toNat : Nat) : Int)) rfl in_5 in_3 (wi64 (by have := ot.toNat_lt; omega) (by have := ot.toNat_lt; omega))) ?_
 refine RW_a ?_
 refine RW_lv [2] ?_
 refine CW_ret ?_
 exact QW_ret1 rfl rfl [_, _] ⟨rfl, rfl⟩ prm_
theorem Created_ct (bf bd br cur ini : Nat) (nm : List UInt8) (path : Value) (size i rem : Int) (dc : List Value) (x : Value) (hx : dc[58]? = some x) :
  Ct Tryd.prog 35 [pv bf] [(bf, blk (fiF nm ini path size i cur rem bd br) 93), (bd, blk dc 112)] (fun v q => v = x ∧ q = [(bf, blk (fiF nm ini path size i cur rem bd br) 93), (bd, blk dc 112)]) := by
 refine Ct_of Tryd.func35 rfl Tryd.ntmps35 rfl ?_
 intro E F
 simp only [numL, List.nil_append, List.cons_append]
 refine CW_sr ?_
 refine RW_a ?_
 refine RW_lv [0] ?_
 refine CW_sr ?_
 refine RW_m ?_
 refine RW_n ?_
 refine RW_f fo_93_7 ?_
 refine RW_h (Yh_ld (v := pv bd) sc_91) ?_
 refine RW_n ?_
 refine RW_f fo_112_9 ?_
 refine RW_h (Yh_lh (v := x) sc_98 hx) ?_
 refine RW_a ?_
 refine RW_lv [2] ?_
 refine CW_ret ?_
 exact QW_ret1 rfl rfl [_, _] ⟨rfl, rfl⟩ prm_
theorem Modified_ct (bf bd br cur ini : Nat) (nm : List UInt8) (path : Value) (size i rem : Int) (dc : List Value) (x : Value) (hx : dc[59]? = some x) :
  Ct Tryd.prog 36 [pv bf] [(bf, blk (fiF nm ini path size i cur rem bd br) 93), (bd, blk dc 112)] (fun v q => v = x ∧ q = [(bf, blk (fiF nm ini path size i cur rem bd br) 93), (bd, blk dc 112)]) := by
 refine Ct_of Tryd.func36 rfl Tryd.ntmps36 rfl ?_
 intro E F
 simp only [numL, List.nil_append, List.cons_append]
 refine CW_sr ?_
 refine RW_a ?_
 refine RW_lv [0] ?_
 refine CW_sr ?_
 refine RW_m ?_
 refine RW_n ?_
 refine RW_f fo_93_7 ?_
 refine RW_h (Yh_ld (v := pv bd) sc_91) ?_
 refine RW_n ?_
 refine RW_f fo_112_10 ?_
 refine RW_h (Yh_lh (v := x) sc_98 hx) ?_
 refine RW_a ?_
 refine RW_lv [2] ?_
 refine CW_ret ?_
 exact QW_ret1 rfl rfl [_, _] ⟨rfl, rfl⟩ prm_
theorem ID_ct (bf bd br cur ini : Nat) (nm : List UInt8) (path : Value) (size i rem : Int) (dc : List Value) (hdl : dc.length = 69) (hone : ∀ u ∈ dc, u.oneCell' = true) :
  Ct Tryd.prog 33 [pv bf] [(bf, blk (fiF nm ini path size i cur rem bd br) 93), (bd, blk dc 112)] (fun v q => v = .agg ((dc.drop 38).take 16).toArray ∧ q = [(bf, blk (fiF nm ini path size i cur rem bd br) 93), (bd, blk dc 112)]) := by
 have hlen : ((dc.drop 38).take 16).length = 16 := by simp; omega
 refine Ct_of Tryd.func33 rfl Tryd.ntmps33 rfl ?_
 intro E F
 simp only [numL, List.nil_append, List.cons_append]
 refine CW_sr ?_
 refine RW_fx rfl rfl rfl (Fx_alloc (zs := zs_95) ze_95 rfl) ?_
 rintro _ _ ⟨b2, rfl, rfl⟩
 refine RW_lv [0,2] ?_
 refine CW_sr ?_
 refine RW_m ?_
 refine RW_n ?_
 refine RW_f fo_93_7 ?_
 refine RW_h (Yh_ld (v := pv bd) sc_91) ?_
 refine RW_n ?_
 refine RW_f fo_112_7 ?_
 refine RW_h (Yh_loadA (b := bd) (off := 38) (k := 16) (l := dc) (T := 112) (fz := (0, 0)) rfl ag_95 mem_ om_) ?_
 refine RW_fx0 rfl rfl (Fx_storeA (b := b2) (off := 0) (l := zs_95) (T := 95) (cs := (dc.drop 38).take 16) rfl rfl (by rw [hlen]; exact sz_95) (one_take hone 38 16) rep_ (by rw [hlen]; exact Nat.le_refl _)) ?_
 rintro _ _ rfl
 refine RW_lv [2] ?_
 refine CW_ret ?_
 have e1 : spl 0 ((dc.drop 38).take 16) zs_95 = (dc.drop 38).take 16 := spl_full _ _ (by rw [hlen]; rfl)
 rw [e1]
 exact QW_retC rfl rfl (List.Mem.head _) (by rw [hlen]; exact ag_95) [_, _] ⟨rfl, rfl⟩ (fun w hh => HA_dropB (.here _ _) hh)
theorem ZZState_ct (bf bd br cur ini : Nat) (nm : List UInt8) (path : Value) (size i rem : Int) (dc : List Value) (hdl : dc.length = 69) (hone : ∀ u ∈ dc, u.oneCell' = true) :
  Ct Tryd.prog 34 [pv bf] [(bf, blk (fiF nm ini path size i cur rem bd br) 93), (bd, blk dc 112)] (fun v q => v = .agg ((dc.drop 54).take 4).toArray ∧ q = [(bf, blk (fiF nm ini path size i cur rem bd br) 93), (bd, blk dc 112)]) := by
 have hlen : ((dc.drop 54).take 4).length = 4 := by simp; omega
 refine Ct_of Tryd.func34 rfl Tryd.ntmps34 rfl ?_
 intro E F
 simp only [numL, List.nil_append, List.cons_append]
 refine CW_sr ?_
 refine RW_fx rfl rfl rfl (Fx_alloc (zs := zs_38) ze_38 rfl) ?_
 rintro _ _ ⟨b2, rfl, rfl⟩
 refine RW_lv [0,2] ?_
 refine CW_sr ?_
 refine RW_m ?_
 refine RW_n ?_
 refine RW_f fo_93_7 ?_
 refine RW_h (Yh_ld (v := pv bd) sc_91) ?_
 refine RW_n ?_
 refine RW_f fo_112_8 ?_
 refine RW_h (Yh_loadA (b := bd) (off := 54) (k := 4) (l := dc) (T := 112) (fz := (0, 0)) rfl ag_38 mem_ om_) ?_
 refine RW_fx0 rfl rfl (Fx_storeA (b := b2) (off := 0) (l := zs_38) (T := 38) (cs := (dc.drop 54).take 4) rfl rfl (by rw [hlen]; exact sz_38) (one_take hone 54 4) rep_ (by rw [hlen]; exact Nat.le_refl _)) ?_
 rintro _ _ rfl
 refine RW_lv [2] ?_
 refine CW_ret ?_
 have e1 : spl 0 ((dc.drop 54).take 4) zs_38 = (dc.drop 54).take 4 := spl_full _ _ (by rw [hlen]; rfl)
 rw [e1]
 exact QW_retC rfl rfl (List.Mem.head _) (by rw [hlen]; exact ag_38) [_, _] ⟨rfl, rfl⟩ (fun w hh => HA_dropB (.here _ _) hh)

section
variable {P : Program} {E : World} {L : Fra} {H H' : Heap} {dst : Option Tmp} {ty : TypeId} {pos : String} {aft : Array Edge} {gd : Option (Nat × Bool)}
theorem Fx_append_nilG {x y : Operand} {t e : TypeId} {sz by_ bx offx m c : Nat} {lx : List Value} {T : TypeId} {fz : Nat × Nat} {z : Value} (hx : ev L x = some (.slice none 0 0)) (hy : ev L y = some (.slice (some ⟨bx, offx, none⟩) m c))
    (ht : slOf P t = some (e, sz)) (hb : byOf P e = some by_) (hz : zeOf P e = some z) (hz0 : z.cells.size = sz)
    (hm : (bx, Obj.cells lx.toArray T fz) ∈ H) (hfit : offx + m * sz ≤ lx.length) (h0 : 0 < m) (h48 : m * by_ ≤ 281474976710656) (h63 : m ≤ 9223372036854775807) :
    Fx P E L H ⟨dst, .call ⟨.builtin .append, #[x, y], #[t, t]⟩, ty, pos, aft, gd⟩
      (fun v H'' => ∃ g' l' cap', v = .slice (some ⟨g', 0, none⟩) m cap' ∧ m ≤ cap' ∧ l'.length = cap' * sz ∧ l'.take (m * sz) = (lx.drop offx).take (m * sz) ∧ H'' = (g', blk l' e) :: H) := by
  intro _ a w next Q hf hh k
  obtain ⟨inf, hu, hi, rfl⟩ := slOf_u ht
  unfold zeOf at hz
  simp only [Option.bind_eq_some_iff] at hz
  obtain ⟨i2, hi2, hz'⟩ := hz
  rw [hi] at hi2; cases hi2
  simp only [byOf, hi, Option.map_some, Option.some.injEq] at hb
  subst hb
  have hlen : ((lx.drop offx).take (m * inf.size)).length = m * inf.size := by simp; omega
  have hr := run_append_nil (P := P) w t ty e inf z hu hi hz' ⟨bx, offx, none⟩ m c _ hlen (hh.cellsAt hm) h0 om_ h48
  have hge := grownCap_ge w m 0 e
  have hrun : (execOp a.eval ⟨dst, .call ⟨.builtin .append, #[x, y], #[t, t]⟩, ty, pos, aft, gd⟩).run P w = .ok (.value (.slice (some ⟨w.heap.size, 0, none⟩) m (grownCap w m 0 e)))
      (w.drew.alloc (.cells (((lx.drop offx).take (m * inf.size)).toArray ++ Builtin.zeroCells z.cells (grownCap w m 0 e - m)) e)) := by
    simp only [execOp, resolve, invoke, builtin, hf.eval hx, hf.eval hy, List.map_toArray, List.map_cons, List.map_nil]
    simp [hr]
  simp only [Oper.wp, hrun, Oper.upon]
  refine k _ _ _ ⟨w.heap.size, ((lx.drop offx).take (m * inf.size)) ++ (Builtin.zeroCells z.cells (grownCap w m 0 e - m)).toList, _, rfl, hge, ?_, ?_, rfl⟩ ?_
  · have hs : z.cells.size = inf.size := hz0
    simp only [List.length_append, hlen, Array.length_toList, size_zeroCells, hs, ← Nat.add_mul]
    congr 1; omega
  · rw [List.take_append_of_le_length (by rw [hlen]; exact Nat.le_refl _), List.take_of_length_le (by rw [hlen]; exact Nat.le_refl _)]
  have := (hh.drew).alloc (.cells (((lx.drop offx).take (m * inf.size)).toArray ++ Builtin.zeroCells z.cells (grownCap w m 0 e - m)) e)
  have e1 : ∀ (l : List Value) (A : Array Value), l.toArray ++ A = (l ++ A.toList).toArray := by intro l A; simp
  rw [e1] at this ⊢
  exact this
theorem Fx_appendG {x y : Operand} {t e : TypeId} {sz by_ g n cap bx offx m c : Nat} {l lx : List Value} {T : TypeId} {fz : Nat × Nat} {z : Value} {R : Heap} (hx : ev L x = some (.slice (some ⟨g, 0, none⟩) n cap)) (hy : ev L y = some (.slice (some ⟨bx, offx, none⟩) m c))
    (ht : slOf P t = some (e, sz)) (hb : byOf P e = some by_) (hz : zeOf P e = some z) (hz0 : z.cells.size = sz)
    (hg : Rem H (g, blk l e) R) (hl : l.length = cap * sz) (hn : n ≤ cap)
    (hm : (bx, Obj.cells lx.toArray T fz) ∈ H) (hfit : offx + m * sz ≤ lx.length) (h1 : ∀ u ∈ (lx.drop offx).take (m * sz), u.oneCell' = true) (h48 : (n + m) * by_ ≤ 140737488355328) (h63 : n + m ≤ 9223372036854775807) :
    Fx P E L H ⟨dst, .call ⟨.builtin .append, #[x, y], #[t, t]⟩, ty, pos, aft, gd⟩
      (fun v H'' => ∃ g' l' cap', v = .slice (some ⟨g', 0, none⟩) (n + m) cap' ∧ n + m ≤ cap' ∧ l'.length = cap' * sz ∧ l'.take ((n + m) * sz) = l.take (n * sz) ++ (lx.drop offx).take (m * sz) ∧ H'' = (g', blk l' e) :: R) := by
  intro _ a w next Q hf hh k
  obtain ⟨inf, hu, hi, rfl⟩ := slOf_u ht
  unfold zeOf at hz
  simp only [Option.bind_eq_some_iff] at hz
  obtain ⟨i2, hi2, hz'⟩ := hz
  rw [hi] at hi2; cases hi2
  simp only [byOf, hi, Option.map_some, Option.some.injEq] at hb
  subst hb
  have hlen : ((lx.drop offx).take (m * inf.size)).length = m * inf.size := by simp; omega
  have hR := hh.perm hg.perm
  have hheap := hh.mem _ hg.mem
  have hnl : n * inf.size ≤ l.length := by rw [hl]; exact Nat.mul_le_mul_right _ hn
  by_cases hroom : n + m ≤ cap
  · have hfit2 : n * inf.size + ((lx.drop offx).take (m * inf.size)).length ≤ l.toArray.size := by
      rw [hlen, ← Nat.add_mul]; simp only [List.size_toArray, hl]; exact Nat.mul_le_mul_right _ hroom
    have hr := run_append_room (P := P) w t ty e inf hu hi g n cap l.toArray hheap ⟨bx, offx, none⟩ m c _ hlen (hh.cellsAt hm) h1 hroom hfit2
    have hrun : (execOp a.eval ⟨dst, .call ⟨.builtin .append, #[x, y], #[t, t]⟩, ty, pos, aft, gd⟩).run P w = .ok (.value (.slice (some ⟨g, 0, none⟩) (n + m) cap))
        (w.setRow g (l.take (n * inf.size) ++ (lx.drop offx).take (m * inf.size) ++ l.drop (n * inf.size + ((lx.drop offx).take (m * inf.size)).length)).toArray) := by
      simp only [execOp, resolve, invoke, builtin, hf.eval hx, hf.eval hy, List.map_toArray, List.map_cons, List.map_nil]
      simp [hr]
    simp only [Oper.wp, hrun, Oper.upon]
    refine k _ _ _ ⟨g, l.take (n * inf.size) ++ (lx.drop offx).take (m * inf.size) ++ l.drop (n * inf.size + ((lx.drop offx).take (m * inf.size)).length), cap, rfl, hroom, ?_, ?_, rfl⟩ ?_
    · simp only [List.length_append, List.length_take, List.length_drop, hlen]
      simp only [List.length_drop, hl] at *
      have := Nat.mul_le_mul_right inf.size hroom
      rw [Nat.add_mul] at this
      omega
    · have h3 : (l.take (n * inf.size)).length = n * inf.size := by simp; omega
      rw [List.take_append_of_le_length (by simp only [List.length_append, h3, hlen, Nat.add_mul]; exact Nat.le_refl _), List.take_of_length_le (by simp only [List.length_append, h3, hlen, Nat.add_mul]; exact Nat.le_refl _)]
    refine ⟨hR.os, hR.tape, hR.output, hR.nodup, ?_, by have := hR.size; simpa [World.setRow] using this, ?_⟩
    rotate_left
    · intro b' o' hb' ho'
      by_cases e3 : b' = g
      · subst e3
        rw [setRow_heap w b' l.toArray _ e _ hheap] at ho'
        cases ho'; rfl
      rw [setRow_other w g b' _ e3] at ho'
      exact hR.fresh b' o' hb' ho'
    intro p hp
    rcases List.mem_cons.1 hp with rfl | hp
    · exact setRow_heap w g l.toArray _ e _ hheap
    have hne : p.1 ≠ g := by
      have := hR.nodup
      simp only [List.map_cons, List.nodup_cons] at this
      intro e
      exact this.1 (e ▸ List.mem_map_of_mem hp)
    rw [setRow_other w g p.1 _ hne]
    exact hR.mem p (List.mem_cons_of_mem _ hp)
  have holds : ∀ j u, (l.take (n * inf.size))[j]? = some u → w.cell? ((⟨g, 0, none⟩ : Addr).add j) = some u := by
    have := hh.cellsAt hg.mem (offx := 0) (k := n * inf.size)
    simpa using this
  have hlo : (l.take (n * inf.size)).length = n * inf.size := by simp; omega
  have hr := run_append_grow (P := P) w t ty e inf z hu hi hz' ⟨g, 0, none⟩ n cap (l.take (n * inf.size)) hlo holds ⟨bx, offx, none⟩ m c _ hlen (hh.cellsAt hm) om_ om_ (growslice_fits om_ h48)
  have hge := grownCap_ge w (n + m) cap e
  have hrun : (execOp a.eval ⟨dst, .call ⟨.builtin .append, #[x, y], #[t, t]⟩, ty, pos, aft, gd⟩).run P w = .ok (.value (.slice (some ⟨w.heap.size, 0, none⟩) (n + m) (grownCap w (n + m) cap e)))
      (w.drew.alloc (.cells ((l.take (n * inf.size)).toArray ++ ((lx.drop offx).take (m * inf.size)).toArray ++ Builtin.zeroCells z.cells (grownCap w (n + m) cap e - (n + m))) e)) := by
    simp only [execOp, resolve, invoke, builtin, hf.eval hx, hf.eval hy, List.map_toArray, List.map_cons, List.map_nil]
    simp [hr]
  simp only [Oper.wp, hrun, Oper.upon]
  refine k _ _ _ ⟨w.heap.size, l.take (n * inf.size) ++ (lx.drop offx).take (m * inf.size) ++ (Builtin.zeroCells z.cells (grownCap w (n + m) cap e - (n + m))).toList, _, rfl, hge, ?_, ?_, rfl⟩ ?_
  · have hs : z.cells.size = inf.size := hz0
    simp only [List.length_append, hlo, hlen, Array.length_toList, size_zeroCells, hs, ← Nat.add_mul]
    congr 1; omega
  · rw [List.take_append_of_le_length (by simp only [List.length_append, hlo, hlen, Nat.add_mul]; exact Nat.le_refl _), List.take_of_length_le (by simp only [List.length_append, hlo, hlen, Nat.add_mul]; exact Nat.le_refl _)]
  have h2 : HA E w R := hR.sub (List.sublist_cons_self _ _)
  have := (h2.drew).alloc (.cells ((l.take (n * inf.size)).toArray ++ ((lx.drop offx).take (m * inf.size)).toArray ++ Builtin.zeroCells z.cells (grownCap w (n + m) cap e - (n + m))) e)
  have e1 : ∀ (l l2 : List Value) (A : Array Value), l.toArray ++ l2.toArray ++ A = (l ++ l2 ++ A.toList).toArray := by intro l l2 A; simp
  rw [e1] at this ⊢
  exact this
theorem Fx_appG {x y : Operand} {t e : TypeId} {sz by_ g n cap bx offx m c : Nat} {xs r news lx : List Value} {T : TypeId} {fz : Nat × Nat} {z : Value} {R : Heap} (hx : ev L x = some (.slice (some ⟨g, 0, none⟩) n cap)) (hy : ev L y = some (.slice (some ⟨bx, offx, none⟩) m c))
    (ht : slOf P t = some (e, sz)) (hb : byOf P e = some by_) (hz : zeOf P e = some z) (hz0 : z.cells.size = sz)
    (hm : (bx, Obj.cells lx.toArray T fz) ∈ H) (hg : Rem H (g, blk (xs ++ r) e) R) (hl : (xs ++ r).length = cap * sz) (hxs : xs.length = n * sz)
    (hnews : (lx.drop offx).take (m * sz) = news) (hfit : offx + m * sz ≤ lx.length) (h1 : ∀ u ∈ news, u.oneCell' = true) (hsz : 0 < sz) (h48 : (n + m) * by_ ≤ 140737488355328) (h63 : n + m ≤ 9223372036854775807) :
    Fx P E L H ⟨dst, .call ⟨.builtin .append, #[x, y], #[t, t]⟩, ty, pos, aft, gd⟩
      (fun v H'' => ∃ g' cap' r', v = .slice (some ⟨g', 0, none⟩) (n + m) cap' ∧ ((xs ++ news) ++ r').length = cap' * sz ∧ H'' = (g', blk ((xs ++ news) ++ r') e) :: R) := by
  subst hnews
  have hn : n ≤ cap := by
    have : n * sz ≤ cap * sz := by rw [← hl, ← hxs]; simp
    exact Nat.le_of_mul_le_mul_right this hsz
  refine (Fx_appendG hx hy ht hb hz hz0 hg hl hn hm hfit h1 h48 h63).weak ?_
  rintro v H'' ⟨g', l', cap', rfl, _, hl', htk, rfl⟩
  have e1 : (xs ++ r).take (n * sz) = xs := by rw [← hxs]; exact List.take_left
  rw [e1] at htk
  have e2 : l' = (xs ++ (lx.drop offx).take (m * sz)) ++ l'.drop ((n + m) * sz) := by rw [← htk, List.take_append_drop]
  exact ⟨g', cap', l'.drop ((n + m) * sz), rfl, by rw [← e2]; exact hl', by rw [← e2]⟩
theorem Fx_appTG {x y : Operand} {t e : TypeId} {sz by_ g n cap bx m c : Nat} {xs r news : List Value} {T : TypeId} {z : Value} {H1 R : Heap} (hx : ev L x = some (.slice (some ⟨g, 0, none⟩) n cap)) (hy : ev L y = some (.slice (some ⟨bx, 0, none⟩) m c))
    (ht : slOf P t = some (e, sz)) (hb : byOf P e = some by_) (hz : zeOf P e = some z) (hz0 : z.cells.size = sz)
    (hm : Rem H (bx, blk news T) H1) (hg : Rem H1 (g, blk (xs ++ r) e) R) (hl : (xs ++ r).length = cap * sz) (hxs : xs.length = n * sz)
    (hnews : news.length = m * sz) (h1 : ∀ u ∈ news, u.oneCell' = true) (hsz : 0 < sz) (h48 : (n + m) * by_ ≤ 140737488355328) (h63 : n + m ≤ 9223372036854775807) :
    Fx P E L H ⟨dst, .call ⟨.builtin .append, #[x, y], #[t, t]⟩, ty, pos, aft, gd⟩
      (fun v H'' => ∃ g' cap' r', v = .slice (some ⟨g', 0, none⟩) (n + m) cap' ∧ ((xs ++ news) ++ r').length = cap' * sz ∧ H'' = (g', blk ((xs ++ news) ++ r') e) :: R) := by
  refine Fx.less hm ?_
  intro nn a w next Q hf hh k
  refine Fx_appG (news := news) hx hy ht hb hz hz0 (List.mem_cons_self ..) (.there _ hg) hl hxs (by rw [List.drop_zero, ← hnews, List.take_length]) (by rw [← hnews]; omega) h1 hsz h48 h63 nn a w next Q hf hh ?_
  rintro v w' H'' ⟨g', cap', r', rfl, h2, rfl⟩ hh'
  exact k _ w' _ ⟨g', cap', r', rfl, h2, rfl⟩ (hh'.sub (.cons_cons _ (List.sublist_cons_self _ _)))
theorem Fx_appOG {x y : Operand} {t e : TypeId} {sz by_ n cap bx m c : Nat} {o : Option Nat} {xs r news : List Value} {T : TypeId} {z : Value} {H1 R : Heap} (hx : ev L x = some (osl o n cap)) (hy : ev L y = some (.slice (some ⟨bx, 0, none⟩) m c))
    (ht : slOf P t = some (e, sz)) (hb : byOf P e = some by_) (hz : zeOf P e = some z) (hz0 : z.cells.size = sz)
    (hm : Rem H (bx, blk news T) H1) (hg : H1.Perm (oH o (xs ++ r) e ++ R)) (ho : oOk o xs r n cap sz)
    (hnews : news.length = m * sz) (h1 : ∀ u ∈ news, u.oneCell' = true) (hsz : 0 < sz) (h0 : 0 < m) (h48 : (n + m) * by_ ≤ 140737488355328) (h63 : n + m ≤ 9223372036854775807) :
    Fx P E L H ⟨dst, .call ⟨.builtin .append, #[x, y], #[t, t]⟩, ty, pos, aft, gd⟩
      (fun v H'' => ∃ g' cap' r', v = osl (some g') (n + m) cap' ∧ oOk (some g') (xs ++ news) r' (n + m) cap' sz ∧ H'' = (g', blk ((xs ++ news) ++ r') e) :: R) := by
  cases o with
  | some g =>
    obtain ⟨hl, hxs⟩ := ho
    intro nn a w next Q hf hh k
    have hh2 : HA E w ((bx, blk news T) :: (g, blk (xs ++ r) e) :: R) := hh.perm (hm.perm.trans (hg.cons _))
    refine Fx_appTG (P := P) (H1 := (g, blk (xs ++ r) e) :: R) hx hy ht hb hz hz0 (.here _ _) (.here _ _) hl hxs hnews h1 hsz h48 h63 nn a w next Q hf hh2 ?_
    rintro v w' H'' ⟨g', cap', r', rfl, h2, rfl⟩ hh'
    exact k _ w' _ ⟨g', cap', r', rfl, ⟨h2, by rw [List.length_append, hxs, hnews, Nat.add_mul]⟩, rfl⟩ hh'
  | none =>
    obtain ⟨rfl, rfl⟩ := ho
    intro nn a w next Q hf hh k
    have hh2 : HA E w ((bx, blk news T) :: R) := hh.perm (hm.perm.trans (hg.cons _))
    refine Fx_append_nilG (P := P) (lx := news) (offx := 0) hx hy ht hb hz hz0 (List.mem_cons_self ..) (by rw [hnews]; omega) h0 (by rw [Nat.zero_add] at h48; omega) om_ nn a w next Q hf hh2 ?_
    rintro v w' H'' ⟨g', l', cap', rfl, hle, hl', htk, rfl⟩ hh'
    rw [List.drop_zero, ← hnews, List.take_length, hnews] at htk
    have e2 : l' = ([] ++ news) ++ l'.drop (m * sz) := by rw [List.nil_append, ← htk, List.take_append_drop]
    refine k _ w' ((g', blk (([] ++ news) ++ l'.drop (m * sz)) e) :: R) ⟨g', cap', l'.drop (m * sz), by rw [Nat.zero_add], ⟨by rw [← e2]; exact hl', by rw [List.nil_append, hnews, Nat.zero_add]⟩, rfl⟩ ?_
    rw [← e2]
    exact hh'.sub (.cons_cons _ (List.sublist_cons_self _ _))
def consec (pl : List (Nat × Nat)) : Nat → Nat → List (List Value) → Prop
  | _, _, [] => True
  | k, p, c :: cs => pl[k]? = some (p, c.length) ∧ consec pl (k + 1) (p + c.length) cs
theorem fill_pl (pl : List (Nat × Nat)) : ∀ (vs : List Value) (css : List (List Value)) (k : Nat) (pre rest : List Value), vs.map Value.cells = css.map List.toArray → consec pl k pre.length css → rest.length = css.flatten.length →
    Instr.fill (fun i => pl[i]?) (pre ++ rest).toArray (enumV k vs) = some (pre ++ css.flatten).toArray := by
  intro vs
  induction vs with
  | nil =>
    intro css k pre rest h _ hr
    have : css = [] := by cases css <;> simp_all
    subst this
    have : rest = [] := by simpa using hr
    subst this
    simp [enumV, Instr.fill]
  | cons v r ih =>
    intro css k pre rest h hc hr
    cases css with
    | nil => simp at h
    | cons c cs =>
      simp only [List.map_cons, List.cons.injEq] at h
      obtain ⟨h1, h2⟩ := h
      obtain ⟨hc1, hc2⟩ := hc
      simp only [List.flatten_cons, List.length_append] at hr
      have hz : v.cells.size = c.length := by rw [h1]; simp
      simp only [enumV, Instr.fill, hz, hc1]
      rw [if_neg (by simp; omega)]
      have e1 : (v.cells.zipIdx.foldl (fun (cs : Array Value) (p : Value × Nat) => cs.setIfInBounds (pre.length + p.2) p.1) (pre ++ rest).toArray) = ((pre ++ c) ++ rest.drop c.length).toArray := by
        rw [h1, ← Array.foldl_toList, Array.toList_zipIdx]
        have := foldl_cells c.length pre.length c 0 (pre ++ rest) (by simp; omega)
        rw [this]
        congr 1
        simp only [spl, Nat.add_zero]
        rw [List.take_left, ← List.drop_drop, List.drop_left]
      have e2 := ih cs (k + 1) (pre ++ c) (rest.drop c.length) h2 (by rw [List.length_append]; exact hc2) (by rw [List.length_drop, hr]; omega)
      rw [← e1] at e2
      simp only [List.flatten_cons]
      rw [← List.append_assoc]
      exact e2
theorem Yl_buildL {t : TypeId} {ps : List (Nat × Operand)} {vs : List Value} {css : List (List Value)} {pl : List (Nat × Nat)} {z : Value} {zc cs : List Value} (ht : plsOf P t = some pl) (hz : zeOf P t = some z) (hzc : z.cells = zc.toArray) (hp : evq L 0 ps = some vs)
    (hc : vs.map Value.cells = css.map List.toArray) (hcon : consec pl 0 0 css) (hlen : zc.length = css.flatten.length) (hcs : css.flatten = cs) : Yl P L ⟨dst, .build t ps.toArray, ty, pos, aft, gd⟩ (.agg cs.toArray) := by
  obtain ⟨h1, h2⟩ := evq_evp ps 0 vs hp
  refine Yl_build ht hz h1 ?_
  rw [hzc, ← hcs]
  have := fill_pl pl vs css 0 [] zc hc hcon hlen
  simpa using this
end

def otv (e : En) : Nat := match (e.dc[33]? : Option Value) with | some (.int .u8 x) => x.toNat | _ => 0
def entC (e : En) (pvv : Value) : List Value := [.string (bar e.nm)] ++ ([pvv] ++ ([nv (otv e)] ++ ([.int .i64 e.size] ++ ([.int .i64 (e.ini : Int)] ++ ((e.dc.drop 38).take 16 ++ ((e.dc.drop 54).take 4 ++ ([e.dc.getD 58 undef] ++ ([e.dc.getD 59 undef] ++ []))))))))
structure DcOk (e : En) : Prop where
  len : e.dc.length = 69
  one : ∀ u ∈ e.dc, u.oneCell' = true
  ot : ∃ x : UInt8, e.dc[33]? = some (bv x)
  ini : e.ini ≤ 65535
theorem otv_bv {e : En} {x : UInt8} (h : e.dc[33]? = some (bv x)) : otv e = x.toNat := by
  unfold otv; rw [h]; simp [bv]
theorem DcOk.at {e : En} (h : DcOk e) {i : Nat} (hi : i < 69) : e.dc[i]? = some (e.dc.getD i undef) ∧ (e.dc.getD i undef).oneCell' = true := by
  have hl := h.len
  have h1 : e.dc[i]? = some e.dc[i] := List.getElem?_eq_getElem om_
  have h2 : e.dc.getD i undef = e.dc[i] := by simp [List.getD_eq_getElem?_getD, h1]
  rw [h2]
  exact ⟨h1, h.one _ (List.getElem_mem _)⟩
theorem length_entC {e : En} (h : DcOk e) (pvv : Value) : (entC e pvv).length = 27 := by
  have hl := h.len
  simp [entC]
  omega
theorem one_set {l : List Value} {i : Nat} {v : Value} (h : ∀ u ∈ l, u.oneCell' = true) (hv : v.oneCell' = true) : ∀ u ∈ l.set i v, u.oneCell' = true := by
  intro u hu
  rcases List.mem_or_eq_of_mem_set hu with h1 | h1
  · exact h u h1
  rw [h1]; exact hv
theorem one_spl {l c : List Value} {o : Nat} (h : ∀ u ∈ l, u.oneCell' = true) (hc : ∀ u ∈ c, u.oneCell' = true) : ∀ u ∈ spl o c l, u.oneCell' = true := by
  intro u hu
  simp only [spl, List.mem_append] at hu
  rcases hu with (h1 | h1) | h1
  · exact h u (List.mem_of_mem_take h1)
  · exact hc u h1
  exact h u (List.mem_of_mem_drop h1)
theorem one_raw (X : List UInt8) (off : Nat) : ∀ k, ∀ u ∈ rawF X off k, u.oneCell' = true := by
  intro k
  induction k with
  | zero => intro u hu; have : (zs_112.all Value.oneCell') = true := rfl; exact List.all_eq_true.1 this u hu
  | succ k ih => exact one_set ih rfl
theorem one_de12 (X : List UInt8) (off : Nat) : ∀ u ∈ de12F X off, u.oneCell' = true := by
  have h0 := one_raw X off 32
  have b := fun (l : List UInt8) => one_map (f := bv) one_bv l
  exact one_spl (one_set (one_set (one_set (one_spl (one_spl (one_set (one_set (one_set (one_set (one_set (one_set h0 rfl) rfl) rfl) rfl) rfl) rfl) (b _)) (b _)) rfl) rfl) rfl) (b _)
theorem EnOk.dcOk {ps : List Value} {ver off : Nat} {X : List UInt8} {e : En} (h : EnOk ps ver X off e) (hX : off + 128 ≤ X.length) (hi : e.ini ≤ 65535) : DcOk e :=
  ⟨by rw [h.dc]; exact length_de12F _ _, by rw [h.dc]; exact one_de12 _ _, by rw [h.dc]; exact ⟨_, de_ot X off hX⟩, hi⟩
theorem one_entC {e : En} (h : DcOk e) {pvv : Value} (hv : pvv.oneCell' = true) : ∀ u ∈ entC e pvv, u.oneCell' = true := by
  intro u hu
  simp only [entC, List.mem_append, List.mem_singleton, List.not_mem_nil, or_false] at hu
  rcases hu with hu | hu | hu | hu | hu | hu | hu | hu | hu
  · rw [hu]; rfl
  · rw [hu]; exact hv
  · rw [hu]; rfl
  · rw [hu]; rfl
  · rw [hu]; rfl
  · exact one_take h.one _ _ u hu
  · exact one_take h.one _ _ u hu
  · rw [hu]; exact (h.at om_).2
  rw [hu]; exact (h.at om_).2
def PathC (pp : Heap) (v : Value) (p : List (List UInt8)) : Prop := (p = [] ∧ v = .slice none 0 0) ∨ (∃ b cap r, p ≠ [] ∧ v = .slice (some ⟨b, 0, none⟩) p.length cap ∧ (b, blk (strs p ++ r) 9) ∈ pp)
theorem PathC.more {pp qq : Heap} {v : Value} {p : List (List UInt8)} (h : PathC pp v p) (hs : ∀ x ∈ pp, x ∈ qq) : PathC qq v p := by
  rcases h with h | ⟨b, cap, r, h1, h2, h3⟩
  · exact .inl h
  exact .inr ⟨b, cap, r, h1, h2, hs _ h3⟩
theorem PathC.one {pp : Heap} {v : Value} {p : List (List UInt8)} (h : PathC pp v p) : v.oneCell' = true ∧ v.cells = #[v] := by
  rcases h with ⟨_, rfl⟩ | ⟨b, cap, r, _, rfl, _⟩ <;> exact ⟨rfl, rfl⟩
inductive RowsOk (fs : List Fil) (pth : Nat → List (List UInt8)) (pp : Heap) : List Nat → List (List Value) → Prop
  | nil : RowsOk fs pth pp [] []
  | snoc {o : List Nat} {rows : List (List Value)} {k : Nat} {f : Fil} {v : Value} (h : RowsOk fs pth pp o rows) (hf : fs[k]? = some f) (hd : DcOk f.en) (hp : PathC pp v (pth k)) : RowsOk fs pth pp (o ++ [k]) (rows ++ [entC f.en v])
theorem RowsOk.more {fs : List Fil} {pth : Nat → List (List UInt8)} {pp qq : Heap} {o : List Nat} {rows : List (List Value)} (h : RowsOk fs pth pp o rows) (hs : ∀ x ∈ pp, x ∈ qq) : RowsOk fs pth qq o rows := by
  induction h with
  | nil => exact .nil
  | snoc h hf hd hp ih => exact .snoc ih hf hd (hp.more hs)
theorem RowsOk.len {fs : List Fil} {pth : Nat → List (List UInt8)} {pp : Heap} {o : List Nat} {rows : List (List Value)} (h : RowsOk fs pth pp o rows) : rows.flatten.length = o.length * 27 ∧ rows.length = o.length := by
  induction h with
  | nil => exact ⟨rfl, rfl⟩
  | snoc h hf hd hp ih =>
    refine ⟨?_, by simp [ih.2]⟩
    rw [List.flatten_append, List.length_append, ih.1]
    simp [length_entC hd, Nat.add_mul]

theorem QW_sub {E : World} {n : Nat} {L : Fra} {H H' : Heap} {x : Exit} {Q : Exit → Act → World → Prop} (hs : H'.Sublist H) (h : QW E n L H' x Q) : QW E n L H x Q := fun a w hf hh => h a w hf (hh.sub hs)
theorem Fx_pathcopy {E : World} {L : Fra} {H L0 pp F : Heap} {dst : Option Tmp} {ty : TypeId} {pos : String} {aft : Array Edge} {gd : Option (Nat × Bool)} {x y : Operand} {b : Nat} {p : List (List UInt8)} (hx : ev L x = some (.slice none 0 0)) (hy : ev L y = some (.slice (some ⟨b, 0, none⟩) p.length p.length)) (hm : (b, blk (strs p) 9) ∈ H) (hH : H.Perm (L0 ++ (pp ++ F))) (hp : p.length ≤ 1000000) :
  Fx Tryd.prog E L H ⟨dst, .call ⟨.builtin .append, #[x, y], #[36, 36]⟩, ty, pos, aft, gd⟩ (fun v H'' => ∃ pp' u, u = v ∧ (∀ x ∈ pp, x ∈ pp') ∧ PathC pp' u p ∧ H'' = L0 ++ (pp' ++ F)) := by
 intro n a w next Q hf hh k
 cases p with
 | nil =>
  refine (Yl.h (Yl_append0 (P := Tryd.prog) hx hy sl_36 (Nat.le_refl _))).fx n a w next Q hf hh ?_
  rintro v w' H' ⟨rfl, rfl⟩ hh'
  exact k _ w' _ ⟨pp, _, rfl, fun _ h => h, .inl ⟨rfl, rfl⟩, rfl⟩ (hh'.perm hH)
 | cons s r =>
  refine Fx_append_nil (P := Tryd.prog) (z0 := .string ⟨#[]⟩) (q := 1) hx hy sl_36 by_9 ze_9 rfl rfl hm (by simp) (by simp) (by simp at hp ⊢; omega) (by simp at hp ⊢; omega) n a w next Q hf hh ?_
  rintro v w' H' ⟨g', l', cap', rfl, h1, h2, h3, rfl⟩ hh'
  have h4 : (strs (s :: r)).take (s :: r).length = strs (s :: r) := List.take_of_length_le (by simp)
  rw [Nat.mul_one, List.drop_zero, h4] at h3
  have e2 : l' = strs (s :: r) ++ l'.drop (s :: r).length := by
   have := List.take_append_drop (s :: r).length l'
   rw [h3] at this; exact this.symm
  refine k _ w' _ ⟨(g', blk l' 9) :: pp, _, rfl, fun x hx => List.Mem.tail _ hx, .inr ⟨g', cap', l'.drop (s :: r).length, by simp, rfl, by rw [← e2]; exact List.Mem.head _⟩, rfl⟩ ?_
  refine hh'.perm ?_
  have q1 : ((g', blk l' 9) :: H).Perm ((g', blk l' 9) :: (L0 ++ (pp ++ F))) := hH.cons _
  exact q1.trans (List.perm_middle (l₁ := L0) (a := (g', blk l' 9)) (l₂ := pp ++ F)).symm
theorem pA {S G O Z : Heap} {x y z b : Nat × Obj} (h : S.Perm (x :: y :: z :: G)) : (b :: (S ++ (O ++ Z))).Perm (x :: y :: z :: b :: ((G ++ O) ++ Z)) := by
 have h1 : (S ++ (O ++ Z)).Perm (x :: y :: z :: (G ++ (O ++ Z))) := h.append_right _
 rw [← List.append_assoc G] at h1
 have h2 : (b :: (S ++ (O ++ Z))).Perm (b :: x :: y :: z :: ((G ++ O) ++ Z)) := h1.cons _
 exact h2.trans (List.perm_middle (l₁ := [x, y, z]) (a := b)).symm
theorem pB {G O Z : Heap} {x y z b : Nat × Obj} : (x :: y :: z :: b :: ((G ++ O) ++ Z)).Perm (O ++ (x :: y :: z :: b :: (G ++ Z))) := by
 rw [List.append_assoc]
 have h1 : (G ++ (O ++ Z)).Perm (O ++ (G ++ Z)) := perm_front G O Z
 have h2 : (x :: y :: z :: b :: (G ++ (O ++ Z))).Perm ([x, y, z, b] ++ (O ++ (G ++ Z))) := List.Perm.append_left [x, y, z, b] h1
 exact h2.trans (perm_front [x, y, z, b] O (G ++ Z))
theorem pC {S G Z : Heap} {x y z b g : Nat × Obj} (h : S.Perm (x :: y :: z :: G)) : (g :: x :: y :: z :: b :: (G ++ Z)).Perm (b :: (S ++ (g :: Z))) := by
 have h1 : (S ++ (g :: Z)).Perm (x :: y :: z :: (G ++ (g :: Z))) := h.append_right _
 have h2 : (G ++ (g :: Z)).Perm (g :: (G ++ Z)) := List.perm_middle
 have h3 : (S ++ (g :: Z)).Perm ([x, y, z] ++ (g :: (G ++ Z))) := h1.trans (List.Perm.append_left [x, y, z] h2)
 have h4 : (S ++ (g :: Z)).Perm (g :: ([x, y, z] ++ (G ++ Z))) := h3.trans List.perm_middle
 have h5 : (b :: (S ++ (g :: Z))).Perm (b :: g :: x :: y :: z :: (G ++ Z)) := h4.cons b
 exact (h5.trans (List.perm_middle (l₁ := [g, x, y, z]) (a := b)).symm).symm
theorem pS {fs : List Fil} {ps : List (Nat × List (List UInt8))} {br k b : Nat} {f : Fil} {ns : List (List UInt8)} (hf : fs[k]? = some f) (hp : (b, ns) ∈ ps) : ∃ G, (filsH br fs ++ psH ps).Perm (enB br f.bf f.bd f.en :: (f.bd, blk f.en.dc 112) :: (b, blk (strs ns) 9) :: G) := by
 obtain ⟨G1, h1⟩ := filsH_split (br := br) hf
 obtain ⟨G2, h2⟩ := psH_split hp
 refine ⟨G1 ++ G2, ?_⟩
 have h3 : (filsH br fs ++ psH ps).Perm ((enB br f.bf f.bd f.en :: (f.bd, blk f.en.dc 112) :: G1) ++ ((b, blk (strs ns) 9) :: G2)) := h1.append h2
 refine h3.trans ?_
 exact ((List.perm_middle (l₁ := G1) (a := (b, blk (strs ns) 9)) (l₂ := G2)).cons _).cons _
structure EtS where
 n : Nat
 o : List Nat
 g : Option Nat
 cap : Nat
 r : List Value
 rows : List (List Value)
 pp : Heap
theorem pE {a b c d e f g h i o : Nat × Obj} {A P X F : Heap} : (i :: a :: b :: c :: d :: e :: f :: h :: g :: o :: ((A ++ (P ++ X)) ++ F)).Perm (o :: ((A ++ P) ++ ([] ++ ([] ++ (i :: h :: a :: b :: c :: d :: e :: f :: g :: (X ++ F)))))) := by
 simp only [List.nil_append]
 have h1 : ((A ++ P) ++ ([i, h, a, b, c, d, e, f, g] ++ (X ++ F))).Perm ([i, h, a, b, c, d, e, f, g] ++ ((A ++ P) ++ (X ++ F))) := perm_front _ _ _
 have h2 : (o :: ((A ++ P) ++ ([i, h, a, b, c, d, e, f, g] ++ (X ++ F)))).Perm ([i, h, a, b, c, d, e, f, g] ++ (o :: ((A ++ P) ++ (X ++ F)))) := (h1.cons o).trans (List.perm_middle (l₁ := [i, h, a, b, c, d, e, f, g]) (a := o)).symm
 have e1 : (A ++ (P ++ X)) ++ F = (A ++ P) ++ (X ++ F) := by simp only [List.append_assoc]
 rw [e1]
 refine List.Perm.trans ?_ h2.symm
 have h3 : (a :: b :: c :: d :: e :: f :: h :: g :: o :: ((A ++ P) ++ (X ++ F))).Perm (h :: a :: b :: c :: d :: e :: f :: g :: o :: ((A ++ P) ++ (X ++ F))) := List.perm_middle (l₁ := [a, b, c, d, e, f]) (a := h)
 exact h3.cons i
theorem Entries_ok (gI cI : Nat) (rI : List Value) (N ss ver sh nd nf dl ml nm num_ : Nat) (B : List UInt8) (ps : List Value) (T : TypeId) (sns : List Nat) (es : List En) (tn : List Tn) (mi : Option (List Nat × List Nat)) (h : FileIn ps B N ss ver sh nd nf dl ml nm num_ sns es tn mi) (hN1 : N ≤ 131072) (hT0 : 2 ≠ gI) (hb : (STv tn).bad = false) (hde : ∀ e ∈ es, DcOk e) (hpl0 : ∀ k, ((STv tn).pth k).length ≤ 1000000) (hol0 : (STv tn).out.length ≤ 1000000) :
  Ct Tryd.prog 18 [.slice (some ⟨gI, 0, none⟩) N cI] [(gI, blk (bys B ++ rI) 5), (2, blk ps T)] (fun v q => ∃ (fs : List Fil) (pth : Nat → List (List UInt8)) (out : List Nat) (g : Option Nat) (cap : Nat) (r : List Value) (rows : List (List Value)) (pp : Heap), pth = (STv tn).pth ∧ out = (STv tn).out ∧ fs.map (fun f => f.en.noPath) = es.map En.noPath ∧ RowsOk fs pth pp out rows ∧ oOk g rows.flatten r out.length cap 27 ∧ v = .tuple #[osl g out.length cap, nv 0] ∧ q = (gI, blk (bys B ++ rI) 5) :: (2, blk ps T) :: (oH g (rows.flatten ++ r) 41 ++ pp)) := by
 have hop := opened_ct gI cI rI N ss ver sh nd nf dl ml nm num_ B ps T sns es tn mi h hN1 hT0
 refine Ct_of Tryd.func18 rfl Tryd.ntmps18 rfl ?_
 intro E F
 simp only [numL, List.nil_append, List.cons_append]
 refine CW_sr ?_
 refine RW_a ?_
 refine RW_a ?_
 refine RW_lv [0] ?_
 refine CW_sr ?_
 refine RW_m ?_
 refine RW_fx rfl rfl rfl (Fx_call ok_31 (vs := [.slice (some ⟨gI, 0, none⟩) N cI]) rfl (Pick.cons (.here _ _) (Pick.cons (.here _ _) (Pick.nil _))) hop) ?_
 rintro _ _ ⟨_, ⟨R, er, hok, hRB, hRN, hRs, hRp, hRT, hRc, hRr, hve, rfl⟩, rfl⟩
 simp only [hb] at hve
 subst hve
 simp only [Rdr.H, List.cons_append, hRp, hRT]
 refine RW_m ?_
 refine RW_l (Yl_extract (v := pv R.br) rfl rfl) ?_
 refine RW_l (Yl_extract (v := pv R.bs) rfl rfl) ?_
 refine RW_l (Yl_extract (v := nv 0) rfl rfl) ?_
 refine RW_a ?_
 refine RW_a ?_
 refine RW_a ?_
 refine RW_lv [4,6] ?_
 refine CW_seq ?_
 refine CW_sr ?_
 refine RW_m ?_
 refine RW_l (Yl_neq rfl rfl) ?_
 refine RW_lv [4,6,17] ?_
 refine CW_cd rfl (fun hc1 => ?_) (fun hc1 => ?_)
 ·exact absurd rfl hc1
 refine (CW_skip (QW_lv [4] ?_))
 refine CW_seq ?_
 obtain ⟨S, hS⟩ : ∃ x, x = STv tn := ⟨_, rfl⟩
 rw [← hS] at hok
 have hall : ∀ k ∈ S.out, ∃ f, R.fs[k]? = some f := by
  intro k hk
  have h1 : k < tn.length := by rw [hS] at hk; exact trav_lt tn _ _ _ _ (by intro k hk; cases hk) k hk
  have h2 : R.fs.length = es.length := by have := congrArg List.length hok.tok.rest; simpa using this
  have h3 := h.link.len
  exact ⟨_, List.getElem?_eq_getElem om_⟩
 have hdcs : ∀ (k : Nat) (f : Fil), R.fs[k]? = some f → DcOk f.en := by
  intro k f hf
  have h1 := congrArg (fun l => l[k]?) hok.tok.rest
  simp only [List.getElem?_map, hf, Option.map_some] at h1
  cases hq : es[k]? with
  | none => rw [hq] at h1; cases h1
  | some e =>
   rw [hq] at h1; simp only [Option.map_some, Option.some.injEq] at h1
   have h2 := hde e (List.mem_of_getElem? hq)
   have a1 : f.en.dc = e.dc := by have := congrArg En.dc h1; exact this
   have a2 : f.en.ini = e.ini := by have := congrArg En.ini h1; exact this
   exact ⟨by rw [a1]; exact h2.len, by rw [a1]; exact h2.one, by rw [a1]; exact h2.ot, by rw [a2]; exact h2.ini⟩
 have hpl : ∀ k, (S.pth k).length ≤ 1000000 := by rw [hS]; exact hpl0
 have houtl : R.out.length ≤ 1000000 := by rw [hok.out, hS]; exact hol0
 refine CW_region ?_
 refine RW_a ?_
 refine RW_lv [4,7] ?_
 refine CW_seq ?_
 refine CW_sr ?_
 refine RW_m ?_
 refine RW_n ?_
 refine RW_f fo_89_4 ?_
 refine RW_h (Yh_ld (v := .slice (some ⟨R.bo, 0, none⟩) R.out.length R.capo) sc_83) ?_
 refine RW_l (Yl_len rfl sl_83) ?_
 refine RW_m ?_
 refine RW_lv [7,22,23,24] ?_
 refine CW_block ?_
 obtain ⟨Y, hY⟩ : ∃ Y, Y = (R.br, blk R.cells 89) :: (R.bh, blk R.hcells 137) :: (R.bhf, blk R.hc 142) :: (R.bb, blk R.lb 5) :: (R.bs, blk [.slice (some ⟨R.bB, 0, none⟩) R.N R.cN] 103) :: (R.bB, blk (bys R.B ++ R.rB) 5) :: (R.g, blk (R.bfs.map pv ++ R.rn) 90) :: (R.X ++ F) := ⟨_, rfl⟩
 obtain ⟨Z, hZ⟩ : ∃ Z, Z = (gI, blk (bys B ++ rI) 5) :: (2, blk ps T) :: Y := ⟨_, rfl⟩
 refine CW_heap (H' := (R.bo, blk (outs R.bfs R.out ++ R.ro) 90) :: ((filsH R.br R.fs ++ psH R.pth) ++ ([] ++ ([] ++ Z)))) (by rw [hZ, hY]; exact pE) ?_
 refine CW_loop (σ := EtS) (fun q => [(7, osl q.g q.n q.cap), (22, .slice (some ⟨R.bo, 0, none⟩) R.out.length R.capo), (23, nv R.out.length), (24, nv q.n)]) (fun q => (R.bo, blk (outs R.bfs R.out ++ R.ro) 90) :: ((filsH R.br R.fs ++ psH R.pth) ++ (oH q.g (q.rows.flatten ++ q.r) 41 ++ (q.pp ++ Z)))) (fun q => q.o = R.out.take q.n ∧ q.n ≤ R.out.length ∧ RowsOk R.fs S.pth q.pp q.o q.rows ∧ oOk q.g q.rows.flatten q.r q.n q.cap 27) (fun q => R.out.length - q.n) ⟨0, [], none, 0, [], [], []⟩ ⟨rfl, Nat.zero_le _, .nil, ⟨rfl, rfl⟩⟩ (Prm.nil _) kp_ ?_
 rintro q ⟨hpre, hqle, hrows, hoo⟩
 refine CW_sr ?_
 refine RW_l (Yl_lss rfl rfl) ?_
 refine RW_lv [7,22,23,24,25] ?_
 refine CW_seq ?_
 refine CW_cd rfl (fun hc2 => ?_) (fun hc2 => ?_)
 ·have hlt : q.n < R.out.length := by omega
  obtain ⟨k, hk⟩ : ∃ k, k = R.out.getD q.n 0 := ⟨_, rfl⟩
  have hkm : k ∈ S.out := by rw [hk, ← hok.out, List.getD_eq_getElem?_getD, List.getElem?_eq_getElem hlt]; exact List.getElem_mem _
  obtain ⟨f, hf⟩ : ∃ f, R.fs[k]? = some f := hall k hkm
  have hbf : R.bfs.getD k 0 = f.bf := by rw [← hok.tok.bf]; simp [List.getD_eq_getElem?_getD, hf]
  obtain ⟨bp, hbp, hpath⟩ := hok.tok.path k hkm f hf
  have hdc : DcOk f.en := hdcs k f hf
  obtain ⟨otx, hot0⟩ := hdc.ot
  have hbo : (outs R.bfs R.out ++ R.ro)[q.n]? = some (pv f.bf) := by rw [List.getElem?_append_left (by rw [List.length_map]; exact hlt), List.getElem?_map, List.getElem?_eq_getElem hlt, ← hbf, hk]; simp [List.getD_eq_getElem?_getD, hlt]
  refine (CW_skip (QW_lv [7,22,23,24] ?_))
  refine CW_seq ?_
  refine CW_block ?_
  refine CW_sr ?_
  refine RW_l (Yl_indexN (b := R.bo) (off := 0) (i := q.n) (o' := q.n) rfl rfl sl_83 om_ om_) ?_
  refine RW_h (Yh_lh (v := pv f.bf) sc_90 hbo) ?_
  refine RW_a ?_
  refine RW_lv [7,9,22,23,24] ?_
  have hzt : Ct Tryd.prog 32 [pv f.bf] [(f.bf, blk (fiF f.en.nm f.en.ini f.en.path f.en.size f.en.pos f.en.cur f.en.rem f.bd R.br) 93), (f.bd, blk f.en.dc 112)] (fun v q => v = nv (otv f.en) ∧ q = [(f.bf, blk (fiF f.en.nm f.en.ini f.en.path f.en.size f.en.pos f.en.cur f.en.rem f.bd R.br) 93), (f.bd, blk f.en.dc 112)]) := by rw [otv_bv hot0]; exact ZZType_ct f.bf f.bd R.br f.en.cur f.en.ini f.en.nm f.en.path f.en.size f.en.pos f.en.rem f.en.dc otx hot0
  obtain ⟨G, hG⟩ := pS (br := R.br) hf hbp
  refine CW_heap (pA hG) ?_
  have hini := hdc.ini
  have hl16 : ((f.en.dc.drop 38).take 16).length = 16 := by have := hdc.len; simp; omega
  have hl4 : ((f.en.dc.drop 54).take 4).length = 4 := by have := hdc.len; simp; omega
  refine CW_draw [31] [(enB R.br f.bf f.bd f.en), (f.bd, blk f.en.dc 112)] mixed sub_ ?_
  refine RD_m 0 ?_
  refine RD_m 1 ?_
  refine RD_n 2 ?_
  refine RD_f 3 fo_93_0 ?_
  refine RD_m 5 ?_
  refine RD_n 6 ?_
  refine RD_f 7 fo_93_2 ?_
  refine RD_m 10 ?_
  refine RD_m 12 ?_
  refine RD_n 13 ?_
  refine RD_f 14 fo_93_3 ?_
  refine RD_m 16 ?_
  refine RD_n 17 ?_
  refine RD_f 18 fo_93_1 ?_
  refine RD_m 21 ?_
  refine RD_m 23 ?_
  refine RD_m 25 ?_
  refine RD_m 27 ?_
  refine RD_h (i := 4) #[true, true, true, true, false, true, true, true, true, true, true, true, true, true, true, true, true, true, true, true, true, true, true, true, true, true, true, true, true, false, false, false, false] rfl rfl rfl rfl kr_ (fun _ _ _ h => h) (Yh_ld (v := .string (bar f.en.nm)) sc_9) ?_
  refine RD_h (i := 8) #[true, true, true, true, true, true, true, true, false, false, true, false, true, true, true, true, true, true, true, true, true, true, false, true, false, true, false, true, false, false, false, false, false] rfl rfl rfl rfl kr_ (fun _ _ _ h => h) (Yh_load (v := .slice (some ⟨bp, 0, none⟩) (S.pth k).length (S.pth k).length) rfl sc_36 mem_ (by rw [← hpath]; rfl)) ?_
  refine RD_h (i := 15) #[true, true, true, true, true, true, true, true, true, true, true, true, true, true, true, false, true, true, true, true, true, true, true, true, true, true, true, true, true, false, false, false, false] rfl rfl rfl rfl kr_ (fun _ _ _ h => h) (Yh_ld (v := .int .i64 f.en.size) sc_2) ?_
  refine RD_h (i := 19) #[true, true, true, true, true, true, true, true, true, true, true, true, true, true, true, true, true, true, true, false, false, true, true, true, true, true, true, true, true, false, false, false, false] rfl rfl rfl rfl kr_ (fun _ _ _ h => h) (Yh_ld (v := .int .u16 (f.en.ini : Int)) sc_47) ?_
  refine RD_l 20 rfl (Yl_conv (c := (f.en.ini : Int)) rfl in_47 in_3 (wi64 om_ om_)) ?_
  refine RD_o 9 ?_
  refine RO_fx rfl rfl rfl rfl (Fx_pathcopy (pp := q.pp) (F := Z) (L0 := (enB R.br f.bf f.bd f.en) :: (f.bd, blk f.en.dc 112) :: (bp, blk (strs (S.pth k)) 9) :: (R.bo, blk (outs R.bfs R.out ++ R.ro) 90) :: (G ++ oH q.g (q.rows.flatten ++ q.r) 41)) rfl rfl mem_ (.refl _) (hpl k)) ?_
  rintro _ _ ⟨pp', pvv, rfl, hpp, hpc, rfl⟩
  simp only [List.cons_append]
  have hcc : ([.string (bar f.en.nm), pvv, nv (otv f.en), .int .i64 f.en.size, .int .i64 (f.en.ini : Int), .agg ((f.en.dc.drop 38).take 16).toArray, .agg ((f.en.dc.drop 54).take 4).toArray, f.en.dc.getD 58 undef, f.en.dc.getD 59 undef]).map Value.cells = ([[.string (bar f.en.nm)], [pvv], [nv (otv f.en)], [.int .i64 f.en.size], [.int .i64 (f.en.ini : Int)], (f.en.dc.drop 38).take 16, (f.en.dc.drop 54).take 4, [f.en.dc.getD 58 undef], [f.en.dc.getD 59 undef]]).map List.toArray := by simp only [List.map_cons, List.map_nil]; rw [hpc.one.2, cells_one (hdc.at (show 58 < 69 by omega)).2, cells_one (hdc.at (show 59 < 69 by omega)).2]; rfl
  have hone27 := one_entC hdc hpc.one.1
  refine ⟨Or.inr sub_, ?_⟩
  refine RD_o 11 ?_
  refine RO_fx rfl rfl rfl rfl (Fx_callQ ok_32 (vs := [pv f.bf]) (R := fun v => v = nv (otv f.en)) rfl (Pick.cons rem_ (Pick.cons rem_ (Pick.nil _))) hzt) ?_
  rintro _ _ ⟨rfl, rfl⟩
  refine ⟨Or.inr sub_, ?_⟩
  refine RD_o 22 ?_
  refine RO_fx rfl rfl rfl rfl (Fx_callQ ok_33 (vs := [pv f.bf]) (R := fun v => v = .agg ((f.en.dc.drop 38).take 16).toArray) rfl (Pick.cons rem_ (Pick.cons rem_ (Pick.nil _))) (ID_ct f.bf f.bd R.br f.en.cur f.en.ini f.en.nm f.en.path f.en.size f.en.pos f.en.rem f.en.dc hdc.len hdc.one)) ?_
  rintro _ _ ⟨rfl, rfl⟩
  refine ⟨Or.inr sub_, ?_⟩
  refine RD_o 24 ?_
  refine RO_fx rfl rfl rfl rfl (Fx_callQ ok_34 (vs := [pv f.bf]) (R := fun v => v = .agg ((f.en.dc.drop 54).take 4).toArray) rfl (Pick.cons rem_ (Pick.cons rem_ (Pick.nil _))) (ZZState_ct f.bf f.bd R.br f.en.cur f.en.ini f.en.nm f.en.path f.en.size f.en.pos f.en.rem f.en.dc hdc.len hdc.one)) ?_
  rintro _ _ ⟨rfl, rfl⟩
  refine ⟨Or.inr sub_, ?_⟩
  refine RD_o 26 ?_
  refine RO_fx rfl rfl rfl rfl (Fx_callQ ok_35 (vs := [pv f.bf]) (R := fun v => v = f.en.dc.getD 58 undef) rfl (Pick.cons rem_ (Pick.cons rem_ (Pick.nil _))) (Created_ct f.bf f.bd R.br f.en.cur f.en.ini f.en.nm f.en.path f.en.size f.en.pos f.en.rem f.en.dc _ (hdc.at (show 58 < 69 by omega)).1)) ?_
  rintro _ _ ⟨rfl, rfl⟩
  refine ⟨Or.inr sub_, ?_⟩
  refine RD_o 28 ?_
  refine RO_fx rfl rfl rfl rfl (Fx_callQ ok_36 (vs := [pv f.bf]) (R := fun v => v = f.en.dc.getD 59 undef) rfl (Pick.cons rem_ (Pick.cons rem_ (Pick.nil _))) (Modified_ct f.bf f.bd R.br f.en.cur f.en.ini f.en.nm f.en.path f.en.size f.en.pos f.en.rem f.en.dc _ (hdc.at (show 59 < 69 by omega)).1)) ?_
  rintro _ _ ⟨rfl, rfl⟩
  refine ⟨Or.inr sub_, ?_⟩
  refine RD_l 29 rfl (Yl_buildL (vs := [.string (bar f.en.nm), pvv, nv (otv f.en), .int .i64 f.en.size, .int .i64 (f.en.ini : Int), .agg ((f.en.dc.drop 38).take 16).toArray, .agg ((f.en.dc.drop 54).take 4).toArray, f.en.dc.getD 58 undef, f.en.dc.getD 59 undef]) (css := [[.string (bar f.en.nm)], [pvv], [nv (otv f.en)], [.int .i64 f.en.size], [.int .i64 (f.en.ini : Int)], (f.en.dc.drop 38).take 16, (f.en.dc.drop 54).take 4, [f.en.dc.getD 58 undef], [f.en.dc.getD 59 undef]]) (zc := zs_41) (cs := (entC f.en pvv)) pl_41 ze_41 rfl rfl hcc (by refine ⟨rfl, rfl, rfl, rfl, rfl, ?_, ?_, ?_, ?_, trivial⟩ <;> simp only [hl16, hl4] <;> rfl) (by show 27 = (entC f.en pvv).length; rw [length_entC hdc]) rfl) ?_
  refine RD_o 30 ?_
  refine RO_fx rfl rfl rfl rfl (Fx_lit (vs := [.agg (entC f.en pvv).toArray]) (css := [(entC f.en pvv)]) (cs := (entC f.en pvv)) sl_33 ze_41 rfl rfl rfl rfl rfl (by intro c hc; rw [List.mem_singleton.1 hc]; exact length_entC hdc pvv) (by simp)) ?_
  rintro _ _ ⟨b58, rfl, rfl⟩
  refine ⟨Or.inr sub_, ?_⟩
  refine RD_o 31 ?_
  refine RO_fx rfl rfl rfl rfl (Fx_appOG (o := q.g) (xs := q.rows.flatten) (r := q.r) (news := (entC f.en pvv)) (T := 41) (n := q.n) (cap := q.cap) (m := 1) (c := 1) (R := (enB R.br f.bf f.bd f.en) :: (f.bd, blk f.en.dc 112) :: (bp, blk (strs (S.pth k)) 9) :: (R.bo, blk (outs R.bfs R.out ++ R.ro) 90) :: (G ++ (pp' ++ Z))) rfl rfl sl_33 by_41 ze_41 rfl (.here _ _) pB hoo (by rw [length_entC hdc]) hone27 om_ om_ om_ om_) ?_
  rintro _ _ ⟨g', cap', r', rfl, hoo', rfl⟩
  refine ⟨Or.inl kr_, ?_⟩
  refine RD_a 32 ?_
  refine RD_done kr_ ?_
  refine QW_normal_block ?_
  refine (QW_lv [7,22,23,24] ?_)
  refine CW_region ?_
  refine RW_l (Yl_add (c := ((q.n + 1 : Nat) : Int)) rfl rfl (wi64 om_ om_)) ?_
  refine RW_m ?_
  refine RW_nil ?_
  have hrows2 : RowsOk R.fs S.pth pp' (q.o ++ [k]) (q.rows ++ [entC f.en pvv]) := .snoc (hrows.more hpp) hf hdc hpc
  refine QW_heap (pC hG) ?_
  refine QW_round (σ := EtS) ⟨q.n + 1, q.o ++ [k], some g', cap', r', q.rows ++ [entC f.en pvv], pp'⟩ ⟨?_, by simp only; omega, hrows2, ?_⟩ (by simp only; omega) ?_ kp_
  ·simp only; rw [List.take_succ_eq_append_getElem hlt, ← hpre, hk]; simp [List.getD_eq_getElem?_getD, hlt]
  ·simp only [List.flatten_append, List.flatten_cons, List.flatten_nil, List.append_nil]; exact hoo'
  simp only [oH, List.flatten_append, List.flatten_cons, List.flatten_nil, List.append_nil, List.cons_append, List.nil_append]; exact Prm.nil _
 refine CW_exit ?_
 refine QW_exit_then ?_
 refine QW_exit_then ?_
 refine QW_exit_block ?_
 refine (QW_lv [7] ?_)
 refine CW_sr ?_
 refine RW_m ?_
 refine RW_a ?_
 refine RW_a ?_
 refine RW_lv [2,3] ?_
 refine CW_ret ?_
 have hqn : q.o.length = q.n := by rw [hpre, List.length_take]; omega
 have hqo : q.o = S.out := by rw [hpre, show q.n = R.out.length by omega, List.take_length, hok.out]
 refine QW_sub (H' := oH q.g (q.rows.flatten ++ q.r) 41 ++ (q.pp ++ ((gI, blk (bys B ++ rI) 5) :: (2, blk ps T) :: F))) ?_ ?_
 ·refine .cons _ (List.Sublist.trans ?_ (List.sublist_append_right _ _)); refine List.Sublist.append_left (List.Sublist.append_left ?_ _) _; rw [hZ, hY]; exact .cons_cons _ (.cons_cons _ (.cons _ (.cons _ (.cons _ (.cons _ (.cons _ (.cons _ (.cons _ (List.sublist_append_right _ _)))))))))
 refine QW_heap (H' := ((gI, blk (bys B ++ rI) 5) :: (2, blk ps T) :: (oH q.g (q.rows.flatten ++ q.r) 41 ++ q.pp)) ++ F) ?_ ?_
 ·have q1 : (oH q.g (q.rows.flatten ++ q.r) 41 ++ (q.pp ++ ([(gI, blk (bys B ++ rI) 5), (2, blk ps T)] ++ F))).Perm ([(gI, blk (bys B ++ rI) 5), (2, blk ps T)] ++ ((oH q.g (q.rows.flatten ++ q.r) 41 ++ q.pp) ++ F)) := by rw [← List.append_assoc]; exact perm_front _ _ _
  exact q1
 exact QW_ret2 rfl rfl rfl _ ⟨R.fs, S.pth, q.o, q.g, q.cap, q.r, q.rows, q.pp, by rw [hS], by rw [hqo, hS], hok.tok.rest, hrows, by rw [hqn]; exact hoo, by rw [hqn]; rfl, rfl⟩ (Prm.nil _)

theorem cut_cut (B : List UInt8) {n o k : Nat} (h : o + k ≤ n) : (((B.drop 0).take n).drop o).take k = (B.drop o).take k := by
  rw [List.drop_zero, List.drop_take, List.take_take, Nat.min_eq_left om_]
theorem hc_at (X : List UInt8) : (hc0F X)[0]? = some (.int .u64 ((num ((X.drop 0).take 8) : Nat) : Int)) ∧ (hc0F X)[18]? = some (.int .u16 ((num ((X.drop 26).take 2) : Nat) : Int)) ∧ (hc0F X)[21]? = some (.int .u16 ((num ((X.drop 30).take 2) : Nat) : Int)) ∧ (hc0F X)[30]? = some (.int .u32 ((num ((X.drop 40).take 4) : Nat) : Int)) ∧
    (hc0F X)[31]? = some (.int .u32 ((num ((X.drop 44).take 4) : Nat) : Int)) ∧ (hc0F X)[32]? = some (.int .u32 ((num ((X.drop 48).take 4) : Nat) : Int)) ∧ (hc0F X)[41]? = some (.int .u32 ((num ((X.drop 60).take 4) : Nat) : Int)) ∧ (hc0F X)[42]? = some (.int .u32 ((num ((X.drop 64).take 4) : Nat) : Int)) ∧ (hc0F X)[44]? = some (.int .u32 ((num ((X.drop 72).take 4) : Nat) : Int)) := by
  have hl : zs_142.length = 154 := rfl
  unfold hc0F
  refine ⟨?_, ?_, ?_, ?_, ?_, ?_, ?_, ?_, ?_⟩ <;> repeat (first | rw [List.getElem?_set_self (by simp only [List.length_set, hl]; omega)] | rw [List.getElem?_set_ne om_])
theorem num_zeros (k : Nat) : num (List.replicate k (0 : UInt8)) = 0 := by
  induction k with
  | zero => rfl
  | succ k ih => simp [List.replicate_succ, num, ih]
section
variable {v st : Nat} {xs : List Nd}
theorem headOk (h : Ok xs) (hn : ∀ x ∈ xs, x.name.length ≤ 31) (hv : v = 3 ∨ v = 4) :
    HdOk (((writeF v st xs).drop 0).take 512) v (if v = 4 then 12 else 9) (if v = 4 then dsF v xs else 0) (ftF v xs) ((chF v st xs).outs.getD 0 0) ((chF v st xs).outs.getD 1 0) (mfF v xs) := by
  have hN := NF_le (v := v) h
  have hd := dsF_le (v := v) h
  have hf := ftF_ok (v := v) h
  have hm := mfF_le (v := v) h
  have hl := length_ch (v := v) (st := st) h
  have ho := (ch_mem (v := v) (st := st) h).2
  obtain ⟨h0, h26, h30, h40, h44, h48, h60, h64, h72⟩ := head_at (N := NF v xs) (size := sizeF v) (v := v) (dirs := dsF v xs) (fats := ftF v xs) (s0 := (chF v st xs).outs.getD 0 0) (s1 := (chF v st xs).outs.getD 1 0) (nm := mfF v xs) hN.1 rfl
  have W : ∀ {o : Nat} {c : List UInt8}, o + c.length ≤ 76 → Holds (NF v xs) o c (headF (sizeF v) v (dsF v xs) (ftF v xs) ((chF v st xs).outs.getD 0 0) ((chF v st xs).outs.getD 1 0) (mfF v xs) (List.replicate (NF v xs) 0)) → Holds (NF v xs) o c (writeF v st xs) := fun ho hh => write_head h hn ho hh
  obtain ⟨c0, c18, c21, c30, c31, c32, c41, c42, c44⟩ := hc_at (((writeF v st xs).drop 0).take 512)
  have r4 : (List.replicate 4 (0 : UInt8)).length = 4 := rfl
  have b0 : (chF v st xs).outs.getD 0 0 < 4294967296 := getD_lt ho om_
  have b1 : (chF v st xs).outs.getD 1 0 < 4294967296 := getD_lt ho om_
  have hsh : shiftF (sizeF v) = if v = 4 then 12 else 9 := by rcases hv with rfl | rfl <;> rfl
  refine ⟨?_, ?_, ?_, ?_, ?_, ?_, ?_, ?_, ?_⟩
  · rw [hc_lo _ _ om_, c0, cut_cut _ om_, (W (by simp [magic]) h0).cut' (n := 8) rfl]; rfl
  · rw [hc_lo _ _ om_, c18, cut_cut _ om_, (W (by rw [length_le]; omega) h26).num (by rcases hv with rfl | rfl <;> decide)]
  · rw [hc_lo _ _ om_, c21, cut_cut _ om_, (W (by rw [length_le]; omega) h30).num (by rw [hsh]; split <;> decide), hsh]
  · rw [hc_lo _ _ om_, c30, cut_cut _ om_]
    by_cases h4 : v = 4
    · rw [if_pos h4] at h40 ⊢
      rw [(W (by rw [length_le]; omega) h40).num (by have : (256 : Nat) ^ 4 = 4294967296 := rfl; omega)]; rfl
    rw [if_neg h4] at h40 ⊢
    rw [(W (by rw [r4]; omega) h40).cut' (n := 4) r4, num_zeros]; rfl
  · rw [hc_lo _ _ om_, c31, cut_cut _ om_, (W (by rw [length_le]; omega) h44).num (by have : (256 : Nat) ^ 4 = 4294967296 := rfl; omega)]; rfl
  · rw [hc_lo _ _ om_, c32, cut_cut _ om_, (W (by rw [length_le]; omega) h48).num (by have : (256 : Nat) ^ 4 = 4294967296 := rfl; omega)]; rfl
  · rw [hc_lo _ _ om_, c41, cut_cut _ om_, (W (by rw [length_le]; omega) h60).num (by have : (256 : Nat) ^ 4 = 4294967296 := rfl; omega)]; rfl
  · rw [hc_lo _ _ om_, c42, cut_cut _ om_, (W (by rw [length_le]; omega) h64).num (by have : (256 : Nat) ^ 4 = 4294967296 := rfl; omega)]; rfl
  rw [hc_lo _ _ om_, c44, cut_cut _ om_, (W (by rw [r4]; omega) h72).cut' (n := 4) r4, num_zeros]; rfl
theorem chainOk (h : Ok xs) (hn : ∀ x ∈ xs, x.name.length ≤ 31) {i : Nat} (hi : i < xs.length + 3) :
    ChOk (writeF v st xs) (NF v xs) (sizeF v) (hcF (((writeF v st xs).drop 0).take 512) 109) (snF v st xs i) := by
  have hT := (NF_le (v := v) h).2.2
  have hp : sizeF v / 4 = perF v := rfl
  have hf := ftF_ok (v := v) h
  have key : ∀ j, j < (snF v st xs i).length → snx (snF v st xs i) j = (plF v st xs).getD (ixF v xs i j) 0 := fun j hj => by
    rw [snx_in _ hj, snF_at (by rw [length_snF] at hj; exact hj)]
  refine ⟨snF_nodup h hi, fun j hj => ?_, fun j hj => ?_, fun j hj => ?_⟩
  · have hj' : j < (csF v xs).getD i 0 := by rw [length_snF] at hj; exact hj
    rw [key j hj]
    have := sn_lt (st := st) h hi hj'
    omega
  · have hj' : j < (csF v xs).getD i 0 := by rw [length_snF] at hj; exact hj
    rw [key j hj]
    have := se_le (st := st) h (ix_lt h hi hj')
    unfold seF at this
    rw [Nat.mul_comm (sizeF v), Nat.add_comm 1] at this
    exact this
  have hj' : j < (csF v xs).getD i 0 := by rw [length_snF] at hj; exact hj
  have hsn := sn_lt (st := st) h hi hj'
  obtain ⟨f1, f2, f3⟩ := fat_at (st := st) h hn hsn
  have hnx := sn_next (st := st) h hi hj'
  rw [key j hj, hp]
  refine ⟨(plF v st xs).getD ((plF v st xs).getD (ixF v xs i j) 0 / perF v) 0, _, ?_, by omega, by omega, rfl, ?_, ?_⟩
  · rw [hc_hi _ _ 109 om_ om_, cut_cut _ om_, (write_dif (v := v) (st := st) h hn f1).num (by have : (256 : Nat) ^ 4 = 4294967296 := rfl; omega)]; rfl
  · have := f3.fit; rw [length_le] at this; exact this
  have hb : (chF v st xs).table.getD ((plF v st xs).getD (ixF v xs i j) 0) 0 < 256 ^ 4 := by
    rw [hnx]; split
    · rename_i h2
      have := sn_lt (st := st) h hi h2
      have : (256 : Nat) ^ 4 = 4294967296 := rfl
      omega
    decide
  rw [f3.num hb, hnx]
  split
  · rename_i h2; rw [key (j + 1) (by rw [length_snF]; exact h2)]
  rename_i h2; rw [snx_end _ (by rw [length_snF]; omega)]
end

def NmOk (ps : List Value) (x : Nd) (nm : List UInt8) : Prop := 1 ≤ x.name.length ∧ x.name.length ≤ 31 ∧ (∀ c ∈ x.name, c.toNat < 128) ∧
  ∃ p c : Int, ps[(x.name.getD 0 0).toNat]? = some (.int .u8 p) ∧ (∀ w, (Op.intBits .and .u8 p 128).run Tryd.prog w = .ok (.int .u8 c) w) ∧ nm = x.name.drop (if c = 0 then 1 else 0)
theorem le_take (n : Nat) : (le n 8).take 4 = le n 4 := by
  unfold le
  rw [← List.map_take]; rfl
theorem ofNat_toNat (l : List UInt8) : (l.map UInt8.toNat).map UInt8.ofNat = l := by
  rw [List.map_map]
  conv => rhs; rw [← List.map_id l]
  apply List.map_congr_left
  intro x _
  simp
theorem getD_toNat (l : List UInt8) (j : Nat) : (l.map UInt8.toNat).getD j 0 = (l.getD j 0).toNat := by
  simp only [List.getD_eq_getElem?_getD, List.getElem?_map]
  cases l[j]? <;> rfl
theorem enOk_named {ps : List Value} {ver size off st ln : Nat} {X : List UInt8} {x : Nd} {kd : UInt8} {nm : List UInt8} (h : EntAt size off x kd st ln X) (hoff : off + 128 ≤ size) (hn : NmOk ps x nm) (hst : st < 4294967296) (hln : ln < 4294967296) :
    EnOk ps ver X off ⟨nm, (x.name.getD 0 0).toNat, .slice none 0 0, ((if kd.toNat = 2 then ln else 0 : Nat) : Int), 0, st, 0, de12F X off⟩ := by
  have hX : off + 128 ≤ X.length := by rw [h.st.len]; exact hoff
  have p4 : (256 : Nat) ^ 4 = 4294967296 := rfl
  have p8 : (256 : Nat) ^ 8 = 18446744073709551616 := rfl
  have p2 : (256 : Nat) ^ 2 = 65536 := rfl
  obtain ⟨n1, n2, n3, p, c, n4, n5, n6⟩ := hn
  refine ⟨rfl, rfl, rfl, rfl, ?_, ?_, .inr ?_⟩
  · rw [de_st X off hX, h.st.num om_]
  · refine ⟨kd, (X.drop (off + 120)).take 8, if kd.toNat = 2 then ln else 0, rfl, ?_, ?_, ?_, ?_, ?_⟩
    · rw [de_ot X off hX, h.kd.getD]
    · exact len_drop_take X _ 8 om_
    · intro j hj; rw [de_sz X off hX hj, gdt _ _ hj]
    · rw [h.ln.num om_]; omega
    rw [h.ln.cut' (n := 8) (length_le _ _), le_take, num_le_of_lt om_, num_le_of_lt om_]
    split <;> simp
  have hnl : num ((X.drop (off + 64)).take 2) = 2 * x.name.length + 2 := h.nl.num om_
  have e1 : (2 * x.name.length + 2) / 2 - 1 = x.name.length := by omega
  refine ⟨2 * x.name.length + 2, x.name.map UInt8.toNat, p, c, ?_, by omega, by omega, by simp, ?_, ?_, ?_, n5, ?_, ?_⟩
  · rw [de_nl X off hX, hnl]
  · intro j hj
    rw [e1] at hj
    rw [de_raw X off hX om_, (h.name j hj).num (by have := (x.name.getD j 0).toNat_lt; omega), getD_toNat]
  · intro y hy
    obtain ⟨z, hz, rfl⟩ := List.mem_map.1 hy
    exact n3 z hz
  · rw [getD_toNat]; exact n4
  · show nm = _
    rw [n6, ← List.map_drop, ofNat_toNat]
  show (x.name.getD 0 0).toNat = _
  rw [getD_toNat]
theorem enOk_empty {ps : List Value} {ver size off : Nat} {X : List UInt8} (h : EmpAt size off X) (hoff : off + 128 ≤ size) : EnOk ps ver X off ⟨[], 0, .slice none 0 0, ((0 : Nat) : Int), 0, 0, 0, de12F X off⟩ := by
  have hX : off + 128 ≤ X.length := by rw [h.st.len]; exact hoff
  have h1 : Holds size (off + 64) (List.replicate 2 0) X := by
    have := h.kd.sub (a := 0) (b := 2) (by simp); exact this
  have h2 : Holds size (off + 66) [0] X := by
    have := h.kd.sub (a := 2) (b := 1) (by simp); exact this
  have h3 : Holds size (off + 116) (List.replicate 4 0) X := by
    have := h.st.sub (a := 36) (b := 4) (by simp); exact this
  have h4 : Holds size (off + 120) (List.replicate 8 0) X := by
    have := h.st.sub (a := 40) (b := 8) (by simp); exact this
  have e4 : (X.drop (off + 120)).take 8 = List.replicate 8 0 := h4.cut' (n := 8) rfl
  refine ⟨rfl, rfl, rfl, rfl, ?_, ?_, .inl ⟨0, ?_, by omega, rfl, rfl⟩⟩
  · rw [de_st X off hX, h3.cut' (n := 4) rfl, num_zeros]
  · refine ⟨0, (X.drop (off + 120)).take 8, 0, rfl, ?_, ?_, ?_, ?_, ?_⟩
    · rw [de_ot X off hX, h2.getD]
    · exact len_drop_take X _ 8 om_
    · intro j hj; rw [de_sz X off hX hj, gdt _ _ hj]
    · rw [e4, num_zeros]; omega
    simp
  rw [de_nl X off hX, h1.cut' (n := 2) rfl, num_zeros]
section
variable (v st : Nat) (xs : List Nd) (nmF : Nat → List UInt8)
def dsecF (j : Nat) : List UInt8 := ((ndsF v st xs).1.drop (j * sizeF v)).take (sizeF v)
def szOfN (k : Nat) : Nat := if (kdF xs k).toNat = 2 then lnF xs k else 0
def enF (k : Nat) : En := if k < xs.length then ⟨nmF k, ((xs.getD k default).name.getD 0 0).toNat, .slice none 0 0, (szOfN xs k : Int), 0, stF v st xs k, 0, de12F (dsecF v st xs (k / (sizeF v / 128))) (k % (sizeF v / 128) * 128)⟩
  else ⟨[], 0, .slice none 0 0, ((0 : Nat) : Int), 0, 0, 0, de12F (dsecF v st xs (k / (sizeF v / 128))) (k % (sizeF v / 128) * 128)⟩
def tnF (k : Nat) : Tn := if k < xs.length then ⟨nmF k, lnkF (xs.getD k default).left, lnkF (xs.getD k default).child, lnkF (xs.getD k default).right⟩ else ⟨[], FREE, FREE, FREE⟩
def cntF : Nat := dsF v xs * (sizeF v / 128)
def esF : List En := (List.range (cntF v xs)).map (enF v st xs nmF)
def tnsF : List Tn := (List.range (cntF v xs)).map (tnF xs nmF)
def miniF : Option (List Nat × List Nat) := if miF xs = 0 then none else some (snF v st xs 1, snF v st xs 2)
variable {v st xs nmF}
theorem range_getD {α : Type} [Inhabited α] (f : Nat → α) {n k : Nat} (hk : k < n) : ((List.range n).map f).getD k default = f k := by
  rw [List.getD_eq_getElem?_getD, List.getElem?_map, List.getElem?_range hk]; rfl
theorem nds_at (ps : List Value) (h : Ok xs) (hnm : ∀ k, k < xs.length → NmOk ps (xs.getD k default) (nmF k)) : ∀ x ∈ xs, x.name.length ≤ 31 := by
  intro x hx
  obtain ⟨k, hk, rfl⟩ := List.mem_iff_getElem.1 hx
  have := (hnm k hk).2.1
  have e : xs.getD k default = xs[k] := by simp [List.getD_eq_getElem?_getD, hk]
  rwa [e] at this
theorem lnF_lt (h : Ok xs) {k : Nat} (hk : k < xs.length) : lnF xs k < 4294967296 := by
  have h1 := miF_le h
  have h2 := small_at h hk
  unfold lnF
  split
  · omega
  split <;> omega
theorem stF_lt (h : Ok xs) {k : Nat} (hk : k < xs.length) : stF v st xs k < 4294967296 := by
  have h1 := (ch_mem (v := v) (st := st) h).2
  have h2 := (mch_mem (v := v) (st := st) h).2
  have h3 := length_ch (v := v) (st := st) h
  have h4 := length_mch (v := v) (st := st) h
  unfold stF
  split
  · exact getD_lt h1 om_
  split
  · split
    · exact getD_lt h2 om_
    exact getD_lt h1 om_
  omega
theorem enF_ok (ps : List Value) (h : Ok xs) (hnm : ∀ k, k < xs.length → NmOk ps (xs.getD k default) (nmF k)) {j i : Nat} (hj : j < dsF v xs) (hi : i < sizeF v / 128) : EnOk ps v (dsecF v st xs j) (i * 128) (enF v st xs nmF (j * (sizeF v / 128) + i)) := by
  have hn := nds_at ps h hnm
  have hz : sizeF v / 128 * 128 = sizeF v := by rcases sizeF_or v with e | e <;> rw [e]
  have e1 : (j * (sizeF v / 128) + i) / (sizeF v / 128) = j := by
    rw [Nat.mul_comm, Nat.mul_add_div om_, Nat.div_eq_of_lt hi]; omega
  have e2 : (j * (sizeF v / 128) + i) % (sizeF v / 128) = i := by
    rw [Nat.mul_comm, Nat.mul_add_mod, Nat.mod_eq_of_lt hi]
  unfold enF
  rw [e1, e2]
  split
  · rename_i hk
    exact enOk_named (ent_X (st := st) h hn hj hi rfl hk) om_ (hnm _ hk) (stF_lt h hk) (lnF_lt h hk)
  rename_i hk
  exact enOk_empty (emp_X (st := st) h hn hj hi rfl om_) om_
theorem link_at (ps : List Value) (h : Ok xs) (hnm : ∀ k, k < xs.length → NmOk ps (xs.getD k default) (nmF k)) (hlk : ∀ x ∈ xs, x.left ≤ 4294967295 ∧ x.right ≤ 4294967295 ∧ x.child ≤ 4294967295) : LinkOk (tnsF v xs nmF) (esF v st xs nmF) := by
  have hn := nds_at ps h hnm
  have hz : sizeF v / 128 * 128 = sizeF v := by rcases sizeF_or v with e | e <;> rw [e]
  have hpos : 0 < sizeF v / 128 := by rcases sizeF_or v with e | e <;> rw [e] <;> omega
  have p4 : (256 : Nat) ^ 4 = 4294967296 := rfl
  have hlt : ∀ y : Int, y ≤ 4294967295 → lnkF y < 256 ^ 4 := fun y hy => by
    unfold lnkF
    split
    · omega
    decide
  have hx : ∀ k, k < xs.length → xs.getD k default ∈ xs := fun k hk => by rw [List.getD_eq_getElem?_getD, List.getElem?_eq_getElem hk]; exact List.getElem_mem _
  refine ⟨by simp [tnsF, esF], ?_, ?_⟩
  · intro k e he
    have hk : k < cntF v xs := by
      rcases Nat.lt_or_ge k (cntF v xs) with h1 | h1
      · exact h1
      rw [List.getElem?_eq_none (by simp [esF]; exact h1)] at he; cases he
    have he' : e = enF v st xs nmF k := by
      unfold esF at he
      rw [List.getElem?_map, List.getElem?_range hk] at he
      exact (Option.some.inj he).symm
    subst he'
    have ht : (tnsF v xs nmF).getD k default = tnF xs nmF k := range_getD _ hk
    rw [ht]
    have hj : k / (sizeF v / 128) < dsF v xs := (Nat.div_lt_iff_lt_mul hpos).2 hk
    have hi : k % (sizeF v / 128) < sizeF v / 128 := Nat.mod_lt _ hpos
    have hkk : k = k / (sizeF v / 128) * (sizeF v / 128) + k % (sizeF v / 128) := by rw [Nat.mul_comm]; exact (Nat.div_add_mod _ _).symm
    by_cases hkl : k < xs.length
    · have ha := ent_X (st := st) h hn hj hi hkk hkl
      have hX : k % (sizeF v / 128) * 128 + 128 ≤ (dsecF v st xs (k / (sizeF v / 128))).length := by unfold dsecF; rw [ha.st.len]; omega
      obtain ⟨l1, l2, l3⟩ := hlk _ (hx k hkl)
      unfold enF tnF
      rw [if_pos hkl, if_pos hkl]
      refine ⟨?_, ?_, ?_, rfl⟩
      · rw [de_left _ _ hX]
        have := (ha.lnk 0 om_).num (hlt _ l1)
        unfold dsecF
        rw [this]; rfl
      · rw [de_right _ _ hX]
        have := (ha.lnk 1 om_).num (hlt _ l2)
        unfold dsecF
        rw [this]; rfl
      rw [de_child _ _ hX]
      have := (ha.lnk 2 om_).num (hlt _ l3)
      unfold dsecF
      rw [this]; rfl
    have ha := emp_X (st := st) h hn hj hi hkk om_
    have hX : k % (sizeF v / 128) * 128 + 128 ≤ (dsecF v st xs (k / (sizeF v / 128))).length := by unfold dsecF; rw [ha.st.len]; omega
    unfold enF tnF
    rw [if_neg hkl, if_neg hkl]
    refine ⟨?_, ?_, ?_, rfl⟩
    · rw [de_left _ _ hX]
      have := (ha.lnk 0 om_).num (by decide)
      unfold dsecF
      rw [this]
    · rw [de_right _ _ hX]
      have := (ha.lnk 1 om_).num (by decide)
      unfold dsecF
      rw [this]
    rw [de_child _ _ hX]
    have := (ha.lnk 2 om_).num (by decide)
    unfold dsecF
    rw [this]
  intro k hk
  have hk' : k < cntF v xs := by simpa [tnsF] using hk
  rw [show (tnsF v xs nmF).getD k default = tnF xs nmF k from range_getD _ hk']
  unfold tnF
  split
  · rename_i hkl
    obtain ⟨l1, l2, l3⟩ := hlk _ (hx k hkl)
    have q1 := hlt _ l1
    have q2 := hlt _ l2
    have q3 := hlt _ l3
    simp only
    omega
  simp
theorem fileIn (ps : List Value) (h : Ok xs) (hv : v = 3 ∨ v = 4) (hnm : ∀ k, k < xs.length → NmOk ps (xs.getD k default) (nmF k)) (hlk : ∀ x ∈ xs, x.left ≤ 4294967295 ∧ x.right ≤ 4294967295 ∧ x.child ≤ 4294967295) :
    FileIn ps (writeF v st xs) (NF v xs) (sizeF v) v (if v = 4 then 12 else 9) (if v = 4 then dsF v xs else 0) (ftF v xs) ((chF v st xs).outs.getD 0 0) ((chF v st xs).outs.getD 1 0) (mfF v xs) (sizeF v / 128) (snF v st xs 0) (esF v st xs nmF) (tnsF v xs nmF) (miniF v st xs) := by
  have hn := nds_at ps h hnm
  have hN := NF_le (v := v) h
  have hd := dsF_le (v := v) h
  have hf := ftF_ok (v := v) h
  have hm := mfF_le (v := v) h
  have hmi := miF_le h
  have hs := size_ge v
  have c2 := cs2_le (v := v) h
  have hp4 := per4 v
  have hpos : 0 < sizeF v / 128 := by omega
  have hz : sizeF v / 128 * 128 = sizeF v := by rcases sizeF_or v with e | e <;> rw [e]
  have hl0 : (snF v st xs 0).length = dsF v xs := by rw [length_snF, cs_0]
  have hsn : ∀ i j, j < (csF v xs).getD i 0 → snx (snF v st xs i) j = (plF v st xs).getD (ixF v xs i j) 0 := fun i j hj => by rw [snx_in _ (by rw [length_snF]; exact hj), snF_at hj]
  have hsnx0 : ∀ i, i < xs.length + 3 → (csF v xs).getD i 0 ≠ 0 → (chF v st xs).outs.getD i 0 = snx (snF v st xs i) 0 := fun i hi h0 => by rw [out_start h hi, if_neg h0, hsn i 0 om_]
  have hT : TF v xs = (csF v xs).sum + ftF v xs := rfl
  have hsum := cs_sum (v := v) h
  refine ⟨headOk h hn hv, ?_, ?_, hs, ?_, ?_, ?_, chainOk h hn om_, ?_, ?_, ?_, ?_, rfl, ?_, ?_, ?_, ?_, link_at ps h hnm hlk, length_writeF h hn, by omega, hN.1⟩
  · rcases hv with rfl | rfl <;> simp
  · rcases hv with rfl | rfl <;> rfl
  · have : sizeF v / 4 ≤ 1024 := by omega
    have := Nat.mul_le_mul this hm.1
    omega
  · rcases sizeF_or v with e | e
    · have e4 : perF v = 128 := by unfold perF; rw [e]
      have : partsF (miF xs * 64) (sizeF v) ≤ ftF v xs * 128 := by rw [← e4]; omega
      have hle := le_partsF_mul (n := miF xs * 64) (p := sizeF v) om_
      rw [e] at hle this ⊢
      have hmf : mfF v xs * 128 < miF xs + 128 := by unfold mfF; rw [e4]; exact partsF_mul_lt om_
      have : miF xs * 64 ≤ ftF v xs * 128 * 512 := Nat.le_trans hle (Nat.mul_le_mul_right _ this)
      omega
    rw [e]; omega
  · have : ftF v xs * (sizeF v / 64) ≤ 10 * 64 := Nat.mul_le_mul hf.2.1 om_
    omega
  · rw [hl0]; exact hd.1
  · exact hsnx0 0 om_ (by rw [cs_0]; omega)
  · rcases hv with rfl | rfl <;> omega
  · split <;> omega
  · rw [hl0]; simp [esF, cntF]
  · have : dsF v xs * (sizeF v / 128) ≤ 5 * 32 := Nat.mul_le_mul hd.2.1 om_
    simp [esF, cntF]; omega
  · intro j hj i hi
    rw [hl0] at hj
    have e1 : (esF v st xs nmF).getD (j * (sizeF v / 128) + i) default = enF v st xs nmF (j * (sizeF v / 128) + i) := by
      refine range_getD _ ?_
      have := Nat.mul_le_mul_right (sizeF v / 128) (show j + 1 ≤ dsF v xs by omega)
      rw [Nat.succ_mul] at this
      unfold cntF; omega
    rw [e1, hsn 0 j (by rw [cs_0]; exact hj), dirX h hn hj]
    exact enF_ok ps h hnm hj hi
  have h0 := h.len.1
  have hc0 : 0 < cntF v xs := Nat.mul_pos hd.1 hpos
  refine ⟨stF v st xs 0, enF v st xs nmF 0, ?_, ?_, ?_⟩
  · unfold esF; rw [List.getElem?_map, List.getElem?_range hc0]; rfl
  · have := (enF_ok (v := v) (st := st) ps h hnm (j := 0) (i := 0) hd.1 hpos).cur
    have e2 : (enF v st xs nmF 0).cur = stF v st xs 0 := by unfold enF; rw [if_pos om_]
    have e3 := (enF_ok (v := v) (st := st) ps h hnm (j := 0) (i := 0) hd.1 hpos).dc
    rw [show 0 * (sizeF v / 128) + 0 = 0 by omega] at this e3
    rw [e3, this, e2]
  have e0 : stF v st xs 0 = (chF v st xs).outs.getD 2 0 := by unfold stF; rw [if_pos rfl]
  rw [e0]
  unfold miniF
  split
  · rename_i hz0
    show (chF v st xs).outs.getD 2 0 = 4294967294
    rw [out_start h om_, if_pos (by rw [cs_2, hz0]; unfold partsF; rw [Nat.div_eq_of_lt om_])]
  rename_i hz0
  have k2 : 1 ≤ (csF v xs).getD 2 0 := by rw [cs_2]; exact (lt_partsF om_).2 om_
  have k1 : 1 ≤ (csF v xs).getD 1 0 := by rw [cs_1]; unfold mfF; exact (lt_partsF om_).2 om_
  refine ⟨chainOk h hn om_, chainOk h hn om_, hsnx0 2 om_ om_, by rw [length_snF]; exact k2, hsnx0 1 om_ om_, by rw [length_snF, cs_1], by rw [← cs_1]; exact k1, ?_, ?_⟩
  · have : sizeF v / 4 ≤ 1024 := by omega
    have := Nat.mul_le_mul this hm.1
    omega
  rw [length_snF, cs_2]; omega
end

end Go.Proofs.YtgoddcicbpjknaaDoor

namespace Cfb

theorem trav_pth (es : List Tn) (M : Nat) : ∀ f i p s, (∀ k, (s.pth k).length ≤ M) → p.length + f ≤ M → ∀ k, ((trav es f i p s).pth k).length ≤ M := by
  intro f
  induction f with
  | zero => intro i p s h _; exact h
  | succ f ih =>
    intro i p s h hp
    have hw : ∀ (s : TS) i p, (∀ k, (s.pth k).length ≤ M) → p.length ≤ M → ∀ k, ((s.visit i p).pth k).length ≤ M := by
      intro s i p h hp k
      show (if k = i then p else s.pth k).length ≤ M
      split
      · exact hp
      exact h k
    have S : ∀ (c : Prop) [Decidable c] a p (t : TS), (∀ k, (t.pth k).length ≤ M) → p.length + f ≤ M → ∀ k, ((if c then t else trav es f a p t).pth k).length ≤ M := by
      intro c _ a p t h hp
      split
      · exact h
      exact ih a p t h hp
    unfold trav
    split
    · exact h
    split
    · exact h
    unfold travS
    simp only
    refine S _ _ _ _ (S _ _ _ _ (hw _ _ _ (S _ _ _ _ h om_) om_) ?_) om_
    split
    · omega
    simp only [List.length_append, List.length_singleton]; omega
theorem out_small (es : List Tn) (hN : es.length ≤ 100000) : (trav es (es.length + 1) 0 [] ⟨0, false, [], fun _ => []⟩).out.length ≤ 1000000 := by
  have h1 := trav_out es (es.length + 1) 0 [] ⟨0, false, [], fun _ => []⟩
  have h2 := trav_max es (es.length + 1) 0 [] ⟨0, false, [], fun _ => []⟩
  simp only [List.length_nil] at h1 h2
  omega
theorem pth_small (es : List Tn) (hN : es.length ≤ 100000) : ∀ k, ((trav es (es.length + 1) 0 [] ⟨0, false, [], fun _ => []⟩).pth k).length ≤ 1000000 :=
  trav_pth es 1000000 _ _ _ _ (fun _ => by simp) (by simp; omega)

end Cfb

namespace Go.Proofs.YtgoddcicbpjknaaDoor
open Go
open Cfb

theorem write_A {E : World} {Q : Exit → Act → World → Prop} {F : Heap} (hQ : QP Q) (v st bl cl : Nat) (ns : List Nm) (rl : List Value)  (hns : ns.length ≤ 20) (hok : ∀ x ∈ ns, x.ok) (hv : v ≤ 4)
  (hk : ∀ b7 g8 g9 c8 c9 r8 r9, ((nats (ns.map fun x => smallF x.nd) ++ r8).length = c8) → ((nats (ns.map fun x => largeF (sizeF v) x.nd) ++ r9).length = c9) → CW Tryd.prog E 514 [(0, .slice (some ⟨bl, 0, none⟩) ns.length cl), (1, nv v), (2, nv st), (7, .pointer (some ⟨b7, 0, none⟩)), (8, .slice (some ⟨g8, 0, none⟩) ns.length c8), (9, .slice (some ⟨g9, 0, none⟩) ns.length c9)] ((g8, blk (nats (ns.map fun x => smallF x.nd) ++ r8) 3) :: (g9, blk (nats (ns.map fun x => largeF (sizeF v) x.nd) ++ r9) 3) :: (b7, blk [nv (sizeF v)] 3) :: (bl, blk (nms ns ++ rl) 43) :: F) (dig [1, 1, 1, 1, 1] (bodyOf Tryd.f15)) Q) :
  CW Tryd.prog E 514 [(0, .slice (some ⟨bl, 0, none⟩) ns.length cl), (1, nv v), (2, nv st)] ((bl, blk (nms ns ++ rl) 43) :: F) (dig [] (bodyOf Tryd.f15)) Q := by
 have hsz : 512 ≤ sizeF v ∧ sizeF v ≤ 4096 := by unfold sizeF; split <;> omega
 refine CW_sr ?_
 refine RW_a ?_
 refine RW_lv [0,1,2] ?_
 refine CW_sr ?_
 refine RW_fx rfl rfl rfl (Fx_alloc (zs := zs_3) ze_3 rfl) ?_
 rintro _ _ ⟨b7, rfl, rfl⟩
 refine RW_fx0 rfl rfl (Fx_store rfl rfl sz_3 rfl rep_ (by simp)) ?_
 rintro _ _ rfl
 refine RW_lv [0,1,2,7] ?_
 refine CW_cut (σ := Unit) (fun _ => [(0, .slice (some ⟨bl, 0, none⟩) ns.length cl), (1, nv v), (2, nv st), (7, .pointer (some ⟨b7, 0, none⟩))]) (fun _ => (b7, blk [nv (sizeF v)] 3) :: (bl, blk (nms ns ++ rl) 43) :: F) (fun _ => True) ?_ ?_
 ·skip
  refine CW_sr ?_
  refine RW_l (Yl_move (v := nv v) rfl) ?_
  refine RW_l (Yl_eql rfl rfl) ?_
  refine RW_lv [0,1,2,7,60] ?_
  refine CW_cd rfl (fun hc1 => ?_) (fun hc1 => ?_)
  ·refine CW_region ?_
   refine RW_fx0 rfl rfl (Fx_store rfl rfl sz_3 rfl rep_ (by simp)) ?_
   rintro _ _ rfl
   refine RW_nil ?_
   refine QW_cut () trivial ?_ kp_
   apply Prm.of_eq
   congr 3
   first | rfl | (simp only [sizeF]; rw [if_pos om_]; rfl) | (simp only [sizeF]; rw [if_neg om_]; rfl)
  refine CW_skip ?_
  refine QW_cut () trivial ?_ kp_
  apply Prm.of_eq
  congr 3
  first | rfl | (simp only [sizeF]; rw [if_pos om_]; rfl) | (simp only [sizeF]; rw [if_neg om_]; rfl)
 rintro ⟨⟩ -
 refine CW_sr ?_
 refine RW_fx rfl rfl rfl (Fx_buildSlice0 sl_29) ?_
 rintro _ _ ⟨b61, rfl, rfl⟩
 refine RW_fx rfl rfl rfl (Fx_buildSlice0 sl_29) ?_
 rintro _ _ ⟨b62, rfl, rfl⟩
 refine RW_a ?_
 refine RW_a ?_
 refine RW_lv [0,1,2,7,8,9] ?_
 refine CW_seq ?_
 refine CW_sr ?_
 refine RW_m ?_
 refine RW_l (Yl_len rfl sl_25) ?_
 refine RW_m ?_
 refine RW_lv [0,1,2,7,8,9,63,64,65] ?_
 refine CW_block ?_
 refine CW_lp (σ := Nat × (Nat × Nat × List Value) × (Nat × Nat × List Value)) (fun q => [(0, .slice (some ⟨bl, 0, none⟩) ns.length cl), (1, nv v), (2, nv st), (7, .pointer (some ⟨b7, 0, none⟩)), (8, .slice (some ⟨q.2.1.1, 0, none⟩) q.1 q.2.1.2.1), (9, .slice (some ⟨q.2.2.1, 0, none⟩) q.1 q.2.2.2.1), (63, .slice (some ⟨bl, 0, none⟩) ns.length cl), (64, nv ns.length), (65, nv q.1)]) (fun q => (q.2.1.1, blk (nats ((ns.take q.1).map fun x => smallF x.nd) ++ q.2.1.2.2) 3) :: (q.2.2.1, blk (nats ((ns.take q.1).map fun x => largeF (sizeF v) x.nd) ++ q.2.2.2.2) 3) :: (b7, blk [nv (sizeF v)] 3) :: (bl, blk (nms ns ++ rl) 43) :: F) (fun q => q.1 ≤ ns.length ∧ (nats ((ns.take q.1).map fun x => smallF x.nd) ++ q.2.1.2.2).length = q.2.1.2.1 ∧ (nats ((ns.take q.1).map fun x => largeF (sizeF v) x.nd) ++ q.2.2.2.2).length = q.2.2.2.1) (fun q => ns.length - q.1) (0, (b61, 0, []), (b62, 0, [])) ⟨by simp, rfl, rfl⟩ ?_
 rintro ⟨k, ⟨g8, c8, r8⟩, ⟨g9, c9, r9⟩⟩ ⟨hkl, hl8, hl9⟩
 simp only at hkl hl8 hl9 ⊢
 refine CW_sr ?_
 refine RW_l (Yl_lss rfl rfl) ?_
 refine RW_lv [0,1,2,7,8,9,63,64,65,66] ?_
 refine CW_seq ?_
 refine CW_cd rfl (fun hc2 => ?_) (fun hc2 => ?_)
 ·refine (CW_skip (QW_lv [0,1,2,7,8,9,63,64,65] ?_))
  refine CW_seq ?_
  refine CW_block ?_
  refine CW_seq ?_
  have hx : (ns.getD k default).ok := hok _ (by rw [List.getD_eq_getElem?_getD, List.getElem?_eq_getElem (show k < ns.length by omega)]; exact List.getElem_mem _)
  have hxs := hx.small
  refine CW_region ?_
  refine RW_l (Yl_index rfl rfl sl_25 om_ om_) ?_
  refine RW_h (Yh_loadNm (k := k) rfl (show 0 + (k : Int).toNat * 28 = k * 28 by omega) mem_ om_) ?_
  refine RW_fx rfl rfl rfl (Fx_alloc (zs := zs_43) ze_43 rfl) ?_
  rintro _ _ ⟨b11, rfl, rfl⟩
  refine RW_fx0 rfl rfl (Fx_storeNm rfl rfl rep_ rfl) ?_
  rintro _ _ rfl
  refine RW_lv [0,1,2,7,8,9,11,63,64,65] ?_
  refine CW_sr ?_
  refine RW_a ?_
  refine RW_a ?_
  refine RW_lv [0,1,2,7,8,9,11,12,13,63,64,65] ?_
  refine CW_cut (σ := Unit) (fun _ => [(0, .slice (some ⟨bl, 0, none⟩) ns.length cl), (1, nv v), (2, nv st), (7, .pointer (some ⟨b7, 0, none⟩)), (8, .slice (some ⟨g8, 0, none⟩) k c8), (9, .slice (some ⟨g9, 0, none⟩) k c9), (12, nv (smallF (ns.getD k default).nd)), (13, nv (largeF (sizeF v) (ns.getD k default).nd)), (63, .slice (some ⟨bl, 0, none⟩) ns.length cl), (64, nv ns.length), (65, nv k)]) (fun _ => (g8, blk (nats ((ns.take k).map fun x => smallF x.nd) ++ r8) 3) :: (g9, blk (nats ((ns.take k).map fun x => largeF (sizeF v) x.nd) ++ r9) 3) :: (b11, blk (ns.getD k default).cells 43) :: (b7, blk [nv (sizeF v)] 3) :: (bl, blk (nms ns ++ rl) 43) :: F) (fun _ => True) ?_ ?_
  ·skip
   refine CW_sr ?_
   refine RW_f fo_43_1 ?_
   refine RW_h (Yh_ld (v := .bool (ns.getD k default).nd.stream) sc_4) ?_
   refine RW_m ?_
   refine RW_bool 71 rfl (fun hg3 => ?_) (fun hg3 => ?_)
   ·skip
    refine RW_gy rfl rfl rfl (Yl.h (Yl_field rfl fo_43_2)) ?_
    refine RW_gy rfl rfl rfl (Yh_ld (v := (ns.getD k default).slice) sc_23) ?_
    refine RW_gy rfl rfl rfl (Yl.h (Yl_len rfl sl_23)) ?_
    refine RW_gy rfl rfl rfl (Yl.h (Yl_lss rfl rfl)) ?_
    refine RW_l (Yl_pick_t rfl rfl) ?_
    refine RW_lv [0,1,2,7,8,9,11,12,13,63,64,65,76] ?_
    refine CW_cd rfl (fun hc4 => ?_) (fun hc4 => ?_)
    ·refine CW_region ?_
     refine RW_f fo_43_2 ?_
     refine RW_h (Yh_ld (v := (ns.getD k default).slice) sc_23) ?_
     refine RW_l (Yl_len rfl sl_23) ?_
     refine RW_fx rfl rfl rfl (Fx_callQ ok_24 (vs := [nv (ns.getD k default).nd.data.length, nv 64]) rfl pk_ (parts_ctN _ 64 om_ om_ om_)) ?_
     rintro _ _ ⟨rfl, rfl⟩
     refine RW_a ?_
     refine RW_nil ?_
     first
      | exact QW_cut () trivial (by repeat (first | exact Prm.nil _ | exact Rem.here _ _ | apply Rem.there | apply Prm.cons)) (.cons rfl (.cons rfl (.cons rfl (.cons rfl (.cons rfl (.cons rfl (.cons (congrArg (fun n => some (nv n)) (show partsF (ns.getD k default).nd.data.length 64 = smallF (ns.getD k default).nd by simp only [smallF]; rw [if_pos ⟨hg3, by omega⟩])) (.cons (congrArg (fun n => some (nv n)) (show 0 = largeF (sizeF v) (ns.getD k default).nd by simp only [largeF]; rw [if_neg (fun h => h.2 (by omega))])) (.cons rfl (.cons rfl (.cons rfl .nil)))))))))))
      | exact QW_cut () trivial (by repeat (first | exact Prm.nil _ | exact Rem.here _ _ | apply Rem.there | apply Prm.cons)) (.cons rfl (.cons rfl (.cons rfl (.cons rfl (.cons rfl (.cons rfl (.cons (congrArg (fun n => some (nv n)) (show 0 = smallF (ns.getD k default).nd by simp only [smallF]; rw [if_neg (fun h => absurd h.2 (by omega))])) (.cons (congrArg (fun n => some (nv n)) (show partsF (ns.getD k default).nd.data.length (sizeF v) = largeF (sizeF v) (ns.getD k default).nd by simp only [largeF]; rw [if_pos ⟨hg3, by omega⟩])) (.cons rfl (.cons rfl (.cons rfl .nil)))))))))))
      | exact QW_cut () trivial (by repeat (first | exact Prm.nil _ | exact Rem.here _ _ | apply Rem.there | apply Prm.cons)) (.cons rfl (.cons rfl (.cons rfl (.cons rfl (.cons rfl (.cons rfl (.cons (congrArg (fun n => some (nv n)) (show 0 = smallF (ns.getD k default).nd by simp only [smallF]; rw [if_neg (fun h => by rw [hg3] at h; exact Bool.noConfusion h.1)])) (.cons (congrArg (fun n => some (nv n)) (show 0 = largeF (sizeF v) (ns.getD k default).nd by simp only [largeF]; rw [if_neg (fun h => by rw [hg3] at h; exact Bool.noConfusion h.1)])) (.cons rfl (.cons rfl (.cons rfl .nil)))))))))))
    refine CW_sr ?_
    refine RW_f fo_43_1 ?_
    refine RW_h (Yh_lh (v := .bool true) sc_4 (show some (Value.bool (ns.getD k default).nd.stream) = some (.bool true) by rw [hg3])) ?_
    refine RW_lv [0,1,2,7,8,9,11,12,13,63,64,65,82] ?_
    refine CW_true rfl ?_
    refine CW_region ?_
    refine RW_f fo_43_2 ?_
    refine RW_h (Yh_ld (v := (ns.getD k default).slice) sc_23) ?_
    refine RW_l (Yl_len rfl sl_23) ?_
    refine RW_h (Yh_ld (v := nv (sizeF v)) sc_3) ?_
    refine RW_fx rfl rfl rfl (Fx_callQ ok_24 (vs := [nv (ns.getD k default).nd.data.length, nv (sizeF v)]) rfl pk_ (parts_ctN _ (sizeF v) om_ om_ om_)) ?_
    rintro _ _ ⟨rfl, rfl⟩
    refine RW_a ?_
    refine RW_nil ?_
    first
     | exact QW_cut () trivial (by repeat (first | exact Prm.nil _ | exact Rem.here _ _ | apply Rem.there | apply Prm.cons)) (.cons rfl (.cons rfl (.cons rfl (.cons rfl (.cons rfl (.cons rfl (.cons (congrArg (fun n => some (nv n)) (show partsF (ns.getD k default).nd.data.length 64 = smallF (ns.getD k default).nd by simp only [smallF]; rw [if_pos ⟨hg3, by omega⟩])) (.cons (congrArg (fun n => some (nv n)) (show 0 = largeF (sizeF v) (ns.getD k default).nd by simp only [largeF]; rw [if_neg (fun h => h.2 (by omega))])) (.cons rfl (.cons rfl (.cons rfl .nil)))))))))))
     | exact QW_cut () trivial (by repeat (first | exact Prm.nil _ | exact Rem.here _ _ | apply Rem.there | apply Prm.cons)) (.cons rfl (.cons rfl (.cons rfl (.cons rfl (.cons rfl (.cons rfl (.cons (congrArg (fun n => some (nv n)) (show 0 = smallF (ns.getD k default).nd by simp only [smallF]; rw [if_neg (fun h => absurd h.2 (by omega))])) (.cons (congrArg (fun n => some (nv n)) (show partsF (ns.getD k default).nd.data.length (sizeF v) = largeF (sizeF v) (ns.getD k default).nd by simp only [largeF]; rw [if_pos ⟨hg3, by omega⟩])) (.cons rfl (.cons rfl (.cons rfl .nil)))))))))))
     | exact QW_cut () trivial (by repeat (first | exact Prm.nil _ | exact Rem.here _ _ | apply Rem.there | apply Prm.cons)) (.cons rfl (.cons rfl (.cons rfl (.cons rfl (.cons rfl (.cons rfl (.cons (congrArg (fun n => some (nv n)) (show 0 = smallF (ns.getD k default).nd by simp only [smallF]; rw [if_neg (fun h => by rw [hg3] at h; exact Bool.noConfusion h.1)])) (.cons (congrArg (fun n => some (nv n)) (show 0 = largeF (sizeF v) (ns.getD k default).nd by simp only [largeF]; rw [if_neg (fun h => by rw [hg3] at h; exact Bool.noConfusion h.1)])) (.cons rfl (.cons rfl (.cons rfl .nil)))))))))))
   skip
   refine RW_skip rfl rfl rfl ?_
   refine RW_skip rfl rfl rfl ?_
   refine RW_skip rfl rfl rfl ?_
   refine RW_skip rfl rfl rfl ?_
   refine RW_l (Yl_pick_f rfl rfl) ?_
   refine RW_lv [0,1,2,7,8,9,11,12,13,63,64,65,76] ?_
   refine CW_false rfl ?_
   refine CW_sr ?_
   refine RW_f fo_43_1 ?_
   refine RW_h (Yh_lh (v := .bool false) sc_4 (show some (Value.bool (ns.getD k default).nd.stream) = some (.bool false) by rw [hg3])) ?_
   refine RW_lv [0,1,2,7,8,9,11,12,13,63,64,65,82] ?_
   refine CW_false rfl ?_
   refine CW_skip ?_
   first
    | exact QW_cut () trivial (by repeat (first | exact Prm.nil _ | exact Rem.here _ _ | apply Rem.there | apply Prm.cons)) (.cons rfl (.cons rfl (.cons rfl (.cons rfl (.cons rfl (.cons rfl (.cons (congrArg (fun n => some (nv n)) (show partsF (ns.getD k default).nd.data.length 64 = smallF (ns.getD k default).nd by simp only [smallF]; rw [if_pos ⟨hg3, by omega⟩])) (.cons (congrArg (fun n => some (nv n)) (show 0 = largeF (sizeF v) (ns.getD k default).nd by simp only [largeF]; rw [if_neg (fun h => h.2 (by omega))])) (.cons rfl (.cons rfl (.cons rfl .nil)))))))))))
    | exact QW_cut () trivial (by repeat (first | exact Prm.nil _ | exact Rem.here _ _ | apply Rem.there | apply Prm.cons)) (.cons rfl (.cons rfl (.cons rfl (.cons rfl (.cons rfl (.cons rfl (.cons (congrArg (fun n => some (nv n)) (show 0 = smallF (ns.getD k default).nd by simp only [smallF]; rw [if_neg (fun h => absurd h.2 (by omega))])) (.cons (congrArg (fun n => some (nv n)) (show partsF (ns.getD k default).nd.data.length (sizeF v) = largeF (sizeF v) (ns.getD k default).nd by simp only [largeF]; rw [if_pos ⟨hg3, by omega⟩])) (.cons rfl (.cons rfl (.cons rfl .nil)))))))))))
    | exact QW_cut () trivial (by repeat (first | exact Prm.nil _ | exact Rem.here _ _ | apply Rem.there | apply Prm.cons)) (.cons rfl (.cons rfl (.cons rfl (.cons rfl (.cons rfl (.cons rfl (.cons (congrArg (fun n => some (nv n)) (show 0 = smallF (ns.getD k default).nd by simp only [smallF]; rw [if_neg (fun h => by rw [hg3] at h; exact Bool.noConfusion h.1)])) (.cons (congrArg (fun n => some (nv n)) (show 0 = largeF (sizeF v) (ns.getD k default).nd by simp only [largeF]; rw [if_neg (fun h => by rw [hg3] at h; exact Bool.noConfusion h.1)])) (.cons rfl (.cons rfl (.cons rfl .nil)))))))))))
  rintro ⟨⟩ -
  refine CW_region ?_
  refine RW_m ?_
  refine RW_m ?_
  refine RW_fx rfl rfl rfl (Fx_litS (vs := [nv (smallF (ns.getD k default).nd)]) sl_29 ze_3 rfl rfl rfl rfl rfl) ?_
  rintro _ _ ⟨b90, rfl, rfl⟩
  refine RW_fx rfl rfl rfl (Fx_appT (news := [nv (smallF (ns.getD k default).nd)]) (z0 := .int .i64 0) (q := 1) rfl rfl sl_29 by_3 ze_3 rfl rfl rem_ rem_ (by simpa using hl8) (by simp; omega) rfl (by simp [nv, Value.oneCell']) om_ om_ om_) ?_
  rintro _ _ ⟨g8', c8', r8', rfl, hl8', rfl⟩
  refine RW_m ?_
  refine RW_m ?_
  refine RW_fx rfl rfl rfl (Fx_litS (vs := [nv (largeF (sizeF v) (ns.getD k default).nd)]) sl_29 ze_3 rfl rfl rfl rfl rfl) ?_
  rintro _ _ ⟨b94, rfl, rfl⟩
  refine RW_fx rfl rfl rfl (Fx_appT (news := [nv (largeF (sizeF v) (ns.getD k default).nd)]) (z0 := .int .i64 0) (q := 1) rfl rfl sl_29 by_3 ze_3 rfl rfl rem_ rem_ (by simpa using hl9) (by simp; omega) rfl (by simp [nv, Value.oneCell']) om_ om_ om_) ?_
  rintro _ _ ⟨g9', c9', r9', rfl, hl9', rfl⟩
  refine RW_a ?_
  refine RW_a ?_
  refine RW_nil ?_
  refine QW_normal_block ?_
  refine (QW_lv [0,1,2,7,8,9,63,64,65] ?_)
  refine CW_region ?_
  refine RW_l (Yl_add rfl rfl (wi64 om_ om_)) ?_
  refine RW_m ?_
  refine RW_nil ?_
  refine QW_dropB (e := (b11, _)) rem_ ?_
  refine QW_round (k + 1, (g8', c8', r8'), (g9', c9', r9')) ⟨by simp only; omega, ?_, ?_⟩ (by simp only; omega) ?_ kp_
  ·simp only [take_map_succ (fun x : Nm => smallF x.nd) ns k om_, nats, List.map_append]; simpa using hl8'
  ·simp only [take_map_succ (fun x : Nm => largeF (sizeF v) x.nd) ns k om_, nats, List.map_append]; simpa using hl9'
  simp only [take_map_succ (fun x : Nm => smallF x.nd) ns k om_, take_map_succ (fun x : Nm => largeF (sizeF v) x.nd) ns k om_, nats, List.map_append]; exact prm_
 refine CW_exit ?_
 refine QW_exit_then ?_
 refine QW_exit_then ?_
 refine QW_exit_block ?_
 refine (QW_lv [0,1,2,7,8,9] ?_)
 obtain rfl : k = ns.length := by omega
 rw [List.take_length] at *
 refine CW_heap (Prm.perm (.cons (.here _ _) (.cons (.here _ _) (.nil _)))) ?_
 exact hk _ _ _ _ _ _ _ hl8 hl9

theorem write_B {E : World} {Q : Exit → Act → World → Prop} {F : Heap} (hQ : QP Q) (v st bl cl m g8 g9 c8 c9 b7 size : Nat) (sm lg : List Nat) (r8 r9 : List Value)  (hm : m ≤ 20) (hsm : sm.length = m) (hlg : lg.length = m) (hsz : 512 ≤ size ∧ size ≤ 4096) (hmi : sm.sum ≤ 100000) (hcs : (countsF m sm.sum size lg).sum ≤ 100000)
  (hk : ∀ g19 c19 r19, ((nats (countsF m sm.sum size lg) ++ r19).length = c19) → CW Tryd.prog E 514 [(0, .slice (some ⟨bl, 0, none⟩) m cl), (1, nv v), (2, nv st), (7, .pointer (some ⟨b7, 0, none⟩)), (8, .slice (some ⟨g8, 0, none⟩) m c8), (14, nv sm.sum), (17, nv (size / 4)), (18, nv (partsF m (size / 128))), (19, .slice (some ⟨g19, 0, none⟩) (m + 3) c19), (20, nv (countsF m sm.sum size lg).sum), (23, nv (fatsF (countsF m sm.sum size lg).sum (size / 4)))] ((g19, blk (nats (countsF m sm.sum size lg) ++ r19) 3) :: (g8, blk (nats sm ++ r8) 3) :: (b7, blk [nv size] 3) :: F) (dig [1, 1, 1, 1, 1, 1, 1, 1, 1, 1, 1, 1, 1, 1] (bodyOf Tryd.f15)) Q) :
  CW Tryd.prog E 514 [(0, .slice (some ⟨bl, 0, none⟩) m cl), (1, nv v), (2, nv st), (7, .pointer (some ⟨b7, 0, none⟩)), (8, .slice (some ⟨g8, 0, none⟩) m c8), (9, .slice (some ⟨g9, 0, none⟩) m c9)] ((g8, blk (nats sm ++ r8) 3) :: (g9, blk (nats lg ++ r9) 3) :: (b7, blk [nv size] 3) :: F) (dig [1, 1, 1, 1, 1] (bodyOf Tryd.f15)) Q := by
 have hq4 : 128 ≤ size / 4 := by omega
 have hq128 : 4 ≤ size / 128 := by omega
 refine CW_sr ?_
 refine RW_a ?_
 refine RW_lv [0,1,2,7,8,9,14] ?_
 refine CW_seq ?_
 refine CW_sr ?_
 refine RW_m ?_
 refine RW_l (Yl_len rfl sl_29) ?_
 refine RW_m ?_
 refine RW_lv [0,1,2,7,8,9,14,97,98,99] ?_
 refine CW_block ?_
 refine CW_lp (σ := Nat) (fun k => [(0, .slice (some ⟨bl, 0, none⟩) m cl), (1, nv v), (2, nv st), (7, .pointer (some ⟨b7, 0, none⟩)), (8, .slice (some ⟨g8, 0, none⟩) m c8), (9, .slice (some ⟨g9, 0, none⟩) m c9), (14, nv (sm.take k).sum), (97, .slice (some ⟨g8, 0, none⟩) m c8), (98, nv m), (99, nv k)]) (fun _ => (g8, blk (nats sm ++ r8) 3) :: (g9, blk (nats lg ++ r9) 3) :: (b7, blk [nv size] 3) :: F) (fun k => k ≤ m) (fun k => m - k) 0 om_ ?_
 intro k hkm
 refine CW_sr ?_
 refine RW_l (Yl_lss rfl rfl) ?_
 refine RW_lv [0,1,2,7,8,9,14,97,98,99,100] ?_
 refine CW_seq ?_
 refine CW_cd rfl (fun hc1 => ?_) (fun hc1 => ?_)
 ·refine (CW_skip (QW_lv [0,1,2,7,8,9,14,97,98,99] ?_))
  refine CW_seq ?_
  refine CW_block ?_
  refine CW_seq ?_
  have hct := sum_take_succ sm k om_
  have hct2 := take_sum_succ sm k om_
  refine CW_region ?_
  refine RW_l (Yl_index rfl rfl sl_29 om_ om_) ?_
  refine RW_h (Yh_load (v := nv (sm.getD k 0)) rfl sc_3 mem_ (at_nats om_ om_)) ?_
  refine RW_a ?_
  refine RW_lv [0,1,2,7,8,9,14,16,97,98,99] ?_
  refine CW_region ?_
  refine RW_m ?_
  refine RW_m ?_
  refine RW_l (Yl_add (c := (((sm.take k).sum + sm.getD k 0 : Nat) : Int)) rfl rfl (wi64 om_ om_)) ?_
  refine RW_a ?_
  refine RW_nil ?_
  refine QW_normal_block ?_
  refine (QW_lv [0,1,2,7,8,9,14,97,98,99] ?_)
  refine CW_region ?_
  refine RW_l (Yl_add rfl rfl (wi64 om_ om_)) ?_
  refine RW_m ?_
  refine RW_nil ?_
  refine QW_round (k + 1) om_ om_ prm_ (.cons rfl (.cons rfl (.cons rfl (.cons rfl (.cons rfl (.cons rfl (.cons (congrArg (fun n => some (nv n)) hct2.symm) kp_)))))))
 refine CW_exit ?_
 refine QW_exit_then ?_
 refine QW_exit_then ?_
 refine QW_exit_block ?_
 refine (QW_lv [0,1,2,7,8,9,14] ?_)
 refine CW_seq ?_
 obtain rfl : m = k := by omega
 rw [show (sm.take m).sum = sm.sum by rw [← hsm, List.take_length]]
 refine CW_region ?_
 refine RW_h (Yh_ld (v := nv size) sc_3) ?_
 refine RW_l (Yl_quo (c := ((size / 4 : Nat) : Int)) rfl rfl om_ (quoN (b := 4) om_)) ?_
 refine RW_a ?_
 refine RW_lv [0,1,2,7,8,9,14,17] ?_
 refine CW_sr ?_
 refine RW_m ?_
 refine RW_l (Yl_len rfl sl_25) ?_
 refine RW_h (Yh_ld (v := nv size) sc_3) ?_
 refine RW_l (Yl_quo (c := ((size / 128 : Nat) : Int)) rfl rfl om_ (quoN (b := 128) om_)) ?_
 refine RW_fx rfl rfl rfl (Fx_callQ ok_24 (vs := [nv m, nv (size / 128)]) rfl pk_ (parts_ctN m (size / 128) om_ om_ om_)) ?_
 rintro _ _ ⟨rfl, rfl⟩
 refine RW_a ?_
 refine RW_lv [0,1,2,7,8,9,14,17,18] ?_
 refine CW_seq ?_
 refine CW_draw [8, 10] _ mixed (Sub.refl _) ?_
 refine RD_y (i := 0) rfl rfl rfl rfl kr_ (fun _ _ _ h => hQ _ _ _ _ _ h) (Yl_move rfl) ?_
 refine RD_y (i := 1) rfl rfl rfl rfl kr_ (fun _ _ _ h => hQ _ _ _ _ _ h) (Yl_move rfl) ?_
 refine RD_y (i := 2) rfl rfl rfl rfl kr_ (fun _ _ _ h => hQ _ _ _ _ _ h) (Yl_move rfl) ?_
 refine RD_y (i := 4) rfl rfl rfl rfl kr_ (fun _ _ _ h => hQ _ _ _ _ _ h) (Yl_move rfl) ?_
 refine RD_y (i := 5) rfl rfl rfl rfl kr_ (fun _ _ _ h => hQ _ _ _ _ _ h) (Yl_mul (c := ((sm.sum * 64 : Nat) : Int)) rfl rfl (mulN (a := sm.sum) (b := 64) om_)) ?_
 refine RD_y (i := 9) rfl rfl rfl rfl kr_ (fun _ _ _ h => hQ _ _ _ _ _ h) (Yl_move rfl) ?_
 refine RD_h (i := 6) #[true, true, true, true, true, true, false, false, false, true, false, false] rfl rfl rfl rfl kr_ (fun _ _ _ h => hQ _ _ _ _ _ h) (Yh_ld (v := nv size) sc_3) ?_
 refine RD_o 3 ?_
 refine RO_fx rfl rfl rfl rfl (Fx_callQ ok_24 (vs := [nv sm.sum, nv (size / 4)]) rfl pk_ (parts_ctN sm.sum (size / 4) om_ om_ om_)) ?_
 rintro _ _ ⟨rfl, rfl⟩
 refine ⟨Or.inr (Sub.refl _), ?_⟩
 refine RD_o 7 ?_
 refine RO_fx rfl rfl rfl rfl (Fx_callQ ok_24 (vs := [nv (sm.sum * 64), nv size]) rfl pk_ (parts_ctN (sm.sum * 64) size om_ om_ om_)) ?_
 rintro _ _ ⟨rfl, rfl⟩
 refine ⟨Or.inr (Sub.refl _), ?_⟩
 refine RD_o 8 ?_
 refine RO_fx rfl rfl rfl rfl (Fx_litS (vs := [nv (partsF m (size / 128)), nv (partsF sm.sum (size / 4)), nv (partsF (sm.sum * 64) size)]) sl_29 ze_3 rfl rfl rfl rfl rfl) ?_
 rintro _ _ ⟨b122, rfl, rfl⟩
 refine ⟨Or.inl kr_, ?_⟩
 refine RD_o 10 ?_
 refine RO_fx rfl rfl rfl rfl (Fx_app (xs := nats [partsF m (size / 128), partsF sm.sum (size / 4), partsF (sm.sum * 64) size]) (r := []) (news := nats lg) (lx := nats lg ++ r9) (n := 3) (z0 := .int .i64 0) (q := 1) rfl rfl sl_29 by_3 ze_3 rfl rfl mem_ rem_ rfl rfl (by simp [hlg]) (by simp; omega) (one_map one_nv _) om_ om_ om_) ?_
 rintro _ _ ⟨g19, c19, r19, rfl, hl19', rfl⟩
 refine ⟨Or.inl kr_, ?_⟩
 refine RD_y (i := 11) rfl rfl rfl rfl kr_ (fun _ _ _ h => hQ _ _ _ _ _ h) (Yl_assign rfl) ?_
 refine (RD_done kr_ (QW_lv [0,1,2,7,8,14,17,18,19] ?_))
 refine CW_seq ?_
 have hl19 : (nats (countsF m sm.sum size lg) ++ r19).length = c19 := by simpa [countsF] using hl19'
 obtain ⟨cs, hce⟩ : ∃ cs, cs = (countsF m sm.sum size lg) := ⟨_, rfl⟩
 have hbe : nats [partsF m (size / 128), partsF sm.sum (size / 4), partsF (sm.sum * 64) size] ++ nats lg = nats cs := by rw [hce]; simp [countsF]
 rw [hbe, Nat.add_comm 3 m]
 rw [← hce] at hl19 hcs
 have hcsl : cs.length = m + 3 := by rw [hce]; simp [countsF, hlg]
 refine CW_region ?_
 refine RW_a ?_
 refine RW_lv [0,1,2,7,8,14,17,18,19,20] ?_
 refine CW_seq ?_
 refine CW_sr ?_
 refine RW_m ?_
 refine RW_l (Yl_len rfl sl_29) ?_
 refine RW_m ?_
 refine RW_lv [0,1,2,7,8,14,17,18,19,20,125,126,127] ?_
 refine CW_block ?_
 refine CW_lp (σ := Nat) (fun k => [(0, .slice (some ⟨bl, 0, none⟩) m cl), (1, nv v), (2, nv st), (7, .pointer (some ⟨b7, 0, none⟩)), (8, .slice (some ⟨g8, 0, none⟩) m c8), (14, nv sm.sum), (17, nv (size / 4)), (18, nv (partsF m (size / 128))), (19, .slice (some ⟨g19, 0, none⟩) (m + 3) c19), (20, nv (cs.take k).sum), (125, .slice (some ⟨g19, 0, none⟩) (m + 3) c19), (126, nv (m + 3 : Nat)), (127, nv k)]) (fun _ => (g19, blk (nats cs ++ r19) 3) :: (g8, blk (nats sm ++ r8) 3) :: (g9, blk (nats lg ++ r9) 3) :: (b7, blk [nv size] 3) :: F) (fun k => k ≤ m + 3) (fun k => m + 3 - k) 0 om_ ?_
 intro k hkm
 refine CW_sr ?_
 refine RW_l (Yl_lss rfl rfl) ?_
 refine RW_lv [0,1,2,7,8,14,17,18,19,20,125,126,127,128] ?_
 refine CW_seq ?_
 refine CW_cd rfl (fun hc2 => ?_) (fun hc2 => ?_)
 ·refine (CW_skip (QW_lv [0,1,2,7,8,14,17,18,19,20,125,126,127] ?_))
  refine CW_seq ?_
  refine CW_block ?_
  refine CW_seq ?_
  have hct := sum_take_succ cs k om_
  have hct2 := take_sum_succ cs k om_
  refine CW_region ?_
  refine RW_l (Yl_index rfl rfl sl_29 om_ om_) ?_
  refine RW_h (Yh_load (v := nv (cs.getD k 0)) rfl sc_3 mem_ (at_nats om_ om_)) ?_
  refine RW_a ?_
  refine RW_lv [0,1,2,7,8,14,17,18,19,20,22,125,126,127] ?_
  refine CW_region ?_
  refine RW_m ?_
  refine RW_m ?_
  refine RW_l (Yl_add (c := (((cs.take k).sum + cs.getD k 0 : Nat) : Int)) rfl rfl (wi64 om_ om_)) ?_
  refine RW_a ?_
  refine RW_nil ?_
  refine QW_normal_block ?_
  refine (QW_lv [0,1,2,7,8,14,17,18,19,20,125,126,127] ?_)
  refine CW_region ?_
  refine RW_l (Yl_add rfl rfl (wi64 om_ om_)) ?_
  refine RW_m ?_
  refine RW_nil ?_
  refine QW_round (k + 1) om_ om_ prm_ (.cons rfl (.cons rfl (.cons rfl (.cons rfl (.cons rfl (.cons rfl (.cons rfl (.cons rfl (.cons rfl (.cons (congrArg (fun n => some (nv n)) hct2.symm) kp_))))))))))
 refine CW_exit ?_
 refine QW_exit_then ?_
 refine QW_exit_then ?_
 refine QW_exit_block ?_
 refine (QW_lv [0,1,2,7,8,14,17,18,19,20] ?_)
 refine CW_sr ?_
 refine RW_a ?_
 refine RW_lv [0,1,2,7,8,14,17,18,19,20,23] ?_
 refine CW_seq ?_
 refine CW_block ?_
 obtain rfl : k = m + 3 := by omega
 rw [show cs.take (m + 3) = cs by rw [← hcsl, List.take_length]]
 refine CW_lp (σ := Nat) (fun f => [(0, .slice (some ⟨bl, 0, none⟩) m cl), (1, nv v), (2, nv st), (7, .pointer (some ⟨b7, 0, none⟩)), (8, .slice (some ⟨g8, 0, none⟩) m c8), (14, nv sm.sum), (17, nv (size / 4)), (18, nv (partsF m (size / 128))), (19, .slice (some ⟨g19, 0, none⟩) (m + 3) c19), (20, nv cs.sum), (23, nv f)]) (fun _ => (g19, blk (nats cs ++ r19) 3) :: (g8, blk (nats sm ++ r8) 3) :: (g9, blk (nats lg ++ r9) 3) :: (b7, blk [nv size] 3) :: F) (fun f => 1 ≤ f ∧ f ≤ cs.sum + 1 ∧ fgo cs.sum (size / 4) (cs.sum + 1 - f) f = fatsF cs.sum (size / 4)) (fun f => cs.sum + 1 - f) 1 ⟨by omega, by omega, rfl⟩ ?_
 rintro f ⟨hf1, hf2, hf3⟩
 refine CW_seq ?_
 refine CW_sr ?_
 refine RW_m ?_
 refine RW_m ?_
 refine RW_l (Yl_add (c := ((cs.sum + f : Nat) : Int)) rfl rfl (wi64 om_ om_)) ?_
 refine RW_m ?_
 refine RW_fx rfl rfl rfl (Fx_callQ ok_24 (vs := [nv (cs.sum + f), nv (size / 4)]) rfl pk_ (parts_ctN (cs.sum + f) (size / 4) om_ om_ om_)) ?_
 rintro _ _ ⟨rfl, rfl⟩
 refine RW_m ?_
 refine RW_l (Yl_gtr rfl rfl) ?_
 refine RW_lv [0,1,2,7,8,14,17,18,19,20,23,141] ?_
 refine CW_cd rfl (fun hc3 => ?_) (fun hc3 => ?_)
 ·refine (CW_skip (QW_lv [0,1,2,7,8,14,17,18,19,20,23] ?_))
  refine CW_block ?_
  refine CW_region ?_
  refine RW_m ?_
  refine RW_l (Yl_add rfl rfl (wi64 om_ om_)) ?_
  refine RW_a ?_
  refine RW_nil ?_
  refine QW_normal_block ?_
  have hlt : f < partsF (cs.sum + f) (size / 4) := by omega
  have hne : f ≠ cs.sum + 1 := fun e => by subst e; have := partsF_le (n := cs.sum + (cs.sum + 1)) (per := size / 4) (f := cs.sum + 1) om_ om_; omega
  refine QW_round (f + 1) ⟨by omega, by omega, ?_⟩ om_ prm_ kp_
  rw [← hf3, show cs.sum + 1 - f = (cs.sum + 1 - (f + 1)) + 1 by omega]; simp only [fgo]; rw [if_pos hlt]
 refine CW_exit ?_
 refine QW_exit_then ?_
 refine QW_exit_then ?_
 refine QW_exit_block ?_
 refine (QW_lv [0,1,2,7,8,14,17,18,19,20,23] ?_)
 have hfe : f = fatsF cs.sum (size / 4) := by
  have h1 : ¬ (f < partsF (cs.sum + f) (size / 4)) := by omega
  rw [← hf3]; generalize cs.sum + 1 - f = q; cases q with
  | zero => rfl
  | succ q => simp only [fgo]; rw [if_neg h1]
 subst hfe
 subst hce
 refine CW_dropB (e := (g9, _)) rem_ ?_
 exact hk g19 c19 r19 hl19

theorem mixed_ct (n step : Nat) (hn : n ≤ 1000000) (hs : step ≤ 1000000) :
    Ct Tryd.prog 25 [.int .i64 n, .int .i64 step] []
      (fun v p => ∃ g cap r, v = .slice (some ⟨g, 0, none⟩) n cap ∧ (nats (mixedF n step) ++ r).length = cap ∧ p = [(g, blk (nats (mixedF n step) ++ r) 3)]) := by
  have hlt : step % max n 1 < max n 1 := Nat.mod_lt _ om_
  have hstep : stepF n step ≤ n + 1 := by
    rcases Nat.eq_zero_or_pos n with h | h
    · subst h; simp [stepF, Nat.mod_one]
    exact (stepF_gcd n step h).2
  refine Ct_of Tryd.func25 rfl Tryd.ntmps25 rfl ?_
  intro E F
  simp only [numL, List.nil_append, List.cons_append]
  refine CW_sr ?_
  refine RW_a ?_
  refine RW_lv [0,1] ?_
  refine CW_sr ?_
  refine RW_m ?_
  refine RW_m ?_
  refine RW_l (Yl_maxN (m := n) (n := 1) rfl rfl) ?_
  refine RW_l (Yl_rem rfl rfl om_ (remN step (max n 1))) ?_
  refine RW_l (Yl_add rfl rfl (wi64 om_ om_)) ?_
  refine RW_a ?_
  refine RW_lv [0,1] ?_
  refine CW_cut (σ := Unit) (fun _ => [(0, .int .i64 n), (1, .int .i64 (stepF n step : Nat))]) (fun _ => F) (fun _ => True) ?_ ?_
  · skip
    refine CW_block ?_
    refine CW_loop (σ := Nat) (fun s => [(0, .int .i64 n), (1, .int .i64 (s : Int))]) (fun _ => F) (fun s => s ≤ n + 1 ∧ (n = 0 → s = stepF n step) ∧ (0 < n → cop n (n + 1 - s) s = stepF n step)) (fun s => n + 1 - s) (1 + step % max n 1) ⟨by omega, fun h => by unfold stepF; rw [if_pos h], fun h => by unfold stepF; rw [if_neg om_]⟩ (Prm.nil _) (.cons rfl (.cons rfl .nil)) ?_
    rintro s ⟨hs1, hs0, hs2⟩
    refine CW_seq ?_
    refine CW_sr ?_
    refine RW_m ?_
    refine RW_l (Yl_gtr rfl rfl) ?_
    refine RW_m ?_
    refine RW_bool 14 rfl (fun hg1 => ?_) (fun hg1 => ?_)
    · replace hg1 := of_decide_eq_true hg1
      refine RW_gy rfl rfl rfl (Yl.h (Yl_move rfl)) ?_
      refine RW_gy rfl rfl rfl (Yl.h (Yl_move rfl)) ?_
      refine RW_gfx rfl rfl rfl (Fx_callQ ok_38 rfl pk_ (common_ct s n om_ om_)) ?_
      rintro _ _ ⟨rfl, rfl⟩
      refine RW_gy rfl rfl rfl (Yl.h (Yl_neq rfl rfl)) ?_
      refine RW_l (Yl_pick_t rfl rfl) ?_
      refine RW_lv [0,1,19] ?_
      refine CW_cd rfl (fun hc2 => ?_) (fun hc2 => ?_)
      · refine (CW_skip (QW_lv [0,1] ?_))
        refine CW_block ?_
        refine CW_region ?_
        refine RW_m ?_
        refine RW_l (Yl_add rfl rfl (wi64 om_ om_)) ?_
        refine RW_a ?_
        refine RW_nil ?_
        refine QW_normal_block ?_
        have hne : s ≠ n + 1 := fun e => by subst e; exact hc2 (by rw [gcd_next]; rfl)
        refine QW_round (s + 1) ⟨by omega, by omega, fun h => ?_⟩ om_ (Prm.nil _) (.cons rfl (.cons rfl .nil))
        rw [← hs2 h, show n + 1 - s = (n + 1 - (s + 1)) + 1 by omega, cop, if_neg (by intro e; exact hc2 (by rw [e]; rfl))]
      refine CW_exit ?_
      refine QW_exit_then ?_
      refine QW_exit_then ?_
      refine QW_exit_block ?_
      obtain rfl : s = stepF n step := by
        first
          | (exact hs0 (by omega))
          | (rw [← hs2 (by omega)]; exact (cop_self (by have := hc2; omega)).symm)
      exact QW_cut () trivial (Prm.nil _) (.cons rfl (.cons rfl .nil))
    replace hg1 := of_decide_eq_false hg1
    refine RW_skip rfl rfl rfl ?_
    refine RW_skip rfl rfl rfl ?_
    refine RW_skip rfl rfl rfl ?_
    refine RW_skip rfl rfl rfl ?_
    refine RW_l (Yl_pick_f rfl rfl) ?_
    refine RW_lv [0,1,19] ?_
    refine CW_false rfl ?_
    refine CW_exit ?_
    refine QW_exit_then ?_
    refine QW_exit_then ?_
    refine QW_exit_block ?_
    obtain rfl : s = stepF n step := by
        first
          | (exact hs0 (by omega))
          | (rw [← hs2 (by omega)]; exact (cop_self (by have := hc2; omega)).symm)
    exact QW_cut () trivial (Prm.nil _) (.cons rfl (.cons rfl .nil))
  rintro ⟨⟩ -
  refine CW_sr ?_
  refine RW_fx rfl rfl rfl (Fx_buildSlice0 sl_29) ?_
  rintro _ _ ⟨b22, rfl, rfl⟩
  refine RW_a ?_
  refine RW_lv [0,1,5] ?_
  refine CW_seq ?_
  refine CW_sr ?_
  refine RW_m ?_
  refine RW_m ?_
  refine RW_lv [0,1,5,23,24] ?_
  refine CW_block ?_
  refine CW_loop (σ := Nat × Nat × Nat × List Value) (fun s => [(0, .int .i64 n), (1, .int .i64 (stepF n step : Nat)), (5, .slice (some ⟨s.2.1, 0, none⟩) s.1 s.2.2.1), (23, .int .i64 n), (24, .int .i64 (s.1 : Int))]) (fun s => (s.2.1, blk ((List.range s.1).map (fun k => nv (k * stepF n step % n)) ++ s.2.2.2) 3) :: F) (fun s => s.1 ≤ n ∧ ((List.range s.1).map (fun k => nv (k * stepF n step % n)) ++ s.2.2.2).length = s.2.2.1) (fun s => n - s.1) (0, b22, 0, []) ⟨by omega, rfl⟩ (Prm.nil _) kp_ ?_
  rintro ⟨k, g, cap, r⟩ ⟨hk, hl⟩
  simp only at hk hl ⊢
  have hst : stepF n step ≤ n + 1 := hstep
  have hks : k * stepF n step ≤ 9223372036854775807 := Nat.le_trans (Nat.mul_le_mul (show k ≤ 1000000 by omega) (show stepF n step ≤ 1000001 by omega)) om_
  refine CW_sr ?_
  refine RW_l (Yl_lss rfl rfl) ?_
  refine RW_lv [0,1,5,23,24,25] ?_
  refine CW_seq ?_
  refine CW_cd rfl (fun hc3 => ?_) (fun hc3 => ?_)
  · refine (CW_skip (QW_lv [0,1,5,23,24] ?_))
    refine CW_seq ?_
    refine CW_block ?_
    refine CW_sr ?_
    refine RW_m ?_
    refine RW_a ?_
    refine RW_lv [0,1,5,6,23,24] ?_
    refine CW_region ?_
    refine RW_m ?_
    refine RW_m ?_
    refine RW_m ?_
    refine RW_l (Yl_mul rfl rfl (mulN hks)) ?_
    refine RW_m ?_
    refine RW_l (Yl_rem rfl rfl om_ (remN (k * stepF n step) n)) ?_
    refine RW_fx rfl rfl rfl (Fx_litS (vs := [nv (k * stepF n step % n)]) sl_29 ze_3 rfl rfl rfl rfl rfl) ?_
    rintro _ _ ⟨b33, rfl, rfl⟩
    refine RW_fx rfl rfl rfl (Fx_appT (z0 := .int .i64 0) (q := 1) rfl rfl sl_29 by_3 ze_3 rfl rfl rem_ rem_ (by simpa using hl) (by simp) rfl (by simp [nv, Value.oneCell']) om_ om_ om_) ?_
    rintro _ _ ⟨g', cap', r', rfl, hl', rfl⟩
    refine RW_a ?_
    refine RW_nil ?_
    refine QW_normal_block ?_
    refine (QW_lv [0,1,5,23,24] ?_)
    refine CW_region ?_
    refine RW_l (Yl_add rfl rfl (wi64 om_ om_)) ?_
    refine RW_m ?_
    refine RW_nil ?_
    refine QW_round (k + 1, g', cap', r') ⟨by omega, ?_⟩ (by simp only; omega) ?_ kp_
    · simp only [List.range_succ, List.map_append, List.map_cons, List.map_nil]; simpa using hl'
    simp only [List.range_succ, List.map_append, List.map_cons, List.map_nil]; exact Prm.nil _
  refine CW_exit ?_
  refine QW_exit_then ?_
  refine QW_exit_then ?_
  refine QW_exit_block ?_
  refine (QW_lv [5] ?_)
  refine CW_sr ?_
  refine RW_m ?_
  refine RW_a ?_
  refine RW_lv [4] ?_
  refine CW_ret ?_
  obtain rfl : n = k := by omega
  have e : (List.range n).map (fun k => nv (k * stepF n step % n)) = nats (mixedF n step) := by simp [mixedF]
  rw [e] at hl ⊢
  exact QW_ret1 rfl rfl [(g, _)] ⟨g, cap, r, rfl, hl, rfl⟩ (Prm.nil _)

theorem chained_ct (bt bp bc ct cp cc from_ : Nat) (t pl cs : List Nat) (rp rc : List Value) (hpl : ∀ x ∈ pl, x < t.length) (ht : t.length ≤ 100000000) (hp : pl.length ≤ 100000000) (hcl : cs.length ≤ 100000000) (hsum : from_ + cs.sum ≤ pl.length) :
    Ct Tryd.prog 26 [.slice (some ⟨bt, 0, none⟩) t.length ct, .slice (some ⟨bp, 0, none⟩) pl.length cp, .int .i64 from_, .slice (some ⟨bc, 0, none⟩) cs.length cc] [(bt, blk (u32s t) 67), (bp, blk (nats pl ++ rp) 3), (bc, blk (nats cs ++ rc) 3)]
      (fun v p => ∃ g cap r, v = .slice (some ⟨g, 0, none⟩) cs.length cap ∧ (nats (chainedF pl t from_ cs).outs ++ r).length = cap ∧
        p = [(g, blk (nats (chainedF pl t from_ cs).outs ++ r) 3), (bt, blk (u32s (chainedF pl t from_ cs).table) 67), (bp, blk (nats pl ++ rp) 3), (bc, blk (nats cs ++ rc) 3)]) := by
  refine Ct_of Tryd.func26 rfl Tryd.ntmps26 rfl ?_
  intro E F
  simp only [numL, List.nil_append, List.cons_append]
  refine CW_sr ?_
  refine RW_a ?_
  refine RW_lv [0,1,2,3] ?_
  refine CW_sr ?_
  refine RW_fx rfl rfl rfl (Fx_buildSlice0 sl_29) ?_
  rintro _ _ ⟨b13, rfl, rfl⟩
  refine RW_a ?_
  refine RW_lv [0,1,2,3,9] ?_
  refine CW_seq ?_
  refine CW_sr ?_
  refine RW_m ?_
  refine RW_l (Yl_len rfl sl_29) ?_
  refine RW_m ?_
  refine RW_lv [0,1,2,9,14,15,16] ?_
  refine CW_block ?_
  refine CW_loop (σ := Nat × Nat × Nat × List Value) (fun q => [(0, .slice (some ⟨bt, 0, none⟩) t.length ct), (1, .slice (some ⟨bp, 0, none⟩) pl.length cp), (2, .int .i64 ((chTo pl t from_ cs q.1).pos : Nat)), (9, .slice (some ⟨q.2.1, 0, none⟩) q.1 q.2.2.1), (14, .slice (some ⟨bc, 0, none⟩) cs.length cc), (15, .int .i64 (cs.length : Int)), (16, .int .i64 (q.1 : Nat))]) (fun q => (q.2.1, blk (nats (chTo pl t from_ cs q.1).outs ++ q.2.2.2) 3) :: (bt, blk (u32s (chTo pl t from_ cs q.1).table) 67) :: (bp, blk (nats pl ++ rp) 3) :: (bc, blk (nats cs ++ rc) 3) :: F) (fun q => q.1 ≤ cs.length ∧ (nats (chTo pl t from_ cs q.1).outs ++ q.2.2.2).length = q.2.2.1) (fun q => cs.length - q.1) (0, b13, 0, []) ⟨by omega, by rw [chTo_zero]; rfl⟩ (Prm.of_eq (by rw [chTo_zero]; rfl)) (.cons rfl (.cons rfl (.cons (by rw [chTo_zero]; rfl) kp_))) ?_
  rintro ⟨i, g, cap, r⟩ ⟨hi, hl⟩
  simp only at hi hl ⊢
  obtain ⟨hf1, hf2, hf3⟩ := chTo_facts pl t from_ cs i hi
  have hsuc := chTo_succ pl t from_ cs i
  generalize hs : chTo pl t from_ cs i = s at *
  have hol := hf3
  refine CW_sr ?_
  refine RW_l (Yl_lss rfl rfl) ?_
  refine RW_lv [0,1,2,9,14,15,16,17] ?_
  refine CW_seq ?_
  refine CW_cd rfl (fun hc1 => ?_) (fun hc1 => ?_)
  · refine (CW_skip (QW_lv [0,1,2,9,14,15,16] ?_))
    refine CW_seq ?_
    refine CW_block ?_
    refine CW_sr ?_
    refine RW_l (Yl_index rfl rfl sl_29 om_ om_) ?_
    refine RW_h (Yh_load (v := nv (cs.getD i 0)) rfl sc_3 mem_ (at_nats om_ om_)) ?_
    refine RW_a ?_
    refine RW_lv [0,1,2,9,11,14,15,16] ?_
    refine CW_seq ?_
    refine CW_sr ?_
    refine RW_m ?_
    refine RW_l (Yl_eql rfl rfl) ?_
    refine RW_lv [0,1,2,9,11,14,15,16,21] ?_
    refine CW_cd rfl (fun hc2 => ?_) (fun hc2 => ?_)
    · refine CW_sr ?_
      refine RW_m ?_
      refine RW_fx rfl rfl rfl (Fx_litS (vs := [nv 4294967294]) sl_29 ze_3 rfl rfl rfl rfl rfl) ?_
      rintro _ _ ⟨b23, rfl, rfl⟩
      refine RW_fx rfl rfl rfl (Fx_appT (news := [nv 4294967294]) (z0 := .int .i64 0) (q := 1) rfl rfl sl_29 by_3 ze_3 rfl rfl rem_ rem_ (by simpa using hl) (by simp [hol]) rfl (by simp [nv, Value.oneCell']) om_ om_ om_) ?_
      rintro _ _ ⟨g', cap', r', rfl, hl', rfl⟩
      refine RW_a ?_
      refine RW_lv [0,1,2,9,14,15,16] ?_
      refine CW_exit ?_
      refine QW_exit_then ?_
      refine QW_exit_block ?_
      refine (QW_lv [0,1,2,9,14,15,16] ?_)
      refine CW_region ?_
      refine RW_l (Yl_add rfl rfl (wi64 om_ om_)) ?_
      refine RW_m ?_
      refine RW_nil ?_
      try (obtain rfl : k = cs.getD i 0 := by omega)
      refine QW_round (i + 1, g', cap', r') ⟨by omega, ?_⟩ (by simp only; omega) ?_ (.cons rfl (.cons rfl (.cons (by rw [hsuc om_, chStep]; split <;> first | rfl | omega | (exfalso; omega)) kp_)))
      · rw [hsuc om_, chStep]; split <;> first | (simpa using hl') | (exfalso; omega)
      rw [hsuc om_, chStep]; split <;> first | (exfalso; omega) | (apply Prm.of_eq; simp; done)
    refine (CW_skip (QW_lv [0,1,2,9,11,14,15,16] ?_))
    refine CW_seq ?_
    have hct := sum_take_succ cs i om_
    refine CW_region ?_
    refine RW_m ?_
    refine RW_m ?_
    refine RW_m ?_
    refine RW_l (Yl_index rfl rfl sl_29 om_ om_) ?_
    refine RW_h (Yh_load (v := nv (pl.getD s.pos 0)) rfl sc_3 mem_ (at_nats om_ om_)) ?_
    refine RW_fx rfl rfl rfl (Fx_litS (vs := [nv (pl.getD s.pos 0)]) sl_29 ze_3 rfl rfl rfl rfl rfl) ?_
    rintro _ _ ⟨b30, rfl, rfl⟩
    refine RW_fx rfl rfl rfl (Fx_appT (news := [nv (pl.getD s.pos 0)]) (z0 := .int .i64 0) (q := 1) rfl rfl sl_29 by_3 ze_3 rfl rfl rem_ rem_ (by simpa using hl) (by simp [hol]) rfl (by simp [nv, Value.oneCell']) om_ om_ om_) ?_
    rintro _ _ ⟨g', cap', r', rfl, hl', rfl⟩
    refine RW_a ?_
    refine RW_lv [0,1,2,9,11,14,15,16] ?_
    refine CW_sr ?_
    refine RW_m ?_
    refine RW_m ?_
    refine RW_lv [0,1,2,9,11,14,15,16,32,33] ?_
    refine CW_block ?_
    refine CW_loop (σ := Nat) (fun k => [(0, .slice (some ⟨bt, 0, none⟩) t.length ct), (1, .slice (some ⟨bp, 0, none⟩) pl.length cp), (2, .int .i64 (s.pos + k : Nat)), (9, .slice (some ⟨g', 0, none⟩) (i + 1) cap'), (14, .slice (some ⟨bc, 0, none⟩) cs.length cc), (15, .int .i64 (cs.length : Int)), (16, .int .i64 (i : Nat)), (11, .int .i64 (cs.getD i 0 : Nat)), (32, .int .i64 (cs.getD i 0 : Nat)), (33, .int .i64 (k : Nat))]) (fun k => (g', blk ((nats s.outs ++ [nv (pl.getD s.pos 0)]) ++ r') 3) :: (bt, blk (u32s (linkTo pl s.pos (cs.getD i 0) s.table k)) 67) :: (bp, blk (nats pl ++ rp) 3) :: (bc, blk (nats cs ++ rc) 3) :: F) (fun k => k ≤ cs.getD i 0) (fun k => cs.getD i 0 - k) 0 om_ (Prm.nil _) kp_ ?_
    intro k hk
    have hlt := length_linkTo pl s.pos (cs.getD i 0) s.table k
    refine CW_sr ?_
    refine RW_l (Yl_lss rfl rfl) ?_
    refine RW_lv [0,1,2,9,11,14,15,16,32,33,34] ?_
    refine CW_seq ?_
    refine CW_cd rfl (fun hc3 => ?_) (fun hc3 => ?_)
    · refine (CW_skip (QW_lv [0,1,2,9,11,14,15,16,32,33] ?_))
      refine CW_seq ?_
      refine CW_block ?_
      refine CW_sr ?_
      refine RW_m ?_
      refine RW_a ?_
      refine RW_lv [0,1,2,9,11,12,14,15,16,32,33] ?_
      refine CW_cut (σ := Unit) (fun _ => [(0, .slice (some ⟨bt, 0, none⟩) t.length ct), (1, .slice (some ⟨bp, 0, none⟩) pl.length cp), (2, .int .i64 (s.pos + k : Nat)), (9, .slice (some ⟨g', 0, none⟩) (i + 1) cap'), (14, .slice (some ⟨bc, 0, none⟩) cs.length cc), (15, .int .i64 (cs.length : Int)), (16, .int .i64 (i : Nat)), (11, .int .i64 (cs.getD i 0 : Nat)), (32, .int .i64 (cs.getD i 0 : Nat)), (33, .int .i64 (k : Nat))]) (fun _ => (g', blk ((nats s.outs ++ [nv (pl.getD s.pos 0)]) ++ r') 3) :: (bt, blk (u32s (linkTo pl s.pos (cs.getD i 0) s.table (k + 1))) 67) :: (bp, blk (nats pl ++ rp) 3) :: (bc, blk (nats cs ++ rc) 3) :: F) (fun _ => True) ?_ ?_
      · skip
        refine CW_sr ?_
        refine RW_m ?_
        refine RW_m ?_
        refine RW_l (Yl_sub rfl rfl (wi64 om_ om_)) ?_
        refine RW_l (Yl_eql rfl rfl) ?_
        refine RW_lv [0,1,2,9,11,14,15,16,32,33,39] ?_
        refine CW_cd rfl (fun hc4 => ?_) (fun hc4 => ?_)
        · have hpk : pl.getD (s.pos + k) 0 < t.length := getD_lt hpl om_
          refine CW_region ?_
          refine RW_m ?_
          refine RW_m ?_
          refine RW_m ?_
          refine RW_l (Yl_index rfl rfl sl_29 om_ om_) ?_
          refine RW_h (Yh_load (v := nv (pl.getD (s.pos + k) 0)) rfl sc_3 mem_ (at_nats om_ om_)) ?_
          refine RW_l (Yl_index rfl rfl sl_22 om_ om_) ?_
          refine RW_fx0 rfl rfl (Fx_store (v := uv 4294967294) rfl rfl sz_67 rfl rep_ (by rw [List.length_map]; omega)) ?_
          rintro _ _ rfl
          refine RW_nil ?_
          refine QW_cut () trivial ?_ kp_
          rw [linkTo_succ, linkAt, ← u32s_set _ _ _ _ (show 0 + (pl.getD (s.pos + k) 0 : Int).toNat * 1 = pl.getD (s.pos + k) 0 by omega)]
          first | (rw [if_pos (show k + 1 = cs.getD i 0 by omega)]; exact Prm.nil _) | (rw [if_neg (show ¬ (k + 1 = cs.getD i 0) by omega)]; exact Prm.nil _)
        have hpk : pl.getD (s.pos + k) 0 < t.length := getD_lt hpl om_
        refine CW_draw [12] _ mixed (Sub.refl _) ?_
        refine RD_m 0 ?_
        refine RD_m 1 ?_
        refine RD_m 2 ?_
        refine RD_l 3 rfl (Yl_index rfl rfl sl_29 om_ om_) ?_
        refine RD_m 5 ?_
        refine RD_m 6 ?_
        refine RD_l 7 rfl (Yl_add rfl rfl (wi64 om_ om_)) ?_
        refine RD_l 8 rfl (Yl_index rfl rfl sl_29 om_ om_) ?_
        have hpk1 : pl.getD (s.pos + k + 1) 0 < t.length := getD_lt hpl om_
        refine RD_h (i := 4) #[true, true, true, true, false, true, true, true, true, true, true, false, false] rfl rfl rfl rfl kr_ (fun _ _ _ h => h) (Yh_load (v := nv (pl.getD (s.pos + k) 0)) rfl sc_3 mem_ (at_nats om_ om_)) ?_
        refine RD_h (i := 9) #[true, true, true, true, true, true, true, true, true, false, false, false, false] rfl rfl rfl rfl kr_ (fun _ _ _ h => h) (Yh_load (v := nv (pl.getD (s.pos + k + 1) 0)) rfl sc_3 mem_ (at_nats om_ om_)) ?_
        refine RD_l 10 rfl (Yl_conv rfl in_3 in_67 (wu32 om_ om_)) ?_
        refine RD_l 11 rfl (Yl_index rfl rfl sl_22 om_ om_) ?_
        refine RD_o 12 ?_
        refine RO_fx0 rfl rfl rfl (Fx_store (v := uv (pl.getD (s.pos + k + 1) 0)) rfl rfl sz_67 rfl rep_ (by rw [List.length_map]; omega)) ?_
        rintro _ _ rfl
        refine ⟨Or.inl kr_, ?_⟩
        refine RD_done kr_ ?_
        refine QW_cut () trivial ?_ kp_
        rw [linkTo_succ, linkAt, ← u32s_set _ _ _ _ (show 0 + (pl.getD (s.pos + k) 0 : Int).toNat * 1 = pl.getD (s.pos + k) 0 by omega)]
        first | (rw [if_pos (show k + 1 = cs.getD i 0 by omega)]; exact Prm.nil _) | (rw [if_neg (show ¬ (k + 1 = cs.getD i 0) by omega)]; exact Prm.nil _)
      rintro ⟨⟩ -
      refine CW_region ?_
      refine RW_m ?_
      refine RW_l (Yl_add rfl rfl (wi64 om_ om_)) ?_
      refine RW_a ?_
      refine RW_nil ?_
      refine QW_normal_block ?_
      refine (QW_lv [0,1,2,9,11,14,15,16,32,33] ?_)
      refine CW_region ?_
      refine RW_l (Yl_add rfl rfl (wi64 om_ om_)) ?_
      refine RW_m ?_
      refine RW_nil ?_
      refine QW_round (k + 1) om_ om_ ?_ kp_
      exact Prm.nil _
    refine CW_exit ?_
    refine QW_exit_then ?_
    refine QW_exit_then ?_
    refine QW_exit_block ?_
    refine QW_normal_block ?_
    refine (QW_lv [0,1,2,9,14,15,16] ?_)
    refine CW_region ?_
    refine RW_l (Yl_add rfl rfl (wi64 om_ om_)) ?_
    refine RW_m ?_
    refine RW_nil ?_
    try (obtain rfl : k = cs.getD i 0 := by omega)
    refine QW_round (i + 1, g', cap', r') ⟨by omega, ?_⟩ (by simp only; omega) ?_ (.cons rfl (.cons rfl (.cons (by rw [hsuc om_, chStep]; split <;> first | rfl | omega | (exfalso; omega)) kp_)))
    · rw [hsuc om_, chStep]; split <;> first | (simpa using hl') | (exfalso; omega)
    rw [hsuc om_, chStep]; split <;> first | (exfalso; omega) | (apply Prm.of_eq; simp; done)
  refine CW_exit ?_
  refine QW_exit_then ?_
  refine QW_exit_then ?_
  refine QW_exit_block ?_
  refine (QW_lv [9] ?_)
  refine CW_sr ?_
  refine RW_m ?_
  refine RW_a ?_
  refine RW_lv [8] ?_
  refine CW_ret ?_
  obtain rfl : i = cs.length := by omega
  rw [chTo_all] at hs
  subst hs
  exact QW_ret1 rfl rfl [(g, _), _, _, _] ⟨g, cap, r, rfl, hl, rfl⟩ (Prm.nil _)

theorem write_C {E : World} {Q : Exit → Act → World → Prop} {F : Heap} (hQ : QP Q) (st b7 g8 c8 g19 c19 per fats mf sml csl : Nat) (sm cs : List Nat) (r8 r19 : List Value) {v0 v1 v18 : Value} (hsml : sml = sm.length) (hcsl : csl = cs.length) (hmf : cs.getD 1 0 = mf) (hst : st ≤ 1000) (hper : 1 ≤ per ∧ per ≤ 4096) (hfats : 1 ≤ fats) (hcl : 3 ≤ cs.length) (hcl2 : cs.length ≤ 1000) (hsl : sm.length ≤ 1000) (hms : sm.sum ≤ 100000) (hfp : fats * per ≤ 500000) (hfn : cs.sum + fats ≤ fats * per) (hmp : sm.sum ≤ mf * per) (hmp2 : mf * per ≤ 500000)
  (hk : ∀ g24 c24 r24 b25 bf g29 c29 r29 b30 g33 c33 r33, ((nats (mixedF (cs.sum + fats) st) ++ r24).length = c24) → ((nats (chainedF (mixedF (cs.sum + fats) st) (markTo (mixedF (cs.sum + fats) st) FS fats (List.replicate (fats * per) FREE)) fats cs).outs ++ r29).length = c29) → ((nats (chainedF (mixedF sm.sum (st + 3)) (List.replicate (mf * per) FREE) 0 sm).outs ++ r33).length = c33) → CW Tryd.prog E 514 [(0, v0), (1, v1), (7, .pointer (some ⟨b7, 0, none⟩)), (14, nv sm.sum), (17, nv per), (18, v18), (19, .slice (some ⟨g19, 0, none⟩) csl c19), (20, nv cs.sum), (23, nv fats), (24, .slice (some ⟨g24, 0, none⟩) (cs.sum + fats) c24), (25, .pointer (some ⟨b25, 0, none⟩)), (29, .slice (some ⟨g29, 0, none⟩) csl c29), (30, .slice (some ⟨b30, 0, none⟩) (mf * per) (mf * per)), (33, .slice (some ⟨g33, 0, none⟩) sml c33)] ((g33, blk (nats (chainedF (mixedF sm.sum (st + 3)) (List.replicate (mf * per) FREE) 0 sm).outs ++ r33) 3) :: (b30, blk (u32s (chainedF (mixedF sm.sum (st + 3)) (List.replicate (mf * per) FREE) 0 sm).table) 67) :: (g29, blk (nats (chainedF (mixedF (cs.sum + fats) st) (markTo (mixedF (cs.sum + fats) st) FS fats (List.replicate (fats * per) FREE)) fats cs).outs ++ r29) 3) :: (bf, blk (u32s (chainedF (mixedF (cs.sum + fats) st) (markTo (mixedF (cs.sum + fats) st) FS fats (List.replicate (fats * per) FREE)) fats cs).table) 67) :: (b25, blk [.slice (some ⟨bf, 0, none⟩) (fats * per) (fats * per)] 22) :: (g24, blk (nats (mixedF (cs.sum + fats) st) ++ r24) 3) :: (g19, blk (nats cs ++ r19) 3) :: F) (dig [1, 1, 1, 1, 1, 1, 1, 1, 1, 1, 1, 1, 1, 1, 1, 1, 1, 1, 1, 1, 1, 1, 1] (bodyOf Tryd.f15)) Q) :
  CW Tryd.prog E 514 [(0, v0), (1, v1), (2, nv st), (7, .pointer (some ⟨b7, 0, none⟩)), (8, .slice (some ⟨g8, 0, none⟩) sml c8), (14, nv sm.sum), (17, nv per), (18, v18), (19, .slice (some ⟨g19, 0, none⟩) csl c19), (20, nv cs.sum), (23, nv fats)] ((g8, blk (nats sm ++ r8) 3) :: (g19, blk (nats cs ++ r19) 3) :: F) (dig [1, 1, 1, 1, 1, 1, 1, 1, 1, 1, 1, 1, 1, 1] (bodyOf Tryd.f15)) Q := by
 subst hsml hcsl
 have hmlt := mixedF_lt (cs.sum + fats) st
 have hmlt2 := mixedF_lt sm.sum (st + 3)
 refine CW_sr ?_
 refine RW_m ?_
 refine RW_m ?_
 refine RW_l (Yl_add (c := ((cs.sum + fats : Nat) : Int)) rfl rfl (wi64 om_ om_)) ?_
 refine RW_m ?_
 refine RW_fx rfl rfl rfl (Fx_call ok_25 (vs := [nv (cs.sum + fats), nv st]) rfl pk_ (mixed_ct (cs.sum + fats) st om_ om_)) ?_
 rintro _ _ ⟨_, ⟨g24, c24, r24, rfl, hl24, rfl⟩, rfl⟩
 refine RW_a ?_
 refine RW_lv [0,1,2,7,8,14,17,18,19,20,23,24] ?_
 refine CW_sr ?_
 refine RW_m ?_
 refine RW_m ?_
 refine RW_l (Yl_mul (c := ((fats * per : Nat) : Int)) rfl rfl (mulN (a := fats) (b := per) om_)) ?_
 refine RW_fx rfl rfl rfl (Fx_makeU32 (fats * per) rfl rfl om_) ?_
 rintro _ _ ⟨b152, rfl, rfl⟩
 refine RW_fx rfl rfl rfl (Fx_alloc (zs := zs_22) ze_22 rfl) ?_
 rintro _ _ ⟨b25, rfl, rfl⟩
 refine RW_fx0 rfl rfl (Fx_store rfl rfl sz_22 rfl rep_ (by simp)) ?_
 rintro _ _ rfl
 refine RW_lv [0,1,2,7,8,14,17,18,19,20,23,24,25] ?_
 refine CW_seq ?_
 refine CW_sr ?_
 refine RW_h (Yh_ld (v := .slice (some ⟨b152, 0, none⟩) (fats * per) (fats * per)) sc_22) ?_
 refine RW_l (Yl_len rfl sl_22) ?_
 refine RW_m ?_
 refine RW_lv [0,1,2,7,8,14,17,18,19,20,23,24,25,154,155] ?_
 refine CW_block ?_
 refine CW_lp (σ := Nat) (fun k => [(0, v0), (1, v1), (2, nv st), (7, .pointer (some ⟨b7, 0, none⟩)), (8, .slice (some ⟨g8, 0, none⟩) sm.length c8), (14, nv sm.sum), (17, nv per), (18, v18), (19, .slice (some ⟨g19, 0, none⟩) cs.length c19), (20, nv cs.sum), (23, nv fats), (24, .slice (some ⟨g24, 0, none⟩) (cs.sum + fats) c24), (25, .pointer (some ⟨b25, 0, none⟩)), (154, nv (fats * per)), (155, nv k)]) (fun k => (b152, blk (u32s (List.replicate k FREE ++ List.replicate (fats * per - k) 0)) 67) :: (b25, blk [.slice (some ⟨b152, 0, none⟩) (fats * per) (fats * per)] 22) :: (g24, blk (nats (mixedF (cs.sum + fats) st) ++ r24) 3) :: (g8, blk (nats sm ++ r8) 3) :: (g19, blk (nats cs ++ r19) 3) :: F) (fun k => k ≤ fats * per) (fun k => fats * per - k) 0 om_ ?_
 intro k hkm
 refine CW_sr ?_
 refine RW_l (Yl_lss rfl rfl) ?_
 refine RW_lv [0,1,2,7,8,14,17,18,19,20,23,24,25,154,155,156] ?_
 refine CW_seq ?_
 refine CW_cd rfl (fun hc1 => ?_) (fun hc1 => ?_)
 ·refine (CW_skip (QW_lv [0,1,2,7,8,14,17,18,19,20,23,24,25,154,155] ?_))
  refine CW_seq ?_
  refine CW_block ?_
  refine CW_sr ?_
  refine RW_m ?_
  refine RW_a ?_
  refine RW_lv [0,1,2,7,8,14,17,18,19,20,23,24,25,26,154,155] ?_
  refine CW_region ?_
  refine RW_h (Yh_ld (v := .slice (some ⟨b152, 0, none⟩) (fats * per) (fats * per)) sc_22) ?_
  refine RW_m ?_
  refine RW_l (Yl_index rfl rfl sl_22 om_ om_) ?_
  refine RW_fx0 rfl rfl (Fx_store (v := uv FREE) rfl rfl sz_67 rfl rep_ (by simp; omega)) ?_
  rintro _ _ rfl
  refine RW_nil ?_
  refine QW_normal_block ?_
  refine (QW_lv [0,1,2,7,8,14,17,18,19,20,23,24,25,154,155] ?_)
  refine CW_region ?_
  refine RW_l (Yl_add rfl rfl (wi64 om_ om_)) ?_
  refine RW_m ?_
  refine RW_nil ?_
  refine QW_round (k + 1) om_ om_ ?_ kp_
  rw [u32s_set _ k _ FREE om_, repl_set _ _ _ _ om_]
  exact prm_
 refine CW_exit ?_
 refine QW_exit_then ?_
 refine QW_exit_then ?_
 refine QW_exit_block ?_
 refine (QW_lv [0,1,2,7,8,14,17,18,19,20,23,24,25] ?_)
 refine CW_seq ?_
 refine CW_seq ?_
 obtain rfl : k = fats * per := by omega
 rw [show List.replicate (fats * per) FREE ++ List.replicate (fats * per - fats * per) 0 = List.replicate (fats * per) FREE by simp]
 refine CW_region ?_
 refine RW_m ?_
 refine RW_m ?_
 refine RW_l (Yl_cutHN (h := fats) rfl rfl sl_29 (by rw [← hl24]; simp; omega)) ?_
 refine RW_l (Yl_len rfl sl_29) ?_
 refine RW_m ?_
 refine RW_lv [0,1,2,7,8,14,17,18,19,20,23,24,25,164,165,166] ?_
 refine CW_block ?_
 refine CW_lp (σ := Nat) (fun k => [(0, v0), (1, v1), (2, nv st), (7, .pointer (some ⟨b7, 0, none⟩)), (8, .slice (some ⟨g8, 0, none⟩) sm.length c8), (14, nv sm.sum), (17, nv per), (18, v18), (19, .slice (some ⟨g19, 0, none⟩) cs.length c19), (20, nv cs.sum), (23, nv fats), (24, .slice (some ⟨g24, 0, none⟩) (cs.sum + fats) c24), (25, .pointer (some ⟨b25, 0, none⟩)), (164, .slice (some ⟨g24, 0, none⟩) fats c24), (165, nv fats), (166, nv k)]) (fun k => (b152, blk (u32s (markTo (mixedF (cs.sum + fats) st) FS k (List.replicate (fats * per) FREE))) 67) :: (b25, blk [.slice (some ⟨b152, 0, none⟩) (fats * per) (fats * per)] 22) :: (g24, blk (nats (mixedF (cs.sum + fats) st) ++ r24) 3) :: (g8, blk (nats sm ++ r8) 3) :: (g19, blk (nats cs ++ r19) 3) :: F) (fun k => k ≤ fats) (fun k => fats - k) 0 om_ ?_
 intro k hkm
 refine CW_sr ?_
 refine RW_l (Yl_lss rfl rfl) ?_
 refine RW_lv [0,1,2,7,8,14,17,18,19,20,23,24,25,164,165,166,167] ?_
 refine CW_seq ?_
 refine CW_cd rfl (fun hc2 => ?_) (fun hc2 => ?_)
 ·refine (CW_skip (QW_lv [0,1,2,7,8,14,17,18,19,20,23,24,25,164,165,166] ?_))
  refine CW_seq ?_
  refine CW_block ?_
  refine CW_sr ?_
  refine RW_l (Yl_index rfl rfl sl_29 om_ om_) ?_
  refine RW_h (Yh_load (v := nv ((mixedF (cs.sum + fats) st).getD k 0)) rfl sc_3 mem_ (at_nats (by simp; omega) om_)) ?_
  refine RW_a ?_
  refine RW_lv [0,1,2,7,8,14,17,18,19,20,23,24,25,28,164,165,166] ?_
  have hpk : (mixedF (cs.sum + fats) st).getD k 0 < fats * per := by have := getD_lt hmlt (i := k) (by simp; omega); omega
  refine CW_region ?_
  refine RW_h (Yh_ld (v := .slice (some ⟨b152, 0, none⟩) (fats * per) (fats * per)) sc_22) ?_
  refine RW_m ?_
  refine RW_l (Yl_index rfl rfl sl_22 om_ om_) ?_
  refine RW_fx0 rfl rfl (Fx_store (v := uv FS) rfl rfl sz_67 rfl rep_ (by rw [List.length_map, length_markTo, List.length_replicate]; omega)) ?_
  rintro _ _ rfl
  refine RW_nil ?_
  refine QW_normal_block ?_
  refine (QW_lv [0,1,2,7,8,14,17,18,19,20,23,24,25,164,165,166] ?_)
  refine CW_region ?_
  refine RW_l (Yl_add rfl rfl (wi64 om_ om_)) ?_
  refine RW_m ?_
  refine RW_nil ?_
  refine QW_round (k + 1) om_ om_ ?_ kp_
  rw [markTo_succ, ← u32s_set _ _ _ FS (show 0 + ((mixedF (cs.sum + fats) st).getD k 0 : Int).toNat * 1 = (mixedF (cs.sum + fats) st).getD k 0 by omega)]
  exact prm_
 refine CW_exit ?_
 refine QW_exit_then ?_
 refine QW_exit_then ?_
 refine QW_exit_block ?_
 refine (QW_lv [0,1,2,7,8,14,17,18,19,20,23,24,25] ?_)
 refine CW_seq ?_
 obtain rfl : fats = k := by omega
 have hct1 := chained_ct b152 g24 g19 (fats * per) c24 c19 fats (markTo (mixedF (cs.sum + fats) st) FS fats (List.replicate (fats * per) FREE)) (mixedF (cs.sum + fats) st) cs r24 r19 (by intro x hx; have := hmlt x hx; simp; omega) (by simp; omega) (by simp; omega) om_ (by simp; omega)
 simp only [length_markTo, List.length_replicate, length_mixedF] at hct1
 refine CW_region ?_
 refine RW_h (Yh_ld (v := .slice (some ⟨b152, 0, none⟩) (fats * per) (fats * per)) sc_22) ?_
 refine RW_m ?_
 refine RW_m ?_
 refine RW_m ?_
 refine RW_fx rfl rfl rfl (Fx_call ok_26 (vs := [.slice (some ⟨b152, 0, none⟩) (fats * per) (fats * per), .slice (some ⟨g24, 0, none⟩) (cs.sum + fats) c24, nv fats, .slice (some ⟨g19, 0, none⟩) cs.length c19]) rfl pk_ hct1) ?_
 rintro _ _ ⟨_, ⟨g29, c29, r29, rfl, hl29, rfl⟩, rfl⟩
 refine RW_a ?_
 refine RW_lv [0,1,2,7,8,14,17,18,19,20,23,24,25,29] ?_
 refine CW_sr ?_
 refine RW_m ?_
 refine RW_l (Yl_index rfl rfl sl_29 om_ om_) ?_
 refine RW_h (Yh_load (v := nv mf) rfl sc_3 mem_ (by rw [← hmf]; exact at_nats om_ om_)) ?_
 refine RW_m ?_
 refine RW_l (Yl_mul (c := ((mf * per : Nat) : Int)) rfl rfl (mulN (a := mf) (b := per) om_)) ?_
 refine RW_fx rfl rfl rfl (Fx_makeU32 (mf * per) rfl rfl om_) ?_
 rintro _ _ ⟨b184, rfl, rfl⟩
 refine RW_a ?_
 refine RW_lv [0,1,2,7,8,14,17,18,19,20,23,24,25,29,30] ?_
 refine CW_seq ?_
 refine CW_sr ?_
 refine RW_m ?_
 refine RW_l (Yl_len rfl sl_22) ?_
 refine RW_m ?_
 refine RW_lv [0,1,2,7,8,14,17,18,19,20,23,24,25,29,30,186,187] ?_
 refine CW_block ?_
 refine CW_lp (σ := Nat) (fun k => [(0, v0), (1, v1), (2, nv st), (7, .pointer (some ⟨b7, 0, none⟩)), (8, .slice (some ⟨g8, 0, none⟩) sm.length c8), (14, nv sm.sum), (17, nv per), (18, v18), (19, .slice (some ⟨g19, 0, none⟩) cs.length c19), (20, nv cs.sum), (23, nv fats), (24, .slice (some ⟨g24, 0, none⟩) (cs.sum + fats) c24), (25, .pointer (some ⟨b25, 0, none⟩)), (29, .slice (some ⟨g29, 0, none⟩) cs.length c29), (30, .slice (some ⟨b184, 0, none⟩) (mf * per) (mf * per)), (186, nv (mf * per)), (187, nv k)]) (fun k => (b184, blk (u32s (List.replicate k FREE ++ List.replicate (mf * per - k) 0)) 67) :: (g29, blk (nats (chainedF (mixedF (cs.sum + fats) st) (markTo (mixedF (cs.sum + fats) st) FS fats (List.replicate (fats * per) FREE)) fats cs).outs ++ r29) 3) :: (b152, blk (u32s (chainedF (mixedF (cs.sum + fats) st) (markTo (mixedF (cs.sum + fats) st) FS fats (List.replicate (fats * per) FREE)) fats cs).table) 67) :: (b25, blk [.slice (some ⟨b152, 0, none⟩) (fats * per) (fats * per)] 22) :: (g24, blk (nats (mixedF (cs.sum + fats) st) ++ r24) 3) :: (g8, blk (nats sm ++ r8) 3) :: (g19, blk (nats cs ++ r19) 3) :: F) (fun k => k ≤ mf * per) (fun k => mf * per - k) 0 om_ ?_
 intro k hkm
 refine CW_sr ?_
 refine RW_l (Yl_lss rfl rfl) ?_
 refine RW_lv [0,1,2,7,8,14,17,18,19,20,23,24,25,29,30,186,187,188] ?_
 refine CW_seq ?_
 refine CW_cd rfl (fun hc3 => ?_) (fun hc3 => ?_)
 ·refine (CW_skip (QW_lv [0,1,2,7,8,14,17,18,19,20,23,24,25,29,30,186,187] ?_))
  refine CW_seq ?_
  refine CW_block ?_
  refine CW_sr ?_
  refine RW_m ?_
  refine RW_a ?_
  refine RW_lv [0,1,2,7,8,14,17,18,19,20,23,24,25,29,30,31,186,187] ?_
  refine CW_region ?_
  refine RW_m ?_
  refine RW_m ?_
  refine RW_l (Yl_index rfl rfl sl_22 om_ om_) ?_
  refine RW_fx0 rfl rfl (Fx_store (v := uv FREE) rfl rfl sz_67 rfl rep_ (by simp; omega)) ?_
  rintro _ _ rfl
  refine RW_nil ?_
  refine QW_normal_block ?_
  refine (QW_lv [0,1,2,7,8,14,17,18,19,20,23,24,25,29,30,186,187] ?_)
  refine CW_region ?_
  refine RW_l (Yl_add rfl rfl (wi64 om_ om_)) ?_
  refine RW_m ?_
  refine RW_nil ?_
  refine QW_round (k + 1) om_ om_ ?_ kp_
  rw [u32s_set _ k _ FREE om_, repl_set _ _ _ _ om_]
  exact prm_
 refine CW_exit ?_
 refine QW_exit_then ?_
 refine QW_exit_then ?_
 refine QW_exit_block ?_
 refine (QW_lv [0,1,2,7,8,14,17,18,19,20,23,24,25,29,30] ?_)
 refine CW_seq ?_
 obtain rfl : k = mf * per := by omega
 rw [show List.replicate (mf * per) FREE ++ List.replicate (mf * per - mf * per) 0 = List.replicate (mf * per) FREE by simp]
 refine CW_region ?_
 refine RW_m ?_
 refine RW_m ?_
 refine RW_l (Yl_add (c := ((st + 3 : Nat) : Int)) rfl rfl (wi64 om_ om_)) ?_
 refine RW_fx rfl rfl rfl (Fx_call ok_25 (vs := [nv sm.sum, nv (st + 3)]) rfl pk_ (mixed_ct sm.sum (st + 3) om_ om_)) ?_
 rintro _ _ ⟨_, ⟨g32, c32, r32, rfl, hl32, rfl⟩, rfl⟩
 refine RW_a ?_
 refine RW_lv [0,1,7,8,14,17,18,19,20,23,24,25,29,30,32] ?_
 refine CW_seq ?_
 have hct2 := chained_ct b184 g32 g8 (mf * per) c32 c8 0 (List.replicate (mf * per) FREE) (mixedF sm.sum (st + 3)) sm r32 r8 (by intro x hx; have := hmlt2 x hx; simp; omega) (by simp; omega) (by simp; omega) om_ (by simp)
 simp only [List.length_replicate, length_mixedF] at hct2
 refine CW_region ?_
 refine RW_m ?_
 refine RW_m ?_
 refine RW_m ?_
 refine RW_fx rfl rfl rfl (Fx_call ok_26 (vs := [.slice (some ⟨b184, 0, none⟩) (mf * per) (mf * per), .slice (some ⟨g32, 0, none⟩) sm.sum c32, nv 0, .slice (some ⟨g8, 0, none⟩) sm.length c8]) rfl pk_ hct2) ?_
 rintro _ _ ⟨_, ⟨g33, c33, r33, rfl, hl33, rfl⟩, rfl⟩
 refine RW_a ?_
 refine RW_lv [0,1,7,14,17,18,19,20,23,24,25,29,30,33] ?_
 refine CW_dropB (e := (g32, _)) rem_ ?_
 refine CW_dropB (e := (g8, _)) rem_ ?_
 refine CW_heap (Prm.perm (T := (g33, blk (nats (chainedF (mixedF sm.sum (st + 3)) (List.replicate (mf * per) FREE) 0 sm).outs ++ r33) 3) :: (b184, blk (u32s (chainedF (mixedF sm.sum (st + 3)) (List.replicate (mf * per) FREE) 0 sm).table) 67) :: (g29, blk (nats (chainedF (mixedF (cs.sum + fats) st) (markTo (mixedF (cs.sum + fats) st) FS fats (List.replicate (fats * per) FREE)) fats cs).outs ++ r29) 3) :: (b152, blk (u32s (chainedF (mixedF (cs.sum + fats) st) (markTo (mixedF (cs.sum + fats) st) FS fats (List.replicate (fats * per) FREE)) fats cs).table) 67) :: (b25, blk [.slice (some ⟨b152, 0, none⟩) (fats * per) (fats * per)] 22) :: (g24, blk (nats (mixedF (cs.sum + fats) st) ++ r24) 3) :: (g19, blk (nats cs ++ r19) 3) :: F) prm_) ?_
 exact hk g24 c24 r24 b25 b152 g29 c29 r29 b184 g33 c33 r33 hl24 hl29 hl33

theorem write_D {E : World} {Q : Exit → Act → World → Prop} {F : Heap} (hQ : QP Q) (v b7 g19 csl c19 g29 stl c29 size dirs sum fats N : Nat) (cs sts : List Nat) (r19 r29 : List Value) {v0 v14 v17 v24 v25 v30 v33 : Value} (hsz : size = 512 ∨ size = 4096) (hcl : csl = cs.length) (hcl3 : 3 ≤ cs.length) (hsl : stl = sts.length) (hsl3 : 3 ≤ sts.length) (hc1 : cs.getD 1 0 ≤ 1000000) (hs0 : sts.getD 0 0 ≤ 4294967295) (hs1 : sts.getD 1 0 ≤ 4294967295) (hsum : sum ≤ 100000) (hfa : fats ≤ 100000) (hv : v ≤ 4) (hdirs : dirs ≤ 100000) (hN : size * (1 + sum + fats) = N) (hN1 : 512 ≤ N) (hN2 : N ≤ 1000000000)
  (hk : ∀ bo b34 b35, CW Tryd.prog E 514 [(0, v0), (7, .pointer (some ⟨b7, 0, none⟩)), (14, v14), (17, v17), (18, nv dirs), (23, nv fats), (24, v24), (25, v25), (29, .slice (some ⟨g29, 0, none⟩) stl c29), (30, v30), (33, v33), (34, .pointer (some ⟨b34, 0, none⟩)), (35, .pointer (some ⟨b35, 0, none⟩)), (36, .func (.func 28) #[] #[v25, .pointer (some ⟨b35, 0, none⟩)])] ((bo, blk (bys (freeTo 109 (headF size v dirs fats (sts.getD 0 0) (sts.getD 1 0) (cs.getD 1 0) (List.replicate N 0)))) 5) :: (b35, blk [.func (.func 27) #[] #[.pointer (some ⟨b34, 0, none⟩), .pointer (some ⟨b7, 0, none⟩)]] 73) :: (b34, blk [.slice (some ⟨bo, 0, none⟩) N N] 23) :: (g29, blk (nats sts ++ r29) 3) :: (b7, blk [nv size] 3) :: F) (dig [1, 1, 1, 1, 1, 1, 1, 1, 1, 1, 1, 1, 1, 1, 1, 1, 1, 1, 1, 1, 1, 1, 1, 1, 1, 1, 1, 1, 1, 1, 1, 1, 1, 1, 1, 1, 1, 1, 1, 1] (bodyOf Tryd.f15)) Q) :
  CW Tryd.prog E 514 [(0, v0), (1, nv v), (7, .pointer (some ⟨b7, 0, none⟩)), (14, v14), (17, v17), (18, nv dirs), (19, .slice (some ⟨g19, 0, none⟩) csl c19), (20, nv sum), (23, nv fats), (24, v24), (25, v25), (29, .slice (some ⟨g29, 0, none⟩) stl c29), (30, v30), (33, v33)] ((g19, blk (nats cs ++ r19) 3) :: (g29, blk (nats sts ++ r29) 3) :: (b7, blk [nv size] 3) :: F) (dig [1, 1, 1, 1, 1, 1, 1, 1, 1, 1, 1, 1, 1, 1, 1, 1, 1, 1, 1, 1, 1, 1, 1] (bodyOf Tryd.f15)) Q := by
 refine CW_sr ?_
 refine RW_h (Yh_ld (v := nv size) sc_3) ?_
 refine RW_m ?_
 refine RW_l (Yl_add (c := ((1 + sum : Nat) : Int)) rfl rfl (wi64 om_ om_)) ?_
 refine RW_m ?_
 refine RW_l (Yl_add (c := ((1 + sum + fats : Nat) : Int)) rfl rfl (wi64 om_ om_)) ?_
 refine RW_l (Yl_mul (c := (N : Int)) rfl rfl (by rw [← hN]; exact mulN (a := size) (b := 1 + sum + fats) om_)) ?_
 refine RW_fx rfl rfl rfl (Fx_makeU8 N rfl rfl om_) ?_
 rintro _ _ ⟨b208, rfl, rfl⟩
 refine RW_fx rfl rfl rfl (Fx_alloc (zs := zs_23) ze_23 rfl) ?_
 rintro _ _ ⟨b34, rfl, rfl⟩
 refine RW_fx0 rfl rfl (Fx_store rfl rfl sz_23 rfl rep_ (by simp)) ?_
 rintro _ _ rfl
 refine RW_lv [0,1,7,14,17,18,19,23,24,25,29,30,33,34] ?_
 refine CW_sr ?_
 refine RW_l (Yl_makeFunc (fs := []) (us := []) (cs := [.tmp 34, .tmp 7]) (vs := [.pointer (some ⟨b34, 0, none⟩), .pointer (some ⟨b7, 0, none⟩)]) rfl rfl) ?_
 refine RW_fx rfl rfl rfl (Fx_alloc (zs := zs_73) ze_73 rfl) ?_
 rintro _ _ ⟨b35, rfl, rfl⟩
 refine RW_fx0 rfl rfl (Fx_store rfl rfl sz_73 rfl rep_ (by simp)) ?_
 rintro _ _ rfl
 refine RW_lv [0,1,7,14,17,18,19,23,24,25,29,30,33,34,35] ?_
 refine CW_sr ?_
 refine RW_l (Yl_makeFunc (fs := []) (us := []) (cs := [.tmp 25, .tmp 35]) (vs := [v25, .pointer (some ⟨b35, 0, none⟩)]) rfl rfl) ?_
 refine RW_a ?_
 refine RW_lv [0,1,7,14,17,18,19,23,24,25,29,30,33,34,35,36] ?_
 refine CW_sr ?_
 refine RW_h (Yh_ld (v := .slice (some ⟨b208, 0, none⟩) N N) sc_23) ?_
 refine RW_fx rfl rfl rfl (Fx_litS (vs := bys magic) sl_23 ze_5 rfl rfl rfl rfl rfl) ?_
 rintro _ _ ⟨b212, rfl, rfl⟩
 refine RW_fx rfl rfl rfl (Fx_copy (m := N) (ms := 8) (ls := bys magic) rfl rfl sl_23 mem_ (by simp [magic]; omega) rep_ (by simp [magic]; omega) (one_take (one_map one_bv magic) _ _)) ?_
 rintro _ _ ⟨rfl, rfl⟩
 have hcp : spl 0 (((bys magic).drop 0).take (min 8 N * 1)) (bys (List.replicate N 0)) = bys (spl 0 magic (List.replicate N 0)) := by rw [Nat.min_eq_left om_]; show _ = List.map bv _; rw [map_spl]; rfl
 rw [hcp]
 obtain ⟨l1, he1⟩ : ∃ l, l = spl 0 magic (List.replicate N 0) := ⟨_, rfl⟩
 rw [← he1]
 have hl1 : l1.length = N := by rw [he1, length_spl (by simp [magic]; omega)]; simp
 refine RW_lv [0,1,7,14,17,18,19,23,24,25,29,30,33,34,35,36] ?_
 refine CW_sr ?_
 refine RW_h (Yh_ld (v := .slice (some ⟨b208, 0, none⟩) N N) sc_23) ?_
 refine RW_fx rfl rfl rfl (Fx_call ok_29 (vs := [.slice (some ⟨b208, 0, none⟩) N N, nv 24, .int .u64 ((62 : Nat) : Int), nv 2]) rfl pk_ (put_ctN b208 0 N N 24 l1 24 62 2 om_ om_ om_ om_ om_)) ?_
 rintro _ _ ⟨_, ⟨rfl, rfl⟩, rfl⟩
 obtain ⟨l2, he2⟩ : ∃ l, l = putF 24 62 2 l1 := ⟨_, rfl⟩
 rw [← he2]
 have hl2 : l2.length = N := by rw [he2, length_putF om_]; exact hl1
 refine RW_lv [0,1,7,14,17,18,19,23,24,25,29,30,33,34,35,36] ?_
 refine CW_sr ?_
 refine RW_h (Yh_ld (v := .slice (some ⟨b208, 0, none⟩) N N) sc_23) ?_
 refine RW_m ?_
 refine RW_l (Yl_conv rfl in_3 in_39 (wu64 om_ om_)) ?_
 refine RW_fx rfl rfl rfl (Fx_call ok_29 (vs := [.slice (some ⟨b208, 0, none⟩) N N, nv 26, .int .u64 ((v : Nat) : Int), nv 2]) rfl pk_ (put_ctN b208 0 N N 26 l2 26 v 2 om_ om_ om_ om_ om_)) ?_
 rintro _ _ ⟨_, ⟨rfl, rfl⟩, rfl⟩
 obtain ⟨l3, he3⟩ : ∃ l, l = putF 26 v 2 l2 := ⟨_, rfl⟩
 rw [← he3]
 have hl3 : l3.length = N := by rw [he3, length_putF om_]; exact hl2
 refine RW_lv [0,1,7,14,17,18,19,23,24,25,29,30,33,34,35,36] ?_
 refine CW_sr ?_
 refine RW_h (Yh_ld (v := .slice (some ⟨b208, 0, none⟩) N N) sc_23) ?_
 refine RW_fx rfl rfl rfl (Fx_call ok_29 (vs := [.slice (some ⟨b208, 0, none⟩) N N, nv 28, .int .u64 ((65534 : Nat) : Int), nv 2]) rfl pk_ (put_ctN b208 0 N N 28 l3 28 65534 2 om_ om_ om_ om_ om_)) ?_
 rintro _ _ ⟨_, ⟨rfl, rfl⟩, rfl⟩
 obtain ⟨l4, he4⟩ : ∃ l, l = putF 28 65534 2 l3 := ⟨_, rfl⟩
 rw [← he4]
 have hl4 : l4.length = N := by rw [he4, length_putF om_]; exact hl3
 refine RW_lv [0,1,7,14,17,18,19,23,24,25,29,30,33,34,35,36] ?_
 refine CW_sr ?_
 refine RW_h (Yh_ld (v := .slice (some ⟨b208, 0, none⟩) N N) sc_23) ?_
 refine RW_fx rfl rfl rfl (Fx_makeMap .i64) ?_
 rintro _ _ ⟨b223, rfl, rfl⟩
 refine RW_fx0 rfl rfl (Fx_insert (n := 512) (v := .int .u64 9) rfl rfl rfl mp_76 in_3 rep_ (by simp)) ?_
 rintro _ _ ⟨rfl, rfl⟩
 refine RW_fx0 rfl rfl (Fx_insert (n := 4096) (v := .int .u64 12) rfl rfl rfl mp_76 in_3 rep_ (by simp)) ?_
 rintro _ _ ⟨rfl, rfl⟩
 refine RW_m ?_
 refine RW_h (Yh_ld (v := nv size) sc_3) ?_
 refine RW_h (Yh_lookup (v := .int .u64 ((shiftF size : Nat) : Int)) (n := (size : Int)) (k := .i64) rfl rfl mp_76 in_3 zm_39 mem_ (by rcases hsz with rfl | rfl <;> rfl)) ?_
 refine RW_fx rfl rfl rfl (Fx_call ok_29 (vs := [.slice (some ⟨b208, 0, none⟩) N N, nv 30, .int .u64 (((shiftF size) : Nat) : Int), nv 2]) rfl pk_ (put_ctN b208 0 N N 30 l4 30 (shiftF size) 2 om_ om_ om_ om_ om_)) ?_
 rintro _ _ ⟨_, ⟨rfl, rfl⟩, rfl⟩
 obtain ⟨l5, he5⟩ : ∃ l, l = putF 30 (shiftF size) 2 l4 := ⟨_, rfl⟩
 rw [← he5]
 have hl5 : l5.length = N := by rw [he5, length_putF om_]; exact hl4
 refine RW_lv [0,1,7,14,17,18,19,23,24,25,29,30,33,34,35,36] ?_
 refine CW_sr ?_
 refine RW_h (Yh_ld (v := .slice (some ⟨b208, 0, none⟩) N N) sc_23) ?_
 refine RW_fx rfl rfl rfl (Fx_call ok_29 (vs := [.slice (some ⟨b208, 0, none⟩) N N, nv 32, .int .u64 ((6 : Nat) : Int), nv 2]) rfl pk_ (put_ctN b208 0 N N 32 l5 32 6 2 om_ om_ om_ om_ om_)) ?_
 rintro _ _ ⟨_, ⟨rfl, rfl⟩, rfl⟩
 obtain ⟨l6, he6⟩ : ∃ l, l = putF 32 6 2 l5 := ⟨_, rfl⟩
 rw [← he6]
 have hl6 : l6.length = N := by rw [he6, length_putF om_]; exact hl5
 refine RW_lv [0,1,7,14,17,18,19,23,24,25,29,30,33,34,35,36] ?_
 refine CW_cut (σ := Unit) (fun _ => [(0, v0), (7, .pointer (some ⟨b7, 0, none⟩)), (14, v14), (17, v17), (18, nv dirs), (19, .slice (some ⟨g19, 0, none⟩) csl c19), (23, nv fats), (24, v24), (25, v25), (29, .slice (some ⟨g29, 0, none⟩) stl c29), (30, v30), (33, v33), (34, .pointer (some ⟨b34, 0, none⟩)), (35, .pointer (some ⟨b35, 0, none⟩)), (36, .func (.func 28) #[] #[v25, .pointer (some ⟨b35, 0, none⟩)])]) (fun _ => (b208, blk (bys ((if v = 4 then putF 40 dirs 4 else id) l6)) 5) :: (g19, blk (nats cs ++ r19) 3) :: (b35, blk [.func (.func 27) #[] #[.pointer (some ⟨b34, 0, none⟩), .pointer (some ⟨b7, 0, none⟩)]] 73) :: (b34, blk [.slice (some ⟨b208, 0, none⟩) N N] 23) :: (g29, blk (nats sts ++ r29) 3) :: (b7, blk [nv size] 3) :: F) (fun _ => True) ?_ ?_
 ·skip
  refine CW_seq ?_
  refine CW_dropB (e := (b223, _)) rem_ ?_
  refine CW_dropB (e := (b212, _)) rem_ ?_
  refine CW_region ?_
  refine RW_m ?_
  refine RW_l (Yl_eql rfl rfl) ?_
  refine RW_lv [0,7,14,17,18,19,23,24,25,29,30,33,34,35,36,231] ?_
  refine CW_cd rfl (fun hc1 => ?_) (fun hc1 => ?_)
  ·refine CW_region ?_
   refine RW_h (Yh_ld (v := .slice (some ⟨b208, 0, none⟩) N N) sc_23) ?_
   refine RW_m ?_
   refine RW_l (Yl_conv rfl in_3 in_39 (wu64 om_ om_)) ?_
   refine RW_fx rfl rfl rfl (Fx_call ok_29 (vs := [.slice (some ⟨b208, 0, none⟩) N N, nv 40, .int .u64 ((dirs : Nat) : Int), nv 4]) rfl pk_ (put_ctN b208 0 N N 40 l6 40 dirs 4 om_ om_ om_ om_ om_)) ?_
   rintro _ _ ⟨_, ⟨rfl, rfl⟩, rfl⟩
   refine RW_nil ?_
   refine QW_cut () trivial ?_ kp_
   first | rw [if_pos (show v = 4 by omega)] | rw [if_neg (show ¬ v = 4 by omega)]
   exact prm_
  refine CW_skip ?_
  refine QW_cut () trivial ?_ kp_
  first | rw [if_pos (show v = 4 by omega)] | rw [if_neg (show ¬ v = 4 by omega)]
  exact prm_
 rintro ⟨⟩ -
 obtain ⟨l7, he7⟩ : ∃ l, l = (if v = 4 then putF 40 dirs 4 else id) l6 := ⟨_, rfl⟩
 rw [← he7]
 have hl7 : l7.length = N := by
  rw [he7]
  by_cases h4 : v = 4
  ·rw [if_pos h4, length_putF om_]; exact hl6
  rw [if_neg h4]; exact hl6
 refine CW_sr ?_
 refine RW_h (Yh_ld (v := .slice (some ⟨b208, 0, none⟩) N N) sc_23) ?_
 refine RW_m ?_
 refine RW_l (Yl_conv rfl in_3 in_39 (wu64 om_ om_)) ?_
 refine RW_fx rfl rfl rfl (Fx_call ok_29 (vs := [.slice (some ⟨b208, 0, none⟩) N N, nv 44, .int .u64 ((fats : Nat) : Int), nv 4]) rfl pk_ (put_ctN b208 0 N N 44 l7 44 fats 4 om_ om_ om_ om_ om_)) ?_
 rintro _ _ ⟨_, ⟨rfl, rfl⟩, rfl⟩
 obtain ⟨l8, he8⟩ : ∃ l, l = putF 44 fats 4 l7 := ⟨_, rfl⟩
 rw [← he8]
 have hl8 : l8.length = N := by rw [he8, length_putF om_]; exact hl7
 refine RW_lv [0,7,14,17,18,19,23,24,25,29,30,33,34,35,36] ?_
 refine CW_seq ?_
 refine CW_draw [5] _ mixed (Sub.refl _) ?_
 refine RD_y (i := 1) rfl rfl rfl rfl kr_ (fun _ _ _ h => hQ _ _ _ _ _ h) (Yl_move rfl) ?_
 refine RD_y (i := 2) rfl rfl rfl rfl kr_ (fun _ _ _ h => hQ _ _ _ _ _ h) (Yl_index rfl rfl sl_29 om_ om_) ?_
 refine RD_h (i := 0) #[false, true, true, true, true, false] rfl rfl rfl rfl kr_ (fun _ _ _ h => hQ _ _ _ _ _ h) (Yh_ld (v := .slice (some ⟨b208, 0, none⟩) N N) sc_23) ?_
 refine RD_h (i := 3) #[true, true, true, false, false, false] rfl rfl rfl rfl kr_ (fun _ _ _ h => hQ _ _ _ _ _ h) (Yh_load (v := nv (sts.getD 0 0)) rfl sc_3 mem_ (at_nats om_ om_)) ?_
 refine RD_y (i := 4) rfl rfl rfl rfl kr_ (fun _ _ _ h => hQ _ _ _ _ _ h) (Yl_conv rfl in_3 in_39 (wu64 om_ om_)) ?_
 refine RD_o 5 ?_
 refine RO_fx rfl rfl rfl rfl (Fx_call ok_29 (vs := [.slice (some ⟨b208, 0, none⟩) N N, nv 48, .int .u64 (((sts.getD 0 0) : Nat) : Int), nv 4]) rfl pk_ (put_ctN b208 0 N N 48 l8 48 (sts.getD 0 0) 4 om_ om_ om_ om_ om_)) ?_
 rintro _ _ ⟨_, ⟨rfl, rfl⟩, rfl⟩
 obtain ⟨l9, he9⟩ : ∃ l, l = putF 48 (sts.getD 0 0) 4 l8 := ⟨_, rfl⟩
 rw [← he9]
 have hl9 : l9.length = N := by rw [he9, length_putF om_]; exact hl8
 refine ⟨Or.inl kr_, ?_⟩
 refine (RD_done kr_ (QW_lv [0,7,14,17,18,19,23,24,25,29,30,33,34,35,36] ?_))
 refine CW_sr ?_
 refine RW_h (Yh_ld (v := .slice (some ⟨b208, 0, none⟩) N N) sc_23) ?_
 refine RW_fx rfl rfl rfl (Fx_call ok_29 (vs := [.slice (some ⟨b208, 0, none⟩) N N, nv 56, .int .u64 ((4096 : Nat) : Int), nv 4]) rfl pk_ (put_ctN b208 0 N N 56 l9 56 4096 4 om_ om_ om_ om_ om_)) ?_
 rintro _ _ ⟨_, ⟨rfl, rfl⟩, rfl⟩
 obtain ⟨l10, he10⟩ : ∃ l, l = putF 56 4096 4 l9 := ⟨_, rfl⟩
 rw [← he10]
 have hl10 : l10.length = N := by rw [he10, length_putF om_]; exact hl9
 refine RW_lv [0,7,14,17,18,19,23,24,25,29,30,33,34,35,36] ?_
 refine CW_seq ?_
 refine CW_draw [5] _ mixed (Sub.refl _) ?_
 refine RD_y (i := 1) rfl rfl rfl rfl kr_ (fun _ _ _ h => hQ _ _ _ _ _ h) (Yl_move rfl) ?_
 refine RD_y (i := 2) rfl rfl rfl rfl kr_ (fun _ _ _ h => hQ _ _ _ _ _ h) (Yl_index rfl rfl sl_29 om_ om_) ?_
 refine RD_h (i := 0) #[false, true, true, true, true, false] rfl rfl rfl rfl kr_ (fun _ _ _ h => hQ _ _ _ _ _ h) (Yh_ld (v := .slice (some ⟨b208, 0, none⟩) N N) sc_23) ?_
 refine RD_h (i := 3) #[true, true, true, false, false, false] rfl rfl rfl rfl kr_ (fun _ _ _ h => hQ _ _ _ _ _ h) (Yh_load (v := nv (sts.getD 1 0)) rfl sc_3 mem_ (at_nats om_ om_)) ?_
 refine RD_y (i := 4) rfl rfl rfl rfl kr_ (fun _ _ _ h => hQ _ _ _ _ _ h) (Yl_conv rfl in_3 in_39 (wu64 om_ om_)) ?_
 refine RD_o 5 ?_
 refine RO_fx rfl rfl rfl rfl (Fx_call ok_29 (vs := [.slice (some ⟨b208, 0, none⟩) N N, nv 60, .int .u64 (((sts.getD 1 0) : Nat) : Int), nv 4]) rfl pk_ (put_ctN b208 0 N N 60 l10 60 (sts.getD 1 0) 4 om_ om_ om_ om_ om_)) ?_
 rintro _ _ ⟨_, ⟨rfl, rfl⟩, rfl⟩
 obtain ⟨l11, he11⟩ : ∃ l, l = putF 60 (sts.getD 1 0) 4 l10 := ⟨_, rfl⟩
 rw [← he11]
 have hl11 : l11.length = N := by rw [he11, length_putF om_]; exact hl10
 refine ⟨Or.inl kr_, ?_⟩
 refine (RD_done kr_ (QW_lv [0,7,14,17,18,19,23,24,25,29,30,33,34,35,36] ?_))
 refine CW_seq ?_
 refine CW_draw [5] _ mixed (Sub.refl _) ?_
 refine RD_y (i := 1) rfl rfl rfl rfl kr_ (fun _ _ _ h => hQ _ _ _ _ _ h) (Yl_move rfl) ?_
 refine RD_y (i := 2) rfl rfl rfl rfl kr_ (fun _ _ _ h => hQ _ _ _ _ _ h) (Yl_index rfl rfl sl_29 om_ om_) ?_
 refine RD_h (i := 0) #[false, true, true, true, true, false] rfl rfl rfl rfl kr_ (fun _ _ _ h => hQ _ _ _ _ _ h) (Yh_ld (v := .slice (some ⟨b208, 0, none⟩) N N) sc_23) ?_
 refine RD_h (i := 3) #[true, true, true, false, false, false] rfl rfl rfl rfl kr_ (fun _ _ _ h => hQ _ _ _ _ _ h) (Yh_load (v := nv (cs.getD 1 0)) rfl sc_3 mem_ (at_nats om_ om_)) ?_
 refine RD_y (i := 4) rfl rfl rfl rfl kr_ (fun _ _ _ h => hQ _ _ _ _ _ h) (Yl_conv rfl in_3 in_39 (wu64 om_ om_)) ?_
 refine RD_o 5 ?_
 refine RO_fx rfl rfl rfl rfl (Fx_call ok_29 (vs := [.slice (some ⟨b208, 0, none⟩) N N, nv 64, .int .u64 (((cs.getD 1 0) : Nat) : Int), nv 4]) rfl pk_ (put_ctN b208 0 N N 64 l11 64 (cs.getD 1 0) 4 om_ om_ om_ om_ om_)) ?_
 rintro _ _ ⟨_, ⟨rfl, rfl⟩, rfl⟩
 obtain ⟨l12, he12⟩ : ∃ l, l = putF 64 (cs.getD 1 0) 4 l11 := ⟨_, rfl⟩
 rw [← he12]
 have hl12 : l12.length = N := by rw [he12, length_putF om_]; exact hl11
 refine ⟨Or.inl kr_, ?_⟩
 refine (RD_done kr_ (QW_lv [0,7,14,17,18,23,24,25,29,30,33,34,35,36] ?_))
 refine CW_sr ?_
 refine RW_h (Yh_ld (v := .slice (some ⟨b208, 0, none⟩) N N) sc_23) ?_
 refine RW_fx rfl rfl rfl (Fx_call ok_29 (vs := [.slice (some ⟨b208, 0, none⟩) N N, nv 68, .int .u64 ((CE : Nat) : Int), nv 4]) rfl pk_ (put_ctN b208 0 N N 68 l12 68 CE 4 om_ om_ om_ om_ om_)) ?_
 rintro _ _ ⟨_, ⟨rfl, rfl⟩, rfl⟩
 obtain ⟨l13, he13⟩ : ∃ l, l = putF 68 CE 4 l12 := ⟨_, rfl⟩
 rw [← he13]
 have hl13 : l13.length = N := by rw [he13, length_putF om_]; exact hl12
 refine RW_lv [0,7,14,17,18,23,24,25,29,30,33,34,35,36] ?_
 refine CW_seq ?_
 refine CW_sr ?_
 refine RW_m ?_
 refine RW_lv [0,7,14,17,18,23,24,25,29,30,33,34,35,36,262] ?_
 refine CW_block ?_
 refine CW_lp (σ := Nat) (fun k => [(0, v0), (7, .pointer (some ⟨b7, 0, none⟩)), (14, v14), (17, v17), (18, nv dirs), (23, nv fats), (24, v24), (25, v25), (29, .slice (some ⟨g29, 0, none⟩) stl c29), (30, v30), (33, v33), (34, .pointer (some ⟨b34, 0, none⟩)), (35, .pointer (some ⟨b35, 0, none⟩)), (36, .func (.func 28) #[] #[v25, .pointer (some ⟨b35, 0, none⟩)]), (262, nv k)]) (fun k => (b208, blk (bys (freeTo k l13)) 5) :: (g19, blk (nats cs ++ r19) 3) :: (b35, blk [.func (.func 27) #[] #[.pointer (some ⟨b34, 0, none⟩), .pointer (some ⟨b7, 0, none⟩)]] 73) :: (b34, blk [.slice (some ⟨b208, 0, none⟩) N N] 23) :: (g29, blk (nats sts ++ r29) 3) :: (b7, blk [nv size] 3) :: F) (fun k => k ≤ 109) (fun k => 109 - k) 0 om_ ?_
 intro k hkm
 refine CW_sr ?_
 refine RW_l (Yl_lss rfl rfl) ?_
 refine RW_lv [0,7,14,17,18,23,24,25,29,30,33,34,35,36,262,263] ?_
 refine CW_seq ?_
 refine CW_cd rfl (fun hc2 => ?_) (fun hc2 => ?_)
 ·refine (CW_skip (QW_lv [0,7,14,17,18,23,24,25,29,30,33,34,35,36,262] ?_))
  refine CW_seq ?_
  refine CW_block ?_
  refine CW_sr ?_
  refine RW_m ?_
  refine RW_a ?_
  refine RW_lv [0,7,14,17,18,23,24,25,29,30,33,34,35,36,37,262] ?_
  have hlk : (freeTo k l13).length = N := by rw [length_freeTo _ _ om_]; exact hl13
  refine CW_region ?_
  refine RW_h (Yh_ld (v := .slice (some ⟨b208, 0, none⟩) N N) sc_23) ?_
  refine RW_m ?_
  refine RW_l (Yl_mul (c := ((4 * k : Nat) : Int)) rfl rfl (mulN (a := 4) (b := k) om_)) ?_
  refine RW_l (Yl_add (c := ((76 + 4 * k : Nat) : Int)) rfl rfl (wi64 om_ om_)) ?_
  refine RW_fx rfl rfl rfl (Fx_call ok_29 (vs := [.slice (some ⟨b208, 0, none⟩) N N, nv (76 + 4 * k), .int .u64 ((FREE : Nat) : Int), nv 4]) rfl pk_ (put_ctN b208 0 N N (76 + 4 * k) (freeTo k l13) (76 + 4 * k) FREE 4 om_ om_ om_ om_ om_)) ?_
  rintro _ _ ⟨_, ⟨rfl, rfl⟩, rfl⟩
  refine RW_nil ?_
  refine QW_normal_block ?_
  refine (QW_lv [0,7,14,17,18,23,24,25,29,30,33,34,35,36,262] ?_)
  refine CW_region ?_
  refine RW_l (Yl_add rfl rfl (wi64 om_ om_)) ?_
  refine RW_m ?_
  refine RW_nil ?_
  exact QW_rn (k + 1) om_ om_
 refine CW_exit ?_
 refine QW_exit_then ?_
 refine QW_exit_then ?_
 refine QW_exit_block ?_
 refine (QW_lv [0,7,14,17,18,23,24,25,29,30,33,34,35,36] ?_)
 obtain rfl : k = 109 := by omega
 refine CW_dropB (e := (g19, _)) rem_ ?_
 have hhd : l13 = headF size v dirs fats (sts.getD 0 0) (sts.getD 1 0) (cs.getD 1 0) (List.replicate N 0) := by
  unfold headF
  rw [he13, he12, he11, he10, he9, he8, he7, he6, he5, he4, he3, he2, he1]
 rw [hhd]
 refine CW_heap (Prm.perm (T := (b208, blk (bys (freeTo 109 (headF size v dirs fats (sts.getD 0 0) (sts.getD 1 0) (cs.getD 1 0) (List.replicate N 0)))) 5) :: (b35, blk [.func (.func 27) #[] #[.pointer (some ⟨b34, 0, none⟩), .pointer (some ⟨b7, 0, none⟩)]] 73) :: (b34, blk [.slice (some ⟨b208, 0, none⟩) N N] 23) :: (g29, blk (nats sts ++ r29) 3) :: (b7, blk [nv size] 3) :: F) prm_) ?_
 exact hk b208 b34 b35

theorem sector_ct (p size N cN bx bo bs : Nat) (hs : 0 < size) (hN : size * (2 + p) ≤ N) (hc : N ≤ cN) (hb : N ≤ 1000000000000) :
    Ct Tryd.prog 27 [nv p, .pointer (some ⟨bo, 0, none⟩), .pointer (some ⟨bs, 0, none⟩)] [(bo, blk [.slice (some ⟨bx, 0, none⟩) N cN] 23), (bs, blk [nv size] 3)]
      (fun v q => v = .slice (some ⟨bx, size * (1 + p), none⟩) size (cN - size * (1 + p)) ∧ q = [(bo, blk [.slice (some ⟨bx, 0, none⟩) N cN] 23), (bs, blk [nv size] 3)]) := by
  have e1 : size * (2 + p) = size * (1 + p) + size := by rw [show 2 + p = (1 + p) + 1 by omega, Nat.mul_succ]
  have hp1 : p < size * (2 + p) := Nat.lt_of_lt_of_le (show p < 1 * (2 + p) by omega) (Nat.mul_le_mul_right _ hs)
  refine Ct_of Tryd.func27 rfl Tryd.ntmps27 rfl ?_
  intro E F
  simp only [numL, List.nil_append, List.cons_append]
  refine CW_sr ?_
  refine RW_a ?_
  refine RW_lv [0,1,2] ?_
  refine CW_sr ?_
  refine RW_h (Yh_ld sc_23) ?_
  refine RW_h (Yh_ld (v := nv size) sc_3) ?_
  refine RW_m ?_
  refine RW_l (Yl_add (m := 1) (n := (p : Int)) (c := ((1 + p : Nat) : Int)) rfl rfl (wi64 om_ om_)) ?_
  refine RW_l (Yl_mul (c := ((size * (1 + p) : Nat) : Int)) rfl rfl (mulN om_)) ?_
  refine RW_h (Yh_ld (v := nv size) sc_3) ?_
  refine RW_m ?_
  refine RW_l (Yl_add (m := 2) (n := (p : Int)) (c := ((2 + p : Nat) : Int)) rfl rfl (wi64 om_ om_)) ?_
  refine RW_l (Yl_mul (c := ((size * (2 + p) : Nat) : Int)) rfl rfl (mulN om_)) ?_
  refine RW_l (Yl_cutLHN (l := size * (1 + p)) (h := size * (2 + p)) (o' := size * (1 + p)) (m' := size) rfl rfl rfl sl_23 om_ om_ om_ om_ om_) ?_
  refine RW_a ?_
  refine RW_lv [4] ?_
  refine CW_ret ?_
  exact QW_ret1 rfl rfl [_, _] ⟨rfl, rfl⟩ (Prm.nil _)
theorem fill_ct (bfv bt bsv bo bs bx bb ct cN cb size start N : Nat) (fat : List Nat) (data out : List UInt8) (r : List Value) (hs : 0 < size) (hN : N = out.length) (hc : N ≤ cN) (hb : N ≤ 1000000000000) (hd : data.length ≤ cb) (hdb : data.length ≤ 1000000000000) (hst : start ≤ 4294967295)
    (hf : ∀ x ∈ fat, x < 4294967296) (hch : ∀ k, k * size < data.length → size * (2 + walkP fat start k) ≤ N ∧ walkP fat start k < fat.length) :
    Ct Tryd.prog 28 [nv start, .slice (some ⟨bb, 0, none⟩) data.length cb, .pointer (some ⟨bfv, 0, none⟩), .pointer (some ⟨bsv, 0, none⟩)] [(bfv, blk [.slice (some ⟨bt, 0, none⟩) fat.length ct] 22), (bt, blk (u32s fat) 67), (bsv, blk [.func (.func 27) #[] #[.pointer (some ⟨bo, 0, none⟩), .pointer (some ⟨bs, 0, none⟩)]] 73), (bo, blk [.slice (some ⟨bx, 0, none⟩) N cN] 23), (bs, blk [nv size] 3), (bx, blk (bys out) 5), (bb, blk (bys data ++ r) 5)]
      (fun v q => v = .tuple #[] ∧ q = [(bfv, blk [.slice (some ⟨bt, 0, none⟩) fat.length ct] 22), (bt, blk (u32s fat) 67), (bsv, blk [.func (.func 27) #[] #[.pointer (some ⟨bo, 0, none⟩), .pointer (some ⟨bs, 0, none⟩)]] 73), (bo, blk [.slice (some ⟨bx, 0, none⟩) N cN] 23), (bs, blk [nv size] 3), (bx, blk (bys (fillF fat size data start out)) 5), (bb, blk (bys data ++ r) 5)]) := by
  have hone : ∀ u ∈ bys data, u.oneCell' = true := one_map one_bv _
  refine Ct_of Tryd.func28 rfl Tryd.ntmps28 rfl ?_
  intro E F
  simp only [numL, List.nil_append, List.cons_append]
  refine CW_sr ?_
  refine RW_m ?_
  refine RW_a ?_
  refine RW_lv [1,2,3,6] ?_
  refine CW_block ?_
  refine CW_loop (σ := Nat × Nat × Nat) (fun q => [(1, .slice (some ⟨bb, q.2.1, none⟩) (data.length - q.1 * size) q.2.2), (2, .pointer (some ⟨bfv, 0, none⟩)), (3, .pointer (some ⟨bsv, 0, none⟩)), (6, nv (walkP fat start q.1))]) (fun q => (bfv, blk [.slice (some ⟨bt, 0, none⟩) fat.length ct] 22) :: (bt, blk (u32s fat) 67) :: (bsv, blk [.func (.func 27) #[] #[.pointer (some ⟨bo, 0, none⟩), .pointer (some ⟨bs, 0, none⟩)]] 73) :: (bo, blk [.slice (some ⟨bx, 0, none⟩) N cN] 23) :: (bs, blk [nv size] 3) :: (bx, blk (bys (fillTo fat size data start out q.1)) 5) :: (bb, blk (bys data ++ r) 5) :: F) (fun q => (q.1 * size < data.length → q.2.1 = q.1 * size) ∧ data.length - q.1 * size ≤ q.2.2 ∧ (0 < q.1 → (q.1 - 1) * size < data.length) ∧ walkP fat start q.1 ≤ 4294967295) (fun q => data.length - q.1 * size) (0, 0, cb) ⟨by simp, by simpa using hd, by simp, hst⟩ (Prm.nil _) (.cons (by simp [look]) kp_) ?_
  rintro ⟨k, o, c⟩ ⟨ho, hcap, hlo, hwk⟩
  simp only at ho hcap hlo hwk ⊢
  have hk1 : (k + 1) * size = k * size + size := Nat.succ_mul k size
  refine CW_seq ?_
  refine CW_sr ?_
  refine RW_m ?_
  refine RW_l (Yl_len rfl sl_23) ?_
  refine RW_l (Yl_gtr rfl rfl) ?_
  refine RW_lv [1,2,3,6,11] ?_
  refine CW_cd rfl (fun hc1 => ?_) (fun hc1 => ?_)
  · refine (CW_skip (QW_lv [1,2,3,6] ?_))
    refine CW_seq ?_
    refine CW_block ?_
    refine CW_seq ?_
    have hkd : k * size < data.length := by omega
    obtain rfl := ho hkd
    obtain ⟨hq1, hq2⟩ := hch k hkd
    have hlen : (fillTo fat size data start out k).length = out.length := length_fillTo k (fun j hj => by
      have hj2 : j * size ≤ (k - 1) * size := Nat.mul_le_mul_right _ om_
      have := (hch j (by have := hlo om_; omega)).1
      omega)
    have he : size * (2 + walkP fat start k) = size * (1 + walkP fat start k) + size := by rw [show 2 + walkP fat start k = (1 + walkP fat start k) + 1 by omega, Nat.mul_succ]
    have hwn : fat.getD (walkP fat start k) 0 < 4294967296 := getD_lt hf hq2
    have hmin : min (data.length - k * size) size ≤ size := Nat.min_le_right _ _
    have hpart : ((bys data ++ r).drop (k * size)).take (min (data.length - k * size) size * 1) = bys ((data.drop (k * size)).take (min (data.length - k * size) size)) := by
      rw [Nat.mul_one, List.drop_append_of_le_length (by simp; omega), List.take_append_of_le_length (by simp; omega)]; simp [bys, List.map_take, List.map_drop]
    have hmin2 : (data.drop (k * size)).take (min (data.length - k * size) size) = (data.drop (k * size)).take size := by
      rcases Nat.le_total (data.length - k * size) size with h | h
      · rw [Nat.min_eq_left h, List.take_of_length_le (by simp), List.take_of_length_le (by simp; omega)]
      rw [Nat.min_eq_right h]
    refine CW_region ?_
    refine RW_h (Yh_ld sc_73) ?_
    refine RW_m ?_
    refine RW_fx rfl rfl rfl (Fx_callV ok_27 (fs := []) (vs := [nv (walkP fat start k)]) (cs := [.pointer (some ⟨bo, 0, none⟩), .pointer (some ⟨bs, 0, none⟩)]) rfl rfl pk_ (sector_ct (walkP fat start k) size N cN bx bo bs hs om_ hc hb)) ?_
    rintro _ _ ⟨_, ⟨rfl, rfl⟩, rfl⟩
    refine RW_m ?_
    refine RW_fx rfl rfl rfl (Fx_copy rfl rfl sl_23 mem_ (by simp; omega) rep_ (by rw [List.length_map]; omega) (by have hone2 : ∀ u ∈ ((bys data ++ r).drop (k * size)).take (min (data.length - k * size) size * 1), u.oneCell' = true := (by rw [hpart]; exact one_map one_bv _); exact hone2)) ?_
    rintro _ _ ⟨rfl, rfl⟩
    refine RW_a ?_
    refine RW_lv [1,2,3,6,7] ?_
    refine CW_region ?_
    refine RW_m ?_
    refine RW_m ?_
    refine RW_l (Yl_cutLN (l := min (data.length - k * size) size) rfl rfl sl_23 om_) ?_
    refine RW_a ?_
    refine RW_nil ?_
    refine QW_normal_block ?_
    refine (QW_lv [1,2,3,6] ?_)
    refine CW_region ?_
    refine RW_h (Yh_ld sc_22) ?_
    refine RW_m ?_
    refine RW_l (Yl_index rfl rfl sl_22 om_ om_) ?_
    refine RW_h (Yh_load (v := uv (fat.getD (walkP fat start k) 0)) rfl sc_67 mem_ (at_u32s (i := walkP fat start k) om_ om_)) ?_
    refine RW_l (Yl_conv rfl in_67 in_3 (wi64 om_ om_)) ?_
    refine RW_a ?_
    refine RW_nil ?_
    refine QW_round (k + 1, (if c = min (data.length - k * size) size then k * size else k * size + min (data.length - k * size) size * 1), c - min (data.length - k * size) size) ⟨?_, ?_, ?_, ?_⟩ (by simp only; omega) ?_ (.cons (by simp only [look]; congr 2; omega) kp_)
    · intro h; simp only at h ⊢; rw [if_neg om_]; omega
    · simp only; omega
    · intro _; simp only [Nat.add_sub_cancel]; exact hkd
    · simp only [walkP]; omega
    simp only [fillTo]
    rw [hpart, ← map_spl, hmin2]
    exact prm_
  refine CW_exit ?_
  refine QW_exit_then ?_
  refine QW_exit_then ?_
  refine QW_exit_block ?_
  have hk : partsF data.length size = k := by
    have h1 : ¬ k < partsF data.length size := by rw [lt_partsF hs]; omega
    rcases Nat.lt_or_ge (partsF data.length size) k with h2 | h2
    · exact absurd (hlo om_) (by have := (not_congr (lt_partsF (n := data.length) (size := size) (k := k - 1) hs)).1 om_; omega)
    omega
  exact QW_end0 rfl _ ⟨rfl, by rw [fillF, hk]⟩ (Prm.nil _)

theorem write_E {E : World} {Q : Exit → Act → World → Prop} {F : Heap} (hQ : QP Q) (b7 g24 c24 bf b25 b34 b35 bo size per fats N T : Nat) (pl fat : List Nat) (r24 : List Value) (l : List UInt8) {v0 v14 v18 v29 v30 v33 v36 : Value} (hsz : 512 ≤ size ∧ size ≤ 4096) (hper : 4 * per = size) (hpl : ∀ x ∈ pl, x < T) (hplc : (nats pl ++ r24).length = c24) (hfp : fats ≤ pl.length) (hf109 : fats ≤ 100) (hff : fats * per ≤ fat.length) (hfb : ∀ x ∈ fat, x < 4294967296) (hT : T ≤ 100000) (hN : size * (1 + T) = N) (hN1 : 512 ≤ N) (hl : l.length = N)
  (hk : CW Tryd.prog E 514 [(0, v0), (7, .pointer (some ⟨b7, 0, none⟩)), (14, v14), (18, v18), (29, v29), (30, v30), (33, v33), (34, .pointer (some ⟨b34, 0, none⟩)), (36, v36)] ((bo, blk (bys (fatTo pl fat size per fats l)) 5) :: (b35, blk [.func (.func 27) #[] #[.pointer (some ⟨b34, 0, none⟩), .pointer (some ⟨b7, 0, none⟩)]] 73) :: (b34, blk [.slice (some ⟨bo, 0, none⟩) N N] 23) :: (bf, blk (u32s fat) 67) :: (b25, blk [.slice (some ⟨bf, 0, none⟩) fat.length fat.length] 22) :: (g24, blk (nats pl ++ r24) 3) :: (b7, blk [nv size] 3) :: F) (dig [1, 1, 1, 1, 1, 1, 1, 1, 1, 1, 1, 1, 1, 1, 1, 1, 1, 1, 1, 1, 1, 1, 1, 1, 1, 1, 1, 1, 1, 1, 1, 1, 1, 1, 1, 1, 1, 1, 1, 1, 1] (bodyOf Tryd.f15)) Q) :
  CW Tryd.prog E 514 [(0, v0), (7, .pointer (some ⟨b7, 0, none⟩)), (14, v14), (17, nv per), (18, v18), (23, nv fats), (24, .slice (some ⟨g24, 0, none⟩) pl.length c24), (25, .pointer (some ⟨b25, 0, none⟩)), (29, v29), (30, v30), (33, v33), (34, .pointer (some ⟨b34, 0, none⟩)), (35, .pointer (some ⟨b35, 0, none⟩)), (36, v36)] ((bo, blk (bys l) 5) :: (b35, blk [.func (.func 27) #[] #[.pointer (some ⟨b34, 0, none⟩), .pointer (some ⟨b7, 0, none⟩)]] 73) :: (b34, blk [.slice (some ⟨bo, 0, none⟩) N N] 23) :: (bf, blk (u32s fat) 67) :: (b25, blk [.slice (some ⟨bf, 0, none⟩) fat.length fat.length] 22) :: (g24, blk (nats pl ++ r24) 3) :: (b7, blk [nv size] 3) :: F) (dig [1, 1, 1, 1, 1, 1, 1, 1, 1, 1, 1, 1, 1, 1, 1, 1, 1, 1, 1, 1, 1, 1, 1, 1, 1, 1, 1, 1, 1, 1, 1, 1, 1, 1, 1, 1, 1, 1, 1, 1] (bodyOf Tryd.f15)) Q := by
 have hNb : N ≤ 1000000000 := by
  have h1 : size * (1 + T) ≤ 4096 * 100001 := Nat.mul_le_mul hsz.2 om_
  omega
 refine CW_seq ?_
 refine CW_sr ?_
 refine RW_m ?_
 refine RW_m ?_
 refine RW_l (Yl_cutHN (h := fats) rfl rfl sl_29 (by rw [← hplc]; simp; omega)) ?_
 refine RW_l (Yl_len rfl sl_29) ?_
 refine RW_m ?_
 refine RW_lv [0,7,14,17,18,25,29,30,33,34,35,36,273,274,275] ?_
 refine CW_block ?_
 refine CW_lp (σ := Nat) (fun k => [(0, v0), (7, .pointer (some ⟨b7, 0, none⟩)), (14, v14), (17, nv per), (18, v18), (25, .pointer (some ⟨b25, 0, none⟩)), (29, v29), (30, v30), (33, v33), (34, .pointer (some ⟨b34, 0, none⟩)), (35, .pointer (some ⟨b35, 0, none⟩)), (36, v36), (273, .slice (some ⟨g24, 0, none⟩) fats c24), (274, nv fats), (275, nv k)]) (fun k => (bo, blk (bys (fatTo pl fat size per k l)) 5) :: (b35, blk [.func (.func 27) #[] #[.pointer (some ⟨b34, 0, none⟩), .pointer (some ⟨b7, 0, none⟩)]] 73) :: (b34, blk [.slice (some ⟨bo, 0, none⟩) N N] 23) :: (bf, blk (u32s fat) 67) :: (b25, blk [.slice (some ⟨bf, 0, none⟩) fat.length fat.length] 22) :: (g24, blk (nats pl ++ r24) 3) :: (b7, blk [nv size] 3) :: F) (fun k => k ≤ fats) (fun k => fats - k) 0 om_ ?_
 intro k hkm
 refine CW_sr ?_
 refine RW_l (Yl_lss rfl rfl) ?_
 refine RW_lv [0,7,14,17,18,25,29,30,33,34,35,36,273,274,275,276] ?_
 refine CW_seq ?_
 refine CW_cd rfl (fun hc1 => ?_) (fun hc1 => ?_)
 ·refine (CW_skip (QW_lv [0,7,14,17,18,25,29,30,33,34,35,36,273,274,275] ?_))
  refine CW_seq ?_
  refine CW_block ?_
  refine CW_seq ?_
  have hpk : (pl.getD k 0) < T := getD_lt hpl om_
  have hsec := sector_le (size := size) hpk
  have h2p : size * (2 + (pl.getD k 0)) = size * (1 + (pl.getD k 0)) + size := by rw [← Nat.mul_succ]; congr 1; omega
  have hlk : (fatTo pl fat size per k l).length = N := by
   rw [length_fatTo _ _ _ _ _ _ om_ (fun j hj => by have := sector_le (size := size) (getD_lt hpl (show j < pl.length by omega)); omega)]; exact hl
  have hlk2 : (putF (76 + 4 * k) (pl.getD k 0) 4 (fatTo pl fat size per k l)).length = N := by rw [length_putF om_]; exact hlk
  refine CW_region ?_
  refine RW_m ?_
  refine RW_l (Yl_index rfl rfl sl_29 om_ om_) ?_
  refine RW_h (Yh_load (v := nv (pl.getD k 0)) rfl sc_3 mem_ (at_nats om_ om_)) ?_
  refine RW_a ?_
  refine RW_a ?_
  refine RW_lv [0,7,14,17,18,25,29,30,33,34,35,36,38,39,273,274,275] ?_
  refine CW_sr ?_
  refine RW_h (Yh_ld (v := .slice (some ⟨bo, 0, none⟩) N N) sc_23) ?_
  refine RW_m ?_
  refine RW_l (Yl_mul (c := ((4 * k : Nat) : Int)) rfl rfl (mulN (a := 4) (b := k) om_)) ?_
  refine RW_l (Yl_add (c := ((76 + 4 * k : Nat) : Int)) rfl rfl (wi64 om_ om_)) ?_
  refine RW_m ?_
  refine RW_l (Yl_conv rfl in_3 in_39 (wu64 om_ om_)) ?_
  refine RW_fx rfl rfl rfl (Fx_call ok_29 (vs := [.slice (some ⟨bo, 0, none⟩) N N, nv (76 + 4 * k), .int .u64 (((pl.getD k 0) : Nat) : Int), nv 4]) rfl pk_ (put_ctN bo 0 N N (76 + 4 * k) (fatTo pl fat size per k l) (76 + 4 * k) (pl.getD k 0) 4 om_ om_ om_ om_ om_)) ?_
  rintro _ _ ⟨_, ⟨rfl, rfl⟩, rfl⟩
  refine RW_lv [0,7,14,17,18,25,29,30,33,34,35,36,38,39,273,274,275] ?_
  refine CW_sr ?_
  refine RW_m ?_
  refine RW_m ?_
  refine RW_lv [0,7,14,17,18,25,29,30,33,34,35,36,38,39,273,274,275,287,288] ?_
  refine CW_block ?_
  refine CW_lp (σ := Nat) (fun j => [(0, v0), (7, .pointer (some ⟨b7, 0, none⟩)), (14, v14), (17, nv per), (18, v18), (25, .pointer (some ⟨b25, 0, none⟩)), (29, v29), (30, v30), (33, v33), (34, .pointer (some ⟨b34, 0, none⟩)), (35, .pointer (some ⟨b35, 0, none⟩)), (36, v36), (38, nv k), (39, nv (pl.getD k 0)), (273, .slice (some ⟨g24, 0, none⟩) fats c24), (274, nv fats), (275, nv k), (287, nv per), (288, nv j)]) (fun j => (bo, blk (bys (rowTo fat size per (pl.getD k 0) k j (putF (76 + 4 * k) (pl.getD k 0) 4 (fatTo pl fat size per k l)))) 5) :: (b35, blk [.func (.func 27) #[] #[.pointer (some ⟨b34, 0, none⟩), .pointer (some ⟨b7, 0, none⟩)]] 73) :: (b34, blk [.slice (some ⟨bo, 0, none⟩) N N] 23) :: (bf, blk (u32s fat) 67) :: (b25, blk [.slice (some ⟨bf, 0, none⟩) fat.length fat.length] 22) :: (g24, blk (nats pl ++ r24) 3) :: (b7, blk [nv size] 3) :: F) (fun j => j ≤ per) (fun j => per - j) 0 om_ ?_
  intro j hjm
  refine CW_sr ?_
  refine RW_l (Yl_lss rfl rfl) ?_
  refine RW_lv [0,7,14,17,18,25,29,30,33,34,35,36,38,39,273,274,275,287,288,289] ?_
  refine CW_seq ?_
  refine CW_cd rfl (fun hc2 => ?_) (fun hc2 => ?_)
  ·refine (CW_skip (QW_lv [0,7,14,17,18,25,29,30,33,34,35,36,38,39,273,274,275,287,288] ?_))
   refine CW_seq ?_
   refine CW_block ?_
   refine CW_sr ?_
   refine RW_m ?_
   refine RW_a ?_
   refine RW_lv [0,7,14,17,18,25,29,30,33,34,35,36,38,39,40,273,274,275,287,288] ?_
   have hlr : (rowTo fat size per (pl.getD k 0) k j (putF (76 + 4 * k) (pl.getD k 0) 4 (fatTo pl fat size per k l))).length = N := by rw [length_rowTo _ _ _ _ _ _ _ om_]; exact hlk2
   have hkj : k * per + j < fats * per := by
    have : (k + 1) * per ≤ fats * per := Nat.mul_le_mul_right _ om_
    have h3 : (k + 1) * per = k * per + per := Nat.succ_mul k per
    omega
   have hfv : fat.getD (k * per + j) 0 < 4294967296 := getD_lt hfb om_
   have hbig : fats * per ≤ 1000000 := by
    have h1 : fats * per ≤ 100 * 1024 := Nat.mul_le_mul om_ om_
    omega
   refine CW_draw [14] _ mixed (Sub.refl _) ?_
   refine RD_y (i := 1) rfl rfl rfl rfl kr_ (fun _ _ _ h => hQ _ _ _ _ _ h) (Yl_move rfl) ?_
   refine RD_y (i := 3) rfl rfl rfl rfl kr_ (fun _ _ _ h => hQ _ _ _ _ _ h) (Yl_move rfl) ?_
   refine RD_y (i := 4) rfl rfl rfl rfl kr_ (fun _ _ _ h => hQ _ _ _ _ _ h) (Yl_mul (c := ((4 * j : Nat) : Int)) rfl rfl (mulN (a := 4) (b := j) om_)) ?_
   refine RD_y (i := 6) rfl rfl rfl rfl kr_ (fun _ _ _ h => hQ _ _ _ _ _ h) (Yl_move rfl) ?_
   refine RD_y (i := 7) rfl rfl rfl rfl kr_ (fun _ _ _ h => hQ _ _ _ _ _ h) (Yl_move rfl) ?_
   refine RD_y (i := 8) rfl rfl rfl rfl kr_ (fun _ _ _ h => hQ _ _ _ _ _ h) (Yl_mul (c := ((k * per : Nat) : Int)) rfl rfl (mulN (a := k) (b := per) om_)) ?_
   refine RD_y (i := 9) rfl rfl rfl rfl kr_ (fun _ _ _ h => hQ _ _ _ _ _ h) (Yl_move rfl) ?_
   refine RD_y (i := 10) rfl rfl rfl rfl kr_ (fun _ _ _ h => hQ _ _ _ _ _ h) (Yl_add (c := ((k * per + j : Nat) : Int)) rfl rfl (wi64 om_ om_)) ?_
   refine RD_h (i := 0) #[false, true, false, true, true, true, true, true, true, true, true, true, true, true, false] rfl rfl rfl rfl kr_ (fun _ _ _ h => hQ _ _ _ _ _ h) (Yh_ld (v := .func (.func 27) #[] #[.pointer (some ⟨b34, 0, none⟩), .pointer (some ⟨b7, 0, none⟩)]) sc_73) ?_
   refine RD_h (i := 5) #[true, true, true, true, true, false, true, true, true, true, true, false, false, false, false] rfl rfl rfl rfl kr_ (fun _ _ _ h => hQ _ _ _ _ _ h) (Yh_ld (v := .slice (some ⟨bf, 0, none⟩) fat.length fat.length) sc_22) ?_
   refine RD_y (i := 11) rfl rfl rfl rfl kr_ (fun _ _ _ h => hQ _ _ _ _ _ h) (Yl_index rfl rfl sl_22 om_ om_) ?_
   refine RD_h (i := 12) #[true, true, true, true, true, true, true, true, true, true, true, true, false, false, false] rfl rfl rfl rfl kr_ (fun _ _ _ h => hQ _ _ _ _ _ h) (Yh_load (v := uv (fat.getD (k * per + j) 0)) rfl sc_67 mem_ (at_u32s om_ om_)) ?_
   refine RD_y (i := 13) rfl rfl rfl rfl kr_ (fun _ _ _ h => hQ _ _ _ _ _ h) (Yl_conv rfl in_67 in_39 (wu64 om_ om_)) ?_
   refine RD_o 2 ?_
   refine RO_fx rfl rfl rfl rfl (Fx_callVQ ok_27 (fs := []) (vs := [nv (pl.getD k 0)]) (cs := [.pointer (some ⟨b34, 0, none⟩), .pointer (some ⟨b7, 0, none⟩)]) rfl rfl pk_ (sector_ct (pl.getD k 0) size N N bo b34 b7 om_ om_ om_ om_)) ?_
   rintro _ _ ⟨rfl, rfl⟩
   refine ⟨Or.inr (Sub.refl _), ?_⟩
   refine RD_o 14 ?_
   refine RO_fx rfl rfl rfl rfl (Fx_call ok_29 (vs := [.slice (some ⟨bo, size * (1 + (pl.getD k 0)), none⟩) size (N - size * (1 + (pl.getD k 0))), nv (4 * j), .int .u64 ((fat.getD (k * per + j) 0 : Nat) : Int), nv 4]) rfl pk_ (put_ctN bo (size * (1 + (pl.getD k 0))) size (N - size * (1 + (pl.getD k 0))) (size * (1 + (pl.getD k 0)) + 4 * j) (rowTo fat size per (pl.getD k 0) k j (putF (76 + 4 * k) (pl.getD k 0) 4 (fatTo pl fat size per k l))) (4 * j) (fat.getD (k * per + j) 0) 4 om_ om_ om_ om_ om_)) ?_
   rintro _ _ ⟨_, ⟨rfl, rfl⟩, rfl⟩
   refine ⟨Or.inl kr_, ?_⟩
   refine RD_done kr_ ?_
   refine QW_normal_block ?_
   refine (QW_lv [0,7,14,17,18,25,29,30,33,34,35,36,38,39,273,274,275,287,288] ?_)
   refine CW_region ?_
   refine RW_l (Yl_add rfl rfl (wi64 om_ om_)) ?_
   refine RW_m ?_
   refine RW_nil ?_
   exact QW_rn (j + 1) om_ om_
  refine CW_exit ?_
  refine QW_exit_then ?_
  refine QW_exit_then ?_
  refine QW_exit_block ?_
  refine QW_normal_block ?_
  refine (QW_lv [0,7,14,17,18,25,29,30,33,34,35,36,273,274,275] ?_)
  refine CW_region ?_
  refine RW_l (Yl_add rfl rfl (wi64 om_ om_)) ?_
  refine RW_m ?_
  refine RW_nil ?_
  obtain rfl : per = j := by omega
  exact QW_rn (k + 1) om_ om_
 refine CW_exit ?_
 refine QW_exit_then ?_
 refine QW_exit_then ?_
 refine QW_exit_block ?_
 refine (QW_lv [0,7,14,18,29,30,33,34,36] ?_)
 obtain rfl : fats = k := by omega
 exact hk

theorem write_F {E : World} {Q : Exit → Act → World → Prop} {F : Heap} (hQ : QP Q) (b7 g29 stl c29 b30 bf b25 b34 b35 bo size N T : Nat) (sts mt fat : List Nat) (r29 : List Value) (l : List UInt8) {v0 v7 v14 v18 v33 v34 : Value} (hsz : 512 ≤ size ∧ size ≤ 4096) (hsl : stl = sts.length) (hsl3 : 3 ≤ sts.length) (hs1 : sts.getD 1 0 ≤ 4294967295) (hmt : mt.length ≤ 1000000) (hmb : ∀ x ∈ mt, x < 4294967296) (hfb : ∀ x ∈ fat, x < 4294967296) (hT : T ≤ 100000) (hTf : T ≤ fat.length) (hN : size * (1 + T) = N) (hl : l.length = N) (hch : ∀ k, k * size < 4 * mt.length → walkP fat (sts.getD 1 0) k < T)
  (hk : CW Tryd.prog E 514 [(0, v0), (7, v7), (14, v14), (18, v18), (29, .slice (some ⟨g29, 0, none⟩) stl c29), (30, .slice (some ⟨b30, 0, none⟩) mt.length mt.length), (33, v33), (34, v34), (36, .func (.func 28) #[] #[.pointer (some ⟨b25, 0, none⟩), .pointer (some ⟨b35, 0, none⟩)])] ((bo, blk (bys (fillF fat size (tabF mt) (sts.getD 1 0) l)) 5) :: (b35, blk [.func (.func 27) #[] #[.pointer (some ⟨b34, 0, none⟩), .pointer (some ⟨b7, 0, none⟩)]] 73) :: (b34, blk [.slice (some ⟨bo, 0, none⟩) N N] 23) :: (bf, blk (u32s fat) 67) :: (b25, blk [.slice (some ⟨bf, 0, none⟩) fat.length fat.length] 22) :: (b30, blk (u32s mt) 67) :: (g29, blk (nats sts ++ r29) 3) :: (b7, blk [nv size] 3) :: F) (dig [1, 1, 1, 1, 1, 1, 1, 1, 1, 1, 1, 1, 1, 1, 1, 1, 1, 1, 1, 1, 1, 1, 1, 1, 1, 1, 1, 1, 1, 1, 1, 1, 1, 1, 1, 1, 1, 1, 1, 1, 1, 1, 1, 1] (bodyOf Tryd.f15)) Q) :
  CW Tryd.prog E 514 [(0, v0), (7, v7), (14, v14), (18, v18), (29, .slice (some ⟨g29, 0, none⟩) stl c29), (30, .slice (some ⟨b30, 0, none⟩) mt.length mt.length), (33, v33), (34, v34), (36, .func (.func 28) #[] #[.pointer (some ⟨b25, 0, none⟩), .pointer (some ⟨b35, 0, none⟩)])] ((bo, blk (bys l) 5) :: (b35, blk [.func (.func 27) #[] #[.pointer (some ⟨b34, 0, none⟩), .pointer (some ⟨b7, 0, none⟩)]] 73) :: (b34, blk [.slice (some ⟨bo, 0, none⟩) N N] 23) :: (bf, blk (u32s fat) 67) :: (b25, blk [.slice (some ⟨bf, 0, none⟩) fat.length fat.length] 22) :: (b30, blk (u32s mt) 67) :: (g29, blk (nats sts ++ r29) 3) :: (b7, blk [nv size] 3) :: F) (dig [1, 1, 1, 1, 1, 1, 1, 1, 1, 1, 1, 1, 1, 1, 1, 1, 1, 1, 1, 1, 1, 1, 1, 1, 1, 1, 1, 1, 1, 1, 1, 1, 1, 1, 1, 1, 1, 1, 1, 1, 1] (bodyOf Tryd.f15)) Q := by
 have hNb : N ≤ 1000000000 := by
  have h1 : size * (1 + T) ≤ 4096 * 100001 := Nat.mul_le_mul hsz.2 om_
  omega
 refine CW_sr ?_
 refine RW_m ?_
 refine RW_l (Yl_len rfl sl_22) ?_
 refine RW_l (Yl_mul (c := ((4 * mt.length : Nat) : Int)) rfl rfl (mulN (a := 4) (b := mt.length) om_)) ?_
 refine RW_fx rfl rfl rfl (Fx_makeU8 (4 * mt.length) rfl rfl om_) ?_
 rintro _ _ ⟨b311, rfl, rfl⟩
 refine RW_a ?_
 refine RW_lv [0,7,14,18,29,30,33,34,36,41] ?_
 refine CW_seq ?_
 refine CW_sr ?_
 refine RW_m ?_
 refine RW_l (Yl_len rfl sl_22) ?_
 refine RW_m ?_
 refine RW_lv [0,7,14,18,29,30,33,34,36,41,312,313,314] ?_
 refine CW_block ?_
 refine CW_lp (σ := Nat) (fun k => [(0, v0), (7, v7), (14, v14), (18, v18), (29, .slice (some ⟨g29, 0, none⟩) stl c29), (30, .slice (some ⟨b30, 0, none⟩) mt.length mt.length), (33, v33), (34, v34), (36, .func (.func 28) #[] #[.pointer (some ⟨b25, 0, none⟩), .pointer (some ⟨b35, 0, none⟩)]), (41, .slice (some ⟨b311, 0, none⟩) (4 * mt.length) (4 * mt.length)), (312, .slice (some ⟨b30, 0, none⟩) mt.length mt.length), (313, nv mt.length), (314, nv k)]) (fun k => (b311, blk (bys (tabTo mt 0 k (List.replicate (4 * mt.length) 0))) 5) :: (bo, blk (bys l) 5) :: (b35, blk [.func (.func 27) #[] #[.pointer (some ⟨b34, 0, none⟩), .pointer (some ⟨b7, 0, none⟩)]] 73) :: (b34, blk [.slice (some ⟨bo, 0, none⟩) N N] 23) :: (bf, blk (u32s fat) 67) :: (b25, blk [.slice (some ⟨bf, 0, none⟩) fat.length fat.length] 22) :: (b30, blk (u32s mt) 67) :: (g29, blk (nats sts ++ r29) 3) :: (b7, blk [nv size] 3) :: F) (fun k => k ≤ mt.length) (fun k => mt.length - k) 0 om_ ?_
 intro k hkm
 refine CW_sr ?_
 refine RW_l (Yl_lss rfl rfl) ?_
 refine RW_lv [0,7,14,18,29,30,33,34,36,41,312,313,314,315] ?_
 refine CW_seq ?_
 refine CW_cd rfl (fun hc1 => ?_) (fun hc1 => ?_)
 ·refine (CW_skip (QW_lv [0,7,14,18,29,30,33,34,36,41,312,313,314] ?_))
  refine CW_seq ?_
  refine CW_block ?_
  refine CW_sr ?_
  refine RW_m ?_
  refine RW_l (Yl_index rfl rfl sl_22 om_ om_) ?_
  refine RW_h (Yh_load (v := uv (mt.getD k 0)) rfl sc_67 mem_ (at_u32s om_ om_)) ?_
  refine RW_a ?_
  refine RW_a ?_
  refine RW_lv [0,7,14,18,29,30,33,34,36,41,42,43,312,313,314] ?_
  have hmk : mt.getD k 0 < 4294967296 := getD_lt hmb om_
  have hlk : (tabTo mt 0 k (List.replicate (4 * mt.length) 0)).length = 4 * mt.length := by rw [length_tabTo _ _ _ _ (by simp; omega)]; simp
  refine CW_region ?_
  refine RW_m ?_
  refine RW_m ?_
  refine RW_l (Yl_mul (c := ((4 * k : Nat) : Int)) rfl rfl (mulN (a := 4) (b := k) om_)) ?_
  refine RW_m ?_
  refine RW_l (Yl_conv rfl in_67 in_39 (wu64 om_ om_)) ?_
  refine RW_fx rfl rfl rfl (Fx_call ok_29 (vs := [.slice (some ⟨b311, 0, none⟩) (4 * mt.length) (4 * mt.length), nv (4 * k), .int .u64 ((mt.getD k 0 : Nat) : Int), nv 4]) rfl pk_ (put_ctN b311 0 (4 * mt.length) (4 * mt.length) (0 + 4 * k) (tabTo mt 0 k (List.replicate (4 * mt.length) 0)) (4 * k) (mt.getD k 0) 4 om_ om_ om_ om_ om_)) ?_
  rintro _ _ ⟨_, ⟨rfl, rfl⟩, rfl⟩
  refine RW_nil ?_
  refine QW_normal_block ?_
  refine (QW_lv [0,7,14,18,29,30,33,34,36,41,312,313,314] ?_)
  refine CW_region ?_
  refine RW_l (Yl_add rfl rfl (wi64 om_ om_)) ?_
  refine RW_m ?_
  refine RW_nil ?_
  exact QW_rn (k + 1) om_ om_
 refine CW_exit ?_
 refine QW_exit_then ?_
 refine QW_exit_then ?_
 refine QW_exit_block ?_
 refine (QW_lv [0,7,14,18,29,30,33,34,36,41] ?_)
 refine CW_seq ?_
 obtain rfl : k = mt.length := by omega
 rw [show (b311, blk (bys (tabTo mt 0 mt.length (List.replicate (4 * mt.length) 0))) 5) = (b311, blk (bys (tabF mt) ++ []) 5) by rw [List.append_nil]; rfl]
 have hfill := fill_ct b25 bf b35 b34 b7 bo b311 fat.length N (4 * mt.length) size (sts.getD 1 0) N fat (tabF mt) l [] (by omega) hl.symm (by omega) (by omega) (by simp) (by simp; omega) hs1 hfb (fun k hk => by
  rw [length_tabF] at hk
  have h1 := hch k hk
  have h2 := sector_le2 (size := size) h1
  omega)
 rw [length_tabF] at hfill
 refine CW_region ?_
 refine RW_m ?_
 refine RW_m ?_
 refine RW_l (Yl_index rfl rfl sl_29 om_ om_) ?_
 refine RW_h (Yh_load (v := nv (sts.getD 1 0)) rfl sc_3 mem_ (at_nats om_ om_)) ?_
 refine RW_m ?_
 refine RW_fx rfl rfl rfl (Fx_callV ok_28 (fs := []) (vs := [nv (sts.getD 1 0), .slice (some ⟨b311, 0, none⟩) (4 * mt.length) (4 * mt.length)]) (cs := [.pointer (some ⟨b25, 0, none⟩), .pointer (some ⟨b35, 0, none⟩)]) rfl rfl pk_ hfill) ?_
 rintro _ _ ⟨_, ⟨rfl, rfl⟩, rfl⟩
 refine RW_lv [0,7,14,18,29,30,33,34,36] ?_
 refine CW_dropB (e := (b311, _)) rem_ ?_
 refine CW_heap (Prm.perm (T := (bo, blk (bys (fillF fat size (tabF mt) (sts.getD 1 0) l)) 5) :: (b35, blk [.func (.func 27) #[] #[.pointer (some ⟨b34, 0, none⟩), .pointer (some ⟨b7, 0, none⟩)]] 73) :: (b34, blk [.slice (some ⟨bo, 0, none⟩) N N] 23) :: (bf, blk (u32s fat) 67) :: (b25, blk [.slice (some ⟨bf, 0, none⟩) fat.length fat.length] 22) :: (b30, blk (u32s mt) 67) :: (g29, blk (nats sts ++ r29) 3) :: (b7, blk [nv size] 3) :: F) prm_) ?_
 exact hk

theorem write_G {E : World} {Q : Exit → Act → World → Prop} {F : Heap} (hQ : QP Q) (b7 size minis dirs : Nat) {v0 v29 v30 v33 v34 v36 : Value} (hsz : 512 ≤ size ∧ size ≤ 4096) (hm : minis ≤ 100000) (hd : dirs * size ≤ 1000000)
  (hk : ∀ b44 b45, CW Tryd.prog E 514 [(0, v0), (14, nv minis), (29, v29), (30, v30), (33, v33), (34, v34), (36, v36), (44, .slice (some ⟨b44, 0, none⟩) (64 * minis) (64 * minis)), (45, .slice (some ⟨b45, 0, none⟩) (dirs * size) (dirs * size))] ((b45, blk (bys (dirTo (dirs * size / 128) (List.replicate (dirs * size) 0))) 5) :: (b44, blk (bys (List.replicate (64 * minis) 0)) 5) :: (b7, blk [nv size] 3) :: F) (dig [1, 1, 1, 1, 1, 1, 1, 1, 1, 1, 1, 1, 1, 1, 1, 1, 1, 1, 1, 1, 1, 1, 1, 1, 1, 1, 1, 1, 1, 1, 1, 1, 1, 1, 1, 1, 1, 1, 1, 1, 1, 1, 1, 1, 1, 1, 1] (bodyOf Tryd.f15)) Q) :
  CW Tryd.prog E 514 [(0, v0), (7, .pointer (some ⟨b7, 0, none⟩)), (14, nv minis), (18, nv dirs), (29, v29), (30, v30), (33, v33), (34, v34), (36, v36)] ((b7, blk [nv size] 3) :: F) (dig [1, 1, 1, 1, 1, 1, 1, 1, 1, 1, 1, 1, 1, 1, 1, 1, 1, 1, 1, 1, 1, 1, 1, 1, 1, 1, 1, 1, 1, 1, 1, 1, 1, 1, 1, 1, 1, 1, 1, 1, 1, 1, 1, 1] (bodyOf Tryd.f15)) Q := by
 refine CW_sr ?_
 refine RW_m ?_
 refine RW_l (Yl_mul (c := ((64 * minis : Nat) : Int)) rfl rfl (mulN (a := 64) (b := minis) om_)) ?_
 refine RW_fx rfl rfl rfl (Fx_makeU8 (64 * minis) rfl rfl om_) ?_
 rintro _ _ ⟨b334, rfl, rfl⟩
 refine RW_a ?_
 refine RW_lv [0,7,14,18,29,30,33,34,36,44] ?_
 refine CW_sr ?_
 refine RW_m ?_
 refine RW_h (Yh_ld (v := nv size) sc_3) ?_
 refine RW_l (Yl_mul (c := ((dirs * size : Nat) : Int)) rfl rfl (mulN (a := dirs) (b := size) om_)) ?_
 refine RW_fx rfl rfl rfl (Fx_makeU8 (dirs * size) rfl rfl om_) ?_
 rintro _ _ ⟨b338, rfl, rfl⟩
 refine RW_a ?_
 refine RW_lv [0,7,14,18,29,30,33,34,36,44,45] ?_
 refine CW_seq ?_
 refine CW_sr ?_
 refine RW_m ?_
 refine RW_h (Yh_ld (v := nv size) sc_3) ?_
 refine RW_l (Yl_mul (c := ((dirs * size : Nat) : Int)) rfl rfl (mulN (a := dirs) (b := size) om_)) ?_
 refine RW_l (Yl_quo (c := ((dirs * size / 128 : Nat) : Int)) rfl rfl om_ (quoN (a := dirs * size) (b := 128) om_)) ?_
 refine RW_m ?_
 refine RW_lv [0,14,29,30,33,34,36,44,45,342,343] ?_
 refine CW_block ?_
 refine CW_lp (σ := Nat) (fun k => [(0, v0), (14, nv minis), (29, v29), (30, v30), (33, v33), (34, v34), (36, v36), (44, .slice (some ⟨b334, 0, none⟩) (64 * minis) (64 * minis)), (45, .slice (some ⟨b338, 0, none⟩) (dirs * size) (dirs * size)), (342, nv (dirs * size / 128)), (343, nv k)]) (fun k => (b338, blk (bys (dirTo k (List.replicate (dirs * size) 0))) 5) :: (b334, blk (bys (List.replicate (64 * minis) 0)) 5) :: (b7, blk [nv size] 3) :: F) (fun k => k ≤ dirs * size / 128) (fun k => dirs * size / 128 - k) 0 om_ ?_
 intro k hkm
 refine CW_sr ?_
 refine RW_l (Yl_lss rfl rfl) ?_
 refine RW_lv [0,14,29,30,33,34,36,44,45,342,343,344] ?_
 refine CW_seq ?_
 refine CW_cd rfl (fun hc1 => ?_) (fun hc1 => ?_)
 ·refine (CW_skip (QW_lv [0,14,29,30,33,34,36,44,45,342,343] ?_))
  refine CW_seq ?_
  refine CW_block ?_
  refine CW_sr ?_
  refine RW_m ?_
  refine RW_a ?_
  refine RW_lv [0,14,29,30,33,34,36,44,45,46,342,343] ?_
  refine CW_sr ?_
  refine RW_m ?_
  refine RW_lv [0,14,29,30,33,34,36,44,45,46,342,343,346] ?_
  refine CW_block ?_
  refine CW_lp (σ := Nat) (fun j => [(0, v0), (14, nv minis), (29, v29), (30, v30), (33, v33), (34, v34), (36, v36), (44, .slice (some ⟨b334, 0, none⟩) (64 * minis) (64 * minis)), (45, .slice (some ⟨b338, 0, none⟩) (dirs * size) (dirs * size)), (46, nv k), (342, nv (dirs * size / 128)), (343, nv k), (346, nv j)]) (fun j => (b338, blk (bys (dir3 k j (dirTo k (List.replicate (dirs * size) 0)))) 5) :: (b334, blk (bys (List.replicate (64 * minis) 0)) 5) :: (b7, blk [nv size] 3) :: F) (fun j => j ≤ 3) (fun j => 3 - j) 0 om_ ?_
  intro j hjm
  refine CW_sr ?_
  refine RW_l (Yl_lss rfl rfl) ?_
  refine RW_lv [0,14,29,30,33,34,36,44,45,46,342,343,346,347] ?_
  refine CW_seq ?_
  refine CW_cd rfl (fun hc2 => ?_) (fun hc2 => ?_)
  ·refine (CW_skip (QW_lv [0,14,29,30,33,34,36,44,45,46,342,343,346] ?_))
   refine CW_seq ?_
   refine CW_block ?_
   refine CW_sr ?_
   refine RW_m ?_
   refine RW_a ?_
   refine RW_lv [0,14,29,30,33,34,36,44,45,46,47,342,343,346] ?_
   have hlk : (dirTo k (List.replicate (dirs * size) 0)).length = dirs * size := by rw [length_dirTo _ _ (by simp; omega)]; simp
   have hlj : (dir3 k j (dirTo k (List.replicate (dirs * size) 0))).length = dirs * size := by rw [length_dir3 _ _ _ om_ om_]; exact hlk
   refine CW_region ?_
   refine RW_m ?_
   refine RW_m ?_
   refine RW_l (Yl_mul (c := ((128 * k : Nat) : Int)) rfl rfl (mulN (a := 128) (b := k) om_)) ?_
   refine RW_l (Yl_add (c := ((128 * k + 68 : Nat) : Int)) rfl rfl (wi64 om_ om_)) ?_
   refine RW_m ?_
   refine RW_l (Yl_mul (c := ((4 * j : Nat) : Int)) rfl rfl (mulN (a := 4) (b := j) om_)) ?_
   refine RW_l (Yl_add (c := ((128 * k + 68 + 4 * j : Nat) : Int)) rfl rfl (wi64 om_ om_)) ?_
   refine RW_fx rfl rfl rfl (Fx_call ok_29 (vs := [.slice (some ⟨b338, 0, none⟩) (dirs * size) (dirs * size), nv (128 * k + 68 + 4 * j), .int .u64 ((FREE : Nat) : Int), nv 4]) rfl pk_ (put_ctN b338 0 (dirs * size) (dirs * size) (128 * k + 68 + 4 * j) (dir3 k j (dirTo k (List.replicate (dirs * size) 0))) (128 * k + 68 + 4 * j) FREE 4 om_ om_ om_ om_ om_)) ?_
   rintro _ _ ⟨_, ⟨rfl, rfl⟩, rfl⟩
   refine RW_nil ?_
   refine QW_normal_block ?_
   refine (QW_lv [0,14,29,30,33,34,36,44,45,46,342,343,346] ?_)
   refine CW_region ?_
   refine RW_l (Yl_add rfl rfl (wi64 om_ om_)) ?_
   refine RW_m ?_
   refine RW_nil ?_
   exact QW_rn (j + 1) om_ om_
  refine CW_exit ?_
  refine QW_exit_then ?_
  refine QW_exit_then ?_
  refine QW_exit_block ?_
  refine QW_normal_block ?_
  refine (QW_lv [0,14,29,30,33,34,36,44,45,342,343] ?_)
  refine CW_region ?_
  refine RW_l (Yl_add rfl rfl (wi64 om_ om_)) ?_
  refine RW_m ?_
  refine RW_nil ?_
  obtain rfl : j = 3 := by omega
  exact QW_rn (k + 1) om_ om_
 refine CW_exit ?_
 refine QW_exit_then ?_
 refine QW_exit_then ?_
 refine QW_exit_block ?_
 refine (QW_lv [0,14,29,30,33,34,36,44,45] ?_)
 obtain rfl : k = dirs * size / 128 := by omega
 exact hk b334 b338

theorem write_K {E : World} {Q : Exit → Act → World → Prop} {F : Heap} (hQ : QP Q) (b45 b49 D A C st ln : Nat) (kd : UInt8) (x : Nm) (l : List UInt8) {v14 v29 v30 v33 v34 v36 v44 v359 v360 v361 : Value} (hok : x.ok) (hD : A + 128 ≤ D) (hC : D - A = C) (hDb : D ≤ 1000000) (hl : l.length = D) (hst : st ≤ 4294967295) (hln : ln ≤ 100000000) (hcr : x.nd.created < 18446744073709551616) (hmo : x.nd.modified < 18446744073709551616)
  (hk : QW E 514 [(14, v14), (29, v29), (30, v30), (33, v33), (34, v34), (36, v36), (44, v44), (45, .slice (some ⟨b45, 0, none⟩) D D), (359, v359), (360, v360), (361, v361)] ((b45, blk (bys (entF A x.nd kd st ln l)) 5) :: F) .normal Q) :
  CW Tryd.prog E 514 [(14, v14), (29, v29), (30, v30), (33, v33), (34, v34), (36, v36), (44, v44), (45, .slice (some ⟨b45, 0, none⟩) D D), (49, .pointer (some ⟨b49, 0, none⟩)), (50, .slice (some ⟨b45, A, none⟩) C C), (52, bv kd), (53, nv st), (54, nv ln), (359, v359), (360, v360), (361, v361)] ((b45, blk (bys l) 5) :: (b49, blk x.cells 43) :: F) (dig [1, 1, 1, 1, 1, 1, 1, 1, 1, 1, 1, 1, 1, 1, 1, 1, 1, 1, 1, 1, 1, 1, 1, 1, 1, 1, 1, 1, 1, 1, 1, 1, 1, 1, 1, 1, 1, 1, 1, 1, 1, 1, 1, 1, 1, 1, 1, 0, 1, 2, 2, 1, 1, 0, 2, 1, 1, 1, 1, 1, 1] (bodyOf Tryd.f15)) Q := by
 refine CW_sr ?_
 refine RW_m ?_
 refine RW_m ?_
 refine RW_m ?_
 refine RW_l (Yl_index (b := b45) (off := A) rfl rfl sl_23 om_ om_) ?_
 refine RW_fx0 rfl rfl (Fx_store (v := bv kd) (off := A + 66) rfl rfl sz_5 rfl rep_ (by rw [List.length_map]; omega)) ?_
 rintro _ _ rfl
 refine RW_l (Yl_index (b := b45) (off := A) rfl rfl sl_23 om_ om_) ?_
 refine RW_fx0 rfl rfl (Fx_store (v := bv 1) (off := A + 67) rfl rfl sz_5 rfl rep_ (by simp; omega)) ?_
 rintro _ _ rfl
 refine RW_lv [14,29,30,33,34,36,44,45,49,50,53,54,359,360,361] ?_
 refine CW_seq ?_
 refine CW_seq ?_
 rw [show ((bys l).set (A + 66) (bv kd)).set (A + 67) (bv 1) = bys ((l.set (A + 66) kd).set (A + 67) 1) by rw [bys_set, bys_set]]
 obtain ⟨l1, he1⟩ : ∃ z, z = ((l.set (A + 66) kd).set (A + 67) 1) := ⟨_, rfl⟩
 rw [← he1]
 have hl1 : l1.length = D := by rw [he1]; simpa using hl
 refine CW_region ?_
 refine RW_f fo_43_3 ?_
 refine RW_h (Yh_ld (v := iv x.nd.left) sc_3) ?_
 refine RW_f fo_43_4 ?_
 refine RW_h (Yh_ld (v := iv x.nd.right) sc_3) ?_
 refine RW_f fo_43_5 ?_
 refine RW_h (Yh_ld (v := iv x.nd.child) sc_3) ?_
 refine RW_fx rfl rfl rfl (Fx_litS (vs := ints [x.nd.left, x.nd.right, x.nd.child]) sl_29 ze_3 rfl rfl rfl rfl rfl) ?_
 rintro _ _ ⟨b457, rfl, rfl⟩
 refine RW_l (Yl_len rfl sl_29) ?_
 refine RW_m ?_
 refine RW_lv [14,29,30,33,34,36,44,45,49,50,53,54,359,360,361,457,458,459] ?_
 refine CW_block ?_
 refine CW_lp (σ := Nat) (fun j => [(14, v14), (29, v29), (30, v30), (33, v33), (34, v34), (36, v36), (44, v44), (45, .slice (some ⟨b45, 0, none⟩) D D), (49, .pointer (some ⟨b49, 0, none⟩)), (50, .slice (some ⟨b45, A, none⟩) C C), (53, nv st), (54, nv ln), (359, v359), (360, v360), (361, v361), (457, .slice (some ⟨b457, 0, none⟩) 3 3), (458, nv 3), (459, nv j)]) (fun j => (b45, blk (bys (link3 A [x.nd.left, x.nd.right, x.nd.child] j l1)) 5) :: (b457, blk (ints [x.nd.left, x.nd.right, x.nd.child]) 3) :: (b49, blk x.cells 43) :: F) (fun j => j ≤ 3) (fun j => 3 - j) 0 om_ ?_
 intro j hjm
 refine CW_sr ?_
 refine RW_l (Yl_lss rfl rfl) ?_
 refine RW_lv [14,29,30,33,34,36,44,45,49,50,53,54,359,360,361,457,458,459,460] ?_
 refine CW_seq ?_
 refine CW_cd rfl (fun hc1 => ?_) (fun hc1 => ?_)
 ·refine (CW_skip (QW_lv [14,29,30,33,34,36,44,45,49,50,53,54,359,360,361,457,458,459] ?_))
  refine CW_seq ?_
  refine CW_block ?_
  refine CW_seq ?_
  have hlk : (link3 A [x.nd.left, x.nd.right, x.nd.child] j l1).length = D := by rw [length_link3 _ _ _ _ om_]; exact hl1
  refine CW_region ?_
  refine RW_m ?_
  refine RW_l (Yl_index rfl rfl sl_29 om_ om_) ?_
  refine RW_h (Yh_load (v := iv ([x.nd.left, x.nd.right, x.nd.child].getD j 0)) rfl sc_3 mem_ (at_ints (pl := [x.nd.left, x.nd.right, x.nd.child]) (by simp; omega) om_)) ?_
  refine RW_a ?_
  refine RW_a ?_
  refine RW_lv [14,29,30,33,34,36,44,45,49,50,53,54,57,58,359,360,361,457,458,459] ?_
  refine CW_seq ?_
  obtain ⟨vj, hvj⟩ : ∃ z, z = ([x.nd.left, x.nd.right, x.nd.child].getD j 0) := ⟨_, rfl⟩
  rw [← hvj]
  have hvb : -1 ≤ vj ∧ vj ≤ 100000 := by
   rw [hvj]; have : j = 0 ∨ j = 1 ∨ j = 2 := by omega
   rcases this with rfl | rfl | rfl
   ·exact hok.left
   ·exact hok.right
   exact hok.child
  refine CW_region ?_
  refine RW_m ?_
  refine RW_l (Yl_geq rfl rfl) ?_
  refine RW_lv [14,29,30,33,34,36,44,45,49,50,53,54,57,58,359,360,361,457,458,459,465] ?_
  refine CW_cd rfl (fun hc2 => ?_) (fun hc2 => ?_)
  ·refine CW_region ?_
   refine RW_m ?_
   refine RW_m ?_
   refine RW_l (Yl_mul (c := ((4 * j : Nat) : Int)) rfl rfl (mulN (a := 4) (b := j) om_)) ?_
   refine RW_l (Yl_add (c := ((68 + 4 * j : Nat) : Int)) rfl rfl (wi64 om_ om_)) ?_
   refine RW_m ?_
   refine RW_l (Yl_conv (c := ((vj.toNat : Nat) : Int)) rfl in_3 in_39 (by rw [Int.toNat_of_nonneg om_]; exact wu64 om_ om_)) ?_
   refine RW_fx rfl rfl rfl (Fx_call ok_29 (vs := [.slice (some ⟨b45, A, none⟩) C C, nv (68 + 4 * j), .int .u64 ((vj.toNat : Nat) : Int), nv 4]) rfl pk_ (put_ctN b45 A C C (A + 68 + 4 * j) (link3 A [x.nd.left, x.nd.right, x.nd.child] j l1) (68 + 4 * j) vj.toNat 4 om_ om_ om_ om_ om_)) ?_
   rintro _ _ ⟨_, ⟨rfl, rfl⟩, rfl⟩
   refine RW_nil ?_
   refine QW_normal_block ?_
   refine (QW_lv [14,29,30,33,34,36,44,45,49,50,53,54,359,360,361,457,458,459] ?_)
   refine CW_region ?_
   refine RW_l (Yl_add rfl rfl (wi64 om_ om_)) ?_
   refine RW_m ?_
   refine RW_nil ?_
   have hls : link3 A [x.nd.left, x.nd.right, x.nd.child] (j + 1) l1 = linkF A j vj (link3 A [x.nd.left, x.nd.right, x.nd.child] j l1) := by rw [hvj]; rfl
   refine QW_round (j + 1) om_ om_ ?_ kp_
   rw [hls, linkF]
   first | (rw [if_pos (show 0 ≤ vj by omega)]; exact prm_) | (rw [if_neg (show ¬ 0 ≤ vj by omega)]; exact prm_)
  refine CW_skip ?_
  refine QW_normal_block ?_
  refine (QW_lv [14,29,30,33,34,36,44,45,49,50,53,54,359,360,361,457,458,459] ?_)
  refine CW_region ?_
  refine RW_l (Yl_add rfl rfl (wi64 om_ om_)) ?_
  refine RW_m ?_
  refine RW_nil ?_
  have hls : link3 A [x.nd.left, x.nd.right, x.nd.child] (j + 1) l1 = linkF A j vj (link3 A [x.nd.left, x.nd.right, x.nd.child] j l1) := by rw [hvj]; rfl
  refine QW_round (j + 1) om_ om_ ?_ kp_
  rw [hls, linkF]
  first | (rw [if_pos (show 0 ≤ vj by omega)]; exact prm_) | (rw [if_neg (show ¬ 0 ≤ vj by omega)]; exact prm_)
 refine CW_exit ?_
 refine QW_exit_then ?_
 refine QW_exit_then ?_
 refine QW_exit_block ?_
 refine (QW_lv [14,29,30,33,34,36,44,45,49,50,53,54,359,360,361] ?_)
 refine CW_seq ?_
 obtain rfl : j = 3 := by omega
 have hlk : (link3 A [x.nd.left, x.nd.right, x.nd.child] 3 l1).length = D := by rw [length_link3 _ _ _ _ om_]; exact hl1
 obtain ⟨l2, he2⟩ : ∃ z, z = link3 A [x.nd.left, x.nd.right, x.nd.child] 3 l1 := ⟨_, rfl⟩
 rw [← he2]
 have hl2 : l2.length = D := by rw [he2]; exact hlk
 have hcl := x.nd.h16
 refine CW_draw [4] _ mixed (Sub.refl _) ?_
 refine RD_y (i := 0) rfl rfl rfl rfl kr_ (fun _ _ _ h => hQ _ _ _ _ _ h) (Yl_move rfl) ?_
 refine RD_y (i := 1) rfl rfl rfl rfl kr_ (fun _ _ _ h => hQ _ _ _ _ _ h) (Yl_cutLL (l := 80) (o' := A + 80) (m' := C - 80) (c' := C - 80) rfl rfl sl_23 om_ om_ om_ rfl rfl) ?_
 refine RD_y (i := 2) rfl rfl rfl rfl kr_ (fun _ _ _ h => hQ _ _ _ _ _ h) (Yl_field rfl fo_43_6) ?_
 refine RD_y (i := 3) rfl rfl rfl rfl kr_ (fun _ _ _ h => hQ _ _ _ _ _ h) (Yl_cutA rfl ar_37) ?_
 refine RD_o 4 ?_
 refine RO_fx rfl rfl rfl rfl (Fx_copy (ls := x.cells) (ms := 16) (offs := 6) (off := A + 80) rfl rfl sl_23 mem_ (by rw [Nm.length_cells]; omega) rep_ (by rw [List.length_map]; omega) (by have h := hcl; rw [Nat.min_eq_left (show 16 ≤ C - 80 by omega)]; show ∀ u ∈ (x.cells.drop 6).take 16, _; rw [Nm.cls]; exact one_map one_bv _)) ?_
 rintro _ _ ⟨rfl, rfl⟩
 rw [Nat.min_eq_left (show 16 ≤ C - 80 by omega), show 16 * 1 = 16 from rfl, Nm.cls, ← map_spl]
 obtain ⟨l3, he3⟩ : ∃ z, z = spl (A + 80) x.nd.cls l2 := ⟨_, rfl⟩
 rw [← he3]
 have hl3 : l3.length = D := by rw [he3, length_spl (by rw [x.nd.h16]; omega)]; exact hl2
 refine ⟨Or.inl kr_, ?_⟩
 refine (RD_done kr_ (QW_lv [14,29,30,33,34,36,44,45,49,50,53,54,359,360,361] ?_))
 refine CW_seq ?_
 refine CW_draw [4] _ mixed (Sub.refl _) ?_
 refine RD_y (i := 0) rfl rfl rfl rfl kr_ (fun _ _ _ h => hQ _ _ _ _ _ h) (Yl_move rfl) ?_
 refine RD_y (i := 1) rfl rfl rfl rfl kr_ (fun _ _ _ h => hQ _ _ _ _ _ h) (Yl_cutLL (l := 96) (o' := A + 96) (m' := C - 96) (c' := C - 96) rfl rfl sl_23 om_ om_ om_ rfl rfl) ?_
 refine RD_y (i := 2) rfl rfl rfl rfl kr_ (fun _ _ _ h => hQ _ _ _ _ _ h) (Yl_field rfl fo_43_7) ?_
 refine RD_y (i := 3) rfl rfl rfl rfl kr_ (fun _ _ _ h => hQ _ _ _ _ _ h) (Yl_cutA rfl ar_38) ?_
 refine RD_o 4 ?_
 refine RO_fx rfl rfl rfl rfl (Fx_copy (ls := x.cells) (ms := 4) (offs := 22) (off := A + 96) rfl rfl sl_23 mem_ (by rw [Nm.length_cells]; omega) rep_ (by rw [List.length_map]; omega) (by rw [Nat.min_eq_left (show 4 ≤ C - 96 by omega)]; show ∀ u ∈ (x.cells.drop 22).take 4, _; rw [Nm.state]; exact one_map one_bv _)) ?_
 rintro _ _ ⟨rfl, rfl⟩
 rw [Nat.min_eq_left (show 4 ≤ C - 96 by omega), show 4 * 1 = 4 from rfl, Nm.state, ← map_spl]
 obtain ⟨l4, he4⟩ : ∃ z, z = spl (A + 96) x.nd.state l3 := ⟨_, rfl⟩
 rw [← he4]
 have hl4 : l4.length = D := by rw [he4, length_spl (by rw [x.nd.h4]; omega)]; exact hl3
 refine ⟨Or.inl kr_, ?_⟩
 refine (RD_done kr_ (QW_lv [14,29,30,33,34,36,44,45,49,50,53,54,359,360,361] ?_))
 refine CW_sr ?_
 refine RW_m ?_
 refine RW_f fo_43_8 ?_
 refine RW_h (Yh_lh (v := .int .u64 (x.nd.created : Int)) sc_39 (Nm.at26 x)) ?_
 refine RW_fx rfl rfl rfl (Fx_call ok_29 (vs := [.slice (some ⟨b45, A, none⟩) C C, nv 100, .int .u64 ((x.nd.created : Nat) : Int), nv 8]) rfl pk_ (put_ctN b45 A C C (A + 100) l4 100 x.nd.created 8 om_ om_ om_ om_ om_)) ?_
 rintro _ _ ⟨_, ⟨rfl, rfl⟩, rfl⟩
 obtain ⟨l5, he5⟩ : ∃ z, z = putF (A + 100) x.nd.created 8 l4 := ⟨_, rfl⟩
 rw [← he5]
 have hl5 : l5.length = D := by rw [he5, length_putF om_]; exact hl4
 refine RW_lv [14,29,30,33,34,36,44,45,49,50,53,54,359,360,361] ?_
 refine CW_sr ?_
 refine RW_m ?_
 refine RW_f fo_43_9 ?_
 refine RW_h (Yh_lh (v := .int .u64 (x.nd.modified : Int)) sc_39 (Nm.at27 x)) ?_
 refine RW_fx rfl rfl rfl (Fx_call ok_29 (vs := [.slice (some ⟨b45, A, none⟩) C C, nv 108, .int .u64 ((x.nd.modified : Nat) : Int), nv 8]) rfl pk_ (put_ctN b45 A C C (A + 108) l5 108 x.nd.modified 8 om_ om_ om_ om_ om_)) ?_
 rintro _ _ ⟨_, ⟨rfl, rfl⟩, rfl⟩
 obtain ⟨l6, he6⟩ : ∃ z, z = putF (A + 108) x.nd.modified 8 l5 := ⟨_, rfl⟩
 rw [← he6]
 have hl6 : l6.length = D := by rw [he6, length_putF om_]; exact hl5
 refine RW_lv [14,29,30,33,34,36,44,45,50,53,54,359,360,361] ?_
 refine CW_sr ?_
 refine RW_m ?_
 refine RW_m ?_
 refine RW_l (Yl_conv rfl in_3 in_39 (wu64 om_ om_)) ?_
 refine RW_fx rfl rfl rfl (Fx_call ok_29 (vs := [.slice (some ⟨b45, A, none⟩) C C, nv 116, .int .u64 ((st : Nat) : Int), nv 4]) rfl pk_ (put_ctN b45 A C C (A + 116) l6 116 st 4 om_ om_ om_ om_ om_)) ?_
 rintro _ _ ⟨_, ⟨rfl, rfl⟩, rfl⟩
 obtain ⟨l7, he7⟩ : ∃ z, z = putF (A + 116) st 4 l6 := ⟨_, rfl⟩
 rw [← he7]
 have hl7 : l7.length = D := by rw [he7, length_putF om_]; exact hl6
 refine RW_lv [14,29,30,33,34,36,44,45,50,54,359,360,361] ?_
 refine CW_region ?_
 refine RW_m ?_
 refine RW_m ?_
 refine RW_l (Yl_conv rfl in_3 in_39 (wu64 om_ om_)) ?_
 refine RW_fx rfl rfl rfl (Fx_call ok_29 (vs := [.slice (some ⟨b45, A, none⟩) C C, nv 120, .int .u64 ((ln : Nat) : Int), nv 8]) rfl pk_ (put_ctN b45 A C C (A + 120) l7 120 ln 8 om_ om_ om_ om_ om_)) ?_
 rintro _ _ ⟨_, ⟨rfl, rfl⟩, rfl⟩
 obtain ⟨l8, he8⟩ : ∃ z, z = putF (A + 120) ln 8 l7 := ⟨_, rfl⟩
 rw [← he8]
 have hl8 : l8.length = D := by rw [he8, length_putF om_]; exact hl7
 refine RW_nil ?_
 have hfin : l8 = entF A x.nd kd st ln l := by
  unfold entF
  rw [he8, he7, he6, he5, he4, he3, he2, he1]
 rw [hfin]
 refine QW_dropB (e := (b457, _)) rem_ ?_
 refine QW_dropB (e := (b49, _)) rem_ ?_
 exact QW_live kp_ hk

theorem write_I {E : World} {Q : Exit → Act → World → Prop} {F : Heap} (hQ : QP Q) (b30 b44 bb st0 cap minis W : Nat) (da : Option Addr) (data wl : List UInt8) (mt : List Nat) (r : List Value) (Dh : Heap) {v14 v29 v33 v34 v36 v45 v49 v50 v52 v54 v359 v360 v361 : Value} (hD : 0 < data.length → da = some ⟨bb, 0, none⟩ ∧ Dh = [(bb, blk (bys data ++ r) 5)]) (hcap : data.length ≤ cap) (hdb : data.length ≤ 9000) (hst : st0 ≤ 4294967295) (hW : 64 * minis = W) (hW2 : W ≤ 100000000) (hwl : wl.length = W) (hmm : minis ≤ mt.length) (hmb : ∀ x ∈ mt, x < 4294967296) (hch : ∀ j, j * 64 < data.length → walkP mt st0 j < minis)
  (hk : QW E 514 [(14, v14), (29, v29), (30, .slice (some ⟨b30, 0, none⟩) mt.length mt.length), (33, v33), (34, v34), (36, v36), (44, .slice (some ⟨b44, 0, none⟩) W W), (45, v45), (49, v49), (50, v50), (52, v52), (53, nv st0), (54, v54), (359, v359), (360, v360), (361, v361)] ((b44, blk (bys (fill0F mt data st0 wl)) 5) :: (b30, blk (u32s mt) 67) :: (Dh ++ F)) .normal Q) :
  CW Tryd.prog E 514 [(14, v14), (29, v29), (30, .slice (some ⟨b30, 0, none⟩) mt.length mt.length), (33, v33), (34, v34), (36, v36), (44, .slice (some ⟨b44, 0, none⟩) W W), (45, v45), (49, v49), (50, v50), (52, v52), (53, nv st0), (54, v54), (55, .slice da data.length cap), (359, v359), (360, v360), (361, v361)] ((b44, blk (bys wl) 5) :: (b30, blk (u32s mt) 67) :: (Dh ++ F)) (dig [1, 1, 1, 1, 1, 1, 1, 1, 1, 1, 1, 1, 1, 1, 1, 1, 1, 1, 1, 1, 1, 1, 1, 1, 1, 1, 1, 1, 1, 1, 1, 1, 1, 1, 1, 1, 1, 1, 1, 1, 1, 1, 1, 1, 1, 1, 1, 0, 1, 2, 2, 1, 1, 0, 2, 1, 1, 1, 1, 1, 0, 2, 1, 4, 1, 3, 1, 1, 1, 3, 1, 1] (bodyOf Tryd.f15)) Q := by
 refine CW_sr ?_
 refine RW_m ?_
 refine RW_a ?_
 refine RW_lv [14,29,30,33,34,36,44,45,49,50,52,53,54,55,56,359,360,361] ?_
 refine CW_block ?_
 refine CW_loop (σ := Nat × Option Addr × Nat) (fun q => [(14, v14), (29, v29), (30, .slice (some ⟨b30, 0, none⟩) mt.length mt.length), (33, v33), (34, v34), (36, v36), (44, .slice (some ⟨b44, 0, none⟩) W W), (45, v45), (49, v49), (50, v50), (52, v52), (53, nv st0), (54, v54), (55, .slice q.2.1 (data.length - q.1 * 64) q.2.2), (56, nv (walkP mt st0 q.1)), (359, v359), (360, v360), (361, v361)]) (fun q => (b44, blk (bys (fill0To mt data st0 wl q.1)) 5) :: (b30, blk (u32s mt) 67) :: (Dh ++ F)) (fun q => (q.1 * 64 < data.length → q.2.1 = some ⟨bb, q.1 * 64, none⟩) ∧ data.length - q.1 * 64 ≤ q.2.2 ∧ (0 < q.1 → (q.1 - 1) * 64 < data.length) ∧ walkP mt st0 q.1 ≤ 4294967295) (fun q => data.length - q.1 * 64) (0, da, cap) ⟨fun h => by simpa using (hD (by simpa using h)).1, by simpa using hcap, by simp, hst⟩ (Prm.nil _) (.cons rfl (.cons rfl (.cons rfl (.cons rfl (.cons rfl (.cons rfl (.cons rfl (.cons rfl (.cons rfl (.cons rfl (.cons rfl (.cons rfl (.cons rfl (.cons (by simp [look]) kp_)))))))))))))) ?_
 rintro ⟨j, p, c⟩ ⟨ho, hcp, hlo, hwk⟩
 simp only at ho hcp hlo hwk ⊢
 have hj1 : (j + 1) * 64 = j * 64 + 64 := Nat.succ_mul j 64
 refine CW_seq ?_
 refine CW_sr ?_
 refine RW_m ?_
 refine RW_l (Yl_len rfl sl_23) ?_
 refine RW_l (Yl_gtr rfl rfl) ?_
 refine RW_lv [14,29,30,33,34,36,44,45,49,50,52,53,54,55,56,359,360,361,424] ?_
 refine CW_cd rfl (fun hc1 => ?_) (fun hc1 => ?_)
 ·refine (CW_skip (QW_lv [14,29,30,33,34,36,44,45,49,50,52,53,54,55,56,359,360,361] ?_))
  refine CW_seq ?_
  refine CW_block ?_
  have hjd : j * 64 < data.length := by omega
  obtain rfl := ho hjd
  obtain ⟨hda, rfl⟩ := hD om_
  simp only [List.cons_append, List.nil_append]
  have hq1 := hch j hjd
  have hlen : (fill0To mt data st0 wl j).length = wl.length := length_fill0To j (fun i hi => by
   have hi2 : i * 64 ≤ (j - 1) * 64 := Nat.mul_le_mul_right _ om_
   have := hch i (by have := hlo om_; omega)
   omega)
  have hwn : mt.getD (walkP mt st0 j) 0 < 4294967296 := getD_lt hmb om_
  have hmin : min (data.length - j * 64) 64 ≤ 64 := Nat.min_le_right _ _
  have hpart : ((bys data ++ r).drop (j * 64)).take (min (data.length - j * 64) 64 * 1) = bys ((data.drop (j * 64)).take (min (data.length - j * 64) 64)) := by
   rw [Nat.mul_one, List.drop_append_of_le_length (by simp; omega), List.take_append_of_le_length (by simp; omega)]; simp [bys, List.map_take, List.map_drop]
  have hmin2 : (data.drop (j * 64)).take (min (data.length - j * 64) 64) = (data.drop (j * 64)).take 64 := by
   rcases Nat.le_total (data.length - j * 64) 64 with h | h
   ·rw [Nat.min_eq_left h, List.take_of_length_le (by simp), List.take_of_length_le (by simp; omega)]
   rw [Nat.min_eq_right h]
  refine CW_region ?_
  refine RW_m ?_
  refine RW_m ?_
  refine RW_m ?_
  refine RW_l (Yl_mul (c := ((64 * (walkP mt st0 j) : Nat) : Int)) rfl rfl (mulN (a := 64) (b := (walkP mt st0 j)) om_)) ?_
  refine RW_m ?_
  refine RW_l (Yl_mul (c := ((64 * (walkP mt st0 j) : Nat) : Int)) rfl rfl (mulN (a := 64) (b := (walkP mt st0 j)) om_)) ?_
  refine RW_l (Yl_add (c := ((64 * (walkP mt st0 j) + 64 : Nat) : Int)) rfl rfl (wi64 om_ om_)) ?_
  refine RW_l (Yl_cutLHN (l := 64 * (walkP mt st0 j)) (h := 64 * (walkP mt st0 j) + 64) (o' := 64 * (walkP mt st0 j)) (m' := 64) rfl rfl rfl sl_23 om_ om_ om_ om_ om_) ?_
  refine RW_m ?_
  refine RW_fx rfl rfl rfl (Fx_copy (ls := bys data ++ r) rfl rfl sl_23 mem_ (by simp; omega) rep_ (by rw [List.length_map]; omega) (by have hone2 : ∀ u ∈ ((bys data ++ r).drop (j * 64)).take (min (data.length - j * 64) 64 * 1), u.oneCell' = true := (by rw [hpart]; exact one_map one_bv _); exact hone2)) ?_
  rintro _ _ ⟨rfl, rfl⟩
  refine RW_l (Yl_cutLN (l := min (data.length - j * 64) 64) rfl rfl sl_23 om_) ?_
  refine RW_a ?_
  refine RW_nil ?_
  refine QW_normal_block ?_
  refine (QW_lv [14,29,30,33,34,36,44,45,49,50,52,53,54,55,56,359,360,361] ?_)
  refine CW_region ?_
  refine RW_m ?_
  refine RW_m ?_
  refine RW_l (Yl_index rfl rfl sl_22 om_ om_) ?_
  refine RW_h (Yh_load (v := uv (mt.getD (walkP mt st0 j) 0)) rfl sc_67 mem_ (at_u32s (i := (walkP mt st0 j)) om_ om_)) ?_
  refine RW_l (Yl_conv (c := ((mt.getD (walkP mt st0 j) 0 : Nat) : Int)) rfl in_67 in_3 (wi64 om_ om_)) ?_
  refine RW_a ?_
  refine RW_nil ?_
  refine QW_round (j + 1, some ⟨bb, (if c = min (data.length - j * 64) 64 then j * 64 else j * 64 + min (data.length - j * 64) 64 * 1), none⟩, c - min (data.length - j * 64) 64) ⟨?_, ?_, ?_, ?_⟩ (by simp only; omega) ?_ (.cons rfl (.cons rfl (.cons rfl (.cons rfl (.cons rfl (.cons rfl (.cons rfl (.cons rfl (.cons rfl (.cons rfl (.cons rfl (.cons rfl (.cons rfl (.cons (by simp only [look]; congr 2; omega) kp_))))))))))))))
  ·intro h; simp only at h ⊢; rw [if_neg om_]; congr 2; omega
  ·simp only; omega
  ·intro _; simp only [Nat.add_sub_cancel]; exact hjd
  ·simp only [walkP]; omega
  simp only [fill0To]
  rw [hpart, ← map_spl, hmin2]
  exact prm_
 refine CW_exit ?_
 refine QW_exit_then ?_
 refine QW_exit_then ?_
 refine QW_exit_block ?_
 have hjp : partsF data.length 64 = j := by
  have h1 : ¬ j < partsF data.length 64 := by rw [lt_partsF om_]; omega
  rcases Nat.lt_or_ge (partsF data.length 64) j with h2 | h2
  ·exact absurd (hlo om_) (by have := (not_congr (lt_partsF (n := data.length) (size := 64) (k := j - 1) om_)).1 om_; omega)
  omega
 subst hjp
 exact QW_live kp_ hk

theorem write_J {E : World} {Q : Exit → Act → World → Prop} {F : Heap} (hQ : QP Q) (b7 g29 stl c29 b30 bf b25 b34 b35 bo g33 msl c33 b44 b49 k size N T minis W : Nat) (sts mst mt fat : List Nat) (r29 r33 : List Value) (wl ol : List UInt8) (x : Nm) {v34 v45 v50 v359 v360 v361 : Value} (hok : x.ok) (hsz : 512 ≤ size ∧ size ≤ 4096) (hsl : stl = sts.length) (hks : 3 + k < sts.length) (hml : msl = mst.length) (hkm : k < mst.length) (hsb : ∀ y ∈ sts, y ≤ 4294967295) (hmsb : ∀ y ∈ mst, y ≤ 4294967295) (hmt : mt.length ≤ 1000000) (hmb : ∀ y ∈ mt, y < 4294967296) (hfb : ∀ y ∈ fat, y < 4294967296) (hT : T ≤ 100000) (hTf : T ≤ fat.length) (hN : size * (1 + T) = N) (hol : ol.length = N) (hW : 64 * minis = W) (hW2 : W ≤ 100000000) (hwl : wl.length = W) (hmm : minis ≤ mt.length)
  (hkb : k ≤ 1000) (hch1 : k ≠ 0 → x.nd.stream = true → x.nd.data.length < 4096 → ∀ j, j * 64 < x.nd.data.length → walkP mt (mst.getD k 0) j < minis) (hch2 : k ≠ 0 → x.nd.stream = true → ¬ x.nd.data.length < 4096 → ∀ j, j * size < x.nd.data.length → walkP fat (sts.getD (3 + k) 0) j < T)
  (hk : ∀ kd st ln wl' ol', (swF k minis size sts mst fat mt x.nd wl ol = (kd, st, ln, wl', ol')) → CW Tryd.prog E 514 [(14, nv minis), (29, .slice (some ⟨g29, 0, none⟩) stl c29), (30, .slice (some ⟨b30, 0, none⟩) mt.length mt.length), (33, .slice (some ⟨g33, 0, none⟩) msl c33), (34, v34), (36, .func (.func 28) #[] #[.pointer (some ⟨b25, 0, none⟩), .pointer (some ⟨b35, 0, none⟩)]), (44, .slice (some ⟨b44, 0, none⟩) W W), (45, v45), (49, .pointer (some ⟨b49, 0, none⟩)), (50, v50), (52, bv kd), (53, nv st), (54, nv ln), (359, v359), (360, v360), (361, v361)] ((b44, blk (bys wl') 5) :: (b30, blk (u32s mt) 67) :: (g29, blk (nats sts ++ r29) 3) :: (g33, blk (nats mst ++ r33) 3) :: (b49, blk x.cells 43) :: (bo, blk (bys ol') 5) :: (b35, blk [.func (.func 27) #[] #[.pointer (some ⟨b34, 0, none⟩), .pointer (some ⟨b7, 0, none⟩)]] 73) :: (b34, blk [.slice (some ⟨bo, 0, none⟩) N N] 23) :: (bf, blk (u32s fat) 67) :: (b25, blk [.slice (some ⟨bf, 0, none⟩) fat.length fat.length] 22) :: (b7, blk [nv size] 3) :: (x.heap ++ F)) (dig [1, 1, 1, 1, 1, 1, 1, 1, 1, 1, 1, 1, 1, 1, 1, 1, 1, 1, 1, 1, 1, 1, 1, 1, 1, 1, 1, 1, 1, 1, 1, 1, 1, 1, 1, 1, 1, 1, 1, 1, 1, 1, 1, 1, 1, 1, 1, 0, 1, 2, 2, 1, 1, 0, 2, 1, 1, 1, 1, 1, 1] (bodyOf Tryd.f15)) Q) :
  CW Tryd.prog E 514 [(14, nv minis), (29, .slice (some ⟨g29, 0, none⟩) stl c29), (30, .slice (some ⟨b30, 0, none⟩) mt.length mt.length), (33, .slice (some ⟨g33, 0, none⟩) msl c33), (34, v34), (36, .func (.func 28) #[] #[.pointer (some ⟨b25, 0, none⟩), .pointer (some ⟨b35, 0, none⟩)]), (44, .slice (some ⟨b44, 0, none⟩) W W), (45, v45), (48, nv k), (49, .pointer (some ⟨b49, 0, none⟩)), (50, v50), (359, v359), (360, v360), (361, v361)] ((b44, blk (bys wl) 5) :: (b30, blk (u32s mt) 67) :: (g29, blk (nats sts ++ r29) 3) :: (g33, blk (nats mst ++ r33) 3) :: (b49, blk x.cells 43) :: (bo, blk (bys ol) 5) :: (b35, blk [.func (.func 27) #[] #[.pointer (some ⟨b34, 0, none⟩), .pointer (some ⟨b7, 0, none⟩)]] 73) :: (b34, blk [.slice (some ⟨bo, 0, none⟩) N N] 23) :: (bf, blk (u32s fat) 67) :: (b25, blk [.slice (some ⟨bf, 0, none⟩) fat.length fat.length] 22) :: (b7, blk [nv size] 3) :: (x.heap ++ F)) (dig [1, 1, 1, 1, 1, 1, 1, 1, 1, 1, 1, 1, 1, 1, 1, 1, 1, 1, 1, 1, 1, 1, 1, 1, 1, 1, 1, 1, 1, 1, 1, 1, 1, 1, 1, 1, 1, 1, 1, 1, 1, 1, 1, 1, 1, 1, 1, 0, 1, 2, 2, 1, 1, 0, 2, 1, 1, 1, 1] (bodyOf Tryd.f15)) Q := by
 have hNb : N ≤ 1000000000 := by
  have h1 : size * (1 + T) ≤ 4096 * 100001 := Nat.mul_le_mul hsz.2 om_
  omega
 have hsm := hok.small
 refine CW_seq ?_
 refine CW_draw [] _ mixed (Sub.refl _) ?_
 refine RD_y (i := 0) rfl rfl rfl rfl kr_ (fun _ _ _ h => hQ _ _ _ _ _ h) (Yl_field rfl fo_43_2) ?_
 refine RD_y (i := 3) rfl rfl rfl rfl kr_ (fun _ _ _ h => hQ _ _ _ _ _ h) (Yl_assign rfl) ?_
 refine RD_y (i := 4) rfl rfl rfl rfl kr_ (fun _ _ _ h => hQ _ _ _ _ _ h) (Yl_assign rfl) ?_
 refine RD_h (i := 1) #[true, false, false, true, true, false] rfl rfl rfl rfl kr_ (fun _ _ _ h => hQ _ _ _ _ _ h) (Yh_ld (v := .slice (x.b.map fun b => ⟨b, 0, none⟩) x.nd.data.length x.cap) sc_23) ?_
 refine RD_y (i := 2) rfl rfl rfl rfl kr_ (fun _ _ _ h => hQ _ _ _ _ _ h) (Yl_len rfl sl_23) ?_
 refine RD_y (i := 5) rfl rfl rfl rfl kr_ (fun _ _ _ h => hQ _ _ _ _ _ h) (Yl_assign rfl) ?_
 refine (RD_done kr_ (QW_lv [14,29,30,33,34,36,44,45,48,49,50,52,53,54,359,360,361] ?_))
 refine CW_seq ?_
 refine CW_block ?_
 refine CW_sr ?_
 refine RW_m ?_
 refine RW_l (Yl_eql rfl rfl) ?_
 refine RW_a ?_
 refine RW_lv [14,29,30,33,34,36,44,45,48,49,50,52,53,54,359,360,361,397] ?_
 refine CW_cd rfl (fun hc1 => ?_) (fun hc1 => ?_)
 ·refine CW_draw [] _ mixed (Sub.refl _) ?_
  refine RD_y (i := 0) rfl rfl rfl rfl kr_ (fun _ _ _ h => hQ _ _ _ _ _ h) (Yl_move rfl) ?_
  refine RD_y (i := 1) rfl rfl rfl rfl kr_ (fun _ _ _ h => hQ _ _ _ _ _ h) (Yl_index rfl rfl sl_29 om_ om_) ?_
  refine RD_y (i := 3) rfl rfl rfl rfl kr_ (fun _ _ _ h => hQ _ _ _ _ _ h) (Yl_move rfl) ?_
  refine RD_y (i := 4) rfl rfl rfl rfl kr_ (fun _ _ _ h => hQ _ _ _ _ _ h) (Yl_mul (c := ((64 * minis : Nat) : Int)) rfl rfl (mulN (a := 64) (b := minis) om_)) ?_
  refine RD_y (i := 5) rfl rfl rfl rfl kr_ (fun _ _ _ h => hQ _ _ _ _ _ h) (Yl_assign rfl) ?_
  refine RD_h (i := 2) #[true, true, false, true, true, true, false, false] rfl rfl rfl rfl kr_ (fun _ _ _ h => hQ _ _ _ _ _ h) (Yh_load (v := nv (sts.getD 2 0)) rfl sc_3 mem_ (at_nats om_ om_)) ?_
  refine RD_y (i := 6) rfl rfl rfl rfl kr_ (fun _ _ _ h => hQ _ _ _ _ _ h) (Yl_assign rfl) ?_
  refine RD_y (i := 7) rfl rfl rfl rfl kr_ (fun _ _ _ h => hQ _ _ _ _ _ h) (Yl_assign rfl) ?_
  refine RD_done kr_ ?_
  refine QW_normal_block ?_
  refine (QW_lv [14,29,30,33,34,36,44,45,49,50,52,53,54,359,360,361] ?_)
  first
   | exact hk 5 (sts.getD 2 0) (64 * minis) wl ol (by unfold swF; rw [if_pos (by omega)])
   | exact hk 2 (mst.getD k 0) x.nd.data.length (fill0F mt x.nd.data (mst.getD k 0) wl) ol (by unfold swF; rw [if_neg (by omega), if_pos hd2, if_pos (by omega)])
   | (refine CW_heap (Prm.perm (T := (b44, blk (bys wl) 5) :: (b30, blk (u32s mt) 67) :: (g29, blk (nats sts ++ r29) 3) :: (g33, blk (nats mst ++ r33) 3) :: (b49, blk x.cells 43) :: (bo, blk (bys (fillF fat size x.nd.data (sts.getD (3 + k) 0) ol)) 5) :: (b35, blk [.func (.func 27) #[] #[.pointer (some ⟨b34, 0, none⟩), .pointer (some ⟨b7, 0, none⟩)]] 73) :: (b34, blk [.slice (some ⟨bo, 0, none⟩) N N] 23) :: (bf, blk (u32s fat) 67) :: (b25, blk [.slice (some ⟨bf, 0, none⟩) fat.length fat.length] 22) :: (b7, blk [nv size] 3) :: (x.b.getD 0, blk (bys x.nd.data ++ x.rest) 5) :: F) (by repeat (first | exact Prm.nil _ | exact Rem.here _ _ | apply Rem.there | apply Prm.cons))) ?_; have hkk := hk 2 (sts.getD (3 + k) 0) x.nd.data.length wl (fillF fat size x.nd.data (sts.getD (3 + k) 0) ol) (by unfold swF; rw [if_neg (by omega), if_pos hd2, if_neg (by omega)]); rw [hDh] at hkk; exact hkk)
   | exact hk 1 0 0 wl ol (by unfold swF; rw [if_neg (by omega), if_neg (by rw [hd2]; exact Bool.false_ne_true)])
 refine CW_sr ?_
 refine RW_f fo_43_1 ?_
 refine RW_h (Yh_ld (v := .bool x.nd.stream) sc_4) ?_
 refine RW_a ?_
 refine RW_lv [14,29,30,33,34,36,44,45,48,49,50,52,53,54,359,360,361,405] ?_
 refine CW_cond rfl (fun hc2 => ?_) (fun hc2 => ?_)
 ·skip
  have hd2 : x.nd.stream = true := hc2
  refine CW_sr ?_
  refine RW_a ?_
  refine RW_lv [14,29,30,33,34,36,44,45,48,49,50,52,54,359,360,361] ?_
  refine CW_sr ?_
  refine RW_m ?_
  refine RW_m ?_
  refine RW_l (Yl_add (c := ((3 + k : Nat) : Int)) rfl rfl (wi64 om_ om_)) ?_
  refine RW_l (Yl_index rfl rfl sl_29 om_ om_) ?_
  refine RW_h (Yh_load (v := nv (sts.getD (3 + k) 0)) rfl sc_3 mem_ (at_nats om_ om_)) ?_
  refine RW_a ?_
  refine RW_lv [14,29,30,33,34,36,44,45,48,49,50,52,53,54,359,360,361] ?_
  refine CW_sr ?_
  refine RW_m ?_
  refine RW_l (Yl_lss rfl rfl) ?_
  refine RW_lv [14,29,30,33,34,36,44,45,48,49,50,52,53,54,359,360,361,414] ?_
  refine CW_cd rfl (fun hc3 => ?_) (fun hc3 => ?_)
  ·refine CW_sr ?_
   refine RW_m ?_
   refine RW_m ?_
   refine RW_l (Yl_index rfl rfl sl_29 om_ om_) ?_
   refine RW_h (Yh_load (v := nv (mst.getD k 0)) rfl sc_3 mem_ (at_nats om_ om_)) ?_
   refine RW_a ?_
   refine RW_lv [14,29,30,33,34,36,44,45,49,50,52,53,54,359,360,361] ?_
   refine CW_sr ?_
   refine RW_f fo_43_2 ?_
   refine RW_h (Yh_ld (v := .slice (x.b.map fun b => ⟨b, 0, none⟩) x.nd.data.length x.cap) sc_23) ?_
   refine RW_a ?_
   refine RW_lv [14,29,30,33,34,36,44,45,49,50,52,53,54,55,359,360,361] ?_
   refine CW_heap (((List.perm_append_comm_assoc [(g29, blk (nats sts ++ r29) 3), (g33, blk (nats mst ++ r33) 3), (b49, blk x.cells 43), (bo, blk (bys ol) 5), (b35, blk [.func (.func 27) #[] #[.pointer (some ⟨b34, 0, none⟩), .pointer (some ⟨b7, 0, none⟩)]] 73), (b34, blk [.slice (some ⟨bo, 0, none⟩) N N] 23), (bf, blk (u32s fat) 67), (b25, blk [.slice (some ⟨bf, 0, none⟩) fat.length fat.length] 22), (b7, blk [nv size] 3)] x.heap F).cons (b30, blk (u32s mt) 67)).cons (b44, blk (bys wl) 5)) ?_
   refine write_I (F := [(g29, blk (nats sts ++ r29) 3), (g33, blk (nats mst ++ r33) 3), (b49, blk x.cells 43), (bo, blk (bys ol) 5), (b35, blk [.func (.func 27) #[] #[.pointer (some ⟨b34, 0, none⟩), .pointer (some ⟨b7, 0, none⟩)]] 73), (b34, blk [.slice (some ⟨bo, 0, none⟩) N N] 23), (bf, blk (u32s fat) 67), (b25, blk [.slice (some ⟨bf, 0, none⟩) fat.length fat.length] 22), (b7, blk [nv size] 3)] ++ F) (by intro _ _ _ _ _ h; exact hQ _ _ _ _ _ h) b30 b44 (x.b.getD 0) (mst.getD k 0) x.cap minis W _ x.nd.data wl mt x.rest x.heap (Nm.data_ok hok) hok.fit hok.small (le_getD hmsb hkm) hW hW2 hwl hmm hmb (hch1 om_ hd2 om_) ?_
   refine QW_heap (((List.perm_append_comm_assoc x.heap [(g29, blk (nats sts ++ r29) 3), (g33, blk (nats mst ++ r33) 3), (b49, blk x.cells 43), (bo, blk (bys ol) 5), (b35, blk [.func (.func 27) #[] #[.pointer (some ⟨b34, 0, none⟩), .pointer (some ⟨b7, 0, none⟩)]] 73), (b34, blk [.slice (some ⟨bo, 0, none⟩) N N] 23), (bf, blk (u32s fat) 67), (b25, blk [.slice (some ⟨bf, 0, none⟩) fat.length fat.length] 22), (b7, blk [nv size] 3)] F).cons (b30, blk (u32s mt) 67)).cons (b44, blk (bys (fill0F mt x.nd.data (mst.getD k 0) wl)) 5)) ?_
   refine QW_normal_block ?_
   refine (QW_lv [14,29,30,33,34,36,44,45,49,50,52,53,54,359,360,361] ?_)
   first
    | exact hk 5 (sts.getD 2 0) (64 * minis) wl ol (by unfold swF; rw [if_pos (by omega)])
    | exact hk 2 (mst.getD k 0) x.nd.data.length (fill0F mt x.nd.data (mst.getD k 0) wl) ol (by unfold swF; rw [if_neg (by omega), if_pos hd2, if_pos (by omega)])
    | (refine CW_heap (Prm.perm (T := (b44, blk (bys wl) 5) :: (b30, blk (u32s mt) 67) :: (g29, blk (nats sts ++ r29) 3) :: (g33, blk (nats mst ++ r33) 3) :: (b49, blk x.cells 43) :: (bo, blk (bys (fillF fat size x.nd.data (sts.getD (3 + k) 0) ol)) 5) :: (b35, blk [.func (.func 27) #[] #[.pointer (some ⟨b34, 0, none⟩), .pointer (some ⟨b7, 0, none⟩)]] 73) :: (b34, blk [.slice (some ⟨bo, 0, none⟩) N N] 23) :: (bf, blk (u32s fat) 67) :: (b25, blk [.slice (some ⟨bf, 0, none⟩) fat.length fat.length] 22) :: (b7, blk [nv size] 3) :: (x.b.getD 0, blk (bys x.nd.data ++ x.rest) 5) :: F) (by repeat (first | exact Prm.nil _ | exact Rem.here _ _ | apply Rem.there | apply Prm.cons))) ?_; have hkk := hk 2 (sts.getD (3 + k) 0) x.nd.data.length wl (fillF fat size x.nd.data (sts.getD (3 + k) 0) ol) (by unfold swF; rw [if_neg (by omega), if_pos hd2, if_neg (by omega)]); rw [hDh] at hkk; exact hkk)
    | exact hk 1 0 0 wl ol (by unfold swF; rw [if_neg (by omega), if_neg (by rw [hd2]; exact Bool.false_ne_true)])
  obtain ⟨hda, hDh⟩ := Nm.data_ok hok om_
  rw [hDh]
  simp only [List.cons_append, List.nil_append]
  have hfill := fill_ct b25 bf b35 b34 b7 bo (x.b.getD 0) fat.length N x.cap size (sts.getD (3 + k) 0) N fat x.nd.data ol x.rest (by omega) hol.symm (by omega) (by omega) hok.fit (by omega) (le_getD hsb hks) hfb (fun j hj => by
   have h1 := hch2 om_ hd2 om_ j hj
   have h2 := sector_le2 (size := size) h1
   omega)
  refine CW_region ?_
  refine RW_m ?_
  refine RW_m ?_
  refine RW_f fo_43_2 ?_
  refine RW_h (Yh_load (v := .slice (some ⟨x.b.getD 0, 0, none⟩) x.nd.data.length x.cap) rfl sc_23 mem_ (by show some x.slice = _; unfold Nm.slice; rw [hda])) ?_
  refine RW_fx rfl rfl rfl (Fx_callV ok_28 (fs := []) (vs := [nv (sts.getD (3 + k) 0), .slice (some ⟨x.b.getD 0, 0, none⟩) x.nd.data.length x.cap]) (cs := [.pointer (some ⟨b25, 0, none⟩), .pointer (some ⟨b35, 0, none⟩)]) rfl rfl pk_ hfill) ?_
  rintro _ _ ⟨_, ⟨rfl, rfl⟩, rfl⟩
  refine RW_nil ?_
  refine QW_normal_block ?_
  refine (QW_lv [14,29,30,33,34,36,44,45,49,50,52,53,54,359,360,361] ?_)
  first
   | exact hk 5 (sts.getD 2 0) (64 * minis) wl ol (by unfold swF; rw [if_pos (by omega)])
   | exact hk 2 (mst.getD k 0) x.nd.data.length (fill0F mt x.nd.data (mst.getD k 0) wl) ol (by unfold swF; rw [if_neg (by omega), if_pos hd2, if_pos (by omega)])
   | (refine CW_heap (Prm.perm (T := (b44, blk (bys wl) 5) :: (b30, blk (u32s mt) 67) :: (g29, blk (nats sts ++ r29) 3) :: (g33, blk (nats mst ++ r33) 3) :: (b49, blk x.cells 43) :: (bo, blk (bys (fillF fat size x.nd.data (sts.getD (3 + k) 0) ol)) 5) :: (b35, blk [.func (.func 27) #[] #[.pointer (some ⟨b34, 0, none⟩), .pointer (some ⟨b7, 0, none⟩)]] 73) :: (b34, blk [.slice (some ⟨bo, 0, none⟩) N N] 23) :: (bf, blk (u32s fat) 67) :: (b25, blk [.slice (some ⟨bf, 0, none⟩) fat.length fat.length] 22) :: (b7, blk [nv size] 3) :: (x.b.getD 0, blk (bys x.nd.data ++ x.rest) 5) :: F) (by repeat (first | exact Prm.nil _ | exact Rem.here _ _ | apply Rem.there | apply Prm.cons))) ?_; have hkk := hk 2 (sts.getD (3 + k) 0) x.nd.data.length wl (fillF fat size x.nd.data (sts.getD (3 + k) 0) ol) (by unfold swF; rw [if_neg (by omega), if_pos hd2, if_neg (by omega)]); rw [hDh] at hkk; exact hkk)
   | exact hk 1 0 0 wl ol (by unfold swF; rw [if_neg (by omega), if_neg (by rw [hd2]; exact Bool.false_ne_true)])
 skip
 have hd2 : x.nd.stream = false := hc2
 refine CW_region ?_
 refine RW_a ?_
 refine RW_nil ?_
 refine QW_normal_block ?_
 refine (QW_lv [14,29,30,33,34,36,44,45,49,50,52,53,54,359,360,361] ?_)
 first
  | exact hk 5 (sts.getD 2 0) (64 * minis) wl ol (by unfold swF; rw [if_pos (by omega)])
  | exact hk 2 (mst.getD k 0) x.nd.data.length (fill0F mt x.nd.data (mst.getD k 0) wl) ol (by unfold swF; rw [if_neg (by omega), if_pos hd2, if_pos (by omega)])
  | (refine CW_heap (Prm.perm (T := (b44, blk (bys wl) 5) :: (b30, blk (u32s mt) 67) :: (g29, blk (nats sts ++ r29) 3) :: (g33, blk (nats mst ++ r33) 3) :: (b49, blk x.cells 43) :: (bo, blk (bys (fillF fat size x.nd.data (sts.getD (3 + k) 0) ol)) 5) :: (b35, blk [.func (.func 27) #[] #[.pointer (some ⟨b34, 0, none⟩), .pointer (some ⟨b7, 0, none⟩)]] 73) :: (b34, blk [.slice (some ⟨bo, 0, none⟩) N N] 23) :: (bf, blk (u32s fat) 67) :: (b25, blk [.slice (some ⟨bf, 0, none⟩) fat.length fat.length] 22) :: (b7, blk [nv size] 3) :: (x.b.getD 0, blk (bys x.nd.data ++ x.rest) 5) :: F) (by repeat (first | exact Prm.nil _ | exact Rem.here _ _ | apply Rem.there | apply Prm.cons))) ?_; have hkk := hk 2 (sts.getD (3 + k) 0) x.nd.data.length wl (fillF fat size x.nd.data (sts.getD (3 + k) 0) ol) (by unfold swF; rw [if_neg (by omega), if_pos hd2, if_neg (by omega)]); rw [hDh] at hkk; exact hkk)
  | exact hk 1 0 0 wl ol (by unfold swF; rw [if_neg (by omega), if_neg (by rw [hd2]; exact Bool.false_ne_true)])

theorem write_H {E : World} {Q : Exit → Act → World → Prop} {F : Heap} (hQ : QP Q) (b45 b49 k D A C : Nat) (x : Nm) (l : List UInt8) {v14 v29 v30 v33 v34 v36 v44 v359 v360 v361 : Value} (hA : 128 * k = A) (hD : A + 128 ≤ D) (hC : D - A = C) (hDb : D ≤ 1000000) (hl : l.length = D) (hx : x.nd.name.length ≤ 31)
  (hk : CW Tryd.prog E 514 [(14, v14), (29, v29), (30, v30), (33, v33), (34, v34), (36, v36), (44, v44), (45, .slice (some ⟨b45, 0, none⟩) D D), (48, nv k), (49, .pointer (some ⟨b49, 0, none⟩)), (50, .slice (some ⟨b45, A, none⟩) C C), (359, v359), (360, v360), (361, v361)] ((b45, blk (bys (nameF A x.nd l)) 5) :: (b49, blk x.cells 43) :: F) (dig [1, 1, 1, 1, 1, 1, 1, 1, 1, 1, 1, 1, 1, 1, 1, 1, 1, 1, 1, 1, 1, 1, 1, 1, 1, 1, 1, 1, 1, 1, 1, 1, 1, 1, 1, 1, 1, 1, 1, 1, 1, 1, 1, 1, 1, 1, 1, 0, 1, 2, 2, 1, 1, 0, 2, 1, 1, 1, 1] (bodyOf Tryd.f15)) Q) :
  CW Tryd.prog E 514 [(14, v14), (29, v29), (30, v30), (33, v33), (34, v34), (36, v36), (44, v44), (45, .slice (some ⟨b45, 0, none⟩) D D), (48, nv k), (49, .pointer (some ⟨b49, 0, none⟩)), (359, v359), (360, v360), (361, v361)] ((b45, blk (bys l) 5) :: (b49, blk x.cells 43) :: F) (dig [1, 1, 1, 1, 1, 1, 1, 1, 1, 1, 1, 1, 1, 1, 1, 1, 1, 1, 1, 1, 1, 1, 1, 1, 1, 1, 1, 1, 1, 1, 1, 1, 1, 1, 1, 1, 1, 1, 1, 1, 1, 1, 1, 1, 1, 1, 1, 0, 1, 2, 2, 1, 1, 0, 2, 1] (bodyOf Tryd.f15)) Q := by
 have hAk : A ≤ 1000000 := by omega
 refine CW_sr ?_
 refine RW_m ?_
 refine RW_m ?_
 refine RW_l (Yl_mul (c := (A : Int)) rfl rfl (by rw [← hA]; exact mulN (a := 128) (b := k) om_)) ?_
 refine RW_l (Yl_cutLL (l := A) (o' := A) (m' := C) (c' := C) rfl rfl sl_23 om_ om_ om_ hC hC) ?_
 refine RW_a ?_
 refine RW_lv [14,29,30,33,34,36,44,45,48,49,50,359,360,361] ?_
 refine CW_seq ?_
 refine CW_sr ?_
 refine RW_f fo_43_0 ?_
 refine RW_h (Yh_ld (v := .string (bar x.nd.name)) sc_9) ?_
 refine RW_l (Yl_lenB (l := x.nd.name) rfl st_9) ?_
 refine RW_m ?_
 refine RW_lv [14,29,30,33,34,36,44,45,48,49,50,359,360,361,372,373] ?_
 refine CW_block ?_
 refine CW_lp (σ := Nat) (fun j => [(14, v14), (29, v29), (30, v30), (33, v33), (34, v34), (36, v36), (44, v44), (45, .slice (some ⟨b45, 0, none⟩) D D), (48, nv k), (49, .pointer (some ⟨b49, 0, none⟩)), (50, .slice (some ⟨b45, A, none⟩) C C), (359, v359), (360, v360), (361, v361), (372, nv x.nd.name.length), (373, nv j)]) (fun j => (b45, blk (bys (nameTo x.nd.name A j l)) 5) :: (b49, blk x.cells 43) :: F) (fun j => j ≤ x.nd.name.length) (fun j => x.nd.name.length - j) 0 om_ ?_
 intro j hjm
 refine CW_sr ?_
 refine RW_l (Yl_lss rfl rfl) ?_
 refine RW_lv [14,29,30,33,34,36,44,45,48,49,50,359,360,361,372,373,374] ?_
 refine CW_seq ?_
 refine CW_cd rfl (fun hc1 => ?_) (fun hc1 => ?_)
 ·refine (CW_skip (QW_lv [14,29,30,33,34,36,44,45,48,49,50,359,360,361,372,373] ?_))
  refine CW_seq ?_
  refine CW_block ?_
  refine CW_sr ?_
  refine RW_m ?_
  refine RW_a ?_
  refine RW_lv [14,29,30,33,34,36,44,45,48,49,50,51,359,360,361,372,373] ?_
  have hlj : (nameTo x.nd.name A j l).length = D := by rw [length_nameTo _ _ _ _ om_]; exact hl
  refine CW_region ?_
  refine RW_m ?_
  refine RW_m ?_
  refine RW_l (Yl_mul (c := ((2 * j : Nat) : Int)) rfl rfl (mulN (a := 2) (b := j) om_)) ?_
  refine RW_f fo_43_0 ?_
  refine RW_h (Yh_ld (v := .string (bar x.nd.name)) sc_9) ?_
  refine RW_m ?_
  refine RW_l (Yl_atB (l := x.nd.name) (i := j) rfl rfl st_9 om_) ?_
  refine RW_l (Yl_conv (c := (((x.nd.name.getD j 0).toNat : Nat) : Int)) rfl in_5 in_39 (wu64 om_ (by have := (x.nd.name.getD j 0).toNat_lt; omega))) ?_
  refine RW_fx rfl rfl rfl (Fx_call ok_29 (vs := [.slice (some ⟨b45, A, none⟩) C C, nv (2 * j), .int .u64 (((x.nd.name.getD j 0).toNat : Nat) : Int), nv 2]) rfl pk_ (put_ctN b45 A C C (A + 2 * j) (nameTo x.nd.name A j l) (2 * j) (x.nd.name.getD j 0).toNat 2 om_ om_ om_ om_ om_)) ?_
  rintro _ _ ⟨_, ⟨rfl, rfl⟩, rfl⟩
  refine RW_nil ?_
  refine QW_normal_block ?_
  refine (QW_lv [14,29,30,33,34,36,44,45,48,49,50,359,360,361,372,373] ?_)
  refine CW_region ?_
  refine RW_l (Yl_add rfl rfl (wi64 om_ om_)) ?_
  refine RW_m ?_
  refine RW_nil ?_
  exact QW_rn (j + 1) om_ om_
 refine CW_exit ?_
 refine QW_exit_then ?_
 refine QW_exit_then ?_
 refine QW_exit_block ?_
 refine (QW_lv [14,29,30,33,34,36,44,45,48,49,50,359,360,361] ?_)
 refine CW_seq ?_
 obtain rfl : j = x.nd.name.length := by omega
 have hlj : (nameTo x.nd.name A x.nd.name.length l).length = D := by rw [length_nameTo _ _ _ _ om_]; exact hl
 refine CW_region ?_
 refine RW_m ?_
 refine RW_f fo_43_0 ?_
 refine RW_h (Yh_ld (v := .string (bar x.nd.name)) sc_9) ?_
 refine RW_l (Yl_lenB (l := x.nd.name) rfl st_9) ?_
 refine RW_l (Yl_mul (c := ((2 * x.nd.name.length : Nat) : Int)) rfl rfl (mulN (a := 2) (b := x.nd.name.length) om_)) ?_
 refine RW_l (Yl_add (c := ((2 * x.nd.name.length + 2 : Nat) : Int)) rfl rfl (wi64 om_ om_)) ?_
 refine RW_l (Yl_conv rfl in_3 in_39 (wu64 om_ om_)) ?_
 refine RW_fx rfl rfl rfl (Fx_call ok_29 (vs := [.slice (some ⟨b45, A, none⟩) C C, nv 64, .int .u64 ((2 * x.nd.name.length + 2 : Nat) : Int), nv 2]) rfl pk_ (put_ctN b45 A C C (A + 64) (nameTo x.nd.name A x.nd.name.length l) 64 (2 * x.nd.name.length + 2) 2 om_ om_ om_ om_ om_)) ?_
 rintro _ _ ⟨_, ⟨rfl, rfl⟩, rfl⟩
 refine RW_lv [14,29,30,33,34,36,44,45,48,49,50,359,360,361] ?_
 exact hk

end Go.Proofs.YtgoddcicbpjknaaDoor
