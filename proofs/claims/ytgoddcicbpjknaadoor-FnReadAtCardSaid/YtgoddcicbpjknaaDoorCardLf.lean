/- FnReadAt, as its card states it: whatever the numbers, the bytes, the choice, the step, the turn and the places, the call returns true and leaves all that was there as it was. Behind it: Plain: where a stream's bytes lie in the file that Write makes. No program in sight; Plain: bytes are written into a stream of the file that Write makes: it is the file of the stream with these bytes. No program in sight; A stream of the file that Write makes, as a reader that has been opened holds it; Steps that read a stream and seek in it, one behind the other; The reader's steps over a stream: what they tell; Values: slices of bytes wherever they lie, as texts; Walks: streamOf; same, wherever the bytes lie; A stream's node; a stream is read piece by piece; Plans: steps that read a stream, seek in it, read it at a place; what they tell; From a contract to a row: slices of numbers of two bytes; three slices; The plan of FnReadAt: a byte, bytes at places, a byte; Walks: FnReadAt. -/
import Derived.Test.YtgoddcicbpjknaaDoorPartE
import Derived.Clock
import Derived.Lay
set_option maxRecDepth 20000
set_option maxHeartbeats 4000000

namespace Go.Proofs.YtgoddcicbpjknaaDoor
open Go
open Cfb

/-! Plain: where a stream's bytes lie in the file that Write makes. No program in sight. -/
section
variable (v st : Nat) (xs : List Nd) (k : Nat)
/-- The small parts of a node. -/
def mnF : List Nat := (List.range ((smF xs).getD k 0)).map fun j => (mplF st xs).getD (((smF xs).take k).sum + j) 0
abbrev dtF : List UInt8 := (xs.getD k default).data
/-- A part's size, the chain of the parts, where each begins, where each byte lies. -/
def uF : Nat := if (dtF xs k).length < 4096 then 64 else sizeF v
def cnF : List Nat := if (dtF xs k).length < 4096 then mnF st xs k else snF v st xs (3 + k)
def ofF (j : Nat) : Nat := if (dtF xs k).length < 4096 then (snx (snF v st xs 2) (snx (mnF st xs k) j / (sizeF v / 64)) + 1) * sizeF v + snx (mnF st xs k) j % (sizeF v / 64) * 64 else (snx (snF v st xs (3 + k)) j + 1) * sizeF v
def adF (i : Nat) : Nat := ofF v st xs k (i / uF v xs k) + i % uF v xs k
end
section
variable {v st : Nat} {xs : List Nd} {k : Nat}
theorem length_mnF : (mnF st xs k).length = (smF xs).getD k 0 := by simp [mnF]
theorem mnF_at {j : Nat} (hj : j < (smF xs).getD k 0) : (mnF st xs k).getD j 0 = (mplF st xs).getD (((smF xs).take k).sum + j) 0 := by
  unfold mnF
  rw [List.getD_eq_getElem?_getD, List.getElem?_map, List.getElem?_range hj]; rfl
theorem uF_or : uF v xs k = 64 ∨ uF v xs k = 512 ∨ uF v xs k = 4096 := by
  unfold uF
  split
  · exact .inl rfl
  · exact .inr (sizeF_or v)
theorem sm_count (hk : k < xs.length) (hs : (xs.getD k default).stream = true) (hl : (dtF xs k).length < 4096) : (smF xs).getD k 0 = partsF (dtF xs k).length 64 := by
  rw [sm_at xs hk]; unfold smallF; rw [if_pos ⟨hs, hl⟩]
theorem length_cnF (hk : k < xs.length) (hs : (xs.getD k default).stream = true) : (cnF v st xs k).length = partsF (dtF xs k).length (uF v xs k) := by
  unfold cnF uF
  split
  · rename_i hl; rw [length_mnF, sm_count hk hs hl]
  · rename_i hl; rw [length_snF, ← parts_large hk hs hl]
theorem in_cnF (hk : k < xs.length) (hs : (xs.getD k default).stream = true) {i : Nat} (hi : i < (dtF xs k).length) : i / uF v xs k < (cnF v st xs k).length := by
  have hu := uF_or (v := v) (xs := xs) (k := k)
  rw [length_cnF hk hs, lt_partsF (by omega)]
  have := Nat.div_mul_le_self i (uF v xs k)
  omega
/-- Small parts in the small table. -/
theorem mch_at (h : Ok xs) (hk : k < xs.length) {j : Nat} (hj : j < (smF xs).getD k 0) : walkP (mchF v st xs).table ((mchF v st xs).outs.getD k 0) j = snx (mnF st xs k) j := by
  rw [mch_walk h hk hj, snx_in _ (by rw [length_mnF]; exact hj), mnF_at hj]
theorem mch_end (h : Ok xs) (hk : k < xs.length) : walkP (mchF v st xs).table ((mchF v st xs).outs.getD k 0) ((smF xs).getD k 0) = CE := by
  have h1 := mfF_le (v := v) h
  refine chain_end (pl := mplF st xs) (mixedF_nodup _ _) (t := mtbF v xs) (from_ := 0) (cs := smF xs) ?_ ?_ (by simpa [smF] using hk)
  · intro x hx; have := mixedF_lt _ _ x hx; simp [mtbF]; omega
  · simp [mplF, miF]
theorem mn_next (h : Ok xs) (hk : k < xs.length) {j : Nat} (hj : j < (smF xs).getD k 0) : (mchF v st xs).table.getD (snx (mnF st xs k) j) 0 = snx (mnF st xs k) (j + 1) := by
  rw [← mch_at (v := v) h hk hj]
  show walkP (mchF v st xs).table ((mchF v st xs).outs.getD k 0) (j + 1) = _
  by_cases e : j + 1 < (smF xs).getD k 0
  · exact mch_at h hk e
  · have e2 : j + 1 = (smF xs).getD k 0 := by omega
    rw [e2, mch_end h hk, snx_end _ (by rw [length_mnF])]
theorem mn_lt (h : Ok xs) (hk : k < xs.length) {j : Nat} (hj : j < (smF xs).getD k 0) : snx (mnF st xs k) j < miF xs := by
  rw [snx_in _ (by rw [length_mnF]; exact hj), mnF_at hj]
  refine getD_lt (mixedF_lt _ _) ?_
  have h2 := sum_take_succ (smF xs) k (by simpa [smF] using hk)
  simp [mplF, miF]; omega
theorem tabF_at {t : List Nat} {i : Nat} (hi : i < t.length) : Holds (4 * t.length) (4 * i) (le (t.getD i 0) 4) (tabF t) := by
  unfold tabF tabTo
  have := iter_make (P := fun l => Holds (4 * t.length) (0 + 4 * i) (le (t.getD i 0) 4) l) (I := fun l => l.length = 4 * t.length) (fun j l => putF (0 + 4 * j) (t.getD j 0) 4 l) i t.length (List.replicate (4 * t.length) 0) hi (by simp)
    (fun q l' hq h' => by rw [length_putF (by omega)]; exact h') (fun l' h' => put_self h' (by omega)) (fun q l' h1 h2 h' => put_other h' (.inl (by rw [length_le]; omega)) (by omega))
  rw [Nat.zero_add] at this
  exact this
/-- What the small table tells, in the file. -/
theorem mini_next (h : Ok xs) (hn : ∀ x ∈ xs, x.name.length ≤ 31) (hk : k < xs.length) {j o : Nat} (hj : j < (smF xs).getD k 0) (ho : o = (snx (snF v st xs 1) (snx (mnF st xs k) j / (sizeF v / 4)) + 1) * sizeF v + snx (mnF st xs k) j % (sizeF v / 4) * 4) :
    snx (mnF st xs k) j / (sizeF v / 4) < (snF v st xs 1).length ∧ o + 4 ≤ NF v xs ∧ num (((writeF v st xs).drop o).take 4) = snx (mnF st xs k) (j + 1) := by
  have hz := size_ge v
  have hp4 := per4 v
  have hp : sizeF v / 4 = perF v := rfl
  have hm := mfF_le (v := v) h
  have hml := mn_lt (st := st) h hk hj
  have hlm := length_mch (v := v) (st := st) h
  rw [hp] at ho ⊢
  obtain ⟨mp, hmp⟩ : ∃ mp, mp = snx (mnF st xs k) j := ⟨_, rfl⟩
  have hnx := mn_next (v := v) (st := st) h hk hj
  rw [← hmp] at ho hml hnx ⊢
  obtain ⟨q, hq⟩ : ∃ q, q = mp / perF v := ⟨_, rfl⟩
  obtain ⟨r, hr⟩ : ∃ r, r = mp % perF v := ⟨_, rfl⟩
  have hqr : q * perF v + r = mp := by rw [hq, hr, Nat.mul_comm]; exact Nat.div_add_mod _ _
  have hrl : r < perF v := by rw [hr]; exact Nat.mod_lt _ (by omega)
  rw [← hq, ← hr] at ho
  have hq1 : q < mfF v xs := by rw [hq]; exact (Nat.div_lt_iff_lt_mul (by omega)).2 (by omega)
  have hq2 : q < (csF v xs).getD 1 0 := hq1
  have hqs : q < (snF v st xs 1).length := by rw [length_snF]; exact hq2
  have h1 := write_mtab (v := v) (st := st) h hn hq1
  have h2 := tabF_at (t := (mchF v st xs).table) (i := mp) (by rw [hlm.1]; omega)
  have h3 : Holds (sizeF v) (r * 4) (le ((mchF v st xs).table.getD mp 0) 4) (((tabF (mchF v st xs).table).drop (q * sizeF v)).take (sizeF v)) := by
    refine h2.window' (a := q * sizeF v) ?_ (by rw [length_le]; omega) ?_
    · rw [← hp4, ← hqr]; rw [Nat.mul_add, Nat.mul_left_comm, Nat.mul_comm r]
    · rw [hlm.1, ← hp4, ← Nat.mul_left_comm]
      have := Nat.mul_le_mul_right (perF v) (show q + 1 ≤ mfF v xs by omega)
      rw [Nat.succ_mul] at this
      omega
  have h4 := h1.sub (a := r * 4) (b := 4) (by rw [h3.len]; omega)
  rw [h3.cut' (n := 4) (length_le _ _), hnx] at h4
  have e1 : seF v st xs (ixF v xs 1 q) = (snx (snF v st xs 1) q + 1) * sizeF v := by
    rw [snx_in _ hqs, snF_at hq2]; unfold seF; rw [Nat.mul_comm, Nat.add_comm 1]
  rw [e1, ← ho] at h4
  refine ⟨by rw [← hq]; exact hqs, by have := h4.fit; rw [length_le] at this; exact this, h4.num ?_⟩
  have e4 : (256 : Nat) ^ 4 = 4294967296 := rfl
  by_cases e : j + 1 < (smF xs).getD k 0
  · have := mn_lt (st := st) h hk e
    have := miF_le h
    omega
  · rw [snx_end _ (by rw [length_mnF]; omega)]; decide
/-- Small parts lie in the small stream's sectors. -/
theorem mini_sec (h : Ok xs) (hk : k < xs.length) {j : Nat} (hj : j < (smF xs).getD k 0) : snx (mnF st xs k) j / (sizeF v / 64) < (csF v xs).getD 2 0 := by
  have hz := size_ge v
  have hml := mn_lt (st := st) h hk hj
  rw [cs_2, lt_partsF (by omega)]
  have h1 := Nat.div_mul_le_self (snx (mnF st xs k) j) (sizeF v / 64)
  have h2 : sizeF v / 64 * 64 = sizeF v := by rcases sizeF_or v with e | e <;> rw [e]
  have h3 : snx (mnF st xs k) j / (sizeF v / 64) * sizeF v = snx (mnF st xs k) j / (sizeF v / 64) * (sizeF v / 64) * 64 := by rw [Nat.mul_assoc, h2]
  rw [h3]
  omega
theorem of_mini (h : Ok xs) (hk : k < xs.length) (hl : (dtF xs k).length < 4096) {j : Nat} (hj : j < (smF xs).getD k 0) : ofF v st xs k j = seF v st xs (ixF v xs 2 (snx (mnF st xs k) j / (sizeF v / 64))) + snx (mnF st xs k) j % (sizeF v / 64) * 64 := by
  have h1 := mini_sec (v := v) (st := st) h hk hj
  unfold ofF
  rw [if_pos hl, snx_in (snF v st xs 2) (by rw [length_snF]; exact h1), snF_at h1]
  unfold seF; rw [Nat.mul_comm (sizeF v), Nat.add_comm 1]
theorem of_large (hl : ¬ (dtF xs k).length < 4096) {j : Nat} (hj : j < (csF v xs).getD (3 + k) 0) : ofF v st xs k j = seF v st xs (ixF v xs (3 + k) j) := by
  unfold ofF
  rw [if_neg hl, snx_in _ (by rw [length_snF]; exact hj), snF_at hj]
  unfold seF; rw [Nat.mul_comm (sizeF v), Nat.add_comm 1]
/-- Parts of the small stream, in its chains. -/
theorem mpl_ne {k' j j' : Nat} (hk : k < xs.length) (hk' : k' < xs.length) (hj : j < (smF xs).getD k 0) (hj' : j' < (smF xs).getD k' 0) (e : snx (mnF st xs k) j = snx (mnF st xs k') j') : k = k' ∧ j = j' := by
  rw [snx_in _ (by rw [length_mnF]; exact hj), mnF_at hj, snx_in _ (by rw [length_mnF]; exact hj'), mnF_at hj'] at e
  have hl : (smF xs).length = xs.length := by simp [smF]
  have h1 := sum_take_succ (smF xs) k (by omega)
  have h2 := sum_take_succ (smF xs) k' (by omega)
  have h3 : (mplF st xs).length = (smF xs).sum := by simp [mplF, miF]
  have e2 := nodup_getD (pl := mplF st xs) (mixedF_nodup _ _) (by rw [h3]; omega) (by rw [h3]; omega) e
  rcases Nat.lt_trichotomy k k' with h | h | h
  · have := take_mono (smF xs) h (by omega); omega
  · subst h; exact ⟨rfl, by omega⟩
  · have := take_mono (smF xs) h (by omega); omega
/-- What stands in the small stream. -/
theorem nTo_mini (h : Ok xs) (hn : ∀ x ∈ xs, x.name.length ≤ 31) (hk : k < xs.length) (hk0 : k ≠ 0) (hs : (xs.getD k default).stream = true) (hl : (dtF xs k).length < 4096) {j : Nat} (hj : j < (smF xs).getD k 0) : ∀ m, k < m → m ≤ xs.length →
    Holds (64 * miF xs) (64 * snx (mnF st xs k) j) (((dtF xs k).drop (j * 64)).take 64) (nTo v st xs m).2.1 := by
  intro m
  have fits : ∀ k' j', k' < xs.length → j' < (smF xs).getD k' 0 → 64 * walkP (mchF v st xs).table ((mchF v st xs).outs.getD k' 0) j' + 64 ≤ 64 * miF xs := fun k' j' h1 h2 => by
    rw [mch_at h h1 h2]; have := mn_lt (st := st) h h1 h2; omega
  induction m with
  | zero => intro h; omega
  | succ m ih =>
    intro h1 h2
    have hlen := (nTo_len (v := v) (st := st) h hn (show m ≤ xs.length by omega)).2.1
    rw [nTo_small]
    by_cases e : m = k
    · subst e
      rw [if_pos ⟨hk0, hs, hl⟩]
      have hc := sm_count hk hs hl
      have := fill0To_self (mt := (mchF v st xs).table) (start := (mchF v st xs).outs.getD m 0) (data := dtF xs m) hlen (j := j) ((smF xs).getD m 0) hj (fun a b ha hb e => by
        rw [mch_at h hk ha, mch_at h hk hb] at e
        exact (mpl_ne hk hk ha hb e).2) (fun a ha => fits m a hk ha)
      rw [mch_at h hk hj] at this
      unfold fill0F
      rw [← hc]; exact this
    · split
      · rename_i hc
        have hc2 := sm_count (show m < xs.length by omega) hc.2.1 hc.2.2
        refine fill0To_other (ih (by omega) (by omega)) _ (fun a ha => ?_) (fun a ha => fits m a (by omega) (by rw [hc2]; exact ha))
        have ha' : a < (smF xs).getD m 0 := by rw [hc2]; exact ha
        rw [mch_at h (by omega) ha']
        have hne : snx (mnF st xs k) j ≠ snx (mnF st xs m) a := fun e2 => e (mpl_ne hk (by omega) hj ha' e2).1.symm
        have hcl := chunk_le (dtF xs k) (j * 64) 64
        omega
      · exact ih (by omega) (by omega)
/-- The file holds a node's bytes. -/
theorem write_mini (h : Ok xs) (hn : ∀ x ∈ xs, x.name.length ≤ 31) (hk : k < xs.length) (hk0 : k ≠ 0) (hs : (xs.getD k default).stream = true) (hl : (dtF xs k).length < 4096) {j : Nat} (hj : j < (smF xs).getD k 0) :
    Holds (NF v xs) (ofF v st xs k j) (((dtF xs k).drop (j * 64)).take 64) (writeF v st xs) := by
  have hz := size_ge v
  have hml := mn_lt (st := st) h hk hj
  have h1 := nTo_mini (v := v) (st := st) h hn hk hk0 hs hl hj xs.length hk (Nat.le_refl _)
  rw [nTo_all] at h1
  obtain ⟨mp, hmp⟩ : ∃ mp, mp = snx (mnF st xs k) j := ⟨_, rfl⟩
  have hsec := mini_sec (v := v) (st := st) h hk hj
  rw [of_mini h hk hl hj]
  rw [← hmp] at h1 hml hsec ⊢
  obtain ⟨p, hp⟩ : ∃ p, p = sizeF v / 64 := ⟨_, rfl⟩
  have hp64 : p * 64 = sizeF v := by rw [hp]; rcases sizeF_or v with e | e <;> rw [e]
  rw [← hp] at hsec ⊢
  obtain ⟨q, hq⟩ : ∃ q, q = mp / p := ⟨_, rfl⟩
  obtain ⟨r, hr⟩ : ∃ r, r = mp % p := ⟨_, rfl⟩
  have hqr : q * p + r = mp := by rw [hq, hr, Nat.mul_comm]; exact Nat.div_add_mod _ _
  have hrl : r < p := by rw [hr]; exact Nat.mod_lt _ (by omega)
  rw [← hq] at hsec ⊢
  rw [← hr]
  have hcl := chunk_le (dtF xs k) (j * 64) 64
  have eq1 : q * sizeF v = q * p * 64 := by rw [← hp64, Nat.mul_assoc]
  have h2 := write_small (v := v) (st := st) h hn (j := q) (by rw [eq1]; omega)
  have hlen := (nTo_len (v := v) (st := st) h hn (Nat.le_refl _)).2.1
  rw [nTo_all] at hlen
  have hcut : ((((ndsF v st xs).2.1.drop (q * sizeF v)).take (sizeF v)).drop (r * 64)).take ((((dtF xs k).drop (j * 64)).take 64).length) = ((dtF xs k).drop (j * 64)).take 64 := by
    rw [List.drop_take, List.drop_drop, List.take_take, Nat.min_eq_left (by omega)]
    have := h1.cut
    rw [← this]
    congr 2
    rw [eq1]; omega
  have h3 := h2.sub (a := r * 64) (b := (((dtF xs k).drop (j * 64)).take 64).length) (by
    have h5 := h1.fit
    rw [List.length_take (l := List.drop (q * sizeF v) _), List.length_drop (l := (ndsF v st xs).2.1), hlen, eq1]
    omega)
  rw [hcut] at h3
  exact h3
theorem dat (h : Ok xs) (hn : ∀ x ∈ xs, x.name.length ≤ 31) (hk : k < xs.length) (hk0 : k ≠ 0) (hs : (xs.getD k default).stream = true) : Dat (adF v st xs k) (writeF v st xs) (dtF xs k) := by
  intro i hi
  have hu := uF_or (v := v) (xs := xs) (k := k)
  have hup : 0 < uF v xs k := by omega
  have hin := in_cnF (v := v) (st := st) hk hs hi
  have hm := Nat.mod_lt i hup
  have hdm : i / uF v xs k * uF v xs k + i % uF v xs k = i := by rw [Nat.mul_comm]; exact Nat.div_add_mod _ _
  have key : Holds (NF v xs) (ofF v st xs k (i / uF v xs k)) (((dtF xs k).drop (i / uF v xs k * uF v xs k)).take (uF v xs k)) (writeF v st xs) := by
    by_cases hl : (dtF xs k).length < 4096
    · have eu : uF v xs k = 64 := by unfold uF; rw [if_pos hl]
      unfold cnF at hin
      rw [if_pos hl, length_mnF] at hin
      rw [eu] at hin ⊢
      exact write_mini h hn hk hk0 hs hl hin
    · have eu : uF v xs k = sizeF v := by unfold uF; rw [if_neg hl]
      unfold cnF at hin
      rw [if_neg hl, length_snF] at hin
      rw [eu] at hin hdm hm ⊢
      rw [of_large hl hin]
      exact write_large h hn hk hk0 hs hl (show i / sizeF v * sizeF v < (dtF xs k).length by omega)
  have hlen : i % uF v xs k < (((dtF xs k).drop (i / uF v xs k * uF v xs k)).take (uF v xs k)).length := by
    rw [List.length_take, List.length_drop]; omega
  have h1 := key.at_ (i % uF v xs k) hlen
  rw [chunk_at' _ _ _ _ hm, hdm] at h1
  exact h1
end

/-! Plain: bytes are written into a stream of the file that Write makes: it is the file of the stream with these bytes. No program in sight. -/
/-- A node's bytes are others. -/
def setD (xs : List Nd) (k : Nat) (D : List UInt8) : List Nd := xs.set k { xs.getD k default with data := D }
section
variable {v st : Nat} {xs : List Nd} {k : Nat} {D : List UInt8}
theorem map_set (f : Nd → Nat) (hk : k < xs.length) (hf : f { xs.getD k default with data := D } = f (xs.getD k default)) : (setD xs k D).map f = xs.map f := by
  unfold setD
  rw [List.map_set, hf]
  apply List.ext_getElem?
  intro i
  by_cases e : i = k
  · subst e
    rw [List.getElem?_set_self (by simpa using hk), List.getElem?_map, List.getElem?_eq_getElem hk]
    simp [List.getD_eq_getElem?_getD, hk]
  · rw [List.getElem?_set_ne (by omega)]
end

/-! A stream of the file that Write makes, as a reader that has been opened holds it. -/
theorem Ct.inside {P : Program} {f : FuncId} {args : List Value} {pre H : Heap} {R : Value → Prop} (h : Ct P f args pre (fun v q => R v ∧ q = pre)) (hp : ∃ G, Pick H pre G) : Ct P f args H (fun v q => R v ∧ q = H) := by
  obtain ⟨G, hp⟩ := hp
  exact h.conseq hp.perm (by rintro v post ⟨hR, rfl⟩; exact ⟨H, ⟨hR, rfl⟩, hp.perm.symm⟩)
/-- The stream of a node. -/
def Rdr.src (R : Rdr) (f : Fil) (Z : Heap) (v st : Nat) (xs : List Nd) (k : Nat) : Src :=
  { bf := f.bf, bd := f.bd, br := R.br, ini := f.en.ini, ss := sizeF v, u := uF v xs k, size := (dtF xs k).length, nm := f.en.nm, path := f.en.path, rd := R.cells,
    G := (R.bh, blk R.hcells 137) :: (R.bhf, blk R.hc 142) :: (R.bs, blk [.slice (some ⟨R.bB, 0, none⟩) R.N R.cN] 103) :: (R.bB, blk (bys R.B ++ R.rB) 5) :: (f.bd, blk f.en.dc 112) :: (R.X ++ Z),
    cs := cnF v st xs k, of_ := ofF v st xs k, mini := decide ((dtF xs k).length < 4096) }
/-- What is asked of the reader, that it holds the file of the nodes xs. -/
structure Rdr.Of (R : Rdr) (v st : Nat) (xs : List Nd) : Prop where
  ok : Cfb.Ok xs
  nm : ∀ x ∈ xs, x.name.length ≤ 31
  B : R.B = writeF v st xs
  N : R.N = NF v xs
  cN : R.N ≤ R.cN
  ss : R.ss = sizeF v
  mi : MiniOk (miniF v st xs) R.m1 R.m2 R.X
  hc : R.hc = hcF ((R.B.drop 0).take 512) 109
section
variable {R : Rdr} {f : Fil} {Z : Heap} {v st : Nat} {xs : List Nd} {k : Nat}
theorem in_part {i u len : Nat} (hu : 0 < u) (h : i * u < len) : i < partsF len u := (lt_partsF hu).2 h
theorem src_ok (h : R.Of v st xs) (hk : k < xs.length) (hk0 : k ≠ 0) (hs : (xs.getD k default).stream = true) (hpos : 0 < (dtF xs k).length) : (R.src f Z v st xs k).Ok := by
  have hB := h.B
  have hN := h.N
  have hcN := h.cN
  have hss := h.ss
  have hz := size_ge v
  have hNF := NF_le (v := v) h.ok
  have hlen : R.B.length = R.N := by rw [hB, hN]; exact length_writeF h.ok h.nm
  have h9 : (dtF xs k).length ≤ 9000 := small_at h.ok hk
  have hu := uF_or (v := v) (xs := xs) (k := k)
  have rd1 : R.cells[1]? = some (uv (sizeF v)) := by rw [← hss]; rfl
  have hlc := length_cnF (v := v) (st := st) hk hs
  have inC : ∀ j, j * uF v xs k < (dtF xs k).length → j < (cnF v st xs k).length := fun j hj => by rw [hlc]; exact in_part (by omega) hj
  by_cases hl : (dtF xs k).length < 4096
  · have eu : uF v xs k = 64 := by unfold uF; rw [if_pos hl]
    have ec : cnF v st xs k = mnF st xs k := by unfold cnF; rw [if_pos hl]
    have inM : ∀ j, j * uF v xs k < (dtF xs k).length → j < (smF xs).getD k 0 := fun j hj => by have := inC j hj; rwa [ec, length_mnF] at this
    have hm0 : miF xs ≠ 0 := by
      have h1 := inM 0 (by omega)
      have h2 := sum_take_succ (smF xs) k (by simpa [smF] using hk)
      unfold miF; omega
    have hmi := h.mi
    unfold miniF at hmi
    rw [if_neg hm0] at hmi
    obtain ⟨bm1, Tl, g2, cap2, r2, t1, t2, t3, t4, t5, t6⟩ := hmi
    have ht1 : ∀ q, q < (snF v st xs 1).length → Tl[q]? = some (uv (snx (snF v st xs 1) q)) := t2
    have c1 := chainOk (st := st) h.ok h.nm (show 1 < xs.length + 3 by omega) (v := v)
    have c2 := chainOk (st := st) h.ok h.nm (show 2 < xs.length + 3 by omega) (v := v)
    have hmi2 := miF_le h.ok
    refine ⟨.inl ⟨by simp [Rdr.src, hl], hl, eu⟩, rd1, hz, by show (dtF xs k).length ≤ _; omega, fun j hj => ?_, fun j hj => ?_, fun j hj => ?_, fun j hj => ?_⟩
    · show snx (cnF v st xs k) j ≤ _
      rw [ec]
      have := mn_lt (st := st) h.ok hk (inM j hj)
      omega
    · show ofF v st xs k j ≤ _
      unfold ofF
      rw [if_pos hl]
      have h1 := mini_sec (v := v) (st := st) h.ok hk (inM j hj)
      have h2 := c2.small (snx (mnF st xs k) j / (sizeF v / 64)) (by rw [length_snF]; exact h1)
      have h3 := c2.fit (snx (mnF st xs k) j / (sizeF v / 64)) (by rw [length_snF]; exact h1)
      have h4 := Nat.mod_lt (snx (mnF st xs k) j) (show 0 < sizeF v / 64 by omega)
      omega
    · have hj' := inM j hj
      obtain ⟨n1, n2, n3⟩ := mini_next (v := v) (st := st) h.ok h.nm hk hj' rfl
      have n4 := c1.small _ n1
      have hml := mn_lt (st := st) h.ok hk hj'
      have hl1 : (snF v st xs 1).length ≤ 10 := by rw [length_snF, cs_1]; exact (mfF_le (v := v) h.ok).1
      have hct := findNextM_ct R.br R.bh bm1 R.bs R.bB (sizeF v) (snx (mnF st xs k) j) (snx (snF v st xs 1) (snx (mnF st xs k) j / (sizeF v / 4))) 0 (snF v st xs 1).length (snF v st xs 1).length _ R.N R.cN R.B R.rB R.cells R.hcells Tl 67 rd1 rfl rfl (by rw [← t4]; rfl)
        (by rw [Nat.zero_add]; exact ht1 _ n1) n1 (by omega) hz (by omega) n4 rfl (by rw [hN]; exact n2) hlen hcN (by omega)
      rw [hB, n3] at hct
      show Ct Tryd.prog 60 [pv R.br, uv (snx (cnF v st xs k) j), .bool (decide ((dtF xs k).length < 4096))] _ (fun v' q => v' = .tuple #[uv (snx (cnF v st xs k) (j + 1)), .nilIface] ∧ _)
      rw [ec, decide_eq_true hl]
      refine Ct.inside hct ?_
      show ∃ G, Pick ((R.br, blk R.cells 89) :: (R.bh, blk R.hcells 137) :: (R.bhf, blk R.hc 142) :: (R.bs, blk [.slice (some ⟨R.bB, 0, none⟩) R.N R.cN] 103) :: (R.bB, blk (bys R.B ++ R.rB) 5) :: (f.bd, blk f.en.dc 112) :: (R.X ++ Z)) _ G
      rw [t6, hB]
      exact ⟨_, Pick.cons (.here _ _) (Pick.cons (.here _ _) (Pick.cons (.there _ (.there _ (.there _ (.there _ (.here _ _))))) (Pick.cons (.there _ (.here _ _)) (Pick.cons (.there _ (.here _ _)) (Pick.nil _)))))⟩
    · have hj' := inM j hj
      have h1 := mini_sec (v := v) (st := st) h.ok hk hj'
      have h2 := c2.small (snx (mnF st xs k) j / (sizeF v / 64)) (by rw [length_snF]; exact h1)
      have hml := mn_lt (st := st) h.ok hk hj'
      have hl2 : (snF v st xs 2).length ≤ 160 := by rw [length_snF, cs_2]; exact cs2_le (v := v) h.ok
      have hat : (u32s (snF v st xs 2) ++ r2)[snx (mnF st xs k) j / (sizeF v / 64)]? = some (uv (snx (snF v st xs 2) (snx (mnF st xs k) j / (sizeF v / 64)))) := by
        rw [List.getElem?_append_left (by simp [length_snF]; exact h1), snx_in (snF v st xs 2) (by rw [length_snF]; exact h1)]
        exact at_u32s (by rw [length_snF]; exact h1) rfl
      have hct := getOffsetM_ct R.br R.bh g2 (sizeF v) (snx (mnF st xs k) j) (snx (snF v st xs 2) (snx (mnF st xs k) j / (sizeF v / 64))) (snF v st xs 2).length cap2 R.cells R.hcells (u32s (snF v st xs 2) ++ r2) 67 rd1 rfl (by rw [← t5]; rfl) hat
        (by rw [length_snF]; exact h1) (by omega) hz (by omega) h2
      show Ct Tryd.prog 62 [pv R.br, uv (snx (cnF v st xs k) j), .bool (decide ((dtF xs k).length < 4096))] _ (fun v' q => v' = .tuple #[nv (ofF v st xs k j), .nilIface] ∧ _)
      unfold ofF
      rw [ec, decide_eq_true hl, if_pos hl]
      refine Ct.inside hct ?_
      show ∃ G, Pick ((R.br, blk R.cells 89) :: (R.bh, blk R.hcells 137) :: (R.bhf, blk R.hc 142) :: (R.bs, blk [.slice (some ⟨R.bB, 0, none⟩) R.N R.cN] 103) :: (R.bB, blk (bys R.B ++ R.rB) 5) :: (f.bd, blk f.en.dc 112) :: (R.X ++ Z)) _ G
      rw [t6]
      exact ⟨_, Pick.cons (.here _ _) (Pick.cons (.here _ _) (Pick.cons (.there _ (.there _ (.there _ (.there _ (.there _ (.here _ _)))))) (Pick.nil _)))⟩
  · have eu : uF v xs k = sizeF v := by unfold uF; rw [if_neg hl]
    have ec : cnF v st xs k = snF v st xs (3 + k) := by unfold cnF; rw [if_neg hl]
    have inL : ∀ j, j * uF v xs k < (dtF xs k).length → j < (snF v st xs (3 + k)).length := fun j hj => by have := inC j hj; rwa [ec] at this
    have c3 := chainOk (st := st) h.ok h.nm (show 3 + k < xs.length + 3 by omega) (v := v)
    refine ⟨.inr ⟨by simp [Rdr.src, hl], by show 4096 ≤ (dtF xs k).length; omega, eu⟩, rd1, hz, by show (dtF xs k).length ≤ _; omega, fun j hj => ?_, fun j hj => ?_, fun j hj => ?_, fun j hj => ?_⟩
    · show snx (cnF v st xs k) j ≤ _
      rw [ec]; exact c3.small j (inL j hj)
    · show ofF v st xs k j ≤ _
      unfold ofF
      rw [if_neg hl]
      have := c3.fit j (inL j hj)
      omega
    · obtain ⟨sect, o, n1, n2, n3, n4, n5, n6⟩ := c3.next j (inL j hj)
      have n7 := c3.small j (inL j hj)
      have hct := findNext_ct R.br R.bh R.bhf R.bs R.bB (sizeF v) (snx (snF v st xs (3 + k)) j) sect 45 109 109 o R.N R.cN R.B R.rB R.cells R.hcells R.hc 142 rd1 rfl rfl rfl (by rw [h.hc, hB]; exact n1) n2 (by omega) hz (by omega) n3 n4 (by rw [hN]; exact n5) hlen hcN (by omega)
      rw [hB, n6] at hct
      show Ct Tryd.prog 60 [pv R.br, uv (snx (cnF v st xs k) j), .bool (decide ((dtF xs k).length < 4096))] _ (fun v' q => v' = .tuple #[uv (snx (cnF v st xs k) (j + 1)), .nilIface] ∧ _)
      rw [ec, decide_eq_false hl]
      refine Ct.inside hct ?_
      show ∃ G, Pick ((R.br, blk R.cells 89) :: (R.bh, blk R.hcells 137) :: (R.bhf, blk R.hc 142) :: (R.bs, blk [.slice (some ⟨R.bB, 0, none⟩) R.N R.cN] 103) :: (R.bB, blk (bys R.B ++ R.rB) 5) :: (f.bd, blk f.en.dc 112) :: (R.X ++ Z)) _ G
      rw [hB]
      exact ⟨_, Pick.cons (.here _ _) (Pick.cons (.here _ _) (Pick.cons (.here _ _) (Pick.cons (.here _ _) (Pick.cons (.here _ _) (Pick.nil _)))))⟩
    · have n7 := c3.small j (inL j hj)
      have hct := getOffsetL_ct R.br (sizeF v) (snx (snF v st xs (3 + k)) j) R.cells rd1 hz n7
      show Ct Tryd.prog 62 [pv R.br, uv (snx (cnF v st xs k) j), .bool (decide ((dtF xs k).length < 4096))] _ (fun v' q => v' = .tuple #[nv (ofF v st xs k j), .nilIface] ∧ _)
      unfold ofF
      rw [ec, decide_eq_false hl, if_neg hl]
      exact Ct.inside hct ⟨_, Pick.cons (.here _ _) (Pick.nil _)⟩
theorem src_rd (h : R.Of v st xs) : (R.src f Z v st xs k).Rd R.bs (NF v xs) (writeF v st xs) := by
  have hB := h.B
  have hN := h.N
  have hNF := NF_le (v := v) h.ok
  have hlen : R.B.length = R.N := by rw [hB, hN]; exact length_writeF h.ok h.nm
  refine ⟨rfl, length_writeF h.ok h.nm, fun bp o m c off lp T h0 h1 h2 => ?_⟩
  have hct := storeReadAt_ct R.bs R.bB bp o m c R.N R.cN off R.B R.rB lp T hlen h.cN (by omega) h0 (by omega) h2
  have P1 : ∀ (x a b c d e : Nat × Obj) (H : Heap), (x :: a :: b :: c :: d :: e :: H).Perm ([c, d, x] ++ (a :: b :: e :: H)) := by
    intro x a b c d e H
    exact Pick.perm (Pick.cons (.there _ (.there _ (.there _ (.here _ _)))) (Pick.cons (.there _ (.there _ (.there _ (.here _ _)))) (Pick.cons (.here _ _) (Pick.nil _))))
  refine hct.conseq (P1 _ _ _ _ _ _ _) ?_
  rintro v' post ⟨rfl, rfl⟩
  rw [← hB]
  exact ⟨_, ⟨rfl, rfl⟩, (P1 _ _ _ _ _ _ _).symm⟩
/-- A reader's blocks, those of a stream ahead. -/
theorem src_split (hf : R.fs[k]? = some f) : ∃ Z, (2, blk R.ps R.T) ∈ Z ∧ (R.bo, blk (outs R.bfs R.out ++ R.ro) 90) ∈ Z ∧ ∀ v st xs i, R.H.Perm (enB R.br f.bf f.bd f.en :: (R.src f Z v st xs i).rb :: (R.src f Z v st xs i).G) := by
  obtain ⟨G1, hG⟩ := filsH_split (br := R.br) hf
  refine ⟨(R.bb, blk R.lb 5) :: (2, blk R.ps R.T) :: (R.g, blk (R.bfs.map pv ++ R.rn) 90) :: (R.bo, blk (outs R.bfs R.out ++ R.ro) 90) :: (G1 ++ psH R.pth), List.mem_cons_of_mem _ (List.mem_cons_self ..), List.mem_cons_of_mem _ (List.mem_cons_of_mem _ (List.mem_cons_of_mem _ (List.mem_cons_self ..))), fun v st xs i => ?_⟩
  unfold Rdr.H Rdr.src Src.rb
  generalize (R.br, blk R.cells 89) = a1
  generalize (R.bh, blk R.hcells 137) = a2
  generalize (R.bhf, blk R.hc 142) = a3
  generalize (R.bb, blk R.lb 5) = a4
  generalize (R.bs, blk [Value.slice (some ⟨R.bB, 0, none⟩) R.N R.cN] 103) = a5
  generalize (R.bB, blk (bys R.B ++ R.rB) 5) = a6
  generalize (2, blk R.ps R.T) = a7
  generalize (R.g, blk (R.bfs.map pv ++ R.rn) 90) = a8
  generalize (R.bo, blk (outs R.bfs R.out ++ R.ro) 90) = a9
  generalize (f.bd, blk f.en.dc 112) = b1 at hG
  generalize enB R.br f.bf f.bd f.en = b2 at hG
  have h1 : (filsH R.br R.fs ++ (psH R.pth ++ R.X)).Perm (b2 :: b1 :: (G1 ++ (psH R.pth ++ R.X))) := hG.append_right _
  have h2 : (G1 ++ (psH R.pth ++ R.X)).Perm (R.X ++ (G1 ++ psH R.pth)) := by rw [← List.append_assoc]; exact List.perm_append_comm
  have h3 : ([a1, a2, a3, a4, a5, a6, a7, a8, a9] ++ (filsH R.br R.fs ++ (psH R.pth ++ R.X))).Perm ([a1, a2, a3, a4, a5, a6, a7, a8, a9] ++ (b2 :: b1 :: (R.X ++ (G1 ++ psH R.pth)))) := (h1.trans ((h2.cons _).cons _)).append_left _
  refine h3.trans ?_
  have h4 : (R.X ++ (a4 :: a7 :: a8 :: a9 :: (G1 ++ psH R.pth))).Perm (a4 :: a7 :: a8 :: a9 :: (R.X ++ (G1 ++ psH R.pth))) := perm_front R.X [a4, a7, a8, a9] (G1 ++ psH R.pth)
  refine List.Perm.trans ?_ ((((((((h4.symm).cons b1).cons a6).cons a5).cons a3).cons a2).cons a1).cons b2)
  refine Prm.perm ?_
  show Prm (a1 :: a2 :: a3 :: a4 :: a5 :: a6 :: a7 :: a8 :: a9 :: b2 :: b1 :: (R.X ++ (G1 ++ psH R.pth))) _
  repeat (first | exact Prm.nil _ | exact Rem.here _ _ | apply Rem.there | apply Prm.cons)
end

/-! Steps that read a stream and seek in it, one behind the other. -/
/-- A slice of bytes, from its block's start. -/
def Sl (H : Heap) (v : Value) (d : List UInt8) : Prop := (d = [] ∧ v = .slice none 0 0) ∨ ∃ b cap rx, v = .slice (some ⟨b, 0, none⟩) d.length cap ∧ (b, blk (bys d ++ rx) 5) ∈ H
theorem Sl.more {H H' : Heap} {v : Value} {d : List UInt8} (h : Sl H v d) (hs : ∀ x ∈ H, x ∈ H') : Sl H' v d := h.imp id fun ⟨b, cap, rx, h1, h2⟩ => ⟨b, cap, rx, h1, hs _ h2⟩
theorem Sl.one {H : Heap} {v : Value} {d : List UInt8} (h : Sl H v d) : v.oneCell' = true := by
  rcases h with ⟨_, rfl⟩ | ⟨_, _, _, rfl, _⟩ <;> rfl
/-- S is a stream of the bytes D in a file of the bytes B. -/
structure Src.Of (S : Src) (B D : List UInt8) : Prop where
  size : D.length = S.size
  u0 : 0 < S.u
  ok : 0 < S.size → S.Ok
  rd : 0 < S.size → ∃ bs N, S.Rd bs N B
  dat : 0 < S.size → Dat S.ad B D
  bd : 0 < S.size → ∃ dc, (S.bd, blk dc 112) ∈ S.G ∧ dc[60]? = some (uv (snx S.cs 0))
/-- What a step does, and tells. -/
def Does (S : Src) (e0 : Nat × Obj) (st : List Value) (p p' : Nat) (d : List UInt8) (n c : Nat) : Prop :=
  ∀ k r, r < S.u → k * S.u + r = p → Ct Tryd.prog 37 [pv S.bf, .agg st.toArray] (S.fb p k r :: S.rb :: e0 :: S.G)
    (fun v q => ∃ k' r' dv RB, r' < S.u ∧ k' * S.u + r' = p' ∧ v = .tuple #[.agg [dv, nv n, nv c].toArray, .bool true] ∧ Sl RB dv d ∧ q = S.fb p' k' r' :: S.rb :: e0 :: (RB ++ S.G))
section
variable {S : Src} {B D : List UInt8} {U : TypeId} {u : Value} {T0 : TypeId} {fz0 : Nat × Nat}
theorem len_piece {p n : Nat} : ((D.drop p).take n).length = min n (D.length - p) := by simp
theorem take_min {p n : Nat} : (D.drop p).take (min n (D.length - p)) = (D.drop p).take n := by
  rw [List.take_eq_take_iff, List.length_drop]; omega
theorem does_read (h : S.Of B D) {p n : Nat} (hn : 0 < n) (hn2 : n ≤ 65536) (hp : p ≤ S.size) (hU : Nat.beq U 123 = false) :
    Does S (0, Obj.cells [Value.iface U u].toArray T0 fz0) [nv 0, nv n, .int .i64 0, nv 0, .slice none 0 0] p (p + min n (S.size - p)) ((D.drop p).take n) (min n (S.size - p)) (if n ≤ S.size - p then 0 else 6) := by
  intro k r hr hk
  have hsz := h.size
  by_cases hlt : p < S.size
  · obtain ⟨bs, N, hR⟩ := h.rd (by omega)
    refine (one_read S (h.ok (by omega)) bs N B hR D (h.dat (by omega)) hsz p k r hr hk hlt n (min n (S.size - p)) hn hn2 rfl U u T0 fz0 hU).mono ?_
    rintro v q ⟨k', r', h1, h2, b98, cap, rx, rfl, rfl⟩
    have e1 : (D.drop p).take (min n (S.size - p)) = (D.drop p).take n := by rw [← hsz]; exact take_min
    refine ⟨k', r', .slice (some ⟨b98, 0, none⟩) (min n (S.size - p)) cap, [(b98, blk (bys ((D.drop p).take n) ++ rx) 5)], h1, h2, rfl, .inr ⟨b98, cap, rx, ?_, List.mem_cons_self ..⟩, ?_⟩
    · rw [len_piece, hsz]
    · rw [e1]; rfl
  · have hpe : p = S.size := by omega
    have e0 : S.size - p = 0 := by omega
    have e1 : (D.drop p).take n = [] := by rw [List.drop_of_length_le (by omega)]; simp
    have hc := one_end S p k r n (by omega) hn2 U u T0 fz0 hU
    have hp : (S.fb p k r :: S.rb :: (0, Obj.cells [Value.iface U u].toArray T0 fz0) :: S.G).Perm ([S.fb p k r, (0, Obj.cells [Value.iface U u].toArray T0 fz0)] ++ (S.rb :: S.G)) := (List.Perm.swap _ _ _).cons _
    refine hc.conseq hp ?_
    rintro v post ⟨rfl, rfl⟩
    rw [e0, Nat.min_zero, Nat.add_zero, if_neg (by omega), e1]
    exact ⟨_, ⟨k, r, .slice none 0 0, [], hr, hk, rfl, .inl ⟨rfl, rfl⟩, rfl⟩, hp.symm⟩
theorem does_readAt (h : S.Of B D) {p n a : Nat} (hn : 0 < n) (hn2 : n ≤ 65536) (hp : p ≤ S.size) (ha : a < S.size) (hU : Nat.beq U 123 = false) :
    Does S (0, Obj.cells [Value.iface U u].toArray T0 fz0) [nv 2, nv n, nv a, nv 0, .slice none 0 0] p p ((D.drop a).take n) (min n (S.size - a)) (if n ≤ S.size - a then 0 else 6) := by
  intro k r hr hk
  have hsz := h.size
  obtain ⟨bs, N, hR⟩ := h.rd (by omega)
  obtain ⟨dc, hbd, hdc⟩ := h.bd (by omega)
  refine (one_readAt S (h.ok (by omega)) bs N B hR D (h.dat (by omega)) hsz p k r hr hk hp dc hbd hdc n (min n (S.size - a)) a ha hn hn2 rfl U u T0 fz0 hU).mono ?_
  rintro v q ⟨b98, cap, rx, rfl, rfl⟩
  have e1 : (D.drop a).take (min n (S.size - a)) = (D.drop a).take n := by rw [← hsz]; exact take_min
  refine ⟨k, r, .slice (some ⟨b98, 0, none⟩) (min n (S.size - a)) cap, [(b98, blk (bys ((D.drop a).take n) ++ rx) 5)], hr, hk, rfl, .inr ⟨b98, cap, rx, ?_, List.mem_cons_self ..⟩, ?_⟩
  · rw [len_piece, hsz]
  · rw [e1]; rfl
theorem does_seek (h : S.Of B D) {p to wh : Nat} {off : Int} {e0 : Nat × Obj} (hp : p ≤ S.size) (hto : to < S.size) (hw : (wh = 0 ∧ off = (to : Int)) ∨ (wh = 1 ∧ (p : Int) + off = (to : Int))) :
    Does S e0 [nv 1, nv 0, .int .i64 off, nv wh, .slice none 0 0] p to [] to 0 := by
  intro k r hr hk
  obtain ⟨dc, hbd, hdc⟩ := h.bd (by omega)
  have hp1 : (S.fb p k r :: S.rb :: e0 :: S.G).Perm ((S.fb p k r :: S.rb :: S.G) ++ [e0]) := ((List.perm_append_comm (l₁ := [e0]) (l₂ := S.G)).cons S.rb).cons (S.fb p k r)
  refine (one_seek S (h.ok (by omega)) p k r hr hk hp dc hbd hdc to wh off hto hw).conseq hp1 ?_
  rintro v post ⟨k', r', h1, h2, rfl, rfl⟩
  have hp2 : ((S.fb to k' r' :: S.rb :: S.G) ++ [e0]).Perm (S.fb to k' r' :: S.rb :: e0 :: ([] ++ S.G)) := ((List.perm_append_comm (l₁ := S.G) (l₂ := [e0])).cons S.rb).cons (S.fb to k' r')
  exact ⟨_, ⟨k', r', .slice none 0 0, [], h1, h2, rfl, .inl ⟨rfl, rfl⟩, rfl⟩, hp2⟩
end
/-- What is known after j steps. -/
structure RInv (S : Src) (e0 : Nat × Obj) (B : List UInt8) (p : Nat → Nat) (d : Nat → List UInt8) (n c : Nat → Nat) (j : Nat) (rs : List (List Value)) (B2 : List UInt8) (H : Heap) : Prop where
  hB : B2 = B
  len : rs.length = j
  at_ : ∃ k r RB, r < S.u ∧ k * S.u + r = p j ∧ H.Perm (S.fb (p j) k r :: S.rb :: e0 :: (RB ++ S.G)) ∧ ∀ i, i < j → ∃ dv, rs.getD i [] = [dv, nv (n i), nv (c i)] ∧ Sl RB dv (d i)
theorem RInv.step {S : Src} {e0 : Nat × Obj} {B : List UInt8} {p : Nat → Nat} {d : Nat → List UInt8} {n c : Nat → Nat} {j : Nat} {rs : List (List Value)} {B2 : List UInt8} {H : Heap} (h : RInv S e0 B p d n c j rs B2 H) {st : List Value} (hd : Does S e0 st (p j) (p (j + 1)) (d j) (n j) (c j)) :
    Ct Tryd.prog 37 [pv S.bf, .agg st.toArray] H (fun v q => ∃ (r : List Value) (B2 : List UInt8), v = .tuple #[.agg r.toArray, .bool true] ∧ r.length = 3 ∧ (∀ u ∈ r, u.oneCell' = true) ∧ RInv S e0 B p d n c (j + 1) (rs ++ [r]) B2 q) := by
  obtain ⟨k, r, RB, h1, h2, h3, h4⟩ := h.at_
  have hl := h.len
  have hp1 : H.Perm ((S.fb (p j) k r :: S.rb :: e0 :: S.G) ++ RB) := h3.trans (((List.perm_append_comm.cons _).cons _).cons _)
  refine (hd k r h1 h2).conseq hp1 ?_
  rintro v post ⟨k', r', dv, RB1, g1, g2, rfl, g3, rfl⟩
  refine ⟨S.fb (p (j + 1)) k' r' :: S.rb :: e0 :: ((RB1 ++ RB) ++ S.G), ⟨[dv, nv (n j), nv (c j)], B, rfl, rfl, ?_, rfl, by simp [hl], k', r', RB1 ++ RB, g1, g2, .refl _, ?_⟩, ?_⟩
  · intro u hu
    simp only [List.mem_cons, List.not_mem_nil, or_false] at hu
    rcases hu with rfl | rfl | rfl
    · exact g3.one
    · rfl
    · rfl
  · intro i hi
    by_cases e : i < j
    · obtain ⟨dv', h5, h6⟩ := h4 i e
      refine ⟨dv', ?_, h6.more fun x hx => List.mem_append_right _ hx⟩
      rw [List.getD_eq_getElem?_getD, List.getElem?_append_left (by omega), ← List.getD_eq_getElem?_getD]; exact h5
    · have : i = j := by omega
      subst this
      refine ⟨dv, ?_, g3.more fun x hx => List.mem_append_left _ hx⟩
      rw [List.getD_eq_getElem?_getD, List.getElem?_append_right (by omega), hl, Nat.sub_self]; rfl
  · show (S.fb (p (j + 1)) k' r' :: S.rb :: e0 :: ((RB1 ++ S.G) ++ RB)).Perm _
    refine ((List.Perm.cons _ ?_).cons _).cons _
    rw [List.append_assoc, List.append_assoc]
    exact List.Perm.append_left _ List.perm_append_comm
/-! ### the reader's stream -/
section
variable {ps : List Value} {T : TypeId} {four : Bool} {st : Nat} {ns : List Nm} {o : List (Nat × List (List UInt8))}
theorem ROk.rdr {R : Rdr} {tn : List Tn} {es : List En} {v : Nat} {xs : List Nd} (hx : Ok xs) (hn : ∀ x ∈ xs, x.name.length ≤ 31) (hr : ROk R ps T (writeF v st xs) (NF v xs) (sizeF v) es tn (miniF v st xs)) : R.Of v st xs := by
  obtain ⟨er, hok⟩ := hr.ok
  exact ⟨hx, hn, hr.hB, hr.hN, by rw [hr.hN]; exact hr.hcN, hr.hss, hok.mini, hok.hc⟩
theorem st_start {v : Nat} {xs : List Nd} (hx : Ok xs) {k : Nat} (hk : k < xs.length) (hk0 : k ≠ 0) (hs : (xs.getD k default).stream = true) : stF v st xs k = snx (cnF v st xs k) 0 := by
  unfold stF cnF
  rw [if_neg hk0, if_pos hs]
  by_cases hl : (dtF xs k).length < 4096
  · rw [if_pos hl, if_pos hl]
    by_cases h0 : 0 < (smF xs).getD k 0
    · exact mch_at hx hk h0
    · have e0 : (smF xs).getD k 0 = 0 := by omega
      have := mch_end (v := v) (st := st) hx hk
      rw [e0] at this
      rw [snx_end _ (by rw [length_mnF]; omega)]
      exact this
  · rw [if_neg hl, if_neg hl, out_start hx (by omega)]
    have hz := size_ge v
    have hc : 0 < (csF v xs).getD (3 + k) 0 := by
      rw [← parts_large hk hs hl]
      exact in_part (by omega) (show 0 * sizeF v < (dtF xs k).length by omega)
    rw [if_neg (by omega), snx_in _ (by rw [length_snF]; exact hc), snF_at hc]
/-- A file of the reader, as it stands when the reader has been opened. -/
theorem src_file {R : Rdr} {f : Fil} {Z : Heap} {v : Nat} {xs : List Nd} {nm : Nat → List UInt8} (hx : Ok xs) {k : Nat} (hk : k < xs.length) (hk0 : k ≠ 0) (hs : (xs.getD k default).stream = true) (he : f.en.noPath = (enF v st xs nm k).noPath) (hn : ∀ x ∈ xs, x.name.length ≤ 31) :
    enB R.br f.bf f.bd f.en = (R.src f Z v st xs k).fb 0 0 0 ∧ f.en.dc[60]? = some (uv (snx (cnF v st xs k) 0)) := by
  have e1 : (enF v st xs nm k).noPath = ⟨nm k, ((xs.getD k default).name.getD 0 0).toNat, .nilIface, (szOfN xs k : Int), 0, stF v st xs k, 0, de12F (dsecF v st xs (k / (sizeF v / 128))) (k % (sizeF v / 128) * 128)⟩ := by
    unfold enF En.noPath
    rw [if_pos hk]
  rw [e1] at he
  have n3 : f.en.size = (szOfN xs k : Int) := by have := congrArg En.size he; exact this
  have n4 : f.en.pos = 0 := by have := congrArg En.pos he; exact this
  have n5 : f.en.cur = stF v st xs k := by have := congrArg En.cur he; exact this
  have n6 : f.en.rem = 0 := by have := congrArg En.rem he; exact this
  have n7 : f.en.dc = de12F (dsecF v st xs (k / (sizeF v / 128))) (k % (sizeF v / 128) * 128) := by have := congrArg En.dc he; exact this
  have hsz : szOfN xs k = (dtF xs k).length := by
    unfold szOfN kdF lnF
    rw [if_neg hk0, if_neg hk0, if_pos hs, if_pos (show UInt8.toNat 2 = 2 from rfl), if_pos hs]
  have hst := st_start (v := v) (st := st) hx hk hk0 hs
  refine ⟨?_, ?_⟩
  · unfold enB
    rw [n3, n4, n5, n6, hsz, hst]
    rfl
  · have hz : sizeF v / 128 * 128 = sizeF v := by rcases sizeF_or v with e | e <;> rw [e]
    have hpos : 0 < sizeF v / 128 := by rcases sizeF_or v with e | e <;> rw [e] <;> omega
    have hkc : k < cntF v xs := by have := cnt_le (v := v) hx; omega
    have hj : k / (sizeF v / 128) < dsF v xs := (Nat.div_lt_iff_lt_mul hpos).2 hkc
    have hi : k % (sizeF v / 128) < sizeF v / 128 := Nat.mod_lt _ hpos
    have hkk : k = k / (sizeF v / 128) * (sizeF v / 128) + k % (sizeF v / 128) := by rw [Nat.mul_comm]; exact (Nat.div_add_mod _ _).symm
    have ha := ent_X (st := st) hx hn hj hi hkk hk
    have hX : k % (sizeF v / 128) * 128 + 128 ≤ (dsecF v st xs (k / (sizeF v / 128))).length := by unfold dsecF; rw [ha.st.len]; omega
    have p4 : (256 : Nat) ^ 4 = 4294967296 := rfl
    rw [n7, de_st _ _ hX]
    have hl := stF_lt (v := v) (st := st) hx hk
    have := ha.st.num (by omega)
    unfold dsecF
    rw [this, hst]
theorem src_of {R : Rdr} {f : Fil} {Z : Heap} {v : Nat} {xs : List Nd} (h : R.Of v st xs) {k : Nat} (hk : k < xs.length) (hk0 : k ≠ 0) (hs : (xs.getD k default).stream = true) (hdc : f.en.dc[60]? = some (uv (snx (cnF v st xs k) 0))) : (R.src f Z v st xs k).Of (writeF v st xs) (dtF xs k) := by
  refine ⟨rfl, ?_, fun h0 => src_ok h hk hk0 hs h0, fun _ => ⟨_, _, src_rd h⟩, fun _ => dat h.ok h.nm hk hk0 hs, fun _ => ⟨f.en.dc, ?_, hdc⟩⟩
  · have := uF_or (v := v) (xs := xs) (k := k)
    show 0 < uF v xs k
    omega
  · exact List.mem_cons_of_mem _ (List.mem_cons_of_mem _ (List.mem_cons_of_mem _ (List.mem_cons_of_mem _ (List.mem_cons_self ..))))
end

/-! The reader's steps over a stream: what they tell. -/
theorem Ct.cutP {P : Program} {f : FuncId} {args : List Value} {pre : Heap} {R R' : Value → Heap → Prop} (h : Ct P f args pre R) (hr : ∀ v post, R v post → ∃ post' Z, R' v post' ∧ post.Perm (post' ++ Z)) : Ct P f args pre R' := by
  intro E F w hh
  refine (h E F w hh).mono ?_
  rintro e w' ⟨v, post, he, hR, ha⟩
  obtain ⟨post', Z, h1, h2⟩ := hr v post hR
  refine ⟨v, post', he, h1, ?_⟩
  have h3 := ha.perm (List.Perm.append_right F h2)
  rw [List.append_assoc] at h3
  exact h3.sub (List.Sublist.append_left (List.sublist_append_right Z F) _)
theorem p_fin (b2 fb rb e0 P2 gI bst : Nat × Obj) (RB G O : Heap) : (b2 :: ((fb :: rb :: e0 :: (RB ++ (P2 :: G))) ++ (gI :: bst :: O))).Perm ((b2 :: P2 :: e0 :: gI :: bst :: (O ++ RB)) ++ (fb :: rb :: G)) := by
  have h1 : (RB ++ (P2 :: (G ++ (gI :: bst :: O)))).Perm (P2 :: (RB ++ (G ++ (gI :: bst :: O)))) := List.perm_middle
  have h2 : (RB ++ (G ++ (gI :: bst :: O))).Perm (gI :: bst :: (RB ++ (G ++ O))) := by
    have := perm_front (RB ++ G) [gI, bst] O
    simpa only [List.append_assoc, List.cons_append, List.nil_append] using this
  have h3 : (RB ++ (G ++ O)).Perm ((O ++ RB) ++ G) := by
    rw [← List.append_assoc, List.append_assoc O RB G]; exact List.perm_append_comm
  have h4 : ((O ++ RB) ++ (fb :: rb :: G)).Perm (fb :: rb :: ((O ++ RB) ++ G)) := perm_front (O ++ RB) [fb, rb] G
  have e1 : (b2 :: ((fb :: rb :: e0 :: (RB ++ (P2 :: G))) ++ (gI :: bst :: O))) = b2 :: fb :: rb :: e0 :: (RB ++ (P2 :: (G ++ (gI :: bst :: O)))) := by simp
  rw [e1]
  refine (((((h1.trans ((h2.trans ((h3.cons bst).cons gI)).cons P2)).cons e0).cons rb).cons fb).cons b2).trans ?_
  refine List.Perm.trans ?_ (((((h4.symm.cons bst).cons gI).cons e0).cons P2).cons b2)
  refine Prm.perm ?_
  repeat (first | exact Prm.nil _ | exact Rem.here _ _ | apply Rem.there | apply Prm.cons)
section
variable {ps : List Value} {T : TypeId} {four : Bool} {st : Nat} {ns : List Nm} {o : List (Nat × List (List UInt8))}
abbrev nmF4 (four : Bool) (ns : List Nm) : Nat := NF (verF four) (ns.map Nm.nd)
abbrev wrF4 (four : Bool) (st : Nat) (ns : List Nm) : List UInt8 := writeF (verF four) st (ns.map Nm.nd)
theorem Steps_rd (hp : PsOk ps) (h : NodesOk ns) (hk : ∀ k, k ∈ o.map Prod.fst ↔ k < ns.length) (hb : (STv (tnsF (verF four) (ns.map Nm.nd) (nmOf ns))).bad = false) (ho : (STv (tnsF (verF four) (ns.map Nm.nd) (nmOf ns))).out = o.map Prod.fst)
    (hol : o.length ≤ 1000) (hN : nmF4 four ns ≤ 131072) (gI bst n cst i kk : Nat) (hi : i < o.length) (sts : List (List Value)) (rst : List Value) (hsn : sts.length = n) (hn : n ≤ 100000) (hs5 : ∀ x ∈ sts, x.length = 5) (hs1 : ∀ x ∈ sts, ∀ u ∈ x, u.oneCell' = true)
    (hkk : (o.getD i default).1 = kk) (hkk0 : kk ≠ 0) (hstr : (ns.getD kk default).nd.stream = true) (e0 : Nat × Obj) (p : Nat → Nat) (d : Nat → List UInt8) (N c : Nat → Nat) (hp0 : p 0 = 0)
    (hdo : ∀ S : Src, S.Of (wrF4 four st ns) (ns.getD kk default).nd.data → ∀ j, j < n → Does S e0 (sts.getD j []) (p j) (p (j + 1)) (d j) (N j) (c j)) :
    Ct Tryd.prog 20 [.slice (some ⟨gI, 0, none⟩) (nmF4 four ns) (nmF4 four ns), nv i, .slice (some ⟨bst, 0, none⟩) n cst]
      [(gI, blk (bys (wrF4 four st ns)) 5), (2, blk ps T), (bst, blk (sts.flatten ++ rst) 53), e0]
      (fun v q => ∃ (g : Option Nat) (cap : Nat) (r : List Value) (rs : List (List Value)) (b2 cap2 : Nat) (r2 : List Value) (RB : Heap), v = .tuple #[osl g n cap, .slice (some ⟨b2, 0, none⟩) (nmF4 four ns) cap2, .bool true] ∧ rs.length = n ∧ oOk g rs.flatten r n cap 3 ∧
        (∀ i, i < n → ∃ dv, rs.getD i [] = [dv, nv (N i), nv (c i)] ∧ Sl RB dv (d i)) ∧
        q = (b2, blk (bys (wrF4 four st ns) ++ r2) 5) :: (2, blk ps T) :: e0 :: (gI, blk (bys (wrF4 four st ns)) 5) :: (bst, blk (sts.flatten ++ rst) 53) :: (oH g (rs.flatten ++ r) 58 ++ RB)) := by
  refine Ct.ne fun hg => ?_
  have hf := fileIn (v := verF four) (st := st) ps h.xs (verF_or four) (h.names hp) h.lnks
  have hnm : ∀ x ∈ ns.map Nm.nd, x.name.length ≤ 31 := nds_at ps h.xs (h.names hp)
  have hoo : (STv (tnsF (verF four) (ns.map Nm.nd) (nmOf ns))).out.length = o.length := by rw [ho]; simp
  have hkl : kk < ns.length := by
    have hoi : o.getD i default ∈ o := by rw [List.getD_eq_getElem?_getD, List.getElem?_eq_getElem hi]; exact List.getElem_mem _
    rw [← hkk]; exact (hk _).1 (List.mem_map.2 ⟨_, hoi, rfl⟩)
  have hxl : kk < (ns.map Nm.nd).length := by simpa using hkl
  have hnd : (ns.map Nm.nd).getD kk default = (ns.getD kk default).nd := nd_at ns kk hkl
  have hs := Steps_ct gI (nmF4 four ns) [] _ _ _ _ _ _ _ _ _ _ _ ps T _ _ _ _ hf hN hg hb bst n cst sts rst [e0] i hsn hn hs5 hs1 (by omega) (by omega)
    (fun R j rs B H => ∃ f Z, R.bfs.getD (R.out.getD i 0) 0 = f.bf ∧ (2, blk R.ps R.T) ∈ Z ∧ (R.bo, blk (outs R.bfs R.out ++ R.ro) 90) ∈ Z ∧ (R.src f Z (verF four) st (ns.map Nm.nd) kk).Of (wrF4 four st ns) (ns.getD kk default).nd.data ∧
      RInv (R.src f Z (verF four) st (ns.map Nm.nd) kk) e0 (wrF4 four st ns) p d N c j rs B H) ?_ ?_
  · rw [List.append_nil] at hs
    refine hs.cutP ?_
    rintro v post ⟨R, g, cap, r, rs, b2, cap2, r2, B2, H, hro, rfl, ⟨f, Z, hf1, hz1, hz2, hsf, hi1⟩, hrl, hoo2, hB2, hBm, rfl⟩
    obtain ⟨k', r', RB, -, -, hpH, hall⟩ := hi1.at_
    have hB := hi1.hB
    subst hB
    have e1 := hro.hps
    have e2 := hro.hT
    rw [e1, e2] at hz1
    obtain ⟨Za, Zb, hZ⟩ := List.append_of_mem hz1
    obtain ⟨G', hG'⟩ : ∃ G', (R.src f Z (verF four) st (ns.map Nm.nd) kk).G.Perm ((2, blk ps T) :: G') := by
      have hm : (2, blk ps T) ∈ (R.src f Z (verF four) st (ns.map Nm.nd) kk).G := by
        unfold Rdr.src
        exact List.mem_cons_of_mem _ (List.mem_cons_of_mem _ (List.mem_cons_of_mem _ (List.mem_cons_of_mem _ (List.mem_cons_of_mem _ (List.mem_append_right _ hz1)))))
      obtain ⟨A, C, hA⟩ := List.append_of_mem hm
      exact ⟨A ++ C, by rw [hA]; exact List.perm_middle⟩
    refine ⟨_, (R.src f Z (verF four) st (ns.map Nm.nd) kk).fb (p n) k' r' :: (R.src f Z (verF four) st (ns.map Nm.nd) kk).rb :: G', ⟨g, cap, r, rs, b2, cap2, r2, RB, rfl, hrl, hoo2, hall, rfl⟩, ?_⟩
    · have h1 : (H ++ ((gI, blk (bys (wrF4 four st ns)) 5) :: (bst, blk (sts.flatten ++ rst) 53) :: oH g (rs.flatten ++ r) 58)).Perm
          (((R.src f Z (verF four) st (ns.map Nm.nd) kk).fb (p n) k' r' :: (R.src f Z (verF four) st (ns.map Nm.nd) kk).rb :: e0 :: (RB ++ ((2, blk ps T) :: G'))) ++ ((gI, blk (bys (wrF4 four st ns)) 5) :: (bst, blk (sts.flatten ++ rst) 53) :: oH g (rs.flatten ++ r) 58)) :=
        List.Perm.append_right _ (hpH.trans ((((hG'.append_left RB).cons _).cons _).cons _))
      refine (h1.cons _).trans ?_
      exact p_fin _ _ _ _ _ _ _ _ _ _
  · intro R hro
    obtain ⟨f, h1, h2, h3, h4⟩ := ROk.file (st := st) h hk ho hro hi
    rw [hkk] at h1 h4
    have hR : R.Of (verF four) st (ns.map Nm.nd) := ROk.rdr h.xs hnm hro
    obtain ⟨Z, hz1, hz2, hZ⟩ := src_split h1
    obtain ⟨g1, g2⟩ := src_file (R := R) (Z := Z) (v := verF four) (st := st) h.xs hxl hkk0 (by rw [hnd]; exact hstr) h4 hnm
    have hsf := src_of (Z := Z) hR hxl hkk0 (by rw [hnd]; exact hstr) g2
    unfold dtF at hsf
    rw [hnd] at hsf
    refine ⟨f, Z, h2, hz1, hz2, hsf, rfl, rfl, 0, 0, [], hsf.u0, by rw [hp0]; omega, ?_, fun i hi => by omega⟩
    have h5 := (hZ (verF four) st (ns.map Nm.nd) kk).append_right [e0]
    rw [g1] at h5
    rw [hp0]
    refine h5.trans ?_
    exact ((List.perm_append_comm (l₁ := (R.src f Z (verF four) st (ns.map Nm.nd) kk).G) (l₂ := [e0])).cons _).cons _
  · intro R hro
    have hR : R.Of (verF four) st (ns.map Nm.nd) := ROk.rdr h.xs hnm hro
    refine ⟨?_, ?_⟩
    · rintro j rs B H ⟨f, Z, hf1, hz1, hz2, hsf, hi1⟩
      obtain ⟨k', r', RB, -, -, hpH, -⟩ := hi1.at_
      have hB := hi1.hB
      subst hB
      have hRB : R.B = wrF4 four st ns := hR.B
      have mem : ∀ x, x ∈ (R.src f Z (verF four) st (ns.map Nm.nd) kk).rb :: (R.src f Z (verF four) st (ns.map Nm.nd) kk).G → x ∈ H := fun x hx => by
        refine hpH.mem_iff.2 ?_
        rcases List.mem_cons.1 hx with rfl | hx
        · exact List.mem_cons_of_mem _ (List.mem_cons_self ..)
        · exact List.mem_cons_of_mem _ (List.mem_cons_of_mem _ (List.mem_cons_of_mem _ (List.mem_append_right _ hx)))
      refine ⟨⟨R.wa, mem _ (List.mem_cons_self ..)⟩, mem _ ?_, mem _ ?_, by rw [hro.hN]; exact hf.hB, mem _ ?_⟩
      · exact List.mem_cons_of_mem _ (List.mem_cons_of_mem _ (List.mem_cons_of_mem _ (List.mem_cons_of_mem _ (List.mem_cons_of_mem _ (List.mem_cons_of_mem _ (List.mem_append_right _ hz2))))))
      · exact List.mem_cons_of_mem _ (List.mem_cons_of_mem _ (List.mem_cons_of_mem _ (List.mem_cons_self ..)))
      · rw [← hRB]
        exact List.mem_cons_of_mem _ (List.mem_cons_of_mem _ (List.mem_cons_of_mem _ (List.mem_cons_of_mem _ (List.mem_cons_self ..))))
    · rintro j rs B H ⟨f, Z, hf1, hz1, hz2, hsf, hi1⟩ hj
      have := hi1.step (hdo _ hsf j hj)
      rw [hf1]
      refine this.mono ?_
      rintro v q ⟨r, B2, rfl, h3, h4, h5⟩
      exact ⟨r, B2, rfl, h3, h4, f, Z, rfl, hz1, hz2, hsf, h5⟩
end

/-! Values: slices of bytes wherever they lie, as texts. -/
/-- A slice of the bytes d, wherever it lies. -/
def By (H : Heap) (v : Value) (d : List UInt8) : Prop := ∃ p n c, v = .slice p n c ∧ d.length = n ∧ (n = 0 ∨ ∃ b off l T fz, p = some ⟨b, off, none⟩ ∧ (b, Obj.cells (List.toArray l) T fz) ∈ H ∧ (l.drop off).take n = bys d)
theorem By.more {H H' : Heap} {v : Value} {d : List UInt8} (h : By H v d) (hs : ∀ x ∈ H, x ∈ H') : By H' v d := by
  obtain ⟨p, n, c, h1, h2, h3⟩ := h
  exact ⟨p, n, c, h1, h2, h3.imp id fun ⟨b, off, l, T, fz, g1, g2, g3⟩ => ⟨b, off, l, T, fz, g1, hs _ g2, g3⟩⟩
theorem Sl.by {H : Heap} {v : Value} {d : List UInt8} (h : Sl H v d) : By H v d := by
  rcases h with ⟨rfl, rfl⟩ | ⟨b, cap, rx, rfl, h2⟩
  · exact ⟨_, _, _, rfl, rfl, .inl rfl⟩
  · refine ⟨_, _, _, rfl, rfl, .inr ⟨b, 0, _, _, _, rfl, h2, ?_⟩⟩
    rw [List.drop_zero, List.take_append_of_le_length (by simp), List.take_of_length_le (by simp)]
/-- A part of a slice. -/
theorem By.part {H : Heap} {b off n : Nat} {l : List Value} {T : TypeId} {fz : Nat × Nat} {d : List UInt8} (hm : (b, Obj.cells l.toArray T fz) ∈ H) (hd : (l.drop off).take d.length = bys d) {a z c' : Nat} (ha : a ≤ z) (hz : z ≤ d.length) (hn : n = z - a) {o' : Nat} (ho : o' = off + a) :
    By H (.slice (some ⟨b, o', none⟩) n c') ((d.drop a).take (z - a)) := by
  subst hn ho
  refine ⟨_, _, _, rfl, by simp; omega, .inr ⟨b, off + a, l, T, fz, rfl, hm, ?_⟩⟩
  have : bys ((d.drop a).take (z - a)) = ((bys d).drop a).take (z - a) := by simp [bys, List.map_take, List.map_drop]
  rw [this, ← hd, List.drop_take, List.take_take, List.drop_drop, Nat.min_eq_left (by omega)]
theorem pick_all : ∀ (H : Heap), Pick H H []
  | [] => .nil _
  | a :: H => .cons (.here _ _) (pick_all H)
section
variable {E : World} {L : Fra} {H : Heap} {dst : Option Tmp} {ty : TypeId} {pos : String} {aft : Array Edge} {gd : Option (Nat × Bool)}
theorem Yh_by {x : Operand} {v : Value} {d : List UInt8} (hx : ev L x = some v) (h : By H v d) : Yh Tryd.prog E L H ⟨dst, .convert 23 9 x, ty, pos, aft, gd⟩ (.string (bar d)) := by
  obtain ⟨p, n, c, rfl, h2, h3⟩ := h
  rcases h3 with rfl | ⟨b, off, l, T, fz, rfl, hm, h4⟩
  · intro _ a w hf hh
    obtain ⟨inf, h1, _, _⟩ := slOf_u sl_23
    have h2' := inOf_u in_5
    have h3 := isStr_u st_9
    have hr := run_convert_bytes_string (P := Tryd.prog) w 23 9 5 p 0 c h1 h2' h3
    have hd : d = [] := List.length_eq_zero_iff.1 h2
    subst hd
    have hb : (Conv.bytesToString (.slice p 0 c)).run Tryd.prog w = .ok (.string (bar [])) w := by
      cases p with
      | none => rfl
      | some a => exact run_bytesToString (P := Tryd.prog) w a 0 c [] (by simp [loadCells, loadCellsFrom])
    simp only [execOp, hf.eval hx, Sem.run_bind, hr, hb, Result.andThen_ok]
    rfl
  · exact Yh_bytesStr hx sl_23 in_5 st_9 hm h4 h2
end

/-! Walks: streamOf; same, wherever the bytes lie. -/
theorem streamOf_ct (ns : List Nm) (g cap tn : Nat) (rn : List Value) (o : List (Nat × List (List UInt8))) (htn : tn ≤ 255) (hk2 : ns.length ≤ 1000) (hol : o.length ≤ 1000) (ho : OT (lfF ns) (rtF ns) (chdF ns) (nmOf ns) ((0 : Nat) : Int) [] o) (hk : ∀ k ∈ o.map Prod.fst, k < ns.length) :
  Ct Tryd.prog 19 [.slice (some ⟨g, 0, none⟩) ns.length cap, .int .u8 (tn : Int)] [(g, blk (nms ns ++ rn) 43)] (fun v q => ∃ e k b, v = .tuple #[nv e, nv k, .bool b] ∧ (b = true → e < o.length ∧ (o.getD e default).1 = k ∧ (ns.getD k default).nd.stream = true) ∧ q = [(g, blk (nms ns ++ rn) 43)]) := by
 refine Ct_of Tryd.func19 rfl Tryd.ntmps19 rfl ?_
 intro E F
 simp only [numL, List.nil_append, List.cons_append]
 refine CW_sr ?_
 refine RW_a ?_
 refine RW_a ?_
 refine RW_a ?_
 refine RW_lv (ks := [0, 1]) ?_
 refine CW_sr ?_
 refine RW_m ?_
 refine RW_fx rfl rfl rfl (Fx_call ok_17 (vs := [.slice (some ⟨g, 0, none⟩) ns.length cap]) rfl (Pick.cons (.here _ _) (Pick.nil _)) (Order_ct ns g cap rn o hk2 hol ho hk)) ?_
 rintro _ _ ⟨_, ⟨vs, oO, co, ro, oP, cp, rp, ppO, rfl, hvs, hro, hrp, rfl⟩, rfl⟩
 simp only [List.cons_append]
 refine RW_m ?_
 refine RW_l (Yl_extract (v := .slice (some ⟨oO, 0, none⟩) o.length co) rfl rfl) ?_
 refine RW_l (Yl_extract (v := .slice (some ⟨oP, 0, none⟩) o.length cp) rfl rfl) ?_
 refine RW_a ?_
 refine RW_a ?_
 refine RW_lv (ks := [0, 1, 7]) ?_
 refine CW_seq ?_
 refine CW_seq ?_
 refine CW_drop (H' := (g, blk (nms ns ++ rn) 43) :: (oO, blk (nats (o.map Prod.fst) ++ ro) 3) :: F) (.cons_cons _ (.cons_cons _ (.cons _ (List.sublist_append_right _ _)))) ?_
 refine CW_region ?_
 refine RW_m ?_
 refine RW_l (Yl_len rfl sl_29) ?_
 refine RW_m ?_
 refine RW_lv (ks := [0, 1, 7, 17, 18]) ?_
 refine CW_block ?_
 refine CW_lp (σ := Nat) (fun x => [(0, .slice (some ⟨g, 0, none⟩) ns.length cap), (1, .int .u8 (tn : Int)), (7, .slice (some ⟨oO, 0, none⟩) o.length co), (17, nv o.length), (18, nv x)]) (fun _ => (g, blk (nms ns ++ rn) 43) :: (oO, blk (nats (o.map Prod.fst) ++ ro) 3) :: F) (fun x => x ≤ o.length) (fun x => o.length - x) 0 (Nat.zero_le _) ?_
 rintro x hx
 refine CW_sr ?_
 refine RW_l (Yl_lss rfl rfl) ?_
 refine RW_lv (ks := [0, 1, 7, 17, 18, 19]) ?_
 refine CW_seq ?_
 refine CW_cond rfl (fun hc1 => ?_) (fun hc1 => ?_)
 ·replace hc1 := of_decide_eq_true hc1
  refine (CW_skip (QW_lv (ks := [0, 1, 7, 17, 18]) ?_))
  refine CW_seq ?_
  refine CW_block ?_
  refine CW_sr ?_
  refine RW_m ?_
  refine RW_a ?_
  refine RW_lv (ks := [0, 1, 7, 9, 17, 18]) ?_
  refine CW_sr ?_
  refine RW_m ?_
  refine RW_l (Yl_conv (c := (tn : Int)) rfl in_5 in_3 (wi64 (by omega) (by omega))) ?_
  refine RW_m ?_
  refine RW_l (Yl_add (c := ((tn + x : Nat) : Int)) rfl rfl (wi64 (by omega) (by omega))) ?_
  refine RW_m ?_
  refine RW_l (Yl_len rfl sl_29) ?_
  refine RW_l (Yl_rem (c := (((tn + x) % o.length : Nat) : Int)) rfl rfl (by omega) (remN (tn + x) o.length)) ?_
  refine RW_a ?_
  refine RW_lv (ks := [0, 1, 7, 10, 17, 18]) ?_
  refine CW_seq ?_
  obtain ⟨ix, hixe⟩ : ∃ ix, ix = (tn + x) % o.length := ⟨_, rfl⟩
  have hix : ix < o.length := by rw [hixe]; exact Nat.mod_lt _ (by omega)
  rw [← hixe]
  obtain ⟨k, hk1⟩ : ∃ k, (o.getD ix default).1 = k := ⟨_, rfl⟩
  have hkn : k < ns.length := by
   have hoi : o.getD ix default ∈ o := by rw [List.getD_eq_getElem?_getD, List.getElem?_eq_getElem hix]; exact List.getElem_mem _
   rw [← hk1]; exact hk _ (List.mem_map.2 ⟨_, hoi, rfl⟩)
  refine CW_region ?_
  refine RW_m ?_
  refine RW_m ?_
  refine RW_m ?_
  refine RW_l (Yl_indexN (b := oO) (off := 0) (i := ix) (o' := ix) rfl rfl sl_29 (by omega) (by omega)) ?_
  refine RW_h (Yh_lh (v := nv k) sc_3 (fst_at hix hk1)) ?_
  refine RW_l (Yl_indexN (b := g) (off := 0) (i := k) (o' := k * 28) rfl rfl sl_25 hkn (by omega)) ?_
  refine RW_l (Yl_field rfl fo_43_1) ?_
  refine RW_h (Yh_load (v := .bool (ns.getD k default).nd.stream) rfl sc_4 (by repeat (first | exact List.Mem.head _ | apply List.Mem.tail)) (by rw [nms_cell _ _ _ 1 hkn (by omega)]; rfl)) ?_
  refine RW_lv (ks := [0, 1, 7, 10, 17, 18, 35]) ?_
  refine CW_cond rfl (fun hc2 => ?_) (fun hc2 => ?_)
  ·skip
   have hstr : (ns.getD k default).nd.stream = true := hc2
   refine CW_seq ?_
   refine CW_draw [] _ mixed (Sub.refl _) ?_
   refine RD_l 0 rfl (Yl_move rfl) ?_
   refine RD_l 1 rfl (Yl_move rfl) ?_
   refine RD_l 2 rfl (Yl_move rfl) ?_
   refine RD_l 3 rfl (Yl_indexN (b := oO) (off := 0) (i := ix) (o' := ix) rfl rfl sl_29 (by omega) (by omega)) ?_
   refine RD_l 5 rfl (Yl_assign rfl) ?_
   refine RD_h (i := 4) #[true, true, true, true, false, true, false, false] rfl rfl rfl rfl (by kernel_rfl) (fun _ _ _ h => h) (Yh_lh (v := nv k) sc_3 (fst_at hix hk1)) ?_
   refine RD_l 6 rfl (Yl_assign rfl) ?_
   refine RD_l 7 rfl (Yl_assign rfl) ?_
   refine (RD_done (by kernel_rfl) (QW_lv (ks := [4, 5, 6]) ?_))
   refine CW_ret ?_
   refine QW_ret_block ?_
   refine QW_ret_then ?_
   refine QW_ret_then ?_
   refine QW_ret_block ?_
   refine QW_ret_then ?_
   refine QW_dropB (e := (oO, _)) (by repeat (first | exact Rem.here _ _ | apply Rem.there)) ?_
   first
    | exact QW_ret3 rfl rfl rfl rfl [(g, blk (nms ns ++ rn) 43)] ⟨ix, k, true, rfl, fun _ => ⟨hix, hk1, hstr⟩, rfl⟩ (Prm.nil _)
    | exact QW_ret3 rfl rfl rfl rfl [(g, blk (nms ns ++ rn) 43)] ⟨0, 0, false, rfl, fun h => (by cases h), rfl⟩ (Prm.nil _)
  ·skip
   refine CW_skip ?_
   refine QW_normal_block ?_
   refine (QW_lv (ks := [0, 1, 7, 17, 18]) ?_)
   refine CW_region ?_
   refine RW_l (Yl_add (c := ((x + 1 : Nat) : Int)) rfl rfl (wi64 (by omega) (by omega))) ?_
   refine RW_m ?_
   refine RW_nil ?_
   exact QW_rn (x + 1) (by omega) (by omega)
 ·replace hc1 := of_decide_eq_false hc1
  refine CW_exit ?_
  refine QW_exit_then ?_
  refine QW_exit_then ?_
  refine QW_exit_block ?_
  refine (QW_lv (ks := []) ?_)
  refine CW_sr ?_
  refine RW_a ?_
  refine RW_a ?_
  refine RW_a ?_
  refine RW_lv (ks := [4, 5, 6]) ?_
  refine CW_ret ?_
  refine QW_dropB (e := (oO, _)) (by repeat (first | exact Rem.here _ _ | apply Rem.there)) ?_
  first
   | exact QW_ret3 rfl rfl rfl rfl [(g, blk (nms ns ++ rn) 43)] ⟨ix, k, true, rfl, fun _ => ⟨hix, hk1, hstr⟩, rfl⟩ (Prm.nil _)
   | exact QW_ret3 rfl rfl rfl rfl [(g, blk (nms ns ++ rn) 43)] ⟨0, 0, false, rfl, fun h => (by cases h), rfl⟩ (Prm.nil _)
theorem same_by (H : Heap) (v1 v2 : Value) (d : List UInt8) (h1 : By H v1 d) (h2 : By H v2 d) : Ct Tryd.prog 21 [v1, v2] H (fun v q => v = .bool true ∧ q = H) := by
 refine Ct_of Tryd.func21 rfl Tryd.ntmps21 rfl ?_
 intro E F
 simp only [numL, List.nil_append, List.cons_append]
 refine CW_sr ?_
 refine RW_a ?_
 refine RW_lv (ks := [0, 1]) ?_
 refine CW_sr ?_
 refine RW_m ?_
 refine RW_h (Yh_by rfl (h1.more fun x hx => List.mem_append_left _ hx)) ?_
 refine RW_m ?_
 refine RW_h (Yh_by rfl (h2.more fun x hx => List.mem_append_left _ hx)) ?_
 refine RW_l (Yl_strEqT rfl rfl) ?_
 refine RW_a ?_
 refine RW_lv (ks := [4]) ?_
 refine CW_ret ?_
 exact QW_ret1 rfl rfl H ⟨rfl, rfl⟩ (Prm.nil _)

/-! A stream's node; a stream is read piece by piece. -/
theorem NodesOk.notroot {ns : List Nm} (h : NodesOk ns) {k : Nat} (hs : (ns.getD k default).nd.stream = true) : k ≠ 0 := by
  rintro rfl
  obtain ⟨c, e⟩ := h.root
  rw [e] at hs
  exact Bool.noConfusion (show false = true from hs)
theorem Yl_cutN {P : Program} {L : Fra} {dst : Option Tmp} {ty : TypeId} {pos : String} {aft : Array Edge} {gd : Option (Nat × Bool)} {x y z : Operand} {t e : TypeId} {sz m c l h : Nat} {p : Option Addr} (hx : ev L x = some (.slice p m c)) (hy : ev L y = some (.int .i64 (l : Int))) (hz : ev L z = some (.int .i64 (h : Int)))
    (ht : slOf P t = some (e, sz)) (h1 : l ≤ h) (h2 : h ≤ c) : Yl P L ⟨dst, .slice t x (some y) (some z) none, ty, pos, aft, gd⟩ (.slice (cutAt p c l sz) (h - l) (c - l)) := by
  have := Yl_cutLH (P := P) (dst := dst) (ty := ty) (pos := pos) (aft := aft) (gd := gd) hx hy hz ht (by omega) (by omega) (by omega)
  simpa only [Int.toNat_natCast] using this
/-- A part of a node's bytes. -/
@[reducible] def Nm.cut (x : Nm) (a z : Nat) : Value := .slice (cutAt (x.b.map fun b => ⟨b, 0, none⟩) x.cap a 1) (z - a) (x.cap - a)
theorem Nm.cut_by {x : Nm} (h : x.ok) {H : Heap} (hm : ∀ e ∈ x.heap, e ∈ H) {a z : Nat} (ha : a ≤ z) (hz : z ≤ x.nd.data.length) : By H (x.cut a z) ((x.nd.data.drop a).take (z - a)) := by
  by_cases h0 : z - a = 0
  · exact ⟨_, _, _, rfl, by simp; omega, .inl h0⟩
  · obtain ⟨e1, e2⟩ := Nm.data_ok h (by omega)
    unfold Nm.cut
    have hf := h.fit
    rw [e1, cutAt_some (by omega)]
    have hmm := hm _ (by rw [e2]; exact List.mem_cons_self ..)
    exact By.part (d := x.nd.data) hmm (by rw [List.drop_zero, List.take_append_of_le_length (by simp), List.take_of_length_le (by simp)]) ha hz rfl (by omega)
theorem nmsH_mem {ns : List Nm} {k : Nat} (hk : k < ns.length) : ∀ e ∈ (ns.getD k default).heap, e ∈ nmsH ns := by
  intro e he
  refine List.mem_flatMap.2 ⟨_, ?_, he⟩
  rw [List.getD_eq_getElem?_getD, List.getElem?_eq_getElem hk]; exact List.getElem_mem _

/-! Plans: steps that read a stream, seek in it, read it at a place; what they tell. -/
inductive Pl where
  | rd (n : Nat)
  | ra (a n : Nat)
  | sk (wh : Nat) (off : Int) (to : Nat)
instance : Inhabited Pl := ⟨.rd 0⟩
def Pl.cells : Pl → List Value
  | .rd n => [nv 0, nv n, .int .i64 0, nv 0, .slice none 0 0]
  | .ra a n => [nv 2, nv n, nv a, nv 0, .slice none 0 0]
  | .sk wh off _ => [nv 1, nv 0, .int .i64 off, nv wh, .slice none 0 0]
def Pl.next (sz p : Nat) : Pl → Nat
  | .rd n => p + min n (sz - p)
  | .ra _ _ => p
  | .sk _ _ to => to
def Pl.dat (D : List UInt8) (p : Nat) : Pl → List UInt8
  | .rd n => (D.drop p).take n
  | .ra a n => (D.drop a).take n
  | .sk _ _ _ => []
def Pl.num (sz p : Nat) : Pl → Nat
  | .rd n => min n (sz - p)
  | .ra a n => min n (sz - a)
  | .sk _ _ to => to
def Pl.cod (sz p : Nat) : Pl → Nat
  | .rd n => if n ≤ sz - p then 0 else 6
  | .ra a n => if n ≤ sz - a then 0 else 6
  | .sk _ _ _ => 0
def Pl.ok (sz p : Nat) : Pl → Prop
  | .rd n => 0 < n ∧ n ≤ 65536
  | .ra a n => a < sz ∧ 0 < n ∧ n ≤ 65536
  | .sk wh off to => to < sz ∧ ((wh = 0 ∧ off = (to : Int)) ∨ (wh = 1 ∧ (p : Int) + off = (to : Int)))
/-- Where the stream stands after j steps. -/
def posA (sz : Nat) (pl : List Pl) (j : Nat) : Nat := (pl.take j).foldl (fun p s => s.next sz p) 0
theorem posA_succ (sz : Nat) (pl : List Pl) {j : Nat} (h : j < pl.length) : posA sz pl (j + 1) = (pl.getD j default).next sz (posA sz pl j) := by
  unfold posA
  rw [List.take_succ_eq_append_getElem h, List.foldl_append]
  simp [List.getD_eq_getElem?_getD, h]
theorem posA_app (sz : Nat) (pl more : List Pl) {j : Nat} (h : j ≤ pl.length) : posA sz (pl ++ more) j = posA sz pl j := by
  unfold posA; rw [List.take_append_of_le_length h]
/-- A plan that can be carried out. -/
def Plan (sz : Nat) (pl : List Pl) : Prop := ∀ j, j < pl.length → (pl.getD j default).ok sz (posA sz pl j)
theorem Plan.nil (sz : Nat) : Plan sz [] := fun j h => by simp at h
theorem Plan.snoc {sz : Nat} {pl : List Pl} {s : Pl} (h : Plan sz pl) (hs : s.ok sz (posA sz pl pl.length)) : Plan sz (pl ++ [s]) := by
  intro j hj
  rw [List.length_append, List.length_singleton] at hj
  by_cases e : j < pl.length
  · rw [List.getD_eq_getElem?_getD, List.getElem?_append_left e, ← List.getD_eq_getElem?_getD, posA_app _ _ _ (by omega)]; exact h j e
  · have : j = pl.length := by omega
    subst this
    rw [List.getD_eq_getElem?_getD, List.getElem?_append_right (by omega), posA_app _ _ _ (by omega), Nat.sub_self]; exact hs
theorem Plan.pos {sz : Nat} {pl : List Pl} (h : Plan sz pl) : ∀ j, j ≤ pl.length → posA sz pl j ≤ sz := by
  intro j
  induction j with
  | zero => intro _; exact Nat.zero_le _
  | succ j ih =>
    intro hj
    have h1 := ih (by omega)
    have h2 := h j (by omega)
    rw [posA_succ sz pl (by omega)]
    generalize pl.getD j default = s at h2
    cases s with
    | rd n => show _ + _ ≤ _; omega
    | ra a n => exact h1
    | sk wh off to => exact Nat.le_of_lt h2.1
theorem Pl.len5 (s : Pl) : s.cells.length = 5 := by cases s <;> rfl
theorem Pl.one5 (s : Pl) : ∀ u ∈ s.cells, u.oneCell' = true := by
  intro u hu
  cases s <;> (simp only [Pl.cells, List.mem_cons, List.not_mem_nil, or_false] at hu; rcases hu with rfl | rfl | rfl | rfl | rfl <;> rfl)
theorem does_pl {S : Src} {B D : List UInt8} (hS : S.Of B D) {U : TypeId} {u : Value} {T0 : TypeId} {fz0 : Nat × Nat} (hU : Nat.beq U 123 = false) {p : Nat} {s : Pl} (hs : s.ok D.length p) (hp : p ≤ D.length) :
    Does S (0, Obj.cells [Value.iface U u].toArray T0 fz0) s.cells p (s.next D.length p) (s.dat D p) (s.num D.length p) (s.cod D.length p) := by
  have hz := hS.size
  cases s with
  | rd n =>
    have := does_read (T0 := T0) (fz0 := fz0) (u := u) hS hs.1 hs.2 (by omega) hU (p := p)
    rw [← hz] at this; exact this
  | ra a n =>
    have := does_readAt (T0 := T0) (fz0 := fz0) (u := u) hS hs.2.1 hs.2.2 (show p ≤ S.size by omega) (show a < S.size by rw [← hz]; exact hs.1) hU
    rw [← hz] at this; exact this
  | sk wh off to => exact does_seek hS (by omega) (by rw [← hz]; exact hs.1) hs.2
theorem map_getD (pl : List Pl) {j : Nat} (h : j < pl.length) : (pl.map Pl.cells).getD j [] = (pl.getD j default).cells := by
  simp [List.getD_eq_getElem?_getD, h]
section
variable {ps : List Value} {T : TypeId} {four : Bool} {st : Nat} {ns : List Nm} {o : List (Nat × List (List UInt8))}
theorem Steps_pl (hp : PsOk ps) (h : NodesOk ns) (hk : ∀ k, k ∈ o.map Prod.fst ↔ k < ns.length) (hb : (STv (tnsF (verF four) (ns.map Nm.nd) (nmOf ns))).bad = false) (ho : (STv (tnsF (verF four) (ns.map Nm.nd) (nmOf ns))).out = o.map Prod.fst)
    (hol : o.length ≤ 1000) (hN : nmF4 four ns ≤ 131072) (gI bst cst i kk : Nat) (hi : i < o.length) (rst : List Value) (hkk : (o.getD i default).1 = kk) (hkk0 : kk ≠ 0) (hstr : (ns.getD kk default).nd.stream = true) {U : TypeId} {u : Value} {T0 : TypeId} {fz0 : Nat × Nat} (hU : Nat.beq U 123 = false)
    (D : List UInt8) (hD : (ns.getD kk default).nd.data = D) (pl : List Pl) (n : Nat) (hpn : pl.length = n) (hpl : Plan D.length pl) (hn : n ≤ 100000) :
    Ct Tryd.prog 20 [.slice (some ⟨gI, 0, none⟩) (nmF4 four ns) (nmF4 four ns), nv i, .slice (some ⟨bst, 0, none⟩) n cst]
      [(gI, blk (bys (wrF4 four st ns)) 5), (2, blk ps T), (bst, blk ((pl.map Pl.cells).flatten ++ rst) 53), (0, Obj.cells [Value.iface U u].toArray T0 fz0)]
      (fun v q => ∃ (g : Option Nat) (cap : Nat) (r : List Value) (rs : List (List Value)) (b2 cap2 : Nat) (r2 : List Value) (RB : Heap), v = .tuple #[osl g n cap, .slice (some ⟨b2, 0, none⟩) (nmF4 four ns) cap2, .bool true] ∧ rs.length = n ∧ oOk g rs.flatten r n cap 3 ∧
        (∀ i, i < n → ∃ dv, rs.getD i [] = [dv, nv ((pl.getD i default).num D.length (posA D.length pl i)), nv ((pl.getD i default).cod D.length (posA D.length pl i))] ∧ Sl RB dv ((pl.getD i default).dat D (posA D.length pl i))) ∧
        q = (b2, blk (bys (wrF4 four st ns) ++ r2) 5) :: (2, blk ps T) :: (0, Obj.cells [Value.iface U u].toArray T0 fz0) :: (gI, blk (bys (wrF4 four st ns)) 5) :: (bst, blk ((pl.map Pl.cells).flatten ++ rst) 53) :: (oH g (rs.flatten ++ r) 58 ++ RB)) := by
  refine Steps_rd hp h hk hb ho hol hN gI bst n cst i kk hi (pl.map Pl.cells) rst (by simpa using hpn) hn ?_ ?_ hkk hkk0 hstr _ (posA D.length pl) (fun i => (pl.getD i default).dat D (posA D.length pl i)) (fun i => (pl.getD i default).num D.length (posA D.length pl i)) (fun i => (pl.getD i default).cod D.length (posA D.length pl i)) rfl ?_
  · intro x hx; obtain ⟨s, _, rfl⟩ := List.mem_map.1 hx; exact s.len5
  · intro x hx; obtain ⟨s, _, rfl⟩ := List.mem_map.1 hx; exact s.one5
  · intro S hS j hj
    rw [hD] at hS
    rw [map_getD pl (by omega), posA_succ _ _ (by omega)]
    exact does_pl hS hU (hpl j (by omega)) (hpl.pos j (by omega))
end
theorem flat_pl (pl : List Pl) (s : Pl) : (pl.map Pl.cells).flatten ++ s.cells = ((pl ++ [s]).map Pl.cells).flatten := by simp
theorem len_pl (pl : List Pl) : ((pl.map Pl.cells).flatten).length = pl.length * 5 := by
  rw [chunk_len 5 _ (fun y hy => by obtain ⟨s, _, rfl⟩ := List.mem_map.1 hy; exact s.len5), List.length_map]
/-- Numbers of two bytes, in memory. -/
def U16Ok (H : Heap) (p : Option Addr) (zs : List Nat) : Prop := zs = [] ∨ ∃ b off l T fz, p = some ⟨b, off, none⟩ ∧ (b, Obj.cells (List.toArray l) T fz) ∈ H ∧ ∀ i, i < zs.length → zs.getD i 0 ≤ 65535 ∧ l[off + i]? = some (.int .u16 ((zs.getD i 0 : Nat) : Int))
theorem pl_last (pl : List Pl) (s : Pl) : (pl ++ [s]).getD pl.length default = s := by
  rw [List.getD_eq_getElem?_getD, List.getElem?_append_right (by omega), Nat.sub_self]; rfl
theorem pl_ahead {pl : List Pl} (s : Pl) {j : Nat} (h : j < pl.length) : (pl ++ [s]).getD j default = pl.getD j default := by
  rw [List.getD_eq_getElem?_getD, List.getElem?_append_left h, ← List.getD_eq_getElem?_getD]

end Go.Proofs.YtgoddcicbpjknaaDoor

/-! From a contract to a row: slices of numbers of two bytes; three slices. -/
set_option maxRecDepth 100000
namespace Go.Proofs.YtgoddcicbpjknaaDoor
open Go
open Cfb
open Go.ChangeShapes Go.WideShapes Go.ChangeAt Go.RowKit
theorem un_61 : Tryd.prog.underlying 61 = some (.slice 47) := by kernel_rfl
theorem un_47 : Tryd.prog.underlying 47 = some (.int .u16) := by kernel_rfl
theorem cells47 : Tryd.prog.cellsOf 47 = 1 := by kernel_rfl
theorem u16s_end {W : World} {L : Heap} {p : Option Addr} {n : Nat} (hm : ∀ p ∈ L, W.heap[p.1]? = some p.2) (hn : (L.map Prod.fst).Nodup)
    (h : n = 0 ∨ ∃ b off l T fz, ∃ zs : Nat → Int, p = some ⟨b, off, none⟩ ∧ W.heap[b]? = some (Obj.cells l T fz) ∧ ∀ i, i < n → l[off + i]? = some (.int .u16 (zs i)) ∧ (Lit.int .u16 (zs i)).wf = true) :
    ∃ N zs, (∀ p ∈ L ++ N, W.heap[p.1]? = some p.2) ∧ ((L ++ N).map Prod.fst).Nodup ∧ zs.length = n ∧ U16Ok (L ++ N) p zs := by
  rcases h with rfl | ⟨b, off, l, T, fz, zs, rfl, hb, hz⟩
  · exact ⟨[], [], by simpa using hm, by simpa using hn, rfl, .inl rfl⟩
  · obtain ⟨N, h1, h2, h3⟩ := add_end hm hn hb
    obtain ⟨l⟩ := l
    refine ⟨N, (List.range n).map fun i => (zs i).toNat, h1, h2, by simp, .inr ⟨b, off, l, T, fz, rfl, h3, fun i hi => ?_⟩⟩
    have hi' : i < n := by simpa using hi
    obtain ⟨h5, h6⟩ := hz i hi'
    have h7 : 0 ≤ zs i ∧ zs i ≤ 65535 := by simpa [Lit.wf, IntKind.min, IntKind.max, IntKind.signed, IntKind.bits] using h6
    have e : ((List.range n).map fun i => (zs i).toNat).getD i 0 = (zs i).toNat := by simp [List.getD_eq_getElem?_getD, hi']
    rw [e]
    refine ⟨by omega, ?_⟩
    have h8 : l[off + i]? = some (.int .u16 (zs i)) := by simpa using h5
    rw [h8]
    congr 2
    omega
theorem BytOk.mono' {H H' : Heap} {p : Option Addr} {n : Nat} (h : BytOk H p n) (hs : ∀ x ∈ H, x ∈ H') : BytOk H' p n := by
  rcases h with h | ⟨b, off, l, T, fz, h1, h2, h3⟩
  · exact .inl h
  · exact .inr ⟨b, off, l, T, fz, h1, hs _ h2, h3⟩
end Go.Proofs.YtgoddcicbpjknaaDoor

namespace Go.Proofs.YtgoddcicbpjknaaDoor
open Go
open Cfb

/-! The plan of FnReadAt: a byte, bytes at places, a byte. -/
theorem chunk_cell (s : Nat) (rows : List (List Value)) (r : List Value) (k c : Nat) (h : ∀ x ∈ rows, x.length = s) (hk : k < rows.length) (hc : c < s) {o : Nat} (ho : o = k * s + c) : (rows.flatten ++ r)[o]? = (rows.getD k [])[c]? := by
  subst ho
  rw [← chunk_at s rows r k h hk, List.getElem?_take_of_lt hc, List.getElem?_drop]
theorem mem_pre {x a b c : Nat × Obj} {D F N : Heap} (h : x ∈ a :: b :: D) : x ∈ a :: b :: c :: (N ++ (D ++ F)) := by
  rcases List.mem_cons.1 h with rfl | h
  · exact List.mem_cons_self ..
  rcases List.mem_cons.1 h with rfl | h
  · exact List.mem_cons_of_mem _ (List.mem_cons_self ..)
  exact List.mem_cons_of_mem _ (List.mem_cons_of_mem _ (List.mem_cons_of_mem _ (List.mem_append_right _ (List.mem_append_left _ h))))
theorem Nm.cutH_by {x : Nm} (h : x.ok) {H : Heap} (hm : ∀ e ∈ x.heap, e ∈ H) {z : Nat} (hz : z ≤ x.nd.data.length) : By H (.slice (cutAt (x.b.map fun b => ⟨b, 0, none⟩) x.cap 0 1) z x.cap) ((x.nd.data.drop 0).take z) := by
  have := Nm.cut_by h hm (Nat.zero_le z) hz
  obtain ⟨p, n, c, h1, h2, h3⟩ := this
  cases h1
  exact ⟨_, _, _, rfl, h2, h3⟩
theorem Yl_cutHG {P : Program} {L : Fra} {dst : Option Tmp} {ty : TypeId} {pos : String} {aft : Array Edge} {gd : Option (Nat × Bool)} {x z : Operand} {t e : TypeId} {sz m c h : Nat} {p : Option Addr} (hx : ev L x = some (.slice p m c)) (hz : ev L z = some (.int .i64 (h : Int)))
    (ht : slOf P t = some (e, sz)) (h2 : h ≤ c) : Yl P L ⟨dst, .slice t x none (some z) none, ty, pos, aft, gd⟩ (.slice (cutAt p c 0 sz) h c) := by
  have := Yl_cutH (P := P) (dst := dst) (ty := ty) (pos := pos) (aft := aft) (gd := gd) hx hz ht (by omega) (by omega)
  simpa only [Int.toNat_natCast] using this
def raOf (zs : List Nat) (sz i : Nat) : Pl := Pl.ra (zs.getD i 0 % sz) (min (sz - zs.getD i 0 % sz) (1 + (zs.getD i 0 * 7 + i) % 600))
def raP (zs : List Nat) (sz j : Nat) : List Pl := Pl.rd 1 :: (List.range j).map (raOf zs sz)
theorem raP_succ (zs : List Nat) (sz j : Nat) : raP zs sz j ++ [raOf zs sz j] = raP zs sz (j + 1) := by
  unfold raP; rw [List.range_succ]; simp
theorem raP_len (zs : List Nat) (sz j : Nat) : (raP zs sz j).length = j + 1 := by simp [raP]
theorem raP_at (zs : List Nat) (sz : Nat) {j i : Nat} (h : i < j) (s : Pl) : (raP zs sz j ++ [s]).getD (i + 1) default = raOf zs sz i := by
  rw [pl_ahead _ (by rw [raP_len]; omega)]
  unfold raP
  simp [List.getD_eq_getElem?_getD, h]
theorem raP_pos (zs : List Nat) {sz : Nat} (h0 : 0 < sz) : ∀ j, posA sz (raP zs sz j) (j + 1) = 1 := by
  intro j
  induction j with
  | zero => rw [posA_succ _ _ (by rw [raP_len]; omega)]; show 0 + min 1 (sz - 0) = 1; omega
  | succ j ih =>
    rw [posA_succ _ _ (by rw [raP_len]; omega), ← raP_succ, posA_app _ _ _ (by rw [raP_len]; exact Nat.le_refl _), ih]
    rw [show (raP zs sz j ++ [raOf zs sz j]).getD (j + 1) default = raOf zs sz j from by
      have := pl_last (raP zs sz j) (raOf zs sz j); rwa [raP_len] at this]
    rfl
theorem raP_plan (zs : List Nat) {sz : Nat} (h0 : 0 < sz) : ∀ j, Plan sz (raP zs sz j) := by
  intro j
  induction j with
  | zero => exact Plan.snoc (pl := []) (Plan.nil _) ⟨by omega, by omega⟩
  | succ j ih =>
    rw [← raP_succ]
    refine ih.snoc ?_
    have h1 := Nat.mod_lt (zs.getD j 0) h0
    exact ⟨h1, by omega, by omega⟩
theorem raP_all (zs : List Nat) {sz : Nat} (h0 : 0 < sz) (j : Nat) : Plan sz (raP zs sz j ++ [Pl.rd 1]) := (raP_plan zs h0 j).snoc ⟨by omega, by omega⟩

/-! Walks: FnReadAt. -/
theorem FnReadAt_ct (nN cN nD cD st tn : Nat) (pN pD : Option Addr) (four : Bool) (hst : st ≤ 255) (htn : tn ≤ 255) (ps : List Value) (T : TypeId) (hp : PsOk ps) (U : TypeId) (u : Value) (hU : Nat.beq U 123 = false) (T0 : TypeId) (fz0 : Nat × Nat) (D : Heap) (hN : NumOk ((2, blk ps T) :: (0, Obj.cells [Value.iface U u].toArray T0 fz0) :: D) pN nN) (hD : BytOk ((2, blk ps T) :: (0, Obj.cells [Value.iface U u].toArray T0 fz0) :: D) pD nD) (hcN : nN ≤ cN) (nA cA : Nat) (pA : Option Addr) (zs : List Nat) (hzl : zs.length = nA) (hA : U16Ok ((2, blk ps T) :: (0, Obj.cells [Value.iface U u].toArray T0 fz0) :: D) pA zs) :
  Ct Tryd.prog 8 [.slice pN nN cN, .slice pD nD cD, .bool four, .int .u8 (st : Int), .int .u8 (tn : Int), .slice pA nA cA] ((2, blk ps T) :: (0, Obj.cells [Value.iface U u].toArray T0 fz0) :: D) (fun v q => v = .bool true ∧ q = (2, blk ps T) :: (0, Obj.cells [Value.iface U u].toArray T0 fz0) :: D) := by
 refine Ct_of Tryd.func8 rfl Tryd.ntmps8 rfl ?_
 intro E F
 simp only [numL, List.nil_append, List.cons_append]
 refine CW_sr ?_
 refine RW_a ?_
 refine RW_lv (ks := [0, 1, 2, 3, 4, 5]) ?_
 refine CW_seq ?_
 refine CW_sr ?_
 refine RW_m ?_
 refine RW_l (Yl_len rfl sl_22) ?_
 refine RW_l (Yl_gtr rfl rfl) ?_
 refine RW_m ?_
 refine RW_bool 32 rfl (fun hg1 => ?_) (fun hg1 => ?_)
 ·replace hg1 := of_decide_eq_true hg1
  refine RW_skip rfl rfl rfl ?_
  refine RW_skip rfl rfl rfl ?_
  refine RW_skip rfl rfl rfl ?_
  refine RW_l (Yl_pick_t rfl rfl) ?_
  refine RW_m ?_
  refine RW_skip rfl rfl rfl ?_
  refine RW_skip rfl rfl rfl ?_
  refine RW_skip rfl rfl rfl ?_
  refine RW_l (Yl_pick_t rfl rfl) ?_
  refine RW_lv (ks := [0, 1, 2, 3, 4, 5, 41]) ?_
  refine CW_true rfl ?_
  refine CW_sr ?_
  refine RW_a ?_
  refine RW_lv (ks := [12]) ?_
  refine CW_ret ?_
  refine QW_ret_then ?_
  first
   | exact QW_ret1 rfl rfl ((2, blk ps T) :: (0, Obj.cells [Value.iface U u].toArray T0 fz0) :: D) ⟨rfl, rfl⟩ (Prm.nil _)
   | (refine QW_sub (H' := (2, blk ps T) :: (0, Obj.cells [Value.iface U u].toArray T0 fz0) :: (D ++ F)) (.cons _ (.cons_cons _ (.cons_cons _ (.cons _ (List.sublist_append_right _ _))))) ?_; exact QW_ret1 rfl rfl ((2, blk ps T) :: (0, Obj.cells [Value.iface U u].toArray T0 fz0) :: D) ⟨rfl, rfl⟩ (Prm.nil _))
   | (refine QW_sub (H' := (2, blk ps T) :: (0, Obj.cells [Value.iface U u].toArray T0 fz0) :: (D ++ F)) (.cons _ (.cons_cons _ (.cons_cons _ (.cons _ (.cons _ (.cons _ (List.Sublist.trans (.cons _ (List.sublist_append_right _ _)) (List.sublist_append_right _ _)))))))) ?_; exact QW_ret1 rfl rfl ((2, blk ps T) :: (0, Obj.cells [Value.iface U u].toArray T0 fz0) :: D) ⟨rfl, rfl⟩ (Prm.nil _))
 ·replace hg1 := of_decide_eq_false hg1
  refine RW_gy rfl rfl rfl (Yl.h (Yl_move rfl)) ?_
  refine RW_gy rfl rfl rfl (Yl.h (Yl_len rfl sl_23)) ?_
  refine RW_gy rfl rfl rfl (Yl.h (Yl_gtr rfl rfl)) ?_
  refine RW_l (Yl_pick_f rfl rfl) ?_
  refine RW_m ?_
  refine RW_bool 37 rfl (fun hg2 => ?_) (fun hg2 => ?_)
  ·replace hg2 := of_decide_eq_true hg2
   refine RW_skip rfl rfl rfl ?_
   refine RW_skip rfl rfl rfl ?_
   refine RW_skip rfl rfl rfl ?_
   refine RW_l (Yl_pick_t rfl rfl) ?_
   refine RW_lv (ks := [0, 1, 2, 3, 4, 5, 41]) ?_
   refine CW_true rfl ?_
   refine CW_sr ?_
   refine RW_a ?_
   refine RW_lv (ks := [12]) ?_
   refine CW_ret ?_
   refine QW_ret_then ?_
   first
    | exact QW_ret1 rfl rfl ((2, blk ps T) :: (0, Obj.cells [Value.iface U u].toArray T0 fz0) :: D) ⟨rfl, rfl⟩ (Prm.nil _)
    | (refine QW_sub (H' := (2, blk ps T) :: (0, Obj.cells [Value.iface U u].toArray T0 fz0) :: (D ++ F)) (.cons _ (.cons_cons _ (.cons_cons _ (.cons _ (List.sublist_append_right _ _))))) ?_; exact QW_ret1 rfl rfl ((2, blk ps T) :: (0, Obj.cells [Value.iface U u].toArray T0 fz0) :: D) ⟨rfl, rfl⟩ (Prm.nil _))
    | (refine QW_sub (H' := (2, blk ps T) :: (0, Obj.cells [Value.iface U u].toArray T0 fz0) :: (D ++ F)) (.cons _ (.cons_cons _ (.cons_cons _ (.cons _ (.cons _ (.cons _ (List.Sublist.trans (.cons _ (List.sublist_append_right _ _)) (List.sublist_append_right _ _)))))))) ?_; exact QW_ret1 rfl rfl ((2, blk ps T) :: (0, Obj.cells [Value.iface U u].toArray T0 fz0) :: D) ⟨rfl, rfl⟩ (Prm.nil _))
  ·replace hg2 := of_decide_eq_false hg2
   refine RW_gy rfl rfl rfl (Yl.h (Yl_move rfl)) ?_
   refine RW_gy rfl rfl rfl (Yl.h (Yl_len rfl sl_61)) ?_
   refine RW_gy rfl rfl rfl (Yl.h (Yl_gtr rfl rfl)) ?_
   refine RW_l (Yl_pick_f rfl rfl) ?_
   refine RW_lv (ks := [0, 1, 2, 3, 4, 5, 41]) ?_
   refine CW_cond rfl (fun hc3 => ?_) (fun hc3 => ?_)
   ·replace hc3 := of_decide_eq_true hc3
    refine CW_sr ?_
    refine RW_a ?_
    refine RW_lv (ks := [12]) ?_
    refine CW_ret ?_
    refine QW_ret_then ?_
    first
     | exact QW_ret1 rfl rfl ((2, blk ps T) :: (0, Obj.cells [Value.iface U u].toArray T0 fz0) :: D) ⟨rfl, rfl⟩ (Prm.nil _)
     | (refine QW_sub (H' := (2, blk ps T) :: (0, Obj.cells [Value.iface U u].toArray T0 fz0) :: (D ++ F)) (.cons _ (.cons_cons _ (.cons_cons _ (.cons _ (List.sublist_append_right _ _))))) ?_; exact QW_ret1 rfl rfl ((2, blk ps T) :: (0, Obj.cells [Value.iface U u].toArray T0 fz0) :: D) ⟨rfl, rfl⟩ (Prm.nil _))
     | (refine QW_sub (H' := (2, blk ps T) :: (0, Obj.cells [Value.iface U u].toArray T0 fz0) :: (D ++ F)) (.cons _ (.cons_cons _ (.cons_cons _ (.cons _ (.cons _ (.cons _ (List.Sublist.trans (.cons _ (List.sublist_append_right _ _)) (List.sublist_append_right _ _)))))))) ?_; exact QW_ret1 rfl rfl ((2, blk ps T) :: (0, Obj.cells [Value.iface U u].toArray T0 fz0) :: D) ⟨rfl, rfl⟩ (Prm.nil _))
   ·replace hc3 := of_decide_eq_false hc3
    refine (CW_skip (QW_lv (ks := [0, 1, 2, 3, 4, 5]) ?_))
    refine CW_seq ?_
    refine CW_sr ?_
    refine RW_m ?_
    refine RW_m ?_
    refine RW_fx rfl rfl rfl (Fx_callQ ok_13 (vs := [.slice pN nN cN, .slice pD nD cD]) (R := fun v => v = .bool (decide (nN ≤ 100 ∧ nD ≤ 1000))) rfl (Pick.nil _) (few_ct pN pD nN cN nD cD)) ?_
    rintro _ _ ⟨rfl, rfl⟩
    refine RW_l (Yl_not rfl) ?_
    refine RW_m ?_
    refine RW_bool 46 rfl (fun hg4 => ?_) (fun hg4 => ?_)
    ·skip
     refine RW_skip rfl rfl rfl ?_
     refine RW_skip rfl rfl rfl ?_
     refine RW_skip rfl rfl rfl ?_
     refine RW_l (Yl_pick_t rfl rfl) ?_
     refine RW_lv (ks := [0, 1, 2, 3, 4, 5, 50]) ?_
     refine CW_true rfl ?_
     refine CW_sr ?_
     refine RW_a ?_
     refine RW_lv (ks := [12]) ?_
     refine CW_ret ?_
     refine QW_ret_then ?_
     first
      | exact QW_ret1 rfl rfl ((2, blk ps T) :: (0, Obj.cells [Value.iface U u].toArray T0 fz0) :: D) ⟨rfl, rfl⟩ (Prm.nil _)
      | (refine QW_sub (H' := (2, blk ps T) :: (0, Obj.cells [Value.iface U u].toArray T0 fz0) :: (D ++ F)) (.cons _ (.cons_cons _ (.cons_cons _ (.cons _ (List.sublist_append_right _ _))))) ?_; exact QW_ret1 rfl rfl ((2, blk ps T) :: (0, Obj.cells [Value.iface U u].toArray T0 fz0) :: D) ⟨rfl, rfl⟩ (Prm.nil _))
      | (refine QW_sub (H' := (2, blk ps T) :: (0, Obj.cells [Value.iface U u].toArray T0 fz0) :: (D ++ F)) (.cons _ (.cons_cons _ (.cons_cons _ (.cons _ (.cons _ (.cons _ (List.Sublist.trans (.cons _ (List.sublist_append_right _ _)) (List.sublist_append_right _ _)))))))) ?_; exact QW_ret1 rfl rfl ((2, blk ps T) :: (0, Obj.cells [Value.iface U u].toArray T0 fz0) :: D) ⟨rfl, rfl⟩ (Prm.nil _))
    ·skip
     have hfew : nN ≤ 100 ∧ nD ≤ 1000 := by simpa using hg4
     refine RW_gy rfl rfl rfl (Yl.h (Yl_move rfl)) ?_
     refine RW_gy rfl rfl rfl (Yl.h (Yl_len rfl sl_61)) ?_
     refine RW_gy rfl rfl rfl (Yl.h (Yl_gtr rfl rfl)) ?_
     refine RW_l (Yl_pick_f rfl rfl) ?_
     refine RW_lv (ks := [0, 1, 2, 3, 4, 5, 50]) ?_
     refine CW_cond rfl (fun hc5 => ?_) (fun hc5 => ?_)
     ·replace hc5 := of_decide_eq_true hc5
      refine CW_sr ?_
      refine RW_a ?_
      refine RW_lv (ks := [12]) ?_
      refine CW_ret ?_
      refine QW_ret_then ?_
      first
       | exact QW_ret1 rfl rfl ((2, blk ps T) :: (0, Obj.cells [Value.iface U u].toArray T0 fz0) :: D) ⟨rfl, rfl⟩ (Prm.nil _)
       | (refine QW_sub (H' := (2, blk ps T) :: (0, Obj.cells [Value.iface U u].toArray T0 fz0) :: (D ++ F)) (.cons _ (.cons_cons _ (.cons_cons _ (.cons _ (List.sublist_append_right _ _))))) ?_; exact QW_ret1 rfl rfl ((2, blk ps T) :: (0, Obj.cells [Value.iface U u].toArray T0 fz0) :: D) ⟨rfl, rfl⟩ (Prm.nil _))
       | (refine QW_sub (H' := (2, blk ps T) :: (0, Obj.cells [Value.iface U u].toArray T0 fz0) :: (D ++ F)) (.cons _ (.cons_cons _ (.cons_cons _ (.cons _ (.cons _ (.cons _ (List.Sublist.trans (.cons _ (List.sublist_append_right _ _)) (List.sublist_append_right _ _)))))))) ?_; exact QW_ret1 rfl rfl ((2, blk ps T) :: (0, Obj.cells [Value.iface U u].toArray T0 fz0) :: D) ⟨rfl, rfl⟩ (Prm.nil _))
     ·replace hc5 := of_decide_eq_false hc5
      refine (CW_skip (QW_lv (ks := [0, 1, 2, 3, 4, 5]) ?_))
      refine CW_seq ?_
      have hnodes := nodesOf_ct nN cN nD cD pN pD ((2, blk ps T) :: (0, Obj.cells [Value.iface U u].toArray T0 fz0) :: D) hN hD (by omega) hcN (by omega)
      refine CW_region ?_
      refine RW_m ?_
      refine RW_m ?_
      refine RW_fx rfl rfl rfl (Fx_call ok_14 (vs := [.slice pN nN cN, .slice pD nD cD]) rfl (Pick.cons (by repeat (first | exact Rem.here _ _ | apply Rem.there)) (Pick.cons (by repeat (first | exact Rem.here _ _ | apply Rem.there)) (pick_app D F))) hnodes) ?_
      rintro _ _ ⟨_, ⟨ns, g, cap, rn, rfl, hno, hfit, rfl⟩, rfl⟩
      simp only [List.cons_append, List.append_assoc]
      refine RW_a ?_
      refine RW_lv (ks := [2, 3, 4, 5, 13]) ?_
      refine CW_seq ?_
      have hxs := hno.xs
      have hw := write_ct g cap (verF four) st ns rn _ rfl hxs hno.ok (by rcases verF_or four with e | e <;> omega) (by omega)
      refine CW_region ?_
      refine RW_m ?_
      refine RW_m ?_
      refine RW_fx rfl rfl rfl (Fx_callQ ok_16 (vs := [.bool four]) (R := fun v => v = nv (verF four)) rfl (Pick.nil _) (versionOf_ct four)) ?_
      rintro _ _ ⟨rfl, rfl⟩
      refine RW_m ?_
      refine RW_l (Yl_conv (c := (st : Int)) rfl in_5 in_3 (wi64 (by omega) (by omega))) ?_
      refine RW_fx rfl rfl rfl (Fx_call ok_15 (vs := [.slice (some ⟨g, 0, none⟩) ns.length cap, nv (verF four), nv st]) rfl (Pick.cons (by repeat (first | exact Rem.here _ _ | apply Rem.there)) (pick_app (nmsH ns) _)) hw) ?_
      rintro _ _ ⟨_, ⟨gI, rfl, rfl⟩, rfl⟩
      simp only [List.cons_append]
      refine RW_a ?_
      refine RW_lv (ks := [4, 5, 13, 14]) ?_
      refine CW_seq ?_
      refine CW_heap (perm_front ((gI, blk (bys (writeF (verF four) st (ns.map Nm.nd))) 5) :: (g, blk (nms ns ++ rn) 43) :: nmsH ns) [(2, blk ps T), (0, Obj.cells [Value.iface U u].toArray T0 fz0)] (D ++ F)) ?_
      simp only [List.cons_append, List.nil_append]
      obtain ⟨o, ho, hok, hond, hol, hbad, hout, hpth⟩ := hno.travs (verF four)
      have hnl := hno.len
      have hsto := streamOf_ct ns g cap tn rn o htn (by omega) (by omega) ho (fun k hk => (hok k).1 hk)
      refine CW_region ?_
      refine RW_m ?_
      refine RW_m ?_
      refine RW_fx rfl rfl rfl (Fx_call ok_19 (vs := [.slice (some ⟨g, 0, none⟩) ns.length cap, .int .u8 (tn : Int)]) rfl (Pick.cons (by repeat (first | exact Rem.here _ _ | apply Rem.there)) (Pick.nil _)) hsto) ?_
      rintro _ _ ⟨_, ⟨en, kk, bs, rfl, hfound, rfl⟩, rfl⟩
      simp only [List.cons_append, List.nil_append]
      refine RW_m ?_
      refine RW_l (Yl_extract (v := nv en) rfl rfl) ?_
      refine RW_l (Yl_extract (v := nv kk) rfl rfl) ?_
      refine RW_l (Yl_extract (v := .bool bs) rfl rfl) ?_
      refine RW_a ?_
      refine RW_a ?_
      refine RW_a ?_
      refine RW_lv (ks := [5, 13, 14, 15, 16, 17]) ?_
      refine CW_seq ?_
      refine CW_sr ?_
      refine RW_m ?_
      refine RW_l (Yl_not rfl) ?_
      refine RW_m ?_
      refine RW_bool 69 rfl (fun hg6 => ?_) (fun hg6 => ?_)
      ·skip
       refine RW_skip rfl rfl rfl ?_
       refine RW_skip rfl rfl rfl ?_
       refine RW_skip rfl rfl rfl ?_
       refine RW_l (Yl_pick_t rfl rfl) ?_
       refine RW_m ?_
       refine RW_skip rfl rfl rfl ?_
       refine RW_skip rfl rfl rfl ?_
       refine RW_skip rfl rfl rfl ?_
       refine RW_skip rfl rfl rfl ?_
       refine RW_skip rfl rfl rfl ?_
       refine RW_skip rfl rfl rfl ?_
       refine RW_skip rfl rfl rfl ?_
       refine RW_l (Yl_pick_t rfl rfl) ?_
       refine RW_lv (ks := [5, 13, 14, 15, 16, 82]) ?_
       refine CW_true rfl ?_
       refine CW_sr ?_
       refine RW_a ?_
       refine RW_lv (ks := [12]) ?_
       refine CW_ret ?_
       refine QW_ret_then ?_
       first
        | exact QW_ret1 rfl rfl ((2, blk ps T) :: (0, Obj.cells [Value.iface U u].toArray T0 fz0) :: D) ⟨rfl, rfl⟩ (Prm.nil _)
        | (refine QW_sub (H' := (2, blk ps T) :: (0, Obj.cells [Value.iface U u].toArray T0 fz0) :: (D ++ F)) (.cons _ (.cons_cons _ (.cons_cons _ (.cons _ (List.sublist_append_right _ _))))) ?_; exact QW_ret1 rfl rfl ((2, blk ps T) :: (0, Obj.cells [Value.iface U u].toArray T0 fz0) :: D) ⟨rfl, rfl⟩ (Prm.nil _))
        | (refine QW_sub (H' := (2, blk ps T) :: (0, Obj.cells [Value.iface U u].toArray T0 fz0) :: (D ++ F)) (.cons _ (.cons_cons _ (.cons_cons _ (.cons _ (.cons _ (.cons _ (List.Sublist.trans (.cons _ (List.sublist_append_right _ _)) (List.sublist_append_right _ _)))))))) ?_; exact QW_ret1 rfl rfl ((2, blk ps T) :: (0, Obj.cells [Value.iface U u].toArray T0 fz0) :: D) ⟨rfl, rfl⟩ (Prm.nil _))
      ·skip
       have hb1 : bs = true := by simpa using hg6
       refine RW_gy rfl rfl rfl (Yl.h (Yl_move rfl)) ?_
       refine RW_gy rfl rfl rfl (Yl.h (Yl_len rfl sl_23)) ?_
       refine RW_gy rfl rfl rfl (Yl.h (Yl_gtr rfl rfl)) ?_
       refine RW_l (Yl_pick_f rfl rfl) ?_
       refine RW_m ?_
       refine RW_bool 74 rfl (fun hg7 => ?_) (fun hg7 => ?_)
       ·replace hg7 := of_decide_eq_true hg7
        refine RW_skip rfl rfl rfl ?_
        refine RW_skip rfl rfl rfl ?_
        refine RW_skip rfl rfl rfl ?_
        refine RW_skip rfl rfl rfl ?_
        refine RW_skip rfl rfl rfl ?_
        refine RW_skip rfl rfl rfl ?_
        refine RW_skip rfl rfl rfl ?_
        refine RW_l (Yl_pick_t rfl rfl) ?_
        refine RW_lv (ks := [5, 13, 14, 15, 16, 82]) ?_
        refine CW_true rfl ?_
        refine CW_sr ?_
        refine RW_a ?_
        refine RW_lv (ks := [12]) ?_
        refine CW_ret ?_
        refine QW_ret_then ?_
        first
         | exact QW_ret1 rfl rfl ((2, blk ps T) :: (0, Obj.cells [Value.iface U u].toArray T0 fz0) :: D) ⟨rfl, rfl⟩ (Prm.nil _)
         | (refine QW_sub (H' := (2, blk ps T) :: (0, Obj.cells [Value.iface U u].toArray T0 fz0) :: (D ++ F)) (.cons _ (.cons_cons _ (.cons_cons _ (.cons _ (List.sublist_append_right _ _))))) ?_; exact QW_ret1 rfl rfl ((2, blk ps T) :: (0, Obj.cells [Value.iface U u].toArray T0 fz0) :: D) ⟨rfl, rfl⟩ (Prm.nil _))
         | (refine QW_sub (H' := (2, blk ps T) :: (0, Obj.cells [Value.iface U u].toArray T0 fz0) :: (D ++ F)) (.cons _ (.cons_cons _ (.cons_cons _ (.cons _ (.cons _ (.cons _ (List.Sublist.trans (.cons _ (List.sublist_append_right _ _)) (List.sublist_append_right _ _)))))))) ?_; exact QW_ret1 rfl rfl ((2, blk ps T) :: (0, Obj.cells [Value.iface U u].toArray T0 fz0) :: D) ⟨rfl, rfl⟩ (Prm.nil _))
       ·replace hg7 := of_decide_eq_false hg7
        obtain ⟨he1, he2, he3⟩ := hfound hb1
        have hkk0 := hno.notroot he3
        have hkn : kk < ns.length := by
         have hoi : o.getD en default ∈ o := by rw [List.getD_eq_getElem?_getD, List.getElem?_eq_getElem he1]; exact List.getElem_mem _
         rw [← he2]; exact (hok _).1 (List.mem_map.2 ⟨_, hoi, rfl⟩)
        obtain ⟨x1, hx⟩ : ∃ x, ns.getD kk default = x := ⟨_, rfl⟩
        have hx1 : x1.ok := by rw [← hx]; exact hno.ok_at hkn
        have hxm := nmsH_mem hkn
        rw [hx] at hxm
        have hx9 := hx1.small
        have hxf := hx1.fit
        have hN1 : (nmF4 four ns) ≤ 131072 := by show NF (verF four) (ns.map Nm.nd) ≤ 131072; omega
        refine RW_gy rfl rfl rfl (Yl.h (Yl_move rfl)) ?_
        refine RW_gy rfl rfl rfl (Yl.h (Yl_move rfl)) ?_
        refine RW_gy rfl rfl rfl (Yl.h (Yl_indexN (b := g) (off := 0) (i := kk) (o' := kk * 28) rfl rfl sl_25 (by omega) (by omega))) ?_
        refine RW_gy rfl rfl rfl (Yl.h (Yl_field rfl fo_43_2)) ?_
        refine RW_gy rfl rfl rfl (Yh_load (v := x1.slice) rfl sc_23 (by repeat (first | exact List.Mem.head _ | apply List.Mem.tail)) (by rw [nms_cell _ _ _ 2 hkn (by omega), hx]; rfl)) ?_
        refine RW_gy rfl rfl rfl (Yl.h (Yl_len rfl sl_23)) ?_
        refine RW_gy rfl rfl rfl (Yl.h (Yl_eql rfl rfl)) ?_
        refine RW_l (Yl_pick_f rfl rfl) ?_
        refine RW_lv (ks := [5, 13, 14, 15, 16, 82]) ?_
        refine CW_cond rfl (fun hc8 => ?_) (fun hc8 => ?_)
        ·replace hc8 := of_decide_eq_true hc8
         refine CW_sr ?_
         refine RW_a ?_
         refine RW_lv (ks := [12]) ?_
         refine CW_ret ?_
         refine QW_ret_then ?_
         first
          | exact QW_ret1 rfl rfl ((2, blk ps T) :: (0, Obj.cells [Value.iface U u].toArray T0 fz0) :: D) ⟨rfl, rfl⟩ (Prm.nil _)
          | (refine QW_sub (H' := (2, blk ps T) :: (0, Obj.cells [Value.iface U u].toArray T0 fz0) :: (D ++ F)) (.cons _ (.cons_cons _ (.cons_cons _ (.cons _ (List.sublist_append_right _ _))))) ?_; exact QW_ret1 rfl rfl ((2, blk ps T) :: (0, Obj.cells [Value.iface U u].toArray T0 fz0) :: D) ⟨rfl, rfl⟩ (Prm.nil _))
          | (refine QW_sub (H' := (2, blk ps T) :: (0, Obj.cells [Value.iface U u].toArray T0 fz0) :: (D ++ F)) (.cons _ (.cons_cons _ (.cons_cons _ (.cons _ (.cons _ (.cons _ (List.Sublist.trans (.cons _ (List.sublist_append_right _ _)) (List.sublist_append_right _ _)))))))) ?_; exact QW_ret1 rfl rfl ((2, blk ps T) :: (0, Obj.cells [Value.iface U u].toArray T0 fz0) :: D) ⟨rfl, rfl⟩ (Prm.nil _))
        ·replace hc8 := of_decide_eq_false hc8
         refine (CW_skip (QW_lv (ks := [5, 13, 14, 15, 16]) ?_))
         refine CW_sr ?_
         refine RW_m ?_
         refine RW_m ?_
         refine RW_l (Yl_indexN (b := g) (off := 0) (i := kk) (o' := kk * 28) rfl rfl sl_25 (by omega) (by omega)) ?_
         refine RW_l (Yl_field rfl fo_43_2) ?_
         refine RW_h (Yh_load (v := x1.slice) rfl sc_23 (by repeat (first | exact List.Mem.head _ | apply List.Mem.tail)) (by rw [nms_cell _ _ _ 2 hkn (by omega), hx]; rfl)) ?_
         refine RW_a ?_
         refine RW_lv (ks := [5, 14, 15, 18]) ?_
         refine CW_sr ?_
         refine RW_l (Yl_build (cs := (Pl.rd 1).cells) pl_53 ze_53 rfl rfl) ?_
         refine RW_fx rfl rfl rfl (Fx_lit (vs := [.agg (Pl.rd 1).cells.toArray]) (css := [(Pl.rd 1).cells]) (cs := (Pl.rd 1).cells) sl_51 ze_53 rfl rfl rfl rfl rfl (by intro c hc; rw [List.mem_singleton.1 hc]; exact Pl.len5 _) (by simp)) ?_
         rintro _ _ ⟨b89, rfl, rfl⟩
         refine RW_a ?_
         refine RW_lv (ks := [5, 14, 15, 18, 19]) ?_
         refine CW_seq ?_
         refine CW_seq ?_
         have hpos : 0 < x1.nd.data.length := by omega
         refine CW_region ?_
         refine RW_m ?_
         refine RW_l (Yl_len rfl sl_61) ?_
         refine RW_m ?_
         refine RW_lv (ks := [14, 15, 18, 19, 90, 91, 92]) ?_
         refine CW_block ?_
         refine CW_lp (σ := Nat × Nat × Nat × List Value) (fun q => [(14, .slice (some ⟨gI, 0, none⟩) (nmF4 four ns) (nmF4 four ns)), (15, nv en), (18, x1.slice), (19, .slice (some ⟨q.2.1, 0, none⟩) (q.1 + 1) q.2.2.1), (90, .slice pA nA cA), (91, nv nA), (92, nv q.1)]) (fun q => (q.2.1, blk (((raP zs x1.nd.data.length q.1).map Pl.cells).flatten ++ q.2.2.2) 53) :: (g, blk (nms ns ++ rn) 43) :: (2, blk ps T) :: (0, Obj.cells [Value.iface U u].toArray T0 fz0) :: (gI, blk (bys (wrF4 four st ns)) 5) :: (nmsH ns ++ (D ++ F))) (fun q => q.1 ≤ nA ∧ (((raP zs x1.nd.data.length q.1).map Pl.cells).flatten ++ q.2.2.2).length = q.2.2.1 * 5) (fun q => nA - q.1) (0, b89, 1, []) ⟨Nat.zero_le _, rfl⟩ ?_
         rintro ⟨j, gs, cs, rs0⟩ ⟨hj, hlen⟩
         simp only at hj hlen ⊢
         refine CW_sr ?_
         refine RW_l (Yl_lss rfl rfl) ?_
         refine RW_lv (ks := [14, 15, 18, 19, 90, 91, 92, 93]) ?_
         refine CW_seq ?_
         refine CW_cond rfl (fun hc9 => ?_) (fun hc9 => ?_)
         ·replace hc9 := of_decide_eq_true hc9
          refine (CW_skip (QW_lv (ks := [14, 15, 18, 19, 90, 91, 92]) ?_))
          refine CW_seq ?_
          refine CW_block ?_
          refine CW_seq ?_
          rcases hA with hA | ⟨bA, oA, lA, TA, fA, rfl, hmA, hzA⟩
          ·rw [hA] at hzl; simp at hzl; omega
          have hz1 := (hzA j (by omega)).1
          have hz2 := Nat.mod_lt (zs.getD j 0) hpos
          refine CW_region ?_
          refine RW_m ?_
          refine RW_l (Yl_indexN (b := bA) (off := oA) (i := j) (o' := oA + j) rfl rfl sl_61 (by omega) (by omega)) ?_
          refine RW_h (Yh_load (v := .int .u16 ((zs.getD j 0 : Nat) : Int)) rfl sc_47 (List.mem_cons_of_mem _ (List.mem_cons_of_mem _ (mem_pre hmA))) (hzA j (by omega)).2) ?_
          refine RW_a ?_
          refine RW_a ?_
          refine RW_lv (ks := [14, 15, 18, 19, 20, 21, 90, 91, 92]) ?_
          refine CW_sr ?_
          refine RW_m ?_
          refine RW_l (Yl_conv (c := ((zs.getD j 0 : Nat) : Int)) rfl in_47 in_3 (wi64 (by omega) (by omega))) ?_
          refine RW_m ?_
          refine RW_l (Yl_len rfl sl_23) ?_
          refine RW_l (Yl_rem (c := ((zs.getD j 0 % x1.nd.data.length : Nat) : Int)) rfl rfl (by omega) (remN (zs.getD j 0) x1.nd.data.length)) ?_
          refine RW_a ?_
          refine RW_lv (ks := [14, 15, 18, 19, 20, 21, 22, 90, 91, 92]) ?_
          refine CW_region ?_
          refine RW_m ?_
          refine RW_m ?_
          refine RW_m ?_
          refine RW_l (Yl_len rfl sl_23) ?_
          refine RW_m ?_
          refine RW_l (Yl_sub (c := ((x1.nd.data.length - zs.getD j 0 % x1.nd.data.length : Nat) : Int)) rfl rfl (by rw [wi64 (by omega) (by omega)]; omega)) ?_
          refine RW_m ?_
          refine RW_l (Yl_conv (c := ((zs.getD j 0 : Nat) : Int)) rfl in_47 in_3 (wi64 (by omega) (by omega))) ?_
          refine RW_l (Yl_mul (c := ((zs.getD j 0 * 7 : Nat) : Int)) rfl rfl (mulN (a := zs.getD j 0) (b := 7) (by omega))) ?_
          refine RW_m ?_
          refine RW_l (Yl_add (c := ((zs.getD j 0 * 7 + j : Nat) : Int)) rfl rfl (wi64 (by omega) (by omega))) ?_
          refine RW_l (Yl_rem (c := (((zs.getD j 0 * 7 + j) % 600 : Nat) : Int)) rfl rfl (by omega) (remN (zs.getD j 0 * 7 + j) 600)) ?_
          refine RW_l (Yl_add (c := ((1 + (zs.getD j 0 * 7 + j) % 600 : Nat) : Int)) rfl rfl (wi64 (by omega) (by omega))) ?_
          refine RW_l (Yl_minN (m := x1.nd.data.length - zs.getD j 0 % x1.nd.data.length) (n := 1 + (zs.getD j 0 * 7 + j) % 600) rfl rfl) ?_
          refine RW_l (Yl_build (cs := (raOf zs x1.nd.data.length j).cells) pl_53 ze_53 rfl rfl) ?_
          refine RW_fx rfl rfl rfl (Fx_lit (vs := [.agg (raOf zs x1.nd.data.length j).cells.toArray]) (css := [(raOf zs x1.nd.data.length j).cells]) (cs := (raOf zs x1.nd.data.length j).cells) sl_51 ze_53 rfl rfl rfl rfl rfl (by intro c hc; rw [List.mem_singleton.1 hc]; exact Pl.len5 _) (by simp)) ?_
          rintro _ _ ⟨b117, rfl, rfl⟩
          refine RW_fx rfl rfl rfl (Fx_appTG (xs := ((raP zs x1.nd.data.length j).map Pl.cells).flatten) (r := rs0) (news := (raOf zs x1.nd.data.length j).cells) (T := 53) (n := j + 1) (cap := cs) (m := 1) (c := 1) rfl rfl sl_51 by_53 ze_53 rfl (.here _ _) (.here _ _) hlen (by rw [len_pl, raP_len]) (by rw [Pl.len5]) (Pl.one5 _) (by omega) (by omega) (by omega)) ?_
          rintro _ _ ⟨gs', cs', rs', rfl, hlen', rfl⟩
          refine RW_a ?_
          refine RW_nil ?_
          refine QW_normal_block ?_
          refine (QW_lv (ks := [14, 15, 18, 19, 90, 91, 92]) ?_)
          refine CW_region ?_
          refine RW_l (Yl_add (c := ((j + 1 : Nat) : Int)) rfl rfl (wi64 (by omega) (by omega))) ?_
          refine RW_m ?_
          refine RW_nil ?_
          rw [flat_pl, raP_succ]
          rw [flat_pl, raP_succ] at hlen'
          exact QW_rn (j + 1, gs', cs', rs') ⟨by simp only; omega, hlen'⟩ (by simp only; omega)
         ·replace hc9 := of_decide_eq_false hc9
          refine CW_exit ?_
          refine QW_exit_then ?_
          refine QW_exit_then ?_
          refine QW_exit_block ?_
          refine (QW_lv (ks := [14, 15, 18, 19]) ?_)
          refine CW_seq ?_
          have hjn : j = nA := by omega
          subst hjn
          refine CW_region ?_
          refine RW_m ?_
          refine RW_l (Yl_build (cs := (Pl.rd 1).cells) pl_53 ze_53 rfl rfl) ?_
          refine RW_fx rfl rfl rfl (Fx_lit (vs := [.agg (Pl.rd 1).cells.toArray]) (css := [(Pl.rd 1).cells]) (cs := (Pl.rd 1).cells) sl_51 ze_53 rfl rfl rfl rfl rfl (by intro c hc; rw [List.mem_singleton.1 hc]; exact Pl.len5 _) (by simp)) ?_
          rintro _ _ ⟨b122, rfl, rfl⟩
          refine RW_fx rfl rfl rfl (Fx_appTG (xs := ((raP zs x1.nd.data.length j).map Pl.cells).flatten) (r := rs0) (news := (Pl.rd 1).cells) (T := 53) (n := j + 1) (cap := cs) (m := 1) (c := 1) rfl rfl sl_51 by_53 ze_53 rfl (.here _ _) (.here _ _) hlen (by rw [len_pl, raP_len]) (by rw [Pl.len5]) (Pl.one5 _) (by omega) (by omega) (by omega)) ?_
          rintro _ _ ⟨gs2, cs2, rs2, rfl, hlen2, rfl⟩
          rw [flat_pl] at hlen2
          rw [flat_pl]
          refine RW_a ?_
          refine RW_lv (ks := [14, 15, 18, 19]) ?_
          refine CW_seq ?_
          have hst20 := Steps_pl (T := T) (four := four) (st := st) (u := u) (T0 := T0) (fz0 := fz0) hp hno hok hbad hout (by omega) hN1 gI gs2 cs2 en kk he1 rs2 he2 hkk0 he3 hU x1.nd.data (by rw [hx]) (raP zs x1.nd.data.length j ++ [Pl.rd 1]) (j + 1 + 1) (by rw [List.length_append, raP_len]; rfl) (raP_all zs hpos j) (by omega)
          refine CW_region ?_
          refine RW_m ?_
          refine RW_m ?_
          refine RW_m ?_
          refine RW_fx rfl rfl rfl (Fx_call ok_20 (vs := [.slice (some ⟨gI, 0, none⟩) (nmF4 four ns) (nmF4 four ns), nv en, .slice (some ⟨gs2, 0, none⟩) (j + 1 + 1) cs2]) rfl (Pick.cons (by repeat (first | exact Rem.here _ _ | apply Rem.there)) (Pick.cons (by repeat (first | exact Rem.here _ _ | apply Rem.there)) (Pick.cons (by repeat (first | exact Rem.here _ _ | apply Rem.there)) (Pick.cons (by repeat (first | exact Rem.here _ _ | apply Rem.there)) (Pick.nil _))))) hst20) ?_
          rintro _ _ ⟨_, ⟨gR, cR, rR, rs, b2, cap2, r2, RB, rfl, hrsl, hoR, hall, rfl⟩, rfl⟩
          rcases gR with _ | gR
          ·exact absurd hoR.1 (by omega)
          simp only [List.cons_append, List.append_assoc, List.nil_append]
          refine RW_m ?_
          refine RW_l (Yl_extract (v := .slice (some ⟨gR, 0, none⟩) (j + 1 + 1) cR) rfl rfl) ?_
          refine RW_l (Yl_extract (v := .slice (some ⟨b2, 0, none⟩) (nmF4 four ns) cap2) rfl rfl) ?_
          refine RW_l (Yl_extract (v := .bool true) rfl rfl) ?_
          refine RW_a ?_
          refine RW_a ?_
          refine RW_a ?_
          refine RW_lv (ks := [18, 19, 23, 25]) ?_
          refine CW_seq ?_
          refine CW_seq ?_
          have hrs3 : ∀ y ∈ rs, y.length = 3 := by
           intro y hy
           obtain ⟨a, ha, rfl⟩ := List.mem_iff_getElem.1 hy
           obtain ⟨dv, h1, -⟩ := hall a (by omega)
           rw [List.getD_eq_getElem?_getD, List.getElem?_eq_getElem ha] at h1
           rw [show rs[a] = _ from h1]; rfl
          obtain ⟨dv0, hdv0, hsl0⟩ := hall 0 (by omega)
          replace hsl0 : Sl RB dv0 ((x1.nd.data.drop 0).take 1) := hsl0
          obtain ⟨dvL, hdvL, hslL⟩ := hall (j + 1) (by omega)
          have hlast : (raP zs x1.nd.data.length j ++ [Pl.rd 1]).getD (j + 1) default = Pl.rd 1 := by have := pl_last (raP zs x1.nd.data.length j) (Pl.rd 1); rwa [raP_len] at this
          have hposL : posA x1.nd.data.length (raP zs x1.nd.data.length j ++ [Pl.rd 1]) (j + 1) = 1 := by rw [posA_app _ _ _ (by rw [raP_len]; exact Nat.le_refl _)]; exact raP_pos zs hpos j
          rw [hlast, hposL] at hdvL hslL
          replace hslL : Sl RB dvL ((x1.nd.data.drop 1).take 1) := hslL
          have hcR : (j + 1 + 1) ≤ cR := by have h1 := hoR.1; have h2 := hoR.2; rw [List.length_append] at h1; omega
          refine CW_draw [] _ mixed (Sub.refl _) ?_
          refine RD_l 0 rfl (Yl_move rfl) ?_
          refine RD_l 1 rfl (Yl_not rfl) ?_
          refine RD_l 2 rfl (Yl_move rfl) ?_
          refine RD_l 3 rfl (Yl_move rfl) ?_
          refine RD_l 4 rfl (Yl_len rfl sl_54) ?_
          refine RD_l 5 rfl (Yl_move rfl) ?_
          refine RD_l 6 rfl (Yl_len rfl sl_51) ?_
          refine RD_l 7 rfl (Yl_neqB false rfl rfl (decide_eq_false (fun h => h rfl))) ?_
          refine RD_l 8 rfl (Yl_pick_f rfl rfl) ?_
          refine RD_l 9 rfl (Yl_move rfl) ?_
          refine RD_l 10 rfl (Yl_move rfl) ?_
          refine RD_l 11 rfl (Yl_indexN (b := gR) (off := 0) (i := 0) (o' := 0) rfl rfl sl_54 (by omega) (by omega)) ?_
          refine RD_l 12 rfl (Yl_field rfl fo_58_0) ?_
          refine RD_l 14 rfl (Yl_move rfl) ?_
          refine RD_l 15 rfl (Yl_cutHG (h := 1) rfl rfl sl_23 (by omega)) ?_
          refine RD_h (i := 13) #[true, true, true, true, true, true, true, true, true, true, true, true, true, false, true, true, false, false, false] rfl rfl rfl rfl (by kernel_rfl) (fun _ _ _ h => h) (Yh_load (v := dv0) rfl sc_23 (by repeat (first | exact List.Mem.head _ | apply List.Mem.tail)) (by rw [chunk_cell 3 rs rR 0 0 hrs3 (by omega) (by omega) rfl, hdv0]; rfl)) ?_
          refine RD_one (i := 16) (by kernel_rfl) ?_
          refine RO_fx rfl rfl rfl rfl (Fx_callQ ok_21 (vs := [dv0, .slice (cutAt (x1.b.map fun b => ⟨b, 0, none⟩) x1.cap 0 1) 1 x1.cap]) (R := fun v => v = .bool true) rfl (pick_all _) (same_by _ dv0 (.slice (cutAt (x1.b.map fun b => ⟨b, 0, none⟩) x1.cap 0 1) 1 x1.cap) ((x1.nd.data.drop 0).take 1) (hsl0.by.more fun e he => (by repeat (first | exact List.mem_append_left _ he | apply List.mem_cons_of_mem))) (By.more (Nm.cutH_by hx1 hxm (by omega)) fun e he => (by repeat (first | exact List.mem_append_right _ (List.mem_cons_of_mem _ (List.mem_append_left _ he)) | apply List.mem_cons_of_mem))))) ?_
          rintro _ _ ⟨rfl, rfl⟩
          refine ⟨Or.inr (Sub.refl _), ?_⟩
          refine RD_l 17 rfl (Yl_not rfl) ?_
          refine RD_l 18 rfl (Yl_pick_f rfl rfl) ?_
          refine (RD_done (by kernel_rfl) (QW_lv (ks := [18, 19, 23, 150]) ?_))
          refine CW_false rfl ?_
          refine (CW_skip (QW_lv (ks := [18, 19, 23]) ?_))
          refine CW_seq ?_
          refine CW_sr ?_
          refine RW_m ?_
          refine RW_m ?_
          refine RW_l (Yl_len rfl sl_54) ?_
          refine RW_l (Yl_sub (c := ((j + 1 : Nat) : Int)) rfl rfl (by rw [wi64 (by omega) (by omega)]; omega)) ?_
          refine RW_l (Yl_cutLHN (b := gR) (off := 0) (l := 1) (h := j + 1) (o' := 3) (m' := j) rfl rfl rfl sl_54 (by omega) (by omega) (by omega) rfl (by omega)) ?_
          refine RW_l (Yl_len rfl sl_54) ?_
          refine RW_m ?_
          refine RW_lv (ks := [18, 19, 23, 155, 156, 157]) ?_
          refine CW_block ?_
          refine CW_lp (σ := Nat) (fun i => [(18, x1.slice), (19, .slice (some ⟨gs2, 0, none⟩) (j + 1 + 1) cs2), (23, .slice (some ⟨gR, 0, none⟩) (j + 1 + 1) cR), (155, .slice (some ⟨gR, 3, none⟩) j (cR - 1)), (156, nv j), (157, nv i)]) (fun _ => (b2, blk (bys (wrF4 four st ns) ++ r2) 5) :: (2, blk ps T) :: (0, Obj.cells [Value.iface U u].toArray T0 fz0) :: (gI, blk (bys (wrF4 four st ns)) 5) :: (gs2, blk (((raP zs x1.nd.data.length j ++ [Pl.rd 1]).map Pl.cells).flatten ++ rs2) 53) :: (gR, blk (rs.flatten ++ rR) 58) :: (RB ++ ((g, blk (nms ns ++ rn) 43) :: (nmsH ns ++ (D ++ F))))) (fun i => i ≤ j) (fun i => j - i) 0 (Nat.zero_le _) ?_
          rintro i hi
          refine CW_sr ?_
          refine RW_l (Yl_lss rfl rfl) ?_
          refine RW_lv (ks := [18, 19, 23, 155, 156, 157, 158]) ?_
          refine CW_seq ?_
          refine CW_cond rfl (fun hc10 => ?_) (fun hc10 => ?_)
          ·replace hc10 := of_decide_eq_true hc10
           refine (CW_skip (QW_lv (ks := [18, 19, 23, 155, 156, 157]) ?_))
           refine CW_seq ?_
           refine CW_block ?_
           refine CW_seq ?_
           obtain ⟨dv, hdv, hsl⟩ := hall (i + 1) (by omega)
           obtain ⟨fr, hfr⟩ : ∃ fr, fr = zs.getD i 0 % x1.nd.data.length := ⟨_, rfl⟩
           obtain ⟨nI, hnI⟩ : ∃ nI, nI = min (x1.nd.data.length - fr) (1 + (zs.getD i 0 * 7 + i) % 600) := ⟨_, rfl⟩
           have hfl : fr < x1.nd.data.length := by rw [hfr]; exact Nat.mod_lt _ hpos
           have hra : raOf zs x1.nd.data.length i = Pl.ra fr nI := by unfold raOf; rw [hnI, hfr]
           rw [raP_at zs x1.nd.data.length (by omega), hra] at hdv hsl
           replace hdv : rs.getD (i + 1) [] = [dv, nv (min nI (x1.nd.data.length - fr)), nv (if nI ≤ x1.nd.data.length - fr then 0 else 6)] := hdv
           replace hsl : Sl RB dv ((x1.nd.data.drop fr).take nI) := hsl
           have hdo : dv.oneCell' = true := hsl.one
           refine CW_region ?_
           refine RW_m ?_
           refine RW_l (Yl_indexN (b := gR) (off := 3) (i := i) (o' := (i + 1) * 3) rfl rfl sl_54 (by omega) (by omega)) ?_
           refine RW_h (Yh_loadE (cs := [dv, nv (min nI (x1.nd.data.length - fr)), nv (if nI ≤ x1.nd.data.length - fr then 0 else 6)]) rfl ag_58 (by repeat (first | exact List.Mem.head _ | apply List.Mem.tail)) (by rw [List.length_append, hoR.2]; omega) (by rw [chunk_at 3 _ _ _ hrs3 (by omega)]; exact hdv)) ?_
           refine RW_fx rfl rfl rfl (Fx_alloc (zs := zs_58) ze_58 rfl) ?_
           rintro _ _ ⟨b27, rfl, rfl⟩
           refine RW_a ?_
           refine RW_fx0 rfl rfl (Fx_storeA (b := b27) (off := 0) (l := zs_58) (T := 58) (cs := [dv, nv (min nI (x1.nd.data.length - fr)), nv (if nI ≤ x1.nd.data.length - fr then 0 else 6)]) rfl rfl sz_58 (by intro u hu; simp only [List.mem_cons, List.not_mem_nil, or_false] at hu; rcases hu with hu | hu | hu <;> rw [hu]; exact hdo; rfl; rfl) (by repeat (first | exact Rep.here _ _ _ | apply Rep.there)) (Nat.le_refl 3)) ?_
           rintro _ _ rfl
           rw [spl_full _ _ (by rfl)]
           refine RW_lv (ks := [18, 19, 23, 26, 27, 155, 156, 157]) ?_
           refine CW_sr ?_
           refine RW_m ?_
           refine RW_m ?_
           refine RW_l (Yl_add (c := ((1 + i : Nat) : Int)) rfl rfl (wi64 (by omega) (by omega))) ?_
           refine RW_l (Yl_indexN (b := gs2) (off := 0) (i := 1 + i) (o' := (i + 1) * 5) rfl rfl sl_51 (by omega) (by omega)) ?_
           refine RW_h (Yh_loadE (cs := (Pl.ra fr nI).cells) rfl ag_53 (by repeat (first | exact List.Mem.head _ | apply List.Mem.tail)) (by rw [List.length_append, len_pl, List.length_append, raP_len]; simp only [List.length_singleton]; omega) (by rw [chunk_at 5 _ _ _ (fun y hy => by obtain ⟨s, _, rfl⟩ := List.mem_map.1 hy; exact s.len5) (by rw [List.length_map, List.length_append, raP_len]; omega), map_getD _ (by rw [List.length_append, raP_len]; omega), raP_at zs x1.nd.data.length (by omega), hra])) ?_
           refine RW_fx rfl rfl rfl (Fx_alloc (zs := zs_53) ze_53 rfl) ?_
           rintro _ _ ⟨b28, rfl, rfl⟩
           refine RW_fx0 rfl rfl (Fx_storeA (b := b28) (off := 0) (l := zs_53) (T := 53) (cs := (Pl.ra fr nI).cells) rfl rfl sz_53 (Pl.one5 _) (by repeat (first | exact Rep.here _ _ _ | apply Rep.there)) (Nat.le_refl 5)) ?_
           rintro _ _ rfl
           rw [spl_full _ _ (by rw [Pl.len5]; rfl)]
           refine RW_lv (ks := [18, 19, 23, 27, 28, 155, 156, 157]) ?_
           refine CW_seq ?_
           refine CW_draw [] _ mixed (Sub.refl _) ?_
           refine RD_l 0 rfl (Yl_field rfl fo_58_2) ?_
           refine RD_h (i := 1) #[true, false, false, false, false, false, false, false, false, false, false, false, false, false, false, false, false, false, false, false, false, false, false, false, false] rfl rfl rfl rfl (by kernel_rfl) (fun _ _ _ h => h) (Yh_ld (v := nv (if nI ≤ x1.nd.data.length - fr then 0 else 6)) sc_3) ?_
           refine RD_l 2 rfl (Yl_neqB false rfl rfl (decide_eq_false (fun h => h (by rw [if_pos (by omega)]; rfl)))) ?_
           refine RD_l 3 rfl (Yl_move rfl) ?_
           refine RD_l 4 rfl (Yl_field rfl fo_58_1) ?_
           refine RD_l 6 rfl (Yl_field rfl fo_53_1) ?_
           refine RD_h (i := 5) #[true, true, true, true, true, false, true, true, false, false, false, false, false, false, false, false, false, false, false, false, false, false, false, false, false] rfl rfl rfl rfl (by kernel_rfl) (fun _ _ _ h => h) (Yh_ld (v := nv (min nI (x1.nd.data.length - fr))) sc_2) ?_
           refine RD_h (i := 7) #[true, true, true, true, true, true, true, false, false, false, false, false, false, false, false, false, false, false, false, false, false, false, false, false, false] rfl rfl rfl rfl (by kernel_rfl) (fun _ _ _ h => h) (Yh_ld (v := nv nI) sc_3) ?_
           refine RD_l 8 rfl (Yl_neqB false rfl rfl (decide_eq_false (fun h => h (by omega)))) ?_
           refine RD_l 9 rfl (Yl_pick_f rfl rfl) ?_
           refine RD_l 10 rfl (Yl_move rfl) ?_
           refine RD_l 11 rfl (Yl_field rfl fo_58_0) ?_
           refine RD_l 13 rfl (Yl_move rfl) ?_
           refine RD_l 14 rfl (Yl_field rfl fo_53_2) ?_
           refine RD_l 16 rfl (Yl_field rfl fo_53_2) ?_
           refine RD_l 18 rfl (Yl_field rfl fo_53_1) ?_
           refine RD_h (i := 12) #[true, true, true, true, true, true, true, true, true, true, true, true, false, true, true, true, true, true, true, true, true, true, false, false, false] rfl rfl rfl rfl (by kernel_rfl) (fun _ _ _ h => h) (Yh_ld (v := dv) sc_23) ?_
           refine RD_h (i := 15) #[true, true, true, true, true, true, true, true, true, true, true, true, true, true, true, false, true, true, true, true, true, false, false, false, false] rfl rfl rfl rfl (by kernel_rfl) (fun _ _ _ h => h) (Yh_ld (v := nv fr) sc_2) ?_
           refine RD_h (i := 17) #[true, true, true, true, true, true, true, true, true, true, true, true, true, true, true, true, true, false, true, true, false, false, false, false, false] rfl rfl rfl rfl (by kernel_rfl) (fun _ _ _ h => h) (Yh_ld (v := nv fr) sc_2) ?_
           refine RD_h (i := 19) #[true, true, true, true, true, true, true, true, true, true, true, true, true, true, true, true, true, true, true, false, false, false, false, false, false] rfl rfl rfl rfl (by kernel_rfl) (fun _ _ _ h => h) (Yh_ld (v := nv nI) sc_3) ?_
           refine RD_l 20 rfl (Yl_add (c := ((fr + nI : Nat) : Int)) rfl rfl (wi64 (by omega) (by omega))) ?_
           refine RD_l 21 rfl (Yl_cutN (l := fr) (h := fr + nI) rfl rfl rfl sl_23 (by omega) (by omega)) ?_
           refine RD_one (i := 22) (by kernel_rfl) ?_
           refine RO_fx rfl rfl rfl rfl (Fx_callQ ok_21 (vs := [dv, x1.cut fr (fr + nI)]) (R := fun v => v = .bool true) rfl (pick_all _) (same_by _ dv (x1.cut fr (fr + nI)) ((x1.nd.data.drop fr).take nI) (hsl.by.more fun e he => (by repeat (first | exact List.mem_append_left _ he | apply List.mem_cons_of_mem))) (By.more (by have := Nm.cut_by hx1 hxm (a := fr) (z := fr + nI) (by omega) (by omega); rw [show (x1.nd.data.drop fr).take (fr + nI - fr) = (x1.nd.data.drop fr).take nI by rw [show fr + nI - fr = nI by omega]] at this; exact this) fun e he => (by repeat (first | exact List.mem_append_right _ (List.mem_cons_of_mem _ (List.mem_append_left _ he)) | apply List.mem_cons_of_mem))))) ?_
           rintro _ _ ⟨rfl, rfl⟩
           refine ⟨Or.inr (Sub.refl _), ?_⟩
           refine RD_l 23 rfl (Yl_not rfl) ?_
           refine RD_l 24 rfl (Yl_pick_f rfl rfl) ?_
           refine (RD_done (by kernel_rfl) (QW_lv (ks := [18, 19, 23, 155, 156, 157, 191]) ?_))
           refine CW_false rfl ?_
           refine CW_skip ?_
           refine QW_normal_block ?_
           refine (QW_lv (ks := [18, 19, 23, 155, 156, 157]) ?_)
           refine CW_region ?_
           refine RW_l (Yl_add (c := ((i + 1 : Nat) : Int)) rfl rfl (wi64 (by omega) (by omega))) ?_
           refine RW_m ?_
           refine RW_nil ?_
           refine QW_dropB (e := (b28, _)) (by repeat (first | exact Rem.here _ _ | apply Rem.there)) ?_
           refine QW_dropB (e := (b27, _)) (by repeat (first | exact Rem.here _ _ | apply Rem.there)) ?_
           exact QW_rn (i + 1) (by omega) (by omega)
          ·replace hc10 := of_decide_eq_false hc10
           refine CW_exit ?_
           refine QW_exit_then ?_
           refine QW_exit_then ?_
           refine QW_exit_block ?_
           refine (QW_lv (ks := [18, 23]) ?_)
           refine CW_seq ?_
           refine CW_draw [] _ mixed (Sub.refl _) ?_
           refine RD_l 0 rfl (Yl_move rfl) ?_
           refine RD_l 1 rfl (Yl_move rfl) ?_
           refine RD_l 2 rfl (Yl_len rfl sl_54) ?_
           refine RD_l 3 rfl (Yl_sub (c := ((j + 1 : Nat) : Int)) rfl rfl (by rw [wi64 (by omega) (by omega)]; omega)) ?_
           refine RD_l 4 rfl (Yl_indexN (b := gR) (off := 0) (i := j + 1) (o' := (j + 1) * 3) rfl rfl sl_54 (by omega) (by omega)) ?_
           refine RD_l 5 rfl (Yl_field rfl fo_58_0) ?_
           refine RD_l 7 rfl (Yl_move rfl) ?_
           refine RD_l 8 rfl (Yl_move rfl) ?_
           refine RD_l 9 rfl (Yl_len rfl sl_23) ?_
           refine RD_l 10 rfl (Yl_minN (m := x1.nd.data.length) (n := 2) rfl rfl) ?_
           refine RD_l 11 rfl (Yl_cutN (l := 1) (h := min x1.nd.data.length 2) rfl rfl rfl sl_23 (by omega) (by omega)) ?_
           refine RD_h (i := 6) #[true, true, true, true, true, true, false, true, true, true, true, true, false, false] rfl rfl rfl rfl (by kernel_rfl) (fun _ _ _ h => h) (Yh_load (v := dvL) rfl sc_23 (by repeat (first | exact List.Mem.head _ | apply List.Mem.tail)) (by rw [chunk_cell 3 rs rR (j + 1) 0 hrs3 (by omega) (by omega) (by omega), hdvL]; rfl)) ?_
           refine RD_one (i := 12) (by kernel_rfl) ?_
           refine RO_fx rfl rfl rfl rfl (Fx_callQ ok_21 (vs := [dvL, x1.cut 1 (min x1.nd.data.length 2)]) (R := fun v => v = .bool true) rfl (pick_all _) (same_by _ dvL (x1.cut 1 (min x1.nd.data.length 2)) ((x1.nd.data.drop 1).take 1) (hslL.by.more fun e he => (by repeat (first | exact List.mem_append_left _ he | apply List.mem_cons_of_mem))) (By.more (by have := Nm.cut_by hx1 hxm (a := 1) (z := min x1.nd.data.length 2) (by omega) (by omega); rw [show (x1.nd.data.drop 1).take 1 = (x1.nd.data.drop 1).take (min x1.nd.data.length 2 - 1) by rw [List.take_eq_take_iff, List.length_drop]; omega]; exact this) fun e he => (by repeat (first | exact List.mem_append_right _ (List.mem_cons_of_mem _ (List.mem_append_left _ he)) | apply List.mem_cons_of_mem))))) ?_
           rintro _ _ ⟨rfl, rfl⟩
           refine ⟨Or.inr (Sub.refl _), ?_⟩
           refine RD_l 13 rfl (Yl_assign rfl) ?_
           refine (RD_done (by kernel_rfl) (QW_lv (ks := [12]) ?_))
           refine CW_ret ?_
           first
            | exact QW_ret1 rfl rfl ((2, blk ps T) :: (0, Obj.cells [Value.iface U u].toArray T0 fz0) :: D) ⟨rfl, rfl⟩ (Prm.nil _)
            | (refine QW_sub (H' := (2, blk ps T) :: (0, Obj.cells [Value.iface U u].toArray T0 fz0) :: (D ++ F)) (.cons _ (.cons_cons _ (.cons_cons _ (.cons _ (List.sublist_append_right _ _))))) ?_; exact QW_ret1 rfl rfl ((2, blk ps T) :: (0, Obj.cells [Value.iface U u].toArray T0 fz0) :: D) ⟨rfl, rfl⟩ (Prm.nil _))
            | (refine QW_sub (H' := (2, blk ps T) :: (0, Obj.cells [Value.iface U u].toArray T0 fz0) :: (D ++ F)) (.cons _ (.cons_cons _ (.cons_cons _ (.cons _ (.cons _ (.cons _ (List.Sublist.trans (.cons _ (List.sublist_append_right _ _)) (List.sublist_append_right _ _)))))))) ?_; exact QW_ret1 rfl rfl ((2, blk ps T) :: (0, Obj.cells [Value.iface U u].toArray T0 fz0) :: D) ⟨rfl, rfl⟩ (Prm.nil _))

end Go.Proofs.YtgoddcicbpjknaaDoor

/-! FnReadAt, as its card states it: whatever the numbers, the bytes, the choice, the step, the turn and the places, the call returns true and leaves all that was there as it was. -/
set_option maxRecDepth 100000
namespace Go.Proofs.YtgoddcicbpjknaaDoor.fnReadAt
open Go
open Cfb
open Go.ChangeShapes Go.WideShapes Go.ChangeAt Go.RowKit Go.Clock
theorem contract (H : Type) (enc : TypeId × Value → H) (W : World) (base : Nat) (args : Array Value) (ds gs : List (DataW H)) (before : List MemPlace)
    (hval : ∀ (j : Nat) t v, Tryd.f8.params[j]? = some t → args[j]? = some v → Value.okWide Tryd.prog W .any base t v)
    (hW : DataW.Whole enc Tryd.prog Tryd.f8.params.toList Rows.fnReadAtSpec.vars false W args.toList ds gs before) (hL : laidMetH Tryd.prog Rows.fnReadAtRow.laid W) (hS : W.ShapedOpen Tryd.prog) :
    Calls Tryd.prog 8 args W fun e W' => ∃ v, e = .returned v ∧ W'.os = W.os ∧ Rows.fnReadAtSpec.post enc Tryd.prog Tryd.f8 false true false false W args v W' := by
  have hW' := hW
  obtain ⟨p, q, hA0, hV, rfl, hfz, hnd⟩ := hW
  have hA : DataW.TrodAll enc Tryd.prog W 0 (fun _ => true) true Tryd.f8.params.toList args.toList ds p := hA0
  have hlt : ∀ x ∈ p, x.block < W.heap.size := fun x hx => by simpa using hW'.lt x (List.mem_append_left _ hx)
  have again := fun W' hb => trodAll_again (W' := W') hb _ _ _ _ hA (by rw [Tryd.params8]; kernel_rfl) hlt
  rw [Tryd.params8] at hA hval
  obtain ⟨v0, vs0, d0, ds0, p0, q0, hargs, rfl, rfl, h0, r0⟩ := trodAll_cons hA
  obtain ⟨v1, vs1, d1, ds1, p1, q1, rfl, rfl, rfl, h1, r1⟩ := trodAll_cons r0
  obtain ⟨v2, vs2, d2, ds2, p2, q2, rfl, rfl, rfl, h2, r2⟩ := trodAll_cons r1
  obtain ⟨v3, vs3, d3, ds3, p3, q3, rfl, rfl, rfl, h3, r3⟩ := trodAll_cons r2
  obtain ⟨v4, vs4, d4, ds4, p4, q4, rfl, rfl, rfl, h4, r4⟩ := trodAll_cons r3
  obtain ⟨v5, vs5, d5, ds5, p5, q5, rfl, rfl, rfl, h5, r5⟩ := trodAll_cons r4
  obtain ⟨rfl, rfl, rfl⟩ := trodAll_nil r5
  obtain rfl : args = #[v0, v1, v2, v3, v4, v5] := by cases args; simp_all
  obtain ⟨rfl, rfl⟩ := trodVars_none hV
  obtain ⟨a2, rfl, rfl, rfl⟩ := open_bool Tryd.underlying4 (hval 2 4 v2 rfl rfl) h2
  obtain ⟨a3, rfl, rfl, rfl, w3⟩ := open_int Tryd.underlying5 (hval 3 5 v3 rfl rfl) h3
  obtain ⟨a4, rfl, rfl, rfl, w4⟩ := open_int Tryd.underlying5 (hval 4 5 v4 rfl rfl) h4
  obtain ⟨T, hT⟩ := tab_block (props_tab2 hL) hS
  obtain ⟨U, u, T0, hU, hE⟩ := eof_block hL hS
  obtain ⟨s0, n0, c0, rfl, hc0, hs0⟩ := open_nums un_22 un_67 cells67 (hval 0 22 v0 rfl rfl) h0
  obtain ⟨s1, n1, c1, rfl, hc1, hs1⟩ := open_bytes (hval 1 23 v1 rfl rfl) h1
  obtain ⟨x3, rfl, b3⟩ := u8_nat w3
  obtain ⟨x4, rfl, b4⟩ := u8_nat w4
  obtain ⟨s5, n5, c5, rfl, hc5, hs5⟩ := open_nums un_61 un_47 cells47 (hval 5 61 v5 rfl rfl) h5
  have fin : Calls Tryd.prog 8 #[.slice s0 n0 c0, .slice s1 n1 c1, .bool a2, .int .u8 (x3 : Int), .int .u8 (x4 : Int), .slice s5 n5 c5] W fun e w' => e = .returned (.bool true) ∧ Grown W w' ∧ Below W.heap.size W w' := by
    obtain ⟨N1, y1, z1, k1⟩ := nums_end (W := W) (L := [(2, blk propsV T), (0, blk [.iface U u] T0)]) (by intro p hp; simp only [List.mem_cons, List.not_mem_nil, or_false] at hp; rcases hp with rfl | rfl; exact hT; exact hE) (by simp) hs0
    obtain ⟨N2, y2, z2, k2⟩ := bytes_end y1 z1 hs1
    obtain ⟨N3, zs, y3, z3, hzl, k3⟩ := u16s_end y2 z2 hs5
    have e0 : (([(2, blk propsV T), (0, blk [.iface U u] T0)] ++ N1) ++ N2) ++ N3 = (2, blk propsV T) :: (0, Obj.cells [Value.iface U u].toArray T0 (0, 0)) :: ((N1 ++ N2) ++ N3) := by simp
    have k1' := (k1.mono (List.sublist_append_left _ N2)).mono (List.sublist_append_left _ N3)
    have k2' := k2.mono' (H' := (([(2, blk propsV T), (0, blk [.iface U u] T0)] ++ N1) ++ N2) ++ N3) (fun x hx => List.mem_append_left _ hx)
    rw [e0] at y3 z3 k3 k2' k1'
    exact (FnReadAt_ct n0 c0 n1 c1 x3 x4 s0 s1 a2 b3 b4 propsV T propsV_ok U u hU T0 (0, 0) ((N1 ++ N2) ++ N3) k1' k2' hc0 n5 c5 s5 zs hzl k3).rowB y3 z3
  refine fin.mono fun e W' ⟨he, hg, hb⟩ => ?_
  subst he
  exact ⟨_, rfl, hg.1.1, ⟨_, _, _, [], _, [], hW', trodAll_cons_mk (shut_bool Tryd.underlying4 _) trodAll_mk0, again W' hb, rfl, hg.frame _, fun h => by cases h⟩⟩
/-- A world for the witness. -/
noncomputable def laidWorld (os : Os) : World := World.laidAll Tryd.prog os Rows.fnReadAtRow.laid
theorem laid_met (os : Os) : laidMet Tryd.prog Rows.fnReadAtRow.laid ((laidWorld os).forCall (fun _ _ => 0) ⟨#[], #[.slice none 0 0, .slice none 0 0, .bool false, .int .u8 0, .int .u8 0, .slice none 0 0], []⟩).memory := laidMet_laidAll _ (by kernel_rfl) (by kernel_rfl)
theorem reads (os : Os) {H : Type} (enc : TypeId × Value → H) : ∃ places, DataW.whole enc Tryd.prog ((laidWorld os).forCall (fun _ _ => 0) ⟨#[], #[.slice none 0 0, .slice none 0 0, .bool false, .int .u8 0, .int .u8 0, .slice none 0 0], []⟩).memory Tryd.f8.params.toList Rows.fnReadAtSpec.vars false (#[.slice none 0 0, .slice none 0 0, .bool false, .int .u8 0, .int .u8 0, .slice none 0 0] : Array Value).toList 8 = some ([.nil, .nil, .lit (.bool false), .lit (.int .u8 0), .lit (.int .u8 0), .nil], [], places) :=
  ⟨[], by kernel_rfl⟩
theorem lifted (os : Os) (started : os.Started) (H : Type) (enc : TypeId × Value → H) (F : Stop.Interp) :
    ReturnsInHanded {} Tryd.checked os 8 .any ((OpenSpec.ofChange Rows.fnReadAtSpec).preRow enc Tryd.prog Tryd.f8 Rows.fnReadAtRow.domain false Rows.fnReadAtRow.laid) (((OpenSpec.ofChange Rows.fnReadAtSpec).at F).post enc Tryd.prog Tryd.f8 false true false false) := by
  obtain ⟨places, hx⟩ := reads os enc
  refine returnsInHanded_of_row (C := Tryd.checked) (s := OpenSpec.ofChange Rows.fnReadAtSpec) own started (by kernel_rfl) Tryd.func8
    (witness_row_at (enc := enc) (C := Tryd.checked) false (laidWorld os) #[.slice none 0 0, .slice none 0 0, .bool false, .int .u8 0, .int .u8 0, .slice none 0 0] (World.laidAll_os _ _ _) (by kernel_rfl) (by kernel_rfl) (by kernel_rfl)
      (OpenSpec.preRow_of_cond 8 hx (by kernel_rfl) (fun k hk => by cases hk) (by kernel_rfl) (laid_met os))) ?_
  intro W base args ds gs before hval hW _ _ _ hL hS _
  exact (contract H enc W base args ds gs before hval hW hL hS).mono fun _ _ ⟨v, he, _, hp⟩ => ⟨v, he, hp⟩
/-- The same, where the row lets time pass. -/
theorem liftedT (os : Os) (started : os.Started) (H : Type) (enc : TypeId × Value → H) (F : Stop.Interp) :
    ReturnsInHanded { calm := true } Tryd.checked os 8 .any (fun w args => (Rows.fnReadAtSpec.pre enc Tryd.prog Tryd.f8 [] false w args ∧ laidMetH Tryd.prog Rows.fnReadAtRow.laid w) ∧ sizedMet enc Tryd.prog Tryd.f8 (OpenSpec.ofChange Rows.fnReadAtSpec) false w args)
      ((OpenSpec.ofChange Rows.fnReadAtSpec).postWith enc Tryd.prog Tryd.f8 F (outsideKept [.timePasses]) false true false) := by
  refine returns_of_change (C := Tryd.checked) (X := fun w _ => laidMetH Tryd.prog Rows.fnReadAtRow.laid w) (fun _ _ _ hh h => h.of_heap hh) own started (by kernel_rfl) Tryd.func8
    (witness_at (enc := enc) (C := Tryd.checked) (X := fun w _ => laidMetH Tryd.prog Rows.fnReadAtRow.laid w) (World.laidAll Tryd.prog os Rows.fnReadAtRow.laid) #[.slice none 0 0, .slice none 0 0, .bool false, .int .u8 0, .int .u8 0, .slice none 0 0] 8 (World.laidAll_os _ _ _) (World.shaped_of_ZipB (by kernel_rfl) (by kernel_rfl)) (by kernel_rfl) (by kernel_rfl) (by kernel_rfl)
      (by rw [MakeChecks.laidMetH_plain _ _ _ (by kernel_rfl)]; exact laidMet_laidAll _ (by kernel_rfl) (by kernel_rfl))) ?_
  intro W base args ds gs before hval hW _ _ hL hS
  refine (contract H enc W base args ds gs before hval hW hL hS).mono ?_
  rintro e W' ⟨v, he, ho, hp⟩
  have hos : { W' with os := W.os } = W' := by rw [← ho]
  refine ⟨v, he, by rw [hos]; exact hp, by rw [ho]; exact Later.refl _⟩
theorem said : Rows.FnReadAtSaid := by
  first
    | exact OpenClaim.holds_of_cond 8 Tryd.f8 rfl rfl rfl rfl rfl rfl rfl ⟨rfl, rfl, rfl, rfl, rfl⟩ rfl rfl rfl rfl rfl (by kernel_rfl) Tryd.func8 (by kernel_rfl)
        (of_decide_eq_true (by kernel_rfl)) (by unfold Func.isWrapper; first | (rw [if_pos (by decide +kernel)]; kernel_rfl) | (rw [if_neg (by decide +kernel)]; exact ⟨rfl, rfl⟩))
        (fun os started H enc _ F => by rw [OpenClaim.pre_eq_preRow]; exact lifted os started H enc F)
    | exact holds_of_wide_time 8 Tryd.f8 rfl rfl rfl rfl rfl rfl rfl ⟨rfl, rfl, rfl, rfl, rfl⟩ rfl rfl rfl rfl rfl (by kernel_rfl) Tryd.func8 (by kernel_rfl)
        (of_decide_eq_true (by kernel_rfl)) (by unfold Func.isWrapper; first | (rw [if_pos (by decide +kernel)]; kernel_rfl) | (rw [if_neg (by decide +kernel)]; exact ⟨rfl, rfl⟩))
        (fun os started H enc _ F => liftedT os started H enc F)
theorem plain (f : FuncId) (fn : Func) (hf : Tryd.pinned.checked.prog.funcNamed "loop.example/pub-g03453/laws.FnReadAt" = some f) (hfn : Tryd.pinned.checked.prog.funcs[f]? = some fn) :
    true = Tryd.pinned.checked.prog.looks [] ∧ ∀ (j : Nat) t, fn.params[j]? = some t → Tryd.pinned.checked.prog.wantsStandIn t = false := by
  obtain rfl : f = 8 := Option.some.inj ((show Tryd.prog.funcNamed "loop.example/pub-g03453/laws.FnReadAt" = some 8 by kernel_rfl).symm.trans hf) |>.symm
  obtain rfl : fn = Tryd.f8 := (Option.some.inj (Tryd.func8.symm.trans hfn)).symm
  refine ⟨by kernel_rfl, fun j t ht => ?_⟩
  rw [Tryd.params8] at ht
  have hm : t ∈ [22, 23, 4, 5, 5, 61] := by simpa using Array.mem_of_getElem? ht
  have hall : ([22, 23, 4, 5, 5, 61].all fun u => !Tryd.prog.wantsStandIn u) = true := by kernel_rfl
  exact (show Tryd.prog.wantsStandIn t = false by simpa using List.all_eq_true.1 hall t hm)
theorem card : Rows.FnReadAtCardSaid :=
  Claim7.holds_tied_plain_at .later [] _ _ _ _ said (fun _ h => by cases h) (by kernel_rfl) (fun _ h => by cases h) fnReadAt_row_tie rfl ⟨rfl, rfl⟩ (by kernel_rfl) rfl plain (by kernel_rfl)
#print axioms card
end Go.Proofs.YtgoddcicbpjknaaDoor.fnReadAt
