/-
  readRecord: from its last field to its return.
-/
import Derived.Test.YtcdhbfhijkdfoaaDoorRy
namespace Go.EC
open Go.RowKit
theorem Own.at_ {w : World} {v : Value} {A : Option Addr} {n c : Nat} {l : Bytes} (h : Own w 5 1 v l.length (l.map bv)) (hv : v = .slice A n c) : At w A l := fun hn => by
  obtain ⟨A', c', hv', _, _⟩ := h.form
  rw [hv] at hv'
  injection hv' with h1 h2 h3
  subst h1 h2 h3
  obtain ⟨g, hA, _, hc⟩ := h.cell hv (by simpa using hn)
  exact ⟨g, 0, hA, fun j b hj => by rw [Nat.zero_add]; exact hc j _ (by simp [hj])⟩
end Go.EC
namespace Go.Proofs.YtcdhbfhijkdfoaaDoor
open Go.EC Go.RowKit
def strV (b : Bytes) : Value := .string ⟨b.toArray⟩
theorem strV_one (l : List Bytes) : ∀ v ∈ l.map strV, v.oneCell' = true := by
  intro v hv
  rw [List.mem_map] at hv
  obtain ⟨b, _, rfl⟩ := hv
  rfl
theorem Fields.ne_nil {cm : Bytes} {lz : Bool} {q : Option Bytes} {s : Bytes} {acc fs : List Bytes} {rest : Bytes} (h : Fields cm lz q s acc fs rest) : fs ≠ [] := by
  induction h with
  | opened _ ih => exact ih
  | plain _ _ _ _ ih => exact ih
  | plainEnd _ _ _ _ => simp
  | more _ _ ih => exact ih
  | dbl _ ih => exact ih
  | close _ ih => exact ih
  | closeEnd _ => simp
  | lazyEnd _ => simp
theorem endsOf_mid (n : Nat) (d : List Bytes) (f : Bytes) (t : List Bytes) : (endsOf n (d ++ f :: t))[d.length]? = some (n + d.flatten.length + f.length) := by
  induction d generalizing n with
  | nil => simp [endsOf]
  | cons b d ih =>
    simp only [List.cons_append, endsOf, List.length_cons, List.getElem?_cons_succ, ih, List.flatten_cons, List.length_append]
    congr 1
    omega
theorem ba_ext {s t : ByteArray} (h : s.data.toList = t.data.toList) : s = t := by
  cases s; cases t
  simp only at h
  rw [Array.toList_inj.1 h]
theorem ext_mid (d : List Bytes) (f : Bytes) (t : List Bytes) : (⟨(d ++ f :: t).flatten.toArray⟩ : ByteArray).extract d.flatten.length (d.flatten.length + f.length) = ⟨f.toArray⟩ := by
  apply ba_ext
  rw [ext_list]
  show ((d ++ f :: t).flatten.take (d.flatten.length + f.length)).drop d.flatten.length = f
  have h1 : (d ++ f :: t).flatten = (d.flatten ++ f) ++ t.flatten := by simp
  rw [h1, ← List.length_append, List.take_left, List.drop_left]
theorem set_mid (d : List Bytes) (f : Bytes) (k : Nat) (z : Value) : (d.map strV ++ List.replicate (k + 1) z).set d.length (strV f) = (d ++ [f]).map strV ++ List.replicate k z := by
  have h := List.set_append_right (s := d.map strV) (t := List.replicate (k + 1) z) d.length (strV f) (by simp)
  rw [h]
  simp [List.replicate_succ]
/-- What readRecord hands back. -/
def RrOk (X : Cx) : Value → World → Prop := fun v w' => ∃ (vs : Value) (x' : Fld) (r' : Nat) (rb : Bytes) (ix : List Nat), v = .tuple #[vs, .nilIface] ∧ Own w' 9 1 vs X.fs.length (X.fs.map strV) ∧ X.RS [] w' x' r' X.rest rb ix ix.length none 0 [] ∧ (∀ k, vs.ownBlock = some k → X.w0.heap.size ≤ k)
section
variable {X : Cx} (hX : X.Ok)
include hX
/-- The strings of the record, one after the other. -/
def TI (X : Cx) (w0 : World) (D gi ci : Nat) (K : Nat) (e : Env) (w : World) : Prop :=
  ∃ d t : List Bytes, X.fs = d ++ t ∧ K = t.length ∧ e 0 = .pointer (some ⟨X.a, 0, none⟩) ∧ e 1 = .slice (some ⟨D, 0, none⟩) X.fs.length X.fs.length ∧ e 8 = .nilIface ∧ e 20 = .string ⟨X.fs.flatten.toArray⟩ ∧ e 21 = .int .i64 (d.flatten.length : Int) ∧ e 510 = .slice (some ⟨gi, 0, none⟩) X.fs.length ci ∧ e 511 = .int .i64 (X.fs.length : Int) ∧ e 512 = .int .i64 (d.length : Int) ∧
    Blk w D 9 (d.map strV ++ List.replicate t.length (.string ByteArray.empty)) ∧ Only (· = D) w0 w
theorem tail_ok {e : Env} {w : World} (hM : FM X e w) (hfs : X.fs ≠ []) (hfpr : X.x0.fpr = -1) : W Tryd.prog Tryd.f41.ntmps (sndC (sndC (sndC (sndC (sndC (sndC (sndC (sndC (sndC (sndC (sndC (sndC (sndC (sndC (scC (sndC (bodyOf Tryd.f41))))))))))))))))) (noG (bodyE Tryd.prog Tryd.f41 (RrOk X))) e w := by
  obtain ⟨x, r, rb, ix, pb, A, c, L, A', n', c', h, he, hg, hN1, hN2⟩ := hM
  have hNN := hX.N
  have hC := h.st.rd.C
  obtain ⟨Ar, cr, hrf, -, -⟩ := h.st.rcb.form
  obtain ⟨Ai, ci, hif, hic, -⟩ := h.st.idx.form
  have hixl : ix.length = X.fs.length := by rw [hg.ix, endsOf_length]
  have hpos := List.length_pos_iff.2 hfs
  obtain ⟨gi, rfl, hib, hcell⟩ := h.st.idx.cell hif (by
    intro hh
    have := congrArg List.length hh
    simp at this
    rw [this] at hixl; simp at hixl; omega)
  have hAt : At w Ar rb := h.st.rcb.at_ hrf
  rw [he.env]
  have hD0 : Blk (w.alloc (.cells (List.replicate ix.length (Value.string ByteArray.empty)).toArray 9)) w.heap.size 9 (List.replicate ix.length (Value.string ByteArray.empty)) := Blk.new w _ _
  have hA1 : Only (fun _ => False) w (w.alloc (.cells (List.replicate ix.length (Value.string ByteArray.empty)).toArray 9)) := Only.alloc _ _ _
  have hCa := hC.only hA1 id
  have hrbl : rb = X.fs.flatten := hg.rb
  conv => arg 3; whnf
  refine W_seq ?_
  refine W_seq ?_
  refine W_region ?_
  refine V (x_move (by conv => lhs; whnf)) rfl ?_
  refine V (x_eql_nil_nil Tryd.underlying55 rfl) rfl ?_
  refine WL_nil ?_
  refine W_true (rfl) ?_
  refine W_region ?_
  refine V (x_move (by conv => lhs; whnf)) rfl ?_
  refine V (x_assign (by conv => lhs; whnf)) rfl ?_
  refine WL_nil ?_
  refine W_seq ?_
  refine W_region ?_
  refine V (x_move (by conv => lhs; whnf)) rfl ?_
  refine V (x_nilc rfl) rfl ?_
  refine V (x_field0 fa71_11 rfl) rfl ?_
  refine V (x_load ld62 rfl ((hC).cell 11 rfl)) rfl ?_
  refine V (x_bytes_str Tryd.underlying62 Tryd.underlying5 Tryd.underlying9 hrf rfl hAt) rfl ?_
  refine V (x_assign (by conv => lhs; whnf)) rfl ?_
  refine WL_nil ?_
  refine W_seq ?_
  refine W_region ?_
  refine V (x_move (by conv => lhs; whnf)) rfl ?_
  refine V (x_slice_h (h := 0) Tryd.underlying30 ⟨1, sz9⟩ rfl rfl rfl (Nat.zero_le _)) rfl ?_
  refine V (x_assign (by conv => lhs; whnf)) rfl ?_
  refine WL_nil ?_
  refine W_seq ?_
  refine W_seq ?_
  refine W_region ?_
  refine V (x_move (by conv => lhs; whnf)) rfl ?_
  refine V (x_cap_slice Tryd.underlying30 rfl) rfl ?_
  refine V (x_move (by conv => lhs; whnf)) rfl ?_
  refine V (x_nilc rfl) rfl ?_
  refine V (x_field0 fa71_12 rfl) rfl ?_
  refine V (x_load ld38 rfl ((hC).cell 12 rfl)) rfl ?_
  refine V (x_len_slice Tryd.underlying38 hif) rfl ?_
  refine V (x_bin rfl rfl (bt (decide_eq_true (by omega)))) rfl ?_
  refine WL_nil ?_
  refine W_true (rfl) ?_
  refine W_region ?_
  refine V (x_move (by conv => lhs; whnf)) rfl ?_
  refine V (x_nilc rfl) rfl ?_
  refine V (x_field0 fa71_12 rfl) rfl ?_
  refine V (x_load ld38 rfl ((hC).cell 12 rfl)) rfl ?_
  refine V (x_len_slice Tryd.underlying38 hif) rfl ?_
  refine V (x_mkslice2 (n := ix.length) Tryd.underlying30 sz9 by9 zv9 rfl rfl rfl (by omega) (by omega) (by omega)) rfl ?_
  refine V (x_assign (by conv => lhs; whnf)) rfl ?_
  refine WL_nil ?_
  refine W_seq ?_
  refine W_region ?_
  refine V (x_move (by conv => lhs; whnf)) rfl ?_
  refine V (x_move (by conv => lhs; whnf)) rfl ?_
  refine V (x_nilc rfl) rfl ?_
  refine V (x_field0 fa71_12 rfl) rfl ?_
  refine V (x_load ld38 rfl ((hCa).cell 12 rfl)) rfl ?_
  refine V (x_len_slice Tryd.underlying38 hif) rfl ?_
  refine V (x_slice_h (h := ix.length) Tryd.underlying30 ⟨1, sz9⟩ rfl rfl rfl (Nat.le_refl _)) rfl ?_
  refine V (x_assign (by conv => lhs; whnf)) rfl ?_
  refine WL_nil ?_
  refine W_seq ?_
  refine W_region ?_
  refine V (x_assign (by conv => lhs; whnf)) rfl ?_
  refine WL_nil ?_
  refine W_seq ?_
  refine W_seq ?_
  refine W_region ?_
  refine V (x_move (by conv => lhs; whnf)) rfl ?_
  refine V (x_nilc rfl) rfl ?_
  refine V (x_field0 fa71_12 rfl) rfl ?_
  refine V (x_load (v := .slice (some ⟨gi, 0, none⟩) ix.length ci) ld38 rfl ((hCa.cell 12 rfl).trans (by rw [hif]))) rfl ?_
  refine V (x_len_slice Tryd.underlying38 rfl) rfl ?_
  refine V (x_move (by conv => lhs; whnf)) rfl ?_
  refine WL_nil ?_
  generalize hwA : w.alloc (.cells (List.replicate ix.length (Value.string ByteArray.empty)).toArray 9) = wA at *
  have hRA := h.new hA1
  refine W_block ?_
  refine W_loop (TI X wA w.heap.size gi ci) (k0 := X.fs.length) ⟨[], X.fs, rfl, rfl, rfl, by rw [← hixl]; rfl, rfl, by rw [← hrbl]; rfl, rfl, by rw [← hixl]; rfl, by rw [← hixl]; rfl, rfl, by rw [← hixl]; exact hD0, Only.refl _ _⟩ ?_
  rintro K e1 w1 ⟨d, t, hdt, rfl, e0, e1', e8, e20, e21, e510, e511, e512, hB, hO⟩
  have hlen : X.fs.length = d.length + t.length := by rw [hdt]; simp
  have hcell1 : ∀ j n, (endsOf 0 X.fs)[j]? = some n → w1.cell? ⟨gi, 0 + j, none⟩ = some (.int .i64 ((n : Nat) : Int)) := fun j n hj => by
    have h1 := hcell j (.int .i64 ((n : Nat) : Int)) (by rw [hg.ix, List.getElem?_map, hj]; rfl)
    rw [Nat.zero_add]
    have hgi : gi < w.heap.size := cell_lt h1
    refine (World.cell?_of_block (hO.block gi (by rw [← hwA]; simp; omega) (by omega))).trans ?_
    exact (World.cell?_of_block (hA1.block gi hgi id)).trans h1
  have eE : e1 = upd (upd (upd (upd (upd (upd (upd (upd e1 0 (.pointer (some ⟨X.a, 0, none⟩))) 1 (.slice (some ⟨w.heap.size, 0, none⟩) X.fs.length X.fs.length)) 8 .nilIface) 20 (.string ⟨X.fs.flatten.toArray⟩)) 21 (.int .i64 (d.flatten.length : Int))) 510 (.slice (some ⟨gi, 0, none⟩) X.fs.length ci)) 511 (.int .i64 (X.fs.length : Int))) 512 (.int .i64 (d.length : Int)) := by
    simp only [upd_self e0, upd_self e1', upd_self e8, upd_self e20, upd_self e21, upd_self e510, upd_self e511, upd_self e512]
  cases t with
  | nil =>
    have hdl : d.length = X.fs.length := by simpa using hlen.symm
    have hC1 := hCa.only hO (by
      have := hCa.lt
      intro hh
      have h2 := h.st.rd.C.lt
      omega)
    unfold CBlk at hC1
    rw [h.fld.2.2.1, hfpr] at hC1
    rw [eE]
    refine W_seq ?_
    refine W_region ?_
    refine V (x_bin rfl rfl (bf (decide_eq_false (by omega)))) rfl ?_
    refine WL_nil ?_
    refine W_seq ?_
    refine W_false (rfl) ?_
    refine W_exit ?_
    repeat (first | with_reducible refine xt ?_ | with_reducible refine xb ?_ | with_reducible refine nt ?_ | with_reducible refine nb ?_ | with_reducible refine xn rfl ?_)
    refine W_seq ?_
    refine W_seq ?_
    refine W_region ?_
    refine V (x_move (by conv => lhs; whnf)) rfl ?_
    refine V (x_nilc rfl) rfl ?_
    refine V (x_field0 fa71_2 rfl) rfl ?_
    refine V (x_load ld3 rfl ((hC1).cell 2 rfl)) rfl ?_
    refine V (x_bin rfl rfl (bf rfl)) rfl ?_
    refine WL_nil ?_
    refine W_false (rfl) ?_
    refine W_seq ?_
    refine W_region ?_
    refine V (x_move (by conv => lhs; whnf)) rfl ?_
    refine V (x_nilc rfl) rfl ?_
    refine V (x_field0 fa71_2 rfl) rfl ?_
    refine V (x_load ld3 rfl ((hC1).cell 2 rfl)) rfl ?_
    refine V (x_bin rfl rfl (bf rfl)) rfl ?_
    refine WL_nil ?_
    refine W_false (rfl) ?_
    refine W_skip ?_
    refine W_seq ?_
    refine W_region ?_
    refine V (x_move (by conv => lhs; whnf)) rfl ?_
    refine V (x_move (by conv => lhs; whnf)) rfl ?_
    refine V (x_assign (by conv => lhs; whnf)) rfl ?_
    refine V (x_assign (by conv => lhs; whnf)) rfl ?_
    refine WL_nil ?_
    refine W_ret ?_
    repeat (with_reducible (first | refine rt ?_ | refine rb ?_ | refine rs ?_ | refine rj ?_))
    have hR1 : X.RS [] w1 x r X.rest rb ix ix.length none 0 [] := by
      have h1 := hRA.other (S := (· = w.heap.size)) (P' := []) hO (fun k hk e => by have := h.st.lt hk; omega) (fun k hk e => by have := h.only.size; omega) (by simp)
      exact ⟨h1.st, ⟨by simp, fun hh => absurd rfl hh⟩, h1.pos, h1.only, h1.blk, h1.fld⟩
    refine bodyE_2 rfl rfl rfl ⟨_, x, r, rb, ix, rfl, ?_, hR1, fun k hk => ?_⟩
    · refine ⟨by simp, .inr ⟨w.heap.size, X.fs.length, (X.fs.map strV).toArray, rfl, Nat.zero_le _, ?_, Nat.le_refl _, by unfold maxLen; omega, by simp, by rw [Nat.mul_one]; exact List.take_of_length_le (by simp)⟩⟩
      have h2 := hB
      rw [List.append_nil] at hdt
      rw [← hdt] at h2
      unfold Blk at h2
      simpa using h2
    · have hk' : (Value.slice (some ⟨w.heap.size, 0, none⟩) X.fs.length X.fs.length).ownBlock = some k := hk
      have : w.heap.size = k := by simpa [Value.ownBlock] using hk'
      have := h.only.size
      omega
  | cons f t =>
    have hends := endsOf_mid 0 d f t
    rw [← hdt, Nat.zero_add] at hends
    have hsz : d.flatten.length + f.length ≤ X.fs.flatten.length := by rw [hdt]; simp <;> omega
    have hext := ext_mid d f t
    rw [← hdt] at hext
    have hle : d.length < X.fs.length := by simp at hlen; omega
    have hBl : (d.map strV ++ List.replicate (f :: t).length (Value.string ByteArray.empty))[0 + d.length]? = some (.string ByteArray.empty) := by
      rw [Nat.zero_add, List.getElem?_append_right (by simp)]; simp
    have hset := set_mid d f t.length (.string ByteArray.empty)
    rw [eE]
    refine W_seq ?_
    refine W_region ?_
    refine V (x_bin rfl rfl (bt (decide_eq_true (by omega)))) rfl ?_
    refine WL_nil ?_
    refine W_seq ?_
    refine W_true (rfl) ?_
    refine W_skip ?_
    refine W_seq ?_
    refine W_block ?_
    refine W_seq ?_
    refine W_region ?_
    refine V (x_move (by conv => lhs; whnf)) rfl ?_
    refine V (x_index (i := d.length) Tryd.underlying38 sz3 rfl rfl rfl (by omega)) rfl ?_
    refine V (x_load ld3 rfl (hcell1 _ _ hends)) rfl ?_
    refine V (x_assign (by conv => lhs; whnf)) rfl ?_
    refine V (x_assign (by conv => lhs; whnf)) rfl ?_
    refine WL_nil ?_
    refine W_seq ?_
    refine W_region ?_
    refine V (x_move (by conv => lhs; whnf)) rfl ?_
    refine V (x_move (by conv => lhs; whnf)) rfl ?_
    refine V (x_move (by conv => lhs; whnf)) rfl ?_
    refine V (x_move (by conv => lhs; whnf)) rfl ?_
    refine V (x_move (by conv => lhs; whnf)) rfl ?_
    refine V (x_str_lh (l := d.flatten.length) (h := d.flatten.length + f.length) Tryd.underlying9 rfl rfl rfl rfl rfl (by omega) (by simpa [ByteArray.size] using hsz)) rfl ?_
    refine V (x_index (i := d.length) Tryd.underlying30 sz9 rfl rfl rfl (by omega)) rfl ?_
    refine S (x_store st9 rfl (by conv => lhs; whnf) rfl (hB.cell _ hBl) (hB.free _)) ?_
    refine WL_nil ?_
    refine W_region ?_
    refine V (x_move (by conv => lhs; whnf)) rfl ?_
    refine V (x_assign (by conv => lhs; whnf)) rfl ?_
    refine WL_nil ?_
    refine W_region ?_
    refine V (x_bin rfl rfl (ib_addn (m := d.length + 1) (by omega) (by omega))) rfl ?_
    refine V (x_move (by conv => lhs; whnf)) rfl ?_
    refine WL_nil ?_
    repeat (first | with_reducible refine xt ?_ | with_reducible refine xb ?_ | with_reducible refine nt ?_ | with_reducible refine nb ?_ | with_reducible refine xn rfl ?_)
    refine ⟨t.length, by simp, d ++ [f], t, by rw [hdt]; simp, rfl, rfl, rfl, rfl, rfl, ?_, rfl, rfl, ?_, ?_, hO.trans (Only.setCell (· = w.heap.size) _ rfl _)⟩
    · show Value.int .i64 ((d.flatten.length + f.length : Nat) : Int) = _
      simp
    · show Value.int .i64 ((d.length + 1 : Nat) : Int) = _
      simp
    · have h3 := hB.set (0 + d.length) (strV f)
      rw [Nat.zero_add, List.length_cons, hset] at h3
      have h4 : (Value.string ((⟨X.fs.flatten.toArray⟩ : ByteArray).extract d.flatten.length (d.flatten.length + f.length))) = strV f := by rw [hext]; rfl
      rw [h4, Nat.zero_add]
      exact h3
end
end Go.Proofs.YtcdhbfhijkdfoaaDoor
