/-
  readRecord: within quotes.
-/
import Derived.Test.YtcdhbfhijkdfoaaDoorRw
namespace Go.Proofs.YtcdhbfhijkdfoaaDoor
open Go.EC Go.RowKit
theorem EF.env2 {e : Env} {a pb cl : Nat} {A : Option Addr} {n c : Nat} {v : Value} (h : EF e a pb cl A n c) (h17 : e 17 = v) : e = upd (upd (upd (upd (upd (upd (upd (upd e 0 (.pointer (some ⟨a, 0, none⟩))) 1 (.slice none 0 0)) 6 (.slice A n c)) 7 .nilIface) 8 .nilIface) 9 (.int .i64 (cl : Int))) 11 (.pointer (some ⟨pb, 0, none⟩))) 17 v := by
  simp only [upd_self h.e0, upd_self h.e1, upd_self h.e6, upd_self h.e7, upd_self h.e8, upd_self h.e9, upd_self h.e11, upd_self h17]
/-- Within quotes: cur is what has been read of the field. -/
structure QS (X : Cx) (e : Env) (w : World) (x : Fld) (r : Nat) (p rb : Bytes) (ix : List Nat) (pb qb : Nat) (A : Option Addr) (c : Nat) (L : Bytes) (acc : List Bytes) (cur rb0 : Bytes) : Prop where
  st : X.RS [qb, pb] w x r p rb ix ix.length A c L
  env : EF e X.a pb X.cm.length A L.length c
  e17 : e 17 = .pointer (some ⟨qb, 0, none⟩)
  le : LineEnd L p
  fl : Fields X.cm X.x0.lz (some cur) (L ++ p) acc X.fs X.rest
  ga : Gath rb0 ix acc
  rbe : rb = rb0 ++ cur
  n1 : rb.length + (L ++ p).length ≤ X.N
  n2 : ix.length + (L ++ p).length ≤ X.N
  cr : (13 : UInt8) ∉ p
def QI (X : Cx) (K : Nat) (e : Env) (w : World) : Prop := ∃ x r p rb ix pb qb A c L acc cur rb0, QS X e w x r p rb ix pb qb A c L acc cur rb0 ∧ K = (L ++ p).length
def QQ (X : Cx) (K K0 : Nat) : Exit → Env → World → Prop := thn (fun e' w' => ∃ K', K' < K ∧ QI X K' e' w') (inB 4 (FQ X K0))
section
variable {X : Cx} (hX : X.Ok)
include hX
variable {pb qb r : Nat} {x : Fld} {w : World} {p rb L : Bytes} {ix : List Nat} {acc : List Bytes} {A : Option Addr} {c : Nat} {K0 : Nat} {e : Env} {cur rb0 : Bytes}
/-- The text has ended within quotes: lazy quotes. -/
theorem quoted_end (h : QS X e w x r p rb ix pb qb A c L acc cur rb0) (hL : L = []) : W Tryd.prog Tryd.f41.ntmps (inC (inC (sndC (sndC (sndC (elseC (sndC (sndC (inC (inC (inC (fstC (sndC (sndC (sndC (sndC (sndC (sndC (sndC (sndC (sndC (sndC (sndC (sndC (sndC (scC (sndC (bodyOf Tryd.f41)))))))))))))))))))))))))))) (QQ X (L ++ p).length K0) e w := by
  subst hL
  have hp := h.le.nil
  obtain ⟨hlz, hfs, hrest⟩ := (show Fields X.cm X.x0.lz (some cur) [] acc X.fs X.rest from by have := h.fl; rwa [hp] at this).inv_end
  have hst := h.st
  have hC1 := hst.st.rd.C
  unfold CBlk at hC1
  rw [hst.fld.2.2.2.1, hlz] at hC1
  have hNN := hX.N
  have hN1 := h.n1
  have hN2 := h.n2
  have hg := h.ga
  have hrb := h.rbe
  rw [h.env.env2 h.e17]
  have hidx : Lib.indexByte ([] : Bytes) 34 = -1 := rfl
  conv => arg 3; whnf
  refine W_block ?_
  refine W_seq ?_
  refine W_region ?_
  refine V (x_move (by conv => lhs; whnf)) rfl ?_
  refine C (x_call2 cf53 (by conv => lhs; whnf) (by conv => lhs; whnf)) rfl ?_
  refine (IndexByte_n A 0 c [] 34 _ _ _ (At.nil _ _) rfl rfl hidx).mono fun v w1 h1 => ?_
  obtain ⟨rfl, rfl⟩ := h1
  refine V (x_assign (by conv => lhs; whnf)) rfl ?_
  refine WL_nil ?_
  refine W_seq ?_
  refine W_region ?_
  refine V (x_move (by conv => lhs; whnf)) rfl ?_
  refine V (x_bin rfl rfl (bf (decide_eq_false (by omega)))) rfl ?_
  refine WL_nil ?_
  refine W_false (rfl) ?_
  refine W_seq ?_
  refine W_region ?_
  refine V (x_move (by conv => lhs; whnf)) rfl ?_
  refine V (x_len_slice Tryd.underlying62 rfl) rfl ?_
  refine V (x_bin rfl rfl (bf rfl)) rfl ?_
  refine WL_nil ?_
  refine W_false (rfl) ?_
  refine W_seq ?_
  refine W_seq ?_
  refine W_region ?_
  refine V (x_move (by conv => lhs; whnf)) rfl ?_
  refine V (x_nilc rfl) rfl ?_
  refine V (x_field0 fa71_3 rfl) rfl ?_
  refine V (x_load ld4 rfl ((hC1).cell 3 rfl)) rfl ?_
  refine V (x_not rfl) rfl ?_
  refine V (x_move (by conv => lhs; whnf)) rfl ?_
  refine SG rfl (by decide) rfl ?_
  refine SG rfl (by decide) rfl ?_
  refine V (x_pick_f rfl (by conv => lhs; whnf)) rfl ?_
  refine WL_nil ?_
  refine W_false (rfl) ?_
  refine W_skip ?_
  refine W_seq ?_
  refine W_draw mixed ?_
  have h80a := hst.drew
  have h80C := h80a.st.rd.C
  obtain ⟨h80A, h80c, h80f, -, -⟩ := h80a.st.rcb.form
  refine D_pure (i := 0) (listed' := #[true, false, false, false, false, false, false, false, false, false, false, false, false, false, false]) (by kernel_rfl) (by kernel_rfl) (by kernel_rfl) rfl (by kernel_rfl) (fun _ => x_move (by conv => lhs; whnf)) rfl ?_
  refine D_pure (i := 1) (listed' := #[true, true, false, false, false, false, false, false, false, false, false, false, false, false, false]) (by kernel_rfl) (by kernel_rfl) (by kernel_rfl) rfl (by kernel_rfl) (fun _ => x_move (by conv => lhs; whnf)) rfl ?_
  refine D_pure (i := 2) (listed' := #[true, true, true, false, false, false, false, false, false, false, false, false, false, false, false]) (by kernel_rfl) (by kernel_rfl) (by kernel_rfl) rfl (by kernel_rfl) (fun _ => x_nilc rfl) rfl ?_
  refine D_pure (i := 3) (listed' := #[true, true, true, true, false, false, false, false, false, false, false, false, false, false, false]) (by kernel_rfl) (by kernel_rfl) (by kernel_rfl) rfl (by kernel_rfl) (fun _ => x_field0 fa71_12 rfl) rfl ?_
  refine D_pure (i := 5) (listed' := #[true, true, true, true, false, true, false, false, false, false, false, false, false, false, false]) (by kernel_rfl) (by kernel_rfl) (by kernel_rfl) rfl (by kernel_rfl) (fun _ => x_move (by conv => lhs; whnf)) rfl ?_
  refine D_pure (i := 6) (listed' := #[true, true, true, true, false, true, true, false, false, false, false, false, false, false, false]) (by kernel_rfl) (by kernel_rfl) (by kernel_rfl) rfl (by kernel_rfl) (fun _ => x_nilc rfl) rfl ?_
  refine D_pure (i := 7) (listed' := #[true, true, true, true, false, true, true, true, false, false, false, false, false, false, false]) (by kernel_rfl) (by kernel_rfl) (by kernel_rfl) rfl (by kernel_rfl) (fun _ => x_field0 fa71_11 rfl) rfl ?_
  refine D_still (i := 8) (listed' := #[true, true, true, true, false, true, true, true, true, false, false, false, false, false, false]) (by kernel_rfl) (by kernel_rfl) (by kernel_rfl) rfl (by kernel_rfl) (fun _ hgw => x_load ld62 rfl (hgw.cell ((h80C).cell 11 rfl))) rfl ?_
  refine D_pure (i := 9) (listed' := #[true, true, true, true, false, true, true, true, true, true, false, false, false, false, false]) (by kernel_rfl) (by kernel_rfl) (by kernel_rfl) rfl (by kernel_rfl) (fun _ => x_len_slice Tryd.underlying62 h80f) rfl ?_
  refine D_still (i := 4) (listed' := #[true, true, true, true, true, true, true, true, true, true, false, false, false, false, false]) (by kernel_rfl) (by kernel_rfl) (by kernel_rfl) rfl (by kernel_rfl) (fun _ hgw => x_load ld38 rfl (hgw.cell ((h80C).cell 12 rfl))) rfl ?_
  refine D_one (i := 10) (listed' := #[true, true, true, true, true, true, true, true, true, true, true, false, false, false, false]) (by kernel_rfl) rfl (by kernel_rfl) (x_bs1 Tryd.underlying38 sz3 zv3 rfl rfl rfl) rfl ?_
  have h80b := h80a.new (Only.alloc (fun _ => False) _ (.cells [Value.int .i64 ((rb).length : Int)].toArray 3))
  refine D_oneE (i := 11) (listed' := #[true, true, true, true, true, true, true, true, true, true, true, true, false, false, false]) (by kernel_rfl) rfl (by kernel_rfl) (x_append (news := [.int .i64 ((rb).length : Int)]) eT3 (by conv => lhs; whnf) (by conv => lhs; whnf) h80b.st.idx rfl (Cells.of_blk (Blk.new _ _ _)) int_one (by omega) (by unfold maxLen; omega)) rfl ?_
  rintro h80v h80w ⟨h80o, h80p, h80q⟩
  obtain ⟨h80D, h80⟩ := h80b.appIdx (ix' := ix ++ [(rb).length]) rfl (by simpa using h80o) h80p h80q
  refine D_pure (i := 12) (listed' := #[true, true, true, true, true, true, true, true, true, true, true, true, true, false, false]) (by kernel_rfl) (by kernel_rfl) (by kernel_rfl) rfl (by kernel_rfl) (fun _ => x_nilc rfl) rfl ?_
  refine D_pure (i := 13) (listed' := #[true, true, true, true, true, true, true, true, true, true, true, true, true, true, false]) (by kernel_rfl) (by kernel_rfl) (by kernel_rfl) rfl (by kernel_rfl) (fun _ => x_field0 fa71_12 rfl) rfl ?_
  refine D_oneS (i := 14) (listed' := #[true, true, true, true, true, true, true, true, true, true, true, true, true, true, true]) (by kernel_rfl) rfl (by kernel_rfl) (x_store st38 rfl (by conv => lhs; whnf) h80o.one (h80D.cell 12 rfl) (h80D.free 12)) ?_
  refine WA_done (by kernel_rfl) ?_
  refine W_seq ?_
  refine W_draw mixed ?_
  have h81a := h80.drew
  have h81C := h81a.st.rd.C
  obtain ⟨⟨h81l, h81n, h81B⟩, -, -⟩ := h81a.pos qb (by simp)
  refine D_pure (i := 0) (listed' := #[true, false, false, false, false, false, false, false, false, false, false]) (by kernel_rfl) (by kernel_rfl) (by kernel_rfl) rfl (by kernel_rfl) (fun _ => x_move (by conv => lhs; whnf)) rfl ?_
  refine D_pure (i := 1) (listed' := #[true, true, false, false, false, false, false, false, false, false, false]) (by kernel_rfl) (by kernel_rfl) (by kernel_rfl) rfl (by kernel_rfl) (fun _ => x_move (by conv => lhs; whnf)) rfl ?_
  refine D_pure (i := 2) (listed' := #[true, true, true, false, false, false, false, false, false, false, false]) (by kernel_rfl) (by kernel_rfl) (by kernel_rfl) rfl (by kernel_rfl) (fun _ => x_nilc rfl) rfl ?_
  refine D_pure (i := 3) (listed' := #[true, true, true, true, false, false, false, false, false, false, false]) (by kernel_rfl) (by kernel_rfl) (by kernel_rfl) rfl (by kernel_rfl) (fun _ => x_field0 fa71_13 rfl) rfl ?_
  refine D_still (i := 4) (listed' := #[true, true, true, true, true, false, false, false, false, false, false]) (by kernel_rfl) (by kernel_rfl) (by kernel_rfl) rfl (by kernel_rfl) (fun _ hgw => x_load ld69 rfl (hgw.cell ((h81C).cell 13 rfl))) rfl ?_
  refine D_one (i := 5) (listed' := #[true, true, true, true, true, true, false, false, false, false, false]) (by kernel_rfl) rfl (by kernel_rfl) (x_loadA Tryd.underlying85 (cs := [.int .i64 h81l, .int .i64 h81n]) sz85 rfl h81B) rfl ?_
  refine D_one (i := 6) (listed' := #[true, true, true, true, true, true, true, false, false, false, false]) (by kernel_rfl) rfl (by kernel_rfl) (x_bsP Tryd.underlying69 sz85 zv85 rfl) rfl ?_
  have h81b := h81a.new (Only.alloc (fun _ => False) _ (.cells [Value.int .i64 h81l, .int .i64 h81n].toArray 85))
  obtain ⟨h81y, h81x⟩ := h81b.st.psn
  refine D_oneE (i := 7) (listed' := #[true, true, true, true, true, true, true, true, false, false, false]) (by kernel_rfl) rfl (by kernel_rfl) (x_append (news := [.int .i64 h81l, .int .i64 h81n]) eT85 (by conv => lhs; whnf) (by conv => lhs; whnf) h81x rfl (Cells.of_blk (Blk.new _ _ _)) pair_one (by omega) (by unfold maxLen; omega)) rfl ?_
  rintro h81v h81w ⟨h81o, h81p, h81q⟩
  obtain ⟨h81D, h81⟩ := h81b.appPsn rfl h81o h81p h81q
  refine D_pure (i := 8) (listed' := #[true, true, true, true, true, true, true, true, true, false, false]) (by kernel_rfl) (by kernel_rfl) (by kernel_rfl) rfl (by kernel_rfl) (fun _ => x_nilc rfl) rfl ?_
  refine D_pure (i := 9) (listed' := #[true, true, true, true, true, true, true, true, true, true, false]) (by kernel_rfl) (by kernel_rfl) (by kernel_rfl) rfl (by kernel_rfl) (fun _ => x_field0 fa71_13 rfl) rfl ?_
  refine D_oneS (i := 10) (listed' := #[true, true, true, true, true, true, true, true, true, true, true]) (by kernel_rfl) rfl (by kernel_rfl) (x_store st69 rfl (by conv => lhs; whnf) h81o.one (h81D.cell 13 rfl) (h81D.free 13)) ?_
  refine WA_done (by kernel_rfl) ?_
  refine W_exit ?_
  repeat (first | with_reducible refine xt ?_ | with_reducible refine xb ?_ | with_reducible refine nt ?_ | with_reducible refine nb ?_ | with_reducible refine xn rfl ?_)
  rw [show ix.length + 1 = (ix ++ [rb.length]).length by simp, hp, ← hrest] at h81
  rw [hrb] at h81
  refine ⟨_, r, rb0 ++ cur, ix ++ [(rb0 ++ cur).length], pb, _, _, _, _, _, _, h81.dropPos (P' := [pb]) (by simp), ⟨rfl, rfl, rfl, rfl, rfl, rfl, rfl⟩, by rw [hfs]; exact hg.snoc, by rw [← hrb]; omega, by simp; omega⟩
/-- No quote in the rest of the line: it belongs to the field, and the next line is read. -/
theorem quoted_line (h : QS X e w x r p rb ix pb qb A c L acc cur rb0) (hne : L ≠ []) (hq : (34 : UInt8) ∉ L) : W Tryd.prog Tryd.f41.ntmps (inC (inC (sndC (sndC (sndC (elseC (sndC (sndC (inC (inC (inC (fstC (sndC (sndC (sndC (sndC (sndC (sndC (sndC (sndC (sndC (sndC (sndC (sndC (sndC (scC (sndC (bodyOf Tryd.f41)))))))))))))))))))))))))))) (QQ X (L ++ p).length K0) e w := by
  have hst := h.st
  have hNN := hX.N
  have hN1 := h.n1
  have hN2 := h.n2
  have hlpos := List.length_pos_iff.2 hne
  have hcap := hst.line.cap
  rw [List.length_append] at hN1 hN2
  have hF := Fields.skip hq h.fl
  have hi := idx_no hq
  have h13 := h.cr
  have hB0 : X.Bs ≤ w.heap.size := Nat.le_trans hX.start.size hst.only.size
  rw [h.env.env2 h.e17]
  have fin : ∀ {e' : Env} {w' : World} {x' : Fld} {r' : Nat} {L' p' : Bytes} {A' : Option Addr} {c' : Nat}, p = L' ++ p' → LineEnd L' p' → X.RS [qb, pb] w' x' r' p' (rb ++ L) ix ix.length A' c' L' → EF e' X.a pb X.cm.length A' L'.length c' → e' 17 = .pointer (some ⟨qb, 0, none⟩) → ∃ K', K' < (L ++ p).length ∧ QI X K' e' w' := by
    intro e' w' x' r' L' p' A' c' hp hE hs he h17
    rw [hp, List.length_append] at hN1 hN2
    refine ⟨(L' ++ p').length, by rw [hp]; simp; omega, x', r', p', rb ++ L, ix, pb, qb, A', c', L', acc, cur ++ L, rb0, ⟨hs, he, h17, hE, by rw [← hp]; exact hF, h.ga, by rw [h.rbe, List.append_assoc], by simp; omega, by simp; omega, fun hh => h13 (by rw [hp]; exact List.mem_append.2 (.inr hh))⟩, rfl⟩
  conv => arg 3; whnf
  refine W_block ?_
  refine W_seq ?_
  refine W_region ?_
  refine V (x_move (by conv => lhs; whnf)) rfl ?_
  refine C (x_call2 cf53 (by conv => lhs; whnf) (by conv => lhs; whnf)) rfl ?_
  refine (IndexByte_n A L.length c L 34 _ _ _ hst.line.at_ rfl rfl rfl).mono fun v w1 h1 => ?_
  obtain ⟨rfl, rfl⟩ := h1
  refine V (x_assign (by conv => lhs; whnf)) rfl ?_
  refine WL_nil ?_
  refine W_seq ?_
  refine W_region ?_
  refine V (x_move (by conv => lhs; whnf)) rfl ?_
  refine V (x_bin rfl rfl (bf (decide_eq_false (by omega)))) rfl ?_
  refine WL_nil ?_
  refine W_false (rfl) ?_
  refine W_seq ?_
  refine W_region ?_
  refine V (x_move (by conv => lhs; whnf)) rfl ?_
  refine V (x_len_slice Tryd.underlying62 rfl) rfl ?_
  refine V (x_bin rfl rfl (bt (decide_eq_true (by omega)))) rfl ?_
  refine WL_nil ?_
  refine W_true (rfl) ?_
  refine W_seq ?_
  refine W_region ?_
  refine V (x_move (by conv => lhs; whnf)) rfl ?_
  refine V (x_move (by conv => lhs; whnf)) rfl ?_
  refine V (x_nilc rfl) rfl ?_
  refine V (x_field0 fa71_11 rfl) rfl ?_
  refine V (x_load ld62 rfl ((hst.st.rd.C).cell 11 rfl)) rfl ?_
  refine V (x_move (by conv => lhs; whnf)) rfl ?_
  refine VE (x_append (news := L.map bv) eT5 (by conv => lhs; whnf) (by conv => lhs; whnf) hst.st.rcb (by simp) (hst.line.src) map_bv_one (by omega) (by unfold maxLen; omega)) rfl ?_
  rintro h69v h69w ⟨h69o, h69p, h69q⟩
  obtain ⟨h69D, h69⟩ := hst.appRec (rb' := rb ++ L) rfl (by simpa using h69o) h69p h69q
  refine V (x_nilc rfl) rfl ?_
  refine V (x_field0 fa71_11 rfl) rfl ?_
  refine S (x_store st62 rfl (by conv => lhs; whnf) h69o.one (h69D.cell 11 rfl) (h69D.free 11)) ?_
  refine WL_nil ?_
  refine W_seq ?_
  refine W_seq ?_
  refine W_region ?_
  refine V (x_move (by conv => lhs; whnf)) rfl ?_
  refine V (x_neq_nil_nil Tryd.underlying55 rfl) rfl ?_
  refine WL_nil ?_
  refine W_false (rfl) ?_
  refine W_skip ?_
  refine W_seq ?_
  refine W_region ?_
  obtain ⟨⟨h71l, h71n, h71B⟩, -, -⟩ := h69.pos pb (by simp)
  refine V (x_field0 fa85_1 rfl) rfl ?_
  refine V (x_load ld3 rfl ((h71B).cell 1 rfl)) rfl ?_
  refine V (x_move (by conv => lhs; whnf)) rfl ?_
  refine V (x_len_slice Tryd.underlying62 rfl) rfl ?_
  refine V (x_bin rfl rfl rfl) rfl ?_
  refine V (x_field0 fa85_1 rfl) rfl ?_
  refine S (x_store st3 rfl (by conv => lhs; whnf) rfl (h71B.cell 1 rfl) (h71B.free 1)) ?_
  refine WL_nil ?_
  have h71 := h69.setPos (pb := pb) (i := 1) (by simp) (by omega) (IntKind.i64.wrap (h71n + (L.length : Int)))
  refine W_seq ?_
  refine W_region ?_
  have hB1 : X.Bs ≤ h69w.heap.size := Nat.le_trans hB0 h69p.size
  refine V (x_move (by conv => lhs; whnf)) rfl ?_
  refine C (x_call1 cf45 (by conv => lhs; whnf)) rfl ?_
  refine (readLine_ok X.Bs X.a X.g X.s _ X.str r p X.er _ h71.st.rd (h71.glob hX.start) hX.start.errs (by simpa [World.setCell] using hB1)).mono ?_
  rintro v w2 ⟨k, raw', nl', off', r', L', p', A', c', rfl, hrd, hla, hp, hre, ho, hraw⟩
  have hn := norm_id (k := k) (L := L') (p := p') (by rw [← hp]; exact h13)
  rw [hn] at hla ⊢
  have h72 := h71.readLine hrd hla ho hraw
  have hE' := LineEnd.of_raw hre
  refine V (x_move (by conv => lhs; whnf)) rfl ?_
  refine V (x_extract rfl rfl) rfl ?_
  refine V (x_extract rfl rfl) rfl ?_
  refine V (x_assign (by conv => lhs; whnf)) rfl ?_
  refine V (x_assign (by conv => lhs; whnf)) rfl ?_
  refine WL_nil ?_
  have hG := h72.glob hX.start
  have hG0 : w2.cell? ⟨0, 0, none⟩ = some (errV X.er 0) := hG.cell 0 (by omega)
  by_cases hL' : L' = []
  · have hk : k = 1 := by
      rcases hre with ⟨_, L0, h1, _⟩ | ⟨h1, _⟩
      · rw [hL'] at h1; simp at h1
      · exact h1
    subst hL'
    rw [hk, lineErr_eof]
    refine W_seq ?_
    refine W_seq ?_
    refine W_region ?_
    refine V (x_move (by conv => lhs; whnf)) rfl ?_
    refine V (x_len_slice Tryd.underlying62 rfl) rfl ?_
    refine V (x_bin rfl rfl (bf rfl)) rfl ?_
    refine WL_nil ?_
    refine W_false (rfl) ?_
    refine W_skip ?_
    refine W_seq ?_
    refine W_region ?_
    refine V (x_move (by conv => lhs; whnf)) rfl ?_
    refine V (x_load ld55 rfl hG0) rfl ?_
    refine V (x_eql_same Tryd.underlying55 ptrE rfl rfl) rfl ?_
    refine WL_nil ?_
    refine W_true (rfl) ?_
    refine W_region ?_
    refine V (x_assign (by conv => lhs; whnf)) rfl ?_
    refine WL_nil ?_
    repeat (first | with_reducible refine xt ?_ | with_reducible refine xb ?_ | with_reducible refine nt ?_ | with_reducible refine nb ?_ | with_reducible refine xn rfl ?_)
    exact fin hp hE' h72 ⟨rfl, rfl, rfl, rfl, rfl, rfl, rfl⟩ rfl
  · have hle : lineErr X.er k L' = .nilIface := by
      rcases hre with ⟨rfl, _⟩ | ⟨rfl, _⟩
      · exact lineErr_0 _ _
      · exact lineErr_1 _ hL'
    rw [hle]
    have hpos := List.length_pos_iff.2 hL'
    refine W_seq ?_
    refine W_seq ?_
    refine W_region ?_
    refine V (x_move (by conv => lhs; whnf)) rfl ?_
    refine V (x_len_slice Tryd.underlying62 rfl) rfl ?_
    refine V (x_bin rfl rfl (bt (decide_eq_true (by omega)))) rfl ?_
    refine WL_nil ?_
    refine W_true (rfl) ?_
    refine W_seq ?_
    refine W_region ?_
    obtain ⟨⟨h74l, h74n, h74B⟩, -, -⟩ := h72.pos pb (by simp)
    refine V (x_field0 fa85_0 rfl) rfl ?_
    refine V (x_load ld3 rfl ((h74B).cell 0 rfl)) rfl ?_
    refine V (x_bin rfl rfl rfl) rfl ?_
    refine V (x_field0 fa85_0 rfl) rfl ?_
    refine S (x_store st3 rfl (by conv => lhs; whnf) rfl (h74B.cell 0 rfl) (h74B.free 0)) ?_
    refine WL_nil ?_
    have h74 := h72.setPos (pb := pb) (i := 0) (by simp) (by omega) (IntKind.i64.wrap (h74l + 1))
    refine W_region ?_
    obtain ⟨⟨h75l, h75n, h75B⟩, -, -⟩ := h74.pos pb (by simp)
    refine V (x_field0 fa85_1 rfl) rfl ?_
    refine S (x_store st3 rfl (by conv => lhs; whnf) rfl (h75B.cell 1 rfl) (h75B.free 1)) ?_
    refine WL_nil ?_
    have h75 := h74.setPos (pb := pb) (i := 1) (by simp) (by omega) 1
    refine W_seq ?_
    refine W_region ?_
    have hG75 := (h75.glob hX.start).cell 0 (by omega)
    refine V (x_move (by conv => lhs; whnf)) rfl ?_
    refine V (x_load ld55 rfl hG75) rfl ?_
    refine V (x_eql_nil_held Tryd.underlying55 rfl rfl) rfl ?_
    refine WL_nil ?_
    refine W_false (rfl) ?_
    refine W_skip ?_
    repeat (first | with_reducible refine xt ?_ | with_reducible refine xb ?_ | with_reducible refine nt ?_ | with_reducible refine nb ?_ | with_reducible refine xn rfl ?_)
    exact fin hp hE' h75 ⟨rfl, rfl, rfl, rfl, rfl, rfl, rfl⟩ rfl
end
end Go.Proofs.YtcdhbfhijkdfoaaDoor
