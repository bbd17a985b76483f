/-
  readRecord: a quote within quotes; the loop within quotes; a field, whatever it is.
-/
import Derived.Test.YtcdhbfhijkdfoaaDoorRx
namespace Go.Proofs.YtcdhbfhijkdfoaaDoor
open Go.EC Go.RowKit
section
variable {X : Cx} (hX : X.Ok)
include hX
variable {pb qb r : Nat} {x : Fld} {w : World} {p rb L : Bytes} {ix : List Nat} {acc : List Bytes} {A : Option Addr} {c : Nat} {K0 : Nat} {e : Env} {cur rb0 : Bytes}
theorem quoted_quote (h : QS X e w x r p rb ix pb qb A c L acc cur rb0) (u L2 : Bytes) (hL : L = u ++ 34 :: L2) (hu : (34 : UInt8) ∉ u) (hidx : Lib.indexByte L 34 = (u.length : Int)) (hK : (L ++ p).length < K0) : W Tryd.prog Tryd.f41.ntmps (inC (inC (sndC (sndC (sndC (elseC (sndC (sndC (inC (inC (inC (fstC (sndC (sndC (sndC (sndC (sndC (sndC (sndC (sndC (sndC (sndC (sndC (sndC (sndC (scC (sndC (bodyOf Tryd.f41)))))))))))))))))))))))))))) (QQ X (L ++ p).length K0) e w := by
  have hst := h.st
  have hNN := hX.N
  have hN1 := h.n1
  have hN2 := h.n2
  have hcap := hst.line.cap
  have hcl := hX.cm.len
  have h13 := h.cr
  have hll : L.length = u.length + (L2.length + 1) := by rw [hL]; simp
  rw [List.length_append] at hN1 hN2
  have hF : Fields X.cm X.x0.lz (some (cur ++ u)) (34 :: (L2 ++ p)) acc X.fs X.rest := Fields.skip hu (by have := h.fl; rw [hL, List.append_assoc] at this; exact this)
  have hE2 : LineEnd L2 p := by
    rcases h.le with ⟨L0, h1, h2⟩ | ⟨h1, h2⟩
    · refine .inl ?_
      rcases List.eq_nil_or_concat L2 with hx | ⟨M, b, hx⟩
      · rw [hx] at hL
        have h3 := h1.symm.trans hL
        have h4 := List.append_inj_right' h3 rfl
        simp at h4
      · rw [hx] at hL
        have h3 : L0 ++ [10] = (u ++ 34 :: M) ++ [b] := by rw [← h1, hL]; simp
        have h4 := List.append_inj_right' h3 rfl
        have h5 := List.append_inj_left' h3 rfl
        simp at h4
        refine ⟨M, by rw [h4, hx]; simp, fun hh => h2 ?_⟩
        rw [h5]
        simp [hh]
    · exact .inr ⟨h1, fun hh => h2 (by rw [hL]; simp [hh])⟩
  have hdrop : L.drop (u.length + 1) = L2 := by rw [hL, ← List.drop_drop, List.drop_left]; rfl
  have hl2 : L.length - (u.length + 1) = L2.length := by omega
  have hrb : rb ++ u = rb0 ++ (cur ++ u) := by rw [h.rbe, List.append_assoc]
  have hg := h.ga
  have e2 : (rb ++ u).length = rb.length + u.length := List.length_append
  rw [h.env.env2 h.e17]
  conv => arg 3; whnf
  refine W_block ?_
  refine W_seq ?_
  refine W_region ?_
  refine V (x_move (by conv => lhs; whnf)) rfl ?_
  refine C (x_call2 cf53 (by conv => lhs; whnf) (by conv => lhs; whnf)) rfl ?_
  refine (IndexByte_n A L.length c L 34 _ _ _ hst.line.at_ rfl rfl hidx).mono fun v w1 h1 => ?_
  obtain ⟨rfl, rfl⟩ := h1
  refine V (x_assign (by conv => lhs; whnf)) rfl ?_
  refine WL_nil ?_
  refine W_seq ?_
  refine W_region ?_
  refine V (x_move (by conv => lhs; whnf)) rfl ?_
  refine V (x_bin rfl rfl (bt (decide_eq_true (by omega)))) rfl ?_
  refine WL_nil ?_
  refine W_true (rfl) ?_
  refine W_seq ?_
  refine W_draw mixed ?_
  have hd := hst.drew
  refine D_pure (i := 0) (listed' := #[true, false, false, false, false, false, false, false, false, false, false, false]) (by kernel_rfl) (by kernel_rfl) (by kernel_rfl) rfl (by kernel_rfl) (fun _ => x_move (by conv => lhs; whnf)) rfl ?_
  refine D_pure (i := 1) (listed' := #[true, true, false, false, false, false, false, false, false, false, false, false]) (by kernel_rfl) (by kernel_rfl) (by kernel_rfl) rfl (by kernel_rfl) (fun _ => x_move (by conv => lhs; whnf)) rfl ?_
  refine D_pure (i := 2) (listed' := #[true, true, true, false, false, false, false, false, false, false, false, false]) (by kernel_rfl) (by kernel_rfl) (by kernel_rfl) rfl (by kernel_rfl) (fun _ => x_nilc rfl) rfl ?_
  refine D_pure (i := 3) (listed' := #[true, true, true, true, false, false, false, false, false, false, false, false]) (by kernel_rfl) (by kernel_rfl) (by kernel_rfl) rfl (by kernel_rfl) (fun _ => x_field0 fa71_11 rfl) rfl ?_
  refine D_pure (i := 5) (listed' := #[true, true, true, true, false, true, false, false, false, false, false, false]) (by kernel_rfl) (by kernel_rfl) (by kernel_rfl) rfl (by kernel_rfl) (fun _ => x_move (by conv => lhs; whnf)) rfl ?_
  refine D_pure (i := 6) (listed' := #[true, true, true, true, false, true, true, false, false, false, false, false]) (by kernel_rfl) (by kernel_rfl) (by kernel_rfl) rfl (by kernel_rfl) (fun _ => x_move (by conv => lhs; whnf)) rfl ?_
  refine D_pure (i := 7) (listed' := #[true, true, true, true, false, true, true, true, false, false, false, false]) (by kernel_rfl) (by kernel_rfl) (by kernel_rfl) rfl (by kernel_rfl) (fun _ => x_slice_h (h := u.length) Tryd.underlying62 ⟨1, sz5⟩ rfl rfl rfl (by omega)) rfl ?_
  refine D_one (i := 4) (listed' := #[true, true, true, true, true, true, true, true, false, false, false, false]) (by kernel_rfl) rfl (by kernel_rfl) (x_load ld62 rfl ((hd.st.rd.C).cell 11 rfl)) rfl ?_
  refine D_oneE (i := 8) (listed' := #[true, true, true, true, true, true, true, true, true, false, false, false]) (by kernel_rfl) rfl (by kernel_rfl) (x_append (news := u.map bv) eT5 (by conv => lhs; whnf) (by conv => lhs; whnf) hd.st.rcb (by simp) ((hd.bytes hL).cells) map_bv_one (by omega) (by unfold maxLen; omega)) rfl ?_
  rintro h49v h49w ⟨h49o, h49p, h49q⟩
  obtain ⟨h49D, h49⟩ := hd.appRec (rb' := rb ++ u) rfl (by simpa using h49o) h49p h49q
  refine D_pure (i := 9) (listed' := #[true, true, true, true, true, true, true, true, true, true, false, false]) (by kernel_rfl) (by kernel_rfl) (by kernel_rfl) rfl (by kernel_rfl) (fun _ => x_nilc rfl) rfl ?_
  refine D_pure (i := 10) (listed' := #[true, true, true, true, true, true, true, true, true, true, true, false]) (by kernel_rfl) (by kernel_rfl) (by kernel_rfl) rfl (by kernel_rfl) (fun _ => x_field0 fa71_11 rfl) rfl ?_
  refine D_oneS (i := 11) (listed' := #[true, true, true, true, true, true, true, true, true, true, true, true]) (by kernel_rfl) rfl (by kernel_rfl) (x_store st62 rfl (by conv => lhs; whnf) h49o.one (h49D.cell 11 rfl) (h49D.free 11)) ?_
  refine WA_done (by kernel_rfl) ?_
  refine W_seq ?_
  refine W_region ?_
  refine V (x_move (by conv => lhs; whnf)) rfl ?_
  refine V (x_move (by conv => lhs; whnf)) rfl ?_
  refine V (x_bin rfl rfl (ib_addn (m := u.length + 1) (by omega) (by omega))) rfl ?_
  refine V (x_slice_l Tryd.underlying62 sz5 rfl rfl rfl (by omega)) rfl ?_
  refine V (x_assign (by conv => lhs; whnf)) rfl ?_
  refine WL_nil ?_
  rw [hl2]
  have h50 := h49.cut (u.length + 1) (by omega)
  rw [hdrop] at h50
  refine W_seq ?_
  refine W_region ?_
  obtain ⟨⟨h51l, h51n, h51B⟩, -, -⟩ := h50.pos pb (by simp)
  refine V (x_field0 fa85_1 rfl) rfl ?_
  refine V (x_load ld3 rfl ((h51B).cell 1 rfl)) rfl ?_
  refine V (x_move (by conv => lhs; whnf)) rfl ?_
  refine V (x_bin rfl rfl rfl) rfl ?_
  refine V (x_bin rfl rfl rfl) rfl ?_
  refine V (x_field0 fa85_1 rfl) rfl ?_
  refine S (x_store st3 rfl (by conv => lhs; whnf) rfl (h51B.cell 1 rfl) (h51B.free 1)) ?_
  refine WL_nil ?_
  have h51 := h50.setPos (pb := pb) (i := 1) (by simp) (by omega) (IntKind.i64.wrap (h51n + IntKind.i64.wrap ((u.length : Int) + 1)))
  refine W_seq ?_
  refine W_region ?_
  refine V (x_move (by conv => lhs; whnf)) rfl ?_
  refine C (x_call1 cf46 (by conv => lhs; whnf)) rfl ?_
  refine (nextRune_ok _ L2 _ _ h51.line.at_ (h51.tabs hX.start)).mono fun v w1 h1 => ?_
  obtain ⟨rfl, hb⟩ := h1
  have h52 := h51.new (Only.of_below hb _)
  refine V (x_assign (by conv => lhs; whnf)) rfl ?_
  refine WL_nil ?_
  have hC5 := h52.st.rd.C
  unfold CBlk at hC5
  rw [h52.fld.1] at hC5
  have hcap2 := h52.line.cap
  obtain ⟨hv1, hv2, hv3, hv4, hv5, hv6, hv7⟩ := hX.cm.valid
  rcases hF.inv_q with ⟨s3, hs3, hF3⟩ | ⟨v3, hs3, hF3⟩ | ⟨heol, hfs, hrest⟩
  · obtain ⟨L3, hL3, hs3'⟩ := hE2.head (u := [34]) (v := s3) (by decide) hs3
    have hr : runeB L2 = 34 := by rw [hL3]; exact runeB_ascii (b := 34) (by decide)
    have hl3 : L2.length - 1 = L3.length := by rw [hL3]; simp
    have hl3' : L2.length = L3.length + 1 := by rw [hL3]; simp
    have hdrop3 : L2.drop 1 = L3 := by rw [hL3]; rfl
    refine W_block ?_
    refine W_seq ?_
    refine W_region ?_
    refine V (x_move (by conv => lhs; whnf)) rfl ?_
    refine V (x_bin rfl rfl (bt (beq_iff_eq.2 hr))) rfl ?_
    refine V (x_assign (by conv => lhs; whnf)) rfl ?_
    refine WL_nil ?_
    refine W_true (rfl) ?_
    refine W_seq ?_
    refine W_region ?_
    refine V (x_move (by conv => lhs; whnf)) rfl ?_
    refine V (x_move (by conv => lhs; whnf)) rfl ?_
    refine V (x_nilc rfl) rfl ?_
    refine V (x_field0 fa71_11 rfl) rfl ?_
    refine V (x_load ld62 rfl ((h52.st.rd.C).cell 11 rfl)) rfl ?_
    refine V (x_bs1 Tryd.underlying62 sz5 zv5 rfl rfl rfl) rfl ?_
    have h55a := h52.new (Only.alloc (fun _ => False) _ (.cells [Value.int .u8 34].toArray 5))
    refine VE (x_append (news := [34].map bv) eT5 (by conv => lhs; whnf) (by conv => lhs; whnf) h55a.st.rcb rfl (Cells.of_blk (Blk.new _ _ _)) byte_one (by simp; omega) (by unfold maxLen; simp; omega)) rfl ?_
    rintro h55v h55w ⟨h55o, h55p, h55q⟩
    obtain ⟨h55D, h55⟩ := h55a.appRec (rb' := (rb ++ u) ++ [34]) rfl (by simpa [Nat.add_assoc] using h55o) h55p h55q
    refine V (x_nilc rfl) rfl ?_
    refine V (x_field0 fa71_11 rfl) rfl ?_
    refine S (x_store st62 rfl (by conv => lhs; whnf) h55o.one (h55D.cell 11 rfl) (h55D.free 11)) ?_
    refine WL_nil ?_
    refine W_seq ?_
    refine W_region ?_
    refine V (x_move (by conv => lhs; whnf)) rfl ?_
    refine V (x_slice_l (l := 1) Tryd.underlying62 sz5 rfl rfl rfl (by omega)) rfl ?_
    refine V (x_assign (by conv => lhs; whnf)) rfl ?_
    refine WL_nil ?_
    rw [hl3]
    have h56 := h55.cut 1 (by omega)
    rw [hdrop3] at h56
    refine W_region ?_
    obtain ⟨⟨h57l, h57n, h57B⟩, -, -⟩ := h56.pos pb (by simp)
    refine V (x_field0 fa85_1 rfl) rfl ?_
    refine V (x_load ld3 rfl ((h57B).cell 1 rfl)) rfl ?_
    refine V (x_bin rfl rfl rfl) rfl ?_
    refine V (x_field0 fa85_1 rfl) rfl ?_
    refine S (x_store st3 rfl (by conv => lhs; whnf) rfl (h57B.cell 1 rfl) (h57B.free 1)) ?_
    refine WL_nil ?_
    have h57 := h56.setPos (pb := pb) (i := 1) (by simp) (by omega) (IntKind.i64.wrap (h57n + 1))
    repeat (first | with_reducible refine xt ?_ | with_reducible refine xb ?_ | with_reducible refine nt ?_ | with_reducible refine nb ?_ | with_reducible refine xn rfl ?_)
    refine ⟨(L3 ++ p).length, by simp; omega, _, r, p, _, ix, pb, qb, _, _, L3, acc, cur ++ u ++ [34], rb0, ⟨h57, ⟨rfl, rfl, rfl, rfl, rfl, rfl, rfl⟩, rfl, ?_, by rw [← hs3']; exact hF3, hg, by rw [hrb, List.append_assoc], by simp; omega, by simp; omega, h13⟩, rfl⟩
    rw [hL3] at hE2
    exact hE2.drop (by decide)
  · obtain ⟨L3, hL3, hs3'⟩ := hE2.head (u := X.cm) (v := v3) hX.cm.not_mem.1 hs3
    have hr : runeB L2 = X.x0.cm := by rw [hL3, hX.cm.enc]; exact runeB_enc hv1 hv2 L3
    have hl3 : L2.length - X.cm.length = L3.length := by rw [hL3]; simp
    have hl3' : L2.length = X.cm.length + L3.length := by rw [hL3]; simp
    have hdrop3 : L2.drop X.cm.length = L3 := by rw [hL3, List.drop_left]
    refine W_block ?_
    refine W_seq ?_
    refine W_region ?_
    refine V (x_move (by conv => lhs; whnf)) rfl ?_
    refine V (x_bin rfl rfl (bf (beq_eq_false_iff_ne.2 (by rw [hr]; exact hv4)))) rfl ?_
    refine V (x_assign (by conv => lhs; whnf)) rfl ?_
    refine WL_nil ?_
    refine W_false (rfl) ?_
    refine W_seq ?_
    refine W_region ?_
    refine V (x_move (by conv => lhs; whnf)) rfl ?_
    refine V (x_move (by conv => lhs; whnf)) rfl ?_
    refine V (x_nilc rfl) rfl ?_
    refine V (x_field0 fa71_0 rfl) rfl ?_
    refine V (x_load ld21 rfl ((hC5).cell 0 rfl)) rfl ?_
    refine V (x_bin rfl rfl (bt (beq_iff_eq.2 hr))) rfl ?_
    refine V (x_assign (by conv => lhs; whnf)) rfl ?_
    refine WL_nil ?_
    refine W_true (rfl) ?_
    refine W_seq ?_
    refine W_region ?_
    refine V (x_move (by conv => lhs; whnf)) rfl ?_
    refine V (x_move (by conv => lhs; whnf)) rfl ?_
    refine V (x_slice_l Tryd.underlying62 sz5 rfl rfl rfl (by omega)) rfl ?_
    refine V (x_assign (by conv => lhs; whnf)) rfl ?_
    refine WL_nil ?_
    rw [hl3]
    have h59 := h52.cut X.cm.length (by omega)
    rw [hdrop3] at h59
    refine W_seq ?_
    refine W_region ?_
    obtain ⟨⟨h60l, h60n, h60B⟩, -, -⟩ := h59.pos pb (by simp)
    refine V (x_field0 fa85_1 rfl) rfl ?_
    refine V (x_load ld3 rfl ((h60B).cell 1 rfl)) rfl ?_
    refine V (x_move (by conv => lhs; whnf)) rfl ?_
    refine V (x_bin rfl rfl rfl) rfl ?_
    refine V (x_field0 fa85_1 rfl) rfl ?_
    refine S (x_store st3 rfl (by conv => lhs; whnf) rfl (h60B.cell 1 rfl) (h60B.free 1)) ?_
    refine WL_nil ?_
    have h60 := h59.setPos (pb := pb) (i := 1) (by simp) (by omega) (IntKind.i64.wrap (h60n + (X.cm.length : Int)))
    refine W_seq ?_
    refine W_draw mixed ?_
    have h61a := h60.drew
    have h61C := h61a.st.rd.C
    obtain ⟨h61A, h61c, h61f, -, -⟩ := h61a.st.rcb.form
    refine D_pure (i := 0) (listed' := #[true, false, false, false, false, false, false, false, false, false, false, false, false, false, false]) (by kernel_rfl) (by kernel_rfl) (by kernel_rfl) rfl (by kernel_rfl) (fun _ => x_move (by conv => lhs; whnf)) rfl ?_
    refine D_pure (i := 1) (listed' := #[true, true, false, false, false, false, false, false, false, false, false, false, false, false, false]) (by kernel_rfl) (by kernel_rfl) (by kernel_rfl) rfl (by kernel_rfl) (fun _ => x_move (by conv => lhs; whnf)) rfl ?_
    refine D_pure (i := 2) (listed' := #[true, true, true, false, false, false, false, false, false, false, false, false, false, false, false]) (by kernel_rfl) (by kernel_rfl) (by kernel_rfl) rfl (by kernel_rfl) (fun _ => x_nilc rfl) rfl ?_
    refine D_pure (i := 3) (listed' := #[true, true, true, true, false, false, false, false, false, false, false, false, false, false, false]) (by kernel_rfl) (by kernel_rfl) (by kernel_rfl) rfl (by kernel_rfl) (fun _ => x_field0 fa71_12 rfl) rfl ?_
    refine D_pure (i := 5) (listed' := #[true, true, true, true, false, true, false, false, false, false, false, false, false, false, false]) (by kernel_rfl) (by kernel_rfl) (by kernel_rfl) rfl (by kernel_rfl) (fun _ => x_move (by conv => lhs; whnf)) rfl ?_
    refine D_pure (i := 6) (listed' := #[true, true, true, true, false, true, true, false, false, false, false, false, false, false, false]) (by kernel_rfl) (by kernel_rfl) (by kernel_rfl) rfl (by kernel_rfl) (fun _ => x_nilc rfl) rfl ?_
    refine D_pure (i := 7) (listed' := #[true, true, true, true, false, true, true, true, false, false, false, false, false, false, false]) (by kernel_rfl) (by kernel_rfl) (by kernel_rfl) rfl (by kernel_rfl) (fun _ => x_field0 fa71_11 rfl) rfl ?_
    refine D_still (i := 8) (listed' := #[true, true, true, true, false, true, true, true, true, false, false, false, false, false, false]) (by kernel_rfl) (by kernel_rfl) (by kernel_rfl) rfl (by kernel_rfl) (fun _ hgw => x_load ld62 rfl (hgw.cell ((h61C).cell 11 rfl))) rfl ?_
    refine D_pure (i := 9) (listed' := #[true, true, true, true, false, true, true, true, true, true, false, false, false, false, false]) (by kernel_rfl) (by kernel_rfl) (by kernel_rfl) rfl (by kernel_rfl) (fun _ => x_len_slice Tryd.underlying62 h61f) rfl ?_
    refine D_still (i := 4) (listed' := #[true, true, true, true, true, true, true, true, true, true, false, false, false, false, false]) (by kernel_rfl) (by kernel_rfl) (by kernel_rfl) rfl (by kernel_rfl) (fun _ hgw => x_load ld38 rfl (hgw.cell ((h61C).cell 12 rfl))) rfl ?_
    refine D_one (i := 10) (listed' := #[true, true, true, true, true, true, true, true, true, true, true, false, false, false, false]) (by kernel_rfl) rfl (by kernel_rfl) (x_bs1 Tryd.underlying38 sz3 zv3 rfl rfl rfl) rfl ?_
    have h61b := h61a.new (Only.alloc (fun _ => False) _ (.cells [Value.int .i64 ((rb ++ u).length : Int)].toArray 3))
    refine D_oneE (i := 11) (listed' := #[true, true, true, true, true, true, true, true, true, true, true, true, false, false, false]) (by kernel_rfl) rfl (by kernel_rfl) (x_append (news := [.int .i64 ((rb ++ u).length : Int)]) eT3 (by conv => lhs; whnf) (by conv => lhs; whnf) h61b.st.idx rfl (Cells.of_blk (Blk.new _ _ _)) int_one (by omega) (by unfold maxLen; omega)) rfl ?_
    rintro h61v h61w ⟨h61o, h61p, h61q⟩
    obtain ⟨h61D, h61⟩ := h61b.appIdx (ix' := ix ++ [(rb ++ u).length]) rfl (by simpa using h61o) h61p h61q
    refine D_pure (i := 12) (listed' := #[true, true, true, true, true, true, true, true, true, true, true, true, true, false, false]) (by kernel_rfl) (by kernel_rfl) (by kernel_rfl) rfl (by kernel_rfl) (fun _ => x_nilc rfl) rfl ?_
    refine D_pure (i := 13) (listed' := #[true, true, true, true, true, true, true, true, true, true, true, true, true, true, false]) (by kernel_rfl) (by kernel_rfl) (by kernel_rfl) rfl (by kernel_rfl) (fun _ => x_field0 fa71_12 rfl) rfl ?_
    refine D_oneS (i := 14) (listed' := #[true, true, true, true, true, true, true, true, true, true, true, true, true, true, true]) (by kernel_rfl) rfl (by kernel_rfl) (x_store st38 rfl (by conv => lhs; whnf) h61o.one (h61D.cell 12 rfl) (h61D.free 12)) ?_
    refine WA_done (by kernel_rfl) ?_
    refine W_seq ?_
    refine W_draw mixed ?_
    have h62a := h61.drew
    have h62C := h62a.st.rd.C
    obtain ⟨⟨h62l, h62n, h62B⟩, -, -⟩ := h62a.pos qb (by simp)
    refine D_pure (i := 0) (listed' := #[true, false, false, false, false, false, false, false, false, false, false]) (by kernel_rfl) (by kernel_rfl) (by kernel_rfl) rfl (by kernel_rfl) (fun _ => x_move (by conv => lhs; whnf)) rfl ?_
    refine D_pure (i := 1) (listed' := #[true, true, false, false, false, false, false, false, false, false, false]) (by kernel_rfl) (by kernel_rfl) (by kernel_rfl) rfl (by kernel_rfl) (fun _ => x_move (by conv => lhs; whnf)) rfl ?_
    refine D_pure (i := 2) (listed' := #[true, true, true, false, false, false, false, false, false, false, false]) (by kernel_rfl) (by kernel_rfl) (by kernel_rfl) rfl (by kernel_rfl) (fun _ => x_nilc rfl) rfl ?_
    refine D_pure (i := 3) (listed' := #[true, true, true, true, false, false, false, false, false, false, false]) (by kernel_rfl) (by kernel_rfl) (by kernel_rfl) rfl (by kernel_rfl) (fun _ => x_field0 fa71_13 rfl) rfl ?_
    refine D_still (i := 4) (listed' := #[true, true, true, true, true, false, false, false, false, false, false]) (by kernel_rfl) (by kernel_rfl) (by kernel_rfl) rfl (by kernel_rfl) (fun _ hgw => x_load ld69 rfl (hgw.cell ((h62C).cell 13 rfl))) rfl ?_
    refine D_one (i := 5) (listed' := #[true, true, true, true, true, true, false, false, false, false, false]) (by kernel_rfl) rfl (by kernel_rfl) (x_loadA Tryd.underlying85 (cs := [.int .i64 h62l, .int .i64 h62n]) sz85 rfl h62B) rfl ?_
    refine D_one (i := 6) (listed' := #[true, true, true, true, true, true, true, false, false, false, false]) (by kernel_rfl) rfl (by kernel_rfl) (x_bsP Tryd.underlying69 sz85 zv85 rfl) rfl ?_
    have h62b := h62a.new (Only.alloc (fun _ => False) _ (.cells [Value.int .i64 h62l, .int .i64 h62n].toArray 85))
    obtain ⟨h62y, h62x⟩ := h62b.st.psn
    refine D_oneE (i := 7) (listed' := #[true, true, true, true, true, true, true, true, false, false, false]) (by kernel_rfl) rfl (by kernel_rfl) (x_append (news := [.int .i64 h62l, .int .i64 h62n]) eT85 (by conv => lhs; whnf) (by conv => lhs; whnf) h62x rfl (Cells.of_blk (Blk.new _ _ _)) pair_one (by omega) (by unfold maxLen; omega)) rfl ?_
    rintro h62v h62w ⟨h62o, h62p, h62q⟩
    obtain ⟨h62D, h62⟩ := h62b.appPsn rfl h62o h62p h62q
    refine D_pure (i := 8) (listed' := #[true, true, true, true, true, true, true, true, true, false, false]) (by kernel_rfl) (by kernel_rfl) (by kernel_rfl) rfl (by kernel_rfl) (fun _ => x_nilc rfl) rfl ?_
    refine D_pure (i := 9) (listed' := #[true, true, true, true, true, true, true, true, true, true, false]) (by kernel_rfl) (by kernel_rfl) (by kernel_rfl) rfl (by kernel_rfl) (fun _ => x_field0 fa71_13 rfl) rfl ?_
    refine D_oneS (i := 10) (listed' := #[true, true, true, true, true, true, true, true, true, true, true]) (by kernel_rfl) rfl (by kernel_rfl) (x_store st69 rfl (by conv => lhs; whnf) h62o.one (h62D.cell 13 rfl) (h62D.free 13)) ?_
    refine WA_done (by kernel_rfl) ?_
    refine W_exit ?_
    repeat (first | with_reducible refine xt ?_ | with_reducible refine xb ?_ | with_reducible refine nt ?_ | with_reducible refine nb ?_ | with_reducible refine xn rfl ?_)
    have hEE : LineEnd L3 p := by rw [hL3] at hE2; exact hE2.drop hX.cm.not_mem.1
    rw [show ix.length + 1 = (ix ++ [(rb ++ u).length]).length by simp] at h62
    refine ⟨(L3 ++ p).length, by simp at hK ⊢; omega, _, r, p, _, _, pb, _, _, L3, acc ++ [cur ++ u], h62.dropPos (P' := [pb]) (by simp), ⟨rfl, rfl, rfl, rfl, rfl, rfl, rfl⟩, hEE, by rw [← hs3']; exact hF3, ?_, by simp; omega, by simp; omega, rfl, h13⟩
    rw [hrb]
    exact hg.snoc
  · have hl2c := hE2.eol heol
    have hrp : X.rest = p := by
      rw [hrest]
      rcases hl2c with ⟨h1, h2⟩ | h1
      · rw [h1, h2]; rfl
      · rw [h1]; rfl
    have hr1 : runeB L2 ≠ 34 ∧ runeB L2 ≠ X.x0.cm := by
      rcases hl2c with ⟨h1, h2⟩ | h1
      · rw [h1, runeB_nil]; exact ⟨by decide, Ne.symm hv7⟩
      · rw [h1, runeB_ascii (b := 10) (by decide)]; exact ⟨by decide, fun hh => hv6 hh.symm⟩
    have hnl : nlLen L2 = L2.length := by
      rcases hl2c with ⟨h1, h2⟩ | h1
      · rw [h1]; exact nlLen_nil
      · rw [h1]; exact nlLen_10
    refine W_block ?_
    refine W_seq ?_
    refine W_region ?_
    refine V (x_move (by conv => lhs; whnf)) rfl ?_
    refine V (x_bin rfl rfl (bf (beq_eq_false_iff_ne.2 hr1.1))) rfl ?_
    refine V (x_assign (by conv => lhs; whnf)) rfl ?_
    refine WL_nil ?_
    refine W_false (rfl) ?_
    refine W_seq ?_
    refine W_region ?_
    refine V (x_move (by conv => lhs; whnf)) rfl ?_
    refine V (x_move (by conv => lhs; whnf)) rfl ?_
    refine V (x_nilc rfl) rfl ?_
    refine V (x_field0 fa71_0 rfl) rfl ?_
    refine V (x_load ld21 rfl ((hC5).cell 0 rfl)) rfl ?_
    refine V (x_bin rfl rfl (bf (beq_eq_false_iff_ne.2 hr1.2))) rfl ?_
    refine V (x_assign (by conv => lhs; whnf)) rfl ?_
    refine WL_nil ?_
    refine W_false (rfl) ?_
    refine W_seq ?_
    refine W_region ?_
    refine V (x_move (by conv => lhs; whnf)) rfl ?_
    refine C (x_call1 cf47 (by conv => lhs; whnf)) rfl ?_
    refine (lengthNL_ok _ L2 _ _ h52.line.at_ hcap2 (by omega)).mono fun v w2 h3 => ?_
    obtain ⟨rfl, rfl⟩ := h3
    refine V (x_move (by conv => lhs; whnf)) rfl ?_
    refine V (x_len_slice Tryd.underlying62 rfl) rfl ?_
    refine V (x_bin rfl rfl (bt (beq_iff_eq.2 (by omega)))) rfl ?_
    refine V (x_assign (by conv => lhs; whnf)) rfl ?_
    refine WL_nil ?_
    refine W_true (rfl) ?_
    refine W_seq ?_
    refine W_draw mixed ?_
    have h64a := h52.drew
    have h64C := h64a.st.rd.C
    obtain ⟨h64A, h64c, h64f, -, -⟩ := h64a.st.rcb.form
    refine D_pure (i := 0) (listed' := #[true, false, false, false, false, false, false, false, false, false, false, false, false, false, false]) (by kernel_rfl) (by kernel_rfl) (by kernel_rfl) rfl (by kernel_rfl) (fun _ => x_move (by conv => lhs; whnf)) rfl ?_
    refine D_pure (i := 1) (listed' := #[true, true, false, false, false, false, false, false, false, false, false, false, false, false, false]) (by kernel_rfl) (by kernel_rfl) (by kernel_rfl) rfl (by kernel_rfl) (fun _ => x_move (by conv => lhs; whnf)) rfl ?_
    refine D_pure (i := 2) (listed' := #[true, true, true, false, false, false, false, false, false, false, false, false, false, false, false]) (by kernel_rfl) (by kernel_rfl) (by kernel_rfl) rfl (by kernel_rfl) (fun _ => x_nilc rfl) rfl ?_
    refine D_pure (i := 3) (listed' := #[true, true, true, true, false, false, false, false, false, false, false, false, false, false, false]) (by kernel_rfl) (by kernel_rfl) (by kernel_rfl) rfl (by kernel_rfl) (fun _ => x_field0 fa71_12 rfl) rfl ?_
    refine D_pure (i := 5) (listed' := #[true, true, true, true, false, true, false, false, false, false, false, false, false, false, false]) (by kernel_rfl) (by kernel_rfl) (by kernel_rfl) rfl (by kernel_rfl) (fun _ => x_move (by conv => lhs; whnf)) rfl ?_
    refine D_pure (i := 6) (listed' := #[true, true, true, true, false, true, true, false, false, false, false, false, false, false, false]) (by kernel_rfl) (by kernel_rfl) (by kernel_rfl) rfl (by kernel_rfl) (fun _ => x_nilc rfl) rfl ?_
    refine D_pure (i := 7) (listed' := #[true, true, true, true, false, true, true, true, false, false, false, false, false, false, false]) (by kernel_rfl) (by kernel_rfl) (by kernel_rfl) rfl (by kernel_rfl) (fun _ => x_field0 fa71_11 rfl) rfl ?_
    refine D_still (i := 8) (listed' := #[true, true, true, true, false, true, true, true, true, false, false, false, false, false, false]) (by kernel_rfl) (by kernel_rfl) (by kernel_rfl) rfl (by kernel_rfl) (fun _ hgw => x_load ld62 rfl (hgw.cell ((h64C).cell 11 rfl))) rfl ?_
    refine D_pure (i := 9) (listed' := #[true, true, true, true, false, true, true, true, true, true, false, false, false, false, false]) (by kernel_rfl) (by kernel_rfl) (by kernel_rfl) rfl (by kernel_rfl) (fun _ => x_len_slice Tryd.underlying62 h64f) rfl ?_
    refine D_still (i := 4) (listed' := #[true, true, true, true, true, true, true, true, true, true, false, false, false, false, false]) (by kernel_rfl) (by kernel_rfl) (by kernel_rfl) rfl (by kernel_rfl) (fun _ hgw => x_load ld38 rfl (hgw.cell ((h64C).cell 12 rfl))) rfl ?_
    refine D_one (i := 10) (listed' := #[true, true, true, true, true, true, true, true, true, true, true, false, false, false, false]) (by kernel_rfl) rfl (by kernel_rfl) (x_bs1 Tryd.underlying38 sz3 zv3 rfl rfl rfl) rfl ?_
    have h64b := h64a.new (Only.alloc (fun _ => False) _ (.cells [Value.int .i64 ((rb ++ u).length : Int)].toArray 3))
    refine D_oneE (i := 11) (listed' := #[true, true, true, true, true, true, true, true, true, true, true, true, false, false, false]) (by kernel_rfl) rfl (by kernel_rfl) (x_append (news := [.int .i64 ((rb ++ u).length : Int)]) eT3 (by conv => lhs; whnf) (by conv => lhs; whnf) h64b.st.idx rfl (Cells.of_blk (Blk.new _ _ _)) int_one (by omega) (by unfold maxLen; omega)) rfl ?_
    rintro h64v h64w ⟨h64o, h64p, h64q⟩
    obtain ⟨h64D, h64⟩ := h64b.appIdx (ix' := ix ++ [(rb ++ u).length]) rfl (by simpa using h64o) h64p h64q
    refine D_pure (i := 12) (listed' := #[true, true, true, true, true, true, true, true, true, true, true, true, true, false, false]) (by kernel_rfl) (by kernel_rfl) (by kernel_rfl) rfl (by kernel_rfl) (fun _ => x_nilc rfl) rfl ?_
    refine D_pure (i := 13) (listed' := #[true, true, true, true, true, true, true, true, true, true, true, true, true, true, false]) (by kernel_rfl) (by kernel_rfl) (by kernel_rfl) rfl (by kernel_rfl) (fun _ => x_field0 fa71_12 rfl) rfl ?_
    refine D_oneS (i := 14) (listed' := #[true, true, true, true, true, true, true, true, true, true, true, true, true, true, true]) (by kernel_rfl) rfl (by kernel_rfl) (x_store st38 rfl (by conv => lhs; whnf) h64o.one (h64D.cell 12 rfl) (h64D.free 12)) ?_
    refine WA_done (by kernel_rfl) ?_
    refine W_seq ?_
    refine W_draw mixed ?_
    have h65a := h64.drew
    have h65C := h65a.st.rd.C
    obtain ⟨⟨h65l, h65n, h65B⟩, -, -⟩ := h65a.pos qb (by simp)
    refine D_pure (i := 0) (listed' := #[true, false, false, false, false, false, false, false, false, false, false]) (by kernel_rfl) (by kernel_rfl) (by kernel_rfl) rfl (by kernel_rfl) (fun _ => x_move (by conv => lhs; whnf)) rfl ?_
    refine D_pure (i := 1) (listed' := #[true, true, false, false, false, false, false, false, false, false, false]) (by kernel_rfl) (by kernel_rfl) (by kernel_rfl) rfl (by kernel_rfl) (fun _ => x_move (by conv => lhs; whnf)) rfl ?_
    refine D_pure (i := 2) (listed' := #[true, true, true, false, false, false, false, false, false, false, false]) (by kernel_rfl) (by kernel_rfl) (by kernel_rfl) rfl (by kernel_rfl) (fun _ => x_nilc rfl) rfl ?_
    refine D_pure (i := 3) (listed' := #[true, true, true, true, false, false, false, false, false, false, false]) (by kernel_rfl) (by kernel_rfl) (by kernel_rfl) rfl (by kernel_rfl) (fun _ => x_field0 fa71_13 rfl) rfl ?_
    refine D_still (i := 4) (listed' := #[true, true, true, true, true, false, false, false, false, false, false]) (by kernel_rfl) (by kernel_rfl) (by kernel_rfl) rfl (by kernel_rfl) (fun _ hgw => x_load ld69 rfl (hgw.cell ((h65C).cell 13 rfl))) rfl ?_
    refine D_one (i := 5) (listed' := #[true, true, true, true, true, true, false, false, false, false, false]) (by kernel_rfl) rfl (by kernel_rfl) (x_loadA Tryd.underlying85 (cs := [.int .i64 h65l, .int .i64 h65n]) sz85 rfl h65B) rfl ?_
    refine D_one (i := 6) (listed' := #[true, true, true, true, true, true, true, false, false, false, false]) (by kernel_rfl) rfl (by kernel_rfl) (x_bsP Tryd.underlying69 sz85 zv85 rfl) rfl ?_
    have h65b := h65a.new (Only.alloc (fun _ => False) _ (.cells [Value.int .i64 h65l, .int .i64 h65n].toArray 85))
    obtain ⟨h65y, h65x⟩ := h65b.st.psn
    refine D_oneE (i := 7) (listed' := #[true, true, true, true, true, true, true, true, false, false, false]) (by kernel_rfl) rfl (by kernel_rfl) (x_append (news := [.int .i64 h65l, .int .i64 h65n]) eT85 (by conv => lhs; whnf) (by conv => lhs; whnf) h65x rfl (Cells.of_blk (Blk.new _ _ _)) pair_one (by omega) (by unfold maxLen; omega)) rfl ?_
    rintro h65v h65w ⟨h65o, h65p, h65q⟩
    obtain ⟨h65D, h65⟩ := h65b.appPsn rfl h65o h65p h65q
    refine D_pure (i := 8) (listed' := #[true, true, true, true, true, true, true, true, true, false, false]) (by kernel_rfl) (by kernel_rfl) (by kernel_rfl) rfl (by kernel_rfl) (fun _ => x_nilc rfl) rfl ?_
    refine D_pure (i := 9) (listed' := #[true, true, true, true, true, true, true, true, true, true, false]) (by kernel_rfl) (by kernel_rfl) (by kernel_rfl) rfl (by kernel_rfl) (fun _ => x_field0 fa71_13 rfl) rfl ?_
    refine D_oneS (i := 10) (listed' := #[true, true, true, true, true, true, true, true, true, true, true]) (by kernel_rfl) rfl (by kernel_rfl) (x_store st69 rfl (by conv => lhs; whnf) h65o.one (h65D.cell 13 rfl) (h65D.free 13)) ?_
    refine WA_done (by kernel_rfl) ?_
    refine W_exit ?_
    repeat (first | with_reducible refine xt ?_ | with_reducible refine xb ?_ | with_reducible refine nt ?_ | with_reducible refine nb ?_ | with_reducible refine xn rfl ?_)
    rw [show ix.length + 1 = (ix ++ [(rb ++ u).length]).length by simp, ← hrp] at h65
    refine ⟨_, r, _, _, pb, _, _, _, _, _, _, h65.dropPos (P' := [pb]) (by simp), ⟨rfl, rfl, rfl, rfl, rfl, rfl, rfl⟩, ?_, by simp; omega, by simp; omega⟩
    rw [hfs, hrb]
    exact hg.snoc
theorem quoted_loop (h : QS X e w x r p rb ix pb qb A c L acc cur rb0) (hK : (L ++ p).length < K0) : W Tryd.prog Tryd.f41.ntmps (sndC (sndC (sndC (elseC (sndC (sndC (inC (inC (inC (fstC (sndC (sndC (sndC (sndC (sndC (sndC (sndC (sndC (sndC (sndC (sndC (sndC (sndC (scC (sndC (bodyOf Tryd.f41)))))))))))))))))))))))))) (FQ X K0) e w := by
  conv => arg 3; whnf
  refine W_block ?_
  refine W_loop (fun K e w => K < K0 ∧ QI X K e w) (k0 := (L ++ p).length) ⟨hK, x, r, p, rb, ix, pb, qb, A, c, L, acc, cur, rb0, h, rfl⟩ ?_
  clear h hK
  rintro K e w ⟨hK, x, r, p, rb, ix, pb, qb, A, c, L, acc, cur, rb0, h, rfl⟩
  refine W.mono (Q := QQ X (L ++ p).length K0) ?_ ?_
  · by_cases hq : (34 : UInt8) ∈ L
    · have h0 : 0 ≤ Lib.indexByte L 34 := by
        rcases Int.lt_or_le (Lib.indexByte L 34) 0 with h1 | h1
        · exact absurd hq (idx_none h1)
        · exact h1
      obtain ⟨u, L2, hL, hu, hi⟩ := idx_some h0
      exact quoted_quote hX h u L2 hL hu hi hK
    · by_cases hne : L = []
      · exact quoted_end hX h hne
      · exact quoted_line hX h hne hq
  · intro ex e' w' hq
    cases ex with
    | normal => obtain ⟨K', h1, h2⟩ := hq; exact ⟨K', h1, Nat.lt_trans h1 hK, h2⟩
    | _ => exact hq
/-- A field. -/
theorem field_ok {K : Nat} (hI : FI X K e w) : W Tryd.prog Tryd.f41.ntmps (inC (inC (inC (fstC (sndC (sndC (sndC (sndC (sndC (sndC (sndC (sndC (sndC (sndC (sndC (sndC (sndC (scC (sndC (bodyOf Tryd.f41)))))))))))))))))))) (FQ X K) e w := by
  obtain ⟨x, r, p, rb, ix, pb, A, c, L, acc, h, he, hE, hF, hg, hN1, hN2, hK, h13⟩ := hI
  have hC1 := h.st.rd.C
  unfold CBlk at hC1
  rw [h.fld.2.2.2.2.1, hX.tr] at hC1
  have hel := he.env
  cases hLc : L with
  | nil =>
    subst hLc
    rw [hel]
    conv => arg 3; whnf
    refine W_seq ?_
    refine W_seq ?_
    refine W_region ?_
    refine V (x_move (by conv => lhs; whnf)) rfl ?_
    refine V (x_nilc rfl) rfl ?_
    refine V (x_field0 fa71_4 rfl) rfl ?_
    refine V (x_load ld4 rfl ((hC1).cell 4 rfl)) rfl ?_
    refine WL_nil ?_
    refine W_false (rfl) ?_
    refine W_skip ?_
    refine W_seq ?_
    refine W_region ?_
    refine V (x_move (by conv => lhs; whnf)) rfl ?_
    refine V (x_len_slice Tryd.underlying62 rfl) rfl ?_
    refine V (x_bin rfl rfl (bt rfl)) rfl ?_
    refine V (x_move (by conv => lhs; whnf)) rfl ?_
    refine SG rfl (by decide) rfl ?_
    refine SG rfl (by decide) rfl ?_
    refine SG rfl (by decide) rfl ?_
    refine SG rfl (by decide) rfl ?_
    refine V (x_pick_t rfl (by conv => lhs; whnf)) rfl ?_
    refine WL_nil ?_
    refine W_true (rfl) ?_
    exact plain_field hX h ⟨rfl, rfl, rfl, rfl, rfl, rfl, rfl⟩ hE hg (by simp) h13 hN1 hN2 hK hF
  | cons b M =>
    subst hLc
    obtain ⟨gA, oA, rfl, hcell⟩ := h.line.at_ (by simp)
    have hc0 : w.cell? ⟨gA, oA + 0, none⟩ = some (bv b) := hcell 0 b rfl
    have hlb : (b :: M).length = M.length + 1 := rfl
    by_cases hb : b = 34
    · rw [hel]
      obtain ⟨⟨l, n, hB⟩, -, -⟩ := h.pos pb (by simp)
      subst hb
      conv => arg 3; whnf
      refine W_seq ?_
      refine W_seq ?_
      refine W_region ?_
      refine V (x_move (by conv => lhs; whnf)) rfl ?_
      refine V (x_nilc rfl) rfl ?_
      refine V (x_field0 fa71_4 rfl) rfl ?_
      refine V (x_load ld4 rfl ((hC1).cell 4 rfl)) rfl ?_
      refine WL_nil ?_
      refine W_false (rfl) ?_
      refine W_skip ?_
      refine W_seq ?_
      refine W_region ?_
      refine V (x_move (by conv => lhs; whnf)) rfl ?_
      refine V (x_len_slice Tryd.underlying62 rfl) rfl ?_
      refine V (x_bin rfl rfl (bf (beq_eq_false_iff_ne.2 (by omega)))) rfl ?_
      refine V (x_move (by conv => lhs; whnf)) rfl ?_
      refine VG rfl (x_move (by conv => lhs; whnf)) rfl ?_
      refine VG rfl (x_index (i := 0) Tryd.underlying62 sz5 rfl rfl rfl (by omega)) rfl ?_
      refine VG rfl (x_load ld5 rfl hc0) rfl ?_
      refine VG rfl (x_bin rfl rfl (bf rfl)) rfl ?_
      refine V (x_pick_f rfl (by conv => lhs; whnf)) rfl ?_
      refine WL_nil ?_
      refine W_false (rfl) ?_
      refine W_seq ?_
      refine W_region ?_
      refine V (x_loadA Tryd.underlying85 (cs := [.int .i64 l, .int .i64 n]) sz85 rfl hB) rfl ?_
      refine V (x_alloc (cs := [.int .i64 0, .int .i64 0]) zv85 rfl) rfl ?_
      refine SE (x_storeA (vs := [.int .i64 l, .int .i64 n]) (cs := [.int .i64 0, .int .i64 0]) sz85 rfl rfl (Blk.new _ _ _) rfl pair_one) (fun w1 h1 => ?_)
      have h44 := h.addPos ((Only.alloc (fun _ => False) w _).then_ h1.2 fun i hi hh => by omega) h1.1 (Nat.le_refl _)
      refine WL_nil ?_
      refine W_seq ?_
      refine W_region ?_
      refine V (x_move (by conv => lhs; whnf)) rfl ?_
      refine V (x_slice_l (l := 1) Tryd.underlying62 sz5 rfl rfl rfl (by omega)) rfl ?_
      refine V (x_assign (by conv => lhs; whnf)) rfl ?_
      refine WL_nil ?_
      have h45 := h44.cut 1 (by omega)
      refine W_seq ?_
      refine W_region ?_
      obtain ⟨⟨h46l, h46n, h46B⟩, -, -⟩ := h45.pos pb (by simp)
      refine V (x_field0 fa85_1 rfl) rfl ?_
      refine V (x_load ld3 rfl ((h46B).cell 1 rfl)) rfl ?_
      refine V (x_bin rfl rfl rfl) rfl ?_
      refine V (x_field0 fa85_1 rfl) rfl ?_
      refine S (x_store st3 rfl (by conv => lhs; whnf) rfl (h46B.cell 1 rfl) (h46B.free 1)) ?_
      refine WL_nil ?_
      have h46 := h45.setPos (pb := pb) (i := 1) (by simp) (by omega) (IntKind.i64.wrap (h46n + 1))
      have hF2 : Fields X.cm X.x0.lz (some []) (M ++ p) acc X.fs X.rest := by
        rcases hF.inv_none with ⟨r0, hs, hF2⟩ | ⟨u, v, hs, hu, hq, hfc, hF2⟩ | ⟨u, v, hs, hu, hq, hnc, hv, hfs, hrest⟩
        · simp only [List.cons_append, List.cons.injEq, true_and] at hs
          rw [hs]; exact hF2
        · exfalso
          cases u with
          | nil =>
            have := hX.cm.len
            cases hcm : X.cm with
            | nil => rw [hcm] at this; simp at this
            | cons b' cm' =>
              rw [hcm] at hs
              simp only [List.nil_append, List.cons_append, List.cons.injEq] at hs
              exact hX.cm.not_mem.2 (by rw [hcm, ← hs.1]; simp)
          | cons b' u' =>
            simp only [List.cons_append, List.cons.injEq] at hs
            exact hq (by rw [← hs.1]; simp)
        · exfalso
          cases u with
          | nil =>
            rcases hv with rfl | ⟨r1, rfl⟩
            · simp at hs
            · simp at hs
          | cons b' u' =>
            simp only [List.cons_append, List.cons.injEq] at hs
            exact hq (by rw [← hs.1]; simp)
      refine quoted_loop hX (cur := []) (rb0 := rb) (L := M) (p := p) (r := r) (rb := rb) (ix := ix) (acc := acc) (pb := pb) (qb := w.heap.size) ⟨h46, ⟨rfl, rfl, rfl, rfl, rfl, rfl, rfl⟩, rfl, ?_, hF2, hg, by simp, ?_, ?_, h13⟩ ?_
      · exact LineEnd.drop (u := [34]) hE (by decide)
      · simp at hN1 ⊢; omega
      · simp at hN2 ⊢; omega
      · rw [hK]; simp
    · rw [hel]
      conv => arg 3; whnf
      refine W_seq ?_
      refine W_seq ?_
      refine W_region ?_
      refine V (x_move (by conv => lhs; whnf)) rfl ?_
      refine V (x_nilc rfl) rfl ?_
      refine V (x_field0 fa71_4 rfl) rfl ?_
      refine V (x_load ld4 rfl ((hC1).cell 4 rfl)) rfl ?_
      refine WL_nil ?_
      refine W_false (rfl) ?_
      refine W_skip ?_
      refine W_seq ?_
      refine W_region ?_
      refine V (x_move (by conv => lhs; whnf)) rfl ?_
      refine V (x_len_slice Tryd.underlying62 rfl) rfl ?_
      refine V (x_bin rfl rfl (bf (beq_eq_false_iff_ne.2 (by omega)))) rfl ?_
      refine V (x_move (by conv => lhs; whnf)) rfl ?_
      refine VG rfl (x_move (by conv => lhs; whnf)) rfl ?_
      refine VG rfl (x_index (i := 0) Tryd.underlying62 sz5 rfl rfl rfl (by omega)) rfl ?_
      refine VG rfl (x_load ld5 rfl hc0) rfl ?_
      refine VG rfl (x_bin rfl rfl (bt (bne_iff_ne.2 (fun hh => hb (u8_inj (b := 34) hh))))) rfl ?_
      refine V (x_pick_f rfl (by conv => lhs; whnf)) rfl ?_
      refine WL_nil ?_
      refine W_true (rfl) ?_
      exact plain_field hX h ⟨rfl, rfl, rfl, rfl, rfl, rfl, rfl⟩ hE hg (by simpa using hb) h13 hN1 hN2 hK hF
end
end Go.Proofs.YtcdhbfhijkdfoaaDoor
