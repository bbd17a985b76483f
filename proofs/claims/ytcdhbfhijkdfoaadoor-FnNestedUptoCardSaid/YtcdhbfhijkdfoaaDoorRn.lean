/-
  (*csv.Reader).readLine: its last part, and the whole.
-/
import Derived.Test.YtcdhbfhijkdfoaaDoorRm
namespace Go.Proofs.YtcdhbfhijkdfoaaDoor
open Go.EC Go.RowKit

theorem normN_short {M : Bytes} (h : M.length < 2) : normN M = M := by
  unfold normN
  rw [if_neg]
  rintro ⟨h1, h2⟩
  match M, h with
  | [], _ => simp at h1
  | [b], _ => simp at h2
theorem last2 {M : Bytes} (h : 2 ≤ M.length) : M.dropLast.getLast? = M[M.length - 2]? := by
  rw [List.getLast?_eq_getElem?, List.getElem?_dropLast, List.length_dropLast, if_pos (by omega)]
  congr 1
theorem normN_no {M : Bytes} (h : 2 ≤ M.length) (h1 : ¬ (M[M.length - 1]? = some 10 ∧ M[M.length - 2]? = some 13)) : normN M = M := by
  unfold normN
  rw [last2 h, List.getLast?_eq_getElem?, if_neg h1]
theorem normN_yes {M : Bytes} (h : 2 ≤ M.length) (h1 : M[M.length - 1]? = some 10) (h2 : M[M.length - 2]? = some 13) : normN M = (M.set (M.length - 2) 10).dropLast := by
  unfold normN
  rw [last2 h, List.getLast?_eq_getElem?, if_pos ⟨h1, h2⟩]
  apply List.ext_getElem?
  intro j
  rw [List.getElem?_dropLast, List.length_set, List.getElem?_set, List.getElem?_append, List.length_dropLast, List.length_dropLast, List.getElem?_dropLast, List.length_dropLast, List.getElem?_dropLast]
  by_cases e1 : j < M.length - 1 - 1
  · rw [if_pos e1, if_pos (by omega), if_pos (by omega), if_pos (by omega), if_neg (by omega)]
  · rw [if_neg e1]
    by_cases e2 : j < M.length - 1
    · rw [if_pos e2, if_pos (by omega), if_pos (by omega), show j - (M.length - 1 - 1) = 0 by omega]
      rfl
    · rw [if_neg e2]
      have : j - (M.length - 1 - 1) ≠ 0 := by omega
      match hh : j - (M.length - 1 - 1), this with
      | k + 1, _ => rfl

theorem readLine_tail (Bs a g s : Nat) (x : Fld) (str : ByteArray) (p : Bytes) (er : Nat → Addr) (w0 w : World) (e : Env) (hM : RmM Bs a g s x str p er w0 e w) (hp2 : p.length ≤ 2147487744) :
    W Tryd.prog Tryd.f45.ntmps (sndC (sndC (sndC (sndC (sndC (bodyOf Tryd.f45)))))) (bodyE Tryd.prog Tryd.f45 (RlPost Bs a g s x str p er w0)) e w := by
  obtain ⟨k, raw', r', L, p', A, c, n, h, hL, hp, hR, e0, e4, e5, e6, hO, hrel⟩ := hM
  have hML : (normE k L).length ≤ 2147487744 := by
    have h1 : (normE k L).length ≤ L.length := by unfold normE; split <;> simp
    rw [hp, List.length_append] at hp2; omega
  have hh : ∀ K', K' = normN (normE k L) → ∀ (w' : World) (nl' off' : Int) A' c', RdS w' Bs a g s { x with raw := raw', nl := nl', off := off' } str r' p' → LineAt w' g raw' r' A' c' K' → Only (RlS a x.b g s x.raw) w0 w' →
      RlPost Bs a g s x str p er w0 (.tuple #[.slice A' K'.length c', lineErr er k L]) w' := fun K' hK w' nl' off' A' c' h1 h2 h3 => by
    subst hK
    exact ⟨k, raw', nl', off', r', L, p', A', c', rfl, h1, h2, hp, hR, h3, hrel⟩
  generalize hMd : normE k L = M at *
  have hcap := hL.cap
  rw [← upd_self e0, ← upd_self (e := upd e 0 _) (d := 4) e4, ← upd_self (e := upd (upd e 0 _) 4 _) (d := 5) e5, ← upd_self (e := upd (upd (upd e 0 _) 4 _) 5 _) (d := 6) e6]
  have hab := h.ab
  obtain ⟨nlv, hnlv⟩ : ∃ z : Int, IntKind.i64.wrap (x.nl + 1) = z := ⟨_, rfl⟩
  obtain ⟨offv, hoffv⟩ : ∃ z : Int, IntKind.i64.wrap (x.off + n) = z := ⟨_, rfl⟩
  have hst1 : Only (· = a) w (w.setCell ⟨a, 8, none⟩ (.int .i64 nlv)) := Only.setCell (· = a) _ rfl _
  have h1 : RdS (w.setCell ⟨a, 8, none⟩ (.int .i64 nlv)) Bs a g s { x with raw := raw', nl := nlv } str r' p' := h.fld 8 _ (h.C.set 8 (.int .i64 nlv)) rfl rfl
  have hL1 := hL.only hst1 hab.2.1 (fun k hk hka => hab.2.2.2 (by rw [← hka]; exact hk))
  have hC := h.C
  have hC1 := h1.C
  generalize hw1 : w.setCell ⟨a, 8, none⟩ (.int .i64 nlv) = w1 at h1 hL1 hst1 hC1
  have hst2 : Only (· = a) w1 (w1.setCell ⟨a, 9, none⟩ (.int .i64 offv)) := Only.setCell (· = a) _ rfl _
  have h2 : RdS (w1.setCell ⟨a, 9, none⟩ (.int .i64 offv)) Bs a g s { x with raw := raw', nl := nlv, off := offv } str r' p' := h1.fld 9 _ (h1.C.set 9 (.int .i64 offv)) rfl rfl
  have hL2 := hL1.only hst2 hab.2.1 (fun k hk hka => hab.2.2.2 (by rw [← hka]; exact hk))
  generalize hw2 : w1.setCell ⟨a, 9, none⟩ (.int .i64 offv) = w2 at h2 hL2 hst2
  have hO2 : Only (RlS a x.b g s x.raw) w0 w2 := hO.trans ((hst1.trans hst2).mono fun _ _ hk => .inl hk)
  have fin0 := hh M
  have hbin1 : ibin .add .i64 x.nl 1 = some (.int .i64 nlv) := by rw [← hnlv]; rfl
  have hbin2 : ibin .add .i64 x.off n = some (.int .i64 offv) := by rw [← hoffv]; rfl
  conv => arg 3; whnf
  by_cases hn2 : M.length < 2
  · skip
    refine W_seq ?_
    refine W_region ?_
    refine V (x_move (by conv => lhs; whnf)) rfl ?_
    refine V (x_nilc rfl) rfl ?_
    refine V (x_field0 fa71_8 rfl) rfl ?_
    refine V (x_load ld3 rfl ((hC).cell 8 rfl)) rfl ?_
    refine V (x_bin rfl rfl hbin1) rfl ?_
    refine V (x_nilc rfl) rfl ?_
    refine V (x_field0 fa71_8 rfl) rfl ?_
    refine S (x_store st3 rfl (by conv => lhs; whnf) rfl ((hC).cell 8 rfl) ((hC).free 8)) ?_
    refine WL_nil ?_
    rw [hw1]
    refine W_seq ?_
    refine W_region ?_
    refine V (x_move (by conv => lhs; whnf)) rfl ?_
    refine V (x_nilc rfl) rfl ?_
    refine V (x_field0 fa71_9 rfl) rfl ?_
    refine V (x_load ld2 rfl ((hC1).cell 9 rfl)) rfl ?_
    refine V (x_move (by conv => lhs; whnf)) rfl ?_
    refine V (x_bin rfl rfl hbin2) rfl ?_
    refine V (x_nilc rfl) rfl ?_
    refine V (x_field0 fa71_9 rfl) rfl ?_
    refine S (x_store st2 rfl (by conv => lhs; whnf) rfl ((hC1).cell 9 rfl) ((hC1).free 9)) ?_
    refine WL_nil ?_
    rw [hw2]
    refine W_seq ?_
    refine W_seq ?_
    refine W_region ?_
    refine V (x_move (by conv => lhs; whnf)) rfl ?_
    refine V (x_len_slice Tryd.underlying62 rfl) rfl ?_
    refine V (x_assign (by conv => lhs; whnf)) rfl ?_
    refine WL_nil ?_
    refine W_seq ?_
    refine W_region ?_
    refine V (x_move (by conv => lhs; whnf)) rfl ?_
    refine V (x_bin rfl rfl (bf (decide_eq_false (by omega)))) rfl ?_
    refine V (x_move (by conv => lhs; whnf)) rfl ?_
    refine SG rfl (by decide) rfl ?_
    refine SG rfl (by decide) rfl ?_
    refine SG rfl (by decide) rfl ?_
    refine SG rfl (by decide) rfl ?_
    refine SG rfl (by decide) rfl ?_
    refine SG rfl (by decide) rfl ?_
    refine V (x_pick_f rfl (by conv => lhs; whnf)) rfl ?_
    refine V (x_move (by conv => lhs; whnf)) rfl ?_
    refine SG rfl (by decide) rfl ?_
    refine SG rfl (by decide) rfl ?_
    refine SG rfl (by decide) rfl ?_
    refine SG rfl (by decide) rfl ?_
    refine SG rfl (by decide) rfl ?_
    refine SG rfl (by decide) rfl ?_
    refine V (x_pick_f rfl (by conv => lhs; whnf)) rfl ?_
    refine WL_nil ?_
    refine W_false (rfl) ?_
    refine W_skip ?_
    refine W_seq ?_
    refine W_region ?_
    refine V (x_move (by conv => lhs; whnf)) rfl ?_
    refine V (x_move (by conv => lhs; whnf)) rfl ?_
    refine V (x_assign (by conv => lhs; whnf)) rfl ?_
    refine V (x_assign (by conv => lhs; whnf)) rfl ?_
    refine WL_nil ?_
    refine W_ret ?_
    repeat (with_reducible (first | refine rt ?_ | refine rb ?_))
    exact bodyE_2 rfl rfl rfl (fin0 (normN_short hn2).symm _ _ _ _ _ h2 hL2 hO2)
  · obtain ⟨gA, o, rfl, hc⟩ := hL2.cell (by rintro rfl; simp at hn2)
    have g2 : M[M.length - 2]? = some (M[M.length - 2]'(by omega)) := List.getElem?_eq_getElem (by omega)
    have g1 : M[M.length - 1]? = some (M[M.length - 1]'(by omega)) := List.getElem?_eq_getElem (by omega)
    by_cases h13 : (M[M.length - 2]'(by omega)) = 13
    · by_cases h10 : (M[M.length - 1]'(by omega)) = 10
      · obtain ⟨gA', o', hA', ⟨u, hu⟩, hf, h3, hL3, hO3⟩ := h2.inLine hL2 (M.length - 2) (by omega) 10
        injection hA' with hA'; injection hA' with hA1 hA2
        subst hA1 hA2
        rw [show bv 10 = .int .u8 10 from rfl] at h3 hL3 hO3
        have hlen : ((M.set (M.length - 2) 10).dropLast).length = M.length - 1 := by simp
        have fin := hh _ (normN_yes (by omega) (by rw [g1, h10]) (by rw [g2, h13])).symm
        rw [hlen] at fin
        refine W_seq ?_
        refine W_region ?_
        refine V (x_move (by conv => lhs; whnf)) rfl ?_
        refine V (x_nilc rfl) rfl ?_
        refine V (x_field0 fa71_8 rfl) rfl ?_
        refine V (x_load ld3 rfl ((hC).cell 8 rfl)) rfl ?_
        refine V (x_bin rfl rfl hbin1) rfl ?_
        refine V (x_nilc rfl) rfl ?_
        refine V (x_field0 fa71_8 rfl) rfl ?_
        refine S (x_store st3 rfl (by conv => lhs; whnf) rfl ((hC).cell 8 rfl) ((hC).free 8)) ?_
        refine WL_nil ?_
        rw [hw1]
        refine W_seq ?_
        refine W_region ?_
        refine V (x_move (by conv => lhs; whnf)) rfl ?_
        refine V (x_nilc rfl) rfl ?_
        refine V (x_field0 fa71_9 rfl) rfl ?_
        refine V (x_load ld2 rfl ((hC1).cell 9 rfl)) rfl ?_
        refine V (x_move (by conv => lhs; whnf)) rfl ?_
        refine V (x_bin rfl rfl hbin2) rfl ?_
        refine V (x_nilc rfl) rfl ?_
        refine V (x_field0 fa71_9 rfl) rfl ?_
        refine S (x_store st2 rfl (by conv => lhs; whnf) rfl ((hC1).cell 9 rfl) ((hC1).free 9)) ?_
        refine WL_nil ?_
        rw [hw2]
        refine W_seq ?_
        refine W_seq ?_
        refine W_region ?_
        refine V (x_move (by conv => lhs; whnf)) rfl ?_
        refine V (x_len_slice Tryd.underlying62 rfl) rfl ?_
        refine V (x_assign (by conv => lhs; whnf)) rfl ?_
        refine WL_nil ?_
        refine W_seq ?_
        refine W_region ?_
        refine V (x_move (by conv => lhs; whnf)) rfl ?_
        refine V (x_bin rfl rfl (bt (decide_eq_true (by omega)))) rfl ?_
        refine V (x_move (by conv => lhs; whnf)) rfl ?_
        refine VG rfl (x_move (by conv => lhs; whnf)) rfl ?_
        refine VG rfl (x_move (by conv => lhs; whnf)) rfl ?_
        refine VG rfl (x_bin rfl rfl (ib_subn (m := M.length - 2) (by omega) (by omega))) rfl ?_
        refine VG rfl (x_index Tryd.underlying62 sz5 rfl rfl rfl (by omega)) rfl ?_
        refine VG rfl (x_load ld5 rfl (hc _ _ g2)) rfl ?_
        refine VG rfl (x_bin rfl rfl (bt (byte_eq h13))) rfl ?_
        refine V (x_pick_t rfl (by conv => lhs; whnf)) rfl ?_
        refine V (x_move (by conv => lhs; whnf)) rfl ?_
        refine VG rfl (x_move (by conv => lhs; whnf)) rfl ?_
        refine VG rfl (x_move (by conv => lhs; whnf)) rfl ?_
        refine VG rfl (x_bin rfl rfl (ib_subn (m := M.length - 1) (by omega) (by omega))) rfl ?_
        refine VG rfl (x_index Tryd.underlying62 sz5 rfl rfl rfl (by omega)) rfl ?_
        refine VG rfl (x_load ld5 rfl (hc _ _ g1)) rfl ?_
        refine VG rfl (x_bin rfl rfl (bt (byte_eq h10))) rfl ?_
        refine V (x_pick_t rfl (by conv => lhs; whnf)) rfl ?_
        refine WL_nil ?_
        refine W_true (rfl) ?_
        refine W_seq ?_
        refine W_region ?_
        refine V (x_move (by conv => lhs; whnf)) rfl ?_
        refine V (x_move (by conv => lhs; whnf)) rfl ?_
        refine V (x_bin rfl rfl (ib_subn (m := M.length - 2) (by omega) (by omega))) rfl ?_
        refine V (x_index Tryd.underlying62 sz5 rfl rfl rfl (by omega)) rfl ?_
        refine S (x_store st5 rfl (by conv => lhs; whnf) rfl hu hf) ?_
        refine WL_nil ?_
        refine W_region ?_
        refine V (x_move (by conv => lhs; whnf)) rfl ?_
        refine V (x_move (by conv => lhs; whnf)) rfl ?_
        refine V (x_bin rfl rfl (ib_subn (m := M.length - 1) (by omega) (by omega))) rfl ?_
        refine V (x_slice_h Tryd.underlying62 ⟨1, sz5⟩ rfl rfl rfl (by omega)) rfl ?_
        refine V (x_assign (by conv => lhs; whnf)) rfl ?_
        refine WL_nil ?_
        refine W_seq ?_
        refine W_region ?_
        refine V (x_move (by conv => lhs; whnf)) rfl ?_
        refine V (x_move (by conv => lhs; whnf)) rfl ?_
        refine V (x_assign (by conv => lhs; whnf)) rfl ?_
        refine V (x_assign (by conv => lhs; whnf)) rfl ?_
        refine WL_nil ?_
        refine W_ret ?_
        repeat (with_reducible (first | refine rt ?_ | refine rb ?_))
        exact bodyE_2 rfl rfl rfl (fin _ _ _ _ _ h3 hL3.take (hO2.then_ hO3 (RlS_mono w0 hrel)))
      · skip
        refine W_seq ?_
        refine W_region ?_
        refine V (x_move (by conv => lhs; whnf)) rfl ?_
        refine V (x_nilc rfl) rfl ?_
        refine V (x_field0 fa71_8 rfl) rfl ?_
        refine V (x_load ld3 rfl ((hC).cell 8 rfl)) rfl ?_
        refine V (x_bin rfl rfl hbin1) rfl ?_
        refine V (x_nilc rfl) rfl ?_
        refine V (x_field0 fa71_8 rfl) rfl ?_
        refine S (x_store st3 rfl (by conv => lhs; whnf) rfl ((hC).cell 8 rfl) ((hC).free 8)) ?_
        refine WL_nil ?_
        rw [hw1]
        refine W_seq ?_
        refine W_region ?_
        refine V (x_move (by conv => lhs; whnf)) rfl ?_
        refine V (x_nilc rfl) rfl ?_
        refine V (x_field0 fa71_9 rfl) rfl ?_
        refine V (x_load ld2 rfl ((hC1).cell 9 rfl)) rfl ?_
        refine V (x_move (by conv => lhs; whnf)) rfl ?_
        refine V (x_bin rfl rfl hbin2) rfl ?_
        refine V (x_nilc rfl) rfl ?_
        refine V (x_field0 fa71_9 rfl) rfl ?_
        refine S (x_store st2 rfl (by conv => lhs; whnf) rfl ((hC1).cell 9 rfl) ((hC1).free 9)) ?_
        refine WL_nil ?_
        rw [hw2]
        refine W_seq ?_
        refine W_seq ?_
        refine W_region ?_
        refine V (x_move (by conv => lhs; whnf)) rfl ?_
        refine V (x_len_slice Tryd.underlying62 rfl) rfl ?_
        refine V (x_assign (by conv => lhs; whnf)) rfl ?_
        refine WL_nil ?_
        refine W_seq ?_
        refine W_region ?_
        refine V (x_move (by conv => lhs; whnf)) rfl ?_
        refine V (x_bin rfl rfl (bt (decide_eq_true (by omega)))) rfl ?_
        refine V (x_move (by conv => lhs; whnf)) rfl ?_
        refine VG rfl (x_move (by conv => lhs; whnf)) rfl ?_
        refine VG rfl (x_move (by conv => lhs; whnf)) rfl ?_
        refine VG rfl (x_bin rfl rfl (ib_subn (m := M.length - 2) (by omega) (by omega))) rfl ?_
        refine VG rfl (x_index Tryd.underlying62 sz5 rfl rfl rfl (by omega)) rfl ?_
        refine VG rfl (x_load ld5 rfl (hc _ _ g2)) rfl ?_
        refine VG rfl (x_bin rfl rfl (bt (byte_eq h13))) rfl ?_
        refine V (x_pick_t rfl (by conv => lhs; whnf)) rfl ?_
        refine V (x_move (by conv => lhs; whnf)) rfl ?_
        refine VG rfl (x_move (by conv => lhs; whnf)) rfl ?_
        refine VG rfl (x_move (by conv => lhs; whnf)) rfl ?_
        refine VG rfl (x_bin rfl rfl (ib_subn (m := M.length - 1) (by omega) (by omega))) rfl ?_
        refine VG rfl (x_index Tryd.underlying62 sz5 rfl rfl rfl (by omega)) rfl ?_
        refine VG rfl (x_load ld5 rfl (hc _ _ g1)) rfl ?_
        refine VG rfl (x_bin rfl rfl (bf (byte_ne h10))) rfl ?_
        refine V (x_pick_t rfl (by conv => lhs; whnf)) rfl ?_
        refine WL_nil ?_
        refine W_false (rfl) ?_
        refine W_skip ?_
        refine W_seq ?_
        refine W_region ?_
        refine V (x_move (by conv => lhs; whnf)) rfl ?_
        refine V (x_move (by conv => lhs; whnf)) rfl ?_
        refine V (x_assign (by conv => lhs; whnf)) rfl ?_
        refine V (x_assign (by conv => lhs; whnf)) rfl ?_
        refine WL_nil ?_
        refine W_ret ?_
        repeat (with_reducible (first | refine rt ?_ | refine rb ?_))
        exact bodyE_2 rfl rfl rfl (fin0 (normN_no (by omega) (by rw [g1]; rintro ⟨hh, _⟩; injection hh with hh; exact h10 hh)).symm _ _ _ _ _ h2 hL2 hO2)
    · skip
      refine W_seq ?_
      refine W_region ?_
      refine V (x_move (by conv => lhs; whnf)) rfl ?_
      refine V (x_nilc rfl) rfl ?_
      refine V (x_field0 fa71_8 rfl) rfl ?_
      refine V (x_load ld3 rfl ((hC).cell 8 rfl)) rfl ?_
      refine V (x_bin rfl rfl hbin1) rfl ?_
      refine V (x_nilc rfl) rfl ?_
      refine V (x_field0 fa71_8 rfl) rfl ?_
      refine S (x_store st3 rfl (by conv => lhs; whnf) rfl ((hC).cell 8 rfl) ((hC).free 8)) ?_
      refine WL_nil ?_
      rw [hw1]
      refine W_seq ?_
      refine W_region ?_
      refine V (x_move (by conv => lhs; whnf)) rfl ?_
      refine V (x_nilc rfl) rfl ?_
      refine V (x_field0 fa71_9 rfl) rfl ?_
      refine V (x_load ld2 rfl ((hC1).cell 9 rfl)) rfl ?_
      refine V (x_move (by conv => lhs; whnf)) rfl ?_
      refine V (x_bin rfl rfl hbin2) rfl ?_
      refine V (x_nilc rfl) rfl ?_
      refine V (x_field0 fa71_9 rfl) rfl ?_
      refine S (x_store st2 rfl (by conv => lhs; whnf) rfl ((hC1).cell 9 rfl) ((hC1).free 9)) ?_
      refine WL_nil ?_
      rw [hw2]
      refine W_seq ?_
      refine W_seq ?_
      refine W_region ?_
      refine V (x_move (by conv => lhs; whnf)) rfl ?_
      refine V (x_len_slice Tryd.underlying62 rfl) rfl ?_
      refine V (x_assign (by conv => lhs; whnf)) rfl ?_
      refine WL_nil ?_
      refine W_seq ?_
      refine W_region ?_
      refine V (x_move (by conv => lhs; whnf)) rfl ?_
      refine V (x_bin rfl rfl (bt (decide_eq_true (by omega)))) rfl ?_
      refine V (x_move (by conv => lhs; whnf)) rfl ?_
      refine VG rfl (x_move (by conv => lhs; whnf)) rfl ?_
      refine VG rfl (x_move (by conv => lhs; whnf)) rfl ?_
      refine VG rfl (x_bin rfl rfl (ib_subn (m := M.length - 2) (by omega) (by omega))) rfl ?_
      refine VG rfl (x_index Tryd.underlying62 sz5 rfl rfl rfl (by omega)) rfl ?_
      refine VG rfl (x_load ld5 rfl (hc _ _ g2)) rfl ?_
      refine VG rfl (x_bin rfl rfl (bf (byte_ne h13))) rfl ?_
      refine V (x_pick_t rfl (by conv => lhs; whnf)) rfl ?_
      refine V (x_move (by conv => lhs; whnf)) rfl ?_
      refine SG rfl (by decide) rfl ?_
      refine SG rfl (by decide) rfl ?_
      refine SG rfl (by decide) rfl ?_
      refine SG rfl (by decide) rfl ?_
      refine SG rfl (by decide) rfl ?_
      refine SG rfl (by decide) rfl ?_
      refine V (x_pick_f rfl (by conv => lhs; whnf)) rfl ?_
      refine WL_nil ?_
      refine W_false (rfl) ?_
      refine W_skip ?_
      refine W_seq ?_
      refine W_region ?_
      refine V (x_move (by conv => lhs; whnf)) rfl ?_
      refine V (x_move (by conv => lhs; whnf)) rfl ?_
      refine V (x_assign (by conv => lhs; whnf)) rfl ?_
      refine V (x_assign (by conv => lhs; whnf)) rfl ?_
      refine WL_nil ?_
      refine W_ret ?_
      repeat (with_reducible (first | refine rt ?_ | refine rb ?_))
      exact bodyE_2 rfl rfl rfl (fin0 (normN_no (by omega) (by rw [g2]; rintro ⟨_, hh⟩; injection hh with hh; exact h13 hh)).symm _ _ _ _ _ h2 hL2 hO2)
theorem readLine_mid (Bs a g s : Nat) (x : Fld) (str : ByteArray) (p : Bytes) (er : Nat → Addr) (w0 w : World) (k : Nat) (r' : Nat) (L p' : Bytes) (A : Option Addr) (c : Nat) (hG : Glob w er) (hG0 : Glob w0 er) (hBs : 13 ≤ Bs ∧ ∀ j, (j < 6 ∨ j = 8 ∨ j = 9) → (er j).block < Bs)
    (hB0 : Bs ≤ w0.heap.size) (h : RdS w Bs a g s x str r' p') (hL : LineAt w g x.raw r' A c L) (hp : p = L ++ p') (hR : Ends k L p') (hO : Only (RlS a x.b g s x.raw) w0 w) (hp2 : p.length ≤ 2147487744)
    (e : Env) (e0 : e 0 = .pointer (some ⟨a, 0, none⟩)) (e4 : e 4 = .slice A L.length c) (e5 : e 5 = endErr er k) :
    W Tryd.prog Tryd.f45.ntmps (fstC (sndC (sndC (bodyOf Tryd.f45)))) (thn (RlM Bs a g s x str p er w0) fun _ _ _ => False) e w := by
  rw [← upd_self e0, ← upd_self (e := upd e 0 _) (d := 4) e4, ← upd_self (e := upd (upd e 0 _) 4 _) (d := 5) e5]
  rcases hR with hR | hR | ⟨rfl, _, hR⟩
  · exact readLine_direct Bs a g s x str p er w0 w k r' L p' A c (.inl hR.1) _ rfl hG _ h hL hp (.inl hR) hO
  · exact readLine_direct Bs a g s x str p er w0 w k r' L p' A c (.inr hR.1) _ rfl hG _ h hL hp (.inr hR) hO
  · rw [endErr_2]
    exact readLine_full Bs a g s x str p er w0 w r' L p' A c hG _ hBs h hL hp hR hO hp2 hG0 hB0

/-- readLine: the next raw line is taken off the text, and its end made plain. -/
theorem readLine_ok (Bs a g s : Nat) (x : Fld) (str : ByteArray) (r : Nat) (p : Bytes) (er : Nat → Addr) (w : World) (h : RdS w Bs a g s x str r p) (hG : Glob w er) (hBs : 13 ≤ Bs ∧ ∀ j, (j < 6 ∨ j = 8 ∨ j = 9) → (er j).block < Bs) (hB0 : Bs ≤ w.heap.size) :
    Ret Tryd.prog 45 #[.pointer (some ⟨a, 0, none⟩)] w (RlPost Bs a g s x str p er w) := by
  obtain ⟨u, rest, cs, q, lb, lr, i, prev, hbs, hpu⟩ := h.src
  have hp2 := h.src.lts.2.2.2.1
  have hlo := h.lo
  refine ret_of_W Tryd.func45 rfl (Nat.le_of_ble_eq_true rfl) ?_
  refine W_seq ?_
  refine W_region ?_
  refine V (x_assign (by conv => lhs; whnf)) rfl ?_
  refine V (x_assign (by conv => lhs; whnf)) rfl ?_
  refine WL_nil ?_
  refine W_seq ?_
  refine W_region ?_
  refine V (x_move (by conv => lhs; whnf)) rfl ?_
  refine V (x_nilc rfl) rfl ?_
  refine V (x_field0 fa71_7 rfl) rfl ?_
  refine V (x_load ld68 rfl ((h.C).cell 7 rfl)) rfl ?_
  refine C (x_call2 cf58 (by conv => lhs; whnf) (by conv => lhs; whnf)) rfl ?_
  refine (ReadSlice_ok x.b g s u rest cs r q lb lr str i prev er w hbs (hG.cell 0 (by omega)) (hG.cell 5 (by omega)) (by omega) (by omega) (by omega)).mono ?_
  rintro v w4 ⟨k4, L4, u4, rest4, cs4, r4, q4, i4, prev4, lb4, lr4, A4, c4, rfl, hbs4, hpp4, hE4, hL4, hO4⟩
  have h4 := h.rs hO4 (r4 := r4) (p4 := u4 ++ rest4) ⟨u4, rest4, cs4, q4, lb4, lr4, i4, prev4, hbs4, rfl⟩
  have hla4 : LineAt w4 g x.raw r4 A4 c4 L4 := ⟨hL4.cap, fun hn => by obtain ⟨o, h1, h2, h3⟩ := hL4.cells hn; exact ⟨g, o, cs4, h1, hbs4.G, h3, .inl ⟨rfl, h2⟩⟩⟩
  have hO5 : Only (RlS a x.b g s x.raw) w w4 := hO4.mono (fun k _ hk => .inr (.inl hk))
  have hG4 : Glob w4 er := glob_rl hG hO5 hlo hB0 hBs
  refine V (x_move (by conv => lhs; whnf)) rfl ?_
  refine V (x_extract rfl rfl) rfl ?_
  refine V (x_extract rfl rfl) rfl ?_
  refine V (x_assign (by conv => lhs; whnf)) rfl ?_
  refine V (x_assign (by conv => lhs; whnf)) rfl ?_
  refine WL_nil ?_
  refine W_cut (RlM Bs a g s x str p er w) ?_ ?_
  · exact readLine_mid Bs a g s x str p er w w4 k4 r4 L4 (u4 ++ rest4) A4 c4 hG4 hG hBs hB0 h4 hla4 (hpu.trans hpp4) hE4 hO5 hp2 _ rfl rfl rfl
  · intro e w' hM
    have hG' : Glob w' er := by
      obtain ⟨_, _, _, _, _, _, _, _, _, _, _, _, _, _, hO', _⟩ := hM
      exact glob_rl hG hO' hlo hB0 hBs
    exact readLine_end Bs a g s x str p er w w' e hM hG' hp2 _ fun e w hR => readLine_tail Bs a g s x str p er _ w e hR hp2
end Go.Proofs.YtcdhbfhijkdfoaaDoor
