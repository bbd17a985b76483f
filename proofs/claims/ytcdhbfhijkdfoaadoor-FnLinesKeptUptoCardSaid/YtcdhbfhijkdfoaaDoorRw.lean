/-
  readRecord: one field, quoted or not.
-/
import Derived.Test.YtcdhbfhijkdfoaaDoorRv
namespace Go.Proofs.YtcdhbfhijkdfoaaDoor
open Go.EC Go.RowKit
section
variable {cm : Bytes} {lz : Bool} {acc fs : List Bytes} {rest cur s : Bytes}
theorem Fields.inv_none (h : Fields cm lz none s acc fs rest) : (∃ r, s = 34 :: r ∧ Fields cm lz (some []) r acc fs rest) ∨ (∃ u v, s = u ++ (cm ++ v) ∧ (10 : UInt8) ∉ u ∧ (34 : UInt8) ∉ u ∧ FirstCm cm u ∧ Fields cm lz none v (acc ++ [u]) fs rest) ∨
    (∃ u v, s = u ++ v ∧ (10 : UInt8) ∉ u ∧ (34 : UInt8) ∉ u ∧ NoCm cm u ∧ Eol v ∧ fs = acc ++ [u] ∧ rest = v.tail) := by
  cases h with
  | opened h => exact .inl ⟨_, rfl, h⟩
  | plain h1 h2 h3 h4 => exact .inr (.inl ⟨_, _, rfl, h1, h2, h3, h4⟩)
  | plainEnd h1 h2 h3 h4 => exact .inr (.inr ⟨_, _, rfl, h1, h2, h3, h4, rfl, rfl⟩)
theorem Fields.inv_q (h : Fields cm lz (some cur) (34 :: s) acc fs rest) : (∃ r, s = 34 :: r ∧ Fields cm lz (some (cur ++ [34])) r acc fs rest) ∨ (∃ v, s = cm ++ v ∧ Fields cm lz none v (acc ++ [cur]) fs rest) ∨ (Eol s ∧ fs = acc ++ [cur] ∧ rest = s.tail) := by
  cases h with
  | more h1 h2 => exact absurd rfl h1
  | dbl h => exact .inl ⟨_, rfl, h⟩
  | close h => exact .inr (.inl ⟨_, rfl, h⟩)
  | closeEnd h => exact .inr (.inr ⟨h, rfl, rfl⟩)
theorem Fields.inv_end (h : Fields cm lz (some cur) [] acc fs rest) : lz = true ∧ fs = acc ++ [cur] ∧ rest = [] := by
  cases h with
  | lazyEnd h => exact ⟨h, rfl, rfl⟩
end
section
variable {X : Cx} (hX : X.Ok)
include hX
theorem plain_bare {pb r : Nat} {x : Fld} {w : World} {p rb u L : Bytes} {ix : List Nat} {acc : List Bytes} {A : Option Addr} {c : Nat} {z : Int} {K : Nat} {e : Env}
    (h : X.RS [pb] w x r p rb ix ix.length A c L) (he : EF e X.a pb X.cm.length A L.length c) (e13 : e 13 = .int .i64 z) (e14 : e 14 = .slice A u.length c) (t : Bytes) (hL : L = u ++ t) (hE : LineEnd L p) (hu : (10 : UInt8) ∉ u) (hq : (34 : UInt8) ∉ u) (hg : Gath rb ix acc)
    (h13 : (13 : UInt8) ∉ p) (hN1 : rb.length + (L ++ p).length ≤ X.N) (hN2 : ix.length + (L ++ p).length ≤ X.N) (hK : K = (L ++ p).length)
    (hcase : (∃ L', t = X.cm ++ L' ∧ z = (u.length : Int) ∧ Fields X.cm X.x0.lz none (L' ++ p) (acc ++ [u]) X.fs X.rest) ∨ (z = -1 ∧ X.fs = acc ++ [u] ∧ X.rest = p)) :
    W Tryd.prog Tryd.f41.ntmps (sndC (sndC (sndC (thenC (sndC (sndC (inC (inC (inC (fstC (sndC (sndC (sndC (sndC (sndC (sndC (sndC (sndC (sndC (sndC (sndC (sndC (sndC (scC (sndC (bodyOf Tryd.f41)))))))))))))))))))))))))) (FQ X K) e w := by
  conv => arg 3; whnf
  refine W_cut (fun e' w' => w' = w ∧ EF e' X.a pb X.cm.length A L.length c ∧ e' 13 = .int .i64 z ∧ e' 14 = .slice A u.length c) ?_ ?_
  · have hC1 := h.st.rd.C
    unfold CBlk at hC1
    rw [h.fld.2.2.2.1] at hC1
    have hi := idx_no hq
    rw [he.env, ← upd_self (e := upd (upd (upd (upd (upd (upd (upd e 0 _) 1 _) 6 _) 7 _) 8 _) 9 _) 11 _) (d := 13) e13, ← upd_self (e := upd (upd (upd (upd (upd (upd (upd (upd e 0 _) 1 _) 6 _) 7 _) 8 _) 9 _) 11 _) 13 _) (d := 14) e14]
    cases hlz : X.x0.lz
    · rw [hlz] at hC1
      refine W_seq ?_
      refine W_region ?_
      refine V (x_move (by conv => lhs; whnf)) rfl ?_
      refine V (x_nilc rfl) rfl ?_
      refine V (x_field0 fa71_3 rfl) rfl ?_
      refine V (x_load ld4 rfl ((hC1).cell 3 rfl)) rfl ?_
      refine V (x_not rfl) rfl ?_
      refine WL_nil ?_
      refine W_true (rfl) ?_
      refine W_seq ?_
      refine W_region ?_
      refine V (x_move (by conv => lhs; whnf)) rfl ?_
      refine C (x_call2 cf53 (by conv => lhs; whnf) (by conv => lhs; whnf)) rfl ?_
      refine (IndexByte_n A u.length c u 34 _ _ _ (h.bytes hL) rfl rfl rfl).mono fun v w1 h1 => ?_
      obtain ⟨rfl, rfl⟩ := h1
      refine V (x_assign (by conv => lhs; whnf)) rfl ?_
      refine WL_nil ?_
      refine W_seq ?_
      refine W_region ?_
      refine V (x_move (by conv => lhs; whnf)) rfl ?_
      refine V (x_bin rfl rfl (bf (decide_eq_false (by omega)))) rfl ?_
      refine WL_nil ?_
      refine W_false (rfl) ?_
      refine W_skip ?_
      repeat (first | with_reducible refine xt ?_ | with_reducible refine xb ?_ | with_reducible refine nt ?_ | with_reducible refine nb ?_ | with_reducible refine xn rfl ?_)
      exact ⟨rfl, ⟨rfl, rfl, rfl, rfl, rfl, rfl, rfl⟩, rfl, rfl⟩
    · rw [hlz] at hC1
      refine W_seq ?_
      refine W_region ?_
      refine V (x_move (by conv => lhs; whnf)) rfl ?_
      refine V (x_nilc rfl) rfl ?_
      refine V (x_field0 fa71_3 rfl) rfl ?_
      refine V (x_load ld4 rfl ((hC1).cell 3 rfl)) rfl ?_
      refine V (x_not rfl) rfl ?_
      refine WL_nil ?_
      refine W_false (rfl) ?_
      refine W_skip ?_
      repeat (first | with_reducible refine xt ?_ | with_reducible refine xb ?_ | with_reducible refine nt ?_ | with_reducible refine nb ?_ | with_reducible refine xn rfl ?_)
      exact ⟨rfl, ⟨rfl, rfl, rfl, rfl, rfl, rfl, rfl⟩, rfl, rfl⟩
  · rintro e' w' ⟨rfl, he', e13', e14'⟩
    exact plain_tail hX h he' e13' e14' t hL hE hu hg h13 hN1 hN2 hK hcase

theorem plain_field {pb r : Nat} {x : Fld} {w : World} {p rb L : Bytes} {ix : List Nat} {acc : List Bytes} {A : Option Addr} {c : Nat} {K : Nat} {e : Env}
    (h : X.RS [pb] w x r p rb ix ix.length A c L) (he : EF e X.a pb X.cm.length A L.length c) (hE : LineEnd L p) (hg : Gath rb ix acc) (hhead : L.head? ≠ some 34)
    (h13 : (13 : UInt8) ∉ p) (hN1 : rb.length + (L ++ p).length ≤ X.N) (hN2 : ix.length + (L ++ p).length ≤ X.N) (hK : K = (L ++ p).length) (hF : Fields X.cm X.x0.lz none (L ++ p) acc X.fs X.rest) :
    W Tryd.prog Tryd.f41.ntmps (thenC (sndC (sndC (inC (inC (inC (fstC (sndC (sndC (sndC (sndC (sndC (sndC (sndC (sndC (sndC (sndC (sndC (sndC (sndC (scC (sndC (bodyOf Tryd.f41))))))))))))))))))))))) (FQ X K) e w := by
  have hC1 := h.st.rd.C
  unfold CBlk at hC1
  rw [h.fld.1] at hC1
  have hcap := h.line.cap
  have hNN := hX.N
  have hlen : L.length ≤ 2147487744 := by rw [List.length_append] at hN1; omega
  have hel := he.env
  rcases hF.inv_none with ⟨r0, hs, _⟩ | ⟨u, v, hs, hu, hq, hfc, hF2⟩ | ⟨u, v, hs, hu, hq, hnc, hv, hfs, hrest⟩
  · exfalso
    cases L with
    | nil => rw [hE.nil] at hs; simp at hs
    | cons b L => simp only [List.cons_append, List.cons.injEq] at hs; exact hhead (by rw [hs.1]; rfl)
  · obtain ⟨L', hL, hv⟩ := hE.head (u := u ++ X.cm) (v := v) (by rw [List.mem_append, not_or]; exact ⟨hu, hX.cm.not_mem.1⟩) (by rw [hs, List.append_assoc])
    rw [List.append_assoc] at hL
    obtain ⟨hok, hidx⟩ := FirstCm.ok (t := L') hX.cm hfc
    rw [← hL] at hok hidx
    have hll : L.length = u.length + (X.cm.length + L'.length) := by rw [hL]; simp
    rw [hel]
    conv => arg 3; whnf
    refine W_seq ?_
    refine W_region ?_
    refine V (x_move (by conv => lhs; whnf)) rfl ?_
    refine V (x_move (by conv => lhs; whnf)) rfl ?_
    refine V (x_nilc rfl) rfl ?_
    refine V (x_field0 fa71_0 rfl) rfl ?_
    refine V (x_load ld21 rfl ((hC1).cell 0 rfl)) rfl ?_
    refine C (x_call2 cf52 (by conv => lhs; whnf) (by conv => lhs; whnf)) rfl ?_
    refine (IndexRune_ok A L X.cm c X.x0.cm _ hX.cm h.line.at_ hcap hlen hok).mono fun v w1 h1 => ?_
    obtain ⟨rfl, ho1⟩ := h1
    rw [hidx]
    have h2 := h.new ho1
    refine V (x_assign (by conv => lhs; whnf)) rfl ?_
    refine WL_nil ?_
    refine W_seq ?_
    refine W_region ?_
    refine V (x_move (by conv => lhs; whnf)) rfl ?_
    refine V (x_assign (by conv => lhs; whnf)) rfl ?_
    refine WL_nil ?_
    refine W_seq ?_
    refine W_seq ?_
    refine W_region ?_
    refine V (x_move (by conv => lhs; whnf)) rfl ?_
    refine V (x_bin rfl rfl (bt (decide_eq_true (by omega)))) rfl ?_
    refine WL_nil ?_
    refine W_true (rfl) ?_
    refine W_region ?_
    refine V (x_move (by conv => lhs; whnf)) rfl ?_
    refine V (x_move (by conv => lhs; whnf)) rfl ?_
    refine V (x_slice_h (h := u.length) Tryd.underlying62 ⟨1, sz5⟩ rfl rfl rfl (by omega)) rfl ?_
    refine V (x_assign (by conv => lhs; whnf)) rfl ?_
    refine WL_nil ?_
    exact plain_bare hX h2 ⟨rfl, rfl, rfl, rfl, rfl, rfl, rfl⟩ rfl rfl (X.cm ++ L') hL hE hu hq hg h13 hN1 hN2 hK (.inl ⟨L', rfl, rfl, by rw [← hv]; exact hF2⟩)
  · obtain ⟨L', hL, hv'⟩ := hE.head hu hs
    subst hv'
    have hE2 := hE
    rw [hL] at hE2
    have hl2 := (hE2.drop hu).eol hv
    have hncL : NoCm X.cm L := by
      rcases hl2 with ⟨h1, _⟩ | h1
      · rw [hL, h1, List.append_nil]; exact hnc
      · rw [hL, h1]; exact hnc.nl hX.cm
    obtain ⟨hok, hidx⟩ := hncL.ok hX.cm
    have hnl : nlLen L + u.length = L.length := by
      rcases hl2 with ⟨h1, _⟩ | h1
      · rw [hL, h1, List.append_nil, nlLen_no hu]; omega
      · rw [hL, h1, nlLen_app]; simp; omega
    have hrp : X.rest = p := by
      rw [hrest]
      rcases hl2 with ⟨h1, h2⟩ | h1
      · rw [h1, h2]; rfl
      · rw [h1]; rfl
    rw [hel]
    conv => arg 3; whnf
    refine W_seq ?_
    refine W_region ?_
    refine V (x_move (by conv => lhs; whnf)) rfl ?_
    refine V (x_move (by conv => lhs; whnf)) rfl ?_
    refine V (x_nilc rfl) rfl ?_
    refine V (x_field0 fa71_0 rfl) rfl ?_
    refine V (x_load ld21 rfl ((hC1).cell 0 rfl)) rfl ?_
    refine C (x_call2 cf52 (by conv => lhs; whnf) (by conv => lhs; whnf)) rfl ?_
    refine (IndexRune_ok A L X.cm c X.x0.cm _ hX.cm h.line.at_ hcap hlen hok).mono fun v w1 h1 => ?_
    obtain ⟨rfl, ho1⟩ := h1
    rw [hidx]
    have h2 := h.new ho1
    refine V (x_assign (by conv => lhs; whnf)) rfl ?_
    refine WL_nil ?_
    refine W_seq ?_
    refine W_region ?_
    refine V (x_move (by conv => lhs; whnf)) rfl ?_
    refine V (x_assign (by conv => lhs; whnf)) rfl ?_
    refine WL_nil ?_
    refine W_seq ?_
    refine W_seq ?_
    refine W_region ?_
    refine V (x_move (by conv => lhs; whnf)) rfl ?_
    refine V (x_bin rfl rfl (bf (decide_eq_false (by omega)))) rfl ?_
    refine WL_nil ?_
    refine W_false (rfl) ?_
    refine W_region ?_
    refine V (x_move (by conv => lhs; whnf)) rfl ?_
    refine V (x_move (by conv => lhs; whnf)) rfl ?_
    refine V (x_len_slice Tryd.underlying62 rfl) rfl ?_
    refine V (x_move (by conv => lhs; whnf)) rfl ?_
    refine C (x_call1 cf47 (by conv => lhs; whnf)) rfl ?_
    refine (lengthNL_ok A L c _ h2.line.at_ hcap hlen).mono fun v w2 h3 => ?_
    obtain ⟨rfl, rfl⟩ := h3
    refine V (x_bin rfl rfl (ib_subn (m := u.length) (by omega) (by omega))) rfl ?_
    refine V (x_slice_h (h := u.length) Tryd.underlying62 ⟨1, sz5⟩ rfl rfl rfl (by omega)) rfl ?_
    refine V (x_assign (by conv => lhs; whnf)) rfl ?_
    refine WL_nil ?_
    exact plain_bare hX h2 ⟨rfl, rfl, rfl, rfl, rfl, rfl, rfl⟩ rfl rfl L' hL hE hu hq hg h13 hN1 hN2 hK (.inr ⟨rfl, hfs, hrp⟩)
end
end Go.Proofs.YtcdhbfhijkdfoaaDoor
