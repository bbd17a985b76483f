/-
  readRecord: the whole.
-/
import Derived.Test.YtcdhbfhijkdfoaaDoorRz
import Derived.Test.YtcdhbfhijkdfoaaDoorRa
namespace Go.Proofs.YtcdhbfhijkdfoaaDoor
open Go.EC Go.RowKit
theorem lineErr_nil {er : Nat → Addr} {k : Nat} {L p : Bytes} (hre : RawEnds k L p) (h : L ≠ []) : lineErr er k L = .nilIface := by
  rcases hre with ⟨rfl, _⟩ | ⟨rfl, _⟩
  · exact lineErr_0 _ _
  · exact lineErr_1 _ h
section
variable {X : Cx} (hX : X.Ok)
include hX
theorem loop_ok {K : Nat} {e : Env} {w : World} (hI : FI X K e w) : W Tryd.prog Tryd.f41.ntmps (fstC (sndC (sndC (sndC (sndC (sndC (sndC (sndC (sndC (sndC (sndC (sndC (sndC (sndC (scC (sndC (bodyOf Tryd.f41))))))))))))))))) (thn (FM X) fun _ _ _ => False) e w := by
  conv => arg 3; whnf
  refine W_block ?_
  refine W_loop (FI X) (k0 := K) hI ?_
  intro K e w hI
  refine W_block ?_
  refine W.mono (field_ok hX hI) fun ex e' w' hq => ?_
  cases ex with
  | exit id =>
    by_cases h3 : id = 3
    · subst h3
      obtain ⟨K', h1, h2⟩ := (show ∃ K', K' < K ∧ FI X K' e' w' from hq)
      exact xb ⟨K', h1, h2⟩
    · by_cases h2 : id = 2
      · subst h2
        exact xn rfl (xt (xb (show FM X e' w' from hq)))
      · exfalso
        unfold FQ at hq
        split at hq
        · rename_i hh; injection hh with hh; exact h3 hh
        · rename_i hh; injection hh with hh; exact h2 hh
        · exact hq
  | _ => exact absurd hq (by unfold FQ; exact id)
theorem head_tail {e : Env} {w : World} {x : Fld} {r np : Nat} {p rb : Bytes} {ix : List Nat} {A : Option Addr} {c : Nat} {L : Bytes} (h : X.RS [] w x r p rb ix np A c L) (e0 : e 0 = .pointer (some ⟨X.a, 0, none⟩)) (e1 : e 1 = .slice none 0 0) (e6 : e 6 = .slice A L.length c) (e7 : e 7 = .nilIface)
    (hE : LineEnd L p) (h13 : (13 : UInt8) ∉ p) (hF : Fields X.cm X.x0.lz none (L ++ p) [] X.fs X.rest) (hN : (L ++ p).length ≤ X.N) (hfpr : X.x0.fpr = -1) : W Tryd.prog Tryd.f41.ntmps (sndC (sndC (sndC (sndC (sndC (scC (sndC (bodyOf Tryd.f41)))))))) (noG (bodyE Tryd.prog Tryd.f41 (RrOk X))) e w := by
  have hC := h.st.rd.C
  have hC0 := h.st.rd.C
  unfold CBlk at hC0
  rw [h.fld.1] at hC0
  obtain ⟨Ar, cr, hrf, hro, hrb⟩ := h.st.rcb.cut0
  obtain ⟨hC1, h1⟩ := h.appRec (v0 := x.rec_) (v' := .slice Ar 0 cr) (rb' := []) rfl hro (Only.refl _ _) (.inl hrb)
  obtain ⟨Ai, ci, hif, hio, hib⟩ := h1.st.idx.cut0
  obtain ⟨hC2, h2⟩ := h1.appIdx (v0 := x.idx) (v' := .slice Ai 0 ci) (ix' := []) rfl hio (Only.refl _ _) (.inl hib)
  obtain ⟨ys, hps⟩ := h2.st.psn
  obtain ⟨Ap, cp, hpf, hpo, hpb⟩ := hps.cut0
  obtain ⟨hC3, h3⟩ := h2.appPsn (v0 := x.psn) (v' := .slice Ap 0 cp) (np' := 0) rfl hpo (Only.refl _ _) (.inl hpb)
  have hC4 := h3.st.rd.C
  have eE : e = upd (upd (upd (upd e 0 (.pointer (some ⟨X.a, 0, none⟩))) 1 (.slice none 0 0)) 6 (.slice A L.length c)) 7 .nilIface := by
    simp only [upd_self e0, upd_self e1, upd_self e6, upd_self e7]
  rw [eE]
  conv => arg 3; whnf
  refine W_seq ?_
  refine W_region ?_
  refine V (x_assign (by conv => lhs; whnf)) rfl ?_
  refine WL_nil ?_
  refine W_seq ?_
  refine W_region ?_
  refine V (x_move (by conv => lhs; whnf)) rfl ?_
  refine V (x_nilc rfl) rfl ?_
  refine V (x_field0 fa71_0 rfl) rfl ?_
  refine V (x_load ld21 rfl ((hC0).cell 0 rfl)) rfl ?_
  refine C (x_call1 cf48 (by conv => lhs; whnf)) rfl ?_
  refine (RuneLen_ok X.x0.cm _).mono fun v w1 hv => ?_
  obtain ⟨rfl, rfl⟩ := hv
  rw [hX.cm.runeLen]
  refine V (x_assign (by conv => lhs; whnf)) rfl ?_
  refine WL_nil ?_
  refine W_seq ?_
  refine W_region ?_
  refine V (x_move (by conv => lhs; whnf)) rfl ?_
  refine V (x_nilc rfl) rfl ?_
  refine V (x_field0 fa71_8 rfl) rfl ?_
  refine V (x_load ld3 rfl ((hC).cell 8 rfl)) rfl ?_
  refine V (x_assign (by conv => lhs; whnf)) rfl ?_
  refine WL_nil ?_
  refine W_seq ?_
  refine W_region ?_
  refine V (x_move (by conv => lhs; whnf)) rfl ?_
  refine V (x_move (by conv => lhs; whnf)) rfl ?_
  refine V (x_nilc rfl) rfl ?_
  refine V (x_field0 fa71_11 rfl) rfl ?_
  refine V (x_load ld62 rfl ((hC).cell 11 rfl)) rfl ?_
  refine V (x_slice_h (h := 0) Tryd.underlying62 ⟨1, sz5⟩ hrf rfl rfl (Nat.zero_le _)) rfl ?_
  refine V (x_nilc rfl) rfl ?_
  refine V (x_field0 fa71_11 rfl) rfl ?_
  refine S (x_store st62 rfl (by conv => lhs; whnf) rfl (hC.cell 11 rfl) (hC.free 11)) ?_
  refine WL_nil ?_
  refine W_seq ?_
  refine W_region ?_
  refine V (x_move (by conv => lhs; whnf)) rfl ?_
  refine V (x_move (by conv => lhs; whnf)) rfl ?_
  refine V (x_nilc rfl) rfl ?_
  refine V (x_field0 fa71_12 rfl) rfl ?_
  refine V (x_load ld38 rfl ((hC2).cell 12 rfl)) rfl ?_
  refine V (x_slice_h (h := 0) Tryd.underlying38 ⟨1, sz3⟩ hif rfl rfl (Nat.zero_le _)) rfl ?_
  refine V (x_nilc rfl) rfl ?_
  refine V (x_field0 fa71_12 rfl) rfl ?_
  refine S (x_store st38 rfl (by conv => lhs; whnf) rfl (hC2.cell 12 rfl) (hC2.free 12)) ?_
  refine WL_nil ?_
  refine W_seq ?_
  refine W_region ?_
  refine V (x_move (by conv => lhs; whnf)) rfl ?_
  refine V (x_move (by conv => lhs; whnf)) rfl ?_
  refine V (x_nilc rfl) rfl ?_
  refine V (x_field0 fa71_13 rfl) rfl ?_
  refine V (x_load ld69 rfl ((hC3).cell 13 rfl)) rfl ?_
  refine V (x_slice_h (h := 0) Tryd.underlying69 ⟨2, sz85⟩ hpf rfl rfl (Nat.zero_le _)) rfl ?_
  refine V (x_nilc rfl) rfl ?_
  refine V (x_field0 fa71_13 rfl) rfl ?_
  refine S (x_store st69 rfl (by conv => lhs; whnf) rfl (hC3.cell 13 rfl) (hC3.free 13)) ?_
  refine WL_nil ?_
  refine W_seq ?_
  refine W_region ?_
  refine V (x_move (by conv => lhs; whnf)) rfl ?_
  refine V (x_nilc rfl) rfl ?_
  refine V (x_field0 fa71_8 rfl) rfl ?_
  refine V (x_load ld3 rfl ((hC4).cell 8 rfl)) rfl ?_
  refine V (x_build (qs := [(0, .int .i64 x.nl), (1, .int .i64 1)]) rfl (bd85 _ _)) rfl ?_
  refine V (x_alloc (cs := [.int .i64 0, .int .i64 0]) zv85 rfl) rfl ?_
  refine SE (x_storeA (vs := [.int .i64 x.nl, .int .i64 1]) (cs := [.int .i64 0, .int .i64 0]) sz85 rfl rfl (Blk.new _ _ _) rfl pair_one) (fun w4 h4 => ?_)
  have h5 := h3.addPos ((Only.alloc (fun _ => False) _ _).then_ h4.2 fun i hi hh => by omega) h4.1 (Nat.le_refl _)
  refine WL_nil ?_
  refine W_seq ?_
  refine W_label ?_
  refine W_cut (FM X) ?_ ?_
  · exact loop_ok hX ⟨_, r, p, [], [], _, A, c, L, [], h5, ⟨rfl, rfl, rfl, rfl, rfl, rfl, rfl⟩, hE, hF, Gath.nil, by simpa using hN, by simpa using hN, rfl, h13⟩
  · intro e' w' hM
    exact tail_ok hX hM hF.ne_nil hfpr
theorem readRecord_ok (hct : X.x0.ct = 0 ∨ delimR X.x0.ct = true) (hne : X.x0.cm ≠ X.x0.ct) (hfpr : X.x0.fpr = -1) {r np : Nat} {p rb : Bytes} {ix : List Nat} (h : X.RS [] X.w0 X.x0 r p rb ix np none 0 []) (hN : X.N = p.length) (h13 : (13 : UInt8) ∉ p) (hp : p ≠ []) (hnl : p.head? ≠ some 10)
    (hcmt : X.x0.ct ≠ 0 → p.head? = some 34 ∨ ∃ v, p = X.cm ++ v) (hF : Fields X.cm X.x0.lz none p [] X.fs X.rest) : Ret Tryd.prog 41 #[.pointer (some ⟨X.a, 0, none⟩), .slice none 0 0] X.w0 (RrOk X) := by
  have hlenp := h.len
  have hS := hX.start
  have hcl := hX.cm.len
  obtain ⟨hv1, hv2, hv3, hv4, hv5, hv6, hv7⟩ := hX.cm.valid
  have hC1 : CBlk (dr X.w0) X.a X.x0 := h.st.rd.C.drew
  have hv := validDelim_ok X.x0.cm (dr X.w0)
  rw [hX.cm.del] at hv
  have key : ∀ {L p' : Bytes}, p = L ++ p' → LineEnd L p' → L ≠ [] ∧ nlLen L ≠ L.length ∧ (X.x0.ct ≠ 0 → runeB L ≠ X.x0.ct) := by
    intro L p' hpl hE
    have hLne : L ≠ [] := by
      rintro rfl
      rw [hE.nil] at hpl
      exact hp hpl
    obtain ⟨b, M, rfl⟩ := List.exists_cons_of_ne_nil hLne
    refine ⟨hLne, ?_, fun hc => ?_⟩
    · intro hh
      unfold nlLen at hh
      split at hh
      · rename_i hlast
        simp only [List.length_cons] at hh
        have hM : M = [] := List.eq_nil_of_length_eq_zero (by omega)
        subst hM
        rw [hpl] at hnl
        simp at hlast hnl
        exact hnl hlast
      · simp at hh
    · rcases hcmt hc with h34 | ⟨v, hv⟩
      · rw [hpl] at h34
        simp at h34
        subst h34
        rw [runeB_ascii (b := 34) (by decide)]
        rcases hct with h0 | hd
        · exact absurd h0 hc
        · intro hh
          unfold delimR at hd
          rw [decide_eq_true_iff] at hd
          exact hd.2.1 hh.symm
      · obtain ⟨L', hL', _⟩ := hE.head hX.cm.not_mem.1 (by rw [← hpl]; exact hv)
        rw [hL', hX.cm.enc, runeB_enc hv1 hv2]
        exact hne
  have fin : ∀ {e : Env} {w : World} {raw' : Value} {nl' off' : Int} {r' k : Nat} {L p' : Bytes} {A : Option Addr} {c : Nat}, X.RS [] w { X.x0 with raw := raw', nl := nl', off := off' } r' p' rb ix np A c L → p = L ++ p' → RawEnds k L p' → e 0 = .pointer (some ⟨X.a, 0, none⟩) → e 1 = .slice none 0 0 → e 6 = .slice A L.length c → e 7 = .nilIface →
      W Tryd.prog Tryd.f41.ntmps (sndC (sndC (sndC (sndC (sndC (scC (sndC (bodyOf Tryd.f41)))))))) (noG (bodyE Tryd.prog Tryd.f41 (RrOk X))) e w := by
    intro e w raw' nl' off' r' k L p' A c hR hpl hre e0 e1 e6 e7
    exact head_tail hX hR e0 e1 e6 e7 (LineEnd.of_raw hre) (fun hh => h13 (by rw [hpl]; exact List.mem_append.2 (.inr hh))) (by rw [← hpl]; exact hF) (by rw [← hpl, hN]; exact Nat.le_refl _) hfpr
  refine ret_of_W Tryd.func41 rfl (Nat.le_of_ble_eq_true rfl) ?_
  have hd1 := h.drew
  have hB0 : X.Bs ≤ (dr X.w0).heap.size := hS.size
  by_cases hz : X.x0.ct = 0
  · skip
    refine W_seq ?_
    refine W_region ?_
    refine V (x_assign (by conv => lhs; whnf)) rfl ?_
    refine V (x_assign (by conv => lhs; whnf)) rfl ?_
    refine WL_nil ?_
    refine W_scope ?_
    refine W_seq ?_
    refine W_seq ?_
    refine W_q mixed (by kernel_rfl) ?_
    refine K (x_move (by conv => lhs; whnf)) rfl ?_
    refine K (x_nilc rfl) rfl ?_
    refine K (x_field0 fa71_0 rfl) rfl ?_
    refine K (x_load ld21 rfl ((hC1).cell 0 rfl)) rfl ?_
    refine K (x_move (by conv => lhs; whnf)) rfl ?_
    refine K (x_nilc rfl) rfl ?_
    refine K (x_field0 fa71_1 rfl) rfl ?_
    refine K (x_load ld21 rfl ((hC1).cell 1 rfl)) rfl ?_
    refine K (x_bin rfl rfl (bf (beq_eq_false_iff_ne.2 (by omega)))) rfl ?_
    refine K (x_move (by conv => lhs; whnf)) rfl ?_
    refine KG rfl (x_move (by conv => lhs; whnf)) rfl ?_
    refine KG rfl (x_nilc rfl) rfl ?_
    refine KG rfl (x_field0 fa71_0 rfl) rfl ?_
    refine KG rfl (x_load ld21 rfl ((hC1).cell 0 rfl)) rfl ?_
    refine KCG rfl (fun _ => x_call1 cf44 (by conv => lhs; whnf)) (hv) rfl ?_
    refine KG rfl (x_not rfl) rfl ?_
    refine K (x_pick_f rfl (by conv => lhs; whnf)) rfl ?_
    refine K (x_move (by conv => lhs; whnf)) rfl ?_
    refine KG rfl (x_move (by conv => lhs; whnf)) rfl ?_
    refine KG rfl (x_nilc rfl) rfl ?_
    refine KG rfl (x_field0 fa71_1 rfl) rfl ?_
    refine KG rfl (x_load ld21 rfl ((hC1).cell 1 rfl)) rfl ?_
    refine KG rfl (x_bin rfl rfl (bf (bne_eq_false_iff_eq.2 (by omega)))) rfl ?_
    refine KG rfl (x_move (by conv => lhs; whnf)) rfl ?_
    refine KS rfl (by decide) rfl ?_
    refine KS rfl (by decide) rfl ?_
    refine KS rfl (by decide) rfl ?_
    refine KS rfl (by decide) rfl ?_
    refine KS rfl (by decide) rfl ?_
    refine KS rfl (by decide) rfl ?_
    refine KG rfl (x_pick_f rfl (by conv => lhs; whnf)) rfl ?_
    refine K (x_pick_f rfl (by conv => lhs; whnf)) rfl ?_
    refine KN ?_
    refine W_false (rfl) ?_
    refine W_skip ?_
    refine W_seq ?_
    refine W_region ?_
    refine V (x_assign (by conv => lhs; whnf)) rfl ?_
    refine WL_nil ?_
    refine W_seq ?_
    refine W_region ?_
    refine V (x_assign (by conv => lhs; whnf)) rfl ?_
    refine WL_nil ?_
    refine W_seq ?_
    refine W_block ?_
    refine W_once ?_
    refine W_seq ?_
    refine W_seq ?_
    refine W_region ?_
    refine V (x_move (by conv => lhs; whnf)) rfl ?_
    refine V (x_eql_nil_nil Tryd.underlying55 rfl) rfl ?_
    refine WL_nil ?_
    refine W_true (rfl) ?_
    refine W_skip ?_
    refine W_block ?_
    refine W_seq ?_
    refine W_region ?_
    refine V (x_move (by conv => lhs; whnf)) rfl ?_
    refine C (x_call1 cf45 (by conv => lhs; whnf)) rfl ?_
    refine (readLine_ok X.Bs X.a X.g X.s _ X.str r p X.er _ hd1.st.rd (hd1.glob hS) hS.errs hB0).mono ?_
    rintro v w2 ⟨k, raw', nl', off', r', L, p', A, c, rfl, hrd, hla, hpl, hre, ho, hraw⟩
    have hn := norm_id (k := k) (L := L) (p := p') (by rw [← hpl]; exact h13)
    rw [hn] at hla ⊢
    have h2 := hd1.readLine hrd hla ho hraw
    have hE := LineEnd.of_raw hre
    obtain ⟨k1, k2, k3⟩ := key hpl hE
    have hle : lineErr X.er k L = .nilIface := lineErr_nil hre k1
    rw [hle]
    have h3 := h2.drew
    have hC3 := h3.st.rd.C
    have hG0 := (h3.glob hS).cell 0 (by omega)
    have hcap := h3.line.cap
    have hll : L.length ≤ 2147487744 := (by rw [hpl, List.length_append] at hlenp; omega)
    refine V (x_move (by conv => lhs; whnf)) rfl ?_
    refine V (x_extract rfl rfl) rfl ?_
    refine V (x_extract rfl rfl) rfl ?_
    refine V (x_assign (by conv => lhs; whnf)) rfl ?_
    refine V (x_assign (by conv => lhs; whnf)) rfl ?_
    refine WL_nil ?_
    refine W_seq ?_
    refine W_seq ?_
    refine W_q mixed (by kernel_rfl) ?_
    refine K (x_move (by conv => lhs; whnf)) rfl ?_
    refine K (x_nilc rfl) rfl ?_
    refine K (x_field0 fa71_1 rfl) rfl ?_
    refine K (x_load ld21 rfl ((hC3).cell 1 rfl)) rfl ?_
    refine K (x_bin rfl rfl (bf (bne_eq_false_iff_eq.2 (by omega)))) rfl ?_
    refine K (x_move (by conv => lhs; whnf)) rfl ?_
    refine KS rfl (by decide) rfl ?_
    refine KS rfl (by decide) rfl ?_
    refine KS rfl (by decide) rfl ?_
    refine KS rfl (by decide) rfl ?_
    refine KS rfl (by decide) rfl ?_
    refine KS rfl (by decide) rfl ?_
    refine KS rfl (by decide) rfl ?_
    refine K (x_pick_f rfl (by conv => lhs; whnf)) rfl ?_
    refine KN ?_
    refine W_false (rfl) ?_
    refine W_skip ?_
    refine W_seq ?_
    refine W_seq ?_
    refine W_region ?_
    refine V (x_move (by conv => lhs; whnf)) rfl ?_
    refine V (x_eql_nil_nil Tryd.underlying55 rfl) rfl ?_
    refine V (x_move (by conv => lhs; whnf)) rfl ?_
    refine VG rfl (x_move (by conv => lhs; whnf)) rfl ?_
    refine VG rfl (x_len_slice Tryd.underlying62 rfl) rfl ?_
    refine VG rfl (x_move (by conv => lhs; whnf)) rfl ?_
    refine CG rfl (x_call1 cf47 (by conv => lhs; whnf)) rfl ?_
    refine (lengthNL_ok A L c _ h3.line.at_ hcap hll).mono fun v w3 h4 => ?_
    obtain ⟨rfl, rfl⟩ := h4
    refine VG rfl (x_bin rfl rfl (bf (beq_eq_false_iff_ne.2 (by omega)))) rfl ?_
    refine V (x_pick_t rfl (by conv => lhs; whnf)) rfl ?_
    refine WL_nil ?_
    refine W_false (rfl) ?_
    refine W_skip ?_
    refine W_exit ?_
    refine W_seq ?_
    refine W_seq ?_
    refine W_region ?_
    refine V (x_move (by conv => lhs; whnf)) rfl ?_
    refine V (x_load ld55 rfl hG0) rfl ?_
    refine V (x_eql_nil_held Tryd.underlying55 rfl rfl) rfl ?_
    refine WL_nil ?_
    refine W_false (rfl) ?_
    refine W_skip ?_
    exact fin h3 hpl hre rfl rfl rfl rfl
  · have hdt := hct.resolve_left hz
    have hv2' := validDelim_ok X.x0.ct (dr X.w0)
    rw [hdt] at hv2'
    refine W_seq ?_
    refine W_region ?_
    refine V (x_assign (by conv => lhs; whnf)) rfl ?_
    refine V (x_assign (by conv => lhs; whnf)) rfl ?_
    refine WL_nil ?_
    refine W_scope ?_
    refine W_seq ?_
    refine W_seq ?_
    refine W_q mixed (by kernel_rfl) ?_
    refine K (x_move (by conv => lhs; whnf)) rfl ?_
    refine K (x_nilc rfl) rfl ?_
    refine K (x_field0 fa71_0 rfl) rfl ?_
    refine K (x_load ld21 rfl ((hC1).cell 0 rfl)) rfl ?_
    refine K (x_move (by conv => lhs; whnf)) rfl ?_
    refine K (x_nilc rfl) rfl ?_
    refine K (x_field0 fa71_1 rfl) rfl ?_
    refine K (x_load ld21 rfl ((hC1).cell 1 rfl)) rfl ?_
    refine K (x_bin rfl rfl (bf (beq_eq_false_iff_ne.2 (by omega)))) rfl ?_
    refine K (x_move (by conv => lhs; whnf)) rfl ?_
    refine KG rfl (x_move (by conv => lhs; whnf)) rfl ?_
    refine KG rfl (x_nilc rfl) rfl ?_
    refine KG rfl (x_field0 fa71_0 rfl) rfl ?_
    refine KG rfl (x_load ld21 rfl ((hC1).cell 0 rfl)) rfl ?_
    refine KCG rfl (fun _ => x_call1 cf44 (by conv => lhs; whnf)) (hv) rfl ?_
    refine KG rfl (x_not rfl) rfl ?_
    refine K (x_pick_f rfl (by conv => lhs; whnf)) rfl ?_
    refine K (x_move (by conv => lhs; whnf)) rfl ?_
    refine KG rfl (x_move (by conv => lhs; whnf)) rfl ?_
    refine KG rfl (x_nilc rfl) rfl ?_
    refine KG rfl (x_field0 fa71_1 rfl) rfl ?_
    refine KG rfl (x_load ld21 rfl ((hC1).cell 1 rfl)) rfl ?_
    refine KG rfl (x_bin rfl rfl (bt (bne_iff_ne.2 (by omega)))) rfl ?_
    refine KG rfl (x_move (by conv => lhs; whnf)) rfl ?_
    refine KG rfl (x_move (by conv => lhs; whnf)) rfl ?_
    refine KG rfl (x_nilc rfl) rfl ?_
    refine KG rfl (x_field0 fa71_1 rfl) rfl ?_
    refine KG rfl (x_load ld21 rfl ((hC1).cell 1 rfl)) rfl ?_
    refine KCG rfl (fun _ => x_call1 cf44 (by conv => lhs; whnf)) (hv2') rfl ?_
    refine KG rfl (x_not rfl) rfl ?_
    refine KG rfl (x_pick_t rfl (by conv => lhs; whnf)) rfl ?_
    refine K (x_pick_f rfl (by conv => lhs; whnf)) rfl ?_
    refine KN ?_
    refine W_false (rfl) ?_
    refine W_skip ?_
    refine W_seq ?_
    refine W_region ?_
    refine V (x_assign (by conv => lhs; whnf)) rfl ?_
    refine WL_nil ?_
    refine W_seq ?_
    refine W_region ?_
    refine V (x_assign (by conv => lhs; whnf)) rfl ?_
    refine WL_nil ?_
    refine W_seq ?_
    refine W_block ?_
    refine W_once ?_
    refine W_seq ?_
    refine W_seq ?_
    refine W_region ?_
    refine V (x_move (by conv => lhs; whnf)) rfl ?_
    refine V (x_eql_nil_nil Tryd.underlying55 rfl) rfl ?_
    refine WL_nil ?_
    refine W_true (rfl) ?_
    refine W_skip ?_
    refine W_block ?_
    refine W_seq ?_
    refine W_region ?_
    refine V (x_move (by conv => lhs; whnf)) rfl ?_
    refine C (x_call1 cf45 (by conv => lhs; whnf)) rfl ?_
    refine (readLine_ok X.Bs X.a X.g X.s _ X.str r p X.er _ hd1.st.rd (hd1.glob hS) hS.errs hB0).mono ?_
    rintro v w2 ⟨k, raw', nl', off', r', L, p', A, c, rfl, hrd, hla, hpl, hre, ho, hraw⟩
    have hn := norm_id (k := k) (L := L) (p := p') (by rw [← hpl]; exact h13)
    rw [hn] at hla ⊢
    have h2 := hd1.readLine hrd hla ho hraw
    have hE := LineEnd.of_raw hre
    obtain ⟨k1, k2, k3⟩ := key hpl hE
    have hle : lineErr X.er k L = .nilIface := lineErr_nil hre k1
    rw [hle]
    have k4 := k3 hz
    have hll : L.length ≤ 2147487744 := (by rw [hpl, List.length_append] at hlenp; omega)
    refine V (x_move (by conv => lhs; whnf)) rfl ?_
    refine V (x_extract rfl rfl) rfl ?_
    refine V (x_extract rfl rfl) rfl ?_
    refine V (x_assign (by conv => lhs; whnf)) rfl ?_
    refine V (x_assign (by conv => lhs; whnf)) rfl ?_
    refine WL_nil ?_
    refine W_seq ?_
    refine W_seq ?_
    refine W_quiet (fun w1 => Only (fun _ => False) w2 w1) mixed (by kernel_rfl) (Only.drew _ _) ?_
    refine B (fun w1 hw1 => x_move (by conv => lhs; whnf)) rfl ?_
    refine B (fun w1 hw1 => x_nilc rfl) rfl ?_
    refine B (fun w1 hw1 => x_field0 fa71_1 rfl) rfl ?_
    refine B (fun w1 hw1 => x_load ld21 rfl ((h2.new hw1).st.rd.C.cell 1 rfl)) rfl ?_
    refine B (fun w1 hw1 => x_bin rfl rfl (bt (bne_iff_ne.2 (by omega)))) rfl ?_
    refine B (fun w1 hw1 => x_move (by conv => lhs; whnf)) rfl ?_
    refine BG rfl (fun w1 hw1 => x_move (by conv => lhs; whnf)) rfl ?_
    refine BCG rfl (fun _ => x_call1 cf46 (by conv => lhs; whnf)) (fun w1 hw1 => (nextRune_ok A L c w1 (h2.new hw1).line.at_ ((h2.new hw1).tabs hS)).mono fun u w3 h4 => ⟨h4.1, hw1.trans (Only.of_below h4.2 _)⟩) rfl ?_
    refine BG rfl (fun w1 hw1 => x_move (by conv => lhs; whnf)) rfl ?_
    refine BG rfl (fun w1 hw1 => x_nilc rfl) rfl ?_
    refine BG rfl (fun w1 hw1 => x_field0 fa71_1 rfl) rfl ?_
    refine BG rfl (fun w1 hw1 => x_load ld21 rfl ((h2.new hw1).st.rd.C.cell 1 rfl)) rfl ?_
    refine BG rfl (fun w1 hw1 => x_bin rfl rfl (bf (beq_eq_false_iff_ne.2 k4))) rfl ?_
    refine B (fun w1 hw1 => x_pick_t rfl (by conv => lhs; whnf)) rfl ?_
    refine BN ?_
    intro w1 hw1
    have h3 := h2.new hw1
    have hcap := h3.line.cap
    have hG0 := (h3.glob hS).cell 0 (by omega)
    refine W_false (rfl) ?_
    refine W_skip ?_
    refine W_seq ?_
    refine W_seq ?_
    refine W_region ?_
    refine V (x_move (by conv => lhs; whnf)) rfl ?_
    refine V (x_eql_nil_nil Tryd.underlying55 rfl) rfl ?_
    refine V (x_move (by conv => lhs; whnf)) rfl ?_
    refine VG rfl (x_move (by conv => lhs; whnf)) rfl ?_
    refine VG rfl (x_len_slice Tryd.underlying62 rfl) rfl ?_
    refine VG rfl (x_move (by conv => lhs; whnf)) rfl ?_
    refine CG rfl (x_call1 cf47 (by conv => lhs; whnf)) rfl ?_
    refine (lengthNL_ok A L c _ h3.line.at_ hcap hll).mono fun v w3 h4 => ?_
    obtain ⟨rfl, rfl⟩ := h4
    refine VG rfl (x_bin rfl rfl (bf (beq_eq_false_iff_ne.2 (by omega)))) rfl ?_
    refine V (x_pick_t rfl (by conv => lhs; whnf)) rfl ?_
    refine WL_nil ?_
    refine W_false (rfl) ?_
    refine W_skip ?_
    refine W_exit ?_
    refine W_seq ?_
    refine W_seq ?_
    refine W_region ?_
    refine V (x_move (by conv => lhs; whnf)) rfl ?_
    refine V (x_load ld55 rfl hG0) rfl ?_
    refine V (x_eql_nil_held Tryd.underlying55 rfl rfl) rfl ?_
    refine WL_nil ?_
    refine W_false (rfl) ?_
    refine W_skip ?_
    exact fin h3 hpl hre rfl rfl rfl rfl
/-- At the end of the text. -/
theorem readRecord_eof (hct : X.x0.ct = 0 ∨ delimR X.x0.ct = true) (hne : X.x0.cm ≠ X.x0.ct) {r np : Nat} {rb : Bytes} {ix : List Nat} (h : X.RS [] X.w0 X.x0 r [] rb ix np none 0 []) : Ret Tryd.prog 41 #[.pointer (some ⟨X.a, 0, none⟩), .slice none 0 0] X.w0 fun v w' => v = .tuple #[.slice none 0 0, errV X.er 0] ∧ Only (Blks X.a X.g X.s X.x0) X.w0 w' ∧ Glob w' X.er := by
  have hS := hX.start
  have hC1 : CBlk (dr X.w0) X.a X.x0 := h.st.rd.C.drew
  have hv := validDelim_ok X.x0.cm (dr X.w0)
  rw [hX.cm.del] at hv
  refine ret_of_W Tryd.func41 rfl (Nat.le_of_ble_eq_true rfl) ?_
  have hd1 := h.drew
  have hB0 : X.Bs ≤ (dr X.w0).heap.size := hS.size
  have key : ∀ {k : Nat} {L p' : Bytes}, ([] : Bytes) = L ++ p' → RawEnds k L p' → L = [] ∧ p' = [] ∧ k = 1 := by
    intro k L p' he hre
    obtain ⟨h1, h2⟩ := List.append_eq_nil_iff.1 he.symm
    refine ⟨h1, h2, ?_⟩
    rcases hre with ⟨_, L0, h3, _⟩ | ⟨h3, _⟩
    · rw [h1] at h3; simp at h3
    · exact h3
  have hnn : ∀ k, normN (normE k []) = [] := fun k => by unfold normE; simp [normN]
  by_cases hz : X.x0.ct = 0
  · skip
    refine W_seq ?_
    refine W_region ?_
    refine V (x_assign (by conv => lhs; whnf)) rfl ?_
    refine V (x_assign (by conv => lhs; whnf)) rfl ?_
    refine WL_nil ?_
    refine W_scope ?_
    refine W_seq ?_
    refine W_seq ?_
    refine W_q mixed (by kernel_rfl) ?_
    refine K (x_move (by conv => lhs; whnf)) rfl ?_
    refine K (x_nilc rfl) rfl ?_
    refine K (x_field0 fa71_0 rfl) rfl ?_
    refine K (x_load ld21 rfl ((hC1).cell 0 rfl)) rfl ?_
    refine K (x_move (by conv => lhs; whnf)) rfl ?_
    refine K (x_nilc rfl) rfl ?_
    refine K (x_field0 fa71_1 rfl) rfl ?_
    refine K (x_load ld21 rfl ((hC1).cell 1 rfl)) rfl ?_
    refine K (x_bin rfl rfl (bf (beq_eq_false_iff_ne.2 (by omega)))) rfl ?_
    refine K (x_move (by conv => lhs; whnf)) rfl ?_
    refine KG rfl (x_move (by conv => lhs; whnf)) rfl ?_
    refine KG rfl (x_nilc rfl) rfl ?_
    refine KG rfl (x_field0 fa71_0 rfl) rfl ?_
    refine KG rfl (x_load ld21 rfl ((hC1).cell 0 rfl)) rfl ?_
    refine KCG rfl (fun _ => x_call1 cf44 (by conv => lhs; whnf)) (hv) rfl ?_
    refine KG rfl (x_not rfl) rfl ?_
    refine K (x_pick_f rfl (by conv => lhs; whnf)) rfl ?_
    refine K (x_move (by conv => lhs; whnf)) rfl ?_
    refine KG rfl (x_move (by conv => lhs; whnf)) rfl ?_
    refine KG rfl (x_nilc rfl) rfl ?_
    refine KG rfl (x_field0 fa71_1 rfl) rfl ?_
    refine KG rfl (x_load ld21 rfl ((hC1).cell 1 rfl)) rfl ?_
    refine KG rfl (x_bin rfl rfl (bf (bne_eq_false_iff_eq.2 (by omega)))) rfl ?_
    refine KG rfl (x_move (by conv => lhs; whnf)) rfl ?_
    refine KS rfl (by decide) rfl ?_
    refine KS rfl (by decide) rfl ?_
    refine KS rfl (by decide) rfl ?_
    refine KS rfl (by decide) rfl ?_
    refine KS rfl (by decide) rfl ?_
    refine KS rfl (by decide) rfl ?_
    refine KG rfl (x_pick_f rfl (by conv => lhs; whnf)) rfl ?_
    refine K (x_pick_f rfl (by conv => lhs; whnf)) rfl ?_
    refine KN ?_
    refine W_false (rfl) ?_
    refine W_skip ?_
    refine W_seq ?_
    refine W_region ?_
    refine V (x_assign (by conv => lhs; whnf)) rfl ?_
    refine WL_nil ?_
    refine W_seq ?_
    refine W_region ?_
    refine V (x_assign (by conv => lhs; whnf)) rfl ?_
    refine WL_nil ?_
    refine W_seq ?_
    refine W_block ?_
    refine W_once ?_
    refine W_seq ?_
    refine W_seq ?_
    refine W_region ?_
    refine V (x_move (by conv => lhs; whnf)) rfl ?_
    refine V (x_eql_nil_nil Tryd.underlying55 rfl) rfl ?_
    refine WL_nil ?_
    refine W_true (rfl) ?_
    refine W_skip ?_
    refine W_block ?_
    refine W_seq ?_
    refine W_region ?_
    refine V (x_move (by conv => lhs; whnf)) rfl ?_
    refine C (x_call1 cf45 (by conv => lhs; whnf)) rfl ?_
    refine (readLine_ok X.Bs X.a X.g X.s _ X.str r [] X.er _ hd1.st.rd (hd1.glob hS) hS.errs hB0).mono ?_
    rintro v w2 ⟨k, raw', nl', off', r', L, p', A, c, rfl, hrd, hla, hpl, hre, ho, hraw⟩
    obtain ⟨rfl, rfl, rfl⟩ := key hpl hre
    rw [hnn] at hla ⊢
    have h2 := hd1.readLine hrd hla ho hraw
    rw [lineErr_eof]
    have h3 := h2.drew
    have hC3 := h3.st.rd.C
    have hG0 := (h3.glob hS).cell 0 (by omega)
    refine V (x_move (by conv => lhs; whnf)) rfl ?_
    refine V (x_extract rfl rfl) rfl ?_
    refine V (x_extract rfl rfl) rfl ?_
    refine V (x_assign (by conv => lhs; whnf)) rfl ?_
    refine V (x_assign (by conv => lhs; whnf)) rfl ?_
    refine WL_nil ?_
    refine W_seq ?_
    refine W_seq ?_
    refine W_q mixed (by kernel_rfl) ?_
    refine K (x_move (by conv => lhs; whnf)) rfl ?_
    refine K (x_nilc rfl) rfl ?_
    refine K (x_field0 fa71_1 rfl) rfl ?_
    refine K (x_load ld21 rfl ((hC3).cell 1 rfl)) rfl ?_
    refine K (x_bin rfl rfl (bf (bne_eq_false_iff_eq.2 (by omega)))) rfl ?_
    refine K (x_move (by conv => lhs; whnf)) rfl ?_
    refine KS rfl (by decide) rfl ?_
    refine KS rfl (by decide) rfl ?_
    refine KS rfl (by decide) rfl ?_
    refine KS rfl (by decide) rfl ?_
    refine KS rfl (by decide) rfl ?_
    refine KS rfl (by decide) rfl ?_
    refine KS rfl (by decide) rfl ?_
    refine K (x_pick_f rfl (by conv => lhs; whnf)) rfl ?_
    refine KN ?_
    refine W_false (rfl) ?_
    refine W_skip ?_
    refine W_seq ?_
    refine W_seq ?_
    refine W_region ?_
    refine V (x_move (by conv => lhs; whnf)) rfl ?_
    refine V (x_eql_held Tryd.underlying55 rfl) rfl ?_
    refine V (x_move (by conv => lhs; whnf)) rfl ?_
    refine SG rfl (by decide) rfl ?_
    refine SG rfl (by decide) rfl ?_
    refine SG rfl (by decide) rfl ?_
    refine SG rfl (by decide) rfl ?_
    refine SG rfl (by decide) rfl ?_
    refine V (x_pick_f rfl (by conv => lhs; whnf)) rfl ?_
    refine WL_nil ?_
    refine W_false (rfl) ?_
    refine W_skip ?_
    refine W_exit ?_
    refine W_seq ?_
    refine W_seq ?_
    refine W_region ?_
    refine V (x_move (by conv => lhs; whnf)) rfl ?_
    refine V (x_load ld55 rfl hG0) rfl ?_
    refine V (x_eql_same Tryd.underlying55 ptrE rfl rfl) rfl ?_
    refine WL_nil ?_
    refine W_true (rfl) ?_
    refine W_seq ?_
    refine W_region ?_
    refine V (x_move (by conv => lhs; whnf)) rfl ?_
    refine V (x_assign (by conv => lhs; whnf)) rfl ?_
    refine V (x_assign (by conv => lhs; whnf)) rfl ?_
    refine WL_nil ?_
    refine W_ret ?_
    repeat (with_reducible (first | refine rt ?_ | refine rb ?_ | refine rs ?_ | refine rj ?_))
    exact bodyE_2 rfl rfl rfl ⟨rfl, h3.only, h3.glob hS⟩
  · have hdt := hct.resolve_left hz
    have hv2' := validDelim_ok X.x0.ct (dr X.w0)
    rw [hdt] at hv2'
    have k4 : runeB [] ≠ X.x0.ct := by
      rw [runeB_nil]
      unfold delimR at hdt
      rw [decide_eq_true_iff] at hdt
      exact fun hh => hdt.2.2.2.2.2 hh.symm
    refine W_seq ?_
    refine W_region ?_
    refine V (x_assign (by conv => lhs; whnf)) rfl ?_
    refine V (x_assign (by conv => lhs; whnf)) rfl ?_
    refine WL_nil ?_
    refine W_scope ?_
    refine W_seq ?_
    refine W_seq ?_
    refine W_q mixed (by kernel_rfl) ?_
    refine K (x_move (by conv => lhs; whnf)) rfl ?_
    refine K (x_nilc rfl) rfl ?_
    refine K (x_field0 fa71_0 rfl) rfl ?_
    refine K (x_load ld21 rfl ((hC1).cell 0 rfl)) rfl ?_
    refine K (x_move (by conv => lhs; whnf)) rfl ?_
    refine K (x_nilc rfl) rfl ?_
    refine K (x_field0 fa71_1 rfl) rfl ?_
    refine K (x_load ld21 rfl ((hC1).cell 1 rfl)) rfl ?_
    refine K (x_bin rfl rfl (bf (beq_eq_false_iff_ne.2 (by omega)))) rfl ?_
    refine K (x_move (by conv => lhs; whnf)) rfl ?_
    refine KG rfl (x_move (by conv => lhs; whnf)) rfl ?_
    refine KG rfl (x_nilc rfl) rfl ?_
    refine KG rfl (x_field0 fa71_0 rfl) rfl ?_
    refine KG rfl (x_load ld21 rfl ((hC1).cell 0 rfl)) rfl ?_
    refine KCG rfl (fun _ => x_call1 cf44 (by conv => lhs; whnf)) (hv) rfl ?_
    refine KG rfl (x_not rfl) rfl ?_
    refine K (x_pick_f rfl (by conv => lhs; whnf)) rfl ?_
    refine K (x_move (by conv => lhs; whnf)) rfl ?_
    refine KG rfl (x_move (by conv => lhs; whnf)) rfl ?_
    refine KG rfl (x_nilc rfl) rfl ?_
    refine KG rfl (x_field0 fa71_1 rfl) rfl ?_
    refine KG rfl (x_load ld21 rfl ((hC1).cell 1 rfl)) rfl ?_
    refine KG rfl (x_bin rfl rfl (bt (bne_iff_ne.2 (by omega)))) rfl ?_
    refine KG rfl (x_move (by conv => lhs; whnf)) rfl ?_
    refine KG rfl (x_move (by conv => lhs; whnf)) rfl ?_
    refine KG rfl (x_nilc rfl) rfl ?_
    refine KG rfl (x_field0 fa71_1 rfl) rfl ?_
    refine KG rfl (x_load ld21 rfl ((hC1).cell 1 rfl)) rfl ?_
    refine KCG rfl (fun _ => x_call1 cf44 (by conv => lhs; whnf)) (hv2') rfl ?_
    refine KG rfl (x_not rfl) rfl ?_
    refine KG rfl (x_pick_t rfl (by conv => lhs; whnf)) rfl ?_
    refine K (x_pick_f rfl (by conv => lhs; whnf)) rfl ?_
    refine KN ?_
    refine W_false (rfl) ?_
    refine W_skip ?_
    refine W_seq ?_
    refine W_region ?_
    refine V (x_assign (by conv => lhs; whnf)) rfl ?_
    refine WL_nil ?_
    refine W_seq ?_
    refine W_region ?_
    refine V (x_assign (by conv => lhs; whnf)) rfl ?_
    refine WL_nil ?_
    refine W_seq ?_
    refine W_block ?_
    refine W_once ?_
    refine W_seq ?_
    refine W_seq ?_
    refine W_region ?_
    refine V (x_move (by conv => lhs; whnf)) rfl ?_
    refine V (x_eql_nil_nil Tryd.underlying55 rfl) rfl ?_
    refine WL_nil ?_
    refine W_true (rfl) ?_
    refine W_skip ?_
    refine W_block ?_
    refine W_seq ?_
    refine W_region ?_
    refine V (x_move (by conv => lhs; whnf)) rfl ?_
    refine C (x_call1 cf45 (by conv => lhs; whnf)) rfl ?_
    refine (readLine_ok X.Bs X.a X.g X.s _ X.str r [] X.er _ hd1.st.rd (hd1.glob hS) hS.errs hB0).mono ?_
    rintro v w2 ⟨k, raw', nl', off', r', L, p', A, c, rfl, hrd, hla, hpl, hre, ho, hraw⟩
    obtain ⟨rfl, rfl, rfl⟩ := key hpl hre
    rw [hnn] at hla ⊢
    have h2 := hd1.readLine hrd hla ho hraw
    rw [lineErr_eof]
    refine V (x_move (by conv => lhs; whnf)) rfl ?_
    refine V (x_extract rfl rfl) rfl ?_
    refine V (x_extract rfl rfl) rfl ?_
    refine V (x_assign (by conv => lhs; whnf)) rfl ?_
    refine V (x_assign (by conv => lhs; whnf)) rfl ?_
    refine WL_nil ?_
    refine W_seq ?_
    refine W_seq ?_
    refine W_quiet (fun w1 => Only (fun _ => False) w2 w1) mixed (by kernel_rfl) (Only.drew _ _) ?_
    refine B (fun w1 hw1 => x_move (by conv => lhs; whnf)) rfl ?_
    refine B (fun w1 hw1 => x_nilc rfl) rfl ?_
    refine B (fun w1 hw1 => x_field0 fa71_1 rfl) rfl ?_
    refine B (fun w1 hw1 => x_load ld21 rfl ((h2.new hw1).st.rd.C.cell 1 rfl)) rfl ?_
    refine B (fun w1 hw1 => x_bin rfl rfl (bt (bne_iff_ne.2 (by omega)))) rfl ?_
    refine B (fun w1 hw1 => x_move (by conv => lhs; whnf)) rfl ?_
    refine BG rfl (fun w1 hw1 => x_move (by conv => lhs; whnf)) rfl ?_
    refine BCG rfl (fun _ => x_call1 cf46 (by conv => lhs; whnf)) (fun w1 hw1 => (nextRune_ok A [] c w1 (At.nil _ _) ((h2.new hw1).tabs hS)).mono fun u w3 h4 => ⟨h4.1, hw1.trans (Only.of_below h4.2 _)⟩) rfl ?_
    refine BG rfl (fun w1 hw1 => x_move (by conv => lhs; whnf)) rfl ?_
    refine BG rfl (fun w1 hw1 => x_nilc rfl) rfl ?_
    refine BG rfl (fun w1 hw1 => x_field0 fa71_1 rfl) rfl ?_
    refine BG rfl (fun w1 hw1 => x_load ld21 rfl ((h2.new hw1).st.rd.C.cell 1 rfl)) rfl ?_
    refine BG rfl (fun w1 hw1 => x_bin rfl rfl (bf (beq_eq_false_iff_ne.2 k4))) rfl ?_
    refine B (fun w1 hw1 => x_pick_t rfl (by conv => lhs; whnf)) rfl ?_
    refine BN ?_
    intro w1 hw1
    have h3 := h2.new hw1
    have hG0 := (h3.glob hS).cell 0 (by omega)
    refine W_false (rfl) ?_
    refine W_skip ?_
    refine W_seq ?_
    refine W_seq ?_
    refine W_region ?_
    refine V (x_move (by conv => lhs; whnf)) rfl ?_
    refine V (x_eql_held Tryd.underlying55 rfl) rfl ?_
    refine V (x_move (by conv => lhs; whnf)) rfl ?_
    refine SG rfl (by decide) rfl ?_
    refine SG rfl (by decide) rfl ?_
    refine SG rfl (by decide) rfl ?_
    refine SG rfl (by decide) rfl ?_
    refine SG rfl (by decide) rfl ?_
    refine V (x_pick_f rfl (by conv => lhs; whnf)) rfl ?_
    refine WL_nil ?_
    refine W_false (rfl) ?_
    refine W_skip ?_
    refine W_exit ?_
    refine W_seq ?_
    refine W_seq ?_
    refine W_region ?_
    refine V (x_move (by conv => lhs; whnf)) rfl ?_
    refine V (x_load ld55 rfl hG0) rfl ?_
    refine V (x_eql_same Tryd.underlying55 ptrE rfl rfl) rfl ?_
    refine WL_nil ?_
    refine W_true (rfl) ?_
    refine W_seq ?_
    refine W_region ?_
    refine V (x_move (by conv => lhs; whnf)) rfl ?_
    refine V (x_assign (by conv => lhs; whnf)) rfl ?_
    refine V (x_assign (by conv => lhs; whnf)) rfl ?_
    refine WL_nil ?_
    refine W_ret ?_
    repeat (with_reducible (first | refine rt ?_ | refine rb ?_ | refine rs ?_ | refine rj ?_))
    exact bodyE_2 rfl rfl rfl ⟨rfl, h3.only, h3.glob hS⟩
end
end Go.Proofs.YtcdhbfhijkdfoaaDoor
