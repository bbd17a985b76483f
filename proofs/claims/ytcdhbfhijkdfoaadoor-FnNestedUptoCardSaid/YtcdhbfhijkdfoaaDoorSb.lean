/-
  ReadAll: all records of a text.
-/
import Derived.Test.YtcdhbfhijkdfoaaDoorSa
import Derived.Test.YtcdhbfhijkdfoaaDoorGd
namespace Go.Proofs.YtcdhbfhijkdfoaaDoor
open Go.EC Go.RowKit

/-- A text and its records (ct: the comment character, 0 for none). -/
inductive Tab (cm : Bytes) (lz : Bool) (ct : Int) : Bytes → List (List Bytes) → Prop
  | nil : Tab cm lz ct [] []
  | cons {s fs rest tbl} : s ≠ [] → s.head? ≠ some 10 → (13 : UInt8) ∉ s → (ct ≠ 0 → s.head? = some 34 ∨ ∃ v, s = cm ++ v) → Fields cm lz none s [] fs rest → Tab cm lz ct rest tbl → Tab cm lz ct s (fs :: tbl)
/-- A table in memory. -/
structure TabV (w : World) (v : Value) (rows : List Value) (tbl : List (List Bytes)) : Prop where
  own : Own w 30 1 v tbl.length rows
  row : ∀ (j : Nat) (u : Value) (fs : List Bytes), rows[j]? = some u → tbl[j]? = some fs → Own w 9 1 u fs.length (fs.map strV)
theorem TabV.nil (w : World) : TabV w (.slice none 0 0) [] [] := ⟨Own.nil _ _ _, fun j u fs h => by simp at h⟩
theorem TabV.only {w w' : World} {v : Value} {rows : List Value} {tbl : List (List Bytes)} {S : Nat → Prop} (h : TabV w v rows tbl) (ho : Only S w w') (hS : ∀ k t cs, S k → Blk w k t cs → t ≠ 30 ∧ t ≠ 9) : TabV w' v rows tbl := by
  refine ⟨h.own.only ho fun k hk hs => ?_, fun j u fs h1 h2 => (h.row j u fs h1 h2).only ho fun k hk hs => ?_⟩
  · obtain ⟨_, cur, _, hb, _⟩ := h.own.blk hk
    exact (hS k _ _ hs hb).1 rfl
  · obtain ⟨_, cur, _, hb, _⟩ := (h.row j u fs h1 h2).blk hk
    exact (hS k _ _ hs hb).2 rfl
theorem TabV.new {w w' : World} {v : Value} {rows : List Value} {tbl : List (List Bytes)} (h : TabV w v rows tbl) (ho : Only (fun _ => False) w w') : TabV w' v rows tbl := h.only ho fun _ _ _ hs => hs.elim
section
variable {Bs a g s : Nat} {x0 : Fld} {w0 : World} {str : ByteArray} {P : List Nat} {w w' : World} {x : Fld} {r : Nat} {p rb : Bytes} {ix : List Nat} {np : Nat} {A : Option Addr} {c : Nat} {L : Bytes} {er : Nat → Addr} {S : Nat → Prop}
theorem RS.self (h : RS Bs a g s x0 w0 str P w x r p rb ix np A c L) : RS Bs a g s x w str [] w x r p rb ix np none 0 [] :=
  ⟨h.st, ⟨by simp, fun hh => absurd rfl hh⟩, by simp, Only.refl _ _, fun k hk => .inl hk, ⟨rfl, rfl, rfl, rfl, rfl, rfl⟩⟩
theorem RS.start (h : RS Bs a g s x0 w0 str P w x r p rb ix np A c L) (hs : Start Bs a g s x0 er w0) : Start Bs a g s x er w :=
  ⟨fun _ hk => h.st.bs hk, Nat.le_trans hs.size h.only.size, hs.errs, h.glob hs, h.tabs hs⟩
theorem RS.self_other (h : RS Bs a g s x w str [] w x r p rb ix np none 0 []) (ho : Only S w w') (hS : ∀ k, Blks a g s x k → ¬ S k) : RS Bs a g s x w' str [] w' x r p rb ix np none 0 [] :=
  ⟨h.st.only ho hS, ⟨by simp, fun hh => absurd rfl hh⟩, by simp, Only.refl _ _, fun k hk => .inl hk, ⟨rfl, rfl, rfl, rfl, rfl, rfl⟩⟩
/-- The reader's blocks are of other types than tables. -/
theorem RS.types (h : RS Bs a g s x0 w0 str P w x r p rb ix np A c L) {k : Nat} {t : TypeId} {cs : List Value} (hk : Blks a g s x k) (hb : Blk w k t cs) : t ≠ 30 ∧ t ≠ 9 := by
  obtain ⟨⟨_, hB⟩, ⟨_, hG⟩, ⟨_, hSs⟩, _, _⟩ := h.st.rd.src.lts
  obtain ⟨m, xs, hraw⟩ := h.st.rd.raw
  obtain ⟨ys, hpsn⟩ := h.st.psn
  have same : ∀ {t' : TypeId} {cs' : List Value}, Blk w k t' cs' → t = t' := fun {t'} {cs'} h2 => by
    unfold Blk at hb h2
    rw [hb] at h2
    injection h2 with h2
    injection h2
  rcases hk with rfl | rfl | rfl | rfl | e | e | e | e
  · rw [same h.st.rd.C]; decide
  · rw [same hB]; decide
  · rw [same hG]; decide
  · rw [same hSs]; decide
  · obtain ⟨_, _, _, hb', _⟩ := hraw.blk e; rw [same hb']; decide
  · obtain ⟨_, _, _, hb', _⟩ := h.st.rcb.blk e; rw [same hb']; decide
  · obtain ⟨_, _, _, hb', _⟩ := h.st.idx.blk e; rw [same hb']; decide
  · obtain ⟨_, _, _, hb', _⟩ := hpsn.blk e; rw [same hb']; decide
end
/-- Between two records. -/
def AI (Bs a g s : Nat) (x0 : Fld) (er : Nat → Addr) (w0 : World) (str : ByteArray) (cm : Bytes) (tbl : List (List Bytes)) (K : Nat) (e : Env) (w : World) : Prop :=
  ∃ (x : Fld) (r np : Nat) (p rb : Bytes) (ix : List Nat) (recs : Value) (rows : List Value) (done todo : List (List Bytes)), tbl = done ++ todo ∧ K = todo.length ∧ RS Bs a g s x w str [] w x r p rb ix np none 0 [] ∧ Start Bs a g s x er w ∧ Tab cm x0.lz x0.ct p todo ∧ TabV w recs rows done ∧
    (x.cm = x0.cm ∧ x.ct = x0.ct ∧ x.fpr = x0.fpr ∧ x.lz = x0.lz ∧ x.tr = x0.tr ∧ x.re = x0.re) ∧ Only (Blks a g s x0) w0 w ∧ (∀ k, Blks a g s x k → Blks a g s x0 k ∨ w0.heap.size ≤ k) ∧ (∀ k, recs.ownBlock = some k → w0.heap.size ≤ k) ∧ e 0 = .pointer (some ⟨a, 0, none⟩) ∧ e 2 = recs
def AllOk (a g s : Nat) (x0 : Fld) (er : Nat → Addr) (w0 : World) (tbl : List (List Bytes)) : Value → World → Prop := fun v w' => ∃ vs rows, v = .tuple #[vs, .nilIface] ∧ TabV w' vs rows tbl ∧ Only (Blks a g s x0) w0 w' ∧ Glob w' er
theorem ReadAll_ok {Bs a g s : Nat} {x0 : Fld} {er : Nat → Addr} {w0 : World} {str : ByteArray} {cm : Bytes} {tbl : List (List Bytes)} {r np : Nat} {p rb : Bytes} {ix : List Nat} (h0 : RS Bs a g s x0 w0 str [] w0 x0 r p rb ix np none 0 []) (hs0 : Start Bs a g s x0 er w0) (hcm : Cm x0.cm cm) (htr : x0.tr = false)
    (hct : x0.ct = 0 ∨ delimR x0.ct = true) (hne : x0.cm ≠ x0.ct) (hfpr : x0.fpr = -1) (hT : Tab cm x0.lz x0.ct p tbl) (hN : tbl.length ≤ 2147487744) :
    Ret Tryd.prog 35 #[.pointer (some ⟨a, 0, none⟩)] w0 (AllOk a g s x0 er w0 tbl) := by
  refine ret_of_W Tryd.func35 rfl (Nat.le_of_ble_eq_true rfl) ?_
  conv => arg 3; whnf
  refine W_seq ?_
  refine W_region ?_
  refine V (x_assign (by conv => lhs; whnf)) rfl ?_
  refine V (x_assign (by conv => lhs; whnf)) rfl ?_
  refine WL_nil ?_
  refine W_block ?_
  refine W_loop (AI Bs a g s x0 er w0 str cm tbl) (k0 := tbl.length) ⟨x0, r, np, p, rb, ix, .slice none 0 0, [], [], tbl, rfl, rfl, h0, hs0, hT, TabV.nil _, ⟨rfl, rfl, rfl, rfl, rfl, rfl⟩, Only.refl _ _, fun k hk => .inl hk, (fun k hk => by cases hk), rfl, rfl⟩ ?_
  have hBs0 := hs0.size
  clear h0 hs0 hT
  rintro K e w ⟨x, r, np, p, rb, ix, recs, rows, done, todo, htbl, rfl, h, hs, hT, hV, ⟨f1, f2, f3, f4, f5, f6⟩, hO, hB, hR, e0, e2⟩
  have eE : e = upd (upd e 0 (.pointer (some ⟨a, 0, none⟩))) 2 recs := by simp only [upd_self e0, upd_self e2]
  rw [eE]
  cases hT with
  | nil =>
    have hX : (Cx.mk Bs a g s x w str er cm 0 [] []).Ok := ⟨hs, by rw [f1]; exact hcm, by rw [f5]; exact htr, Nat.zero_le _⟩
    refine W_block ?_
    refine W_seq ?_
    refine W_region ?_
    refine V (x_move (by conv => lhs; whnf)) rfl ?_
    refine C (x_call2 cf41 (by conv => lhs; whnf) (by conv => lhs; whnf)) rfl ?_
    refine (readRecord_eof hX (by rw [f2]; exact hct) (by rw [f1, f2]; exact hne) h).mono fun v w1 h1 => ?_
    obtain ⟨rfl, ho, hG⟩ := h1
    have hG0 := hG.cell 0 (by omega)
    refine V (x_move (by conv => lhs; whnf)) rfl ?_
    refine V (x_extract rfl rfl) rfl ?_
    refine V (x_extract rfl rfl) rfl ?_
    refine V (x_assign (by conv => lhs; whnf)) rfl ?_
    refine V (x_assign (by conv => lhs; whnf)) rfl ?_
    refine WL_nil ?_
    refine W_seq ?_
    refine W_seq ?_
    refine W_region ?_
    refine V (x_move (by conv => lhs; whnf)) rfl ?_
    refine V (x_load ld55 rfl hG0) rfl ?_
    refine V (x_eql_same Tryd.underlying55 ptrE rfl rfl) rfl ?_
    refine WL_nil ?_
    refine W_true (rfl) ?_
    refine W_seq ?_
    refine W_region ?_
    refine V (x_move (by conv => lhs; whnf)) rfl ?_
    refine V (x_assign (by conv => lhs; whnf)) rfl ?_
    refine V (x_assign (by conv => lhs; whnf)) rfl ?_
    refine WL_nil ?_
    refine W_ret ?_
    repeat (with_reducible (first | refine rt ?_ | refine rb ?_))
    rw [List.append_nil] at htbl
    refine bodyE_2 rfl rfl rfl ⟨recs, rows, rfl, ?_, hO.then_ ho fun i hi hk => ?_, hG⟩
    · rw [htbl]
      exact hV.only ho fun k t cs hk hb => h.types hk hb
    · rcases hB i hk with h2 | h2
      · exact h2
      · omega
  | cons hp hnl h13 hcmt hF hT2 =>
    rename_i fs rest todo
    have hX : (Cx.mk Bs a g s x w str er cm p.length fs rest).Ok := ⟨hs, by rw [f1]; exact hcm, by rw [f5]; exact htr, h.len⟩
    have hlen : done.length + (todo.length + 1) = tbl.length := by rw [htbl]; simp
    refine W_block ?_
    refine W_seq ?_
    refine W_region ?_
    refine V (x_move (by conv => lhs; whnf)) rfl ?_
    refine C (x_call2 cf41 (by conv => lhs; whnf) (by conv => lhs; whnf)) rfl ?_
    refine (readRecord_ok hX (by rw [f2]; exact hct) (by rw [f1, f2]; exact hne) (by rw [f3]; exact hfpr) h rfl h13 hp hnl (by rw [f2]; exact hcmt) (by rw [f4]; exact hF)).mono fun v w1 h1 => ?_
    obtain ⟨vs, x', r', rb', ix', rfl, hvs, h1, hnew⟩ := h1
    have hG0 := (h1.glob hs).cell 0 (by omega)
    have hV1 := hV.only h1.only (fun k t cs hk hb => h.types hk hb)
    have hs1 := h1.start hs
    have h2 := h1.self
    have hone := hvs.one
    refine V (x_move (by conv => lhs; whnf)) rfl ?_
    refine V (x_extract rfl rfl) rfl ?_
    refine V (x_extract rfl rfl) rfl ?_
    refine V (x_assign (by conv => lhs; whnf)) rfl ?_
    refine V (x_assign (by conv => lhs; whnf)) rfl ?_
    refine WL_nil ?_
    refine W_seq ?_
    refine W_seq ?_
    refine W_region ?_
    refine V (x_move (by conv => lhs; whnf)) rfl ?_
    refine V (x_load ld55 rfl hG0) rfl ?_
    refine V (x_eql_nil_held Tryd.underlying55 rfl rfl) rfl ?_
    refine WL_nil ?_
    refine W_false (rfl) ?_
    refine W_skip ?_
    refine W_seq ?_
    refine W_seq ?_
    refine W_region ?_
    refine V (x_move (by conv => lhs; whnf)) rfl ?_
    refine V (x_neq_nil_nil Tryd.underlying55 rfl) rfl ?_
    refine WL_nil ?_
    refine W_false (rfl) ?_
    refine W_skip ?_
    refine W_region ?_
    refine V (x_move (by conv => lhs; whnf)) rfl ?_
    refine V (x_move (by conv => lhs; whnf)) rfl ?_
    refine V (x_bs1 Tryd.underlying27 sz30 zv30 rfl (by conv => lhs; whnf) hone) rfl ?_
    have hAl : Only (fun _ => False) w1 (w1.alloc (.cells [vs].toArray 30)) := Only.alloc _ _ _
    refine VE (x_append (news := [vs]) eT30 (by conv => lhs; whnf) (by conv => lhs; whnf) (hV1.new hAl).own rfl (Cells.of_blk (Blk.new _ _ _)) (by intro u hu; rw [List.mem_singleton] at hu; subst hu; exact hone) (by omega) (by unfold maxLen; omega)) rfl ?_
    rintro recs' w3 ⟨hown, ho3, hat⟩
    refine V (x_assign (by conv => lhs; whnf)) rfl ?_
    refine WL_nil ?_
    repeat (first | with_reducible refine xt ?_ | with_reducible refine xb ?_ | with_reducible refine nt ?_ | with_reducible refine nb ?_ | with_reducible refine xn rfl ?_)
    have hV2 := hV1.new hAl
    have hvs2 := hvs.only hAl (fun _ _ => id)
    have nrow : ∀ k, recs.ownBlock = some k → ∀ {n : Nat} {v : Value} {xs : List Value}, Own (w1.alloc (.cells [vs].toArray 30)) 9 1 v n xs → v.ownBlock ≠ some k := fun k hk n v xs ho => hV2.own.no2 ho (by decide) hk
    have hb3 : ∀ k, Blks a g s x' k → ¬ recs.ownBlock = some k := fun k hk hr => by
      obtain ⟨_, cur, _, hb, _⟩ := hV1.own.blk hr
      exact (h1.types hk hb).1 rfl
    have hall : Only (fun k => recs.ownBlock = some k) w1 w3 := (hAl.mono fun _ _ hh => hh.elim).trans ho3
    have h3 := h2.self_other hall hb3
    have hO1 : Only (Blks a g s x0) w0 w1 := hO.then_ h1.only fun i hi hk => by
      rcases hB i hk with h4 | h4
      · exact h4
      · omega
    have hsz01 : w0.heap.size ≤ w1.heap.size := hO1.size
    have hBx : ∀ k, Blks a g s x' k → Blks a g s x0 k ∨ w0.heap.size ≤ k := fun k hk => by
      rcases h1.blk k hk with h4 | h4
      · exact hB k h4
      · exact .inr (Nat.le_trans hO.size h4)
    have hs3 : Start Bs a g s x' er w3 := by
      have hbel : Below Bs w1 w3 := by
        refine hall.below (fun k hk => ?_) hs1.size
        have h4 := hR k hk
        omega
      exact ⟨hs1.lo, Nat.le_trans hs1.size hall.size, hs1.errs, hs1.glob.below hbel hs1.errs.1 hs1.errs.2, tabs_below hs1.tabs hbel hs1.errs.1⟩
    refine ⟨todo.length, by simp, x', r', _, rest, rb', ix', recs', rows ++ [vs], done ++ [fs], todo, by rw [htbl]; simp, rfl, h3, hs3, hT2, ⟨?_, ?_⟩, ?_, hO1.then_ hall fun i hi hk => ?_, hBx, fun k hk => ?_, rfl, rfl⟩
    · rw [List.length_append]
      exact hown
    · intro j u fs' hj hf
      rcases Nat.lt_trichotomy j rows.length with h4 | h4 | h4
      · have hrl := hV.own.len
        rw [List.getElem?_append_left h4] at hj
        rw [List.getElem?_append_left (by rw [Nat.mul_one] at hrl; omega)] at hf
        exact (hV2.row j u fs' hj hf).only ho3 fun k hk hr => nrow k hr (hV2.row j u fs' hj hf) hk
      · have hrl := hV.own.len
        rw [Nat.mul_one] at hrl
        subst h4
        simp at hj
        rw [hrl] at hf
        simp at hf
        subst hj hf
        exact hvs2.only ho3 fun k hk hr => nrow k hr hvs2 hk
      · rw [List.getElem?_eq_none (by simp; omega)] at hj
        cases hj
    · have := h1.fld
      exact ⟨this.1.trans f1, this.2.1.trans f2, this.2.2.1.trans f3, this.2.2.2.1.trans f4, this.2.2.2.2.1.trans f5, this.2.2.2.2.2.trans f6⟩
    · have := hR i hk
      omega
    · rcases hat with h4 | h4
      · exact hR k (by rw [← h4]; exact hk)
      · rw [h4] at hk
        injection hk with hk
        have : (w1.alloc (.cells [vs].toArray 30)).heap.size = w1.heap.size + 1 := by simp
        omega
end Go.Proofs.YtcdhbfhijkdfoaaDoor
