/-
  readRecord: one field that is not quoted.
-/
import Derived.Test.YtcdhbfhijkdfoaaDoorRu
namespace Go.Proofs.YtcdhbfhijkdfoaaDoor
open Go.EC Go.RowKit

/-- The slots of readRecord's frame at the head of a field. -/
structure EF (e : Env) (a pb cl : Nat) (A : Option Addr) (n c : Nat) : Prop where
  e0 : e 0 = .pointer (some ⟨a, 0, none⟩)
  e1 : e 1 = .slice none 0 0
  e6 : e 6 = .slice A n c
  e7 : e 7 = .nilIface
  e8 : e 8 = .nilIface
  e9 : e 9 = .int .i64 (cl : Int)
  e11 : e 11 = .pointer (some ⟨pb, 0, none⟩)
theorem EF.env {e : Env} {a pb cl : Nat} {A : Option Addr} {n c : Nat} (h : EF e a pb cl A n c) : e = upd (upd (upd (upd (upd (upd (upd e 0 (.pointer (some ⟨a, 0, none⟩))) 1 (.slice none 0 0)) 6 (.slice A n c)) 7 .nilIface) 8 .nilIface) 9 (.int .i64 (cl : Int))) 11 (.pointer (some ⟨pb, 0, none⟩)) := by
  simp only [upd_self h.e0, upd_self h.e1, upd_self h.e6, upd_self h.e7, upd_self h.e8, upd_self h.e9, upd_self h.e11]

/-- What stays the same while one record is read. -/
structure Cx where
  Bs : Nat
  a : Nat
  g : Nat
  s : Nat
  x0 : Fld
  w0 : World
  str : ByteArray
  er : Nat → Addr
  cm : Bytes
  N : Nat
  fs : List Bytes
  rest : Bytes
structure Cx.Ok (X : Cx) : Prop where
  start : Start X.Bs X.a X.g X.s X.x0 X.er X.w0
  cm : Cm X.x0.cm X.cm
  tr : X.x0.tr = false
  N : X.N ≤ 2147487744
abbrev Cx.RS (X : Cx) := Go.Proofs.YtcdhbfhijkdfoaaDoor.RS X.Bs X.a X.g X.s X.x0 X.w0 X.str
/-- At the head of a field. -/
def FI (X : Cx) (K : Nat) (e : Env) (w : World) : Prop :=
  ∃ (x : Fld) (r : Nat) (p rb : Bytes) (ix : List Nat) (pb : Nat) (A : Option Addr) (c : Nat) (L : Bytes) (acc : List Bytes), X.RS [pb] w x r p rb ix ix.length A c L ∧ EF e X.a pb X.cm.length A L.length c ∧ LineEnd L p ∧ Fields X.cm X.x0.lz none (L ++ p) acc X.fs X.rest ∧ Gath rb ix acc ∧
    rb.length + (L ++ p).length ≤ X.N ∧ ix.length + (L ++ p).length ≤ X.N ∧ K = (L ++ p).length ∧ (13 : UInt8) ∉ p
/-- Behind the last field. -/
def FM (X : Cx) (e : Env) (w : World) : Prop :=
  ∃ (x : Fld) (r : Nat) (rb : Bytes) (ix : List Nat) (pb : Nat) (A : Option Addr) (c : Nat) (L : Bytes) (A' : Option Addr) (n' c' : Nat), X.RS [pb] w x r X.rest rb ix ix.length A c L ∧ EF e X.a pb X.cm.length A' n' c' ∧ Gath rb ix X.fs ∧ rb.length ≤ X.N ∧ ix.length ≤ X.N + 1
def FQ (X : Cx) (K : Nat) : Exit → Env → World → Prop
  | .exit 3, e, w => ∃ K', K' < K ∧ FI X K' e w
  | .exit 2, e, w => FM X e w
  | _, _, _ => False

theorem idx_no {l : Bytes} {b : UInt8} (h : b ∉ l) : Lib.indexByte l b < 0 := by
  rcases Int.lt_or_le (Lib.indexByte l b) 0 with h1 | h1
  · exact h1
  · obtain ⟨l0, l1, rfl, _, _⟩ := idx_some h1
    exact absurd (by simp) h
section
variable {X : Cx} (hX : X.Ok)
include hX
theorem plain_tail {pb r : Nat} {x : Fld} {w : World} {p rb u L : Bytes} {ix : List Nat} {acc : List Bytes} {A : Option Addr} {c : Nat} {z : Int} {K : Nat} {e : Env}
    (h : X.RS [pb] w x r p rb ix ix.length A c L) (he : EF e X.a pb X.cm.length A L.length c) (e13 : e 13 = .int .i64 z) (e14 : e 14 = .slice A u.length c) (t : Bytes) (hL : L = u ++ t) (hE : LineEnd L p) (hu : (10 : UInt8) ∉ u) (hg : Gath rb ix acc)
    (h13 : (13 : UInt8) ∉ p) (hN1 : rb.length + (L ++ p).length ≤ X.N) (hN2 : ix.length + (L ++ p).length ≤ X.N) (hK : K = (L ++ p).length)
    (hcase : (∃ L', t = X.cm ++ L' ∧ z = (u.length : Int) ∧ Fields X.cm X.x0.lz none (L' ++ p) (acc ++ [u]) X.fs X.rest) ∨ (z = -1 ∧ X.fs = acc ++ [u] ∧ X.rest = p)) :
    W Tryd.prog Tryd.f41.ntmps (sndC (sndC (sndC (sndC (thenC (sndC (sndC (inC (inC (inC (fstC (sndC (sndC (sndC (sndC (sndC (sndC (sndC (sndC (sndC (sndC (sndC (sndC (sndC (scC (sndC (bodyOf Tryd.f41))))))))))))))))))))))))))) (FQ X K) e w := by
  have hcl := hX.cm.len
  have hNN := hX.N
  have hcap := h.line.cap
  have hll : L.length = u.length + t.length := by rw [hL]; simp
  simp only [List.length_append] at hN1 hN2 hK
  rw [he.env, ← upd_self (e := upd (upd (upd (upd (upd (upd (upd e 0 _) 1 _) 6 _) 7 _) 8 _) 9 _) 11 _) (d := 13) e13, ← upd_self (e := upd (upd (upd (upd (upd (upd (upd (upd e 0 _) 1 _) 6 _) 7 _) 8 _) 9 _) 11 _) 13 _) (d := 14) e14]
  have e2 : (rb ++ u).length = rb.length + u.length := List.length_append
  rcases hcase with ⟨L', rfl, rfl, hF⟩ | ⟨rfl, hfs, hrest⟩
  · rw [List.length_append] at hll
    have hdrop : L.drop (u.length + X.cm.length) = L' := by rw [hL, ← List.drop_drop, List.drop_left, List.drop_left]
    conv => arg 3; whnf
    refine W_seq ?_
    refine W_region ?_
    refine V (x_move (by conv => lhs; whnf)) rfl ?_
    refine V (x_move (by conv => lhs; whnf)) rfl ?_
    refine V (x_nilc rfl) rfl ?_
    refine V (x_field0 fa71_11 rfl) rfl ?_
    refine V (x_load ld62 rfl ((h.st.rd.C).cell 11 rfl)) rfl ?_
    refine V (x_move (by conv => lhs; whnf)) rfl ?_
    refine VE (x_append (news := u.map bv) eT5 (by conv => lhs; whnf) (by conv => lhs; whnf) h.st.rcb (by simp) ((h.bytes hL).cells) map_bv_one (by omega) (by unfold maxLen; omega)) rfl ?_
    rintro h38v h38w ⟨h38o, h38p, h38q⟩
    obtain ⟨h38D, h38⟩ := h.appRec (rb' := rb ++ u) rfl (by simpa using h38o) h38p h38q
    refine V (x_nilc rfl) rfl ?_
    refine V (x_field0 fa71_11 rfl) rfl ?_
    refine S (x_store st62 rfl (by conv => lhs; whnf) h38o.one (h38D.cell 11 rfl) (h38D.free 11)) ?_
    refine WL_nil ?_
    refine W_seq ?_
    refine W_draw mixed ?_
    have h39a := h38.drew
    have h39C := h39a.st.rd.C
    obtain ⟨h39A, h39c, h39f, -, -⟩ := h39a.st.rcb.form
    refine D_pure (i := 0) (listed' := #[true, false, false, false, false, false, false, false, false, false, false, false, false, false, false]) (by kernel_rfl) (by kernel_rfl) (by kernel_rfl) rfl (by kernel_rfl) (fun _ => x_move (by conv => lhs; whnf)) rfl ?_
    refine D_pure (i := 1) (listed' := #[true, true, false, false, false, false, false, false, false, false, false, false, false, false, false]) (by kernel_rfl) (by kernel_rfl) (by kernel_rfl) rfl (by kernel_rfl) (fun _ => x_move (by conv => lhs; whnf)) rfl ?_
    refine D_pure (i := 2) (listed' := #[true, true, true, false, false, false, false, false, false, false, false, false, false, false, false]) (by kernel_rfl) (by kernel_rfl) (by kernel_rfl) rfl (by kernel_rfl) (fun _ => x_nilc rfl) rfl ?_
    refine D_pure (i := 3) (listed' := #[true, true, true, true, false, false, false, false, false, false, false, false, false, false, false]) (by kernel_rfl) (by kernel_rfl) (by kernel_rfl) rfl (by kernel_rfl) (fun _ => x_field0 fa71_12 rfl) rfl ?_
    refine D_pure (i := 5) (listed' := #[true, true, true, true, false, true, false, false, false, false, false, false, false, false, false]) (by kernel_rfl) (by kernel_rfl) (by kernel_rfl) rfl (by kernel_rfl) (fun _ => x_move (by conv => lhs; whnf)) rfl ?_
    refine D_pure (i := 6) (listed' := #[true, true, true, true, false, true, true, false, false, false, false, false, false, false, false]) (by kernel_rfl) (by kernel_rfl) (by kernel_rfl) rfl (by kernel_rfl) (fun _ => x_nilc rfl) rfl ?_
    refine D_pure (i := 7) (listed' := #[true, true, true, true, false, true, true, true, false, false, false, false, false, false, false]) (by kernel_rfl) (by kernel_rfl) (by kernel_rfl) rfl (by kernel_rfl) (fun _ => x_field0 fa71_11 rfl) rfl ?_
    refine D_still (i := 8) (listed' := #[true, true, true, true, false, true, true, true, true, false, false, false, false, false, false]) (by kernel_rfl) (by kernel_rfl) (by kernel_rfl) rfl (by kernel_rfl) (fun _ hgw => x_load ld62 rfl (hgw.cell ((h39C).cell 11 rfl))) rfl ?_
    refine D_pure (i := 9) (listed' := #[true, true, true, true, false, true, true, true, true, true, false, false, false, false, false]) (by kernel_rfl) (by kernel_rfl) (by kernel_rfl) rfl (by kernel_rfl) (fun _ => x_len_slice Tryd.underlying62 h39f) rfl ?_
    refine D_still (i := 4) (listed' := #[true, true, true, true, true, true, true, true, true, true, false, false, false, false, false]) (by kernel_rfl) (by kernel_rfl) (by kernel_rfl) rfl (by kernel_rfl) (fun _ hgw => x_load ld38 rfl (hgw.cell ((h39C).cell 12 rfl))) rfl ?_
    refine D_one (i := 10) (listed' := #[true, true, true, true, true, true, true, true, true, true, true, false, false, false, false]) (by kernel_rfl) rfl (by kernel_rfl) (x_bs1 Tryd.underlying38 sz3 zv3 rfl rfl rfl) rfl ?_
    have h39b := h39a.new (Only.alloc (fun _ => False) _ (.cells [Value.int .i64 ((rb ++ u).length : Int)].toArray 3))
    refine D_oneE (i := 11) (listed' := #[true, true, true, true, true, true, true, true, true, true, true, true, false, false, false]) (by kernel_rfl) rfl (by kernel_rfl) (x_append (news := [.int .i64 ((rb ++ u).length : Int)]) eT3 (by conv => lhs; whnf) (by conv => lhs; whnf) h39b.st.idx rfl (Cells.of_blk (Blk.new _ _ _)) int_one (by omega) (by unfold maxLen; omega)) rfl ?_
    rintro h39v h39w ⟨h39o, h39p, h39q⟩
    obtain ⟨h39D, h39⟩ := h39b.appIdx (ix' := ix ++ [(rb ++ u).length]) rfl (by simpa using h39o) h39p h39q
    refine D_pure (i := 12) (listed' := #[true, true, true, true, true, true, true, true, true, true, true, true, true, false, false]) (by kernel_rfl) (by kernel_rfl) (by kernel_rfl) rfl (by kernel_rfl) (fun _ => x_nilc rfl) rfl ?_
    refine D_pure (i := 13) (listed' := #[true, true, true, true, true, true, true, true, true, true, true, true, true, true, false]) (by kernel_rfl) (by kernel_rfl) (by kernel_rfl) rfl (by kernel_rfl) (fun _ => x_field0 fa71_12 rfl) rfl ?_
    refine D_oneS (i := 14) (listed' := #[true, true, true, true, true, true, true, true, true, true, true, true, true, true, true]) (by kernel_rfl) rfl (by kernel_rfl) (x_store st38 rfl (by conv => lhs; whnf) h39o.one (h39D.cell 12 rfl) (h39D.free 12)) ?_
    refine WA_done (by kernel_rfl) ?_
    refine W_seq ?_
    refine W_draw mixed ?_
    have h40a := h39.drew
    have h40C := h40a.st.rd.C
    obtain ⟨⟨h40l, h40n, h40B⟩, -, -⟩ := h40a.pos pb (by simp)
    refine D_pure (i := 0) (listed' := #[true, false, false, false, false, false, false, false, false, false, false]) (by kernel_rfl) (by kernel_rfl) (by kernel_rfl) rfl (by kernel_rfl) (fun _ => x_move (by conv => lhs; whnf)) rfl ?_
    refine D_pure (i := 1) (listed' := #[true, true, false, false, false, false, false, false, false, false, false]) (by kernel_rfl) (by kernel_rfl) (by kernel_rfl) rfl (by kernel_rfl) (fun _ => x_move (by conv => lhs; whnf)) rfl ?_
    refine D_pure (i := 2) (listed' := #[true, true, true, false, false, false, false, false, false, false, false]) (by kernel_rfl) (by kernel_rfl) (by kernel_rfl) rfl (by kernel_rfl) (fun _ => x_nilc rfl) rfl ?_
    refine D_pure (i := 3) (listed' := #[true, true, true, true, false, false, false, false, false, false, false]) (by kernel_rfl) (by kernel_rfl) (by kernel_rfl) rfl (by kernel_rfl) (fun _ => x_field0 fa71_13 rfl) rfl ?_
    refine D_still (i := 4) (listed' := #[true, true, true, true, true, false, false, false, false, false, false]) (by kernel_rfl) (by kernel_rfl) (by kernel_rfl) rfl (by kernel_rfl) (fun _ hgw => x_load ld69 rfl (hgw.cell ((h40C).cell 13 rfl))) rfl ?_
    refine D_one (i := 5) (listed' := #[true, true, true, true, true, true, false, false, false, false, false]) (by kernel_rfl) rfl (by kernel_rfl) (x_loadA Tryd.underlying85 (cs := [.int .i64 h40l, .int .i64 h40n]) sz85 rfl h40B) rfl ?_
    refine D_one (i := 6) (listed' := #[true, true, true, true, true, true, true, false, false, false, false]) (by kernel_rfl) rfl (by kernel_rfl) (x_bsP Tryd.underlying69 sz85 zv85 rfl) rfl ?_
    have h40b := h40a.new (Only.alloc (fun _ => False) _ (.cells [Value.int .i64 h40l, .int .i64 h40n].toArray 85))
    obtain ⟨h40y, h40x⟩ := h40b.st.psn
    refine D_oneE (i := 7) (listed' := #[true, true, true, true, true, true, true, true, false, false, false]) (by kernel_rfl) rfl (by kernel_rfl) (x_append (news := [.int .i64 h40l, .int .i64 h40n]) eT85 (by conv => lhs; whnf) (by conv => lhs; whnf) h40x rfl (Cells.of_blk (Blk.new _ _ _)) pair_one (by omega) (by unfold maxLen; omega)) rfl ?_
    rintro h40v h40w ⟨h40o, h40p, h40q⟩
    obtain ⟨h40D, h40⟩ := h40b.appPsn rfl h40o h40p h40q
    refine D_pure (i := 8) (listed' := #[true, true, true, true, true, true, true, true, true, false, false]) (by kernel_rfl) (by kernel_rfl) (by kernel_rfl) rfl (by kernel_rfl) (fun _ => x_nilc rfl) rfl ?_
    refine D_pure (i := 9) (listed' := #[true, true, true, true, true, true, true, true, true, true, false]) (by kernel_rfl) (by kernel_rfl) (by kernel_rfl) rfl (by kernel_rfl) (fun _ => x_field0 fa71_13 rfl) rfl ?_
    refine D_oneS (i := 10) (listed' := #[true, true, true, true, true, true, true, true, true, true, true]) (by kernel_rfl) rfl (by kernel_rfl) (x_store st69 rfl (by conv => lhs; whnf) h40o.one (h40D.cell 13 rfl) (h40D.free 13)) ?_
    refine WA_done (by kernel_rfl) ?_
    refine W_seq ?_
    refine W_seq ?_
    refine W_region ?_
    refine V (x_move (by conv => lhs; whnf)) rfl ?_
    refine V (x_bin rfl rfl (bt (decide_eq_true (by omega)))) rfl ?_
    refine WL_nil ?_
    refine W_true (rfl) ?_
    refine W_seq ?_
    refine W_region ?_
    refine V (x_move (by conv => lhs; whnf)) rfl ?_
    refine V (x_move (by conv => lhs; whnf)) rfl ?_
    refine V (x_move (by conv => lhs; whnf)) rfl ?_
    refine V (x_bin rfl rfl (ib_addn (m := u.length + X.cm.length) (by omega) (by omega))) rfl ?_
    refine V (x_slice_l Tryd.underlying62 sz5 rfl rfl rfl (by omega)) rfl ?_
    refine V (x_assign (by conv => lhs; whnf)) rfl ?_
    refine WL_nil ?_
    refine W_seq ?_
    refine W_region ?_
    obtain ⟨⟨l, n, hB⟩, -, -⟩ := h40.pos pb (by simp)
    refine V (x_field0 fa85_1 rfl) rfl ?_
    refine V (x_load ld3 rfl ((hB).cell 1 rfl)) rfl ?_
    refine V (x_move (by conv => lhs; whnf)) rfl ?_
    refine V (x_move (by conv => lhs; whnf)) rfl ?_
    refine V (x_bin rfl rfl rfl) rfl ?_
    refine V (x_bin rfl rfl rfl) rfl ?_
    refine V (x_field0 fa85_1 rfl) rfl ?_
    refine S (x_store st3 rfl (by conv => lhs; whnf) rfl (hB.cell 1 rfl) (hB.free 1)) ?_
    refine WL_nil ?_
    refine W_exit ?_
    repeat (first | with_reducible refine xt ?_ | with_reducible refine xb ?_ | with_reducible refine nt ?_ | with_reducible refine nb ?_ | with_reducible refine xn rfl ?_)
    have h7 := (h40.cut (u.length + X.cm.length) (by omega)).setPos (pb := pb) (i := 1) (by simp) (by omega) (IntKind.i64.wrap (n + IntKind.i64.wrap ((u.length : Int) + (X.cm.length : Int))))
    rw [hdrop] at h7
    have hE' : LineEnd L' p := by
      have h8 := hE
      rw [hL, ← List.append_assoc] at h8
      exact h8.drop (by rw [List.mem_append, not_or]; exact ⟨hu, hX.cm.not_mem.1⟩)
    have hlen : L.length - (u.length + X.cm.length) = L'.length := by omega
    rw [show ix.length + 1 = (ix ++ [(rb ++ u).length]).length by simp] at h7
    exact ⟨(L' ++ p).length, by simp; omega, _, r, p, rb ++ u, ix ++ [(rb ++ u).length], pb, _, _, L', acc ++ [u], h7, ⟨rfl, rfl, by rw [← hlen]; rfl, rfl, rfl, rfl, rfl⟩, hE', hF, hg.snoc, by simp; omega, by simp; omega, rfl, h13⟩
  · conv => arg 3; whnf
    refine W_seq ?_
    refine W_region ?_
    refine V (x_move (by conv => lhs; whnf)) rfl ?_
    refine V (x_move (by conv => lhs; whnf)) rfl ?_
    refine V (x_nilc rfl) rfl ?_
    refine V (x_field0 fa71_11 rfl) rfl ?_
    refine V (x_load ld62 rfl ((h.st.rd.C).cell 11 rfl)) rfl ?_
    refine V (x_move (by conv => lhs; whnf)) rfl ?_
    refine VE (x_append (news := u.map bv) eT5 (by conv => lhs; whnf) (by conv => lhs; whnf) h.st.rcb (by simp) ((h.bytes hL).cells) map_bv_one (by omega) (by unfold maxLen; omega)) rfl ?_
    rintro h38v h38w ⟨h38o, h38p, h38q⟩
    obtain ⟨h38D, h38⟩ := h.appRec (rb' := rb ++ u) rfl (by simpa using h38o) h38p h38q
    refine V (x_nilc rfl) rfl ?_
    refine V (x_field0 fa71_11 rfl) rfl ?_
    refine S (x_store st62 rfl (by conv => lhs; whnf) h38o.one (h38D.cell 11 rfl) (h38D.free 11)) ?_
    refine WL_nil ?_
    refine W_seq ?_
    refine W_draw mixed ?_
    have h39a := h38.drew
    have h39C := h39a.st.rd.C
    obtain ⟨h39A, h39c, h39f, -, -⟩ := h39a.st.rcb.form
    refine D_pure (i := 0) (listed' := #[true, false, false, false, false, false, false, false, false, false, false, false, false, false, false]) (by kernel_rfl) (by kernel_rfl) (by kernel_rfl) rfl (by kernel_rfl) (fun _ => x_move (by conv => lhs; whnf)) rfl ?_
    refine D_pure (i := 1) (listed' := #[true, true, false, false, false, false, false, false, false, false, false, false, false, false, false]) (by kernel_rfl) (by kernel_rfl) (by kernel_rfl) rfl (by kernel_rfl) (fun _ => x_move (by conv => lhs; whnf)) rfl ?_
    refine D_pure (i := 2) (listed' := #[true, true, true, false, false, false, false, false, false, false, false, false, false, false, false]) (by kernel_rfl) (by kernel_rfl) (by kernel_rfl) rfl (by kernel_rfl) (fun _ => x_nilc rfl) rfl ?_
    refine D_pure (i := 3) (listed' := #[true, true, true, true, false, false, false, false, false, false, false, false, false, false, false]) (by kernel_rfl) (by kernel_rfl) (by kernel_rfl) rfl (by kernel_rfl) (fun _ => x_field0 fa71_12 rfl) rfl ?_
    refine D_pure (i := 5) (listed' := #[true, true, true, true, false, true, false, false, false, false, false, false, false, false, false]) (by kernel_rfl) (by kernel_rfl) (by kernel_rfl) rfl (by kernel_rfl) (fun _ => x_move (by conv => lhs; whnf)) rfl ?_
    refine D_pure (i := 6) (listed' := #[true, true, true, true, false, true, true, false, false, false, false, false, false, false, false]) (by kernel_rfl) (by kernel_rfl) (by kernel_rfl) rfl (by kernel_rfl) (fun _ => x_nilc rfl) rfl ?_
    refine D_pure (i := 7) (listed' := #[true, true, true, true, false, true, true, true, false, false, false, false, false, false, false]) (by kernel_rfl) (by kernel_rfl) (by kernel_rfl) rfl (by kernel_rfl) (fun _ => x_field0 fa71_11 rfl) rfl ?_
    refine D_still (i := 8) (listed' := #[true, true, true, true, false, true, true, true, true, false, false, false, false, false, false]) (by kernel_rfl) (by kernel_rfl) (by kernel_rfl) rfl (by kernel_rfl) (fun _ hgw => x_load ld62 rfl (hgw.cell ((h39C).cell 11 rfl))) rfl ?_
    refine D_pure (i := 9) (listed' := #[true, true, true, true, false, true, true, true, true, true, false, false, false, false, false]) (by kernel_rfl) (by kernel_rfl) (by kernel_rfl) rfl (by kernel_rfl) (fun _ => x_len_slice Tryd.underlying62 h39f) rfl ?_
    refine D_still (i := 4) (listed' := #[true, true, true, true, true, true, true, true, true, true, false, false, false, false, false]) (by kernel_rfl) (by kernel_rfl) (by kernel_rfl) rfl (by kernel_rfl) (fun _ hgw => x_load ld38 rfl (hgw.cell ((h39C).cell 12 rfl))) rfl ?_
    refine D_one (i := 10) (listed' := #[true, true, true, true, true, true, true, true, true, true, true, false, false, false, false]) (by kernel_rfl) rfl (by kernel_rfl) (x_bs1 Tryd.underlying38 sz3 zv3 rfl rfl rfl) rfl ?_
    have h39b := h39a.new (Only.alloc (fun _ => False) _ (.cells [Value.int .i64 ((rb ++ u).length : Int)].toArray 3))
    refine D_oneE (i := 11) (listed' := #[true, true, true, true, true, true, true, true, true, true, true, true, false, false, false]) (by kernel_rfl) rfl (by kernel_rfl) (x_append (news := [.int .i64 ((rb ++ u).length : Int)]) eT3 (by conv => lhs; whnf) (by conv => lhs; whnf) h39b.st.idx rfl (Cells.of_blk (Blk.new _ _ _)) int_one (by omega) (by unfold maxLen; omega)) rfl ?_
    rintro h39v h39w ⟨h39o, h39p, h39q⟩
    obtain ⟨h39D, h39⟩ := h39b.appIdx (ix' := ix ++ [(rb ++ u).length]) rfl (by simpa using h39o) h39p h39q
    refine D_pure (i := 12) (listed' := #[true, true, true, true, true, true, true, true, true, true, true, true, true, false, false]) (by kernel_rfl) (by kernel_rfl) (by kernel_rfl) rfl (by kernel_rfl) (fun _ => x_nilc rfl) rfl ?_
    refine D_pure (i := 13) (listed' := #[true, true, true, true, true, true, true, true, true, true, true, true, true, true, false]) (by kernel_rfl) (by kernel_rfl) (by kernel_rfl) rfl (by kernel_rfl) (fun _ => x_field0 fa71_12 rfl) rfl ?_
    refine D_oneS (i := 14) (listed' := #[true, true, true, true, true, true, true, true, true, true, true, true, true, true, true]) (by kernel_rfl) rfl (by kernel_rfl) (x_store st38 rfl (by conv => lhs; whnf) h39o.one (h39D.cell 12 rfl) (h39D.free 12)) ?_
    refine WA_done (by kernel_rfl) ?_
    refine W_seq ?_
    refine W_draw mixed ?_
    have h40a := h39.drew
    have h40C := h40a.st.rd.C
    obtain ⟨⟨h40l, h40n, h40B⟩, -, -⟩ := h40a.pos pb (by simp)
    refine D_pure (i := 0) (listed' := #[true, false, false, false, false, false, false, false, false, false, false]) (by kernel_rfl) (by kernel_rfl) (by kernel_rfl) rfl (by kernel_rfl) (fun _ => x_move (by conv => lhs; whnf)) rfl ?_
    refine D_pure (i := 1) (listed' := #[true, true, false, false, false, false, false, false, false, false, false]) (by kernel_rfl) (by kernel_rfl) (by kernel_rfl) rfl (by kernel_rfl) (fun _ => x_move (by conv => lhs; whnf)) rfl ?_
    refine D_pure (i := 2) (listed' := #[true, true, true, false, false, false, false, false, false, false, false]) (by kernel_rfl) (by kernel_rfl) (by kernel_rfl) rfl (by kernel_rfl) (fun _ => x_nilc rfl) rfl ?_
    refine D_pure (i := 3) (listed' := #[true, true, true, true, false, false, false, false, false, false, false]) (by kernel_rfl) (by kernel_rfl) (by kernel_rfl) rfl (by kernel_rfl) (fun _ => x_field0 fa71_13 rfl) rfl ?_
    refine D_still (i := 4) (listed' := #[true, true, true, true, true, false, false, false, false, false, false]) (by kernel_rfl) (by kernel_rfl) (by kernel_rfl) rfl (by kernel_rfl) (fun _ hgw => x_load ld69 rfl (hgw.cell ((h40C).cell 13 rfl))) rfl ?_
    refine D_one (i := 5) (listed' := #[true, true, true, true, true, true, false, false, false, false, false]) (by kernel_rfl) rfl (by kernel_rfl) (x_loadA Tryd.underlying85 (cs := [.int .i64 h40l, .int .i64 h40n]) sz85 rfl h40B) rfl ?_
    refine D_one (i := 6) (listed' := #[true, true, true, true, true, true, true, false, false, false, false]) (by kernel_rfl) rfl (by kernel_rfl) (x_bsP Tryd.underlying69 sz85 zv85 rfl) rfl ?_
    have h40b := h40a.new (Only.alloc (fun _ => False) _ (.cells [Value.int .i64 h40l, .int .i64 h40n].toArray 85))
    obtain ⟨h40y, h40x⟩ := h40b.st.psn
    refine D_oneE (i := 7) (listed' := #[true, true, true, true, true, true, true, true, false, false, false]) (by kernel_rfl) rfl (by kernel_rfl) (x_append (news := [.int .i64 h40l, .int .i64 h40n]) eT85 (by conv => lhs; whnf) (by conv => lhs; whnf) h40x rfl (Cells.of_blk (Blk.new _ _ _)) pair_one (by omega) (by unfold maxLen; omega)) rfl ?_
    rintro h40v h40w ⟨h40o, h40p, h40q⟩
    obtain ⟨h40D, h40⟩ := h40b.appPsn rfl h40o h40p h40q
    refine D_pure (i := 8) (listed' := #[true, true, true, true, true, true, true, true, true, false, false]) (by kernel_rfl) (by kernel_rfl) (by kernel_rfl) rfl (by kernel_rfl) (fun _ => x_nilc rfl) rfl ?_
    refine D_pure (i := 9) (listed' := #[true, true, true, true, true, true, true, true, true, true, false]) (by kernel_rfl) (by kernel_rfl) (by kernel_rfl) rfl (by kernel_rfl) (fun _ => x_field0 fa71_13 rfl) rfl ?_
    refine D_oneS (i := 10) (listed' := #[true, true, true, true, true, true, true, true, true, true, true]) (by kernel_rfl) rfl (by kernel_rfl) (x_store st69 rfl (by conv => lhs; whnf) h40o.one (h40D.cell 13 rfl) (h40D.free 13)) ?_
    refine WA_done (by kernel_rfl) ?_
    refine W_seq ?_
    refine W_seq ?_
    refine W_region ?_
    refine V (x_move (by conv => lhs; whnf)) rfl ?_
    refine V (x_bin rfl rfl (bf (decide_eq_false (by omega)))) rfl ?_
    refine WL_nil ?_
    refine W_false (rfl) ?_
    refine W_skip ?_
    refine W_exit ?_
    repeat (first | with_reducible refine xt ?_ | with_reducible refine xb ?_ | with_reducible refine nt ?_ | with_reducible refine nb ?_ | with_reducible refine xn rfl ?_)
    rw [show ix.length + 1 = (ix ++ [(rb ++ u).length]).length by simp, ← hrest] at h40
    exact ⟨_, r, rb ++ u, ix ++ [(rb ++ u).length], pb, _, _, L, _, _, _, h40, ⟨rfl, rfl, rfl, rfl, rfl, rfl, rfl⟩, by rw [hfs]; exact hg.snoc, by simp; omega, by simp; omega⟩
end
end Go.Proofs.YtcdhbfhijkdfoaaDoor
