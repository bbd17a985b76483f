/-
  FnEmptyRow: a row of delimiters alone.
-/
import Derived.Test.YtcdhbfhijkdfoaaDoorSd
namespace Go.Proofs.YtcdhbfhijkdfoaaDoor
open Go.EC Go.RowKit
theorem Cm.no13 {r : Int} {cm : Bytes} (h : Cm r cm) : (13 : UInt8) ∉ cm := by
  obtain ⟨h0, hv, _, _, h13, _, _⟩ := h.valid
  have key : ∀ b ∈ cm, b.toNat ≠ 13 := by
    rw [h.enc]
    by_cases h1 : r < 128
    · rw [encR_1 h0 h1]
      intro b hb
      rw [List.mem_singleton] at hb
      subst hb
      rw [toN (by omega)]
      omega
    · obtain ⟨m, rfl, ⟨hm, he⟩ | ⟨hm, hm2, hs, he⟩ | ⟨hm, hm2, he⟩⟩ := encR_multi (by omega) hv <;> rw [he] <;> intro b hb <;> simp only [List.mem_cons, List.mem_nil_iff, or_false] at hb
      · rcases hb with rfl | rfl <;> rw [toN (by omega)] <;> omega
      · rcases hb with rfl | rfl | rfl <;> rw [toN (by omega)] <;> omega
      · rcases hb with rfl | rfl | rfl | rfl <;> rw [toN (by omega)] <;> omega
  exact fun hh => key _ hh rfl
theorem Cm.ne {r : Int} {cm : Bytes} (h : Cm r cm) : cm ≠ [] := by
  have := h.len
  rintro rfl
  simp at this
/-- So many delimiters. -/
def cms (cm : Bytes) (n : Nat) : Bytes := (List.replicate n cm).flatten
theorem cms_succ (cm : Bytes) (n : Nat) : cms cm (n + 1) = cm ++ cms cm n := by unfold cms; rw [List.replicate_succ]; rfl
theorem cms_snoc (cm : Bytes) (n : Nat) : cms cm n ++ cm = cms cm (n + 1) := by
  unfold cms
  rw [List.replicate_succ']
  simp
theorem cms_len (cm : Bytes) (n : Nat) : (cms cm n).length = n * cm.length := by unfold cms; simp
theorem firstCm_nil (cm : Bytes) : FirstCm cm [] := fun i h1 h2 => by simp at h2; omega
theorem noCm_nil {r : Int} {cm : Bytes} (h : Cm r cm) : NoCm cm [] := fun i _ hh => by
  rw [last_get h.ne] at hh
  simp at hh
theorem fields_cms {r : Int} {cm : Bytes} (h : Cm r cm) (lz : Bool) : ∀ (n : Nat) (acc : List Bytes), Fields cm lz none (cms cm n) acc (acc ++ List.replicate (n + 1) []) []
  | 0, acc => Fields.plainEnd (u := []) (v := []) (by simp) (by simp) (noCm_nil h) (.inl rfl)
  | n + 1, acc => by
    rw [cms_succ]
    have := fields_cms h lz n (acc ++ [[]])
    rw [List.append_assoc] at this
    rw [List.replicate_succ]
    exact Fields.plain (u := []) (by simp) (by simp) (firstCm_nil cm) this
theorem not_mem_cms {cm : Bytes} {b : UInt8} (h : b ∉ cm) (n : Nat) : b ∉ cms cm n := by
  unfold cms
  simp only [List.mem_flatten, not_exists, not_and]
  intro l hl
  rw [List.eq_of_mem_replicate hl]
  exact h
theorem tab_cms {r : Int} {cm : Bytes} (h : Cm r cm) (lz : Bool) (ct : Int) (n : Nat) : Tab cm lz ct (cms cm (n + 1)) [List.replicate (n + 2) []] := by
  have h1 := fields_cms h lz (n + 1) []
  refine Tab.cons ?_ ?_ (not_mem_cms h.no13 _) (fun _ => .inr ⟨cms cm n, cms_succ cm n⟩) h1 Tab.nil
  · rw [cms_succ]
    simp [h.ne]
  · intro hh
    exact not_mem_cms h.not_mem.1 (n + 1) (List.mem_of_mem_head? (by rw [hh]; rfl))
/-- Sums of strings. -/
theorem sv_add (l m : Bytes) : Value.string ((⟨l.toArray⟩ : ByteArray) ++ ⟨m.toArray⟩) = strV (l ++ m) := by
  unfold strV
  congr 1
theorem x_sv_add {P : Program} {e : Env} {w : World} {d : Option Nat} {ty : TypeId} {pos : String} {af : Array Edge} {g : Option (Nat × Bool)} {t t' : TypeId} {x y : Operand} {l m : Bytes} (hx : ev e x = strV l) (hy : ev e y = strV m) (h : l.length + m.length ≤ 9223372036854775807) :
    (execOp (ev e) ⟨d, .binOp .add t x y t', ty, pos, af, g⟩).run P w = .ok (.value (strV (l ++ m))) w := by
  rw [x_str_add (a := ⟨l.toArray⟩) (b := ⟨m.toArray⟩) hx hy (by simpa [ByteArray.size] using h), sv_add]
theorem implReadAll_sv (l : Bytes) (o : Opt) (er : Nat → Addr) (w : World) (tbl : List (List Bytes)) (hG : Glob w er) (hU : Lib.Utf8Tabs 10 11 w) (hgood : o.good = true) (htr : o.tr = false) (hex : o.ex = -1) (hT : Tab (encR o.comma) o.lz o.ct l tbl) (hS : l.length ≤ 2147483648) (hN : tbl.length ≤ 2147487744) :
    Ret Tryd.prog 19 #[strV l, .agg o.cells.toArray] w (ImplOk w tbl) := implReadAll_ok ⟨l.toArray⟩ o er w tbl hG hU hgood htr hex hT (by simpa [ByteArray.size] using hS) hN
/-- Options that a law has set. -/
def Opt.set (o : Opt) (lz : Bool) : Opt := { o with ex := -1, tr := false, lz := lz }
theorem rdRow_blk {w : World} {g n : Nat} {fs : List Bytes} (h : Blk w g 9 (fs.map strV)) (hn : n = fs.length) : RdRow w (.slice (some ⟨g, 0, none⟩) n n) fs := by
  subst hn
  exact ⟨_, _, rfl, Cells.of_blk h⟩
theorem rdTab_blk {w : World} {g n : Nat} {rows : List Value} {tbl : List (List Bytes)} (h : Blk w g 30 rows) (hn : n = tbl.length) (hl : rows.length = tbl.length) (hr : ∀ (j : Nat) u fs, rows[j]? = some u → tbl[j]? = some fs → RdRow w u fs) : RdTab w (.slice (some ⟨g, 0, none⟩) n n) tbl := by
  subst hn
  exact ⟨_, _, rows, rfl, hl, Cells.of_blk h, hr⟩
theorem rdTab_one {w : World} {g : Nat} {u : Value} {fs : List Bytes} (h : Blk w g 30 [u]) (hr : RdRow w u fs) : RdTab w (.slice (some ⟨g, 0, none⟩) 1 1) [fs] :=
  rdTab_blk h rfl rfl fun j u' fs' hj hf => by
    cases j with
    | zero => simp at hj hf; subst hj hf; exact hr
    | succ j => simp at hj
theorem emptyRow (z : Int) (o : Opt) (er : Nat → Addr) (w : World) (hG : Glob w er) (hU : Lib.Utf8Tabs 10 11 w) :
    Ret Tryd.prog 4 #[.int .i64 z, .agg o.cells.toArray] w fun v w' => v = .bool true ∧ Only (fun _ => False) w w' := by
  refine ret_of_W Tryd.func4 rfl (Nat.le_of_ble_eq_true rfl) ?_
  have hO := Blk.new w 23 o.cells
  have hO1 : Only (fun _ => False) w (w.alloc (.cells o.cells.toArray 23)) := Only.alloc _ _ _
  generalize hwA : w.alloc (.cells o.cells.toArray 23) = wA at *
  have hO2 : Blk ((wA.setCell ⟨w.heap.size, 2, none⟩ (.int .i64 (-1))).setCell ⟨w.heap.size, 4, none⟩ (.bool false)) w.heap.size 23 (o.set o.lz).cells := (hO.set 2 _).set 4 _
  have hS2 : Only (fun _ => False) w ((wA.setCell ⟨w.heap.size, 2, none⟩ (.int .i64 (-1))).setCell ⟨w.heap.size, 4, none⟩ (.bool false)) :=
    hO1.then_ ((Only.setCell (· = w.heap.size) _ rfl _).trans (Only.setCell (· = w.heap.size) _ rfl _)) fun i hi hh => by omega
  have hO1b := hO.set 2 (.int .i64 (-1))
  generalize hwB : (wA.setCell ⟨w.heap.size, 2, none⟩ (.int .i64 (-1))).setCell ⟨w.heap.size, 4, none⟩ (.bool false) = wB at *
  have hg := good_ok (o.set o.lz) wB
  have hGB : Glob wB er := hG.only hS2 fun _ h => h.elim
  have hUB : Lib.Utf8Tabs 10 11 wB := by
    have h12 : 11 < w.heap.size := cell_lt (hU.2 0 (by decide)).1
    exact ⟨fun i hi => (World.cell?_of_block (hS2.block 10 (by omega) id)).trans (hU.1 i hi), fun i hi => ⟨(World.cell?_of_block (hS2.block 11 h12 id)).trans (hU.2 i hi).1, (World.cell?_of_block (hS2.block 11 h12 id)).trans (hU.2 i hi).2⟩⟩
  have tabs : ∀ w', Only (fun _ => False) wB w' → Glob w' er ∧ Lib.Utf8Tabs 10 11 w' := fun w' ho => by
    have h12 : 11 < wB.heap.size := cell_lt (hUB.2 0 (by decide)).1
    exact ⟨hGB.only ho fun _ h => h.elim, ⟨fun i hi => (World.cell?_of_block (ho.block 10 (by omega) id)).trans (hUB.1 i hi), fun i hi => ⟨(World.cell?_of_block (ho.block 11 h12 id)).trans (hUB.2 i hi).1, (World.cell?_of_block (ho.block 11 h12 id)).trans (hUB.2 i hi).2⟩⟩⟩
  cases hb : (o.set o.lz).good
  · rw [hb] at hg
    conv => arg 3; whnf
    refine W_seq ?_
    refine W_region ?_
    refine V (x_box (cs := o.cells) rfl) rfl ?_
    refine V (x_assign (by conv => lhs; whnf)) rfl ?_
    refine WL_nil ?_
    rw [hwA]
    refine W_seq ?_
    refine W_region ?_
    refine V (x_field0 fa23_2 rfl) rfl ?_
    refine S (x_store st3 rfl (by conv => lhs; whnf) rfl ((hO).cell 2 rfl) ((hO).free 2)) ?_
    refine WL_nil ?_
    refine W_seq ?_
    refine W_region ?_
    refine V (x_field0 fa23_4 rfl) rfl ?_
    refine S (x_store st4 rfl (by conv => lhs; whnf) rfl ((hO1b).cell 4 rfl) ((hO1b).free 4)) ?_
    refine WL_nil ?_
    rw [hwB]
    refine W_seq ?_
    refine W_seq ?_
    refine W_region ?_
    refine V (x_loadA Tryd.underlying23 (cs := (o.set o.lz).cells) szO rfl hO2) rfl ?_
    refine C (x_call1 cf16 (by conv => lhs; whnf)) rfl ?_
    refine hg.mono fun v w1 h1 => ?_
    obtain ⟨rfl, ho1⟩ := h1
    refine V (x_not rfl) rfl ?_
    refine V (x_move (by conv => lhs; whnf)) rfl ?_
    refine SG rfl (by decide) rfl ?_
    refine SG rfl (by decide) rfl ?_
    refine V (x_pick_t rfl (by conv => lhs; whnf)) rfl ?_
    refine V (x_move (by conv => lhs; whnf)) rfl ?_
    refine SG rfl (by decide) rfl ?_
    refine SG rfl (by decide) rfl ?_
    refine V (x_pick_t rfl (by conv => lhs; whnf)) rfl ?_
    refine WL_nil ?_
    refine W_true (rfl) ?_
    refine W_seq ?_
    refine W_region ?_
    refine V (x_assign (by conv => lhs; whnf)) rfl ?_
    refine WL_nil ?_
    refine W_ret ?_
    repeat (with_reducible (first | refine rt ?_ | refine rb ?_))
    exact bodyE_1 rfl rfl ⟨rfl, hS2.trans ho1⟩
  rw [hb] at hg
  by_cases hz1 : z < 1
  · conv => arg 3; whnf
    refine W_seq ?_
    refine W_region ?_
    refine V (x_box (cs := o.cells) rfl) rfl ?_
    refine V (x_assign (by conv => lhs; whnf)) rfl ?_
    refine WL_nil ?_
    rw [hwA]
    refine W_seq ?_
    refine W_region ?_
    refine V (x_field0 fa23_2 rfl) rfl ?_
    refine S (x_store st3 rfl (by conv => lhs; whnf) rfl ((hO).cell 2 rfl) ((hO).free 2)) ?_
    refine WL_nil ?_
    refine W_seq ?_
    refine W_region ?_
    refine V (x_field0 fa23_4 rfl) rfl ?_
    refine S (x_store st4 rfl (by conv => lhs; whnf) rfl ((hO1b).cell 4 rfl) ((hO1b).free 4)) ?_
    refine WL_nil ?_
    rw [hwB]
    refine W_seq ?_
    refine W_seq ?_
    refine W_region ?_
    refine V (x_loadA Tryd.underlying23 (cs := (o.set o.lz).cells) szO rfl hO2) rfl ?_
    refine C (x_call1 cf16 (by conv => lhs; whnf)) rfl ?_
    refine hg.mono fun v w1 h1 => ?_
    obtain ⟨rfl, ho1⟩ := h1
    refine V (x_not rfl) rfl ?_
    refine V (x_move (by conv => lhs; whnf)) rfl ?_
    refine VG rfl (x_move (by conv => lhs; whnf)) rfl ?_
    refine VG rfl (x_bin rfl rfl (bt (decide_eq_true (by omega)))) rfl ?_
    refine V (x_pick_f rfl (by conv => lhs; whnf)) rfl ?_
    refine V (x_move (by conv => lhs; whnf)) rfl ?_
    refine SG rfl (by decide) rfl ?_
    refine SG rfl (by decide) rfl ?_
    refine V (x_pick_t rfl (by conv => lhs; whnf)) rfl ?_
    refine WL_nil ?_
    refine W_true (rfl) ?_
    refine W_seq ?_
    refine W_region ?_
    refine V (x_assign (by conv => lhs; whnf)) rfl ?_
    refine WL_nil ?_
    refine W_ret ?_
    repeat (with_reducible (first | refine rt ?_ | refine rb ?_))
    exact bodyE_1 rfl rfl ⟨rfl, hS2.trans ho1⟩
  by_cases hz2 : 200 < z
  · conv => arg 3; whnf
    refine W_seq ?_
    refine W_region ?_
    refine V (x_box (cs := o.cells) rfl) rfl ?_
    refine V (x_assign (by conv => lhs; whnf)) rfl ?_
    refine WL_nil ?_
    rw [hwA]
    refine W_seq ?_
    refine W_region ?_
    refine V (x_field0 fa23_2 rfl) rfl ?_
    refine S (x_store st3 rfl (by conv => lhs; whnf) rfl ((hO).cell 2 rfl) ((hO).free 2)) ?_
    refine WL_nil ?_
    refine W_seq ?_
    refine W_region ?_
    refine V (x_field0 fa23_4 rfl) rfl ?_
    refine S (x_store st4 rfl (by conv => lhs; whnf) rfl ((hO1b).cell 4 rfl) ((hO1b).free 4)) ?_
    refine WL_nil ?_
    rw [hwB]
    refine W_seq ?_
    refine W_seq ?_
    refine W_region ?_
    refine V (x_loadA Tryd.underlying23 (cs := (o.set o.lz).cells) szO rfl hO2) rfl ?_
    refine C (x_call1 cf16 (by conv => lhs; whnf)) rfl ?_
    refine hg.mono fun v w1 h1 => ?_
    obtain ⟨rfl, ho1⟩ := h1
    refine V (x_not rfl) rfl ?_
    refine V (x_move (by conv => lhs; whnf)) rfl ?_
    refine VG rfl (x_move (by conv => lhs; whnf)) rfl ?_
    refine VG rfl (x_bin rfl rfl (bf (decide_eq_false (by omega)))) rfl ?_
    refine V (x_pick_f rfl (by conv => lhs; whnf)) rfl ?_
    refine V (x_move (by conv => lhs; whnf)) rfl ?_
    refine VG rfl (x_move (by conv => lhs; whnf)) rfl ?_
    refine VG rfl (x_bin rfl rfl (bt (decide_eq_true (by omega)))) rfl ?_
    refine V (x_pick_f rfl (by conv => lhs; whnf)) rfl ?_
    refine WL_nil ?_
    refine W_true (rfl) ?_
    refine W_seq ?_
    refine W_region ?_
    refine V (x_assign (by conv => lhs; whnf)) rfl ?_
    refine WL_nil ?_
    refine W_ret ?_
    repeat (with_reducible (first | refine rt ?_ | refine rb ?_))
    exact bodyE_1 rfl rfl ⟨rfl, hS2.trans ho1⟩
  obtain ⟨N, hN⟩ : ∃ N : Nat, z = ((N + 1 : Nat) : Int) := ⟨(z - 1).toNat, by omega⟩
  subst hN
  obtain ⟨hok1, hok2, hok3⟩ := Opt.ok hb
  have hcm : Cm (o.set o.lz).comma (encR (o.set o.lz).comma) := ⟨rfl, hok1⟩
  have hcl := hcm.len
  generalize hcmE : encR (o.set o.lz).comma = cm at *
  conv => arg 3; whnf
  refine W_seq ?_
  refine W_region ?_
  refine V (x_box (cs := o.cells) rfl) rfl ?_
  refine V (x_assign (by conv => lhs; whnf)) rfl ?_
  refine WL_nil ?_
  rw [hwA]
  refine W_seq ?_
  refine W_region ?_
  refine V (x_field0 fa23_2 rfl) rfl ?_
  refine S (x_store st3 rfl (by conv => lhs; whnf) rfl ((hO).cell 2 rfl) ((hO).free 2)) ?_
  refine WL_nil ?_
  refine W_seq ?_
  refine W_region ?_
  refine V (x_field0 fa23_4 rfl) rfl ?_
  refine S (x_store st4 rfl (by conv => lhs; whnf) rfl ((hO1b).cell 4 rfl) ((hO1b).free 4)) ?_
  refine WL_nil ?_
  rw [hwB]
  refine W_seq ?_
  refine W_seq ?_
  refine W_region ?_
  refine V (x_loadA Tryd.underlying23 (cs := (o.set o.lz).cells) szO rfl hO2) rfl ?_
  refine C (x_call1 cf16 (by conv => lhs; whnf)) rfl ?_
  refine hg.mono fun v w1 h1 => ?_
  obtain ⟨rfl, ho1⟩ := h1
  refine V (x_not rfl) rfl ?_
  refine V (x_move (by conv => lhs; whnf)) rfl ?_
  refine VG rfl (x_move (by conv => lhs; whnf)) rfl ?_
  refine VG rfl (x_bin rfl rfl (bf (decide_eq_false (by omega)))) rfl ?_
  refine V (x_pick_f rfl (by conv => lhs; whnf)) rfl ?_
  refine V (x_move (by conv => lhs; whnf)) rfl ?_
  refine VG rfl (x_move (by conv => lhs; whnf)) rfl ?_
  refine VG rfl (x_bin rfl rfl (bf (decide_eq_false (by omega)))) rfl ?_
  refine V (x_pick_f rfl (by conv => lhs; whnf)) rfl ?_
  refine WL_nil ?_
  refine W_false (rfl) ?_
  refine W_skip ?_
  refine W_seq ?_
  refine W_region ?_
  refine V (x_assign (by conv => lhs; whnf)) rfl ?_
  refine WL_nil ?_
  refine W_seq ?_
  refine W_seq ?_
  refine W_region ?_
  refine V (x_move (by conv => lhs; whnf)) rfl ?_
  refine V (x_move (by conv => lhs; whnf)) rfl ?_
  refine WL_nil ?_
  refine W_block ?_
  refine W_loop (fun K e w' => ∃ i : Nat, i ≤ N + 1 ∧ K = N + 1 - i ∧ e 0 = .int .i64 ((N + 1 : Nat) : Int) ∧ e 3 = .pointer (some ⟨w.heap.size, 0, none⟩) ∧ e 5 = strV (cms cm i) ∧ e 21 = .int .i64 ((N + 1 : Nat) : Int) ∧ e 22 = .int .i64 (i : Int) ∧ Only (fun _ => False) wB w') (k0 := N + 1) ⟨0, by omega, by omega, rfl, rfl, rfl, rfl, rfl, ho1⟩ ?_
  rintro K e w2 ⟨i, hi, rfl, e0, e3, e5, e21, e22, hO3⟩
  have hOi := hO2.only hO3 id
  have eE : e = upd (upd (upd (upd (upd e 0 (.int .i64 ((N + 1 : Nat) : Int))) 3 (.pointer (some ⟨w.heap.size, 0, none⟩))) 5 (strV (cms cm i))) 21 (.int .i64 ((N + 1 : Nat) : Int))) 22 (.int .i64 (i : Int)) := by simp only [upd_self e0, upd_self e3, upd_self e5, upd_self e21, upd_self e22]
  rw [eE]
  by_cases hlt : i < N + 1
  · have hlen := cms_len cm i
    have hb4 : i * cm.length ≤ 200 * 4 := Nat.mul_le_mul (by omega) hcl.2
    have hcomma := comma_ok (o.set o.lz) w2
    rw [hcmE] at hcomma
    refine W_seq ?_
    refine W_region ?_
    refine V (x_bin rfl rfl (bt (decide_eq_true (by omega)))) rfl ?_
    refine WL_nil ?_
    refine W_seq ?_
    refine W_true (rfl) ?_
    refine W_skip ?_
    refine W_seq ?_
    refine W_block ?_
    refine W_region ?_
    refine V (x_move (by conv => lhs; whnf)) rfl ?_
    refine V (x_loadA Tryd.underlying23 (cs := (o.set o.lz).cells) szO rfl hOi) rfl ?_
    refine C (x_call1 cf18 (by conv => lhs; whnf)) rfl ?_
    refine hcomma.mono fun v w3 h3 => ?_
    obtain ⟨rfl, ho3⟩ := h3
    refine V (x_sv_add rfl rfl (by omega)) rfl ?_
    refine V (x_assign (by conv => lhs; whnf)) rfl ?_
    refine WL_nil ?_
    refine W_region ?_
    refine V (x_bin rfl rfl (ib_addn (m := i + 1) (by omega) (by omega))) rfl ?_
    refine V (x_move (by conv => lhs; whnf)) rfl ?_
    refine WL_nil ?_
    repeat (first | with_reducible refine xt ?_ | with_reducible refine xb ?_ | with_reducible refine nt ?_ | with_reducible refine nb ?_ | with_reducible refine xn rfl ?_)
    exact ⟨N + 1 - (i + 1), by omega, i + 1, by omega, rfl, rfl, rfl, by rw [← cms_snoc]; rfl, rfl, rfl, hO3.trans ho3⟩
  · have hiN : i = N + 1 := by omega
    subst hiN
    obtain ⟨hG3, hU3⟩ := tabs w2 hO3
    have hlen := cms_len cm (N + 1)
    have hb4 : (N + 1) * cm.length ≤ 200 * 4 := Nat.mul_le_mul (by omega) hcl.2
    have hall := implReadAll_ok ⟨(cms cm (N + 1)).toArray⟩ (o.set o.lz) er w2 [List.replicate (N + 2) []] hG3 hU3 hb rfl rfl (by rw [hcmE]; exact tab_cms hcm _ _ N) (by simp [ByteArray.size]; omega) (by simp)
    refine W_seq ?_
    refine W_region ?_
    refine V (x_bin rfl rfl (bf (decide_eq_false (by omega)))) rfl ?_
    refine WL_nil ?_
    refine W_seq ?_
    refine W_false (rfl) ?_
    refine W_exit ?_
    repeat (first | with_reducible refine xt ?_ | with_reducible refine xb ?_ | with_reducible refine nt ?_ | with_reducible refine nb ?_ | with_reducible refine xn rfl ?_)
    refine W_seq ?_
    refine W_region ?_
    refine V (x_move (by conv => lhs; whnf)) rfl ?_
    refine V (x_loadA Tryd.underlying23 (cs := (o.set o.lz).cells) szO rfl hOi) rfl ?_
    refine C (x_call2 cf19 (by conv => lhs; whnf) (by conv => lhs; whnf)) rfl ?_
    refine hall.mono fun v w3 h3 => ?_
    obtain ⟨vs, rows, rfl, hV, ho3⟩ := h3
    refine V (x_move (by conv => lhs; whnf)) rfl ?_
    refine V (x_extract rfl rfl) rfl ?_
    refine V (x_extract rfl rfl) rfl ?_
    refine V (x_assign (by conv => lhs; whnf)) rfl ?_
    refine V (x_assign (by conv => lhs; whnf)) rfl ?_
    refine WL_nil ?_
    refine W_seq ?_
    refine W_region ?_
    refine V (x_move (by conv => lhs; whnf)) rfl ?_
    refine V (x_bin rfl rfl (bt rfl)) rfl ?_
    refine V (x_move (by conv => lhs; whnf)) rfl ?_
    refine VG rfl (x_move (by conv => lhs; whnf)) rfl ?_
    refine VG rfl (x_move (by conv => lhs; whnf)) rfl ?_
    refine VG rfl (x_bin rfl rfl (ib_addn (m := N + 2) (by omega) (by omega))) rfl ?_
    refine VG rfl (x_mkslice2 (n := N + 2) Tryd.underlying30 sz9 by9 zv9 rfl rfl rfl (by omega) (by omega) (by omega)) rfl ?_
    refine VG rfl (x_bs1 Tryd.underlying27 sz30 zv30 rfl rfl rfl) rfl ?_
    refine CG rfl (x_call2 cf20 (by conv => lhs; whnf) (by conv => lhs; whnf)) rfl ?_
    have hA1 : Only (fun _ => False) w3 (w3.alloc (.cells (List.replicate (N + 2) (Value.string ByteArray.empty)).toArray 9)) := Only.alloc _ _ _
    have hA2 := Only.alloc (fun _ => False) (w3.alloc (.cells (List.replicate (N + 2) (Value.string ByteArray.empty)).toArray 9)) (.cells [Value.slice (some ⟨w3.heap.size, 0, none⟩) (N + 2) (N + 2)].toArray 30)
    have hr : RdRow _ (.slice (some ⟨w3.heap.size, 0, none⟩) (N + 2) (N + 2)) (List.replicate (N + 2) []) := RdRow.new (rdRow_blk (by rw [List.map_replicate]; exact Blk.new w3 9 _) (by simp)) hA2
    have hT2 := rdTab_one (Blk.new _ 30 _) hr
    refine (Same_ok _ _ [List.replicate (N + 2) []] _ ((hV.read.new hA1).new hA2) hT2 (by simp) (by intro fs hfs; rw [List.mem_singleton] at hfs; subst hfs; simp; omega)).mono fun v w4 h4 => ?_
    obtain ⟨rfl, ho4⟩ := h4
    refine V (x_pick_t rfl (by conv => lhs; whnf)) rfl ?_
    refine V (x_assign (by conv => lhs; whnf)) rfl ?_
    refine WL_nil ?_
    refine W_ret ?_
    repeat (with_reducible (first | refine rt ?_ | refine rb ?_))
    exact bodyE_1 rfl rfl ⟨rfl, ((((hS2.trans hO3).trans ho3).trans hA1).trans hA2).trans ho4⟩
end Go.Proofs.YtcdhbfhijkdfoaaDoor
