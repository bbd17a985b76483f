/-
  FnNested: number, Plain, Row; mixed rows; guarded operations of drawn regions; nested texts; the walk of the law.
-/
import Derived.Test.YtcdhbfhijkdfoaaDoorTh
/-! laws.number; spec.Plain and spec.Row where no comment character is given. -/
namespace Go.Proofs.YtcdhbfhijkdfoaaDoor
open Go.EC Go.RowKit
theorem x_sv_eqT {P : Program} {e : Env} {w : World} {d : Option Nat} {ty : TypeId} {pos : String} {af : Array Edge} {g : Option (Nat × Bool)} {t t' : TypeId} {x y : Operand} {l : Bytes} (hx : ev e x = strV l) (hy : ev e y = strV []) (h : l = []) :
    (execOp (ev e) ⟨d, .binOp .eql t x y t', ty, pos, af, g⟩).run P w = .ok (.value (.bool true)) w := by
  rw [x_sv_eql hx hy, h]; rfl
theorem x_sv_eqF {P : Program} {e : Env} {w : World} {d : Option Nat} {ty : TypeId} {pos : String} {af : Array Edge} {g : Option (Nat × Bool)} {t t' : TypeId} {x y : Operand} {l : Bytes} (hx : ev e x = strV l) (hy : ev e y = strV []) (h : l ≠ []) :
    (execOp (ev e) ⟨d, .binOp .eql t x y t', ty, pos, af, g⟩).run P w = .ok (.value (.bool false)) w := by
  rw [x_sv_eql hx hy]
  cases l with
  | nil => exact absurd rfl h
  | cons b l => rfl
/-- Numbers, as they are read. -/
def RdInts (w : World) (v : Value) (zs : List Int) : Prop := ∃ A c, v = .slice A zs.length c ∧ Cells w A (zs.map fun z => Value.int .i64 z)
theorem RdInts.new {w w' : World} {v : Value} {zs : List Int} (h : RdInts w v zs) (ho : Only (fun _ => False) w w') : RdInts w' v zs := by
  obtain ⟨A, c, h1, h2⟩ := h
  exact ⟨A, c, h1, h2.new ho⟩
def numB (zs : List Int) (i : Nat) : Int := if zs = [] then 0 else IntKind.i64.wrap (BitVec.ofInt IntKind.i64.bits (zs.getD (i % zs.length) 0) &&& BitVec.ofInt IntKind.i64.bits 63).toNat
theorem number_ok (v : Value) (zs : List Int) (i : Nat) (w : World) (h : RdInts w v zs) (hz : zs.length ≤ 1048576) (hi : i ≤ 2147483648) : Ret Tryd.prog 24 #[v, .int .i64 (i : Int)] w fun u w' => u = .int .i64 (numB zs i) ∧ w = w' := by
  refine ret_of_W Tryd.func24 rfl (Nat.le_of_ble_eq_true rfl) ?_
  obtain ⟨A, c, rfl, hc⟩ := h
  conv => arg 3; whnf
  by_cases h0 : zs.length = 0
  · have hn : numB zs i = 0 := by unfold numB; rw [if_pos (List.eq_nil_of_length_eq_zero h0)]
    rw [hn]
    refine W_seq ?_
    refine W_region ?_
    refine V (x_assign (by conv => lhs; whnf)) rfl ?_
    refine WL_nil ?_
    refine W_seq ?_
    refine W_seq ?_
    refine W_region ?_
    refine V (x_move (by conv => lhs; whnf)) rfl ?_
    refine V (x_len_slice Tryd.underlying38 rfl) rfl ?_
    refine V (x_bin rfl rfl (bt (beq_iff_eq.2 (by omega)))) rfl ?_
    refine WL_nil ?_
    refine W_true (rfl) ?_
    refine W_seq ?_
    refine W_region ?_
    refine V (x_assign (by conv => lhs; whnf)) rfl ?_
    refine WL_nil ?_
    refine W_ret ?_
    repeat (with_reducible (first | refine rt ?_ | refine rb ?_))
    exact bodyE_1 rfl rfl ⟨rfl, rfl⟩
  · have hne : zs ≠ [] := by rintro rfl; simp at h0
    obtain ⟨g, o, rfl, hcell⟩ := hc (by simpa using hne)
    have hlt : i % zs.length < zs.length := Nat.mod_lt _ (by omega)
    have hget : zs[i % zs.length]? = some (zs.getD (i % zs.length) 0) := by rw [List.getD_eq_getElem?_getD, List.getElem?_eq_getElem hlt]; rfl
    have hcl := hcell (i % zs.length) (.int .i64 (zs.getD (i % zs.length) 0)) (by rw [List.getElem?_map, hget]; rfl)
    have hn : numB zs i = IntKind.i64.wrap (BitVec.ofInt IntKind.i64.bits (zs.getD (i % zs.length) 0) &&& BitVec.ofInt IntKind.i64.bits 63).toNat := by unfold numB; rw [if_neg hne]
    have hrem : ibin .rem .i64 (i : Int) (zs.length : Int) = some (.int .i64 ((i % zs.length : Nat) : Int)) := by
      have h1 : (i : Int).tmod (zs.length : Int) = ((i % zs.length : Nat) : Int) := by rw [Int.tmod_eq_emod_of_nonneg (by omega)]; rfl
      have h2 : ¬ ((zs.length : Int) = 0) := by omega
      simp only [ibin, if_neg h2, h1]
    rw [hn]
    refine W_seq ?_
    refine W_region ?_
    refine V (x_assign (by conv => lhs; whnf)) rfl ?_
    refine WL_nil ?_
    refine W_seq ?_
    refine W_seq ?_
    refine W_region ?_
    refine V (x_move (by conv => lhs; whnf)) rfl ?_
    refine V (x_len_slice Tryd.underlying38 rfl) rfl ?_
    refine V (x_bin rfl rfl (bf (beq_eq_false_iff_ne.2 (by omega)))) rfl ?_
    refine WL_nil ?_
    refine W_false (rfl) ?_
    refine W_skip ?_
    refine W_seq ?_
    refine W_region ?_
    refine V (x_move (by conv => lhs; whnf)) rfl ?_
    refine V (x_move (by conv => lhs; whnf)) rfl ?_
    refine V (x_move (by conv => lhs; whnf)) rfl ?_
    refine V (x_len_slice Tryd.underlying38 rfl) rfl ?_
    refine V (x_bin rfl rfl hrem) rfl ?_
    refine V (x_index (i := i % zs.length) Tryd.underlying38 sz3 rfl rfl rfl hlt) rfl ?_
    refine V (x_load ld3 rfl hcl) rfl ?_
    refine V (x_bin rfl rfl rfl) rfl ?_
    refine V (x_assign (by conv => lhs; whnf)) rfl ?_
    refine WL_nil ?_
    refine W_ret ?_
    repeat (with_reducible (first | refine rt ?_ | refine rb ?_))
    exact bodyE_1 rfl rfl ⟨rfl, rfl⟩
/-- A field that may stand as it is, where there is no comment character. -/
def plainB (f cm : Bytes) : Bool := !hasB f [34] && (!hasB f cm && (!hasB f [10] && (!hasB f [13] && (f.isEmpty || (decide (32 < (f.getD 0 0).toNat) && decide ((f.getD 0 0).toNat < 127))))))
theorem Plain_ok (f cm : Bytes) (w : World) (hf : f.length ≤ 4611686018427387904) (hc : cm.length ≤ 4) : Ret Tryd.prog 29 #[strV f, strV cm, strV []] w fun v w' => v = .bool (plainB f cm) ∧ w = w' := by
  refine ret_of_W Tryd.func29 rfl (Nat.le_of_ble_eq_true rfl) ?_
  have hH : ∀ p : Bytes, p.length ≤ 4 → Ret Tryd.prog 17 #[strV f, strV p] w fun v w' => v = .bool (hasB f p) ∧ w = w' := fun p hp => Has_ok f p w hf (by omega)
  have h34 := hH [34] (by simp)
  have hcm := hH cm hc
  have h10 := hH [10] (by simp)
  have h13 := hH [13] (by simp)
  clear hH
  unfold plainB
  conv => arg 3; whnf
  cases b34 : hasB f [34]
  case true =>
    rw [b34] at h34
    refine W_seq ?_
    refine W_region ?_
    refine V (x_assign (by conv => lhs; whnf)) rfl ?_
    refine WL_nil ?_
    refine W_seq ?_
    refine W_seq ?_
    refine W_region ?_
    refine V (x_move (by conv => lhs; whnf)) rfl ?_
    refine C (x_call2 cf17 (by conv => lhs; whnf) (by conv => lhs; whnf)) rfl ?_
    refine h34.mono fun v w1 h1 => ?_
    obtain ⟨rfl, rfl⟩ := h1
    refine V (x_move (by conv => lhs; whnf)) rfl ?_
    refine SG rfl (by decide) rfl ?_
    refine SG rfl (by decide) rfl ?_
    refine SG rfl (by decide) rfl ?_
    refine V (x_pick_t rfl (by conv => lhs; whnf)) rfl ?_
    refine V (x_move (by conv => lhs; whnf)) rfl ?_
    refine SG rfl (by decide) rfl ?_
    refine SG rfl (by decide) rfl ?_
    refine V (x_pick_t rfl (by conv => lhs; whnf)) rfl ?_
    refine V (x_move (by conv => lhs; whnf)) rfl ?_
    refine SG rfl (by decide) rfl ?_
    refine SG rfl (by decide) rfl ?_
    refine V (x_pick_t rfl (by conv => lhs; whnf)) rfl ?_
    refine WL_nil ?_
    refine W_true (rfl) ?_
    refine W_seq ?_
    refine W_region ?_
    refine V (x_assign (by conv => lhs; whnf)) rfl ?_
    refine WL_nil ?_
    refine W_ret ?_
    repeat (with_reducible (first | refine rt ?_ | refine rb ?_))
    exact bodyE_1 rfl rfl ⟨rfl, rfl⟩
  rw [b34] at h34
  cases bcm : hasB f cm
  case true =>
    rw [bcm] at hcm
    refine W_seq ?_
    refine W_region ?_
    refine V (x_assign (by conv => lhs; whnf)) rfl ?_
    refine WL_nil ?_
    refine W_seq ?_
    refine W_seq ?_
    refine W_region ?_
    refine V (x_move (by conv => lhs; whnf)) rfl ?_
    refine C (x_call2 cf17 (by conv => lhs; whnf) (by conv => lhs; whnf)) rfl ?_
    refine h34.mono fun v w1 h1 => ?_
    obtain ⟨rfl, rfl⟩ := h1
    refine V (x_move (by conv => lhs; whnf)) rfl ?_
    refine VG rfl (x_move (by conv => lhs; whnf)) rfl ?_
    refine VG rfl (x_move (by conv => lhs; whnf)) rfl ?_
    refine CG rfl (x_call2 cf17 (by conv => lhs; whnf) (by conv => lhs; whnf)) rfl ?_
    refine hcm.mono fun v w1 h1 => ?_
    obtain ⟨rfl, rfl⟩ := h1
    refine V (x_pick_f rfl (by conv => lhs; whnf)) rfl ?_
    refine V (x_move (by conv => lhs; whnf)) rfl ?_
    refine SG rfl (by decide) rfl ?_
    refine SG rfl (by decide) rfl ?_
    refine V (x_pick_t rfl (by conv => lhs; whnf)) rfl ?_
    refine V (x_move (by conv => lhs; whnf)) rfl ?_
    refine SG rfl (by decide) rfl ?_
    refine SG rfl (by decide) rfl ?_
    refine V (x_pick_t rfl (by conv => lhs; whnf)) rfl ?_
    refine WL_nil ?_
    refine W_true (rfl) ?_
    refine W_seq ?_
    refine W_region ?_
    refine V (x_assign (by conv => lhs; whnf)) rfl ?_
    refine WL_nil ?_
    refine W_ret ?_
    repeat (with_reducible (first | refine rt ?_ | refine rb ?_))
    exact bodyE_1 rfl rfl ⟨rfl, rfl⟩
  rw [bcm] at hcm
  cases b10 : hasB f [10]
  case true =>
    rw [b10] at h10
    refine W_seq ?_
    refine W_region ?_
    refine V (x_assign (by conv => lhs; whnf)) rfl ?_
    refine WL_nil ?_
    refine W_seq ?_
    refine W_seq ?_
    refine W_region ?_
    refine V (x_move (by conv => lhs; whnf)) rfl ?_
    refine C (x_call2 cf17 (by conv => lhs; whnf) (by conv => lhs; whnf)) rfl ?_
    refine h34.mono fun v w1 h1 => ?_
    obtain ⟨rfl, rfl⟩ := h1
    refine V (x_move (by conv => lhs; whnf)) rfl ?_
    refine VG rfl (x_move (by conv => lhs; whnf)) rfl ?_
    refine VG rfl (x_move (by conv => lhs; whnf)) rfl ?_
    refine CG rfl (x_call2 cf17 (by conv => lhs; whnf) (by conv => lhs; whnf)) rfl ?_
    refine hcm.mono fun v w1 h1 => ?_
    obtain ⟨rfl, rfl⟩ := h1
    refine V (x_pick_f rfl (by conv => lhs; whnf)) rfl ?_
    refine V (x_move (by conv => lhs; whnf)) rfl ?_
    refine VG rfl (x_move (by conv => lhs; whnf)) rfl ?_
    refine CG rfl (x_call2 cf17 (by conv => lhs; whnf) (by conv => lhs; whnf)) rfl ?_
    refine h10.mono fun v w1 h1 => ?_
    obtain ⟨rfl, rfl⟩ := h1
    refine V (x_pick_f rfl (by conv => lhs; whnf)) rfl ?_
    refine V (x_move (by conv => lhs; whnf)) rfl ?_
    refine SG rfl (by decide) rfl ?_
    refine SG rfl (by decide) rfl ?_
    refine V (x_pick_t rfl (by conv => lhs; whnf)) rfl ?_
    refine WL_nil ?_
    refine W_true (rfl) ?_
    refine W_seq ?_
    refine W_region ?_
    refine V (x_assign (by conv => lhs; whnf)) rfl ?_
    refine WL_nil ?_
    refine W_ret ?_
    repeat (with_reducible (first | refine rt ?_ | refine rb ?_))
    exact bodyE_1 rfl rfl ⟨rfl, rfl⟩
  rw [b10] at h10
  cases b13 : hasB f [13]
  case true =>
    rw [b13] at h13
    refine W_seq ?_
    refine W_region ?_
    refine V (x_assign (by conv => lhs; whnf)) rfl ?_
    refine WL_nil ?_
    refine W_seq ?_
    refine W_seq ?_
    refine W_region ?_
    refine V (x_move (by conv => lhs; whnf)) rfl ?_
    refine C (x_call2 cf17 (by conv => lhs; whnf) (by conv => lhs; whnf)) rfl ?_
    refine h34.mono fun v w1 h1 => ?_
    obtain ⟨rfl, rfl⟩ := h1
    refine V (x_move (by conv => lhs; whnf)) rfl ?_
    refine VG rfl (x_move (by conv => lhs; whnf)) rfl ?_
    refine VG rfl (x_move (by conv => lhs; whnf)) rfl ?_
    refine CG rfl (x_call2 cf17 (by conv => lhs; whnf) (by conv => lhs; whnf)) rfl ?_
    refine hcm.mono fun v w1 h1 => ?_
    obtain ⟨rfl, rfl⟩ := h1
    refine V (x_pick_f rfl (by conv => lhs; whnf)) rfl ?_
    refine V (x_move (by conv => lhs; whnf)) rfl ?_
    refine VG rfl (x_move (by conv => lhs; whnf)) rfl ?_
    refine CG rfl (x_call2 cf17 (by conv => lhs; whnf) (by conv => lhs; whnf)) rfl ?_
    refine h10.mono fun v w1 h1 => ?_
    obtain ⟨rfl, rfl⟩ := h1
    refine V (x_pick_f rfl (by conv => lhs; whnf)) rfl ?_
    refine V (x_move (by conv => lhs; whnf)) rfl ?_
    refine VG rfl (x_move (by conv => lhs; whnf)) rfl ?_
    refine CG rfl (x_call2 cf17 (by conv => lhs; whnf) (by conv => lhs; whnf)) rfl ?_
    refine h13.mono fun v w1 h1 => ?_
    obtain ⟨rfl, rfl⟩ := h1
    refine V (x_pick_f rfl (by conv => lhs; whnf)) rfl ?_
    refine WL_nil ?_
    refine W_true (rfl) ?_
    refine W_seq ?_
    refine W_region ?_
    refine V (x_assign (by conv => lhs; whnf)) rfl ?_
    refine WL_nil ?_
    refine W_ret ?_
    repeat (with_reducible (first | refine rt ?_ | refine rb ?_))
    exact bodyE_1 rfl rfl ⟨rfl, rfl⟩
  rw [b13] at h13
  by_cases h0 : f.length = 0
  · have hfe : f = [] := List.eq_nil_of_length_eq_zero h0
    have hr : (f.isEmpty || (decide (32 < (f.getD 0 0).toNat) && decide ((f.getD 0 0).toNat < 127))) = true := by rw [hfe]; rfl
    rw [hr]
    refine W_seq ?_
    refine W_region ?_
    refine V (x_assign (by conv => lhs; whnf)) rfl ?_
    refine WL_nil ?_
    refine W_seq ?_
    refine W_seq ?_
    refine W_region ?_
    refine V (x_move (by conv => lhs; whnf)) rfl ?_
    refine C (x_call2 cf17 (by conv => lhs; whnf) (by conv => lhs; whnf)) rfl ?_
    refine h34.mono fun v w1 h1 => ?_
    obtain ⟨rfl, rfl⟩ := h1
    refine V (x_move (by conv => lhs; whnf)) rfl ?_
    refine VG rfl (x_move (by conv => lhs; whnf)) rfl ?_
    refine VG rfl (x_move (by conv => lhs; whnf)) rfl ?_
    refine CG rfl (x_call2 cf17 (by conv => lhs; whnf) (by conv => lhs; whnf)) rfl ?_
    refine hcm.mono fun v w1 h1 => ?_
    obtain ⟨rfl, rfl⟩ := h1
    refine V (x_pick_f rfl (by conv => lhs; whnf)) rfl ?_
    refine V (x_move (by conv => lhs; whnf)) rfl ?_
    refine VG rfl (x_move (by conv => lhs; whnf)) rfl ?_
    refine CG rfl (x_call2 cf17 (by conv => lhs; whnf) (by conv => lhs; whnf)) rfl ?_
    refine h10.mono fun v w1 h1 => ?_
    obtain ⟨rfl, rfl⟩ := h1
    refine V (x_pick_f rfl (by conv => lhs; whnf)) rfl ?_
    refine V (x_move (by conv => lhs; whnf)) rfl ?_
    refine VG rfl (x_move (by conv => lhs; whnf)) rfl ?_
    refine CG rfl (x_call2 cf17 (by conv => lhs; whnf) (by conv => lhs; whnf)) rfl ?_
    refine h13.mono fun v w1 h1 => ?_
    obtain ⟨rfl, rfl⟩ := h1
    refine V (x_pick_f rfl (by conv => lhs; whnf)) rfl ?_
    refine WL_nil ?_
    refine W_false (rfl) ?_
    refine W_skip ?_
    refine W_seq ?_
    refine W_seq ?_
    refine W_region ?_
    refine V (x_move (by conv => lhs; whnf)) rfl ?_
    refine V (x_len_sv Tryd.underlying9 rfl) rfl ?_
    refine V (x_bin rfl rfl (bt (beq_iff_eq.2 (by omega)))) rfl ?_
    refine WL_nil ?_
    refine W_true (rfl) ?_
    refine W_seq ?_
    refine W_region ?_
    refine V (x_assign (by conv => lhs; whnf)) rfl ?_
    refine WL_nil ?_
    refine W_ret ?_
    repeat (with_reducible (first | refine rt ?_ | refine rb ?_))
    exact bodyE_1 rfl rfl ⟨rfl, rfl⟩
  · have hb : f[0]? = some (f.getD 0 0) := by rw [List.getD_eq_getElem?_getD, List.getElem?_eq_getElem (by omega)]; rfl
    have hfe : f.isEmpty = false := by cases f with
      | nil => simp at h0
      | cons _ _ => rfl
    rw [hfe]
    generalize f.getD 0 0 = b at *
    by_cases h32 : 32 < b.toNat
    · by_cases h127 : b.toNat < 127
      · have hr : (!false && (!false && (!false && (!false && (false || (decide (32 < b.toNat) && decide (b.toNat < 127))))))) = true := by simp [h32, h127]
        rw [hr]
        refine W_seq ?_
        refine W_region ?_
        refine V (x_assign (by conv => lhs; whnf)) rfl ?_
        refine WL_nil ?_
        refine W_seq ?_
        refine W_seq ?_
        refine W_region ?_
        refine V (x_move (by conv => lhs; whnf)) rfl ?_
        refine C (x_call2 cf17 (by conv => lhs; whnf) (by conv => lhs; whnf)) rfl ?_
        refine h34.mono fun v w1 h1 => ?_
        obtain ⟨rfl, rfl⟩ := h1
        refine V (x_move (by conv => lhs; whnf)) rfl ?_
        refine VG rfl (x_move (by conv => lhs; whnf)) rfl ?_
        refine VG rfl (x_move (by conv => lhs; whnf)) rfl ?_
        refine CG rfl (x_call2 cf17 (by conv => lhs; whnf) (by conv => lhs; whnf)) rfl ?_
        refine hcm.mono fun v w1 h1 => ?_
        obtain ⟨rfl, rfl⟩ := h1
        refine V (x_pick_f rfl (by conv => lhs; whnf)) rfl ?_
        refine V (x_move (by conv => lhs; whnf)) rfl ?_
        refine VG rfl (x_move (by conv => lhs; whnf)) rfl ?_
        refine CG rfl (x_call2 cf17 (by conv => lhs; whnf) (by conv => lhs; whnf)) rfl ?_
        refine h10.mono fun v w1 h1 => ?_
        obtain ⟨rfl, rfl⟩ := h1
        refine V (x_pick_f rfl (by conv => lhs; whnf)) rfl ?_
        refine V (x_move (by conv => lhs; whnf)) rfl ?_
        refine VG rfl (x_move (by conv => lhs; whnf)) rfl ?_
        refine CG rfl (x_call2 cf17 (by conv => lhs; whnf) (by conv => lhs; whnf)) rfl ?_
        refine h13.mono fun v w1 h1 => ?_
        obtain ⟨rfl, rfl⟩ := h1
        refine V (x_pick_f rfl (by conv => lhs; whnf)) rfl ?_
        refine WL_nil ?_
        refine W_false (rfl) ?_
        refine W_skip ?_
        refine W_seq ?_
        refine W_seq ?_
        refine W_region ?_
        refine V (x_move (by conv => lhs; whnf)) rfl ?_
        refine V (x_len_sv Tryd.underlying9 rfl) rfl ?_
        refine V (x_bin rfl rfl (bf (beq_eq_false_iff_ne.2 (by omega)))) rfl ?_
        refine WL_nil ?_
        refine W_false (rfl) ?_
        refine W_skip ?_
        refine W_seq ?_
        refine W_region ?_
        refine V (x_move (by conv => lhs; whnf)) rfl ?_
        refine V (x_len_sv Tryd.underlying9 rfl) rfl ?_
        refine V (x_bin rfl rfl (bf rfl)) rfl ?_
        refine V (x_move (by conv => lhs; whnf)) rfl ?_
        refine SG rfl (by decide) rfl ?_
        refine SG rfl (by decide) rfl ?_
        refine SG rfl (by decide) rfl ?_
        refine SG rfl (by decide) rfl ?_
        refine SG rfl (by decide) rfl ?_
        refine V (x_pick_f rfl (by conv => lhs; whnf)) rfl ?_
        refine V (x_move (by conv => lhs; whnf)) rfl ?_
        refine SG rfl (by decide) rfl ?_
        refine SG rfl (by decide) rfl ?_
        refine SG rfl (by decide) rfl ?_
        refine SG rfl (by decide) rfl ?_
        refine SG rfl (by decide) rfl ?_
        refine SG rfl (by decide) rfl ?_
        refine V (x_pick_f rfl (by conv => lhs; whnf)) rfl ?_
        refine V (x_assign (by conv => lhs; whnf)) rfl ?_
        refine WL_nil ?_
        refine W_seq ?_
        refine W_region ?_
        refine V (x_move (by conv => lhs; whnf)) rfl ?_
        refine V (x_sv_at (i := 0) Tryd.underlying9 rfl rfl rfl hb) rfl ?_
        refine V (x_bin rfl rfl (bt (decide_eq_true (by omega)))) rfl ?_
        refine V (x_move (by conv => lhs; whnf)) rfl ?_
        refine VG rfl (x_move (by conv => lhs; whnf)) rfl ?_
        refine VG rfl (x_sv_at (i := 0) Tryd.underlying9 rfl rfl rfl hb) rfl ?_
        refine VG rfl (x_bin rfl rfl (bt (decide_eq_true (by omega)))) rfl ?_
        refine V (x_pick_t rfl (by conv => lhs; whnf)) rfl ?_
        refine V (x_move (by conv => lhs; whnf)) rfl ?_
        refine VG rfl (x_move (by conv => lhs; whnf)) rfl ?_
        refine VG rfl (x_not rfl) rfl ?_
        refine V (x_pick_t rfl (by conv => lhs; whnf)) rfl ?_
        refine V (x_assign (by conv => lhs; whnf)) rfl ?_
        refine WL_nil ?_
        refine W_ret ?_
        repeat (with_reducible (first | refine rt ?_ | refine rb ?_))
        exact bodyE_1 rfl rfl ⟨rfl, rfl⟩
      · have hr : (!false && (!false && (!false && (!false && (false || (decide (32 < b.toNat) && decide (b.toNat < 127))))))) = false := by simp [h127]
        rw [hr]
        refine W_seq ?_
        refine W_region ?_
        refine V (x_assign (by conv => lhs; whnf)) rfl ?_
        refine WL_nil ?_
        refine W_seq ?_
        refine W_seq ?_
        refine W_region ?_
        refine V (x_move (by conv => lhs; whnf)) rfl ?_
        refine C (x_call2 cf17 (by conv => lhs; whnf) (by conv => lhs; whnf)) rfl ?_
        refine h34.mono fun v w1 h1 => ?_
        obtain ⟨rfl, rfl⟩ := h1
        refine V (x_move (by conv => lhs; whnf)) rfl ?_
        refine VG rfl (x_move (by conv => lhs; whnf)) rfl ?_
        refine VG rfl (x_move (by conv => lhs; whnf)) rfl ?_
        refine CG rfl (x_call2 cf17 (by conv => lhs; whnf) (by conv => lhs; whnf)) rfl ?_
        refine hcm.mono fun v w1 h1 => ?_
        obtain ⟨rfl, rfl⟩ := h1
        refine V (x_pick_f rfl (by conv => lhs; whnf)) rfl ?_
        refine V (x_move (by conv => lhs; whnf)) rfl ?_
        refine VG rfl (x_move (by conv => lhs; whnf)) rfl ?_
        refine CG rfl (x_call2 cf17 (by conv => lhs; whnf) (by conv => lhs; whnf)) rfl ?_
        refine h10.mono fun v w1 h1 => ?_
        obtain ⟨rfl, rfl⟩ := h1
        refine V (x_pick_f rfl (by conv => lhs; whnf)) rfl ?_
        refine V (x_move (by conv => lhs; whnf)) rfl ?_
        refine VG rfl (x_move (by conv => lhs; whnf)) rfl ?_
        refine CG rfl (x_call2 cf17 (by conv => lhs; whnf) (by conv => lhs; whnf)) rfl ?_
        refine h13.mono fun v w1 h1 => ?_
        obtain ⟨rfl, rfl⟩ := h1
        refine V (x_pick_f rfl (by conv => lhs; whnf)) rfl ?_
        refine WL_nil ?_
        refine W_false (rfl) ?_
        refine W_skip ?_
        refine W_seq ?_
        refine W_seq ?_
        refine W_region ?_
        refine V (x_move (by conv => lhs; whnf)) rfl ?_
        refine V (x_len_sv Tryd.underlying9 rfl) rfl ?_
        refine V (x_bin rfl rfl (bf (beq_eq_false_iff_ne.2 (by omega)))) rfl ?_
        refine WL_nil ?_
        refine W_false (rfl) ?_
        refine W_skip ?_
        refine W_seq ?_
        refine W_region ?_
        refine V (x_move (by conv => lhs; whnf)) rfl ?_
        refine V (x_len_sv Tryd.underlying9 rfl) rfl ?_
        refine V (x_bin rfl rfl (bf rfl)) rfl ?_
        refine V (x_move (by conv => lhs; whnf)) rfl ?_
        refine SG rfl (by decide) rfl ?_
        refine SG rfl (by decide) rfl ?_
        refine SG rfl (by decide) rfl ?_
        refine SG rfl (by decide) rfl ?_
        refine SG rfl (by decide) rfl ?_
        refine V (x_pick_f rfl (by conv => lhs; whnf)) rfl ?_
        refine V (x_move (by conv => lhs; whnf)) rfl ?_
        refine SG rfl (by decide) rfl ?_
        refine SG rfl (by decide) rfl ?_
        refine SG rfl (by decide) rfl ?_
        refine SG rfl (by decide) rfl ?_
        refine SG rfl (by decide) rfl ?_
        refine SG rfl (by decide) rfl ?_
        refine V (x_pick_f rfl (by conv => lhs; whnf)) rfl ?_
        refine V (x_assign (by conv => lhs; whnf)) rfl ?_
        refine WL_nil ?_
        refine W_seq ?_
        refine W_region ?_
        refine V (x_move (by conv => lhs; whnf)) rfl ?_
        refine V (x_sv_at (i := 0) Tryd.underlying9 rfl rfl rfl hb) rfl ?_
        refine V (x_bin rfl rfl (bt (decide_eq_true (by omega)))) rfl ?_
        refine V (x_move (by conv => lhs; whnf)) rfl ?_
        refine VG rfl (x_move (by conv => lhs; whnf)) rfl ?_
        refine VG rfl (x_sv_at (i := 0) Tryd.underlying9 rfl rfl rfl hb) rfl ?_
        refine VG rfl (x_bin rfl rfl (bf (decide_eq_false (by omega)))) rfl ?_
        refine V (x_pick_t rfl (by conv => lhs; whnf)) rfl ?_
        refine V (x_move (by conv => lhs; whnf)) rfl ?_
        refine SG rfl (by decide) rfl ?_
        refine SG rfl (by decide) rfl ?_
        refine V (x_pick_f rfl (by conv => lhs; whnf)) rfl ?_
        refine V (x_assign (by conv => lhs; whnf)) rfl ?_
        refine WL_nil ?_
        refine W_ret ?_
        repeat (with_reducible (first | refine rt ?_ | refine rb ?_))
        exact bodyE_1 rfl rfl ⟨rfl, rfl⟩
    · have hr : (!false && (!false && (!false && (!false && (false || (decide (32 < b.toNat) && decide (b.toNat < 127))))))) = false := by simp [h32]
      rw [hr]
      refine W_seq ?_
      refine W_region ?_
      refine V (x_assign (by conv => lhs; whnf)) rfl ?_
      refine WL_nil ?_
      refine W_seq ?_
      refine W_seq ?_
      refine W_region ?_
      refine V (x_move (by conv => lhs; whnf)) rfl ?_
      refine C (x_call2 cf17 (by conv => lhs; whnf) (by conv => lhs; whnf)) rfl ?_
      refine h34.mono fun v w1 h1 => ?_
      obtain ⟨rfl, rfl⟩ := h1
      refine V (x_move (by conv => lhs; whnf)) rfl ?_
      refine VG rfl (x_move (by conv => lhs; whnf)) rfl ?_
      refine VG rfl (x_move (by conv => lhs; whnf)) rfl ?_
      refine CG rfl (x_call2 cf17 (by conv => lhs; whnf) (by conv => lhs; whnf)) rfl ?_
      refine hcm.mono fun v w1 h1 => ?_
      obtain ⟨rfl, rfl⟩ := h1
      refine V (x_pick_f rfl (by conv => lhs; whnf)) rfl ?_
      refine V (x_move (by conv => lhs; whnf)) rfl ?_
      refine VG rfl (x_move (by conv => lhs; whnf)) rfl ?_
      refine CG rfl (x_call2 cf17 (by conv => lhs; whnf) (by conv => lhs; whnf)) rfl ?_
      refine h10.mono fun v w1 h1 => ?_
      obtain ⟨rfl, rfl⟩ := h1
      refine V (x_pick_f rfl (by conv => lhs; whnf)) rfl ?_
      refine V (x_move (by conv => lhs; whnf)) rfl ?_
      refine VG rfl (x_move (by conv => lhs; whnf)) rfl ?_
      refine CG rfl (x_call2 cf17 (by conv => lhs; whnf) (by conv => lhs; whnf)) rfl ?_
      refine h13.mono fun v w1 h1 => ?_
      obtain ⟨rfl, rfl⟩ := h1
      refine V (x_pick_f rfl (by conv => lhs; whnf)) rfl ?_
      refine WL_nil ?_
      refine W_false (rfl) ?_
      refine W_skip ?_
      refine W_seq ?_
      refine W_seq ?_
      refine W_region ?_
      refine V (x_move (by conv => lhs; whnf)) rfl ?_
      refine V (x_len_sv Tryd.underlying9 rfl) rfl ?_
      refine V (x_bin rfl rfl (bf (beq_eq_false_iff_ne.2 (by omega)))) rfl ?_
      refine WL_nil ?_
      refine W_false (rfl) ?_
      refine W_skip ?_
      refine W_seq ?_
      refine W_region ?_
      refine V (x_move (by conv => lhs; whnf)) rfl ?_
      refine V (x_len_sv Tryd.underlying9 rfl) rfl ?_
      refine V (x_bin rfl rfl (bf rfl)) rfl ?_
      refine V (x_move (by conv => lhs; whnf)) rfl ?_
      refine SG rfl (by decide) rfl ?_
      refine SG rfl (by decide) rfl ?_
      refine SG rfl (by decide) rfl ?_
      refine SG rfl (by decide) rfl ?_
      refine SG rfl (by decide) rfl ?_
      refine V (x_pick_f rfl (by conv => lhs; whnf)) rfl ?_
      refine V (x_move (by conv => lhs; whnf)) rfl ?_
      refine SG rfl (by decide) rfl ?_
      refine SG rfl (by decide) rfl ?_
      refine SG rfl (by decide) rfl ?_
      refine SG rfl (by decide) rfl ?_
      refine SG rfl (by decide) rfl ?_
      refine SG rfl (by decide) rfl ?_
      refine V (x_pick_f rfl (by conv => lhs; whnf)) rfl ?_
      refine V (x_assign (by conv => lhs; whnf)) rfl ?_
      refine WL_nil ?_
      refine W_seq ?_
      refine W_region ?_
      refine V (x_move (by conv => lhs; whnf)) rfl ?_
      refine V (x_sv_at (i := 0) Tryd.underlying9 rfl rfl rfl hb) rfl ?_
      refine V (x_bin rfl rfl (bf (decide_eq_false (by omega)))) rfl ?_
      refine V (x_move (by conv => lhs; whnf)) rfl ?_
      refine SG rfl (by decide) rfl ?_
      refine SG rfl (by decide) rfl ?_
      refine SG rfl (by decide) rfl ?_
      refine V (x_pick_f rfl (by conv => lhs; whnf)) rfl ?_
      refine V (x_move (by conv => lhs; whnf)) rfl ?_
      refine SG rfl (by decide) rfl ?_
      refine SG rfl (by decide) rfl ?_
      refine V (x_pick_f rfl (by conv => lhs; whnf)) rfl ?_
      refine V (x_assign (by conv => lhs; whnf)) rfl ?_
      refine WL_nil ?_
      refine W_ret ?_
      repeat (with_reducible (first | refine rt ?_ | refine rb ?_))
      exact bodyE_1 rfl rfl ⟨rfl, rfl⟩
/-- The bit that wants field i between quotes. -/
def bitB (bits : Int) (i : Nat) : Bool := IntKind.i64.wrap (BitVec.ofInt IntKind.i64.bits (bits.fdiv (2 ^ min (IntKind.u64.wrap ((i : Int).tmod 30)).toNat IntKind.i64.bits)) &&& BitVec.ofInt IntKind.i64.bits 1).toNat == 1
/-- Whether field i of n stands between quotes. -/
def wantQ (cm : Bytes) (bits : Int) (n i : Nat) (f : Bytes) : Bool := bitB bits i || ((n == 1 && f == []) || !plainB f cm)
def encF (cm : Bytes) (bits : Int) (n i : Nat) (f : Bytes) : Bytes := if wantQ cm bits n i f = true then quotedB f else f
def rowG (cm : Bytes) (bits : Int) (fs : List Bytes) : Bytes := joinB cm (fs.mapIdx (encF cm bits fs.length))
def rowGt (cm : Bytes) (bits : Int) (n : Nat) (fs : List Bytes) : Bytes := joinB cm (fs.mapIdx (encF cm bits n))
theorem rowGt_snoc (cm : Bytes) (bits : Int) (n : Nat) (fs : List Bytes) (f : Bytes) : rowGt cm bits n (fs ++ [f]) = (rowGt cm bits n fs ++ (if fs.length = 0 then [] else cm)) ++ encF cm bits n fs.length f := by
  unfold rowGt
  rw [List.mapIdx_append, List.mapIdx_cons, List.mapIdx_nil, joinB_snoc, Nat.zero_add, ← List.append_assoc]
  congr 2
  cases fs with
  | nil => rfl
  | cons g fs => rw [if_neg (by simp), if_neg (by simp)]
theorem rowGt_take (cm : Bytes) (bits : Int) (n : Nat) (fs : List Bytes) (i : Nat) : (rowGt cm bits n (fs.take i)).length ≤ (rowGt cm bits n fs).length := by
  unfold rowGt
  have h : fs.mapIdx (encF cm bits n) = (fs.take i).mapIdx (encF cm bits n) ++ (fs.drop i).mapIdx (fun j => encF cm bits n (j + (fs.take i).length)) := by
    rw [← List.mapIdx_append, List.take_append_drop]
  rw [h]
  exact joinB_app_len _ _ _
theorem Row_g (u : Value) (fs : List Bytes) (cm : Bytes) (bits : Int) (w : World) (hu : RdRow w u fs) (hcl : cm.length ≤ 4) (hN : fs.length ≤ 2147487744) (hf : ∀ f ∈ fs, f.length ≤ 2147483648) (hB : (rowG cm bits fs).length ≤ 4611686018427387904) :
    Ret Tryd.prog 22 #[u, strV cm, strV [], .int .i64 bits] w fun v w' => v = strV (rowG cm bits fs) ∧ Only (fun _ => False) w w' := by
  refine ret_of_W Tryd.func22 rfl (Nat.le_of_ble_eq_true rfl) ?_
  obtain ⟨A, c, hv⟩ : ∃ A c, u = .slice A fs.length c := by obtain ⟨A, c, h, _⟩ := hu; exact ⟨A, c, h⟩
  conv => arg 3; whnf
  refine W_seq ?_
  refine W_region ?_
  refine V (x_assign (by conv => lhs; whnf)) rfl ?_
  refine WL_nil ?_
  refine W_seq ?_
  refine W_region ?_
  refine V (x_assign (by conv => lhs; whnf)) rfl ?_
  refine WL_nil ?_
  refine W_seq ?_
  refine W_seq ?_
  refine W_region ?_
  refine V (x_assign (by conv => lhs; whnf)) rfl ?_
  refine WL_nil ?_
  refine W_block ?_
  refine W_loop (fun K e w' => ∃ i : Nat, i ≤ fs.length ∧ K = fs.length - i ∧ e 0 = u ∧ e 1 = strV cm ∧ e 2 = strV [] ∧ e 3 = .int .i64 bits ∧ e 9 = strV (rowGt cm bits fs.length (fs.take i)) ∧ e 10 = .int .i64 (i : Int) ∧ Only (fun _ => False) w w') (k0 := fs.length) ⟨0, Nat.zero_le _, by omega, rfl, rfl, rfl, rfl, rfl, rfl, Only.refl _ _⟩ ?_
  rintro K e w1 ⟨i, hi, rfl, e0, e1, e2, e3, e9, e10, hO⟩
  by_cases hlt : i < fs.length
  · obtain ⟨g, o, c', hu', hcell⟩ := (hu.new hO).at_ hlt
    have hfl : (fs[i]).length ≤ 2147483648 := hf _ (List.getElem_mem _)
    generalize hfb : fs[i] = f at hcell hfl
    have htake : fs.take (i + 1) = fs.take i ++ [f] := by rw [List.take_succ_eq_append_getElem hlt, hfb]
    have hsn := rowGt_snoc cm bits fs.length (fs.take i) f
    rw [← htake, List.length_take, Nat.min_eq_left (by omega)] at hsn
    have hlen := rowGt_take cm bits fs.length fs (i + 1)
    have hBl : (rowGt cm bits fs.length fs).length ≤ 4611686018427387904 := hB
    rw [hsn, List.length_append, List.length_append] at hlen
    have hP := fun w2 => Plain_ok f cm w2 (by omega) hcl
    have hpre := rowGt_take cm bits fs.length fs i
    generalize hout : rowGt cm bits fs.length (fs.take i) = out at *
    have hq2 := quotedB_len f
    have eE : e = upd (upd (upd (upd (upd (upd e 0 (.slice (some ⟨g, o, none⟩) fs.length c')) 1 (strV cm)) 2 (strV [])) 3 (.int .i64 bits)) 9 (strV out)) 10 (.int .i64 (i : Int)) := by simp only [upd_self (e0.trans hu'), upd_self e1, upd_self e2, upd_self e3, upd_self e9, upd_self e10]
    rw [eE]
    have hr30 := rem30 i
    refine W_seq ?_
    refine W_seq ?_
    refine W_region ?_
    refine V (x_move (by conv => lhs; whnf)) rfl ?_
    refine V (x_move (by conv => lhs; whnf)) rfl ?_
    refine V (x_len_slice Tryd.underlying30 rfl) rfl ?_
    refine V (x_bin rfl rfl (bt (decide_eq_true (by omega)))) rfl ?_
    refine WL_nil ?_
    refine W_true (rfl) ?_
    refine W_skip ?_
    refine W_seq ?_
    refine W_block ?_
    refine W_cut (fun e' w' => w' = w1 ∧ e' 0 = .slice (some ⟨g, o, none⟩) fs.length c' ∧ e' 1 = strV cm ∧ e' 2 = strV [] ∧ e' 3 = .int .i64 bits ∧ e' 9 = strV (out ++ (if i = 0 then [] else cm)) ∧ e' 10 = .int .i64 (i : Int)) ?_ ?_
    · by_cases h0 : i = 0
      · rw [if_pos h0, List.append_nil]
        refine W_seq ?_
        refine W_region ?_
        refine V (x_move (by conv => lhs; whnf)) rfl ?_
        refine V (x_bin rfl rfl (bf (decide_eq_false (by omega)))) rfl ?_
        refine WL_nil ?_
        refine W_false (rfl) ?_
        refine W_skip ?_
        repeat (first | with_reducible refine xt ?_ | with_reducible refine xb ?_ | with_reducible refine nt ?_ | with_reducible refine nb ?_ | with_reducible refine xn rfl ?_)
        exact ⟨rfl, rfl, rfl, rfl, rfl, rfl, rfl⟩
      · rw [if_neg h0] at hlen ⊢
        refine W_seq ?_
        refine W_region ?_
        refine V (x_move (by conv => lhs; whnf)) rfl ?_
        refine V (x_bin rfl rfl (bt (decide_eq_true (by omega)))) rfl ?_
        refine WL_nil ?_
        refine W_true (rfl) ?_
        refine W_region ?_
        refine V (x_move (by conv => lhs; whnf)) rfl ?_
        refine V (x_move (by conv => lhs; whnf)) rfl ?_
        refine V (x_sv_add rfl rfl (by omega)) rfl ?_
        refine V (x_assign (by conv => lhs; whnf)) rfl ?_
        refine WL_nil ?_
        repeat (first | with_reducible refine xt ?_ | with_reducible refine xb ?_ | with_reducible refine nt ?_ | with_reducible refine nb ?_ | with_reducible refine xn rfl ?_)
        exact ⟨rfl, rfl, rfl, rfl, rfl, rfl, rfl⟩
    rintro e' w2 ⟨rfl, k0, k1, k2, k3, k9, k10⟩
    generalize hsep : (if i = 0 then [] else cm : Bytes) = sep at *
    have eF : e' = upd (upd (upd (upd (upd (upd e' 0 (.slice (some ⟨g, o, none⟩) fs.length c')) 1 (strV cm)) 2 (strV [])) 3 (.int .i64 bits)) 9 (strV (out ++ sep))) 10 (.int .i64 (i : Int)) := by simp only [upd_self k0, upd_self k1, upd_self k2, upd_self k3, upd_self k9, upd_self k10]
    rw [eF]
    have fin : ∀ {x : Bytes} {w3 : World} {e3 : Env}, encF cm bits fs.length i f = x → Only (fun _ => False) w2 w3 → e3 0 = .slice (some ⟨g, o, none⟩) fs.length c' → e3 1 = strV cm → e3 2 = strV [] → e3 3 = .int .i64 bits → e3 9 = strV ((out ++ sep) ++ x) → e3 10 = .int .i64 ((i + 1 : Nat) : Int) →
        ∃ k', k' < fs.length - i ∧ ∃ i : Nat, i ≤ fs.length ∧ k' = fs.length - i ∧ e3 0 = u ∧ e3 1 = strV cm ∧ e3 2 = strV [] ∧ e3 3 = .int .i64 bits ∧ e3 9 = strV (rowGt cm bits fs.length (fs.take i)) ∧ e3 10 = .int .i64 (i : Int) ∧ Only (fun _ => False) w w3 := by
      intro x w3 e3 hx ho a0 a1 a2 a3 a9 a10
      exact ⟨fs.length - (i + 1), by omega, i + 1, by omega, rfl, a0.trans hu'.symm, a1, a2, a3, by rw [a9, hsn, hx], a10, hO.trans ho⟩
    have hq : encF cm bits fs.length i f = if wantQ cm bits fs.length i f = true then quotedB f else f := rfl
    cases hbit : bitB bits i
    case true =>
      have hw : wantQ cm bits fs.length i f = true := by unfold wantQ; simp [hbit]
      rw [if_pos hw] at hq
      rw [hq] at hlen
      refine W_seq ?_
      refine W_region ?_
      refine V (x_move (by conv => lhs; whnf)) rfl ?_
      refine V (x_move (by conv => lhs; whnf)) rfl ?_
      refine V (x_bin rfl rfl rfl) rfl ?_
      refine V (x_convi Tryd.underlying3 Tryd.underlying61 rfl) rfl ?_
      refine V (x_shr rfl rfl (by rw [hr30]; omega)) rfl ?_
      refine V (x_bin rfl rfl rfl) rfl ?_
      refine V (x_bin rfl rfl (bt hbit)) rfl ?_
      refine V (x_move (by conv => lhs; whnf)) rfl ?_
      refine SG rfl (by decide) rfl ?_
      refine SG rfl (by decide) rfl ?_
      refine SG rfl (by decide) rfl ?_
      refine SG rfl (by decide) rfl ?_
      refine SU rfl rfl ?_
      refine SU rfl rfl ?_
      refine SU rfl rfl ?_
      refine SU rfl rfl ?_
      refine SU rfl rfl ?_
      refine SG rfl (by decide) rfl ?_
      refine V (x_pick_t rfl (by conv => lhs; whnf)) rfl ?_
      refine V (x_move (by conv => lhs; whnf)) rfl ?_
      refine SG rfl (by decide) rfl ?_
      refine SG rfl (by decide) rfl ?_
      refine SG rfl (by decide) rfl ?_
      refine SG rfl (by decide) rfl ?_
      refine SG rfl (by decide) rfl ?_
      refine SG rfl (by decide) rfl ?_
      refine SG rfl (by decide) rfl ?_
      refine SG rfl (by decide) rfl ?_
      refine V (x_pick_t rfl (by conv => lhs; whnf)) rfl ?_
      refine WL_nil ?_
      refine W_true (rfl) ?_
      refine W_region ?_
      refine V (x_move (by conv => lhs; whnf)) rfl ?_
      refine V (x_move (by conv => lhs; whnf)) rfl ?_
      refine V (x_move (by conv => lhs; whnf)) rfl ?_
      refine V (x_index (i := i) Tryd.underlying30 sz9 rfl rfl rfl (by omega)) rfl ?_
      refine V (x_load ld9 rfl hcell) rfl ?_
      refine C (x_call1 cf30 (by conv => lhs; whnf)) rfl ?_
      refine (Quoted_ok f _ hfl).mono fun v w3 h3 => ?_
      obtain ⟨rfl, ho3⟩ := h3
      refine V (x_sv_add rfl rfl (by rw [List.length_append]; omega)) rfl ?_
      refine V (x_assign (by conv => lhs; whnf)) rfl ?_
      refine WL_nil ?_
      repeat (first | with_reducible refine xt ?_ | with_reducible refine xb ?_ | with_reducible refine nt ?_ | with_reducible refine nb ?_ | with_reducible refine xn rfl ?_)
      refine W_region ?_
      refine V (x_move (by conv => lhs; whnf)) rfl ?_
      refine V (x_bin rfl rfl (ib_addn (m := i + 1) (by omega) (by omega))) rfl ?_
      refine V (x_assign (by conv => lhs; whnf)) rfl ?_
      refine WL_nil ?_
      repeat (first | with_reducible refine xt ?_ | with_reducible refine xb ?_ | with_reducible refine nt ?_ | with_reducible refine nb ?_ | with_reducible refine xn rfl ?_)
      exact fin hq ho3 rfl rfl rfl rfl rfl rfl
    by_cases hn1 : fs.length = 1
    · by_cases hfe : f = []
      · have hw : wantQ cm bits fs.length i f = true := by unfold wantQ; simp [hn1, hfe]
        rw [if_pos hw] at hq
        rw [hq] at hlen
        refine W_seq ?_
        refine W_region ?_
        refine V (x_move (by conv => lhs; whnf)) rfl ?_
        refine V (x_move (by conv => lhs; whnf)) rfl ?_
        refine V (x_bin rfl rfl rfl) rfl ?_
        refine V (x_convi Tryd.underlying3 Tryd.underlying61 rfl) rfl ?_
        refine V (x_shr rfl rfl (by rw [hr30]; omega)) rfl ?_
        refine V (x_bin rfl rfl rfl) rfl ?_
        refine V (x_bin rfl rfl (bf hbit)) rfl ?_
        refine V (x_move (by conv => lhs; whnf)) rfl ?_
        refine VG rfl (x_move (by conv => lhs; whnf)) rfl ?_
        refine VG rfl (x_len_slice Tryd.underlying30 rfl) rfl ?_
        refine VG rfl (x_bin rfl rfl (bt (beq_iff_eq.2 (by omega)))) rfl ?_
        refine VG rfl (x_move (by conv => lhs; whnf)) rfl ?_
        refine VG rfl (x_move (by conv => lhs; whnf)) rfl ?_
        refine VG rfl (x_move (by conv => lhs; whnf)) rfl ?_
        refine VG rfl (x_index (i := i) Tryd.underlying30 sz9 rfl rfl rfl (by omega)) rfl ?_
        refine VG rfl (x_load ld9 rfl hcell) rfl ?_
        refine VG rfl (x_sv_eqT rfl rfl hfe) rfl ?_
        refine VG rfl (x_pick_t rfl (by conv => lhs; whnf)) rfl ?_
        refine V (x_pick_f rfl (by conv => lhs; whnf)) rfl ?_
        refine V (x_move (by conv => lhs; whnf)) rfl ?_
        refine SG rfl (by decide) rfl ?_
        refine SG rfl (by decide) rfl ?_
        refine SG rfl (by decide) rfl ?_
        refine SG rfl (by decide) rfl ?_
        refine SG rfl (by decide) rfl ?_
        refine SG rfl (by decide) rfl ?_
        refine SG rfl (by decide) rfl ?_
        refine SG rfl (by decide) rfl ?_
        refine V (x_pick_t rfl (by conv => lhs; whnf)) rfl ?_
        refine WL_nil ?_
        refine W_true (rfl) ?_
        refine W_region ?_
        refine V (x_move (by conv => lhs; whnf)) rfl ?_
        refine V (x_move (by conv => lhs; whnf)) rfl ?_
        refine V (x_move (by conv => lhs; whnf)) rfl ?_
        refine V (x_index (i := i) Tryd.underlying30 sz9 rfl rfl rfl (by omega)) rfl ?_
        refine V (x_load ld9 rfl hcell) rfl ?_
        refine C (x_call1 cf30 (by conv => lhs; whnf)) rfl ?_
        refine (Quoted_ok f _ hfl).mono fun v w3 h3 => ?_
        obtain ⟨rfl, ho3⟩ := h3
        refine V (x_sv_add rfl rfl (by rw [List.length_append]; omega)) rfl ?_
        refine V (x_assign (by conv => lhs; whnf)) rfl ?_
        refine WL_nil ?_
        repeat (first | with_reducible refine xt ?_ | with_reducible refine xb ?_ | with_reducible refine nt ?_ | with_reducible refine nb ?_ | with_reducible refine xn rfl ?_)
        refine W_region ?_
        refine V (x_move (by conv => lhs; whnf)) rfl ?_
        refine V (x_bin rfl rfl (ib_addn (m := i + 1) (by omega) (by omega))) rfl ?_
        refine V (x_assign (by conv => lhs; whnf)) rfl ?_
        refine WL_nil ?_
        repeat (first | with_reducible refine xt ?_ | with_reducible refine xb ?_ | with_reducible refine nt ?_ | with_reducible refine nb ?_ | with_reducible refine xn rfl ?_)
        exact fin hq ho3 rfl rfl rfl rfl rfl rfl
      · cases hpl : plainB f cm
        · have hw : wantQ cm bits fs.length i f = true := by unfold wantQ; simp [hpl]
          rw [if_pos hw] at hq
          rw [hq] at hlen
          refine W_seq ?_
          refine W_region ?_
          refine V (x_move (by conv => lhs; whnf)) rfl ?_
          refine V (x_move (by conv => lhs; whnf)) rfl ?_
          refine V (x_bin rfl rfl rfl) rfl ?_
          refine V (x_convi Tryd.underlying3 Tryd.underlying61 rfl) rfl ?_
          refine V (x_shr rfl rfl (by rw [hr30]; omega)) rfl ?_
          refine V (x_bin rfl rfl rfl) rfl ?_
          refine V (x_bin rfl rfl (bf hbit)) rfl ?_
          refine V (x_move (by conv => lhs; whnf)) rfl ?_
          refine VG rfl (x_move (by conv => lhs; whnf)) rfl ?_
          refine VG rfl (x_len_slice Tryd.underlying30 rfl) rfl ?_
          refine VG rfl (x_bin rfl rfl (bt (beq_iff_eq.2 (by omega)))) rfl ?_
          refine VG rfl (x_move (by conv => lhs; whnf)) rfl ?_
          refine VG rfl (x_move (by conv => lhs; whnf)) rfl ?_
          refine VG rfl (x_move (by conv => lhs; whnf)) rfl ?_
          refine VG rfl (x_index (i := i) Tryd.underlying30 sz9 rfl rfl rfl (by omega)) rfl ?_
          refine VG rfl (x_load ld9 rfl hcell) rfl ?_
          refine VG rfl (x_sv_eqF rfl rfl hfe) rfl ?_
          refine VG rfl (x_pick_t rfl (by conv => lhs; whnf)) rfl ?_
          refine V (x_pick_f rfl (by conv => lhs; whnf)) rfl ?_
          refine V (x_move (by conv => lhs; whnf)) rfl ?_
          refine VG rfl (x_move (by conv => lhs; whnf)) rfl ?_
          refine VG rfl (x_move (by conv => lhs; whnf)) rfl ?_
          refine VG rfl (x_index (i := i) Tryd.underlying30 sz9 rfl rfl rfl (by omega)) rfl ?_
          refine VG rfl (x_load ld9 rfl hcell) rfl ?_
          refine VG rfl (x_move (by conv => lhs; whnf)) rfl ?_
          refine VG rfl (x_move (by conv => lhs; whnf)) rfl ?_
          refine CG rfl (x_call3 cf29 (by conv => lhs; whnf) (by conv => lhs; whnf) (by conv => lhs; whnf)) rfl ?_
          refine (hP _).mono fun v w3 h3 => ?_
          obtain ⟨rfl, rfl⟩ := h3
          rw [hpl]
          refine VG rfl (x_not rfl) rfl ?_
          refine V (x_pick_f rfl (by conv => lhs; whnf)) rfl ?_
          refine WL_nil ?_
          refine W_true (rfl) ?_
          refine W_region ?_
          refine V (x_move (by conv => lhs; whnf)) rfl ?_
          refine V (x_move (by conv => lhs; whnf)) rfl ?_
          refine V (x_move (by conv => lhs; whnf)) rfl ?_
          refine V (x_index (i := i) Tryd.underlying30 sz9 rfl rfl rfl (by omega)) rfl ?_
          refine V (x_load ld9 rfl hcell) rfl ?_
          refine C (x_call1 cf30 (by conv => lhs; whnf)) rfl ?_
          refine (Quoted_ok f _ hfl).mono fun v w3 h3 => ?_
          obtain ⟨rfl, ho3⟩ := h3
          refine V (x_sv_add rfl rfl (by rw [List.length_append]; omega)) rfl ?_
          refine V (x_assign (by conv => lhs; whnf)) rfl ?_
          refine WL_nil ?_
          repeat (first | with_reducible refine xt ?_ | with_reducible refine xb ?_ | with_reducible refine nt ?_ | with_reducible refine nb ?_ | with_reducible refine xn rfl ?_)
          refine W_region ?_
          refine V (x_move (by conv => lhs; whnf)) rfl ?_
          refine V (x_bin rfl rfl (ib_addn (m := i + 1) (by omega) (by omega))) rfl ?_
          refine V (x_assign (by conv => lhs; whnf)) rfl ?_
          refine WL_nil ?_
          repeat (first | with_reducible refine xt ?_ | with_reducible refine xb ?_ | with_reducible refine nt ?_ | with_reducible refine nb ?_ | with_reducible refine xn rfl ?_)
          exact fin hq ho3 rfl rfl rfl rfl rfl rfl
        · have hw : wantQ cm bits fs.length i f = false := by unfold wantQ; simp [hbit, hpl, hfe]
          rw [if_neg (by rw [hw]; simp)] at hq
          rw [hq] at hlen
          refine W_seq ?_
          refine W_region ?_
          refine V (x_move (by conv => lhs; whnf)) rfl ?_
          refine V (x_move (by conv => lhs; whnf)) rfl ?_
          refine V (x_bin rfl rfl rfl) rfl ?_
          refine V (x_convi Tryd.underlying3 Tryd.underlying61 rfl) rfl ?_
          refine V (x_shr rfl rfl (by rw [hr30]; omega)) rfl ?_
          refine V (x_bin rfl rfl rfl) rfl ?_
          refine V (x_bin rfl rfl (bf hbit)) rfl ?_
          refine V (x_move (by conv => lhs; whnf)) rfl ?_
          refine VG rfl (x_move (by conv => lhs; whnf)) rfl ?_
          refine VG rfl (x_len_slice Tryd.underlying30 rfl) rfl ?_
          refine VG rfl (x_bin rfl rfl (bt (beq_iff_eq.2 (by omega)))) rfl ?_
          refine VG rfl (x_move (by conv => lhs; whnf)) rfl ?_
          refine VG rfl (x_move (by conv => lhs; whnf)) rfl ?_
          refine VG rfl (x_move (by conv => lhs; whnf)) rfl ?_
          refine VG rfl (x_index (i := i) Tryd.underlying30 sz9 rfl rfl rfl (by omega)) rfl ?_
          refine VG rfl (x_load ld9 rfl hcell) rfl ?_
          refine VG rfl (x_sv_eqF rfl rfl hfe) rfl ?_
          refine VG rfl (x_pick_t rfl (by conv => lhs; whnf)) rfl ?_
          refine V (x_pick_f rfl (by conv => lhs; whnf)) rfl ?_
          refine V (x_move (by conv => lhs; whnf)) rfl ?_
          refine VG rfl (x_move (by conv => lhs; whnf)) rfl ?_
          refine VG rfl (x_move (by conv => lhs; whnf)) rfl ?_
          refine VG rfl (x_index (i := i) Tryd.underlying30 sz9 rfl rfl rfl (by omega)) rfl ?_
          refine VG rfl (x_load ld9 rfl hcell) rfl ?_
          refine VG rfl (x_move (by conv => lhs; whnf)) rfl ?_
          refine VG rfl (x_move (by conv => lhs; whnf)) rfl ?_
          refine CG rfl (x_call3 cf29 (by conv => lhs; whnf) (by conv => lhs; whnf) (by conv => lhs; whnf)) rfl ?_
          refine (hP _).mono fun v w3 h3 => ?_
          obtain ⟨rfl, rfl⟩ := h3
          rw [hpl]
          refine VG rfl (x_not rfl) rfl ?_
          refine V (x_pick_f rfl (by conv => lhs; whnf)) rfl ?_
          refine WL_nil ?_
          refine W_false (rfl) ?_
          refine W_region ?_
          refine V (x_move (by conv => lhs; whnf)) rfl ?_
          refine V (x_move (by conv => lhs; whnf)) rfl ?_
          refine V (x_move (by conv => lhs; whnf)) rfl ?_
          refine V (x_index (i := i) Tryd.underlying30 sz9 rfl rfl rfl (by omega)) rfl ?_
          refine V (x_load ld9 rfl hcell) rfl ?_
          refine V (x_sv_add rfl rfl (by rw [List.length_append]; omega)) rfl ?_
          refine V (x_assign (by conv => lhs; whnf)) rfl ?_
          refine WL_nil ?_
          repeat (first | with_reducible refine xt ?_ | with_reducible refine xb ?_ | with_reducible refine nt ?_ | with_reducible refine nb ?_ | with_reducible refine xn rfl ?_)
          refine W_region ?_
          refine V (x_move (by conv => lhs; whnf)) rfl ?_
          refine V (x_bin rfl rfl (ib_addn (m := i + 1) (by omega) (by omega))) rfl ?_
          refine V (x_assign (by conv => lhs; whnf)) rfl ?_
          refine WL_nil ?_
          repeat (first | with_reducible refine xt ?_ | with_reducible refine xb ?_ | with_reducible refine nt ?_ | with_reducible refine nb ?_ | with_reducible refine xn rfl ?_)
          exact fin hq (Only.refl _ _) rfl rfl rfl rfl rfl rfl
    · cases hpl : plainB f cm
      · have hw : wantQ cm bits fs.length i f = true := by unfold wantQ; simp [hpl]
        rw [if_pos hw] at hq
        rw [hq] at hlen
        refine W_seq ?_
        refine W_region ?_
        refine V (x_move (by conv => lhs; whnf)) rfl ?_
        refine V (x_move (by conv => lhs; whnf)) rfl ?_
        refine V (x_bin rfl rfl rfl) rfl ?_
        refine V (x_convi Tryd.underlying3 Tryd.underlying61 rfl) rfl ?_
        refine V (x_shr rfl rfl (by rw [hr30]; omega)) rfl ?_
        refine V (x_bin rfl rfl rfl) rfl ?_
        refine V (x_bin rfl rfl (bf hbit)) rfl ?_
        refine V (x_move (by conv => lhs; whnf)) rfl ?_
        refine VG rfl (x_move (by conv => lhs; whnf)) rfl ?_
        refine VG rfl (x_len_slice Tryd.underlying30 rfl) rfl ?_
        refine VG rfl (x_bin rfl rfl (bf (beq_eq_false_iff_ne.2 (by omega)))) rfl ?_
        refine VG rfl (x_move (by conv => lhs; whnf)) rfl ?_
        refine SG rfl (by decide) rfl ?_
        refine SG rfl (by decide) rfl ?_
        refine SG rfl (by decide) rfl ?_
        refine SG rfl (by decide) rfl ?_
        refine SG rfl (by decide) rfl ?_
        refine VG rfl (x_pick_f rfl (by conv => lhs; whnf)) rfl ?_
        refine V (x_pick_f rfl (by conv => lhs; whnf)) rfl ?_
        refine V (x_move (by conv => lhs; whnf)) rfl ?_
        refine VG rfl (x_move (by conv => lhs; whnf)) rfl ?_
        refine VG rfl (x_move (by conv => lhs; whnf)) rfl ?_
        refine VG rfl (x_index (i := i) Tryd.underlying30 sz9 rfl rfl rfl (by omega)) rfl ?_
        refine VG rfl (x_load ld9 rfl hcell) rfl ?_
        refine VG rfl (x_move (by conv => lhs; whnf)) rfl ?_
        refine VG rfl (x_move (by conv => lhs; whnf)) rfl ?_
        refine CG rfl (x_call3 cf29 (by conv => lhs; whnf) (by conv => lhs; whnf) (by conv => lhs; whnf)) rfl ?_
        refine (hP _).mono fun v w3 h3 => ?_
        obtain ⟨rfl, rfl⟩ := h3
        rw [hpl]
        refine VG rfl (x_not rfl) rfl ?_
        refine V (x_pick_f rfl (by conv => lhs; whnf)) rfl ?_
        refine WL_nil ?_
        refine W_true (rfl) ?_
        refine W_region ?_
        refine V (x_move (by conv => lhs; whnf)) rfl ?_
        refine V (x_move (by conv => lhs; whnf)) rfl ?_
        refine V (x_move (by conv => lhs; whnf)) rfl ?_
        refine V (x_index (i := i) Tryd.underlying30 sz9 rfl rfl rfl (by omega)) rfl ?_
        refine V (x_load ld9 rfl hcell) rfl ?_
        refine C (x_call1 cf30 (by conv => lhs; whnf)) rfl ?_
        refine (Quoted_ok f _ hfl).mono fun v w3 h3 => ?_
        obtain ⟨rfl, ho3⟩ := h3
        refine V (x_sv_add rfl rfl (by rw [List.length_append]; omega)) rfl ?_
        refine V (x_assign (by conv => lhs; whnf)) rfl ?_
        refine WL_nil ?_
        repeat (first | with_reducible refine xt ?_ | with_reducible refine xb ?_ | with_reducible refine nt ?_ | with_reducible refine nb ?_ | with_reducible refine xn rfl ?_)
        refine W_region ?_
        refine V (x_move (by conv => lhs; whnf)) rfl ?_
        refine V (x_bin rfl rfl (ib_addn (m := i + 1) (by omega) (by omega))) rfl ?_
        refine V (x_assign (by conv => lhs; whnf)) rfl ?_
        refine WL_nil ?_
        repeat (first | with_reducible refine xt ?_ | with_reducible refine xb ?_ | with_reducible refine nt ?_ | with_reducible refine nb ?_ | with_reducible refine xn rfl ?_)
        exact fin hq ho3 rfl rfl rfl rfl rfl rfl
      · have hw : wantQ cm bits fs.length i f = false := by unfold wantQ; simp [hbit, hpl, hn1]
        rw [if_neg (by rw [hw]; simp)] at hq
        rw [hq] at hlen
        refine W_seq ?_
        refine W_region ?_
        refine V (x_move (by conv => lhs; whnf)) rfl ?_
        refine V (x_move (by conv => lhs; whnf)) rfl ?_
        refine V (x_bin rfl rfl rfl) rfl ?_
        refine V (x_convi Tryd.underlying3 Tryd.underlying61 rfl) rfl ?_
        refine V (x_shr rfl rfl (by rw [hr30]; omega)) rfl ?_
        refine V (x_bin rfl rfl rfl) rfl ?_
        refine V (x_bin rfl rfl (bf hbit)) rfl ?_
        refine V (x_move (by conv => lhs; whnf)) rfl ?_
        refine VG rfl (x_move (by conv => lhs; whnf)) rfl ?_
        refine VG rfl (x_len_slice Tryd.underlying30 rfl) rfl ?_
        refine VG rfl (x_bin rfl rfl (bf (beq_eq_false_iff_ne.2 (by omega)))) rfl ?_
        refine VG rfl (x_move (by conv => lhs; whnf)) rfl ?_
        refine SG rfl (by decide) rfl ?_
        refine SG rfl (by decide) rfl ?_
        refine SG rfl (by decide) rfl ?_
        refine SG rfl (by decide) rfl ?_
        refine SG rfl (by decide) rfl ?_
        refine VG rfl (x_pick_f rfl (by conv => lhs; whnf)) rfl ?_
        refine V (x_pick_f rfl (by conv => lhs; whnf)) rfl ?_
        refine V (x_move (by conv => lhs; whnf)) rfl ?_
        refine VG rfl (x_move (by conv => lhs; whnf)) rfl ?_
        refine VG rfl (x_move (by conv => lhs; whnf)) rfl ?_
        refine VG rfl (x_index (i := i) Tryd.underlying30 sz9 rfl rfl rfl (by omega)) rfl ?_
        refine VG rfl (x_load ld9 rfl hcell) rfl ?_
        refine VG rfl (x_move (by conv => lhs; whnf)) rfl ?_
        refine VG rfl (x_move (by conv => lhs; whnf)) rfl ?_
        refine CG rfl (x_call3 cf29 (by conv => lhs; whnf) (by conv => lhs; whnf) (by conv => lhs; whnf)) rfl ?_
        refine (hP _).mono fun v w3 h3 => ?_
        obtain ⟨rfl, rfl⟩ := h3
        rw [hpl]
        refine VG rfl (x_not rfl) rfl ?_
        refine V (x_pick_f rfl (by conv => lhs; whnf)) rfl ?_
        refine WL_nil ?_
        refine W_false (rfl) ?_
        refine W_region ?_
        refine V (x_move (by conv => lhs; whnf)) rfl ?_
        refine V (x_move (by conv => lhs; whnf)) rfl ?_
        refine V (x_move (by conv => lhs; whnf)) rfl ?_
        refine V (x_index (i := i) Tryd.underlying30 sz9 rfl rfl rfl (by omega)) rfl ?_
        refine V (x_load ld9 rfl hcell) rfl ?_
        refine V (x_sv_add rfl rfl (by rw [List.length_append]; omega)) rfl ?_
        refine V (x_assign (by conv => lhs; whnf)) rfl ?_
        refine WL_nil ?_
        repeat (first | with_reducible refine xt ?_ | with_reducible refine xb ?_ | with_reducible refine nt ?_ | with_reducible refine nb ?_ | with_reducible refine xn rfl ?_)
        refine W_region ?_
        refine V (x_move (by conv => lhs; whnf)) rfl ?_
        refine V (x_bin rfl rfl (ib_addn (m := i + 1) (by omega) (by omega))) rfl ?_
        refine V (x_assign (by conv => lhs; whnf)) rfl ?_
        refine WL_nil ?_
        repeat (first | with_reducible refine xt ?_ | with_reducible refine xb ?_ | with_reducible refine nt ?_ | with_reducible refine nb ?_ | with_reducible refine xn rfl ?_)
        exact fin hq (Only.refl _ _) rfl rfl rfl rfl rfl rfl
  · have hif : fs.take i = fs := List.take_of_length_le (by omega)
    rw [hif] at e9
    have e9' : e 9 = strV (rowG cm bits fs) := e9
    have eE : e = upd (upd (upd e 0 (.slice A fs.length c)) 9 (strV (rowG cm bits fs))) 10 (.int .i64 (i : Int)) := by simp only [upd_self (e0.trans hv), upd_self e9', upd_self e10]
    rw [eE]
    refine W_seq ?_
    refine W_seq ?_
    refine W_region ?_
    refine V (x_move (by conv => lhs; whnf)) rfl ?_
    refine V (x_move (by conv => lhs; whnf)) rfl ?_
    refine V (x_len_slice Tryd.underlying30 rfl) rfl ?_
    refine V (x_bin rfl rfl (bf (decide_eq_false (by omega)))) rfl ?_
    refine WL_nil ?_
    refine W_false (rfl) ?_
    refine W_exit ?_
    repeat (first | with_reducible refine xt ?_ | with_reducible refine xb ?_ | with_reducible refine nt ?_ | with_reducible refine nb ?_ | with_reducible refine xn rfl ?_)
    refine W_seq ?_
    refine W_region ?_
    refine V (x_move (by conv => lhs; whnf)) rfl ?_
    refine V (x_assign (by conv => lhs; whnf)) rfl ?_
    refine WL_nil ?_
    refine W_ret ?_
    repeat (with_reducible (first | refine rt ?_ | refine rb ?_))
    exact bodyE_1 rfl rfl ⟨rfl, hO⟩
end Go.Proofs.YtcdhbfhijkdfoaaDoor
/-! Rows of fields, some between quotes: what they are read as. -/
namespace Go.Proofs.YtcdhbfhijkdfoaaDoor
open Go.EC Go.RowKit
/-- A field as it stands, or between quotes. -/
def encP (p : Bool × Bytes) : Bytes := if p.1 = true then quotedB p.2 else p.2
structure PlainOk (cm f : Bytes) : Prop where
  nl : (10 : UInt8) ∉ f
  qt : (34 : UInt8) ∉ f
  first : FirstCm cm f
  no : NoCm cm f
structure RowOk (cm : Bytes) (r : List (Bool × Bytes)) : Prop where
  ne : r ≠ []
  pl : ∀ p ∈ r, p.1 = false → PlainOk cm p.2
  one : r ≠ [(false, [])]
section
variable {cm : Bytes} {lz : Bool}
theorem fields_g {v : Bytes} (hv : Eol v) : ∀ (gs : List (Bool × Bytes)) (p : Bool × Bytes) (acc : List Bytes), (∀ q ∈ p :: gs, q.1 = false → PlainOk cm q.2) → Fields cm lz none (joinB cm ((p :: gs).map encP) ++ v) acc (acc ++ (p :: gs).map (·.2)) v.tail
  | [], (true, f), acc, _ => by
    have h : joinB cm ([(true, f)].map encP) ++ v = 34 :: (dblB f ++ 34 :: v) := by simp [joinB, encP, quotedB]
    rw [h]
    exact Fields.opened (fields_dbl f [] (Fields.closeEnd hv))
  | [], (false, f), acc, hp => by
    have h : joinB cm ([(false, f)].map encP) ++ v = f ++ v := by simp [joinB, encP]
    rw [h]
    have ok := hp (false, f) (by simp) rfl
    exact Fields.plainEnd ok.nl ok.qt ok.no hv
  | g :: gs, (true, f), acc, hp => by
    have h : joinB cm (((true, f) :: g :: gs).map encP) ++ v = 34 :: (dblB f ++ 34 :: (cm ++ (joinB cm ((g :: gs).map encP) ++ v))) := by simp [joinB, encP, quotedB]
    rw [h]
    have ih := fields_g hv gs g (acc ++ [f]) (fun q hq => hp q (by simp at hq ⊢; exact .inr hq))
    rw [List.append_assoc] at ih
    exact Fields.opened (fields_dbl f [] (Fields.close ih))
  | g :: gs, (false, f), acc, hp => by
    have h : joinB cm (((false, f) :: g :: gs).map encP) ++ v = f ++ (cm ++ (joinB cm ((g :: gs).map encP) ++ v)) := by simp [joinB, encP]
    rw [h]
    have ih := fields_g hv gs g (acc ++ [f]) (fun q hq => hp q (by simp at hq ⊢; exact .inr hq))
    rw [List.append_assoc] at ih
    have ok := hp (false, f) (by simp) rfl
    exact Fields.plain ok.nl ok.qt ok.first ih
theorem row_head {r : Int} (hc : Cm r cm) {l : List (Bool × Bytes)} (h : RowOk cm l) (v : Bytes) : joinB cm (l.map encP) ++ v ≠ [] ∧ (joinB cm (l.map encP) ++ v).head? ≠ some 10 := by
  obtain ⟨⟨q, f⟩, gs, rfl⟩ := List.exists_cons_of_ne_nil h.ne
  have key : ∀ (x y : Bytes), x ≠ [] → (10 : UInt8) ∉ x → x ++ y ≠ [] ∧ (x ++ y).head? ≠ some 10 := by
    intro x y hx h10
    obtain ⟨b, x', rfl⟩ := List.exists_cons_of_ne_nil hx
    refine ⟨by simp, fun hh => h10 ?_⟩
    simp at hh
    rw [hh]; simp
  cases q with
  | true =>
    have he : joinB cm (((true, f) :: gs).map encP) ++ v = [34] ++ (dblB f ++ 34 :: ((gs.map encP).map (cm ++ ·)).flatten ++ v) := by simp [joinB, encP, quotedB]
    rw [he]
    exact key [34] _ (by simp) (by decide)
  | false =>
    have ok := h.pl (false, f) (by simp) rfl
    by_cases hf : f = []
    · subst hf
      cases gs with
      | nil => exact absurd rfl h.one
      | cons g gs =>
        have he : joinB cm (((false, []) :: g :: gs).map encP) ++ v = cm ++ (encP g ++ ((gs.map encP).map (cm ++ ·)).flatten ++ v) := by simp [joinB, encP]
        rw [he]
        exact key cm _ hc.ne hc.not_mem.1
    · have he : joinB cm (((false, f) :: gs).map encP) ++ v = f ++ (((gs.map encP).map (cm ++ ·)).flatten ++ v) := by simp [joinB, encP]
      rw [he]
      exact key f _ hf ok.nl
def tabG (cm : Bytes) (rows : List (List (Bool × Bytes))) : Bytes := (rows.map fun r => joinB cm (r.map encP) ++ [10]).flatten
theorem tab_g {r : Int} (hc : Cm r cm) : ∀ (rows : List (List (Bool × Bytes))), (∀ l ∈ rows, RowOk cm l) → (13 : UInt8) ∉ tabG cm rows → Tab cm lz 0 (tabG cm rows) (rows.map fun l => l.map (·.2))
  | [], _, _ => Tab.nil
  | l :: rows, hok, h13 => by
    have he : tabG cm (l :: rows) = joinB cm (l.map encP) ++ 10 :: tabG cm rows := by simp [tabG]
    rw [he] at h13 ⊢
    have hl := hok l (by simp)
    obtain ⟨h1, h2⟩ := row_head hc hl (10 :: tabG cm rows)
    obtain ⟨p, gs, rfl⟩ := List.exists_cons_of_ne_nil hl.ne
    exact Tab.cons h1 h2 h13 (fun h => absurd rfl h) (by simpa using fields_g (lz := lz) (.inr ⟨tabG cm rows, rfl⟩) gs p [] hl.pl) (tab_g hc rows (fun l hl => hok l (by simp [hl])) fun hm => h13 (List.mem_append.2 (.inr (List.mem_cons_of_mem _ hm))))
end
theorem List.map_mapIdx'' {α β γ : Type} (l : List α) (f : Nat → α → β) (g : β → γ) : (l.mapIdx f).map g = l.mapIdx fun i a => g (f i a) := by
  apply List.ext_getElem?
  intro i
  simp
  rfl
/-- A row as Row writes it. -/
def rowP (cm : Bytes) (bits : Int) (fs : List Bytes) : List (Bool × Bytes) := fs.mapIdx fun i f => (wantQ cm bits fs.length i f, f)
theorem rowG_P (cm : Bytes) (bits : Int) (fs : List Bytes) : rowG cm bits fs = joinB cm ((rowP cm bits fs).map encP) := by
  unfold rowG rowP
  rw [List.map_mapIdx'']
  rfl
theorem rowP_snd (cm : Bytes) (bits : Int) (fs : List Bytes) : (rowP cm bits fs).map (·.2) = fs := by
  unfold rowP
  rw [List.map_mapIdx'']
  apply List.ext_getElem?
  intro i
  simp
theorem rowP_mem {cm : Bytes} {bits : Int} {fs : List Bytes} {p : Bool × Bytes} (h : p ∈ rowP cm bits fs) : ∃ i, ∃ hi : i < fs.length, p = (wantQ cm bits fs.length i (fs[i]'hi), fs[i]'hi) := by
  unfold rowP at h
  obtain ⟨i, hi, he⟩ := List.mem_mapIdx.1 h
  exact ⟨i, hi, he.symm⟩
theorem wantQ_false {cm : Bytes} {bits : Int} {n i : Nat} {f : Bytes} (h : wantQ cm bits n i f = false) : plainB f cm = true ∧ ¬ (n = 1 ∧ f = []) := by
  unfold wantQ at h
  simp only [Bool.or_eq_false_iff, Bool.not_eq_false'] at h
  refine ⟨h.2.2, fun ⟨h1, h2⟩ => ?_⟩
  have := h.2.1
  rw [h1, h2] at this
  simp at this
theorem plainB_facts {f cm : Bytes} (h : plainB f cm = true) : (34 : UInt8) ∉ f ∧ hasB f cm = false ∧ (10 : UInt8) ∉ f ∧ (13 : UInt8) ∉ f := by
  unfold plainB at h
  simp only [Bool.and_eq_true, Bool.not_eq_true'] at h
  exact ⟨hasB_one h.1, h.2.1, hasB_one h.2.2.1, hasB_one h.2.2.2.1⟩
theorem plainOk_one {f : Bytes} {b : UInt8} (h : plainB f [b] = true) : PlainOk [b] f := by
  obtain ⟨h1, h2, h3, _⟩ := plainB_facts h
  have hb := hasB_one h2
  refine ⟨h3, h1, fun i _ hi hh => ?_, fun i _ hh => ?_⟩
  · simp at hi
    rw [List.getElem?_append_left hi] at hh
    exact hb (List.mem_of_getElem? (by simpa using hh))
  · exact hb (List.mem_of_getElem? (by simpa using hh))
/-- A row that is written, each of whose plain fields may stand. -/
theorem rowOk_of {cm : Bytes} {bits : Int} {fs : List Bytes} (hne : fs ≠ []) (hp : ∀ f ∈ fs, plainB f cm = true → PlainOk cm f) : RowOk cm (rowP cm bits fs) := by
  refine ⟨fun hh => ?_, fun p hpm hq => ?_, fun hh => ?_⟩
  · have := congrArg List.length hh
    simp [rowP] at this
    exact hne this
  · obtain ⟨i, hi, rfl⟩ := rowP_mem hpm
    exact hp _ (List.getElem_mem hi) (wantQ_false hq).1
  · have hl := congrArg (fun l : List (Bool × Bytes) => l.map (·.2)) hh
    simp only [rowP_snd, List.map_cons, List.map_nil] at hl
    rw [hl] at hh
    have hm : ((false, []) : Bool × Bytes) ∈ rowP cm bits [[]] := by rw [hh]; simp
    obtain ⟨i, hi, he⟩ := rowP_mem hm
    injection he with h1 h2
    exact (wantQ_false h1.symm).2 ⟨rfl, h2.symm⟩
end Go.Proofs.YtcdhbfhijkdfoaaDoor
/-! Guarded operations of drawn regions, taken one by one. -/
namespace Go.EC
open Go.RowKit
section
variable {P : Program} {n : Nat} {ops : Array Oper} {e : Env} {w w' : World} {M : Env → World → Prop} {fuel i j : Nat} {b : Bool} {listed listed' : Array Bool} {d : Nat} {op : Op} {ty : TypeId} {pos : String} {af : Array Edge} {v : Value} {f : FuncId} {args : Array Value}
theorem WO_valG (hm : (Region.ready .any ops listed).contains i = true) (ho : ops[i]? = some ⟨some d, op, ty, pos, af, some (j, b)⟩) (hl : listed.setIfInBounds i true = listed') (hy : yl ops e j = some b) (hrun : (execOp (ev e) ⟨some d, op, ty, pos, af, some (j, b)⟩).run P w = .ok (.value v) w') (hd : Nat.blt d n = true)
    (h : WA P n ops M fuel listed' (upd e d v) w') : WO P n ops M fuel listed i e w := fun hcl a ha => by
  subst hl
  have hcl' := hcl.set (i := i) (by simpa using hm)
  unfold wpOp
  have hw : Region.wanted (⟨some d, op, ty, pos, af, some (j, b)⟩ : Oper) (yielded ops a.tmps) = true := by simp [Region.wanted, ha.yielded, hy]
  simp only [ho, hw, if_true]
  left
  unfold Oper.wp
  rw [ha.eval, hrun]
  exact h hcl' _ (ha.put (d := some d) (okD_lt (d := some d) hd) v)
theorem WO_callG (hm : (Region.ready .any ops listed).contains i = true) (ho : ops[i]? = some ⟨some d, op, ty, pos, af, some (j, b)⟩) (hl : listed.setIfInBounds i true = listed') (hy : yl ops e j = some b) (hrun : (execOp (ev e) ⟨some d, op, ty, pos, af, some (j, b)⟩).run P w = .ok (.enter f args) w') (hd : Nat.blt d n = true)
    (h : Ret P f args w' fun v w'' => WA P n ops M fuel listed' (upd e d v) w'') : WO P n ops M fuel listed i e w := fun hcl a ha => by
  subst hl
  have hcl' := hcl.set (i := i) (by simpa using hm)
  unfold wpOp
  have hw : Region.wanted (⟨some d, op, ty, pos, af, some (j, b)⟩ : Oper) (yielded ops a.tmps) = true := by simp [Region.wanted, ha.yielded, hy]
  simp only [ho, hw, if_true]
  left
  unfold Oper.wp
  rw [ha.eval, hrun]
  refine Calls.mono h fun en w2 ⟨u, he, h'⟩ => ?_
  subst he
  exact h' hcl' _ (ha.put (d := some d) (okD_lt (d := some d) hd) u)
theorem WA_only (hr : Region.ready .any ops listed = [i]) (hi : WO P n ops M fuel listed i e w) : WA P n ops M (fuel + 1) listed e w := fun hcl a ha => by
  refine wpAny_all hr (by simp) fun k hk => ?_
  obtain rfl : k = i := by simpa using hk
  exact hi hcl a ha
theorem D_pureG (hs : Region.noSelect ops = true) (hf : Region.free .any ops listed i = true) (hr : (Region.ready .any ops listed).contains i = true) (ho : ops[i]? = some ⟨some d, op, ty, pos, af, some (j, b)⟩) (hl : listed.setIfInBounds i true = listed') (hy : yl ops e j = some b)
    (hrun : ∀ w, (execOp (ev e) ⟨some d, op, ty, pos, af, some (j, b)⟩).run P w = .ok (.value v) w) (hd : Nat.blt d n = true) (h : WA P n ops M fuel listed' (upd e d v) w) : WA P n ops M (fuel + 1) listed e w := fun hcl a ha => by
  subst hl
  have hcl' := hcl.set (i := i) (by simpa using hr)
  exact wpAny_take ho hs hf hr (fun c a w hq => by cases hq.1) (.inl ⟨by simp [Region.wanted, ha.yielded, hy], fun w => by rw [ha.eval]; exact hrun w⟩) (h hcl' _ (ha.put (d := some d) (okD_lt (d := some d) hd) v))
end
section
variable {P : Program} {ops : Array Oper} {N : Act → World → Prop}
/-- An operation that is wanted and yields v in every world of C may be taken first, where C outlives new blocks. -/
theorem wpAny_firstW {C : World → Prop} (hC : ∀ w w', Grew w w' → C w → C w') {i : Nat} {oi : Oper} {v : Value} (hi : ops[i]? = some oi) (hsel : ∀ (j : Nat) (o : Oper) cs b, ops[j]? = some o → o.op ≠ .select cs b) :
    ∀ (fuel : Nat) (listed : Array Bool) (a : Act) (w : World), Closed ops listed →
      (∀ j oj, ops[j]? = some oj → j ≠ i → listed.getD j true = false → depB ops ops.size j i = false → oi.apart ops oj = true ∧ kp oj = true) →
      i ∈ Region.ready .any ops listed → Region.wanted oi (yielded ops a.tmps) = true → (∀ w, C w → (execOp a.eval oi).run P w = .ok (.value v) w) → C w →
      wpAny P .any ops (fun x a w => x = .normal ∧ N a w) fuel (listed.setIfInBounds i true) (a.put oi.dst v) w → wpAny P .any ops (fun x a w => x = .normal ∧ N a w) (fuel + 1) listed a w := by
  intro fuel
  have self : ∀ (fuel : Nat) (listed : Array Bool) (a : Act) (w : World), Region.wanted oi (yielded ops a.tmps) = true → (∀ w, C w → (execOp a.eval oi).run P w = .ok (.value v) w) → C w →
      wpAny P .any ops (fun x a w => x = .normal ∧ N a w) fuel (listed.setIfInBounds i true) (a.put oi.dst v) w →
      wpOp P ops (fun x a w => x = .normal ∧ N a w) i (wpAny P .any ops (fun x a w => x = .normal ∧ N a w) fuel (listed.setIfInBounds i true)) a w := by
    intro fuel listed a w hwt hy hw H
    unfold wpOp
    simp only [hi, hwt, if_true]
    left
    unfold Oper.wp
    rw [hy w hw]; exact H
  induction fuel with
  | zero =>
    intro listed a w hcl _ hr hwt hy hw H
    refine ⟨fun h => (by rw [h] at hr; cases hr), fun j hj => ?_⟩
    by_cases hji : j = i
    · subst hji; exact self 0 listed a w hwt hy hw H
    · have := ready_mono hj hji
      rw [H.1] at this
      cases this
  | succ fuel ih =>
    intro listed a w hcl hfree hr hwt hy hw H
    refine ⟨fun h => (by rw [h] at hr; cases hr), fun j hj => ?_⟩
    by_cases hji : j = i
    · subst hji; exact self (fuel + 1) listed a w hwt hy hw H
    · have h1 := H.2 j (ready_mono hj hji)
      obtain ⟨hjun, oj, hoj, hall⟩ := mem_ready.1 hj
      have hiun := (mem_ready.1 hr).1
      have hnd : depB ops ops.size j i = false := dep_not hcl (getD_tf hiun) _ j oj hoj hall
      obtain ⟨hap, hk⟩ := hfree j oj hoj hji hjun hnd
      obtain ⟨p1, p2, p3⟩ := Oper.apart_spec hap
      have hfree' : ∀ k ok, ops[k]? = some ok → k ≠ i → (listed.setIfInBounds j true).getD k true = false →
          depB ops ops.size k i = false → oi.apart ops ok = true ∧ kp ok = true := fun k ok hk hki hun hno => by
        refine hfree k ok hk hki ?_ hno
        by_cases hjk : j = k
        · subst hjk; exact hjun
        · rw [getD_set_ne true hjk] at hun; exact hun
      have step : ∀ (u : Value) (w' : World), Grew w w' → wpAny P .any ops (fun x a w => x = .normal ∧ N a w) fuel ((listed.setIfInBounds i true).setIfInBounds j true) ((a.put oi.dst v).put oj.dst u) w' →
          wpAny P .any ops (fun x a w => x = .normal ∧ N a w) (fuel + 1) (listed.setIfInBounds j true) (a.put oj.dst u) w' := by
        intro u w' hgr h3
        have hex : execOp (a.put oj.dst u).eval oi = execOp a.eval oi := execOp_put oi (fun cs b => hsel i oi cs b hi) a oj.dst u p3
        refine ih (listed.setIfInBounds j true) (a.put oj.dst u) w' (hcl.set hj) hfree' (ready_mono hr (Ne.symm hji)) (by rw [wanted_put oi a oj.dst u p3]; exact hwt) (fun w2 hw2 => by rw [hex]; exact hy w2 hw2) (hC _ _ hgr hw) ?_
        rw [Array.setIfInBounds_comm _ _ hji, ← Act.put_comm a v u p2]
        exact h3
      unfold wpOp at h1 ⊢
      simp only [hoj] at h1 ⊢
      rw [wanted_put oj a oi.dst v p1] at h1
      split
      · rename_i hwt'
        rw [if_pos hwt'] at h1
        rcases h1 with h1 | ⟨_, _, _, hbad, _⟩
        case inr => cases hbad
        left
        unfold Oper.wp at h1 ⊢
        rw [execOp_put oj (fun cs b => hsel j oj cs b hoj) a oi.dst v p1] at h1
        obtain ⟨s, hs, hgs⟩ := kp_spec hk a.eval
        rw [hs] at h1 ⊢
        simp only [Sem.run_bind] at h1 ⊢
        cases hrun : s.run P w with
        | ok u w' =>
          rw [hrun] at h1
          exact step u w' (grows_run s w hgs u w' hrun) h1
        | halt x w' =>
          rw [hrun] at h1
          cases x <;> simp only [Result.andThen, Oper.upon] at h1
          case panic => cases h1.1
      · rename_i hwt'
        rw [if_neg hwt'] at h1
        exact step undef w (Grew.refl _) h1
end
section
variable {P : Program} {n : Nat} {ops : Array Oper} {e : Env} {w w' : World} {M : Env → World → Prop} {fuel i j : Nat} {b : Bool} {listed listed' : Array Bool} {d : Nat} {op : Op} {ty : TypeId} {pos : String} {af : Array Edge} {v : Value}
theorem D_stillG (hs : Region.noSelect ops = true) (hf : freeB ops listed i = true) (hr : (Region.ready .any ops listed).contains i = true) (ho : ops[i]? = some ⟨some d, op, ty, pos, af, some (j, b)⟩) (hl : listed.setIfInBounds i true = listed') (hy : yl ops e j = some b)
    (hrun : ∀ w', Grew w w' → (execOp (ev e) ⟨some d, op, ty, pos, af, some (j, b)⟩).run P w' = .ok (.value v) w') (hd : Nat.blt d n = true) (h : WA P n ops M fuel listed' (upd e d v) w) : WA P n ops M (fuel + 1) listed e w := fun hcl a ha => by
  subst hl
  have hcl' := hcl.set (i := i) (by simpa using hr)
  exact wpAny_firstW (C := Grew w) (fun _ _ h1 h2 => h2.trans h1) ho (Region.noSelect_spec hs) fuel listed a w hcl (freeB_spec ho hf) (by simpa using hr) (by simp [Region.wanted, ha.yielded, hy]) (fun w' hw' => by rw [ha.eval]; exact hrun w' hw') (Grew.refl w) (h hcl' _ (ha.put (d := some d) (okD_lt (d := some d) hd) v))
end
end Go.EC
/-! The texts of FnNested: how long they are, what they are read as. Numbers that came in. -/
namespace Go.Proofs.YtcdhbfhijkdfoaaDoor
open Go.EC Go.RowKit
theorem encF_len (cm : Bytes) (bits : Int) (n i : Nat) (f : Bytes) : (encF cm bits n i f).length ≤ 2 * f.length + 2 := by
  have := quotedB_len f
  unfold encF
  split <;> omega
theorem mapIdx_sum : ∀ (fs : List Bytes) (g : Nat → Bytes → Bytes), (∀ i f, (g i f).length ≤ 2 * f.length + 2) → ((fs.mapIdx g).map fun x => x.length + 4).sum ≤ 6 * wRow fs
  | [], _, _ => by simp
  | f :: fs, g, h => by
    have ih := mapIdx_sum fs (fun i => g (i + 1)) (fun i f => h (i + 1) f)
    have := h 0 f
    unfold wRow at *
    simp only [List.mapIdx_cons, List.map_cons, List.sum_cons]
    omega
theorem rowG_len {cm : Bytes} (hc : cm.length ≤ 4) (bits : Int) (fs : List Bytes) : (rowG cm bits fs).length ≤ 6 * wRow fs :=
  Nat.le_trans (joinB_len hc _) (mapIdx_sum fs _ fun _ _ => encF_len _ _ _ _ _)
theorem no13_encF {cm : Bytes} {bits : Int} {n i : Nat} {f : Bytes} (h : (13 : UInt8) ∉ f) : (13 : UInt8) ∉ encF cm bits n i f := by
  unfold encF
  split
  · exact no13_quoted h
  · exact h
theorem no13_rowG {cm : Bytes} (hc : (13 : UInt8) ∉ cm) {bits : Int} {fs : List Bytes} (h : ∀ f ∈ fs, (13 : UInt8) ∉ f) : (13 : UInt8) ∉ rowG cm bits fs :=
  no13_join hc fun x hx => by
    obtain ⟨i, hi, rfl⟩ := List.mem_mapIdx.1 hx
    exact no13_encF (h _ (List.getElem_mem hi))

/-! The innermost text. -/
def text0 (zs : List Int) : Nat → List (List Bytes) → Bytes
  | _, [] => []
  | n, fs :: t => (rowG [44] (numB zs n) fs ++ [10]) ++ text0 zs (n + 1) t
def rows0 (zs : List Int) : Nat → List (List Bytes) → List (List (Bool × Bytes))
  | _, [] => []
  | n, fs :: t => rowP [44] (numB zs n) fs :: rows0 zs (n + 1) t
theorem text0_snoc (zs : List Int) (n : Nat) (tbl : List (List Bytes)) (fs : List Bytes) : text0 zs n (tbl ++ [fs]) = text0 zs n tbl ++ (rowG [44] (numB zs (n + tbl.length)) fs ++ [10]) := by
  induction tbl generalizing n with
  | nil => simp [text0]
  | cons g t ih =>
    simp only [List.cons_append, text0, ih, List.append_assoc, List.length_cons]
    rw [show n + 1 + t.length = n + (t.length + 1) by omega]
theorem text0_len (zs : List Int) (n : Nat) (tbl : List (List Bytes)) : (text0 zs n tbl).length ≤ 6 * wTab tbl := by
  induction tbl generalizing n with
  | nil => simp [text0]
  | cons fs t ih =>
    have h1 := ih (n + 1)
    have h2 := rowG_len (cm := [44]) (by simp) (numB zs n) fs
    unfold wTab at *
    simp only [text0, List.length_append, List.length_singleton, List.map_cons, List.sum_cons]
    omega
theorem wTab_take (tbl : List (List Bytes)) (i : Nat) : wTab (tbl.take i) ≤ wTab tbl := by
  unfold wTab
  have h := congrArg (fun l : List (List Bytes) => (l.map fun fs => wRow fs + 1).sum) (List.take_append_drop i tbl)
  simp only [List.map_append, List.sum_append] at h
  omega
theorem text0_G (zs : List Int) (n : Nat) (tbl : List (List Bytes)) : text0 zs n tbl = tabG [44] (rows0 zs n tbl) := by
  induction tbl generalizing n with
  | nil => rfl
  | cons fs t ih =>
    unfold tabG at *
    simp only [text0, rows0, List.map_cons, List.flatten_cons, ← ih (n + 1), rowG_P]
theorem rows0_snd (zs : List Int) (n : Nat) (tbl : List (List Bytes)) : ((rows0 zs n tbl).map fun l => l.map (·.2)) = tbl := by
  induction tbl generalizing n with
  | nil => rfl
  | cons fs t ih => simp only [rows0, List.map_cons, ih (n + 1), rowP_snd]
theorem rows0_ok (zs : List Int) (n : Nat) (tbl : List (List Bytes)) (h : ∀ fs ∈ tbl, fs ≠ []) : ∀ l ∈ rows0 zs n tbl, RowOk [44] l := by
  induction tbl generalizing n with
  | nil => intro l hl; simp [rows0] at hl
  | cons fs t ih =>
    intro l hl
    rcases List.mem_cons.1 hl with rfl | hl
    · exact rowOk_of (h fs (by simp)) fun f _ hp => plainOk_one hp
    · exact ih (n + 1) (fun fs hfs => h fs (by simp [hfs])) l hl
theorem no13_text0 (zs : List Int) (n : Nat) (tbl : List (List Bytes)) (h : ∀ fs ∈ tbl, ∀ f ∈ fs, (13 : UInt8) ∉ f) : (13 : UInt8) ∉ text0 zs n tbl := by
  induction tbl generalizing n with
  | nil => simp [text0]
  | cons fs t ih =>
    simp only [text0, List.mem_append, not_or]
    exact ⟨⟨no13_rowG (by decide) (h fs (by simp)), by decide⟩, ih (n + 1) fun fs hfs => h fs (by simp [hfs])⟩
theorem cm44 : Cm 44 [44] := ⟨by unfold encR; decide, by decide⟩
theorem cm59 : Cm 59 [59] := ⟨by unfold encR; decide, by decide⟩
theorem cm124 : Cm 124 [124] := ⟨by unfold encR; decide, by decide⟩
theorem cmArrow : Cm 8594 [226, 134, 146] := ⟨by unfold encR; decide, by decide⟩
theorem text0_tab {lz : Bool} (zs : List Int) (tbl : List (List Bytes)) (h : ∀ fs ∈ tbl, fs ≠ [] ∧ ∀ f ∈ fs, (13 : UInt8) ∉ f) : Tab [44] lz 0 (text0 zs 0 tbl) tbl := by
  have := tab_g (lz := lz) cm44 (rows0 zs 0 tbl) (rows0_ok zs 0 tbl fun fs hfs => (h fs hfs).1) (by rw [← text0_G]; exact no13_text0 zs 0 tbl fun fs hfs => (h fs hfs).2)
  rwa [← text0_G, rows0_snd] at this

/-! A text within a text. -/
def nestT (cm : Bytes) (n : Int) (T : Bytes) : Bytes := ((rowG cm n [[120], T] ++ [10]) ++ rowG cm 0 [T, [], [121]]) ++ [10]
def nestTab (T : Bytes) : List (List Bytes) := [[[120], T], [T, [], [121]]]
theorem nestT_len {cm : Bytes} (hc : cm.length ≤ 4) (n : Int) (T : Bytes) : (rowG cm n [[120], T]).length ≤ 2 * T.length + 14 ∧ (rowG cm 0 [T, [], [121]]).length ≤ 2 * T.length + 20 ∧ (nestT cm n T).length ≤ 4 * T.length + 36 := by
  have a1 := encF_len cm n 2 0 [120]
  have a2 := encF_len cm n 2 1 T
  have b1 := encF_len cm 0 3 0 T
  have b2 := encF_len cm 0 3 1 []
  have b3 := encF_len cm 0 3 2 [121]
  have h1 := joinB_len hc [encF cm n 2 0 [120], encF cm n 2 1 T]
  have h2 := joinB_len hc [encF cm 0 3 0 T, encF cm 0 3 1 [], encF cm 0 3 2 [121]]
  simp only [List.map_cons, List.map_nil, List.sum_cons, List.sum_nil, List.length_cons, List.length_nil] at h1 h2 a1 b2 b3
  have e1 : rowG cm n [[120], T] = joinB cm [encF cm n 2 0 [120], encF cm n 2 1 T] := rfl
  have e2 : rowG cm 0 [T, [], [121]] = joinB cm [encF cm 0 3 0 T, encF cm 0 3 1 [], encF cm 0 3 2 [121]] := rfl
  unfold nestT
  rw [e1, e2]
  simp only [List.length_append, List.length_singleton]
  omega
theorem nestT_G (cm : Bytes) (n : Int) (T : Bytes) : nestT cm n T = tabG cm [rowP cm n [[120], T], rowP cm 0 [T, [], [121]]] := by
  unfold nestT tabG
  simp only [rowG_P, List.map_cons, List.map_nil, List.flatten_cons, List.flatten_nil, List.append_assoc, List.append_nil]
theorem no13_nestT {cm : Bytes} (hc : (13 : UInt8) ∉ cm) {n : Int} {T : Bytes} (h : (13 : UInt8) ∉ T) : (13 : UInt8) ∉ nestT cm n T := by
  unfold nestT
  simp only [List.mem_append, not_or]
  refine ⟨⟨⟨no13_rowG hc fun f hf => ?_, by decide⟩, no13_rowG hc fun f hf => ?_⟩, by decide⟩
  · simp only [List.mem_cons, List.mem_nil_iff, or_false] at hf
    rcases hf with rfl | rfl
    · decide
    · exact h
  · simp only [List.mem_cons, List.mem_nil_iff, or_false] at hf
    rcases hf with rfl | rfl | rfl
    · exact h
    · decide
    · decide
theorem nestT_tab {r : Int} {cm : Bytes} {lz : Bool} (hc : Cm r cm) {n : Int} {T : Bytes} (h13 : (13 : UInt8) ∉ T) (hp : ∀ f ∈ [T, [120], [121]], plainB f cm = true → PlainOk cm f) : Tab cm lz 0 (nestT cm n T) (nestTab T) := by
  have h0 : PlainOk cm [] := ⟨by simp, by simp, firstCm_nil cm, noCm_nil hc⟩
  have := tab_g (lz := lz) hc [rowP cm n [[120], T], rowP cm 0 [T, [], [121]]] (fun l hl => by
    simp only [List.mem_cons, List.mem_nil_iff, or_false] at hl
    rcases hl with rfl | rfl
    · refine rowOk_of (by simp) fun f hf => ?_
      simp only [List.mem_cons, List.mem_nil_iff, or_false] at hf
      rcases hf with rfl | rfl
      · exact hp _ (by simp)
      · exact hp _ (by simp)
    · refine rowOk_of (by simp) fun f hf => ?_
      simp only [List.mem_cons, List.mem_nil_iff, or_false] at hf
      rcases hf with rfl | rfl | rfl
      · exact hp _ (by simp)
      · exact fun _ => h0
      · exact hp _ (by simp)) (by rw [← nestT_G]; exact no13_nestT hc.no13 h13)
  rw [← nestT_G] at this
  simp only [List.map_cons, List.map_nil, rowP_snd] at this
  exact this
theorem nest_one {b : UInt8} {r : Int} {lz : Bool} (hc : Cm r [b]) {n : Int} {T : Bytes} (h13 : (13 : UInt8) ∉ T) : Tab [b] lz 0 (nestT [b] n T) (nestTab T) :=
  nestT_tab hc h13 fun _ _ h => plainOk_one h
theorem arrow_ok (b : UInt8) (h10 : b ≠ 10) (h34 : b ≠ 34) : PlainOk [226, 134, 146] [b] := by
  refine ⟨by simpa using h10.symm, by simpa using h34.symm, fun i h1 h2 => ?_, fun i h1 => ?_⟩
  · simp at h1 h2
    obtain rfl : i = 2 := by omega
    simp
  · simp at h1
    rw [List.getElem?_eq_none (by simp; omega)]
    simp
theorem nest_arrow {lz : Bool} {n : Int} {T : Bytes} (h13 : (13 : UInt8) ∉ T) (h10 : (10 : UInt8) ∈ T) : Tab [226, 134, 146] lz 0 (nestT [226, 134, 146] n T) (nestTab T) :=
  nestT_tab cmArrow h13 fun f hf hp => by
    simp only [List.mem_cons, List.mem_nil_iff, or_false] at hf
    rcases hf with rfl | rfl | rfl
    · exact absurd h10 (plainB_facts hp).2.2.1
    · exact arrow_ok 120 (by decide) (by decide)
    · exact arrow_ok 121 (by decide) (by decide)
theorem nestT_nl (cm : Bytes) (n : Int) (T : Bytes) : (10 : UInt8) ∈ nestT cm n T := by unfold nestT; simp

/-! The four texts. -/
def cmOf : Nat → Bytes
  | 0 => [44]
  | 1 => [59]
  | 2 => [124]
  | _ => [226, 134, 146]
def cOf : Nat → Int
  | 0 => 44
  | 1 => 59
  | 2 => 124
  | _ => 8594
def cmV : List Value := [.int .i32 44, .int .i32 59, .int .i32 124, .int .i32 8594]
theorem cmV_at : ∀ {d : Nat}, d < 4 → cmV[d]? = some (.int .i32 (cOf d))
  | 0, _ => rfl
  | 1, _ => rfl
  | 2, _ => rfl
  | 3, _ => rfl
  | d + 4, h => by omega
theorem cm_of : ∀ d : Nat, Cm (cOf d) (cmOf d)
  | 0 => cm44
  | 1 => cm59
  | 2 => cm124
  | _ + 3 => cmArrow
def nst (zs : List Int) (tbl : List (List Bytes)) : Nat → Bytes
  | 0 => text0 zs 0 tbl
  | d + 1 => nestT (cmOf (d + 1)) (numB zs (d + 1)) (nst zs tbl d)
def nsts (zs : List Int) (tbl : List (List Bytes)) (d : Nat) : List Value := (List.range d).map fun k => strV (nst zs tbl k)
theorem nsts_len (zs : List Int) (tbl : List (List Bytes)) (d : Nat) : (nsts zs tbl d).length = d := by simp [nsts]
theorem nsts_at {zs : List Int} {tbl : List (List Bytes)} {d k : Nat} (h : k < d) : (nsts zs tbl d)[k]? = some (strV (nst zs tbl k)) := by simp [nsts, h]
theorem nsts_succ (zs : List Int) (tbl : List (List Bytes)) (d : Nat) : nsts zs tbl (d + 1) = nsts zs tbl d ++ [strV (nst zs tbl d)] := by simp [nsts, List.range_succ]
theorem nst_13 {zs : List Int} {tbl : List (List Bytes)} (h : ∀ fs ∈ tbl, fs ≠ [] ∧ ∀ f ∈ fs, (13 : UInt8) ∉ f) : ∀ d, (13 : UInt8) ∉ nst zs tbl d
  | 0 => no13_text0 zs 0 tbl fun fs hfs => (h fs hfs).2
  | d + 1 => no13_nestT (cm_of (d + 1)).no13 (nst_13 h d)
theorem nst_tab {lz : Bool} {zs : List Int} {tbl : List (List Bytes)} (h : ∀ fs ∈ tbl, fs ≠ [] ∧ ∀ f ∈ fs, (13 : UInt8) ∉ f) : ∀ {d : Nat}, d < 3 → Tab (cmOf (d + 1)) lz 0 (nst zs tbl (d + 1)) (nestTab (nst zs tbl d))
  | 0, _ => nest_one cm59 (nst_13 h 0)
  | 1, _ => nest_one cm124 (nst_13 h 1)
  | 2, _ => nest_arrow (nst_13 h 2) (nestT_nl _ _ _)
  | d + 3, hd => by omega
theorem nst_len {zs : List Int} {tbl : List (List Bytes)} (h : wTab tbl ≤ 1048576) : ∀ {d : Nat}, d < 4 → (nst zs tbl d).length ≤ 402653940 ∧ (d < 3 → (nst zs tbl d).length ≤ 100663476) := by
  have h0 : (nst zs tbl 0).length ≤ 6291456 := Nat.le_trans (text0_len zs 0 tbl) (by omega)
  have h1 := (nestT_len (cm_of 1).len.2 (numB zs 1) (nst zs tbl 0)).2.2
  have h2 := (nestT_len (cm_of 2).len.2 (numB zs 2) (nst zs tbl 1)).2.2
  have h3 := (nestT_len (cm_of 3).len.2 (numB zs 3) (nst zs tbl 2)).2.2
  have e1 : nst zs tbl 1 = nestT (cmOf 1) (numB zs 1) (nst zs tbl 0) := rfl
  have e2 : nst zs tbl 2 = nestT (cmOf 2) (numB zs 2) (nst zs tbl 1) := rfl
  have e3 : nst zs tbl 3 = nestT (cmOf 3) (numB zs 3) (nst zs tbl 2) := rfl
  rw [← e1] at h1
  rw [← e2] at h2
  rw [← e3] at h3
  intro d hd
  match d, hd with
  | 0, _ => exact ⟨by omega, fun _ => by omega⟩
  | 1, _ => exact ⟨by omega, fun _ => by omega⟩
  | 2, _ => exact ⟨by omega, fun _ => by omega⟩
  | 3, _ => exact ⟨by omega, fun h => by omega⟩
  | d + 4, hd => omega
def nOpt (r : Int) : Opt := ⟨r, 0, -1, false, false, false⟩
theorem nOpt_ok : ∀ {d : Nat}, d < 4 → (nOpt (cOf d)).good = true ∧ encR (nOpt (cOf d)).comma = cmOf d
  | 0, _ => ⟨by decide, cm44.enc.symm⟩
  | 1, _ => ⟨by decide, cm59.enc.symm⟩
  | 2, _ => ⟨by decide, cm124.enc.symm⟩
  | 3, _ => ⟨by decide, cmArrow.enc.symm⟩
  | d + 4, h => by omega
theorem own_blk1 {w : World} {g : Nat} {t : TypeId} {v : Value} (h : Blk w g t [v]) : Own w t 1 (.slice (some ⟨g, 0, none⟩) 1 1) 1 [v] :=
  ⟨rfl, .inr ⟨g, 1, #[v], rfl, Nat.zero_le _, h, Nat.le_refl _, by unfold maxLen; omega, rfl, rfl⟩⟩
theorem bdOptN (r : Int) (w : World) : (Instr.build 23 #[(0, .int .i32 r), (2, .int .i64 (-1))]).run Tryd.prog w = .ok (.agg #[.int .i32 r, .int .i32 0, .int .i64 (-1), .bool false, .bool false, .bool false]) w := by kernel_rfl
theorem bdOptM (w : World) : (Instr.build 23 #[(2, .int .i64 (-1))]).run Tryd.prog w = .ok (.agg #[.int .i32 0, .int .i32 0, .int .i64 (-1), .bool false, .bool false, .bool false]) w := by kernel_rfl
theorem zv21 (w : World) : (zeroValue 21).run Tryd.prog w = .ok (.int .i32 0) w := by kernel_rfl
theorem x_rune_sv {e : Env} {w : World} {d : Option Nat} {ty : TypeId} {pos : String} {af : Array Edge} {g : Option (Nat × Bool)} {t : TypeId} {dd : TypeDesc} {x : Operand} {k : IntKind} {z : Int} {src : TypeId} {l : Bytes} (hs : Tryd.prog.underlying src = some dd) (hu : Tryd.prog.underlying t = some .string) (hx : ev e x = .int k z) (hl : l = encR z) :
    (execOp (ev e) ⟨d, .convert src t x, ty, pos, af, g⟩).run Tryd.prog w = .ok (.value (strV l)) w := by
  rw [x_rune_str hs hu hx, utf8_encR, hl]
  rfl
/-- The rows that a text is read as, in memory: the rows made in either order. -/
theorem nest_mem1 (w : World) (T : Bytes) (w1 w2 w3 : World) (h1 : w1 = w.alloc (.cells [strV [120], strV T].toArray 9)) (h2 : w2 = w1.alloc (.cells [strV T, strV [], strV [121]].toArray 9))
    (h3 : w3 = w2.alloc (.cells [Value.slice (some ⟨w.heap.size, 0, none⟩) 2 2, .slice (some ⟨w1.heap.size, 0, none⟩) 3 3].toArray 30)) : RdTab w3 (.slice (some ⟨w2.heap.size, 0, none⟩) 2 2) (nestTab T) ∧ Only (fun _ => False) w w3 := by
  have a1 : Only (fun _ => False) w w1 := by rw [h1]; exact Only.alloc _ _ _
  have a2 : Only (fun _ => False) w1 w2 := by rw [h2]; exact Only.alloc _ _ _
  have a3 : Only (fun _ => False) w2 w3 := by rw [h3]; exact Only.alloc _ _ _
  have b1 : Blk w1 w.heap.size 9 [strV [120], strV T] := by rw [h1]; exact Blk.new _ _ _
  have b2 : Blk w2 w1.heap.size 9 [strV T, strV [], strV [121]] := by rw [h2]; exact Blk.new _ _ _
  have b3 : Blk w3 w2.heap.size 30 [Value.slice (some ⟨w.heap.size, 0, none⟩) 2 2, .slice (some ⟨w1.heap.size, 0, none⟩) 3 3] := by rw [h3]; exact Blk.new _ _ _
  have r1 := ((rdRow_blk (fs := [[120], T]) (n := 2) b1 rfl).new a2).new a3
  have r2 := (rdRow_blk (fs := [T, [], [121]]) (n := 3) b2 rfl).new a3
  refine ⟨rdTab_blk b3 rfl rfl fun j u fs hj hf => ?_, (a1.trans a2).trans a3⟩
  match j, hj, hf with
  | 0, hj, hf => simp [nestTab] at hj hf; subst hj hf; exact r1
  | 1, hj, hf => simp [nestTab] at hj hf; subst hj hf; exact r2
  | j + 2, hj, hf => simp at hj
theorem nest_mem2 (w : World) (T : Bytes) (w1 w2 w3 : World) (h1 : w1 = w.alloc (.cells [strV T, strV [], strV [121]].toArray 9)) (h2 : w2 = w1.alloc (.cells [strV [120], strV T].toArray 9))
    (h3 : w3 = w2.alloc (.cells [Value.slice (some ⟨w1.heap.size, 0, none⟩) 2 2, .slice (some ⟨w.heap.size, 0, none⟩) 3 3].toArray 30)) : RdTab w3 (.slice (some ⟨w2.heap.size, 0, none⟩) 2 2) (nestTab T) ∧ Only (fun _ => False) w w3 := by
  have a1 : Only (fun _ => False) w w1 := by rw [h1]; exact Only.alloc _ _ _
  have a2 : Only (fun _ => False) w1 w2 := by rw [h2]; exact Only.alloc _ _ _
  have a3 : Only (fun _ => False) w2 w3 := by rw [h3]; exact Only.alloc _ _ _
  have b1 : Blk w1 w.heap.size 9 [strV T, strV [], strV [121]] := by rw [h1]; exact Blk.new _ _ _
  have b2 : Blk w2 w1.heap.size 9 [strV [120], strV T] := by rw [h2]; exact Blk.new _ _ _
  have b3 : Blk w3 w2.heap.size 30 [Value.slice (some ⟨w1.heap.size, 0, none⟩) 2 2, .slice (some ⟨w.heap.size, 0, none⟩) 3 3] := by rw [h3]; exact Blk.new _ _ _
  have r1 := (rdRow_blk (fs := [[120], T]) (n := 2) b2 rfl).new a3
  have r2 := ((rdRow_blk (fs := [T, [], [121]]) (n := 3) b1 rfl).new a2).new a3
  refine ⟨rdTab_blk b3 rfl rfl fun j u fs hj hf => ?_, (a1.trans a2).trans a3⟩
  match j, hj, hf with
  | 0, hj, hf => simp [nestTab] at hj hf; subst hj hf; exact r1
  | 1, hj, hf => simp [nestTab] at hj hf; subst hj hf; exact r2
  | j + 2, hj, hf => simp at hj

/-! Numbers that came in. -/
theorem sum_ones {α : Type} (l : List α) : (l.map fun _ => 1).sum = l.length := by
  induction l with
  | nil => rfl
  | cons a l ih => simp only [List.map_cons, List.sum_cons, ih, List.length_cons]; omega
theorem cells3' : Tryd.prog.cellsOf 3 = 1 := by kernel_rfl
section
variable {H : Type} {enc : TypeId × Value → H} {W : World}
theorem open_ints {fuel : Nat} {v : Value} {x : DataW H × List MemPlace} (hc : Tryd.prog.cellsOf 3 = 1) (h : DataW.trod enc Tryd.prog W 0 (fun _ => true) true fuel 38 [v] = some x) : ∃ zs : List Int, RdInts W v zs ∧ zs.length ≤ Rows.uptoBulk x.1 := by
  rcases Deep.open_slice1 Tryd.underlying38 hc h with ⟨hcs, rfl⟩ | ⟨a, len, cap, m, n, V, D, Pl, hcs, _, hl, _, hm, rfl, hx⟩
  · simp at hcs
    subst hcs
    exact ⟨[], ⟨_, _, rfl, Cells.nil _ _⟩, by simp⟩
  · simp at hcs hm
    subst hcs hm
    have each : ∀ i, i < len → ∃ z : Int, V i = .int .i64 z := fun i hi => by
      obtain ⟨z, hz, _, _⟩ := DataW.trod_int Tryd.underlying3 (hx i (by omega)).2
      simp at hz
      exact ⟨z, hz⟩
    obtain ⟨Z, hZ⟩ := Deep.choose_lt each
    refine ⟨(List.range len).map Z, ⟨some a, m, by simp, fun hn => ?_⟩, ?_⟩
    · have h0 : 0 < len := by
        rcases Nat.eq_zero_or_pos len with h1 | h1
        · subst h1; simp at hn
        · exact h1
      obtain ⟨b, off, spot⟩ := a
      have hspot : spot = none := by simpa [Addr.add] using World.cell?_spot (hx 0 (by omega)).1
      subst hspot
      refine ⟨b, off, rfl, fun j u hu => ?_⟩
      have hj : j < len := by
        have := (List.getElem?_eq_some_iff.1 hu).1
        simpa using this
      have h2 := (hx j (by omega)).1
      rw [add_none] at h2
      rw [h2, hZ j hj]
      simp [hj] at hu
      rw [hu]
    · simp only [Rows.uptoBulk]
      have h3 := bulk_map (H := H) (List.range len) D (fun _ => 1) (fun i hi => by
        have h4 := (hx i (by have := List.mem_range.1 hi; omega)).2
        obtain ⟨z, _, h5, _⟩ := DataW.trod_int Tryd.underlying3 h4
        rw [(Prod.mk.inj h5).1]
        simp [Rows.uptoBulk])
      have h6 : ((List.range len).map fun _ => 1).sum = len := (sum_ones _).trans (by simp)
      rw [h6] at h3
      simp
      omega
set_option maxRecDepth 100000 in
theorem open_intsT {r : Reach} {b0 : Nat} {v : Value} {d : DataW H} {p : List MemPlace} (hv : Value.okWide Tryd.prog W r b0 38 v) (h : DataW.Trod enc Tryd.prog W 0 (fun _ => true) true 38 v d p) : ∃ zs : List Int, RdInts W v zs ∧ zs.length ≤ Rows.uptoBulk d := by
  obtain ⟨A, n, c, rfl⟩ := WideShapes.okWide_slice Tryd.underlying38 hv
  obtain ⟨fuel, hf⟩ := h
  exact open_ints cells3' hf
end
end Go.Proofs.YtcdhbfhijkdfoaaDoor
/-! FnNested: a table within a text within a text. -/
namespace Go.Proofs.YtcdhbfhijkdfoaaDoor
open Go.EC Go.RowKit
theorem nested (v0 v1 : Value) (tbl : List (List Bytes)) (zs : List Int) (er : Nat → Addr) (w : World) (hG : Glob w er) (hU : Lib.Utf8Tabs 10 11 w) (hT : RdTab w v0 tbl) (hZ : RdInts w v1 zs) (hwt : wTab tbl ≤ 1048576) (hzl : zs.length ≤ 1048576) :
    Ret Tryd.prog 9 #[v0, v1] w fun v w' => v = .bool true ∧ Only (fun _ => False) w w' := by
  refine ret_of_W Tryd.func9 rfl (Nat.le_of_ble_eq_true rfl) ?_
  have htn := wTab_len tbl
  have hrow : ∀ fs ∈ tbl, fs.length ≤ 1048576 ∧ ∀ f ∈ fs, f.length ≤ 1048576 := fun fs hfs => by
    have h1 := wTab_mem hfs
    have h2 := wRow_len fs
    exact ⟨by omega, fun f hf => by have := wRow_mem hf; omega⟩
  obtain ⟨A0, c0, rows0', hv0, hl0, hcs0, hrd0⟩ := id hT
  have tabs : ∀ w', Only (fun _ => False) w w' → Glob w' er ∧ Lib.Utf8Tabs 10 11 w' := fun w' ho => by
    have h12 : 11 < w.heap.size := cell_lt (hU.2 0 (by decide)).1
    exact ⟨hG.only ho fun _ h => h.elim, ⟨fun i hi => (World.cell?_of_block (ho.block 10 (by omega) id)).trans (hU.1 i hi), fun i hi => ⟨(World.cell?_of_block (ho.block 11 h12 id)).trans (hU.2 i hi).1, (World.cell?_of_block (ho.block 11 h12 id)).trans (hU.2 i hi).2⟩⟩⟩
  have hprop : Ret Tryd.prog 21 #[v0] w fun u w' => u = .bool (properB tbl) ∧ w = w' := proper_ok v0 tbl w hT (by omega) fun fs hfs => ⟨by have := (hrow fs hfs).1; omega, fun f hf => by have := (hrow fs hfs).2 f hf; omega⟩
  have hnum : ∀ (i : Nat) w1, i ≤ 1048576 → Only (fun _ => False) w w1 → Ret Tryd.prog 24 #[v1, .int .i64 (i : Int)] w1 fun u w' => u = .int .i64 (numB zs i) ∧ w1 = w' := fun i w1 hi ho => number_ok v1 zs i w1 (hZ.new ho) hzl (by omega)
  cases hpr : properB tbl
  · rw [hpr] at hprop
    conv => arg 3; whnf
    refine W_seq ?_
    refine W_region ?_
    refine V (x_assign (by conv => lhs; whnf)) rfl ?_
    refine WL_nil ?_
    refine W_seq ?_
    refine W_seq ?_
    refine W_region ?_
    refine V (x_move (by conv => lhs; whnf)) rfl ?_
    refine C (x_call1 cf21 (by conv => lhs; whnf)) rfl ?_
    refine hprop.mono fun v w2 h2 => ?_
    obtain ⟨rfl, rfl⟩ := h2
    refine V (x_not rfl) rfl ?_
    refine WL_nil ?_
    refine W_true (rfl) ?_
    refine W_seq ?_
    refine W_region ?_
    refine V (x_assign (by conv => lhs; whnf)) rfl ?_
    refine WL_nil ?_
    refine W_ret ?_
    repeat (with_reducible (first | refine rt ?_ | refine rb ?_))
    exact bodyE_1 rfl rfl ⟨rfl, Only.refl _ _⟩
  rw [hpr] at hprop
  have hsp := properB_spec hpr
  have hA1 : Only (fun _ => False) w (w.alloc (.cells [Value.int .i32 44, .int .i32 59, .int .i32 124, .int .i32 8594].toArray 21)) := Only.alloc _ _ _
  have hC1 : Blk (w.alloc (.cells [Value.int .i32 44, .int .i32 59, .int .i32 124, .int .i32 8594].toArray 21)) w.heap.size 21 cmV := Blk.new _ _ _
  have hcg : (w.alloc (.cells [Value.int .i32 44, .int .i32 59, .int .i32 124, .int .i32 8594].toArray 21)).heap.size = w.heap.size + 1 := by simp
  generalize hwA : w.alloc (.cells [Value.int .i32 44, .int .i32 59, .int .i32 124, .int .i32 8594].toArray 21) = wA at *
  have hA2 : Only (fun _ => False) wA (wA.alloc (.cells [strV []].toArray 9)) := Only.alloc _ _ _
  have hT1 : Blk (wA.alloc (.cells [strV []].toArray 9)) wA.heap.size 9 [strV []] := Blk.new _ _ _
  generalize hwB : wA.alloc (.cells [strV []].toArray 9) = wB at *
  generalize hgE : wA.heap.size = gt at *
  have hC2 := hC1.only hA2 id
  have hwO : Only (fun _ => False) w wB := hA1.trans hA2
  conv => arg 3; whnf
  refine W_seq ?_
  refine W_region ?_
  refine V (x_assign (by conv => lhs; whnf)) rfl ?_
  refine WL_nil ?_
  refine W_seq ?_
  refine W_seq ?_
  refine W_region ?_
  refine V (x_move (by conv => lhs; whnf)) rfl ?_
  refine C (x_call1 cf21 (by conv => lhs; whnf)) rfl ?_
  refine hprop.mono fun v w2 h2 => ?_
  obtain ⟨rfl, rfl⟩ := h2
  refine V (x_not rfl) rfl ?_
  refine WL_nil ?_
  refine W_false (rfl) ?_
  refine W_skip ?_
  refine W_seq ?_
  refine W_region ?_
  refine V (x_bs4 (v := .int .i32 44) (u := .int .i32 59) (u3 := .int .i32 124) (u4 := .int .i32 8594) Tryd.underlying43 sz21 zv21 rfl rfl rfl rfl rfl rfl rfl rfl rfl) rfl ?_
  refine V (x_assign (by conv => lhs; whnf)) rfl ?_
  refine WL_nil ?_
  rw [hwA]
  refine W_seq ?_
  refine W_region ?_
  refine V (x_bs1 (v := strV []) Tryd.underlying30 sz9 zv9 rfl rfl rfl) rfl ?_
  refine V (x_assign (by conv => lhs; whnf)) rfl ?_
  refine WL_nil ?_
  rw [hwB, hgE]
  refine W_seq ?_
  refine W_seq ?_
  refine W_region ?_
  refine V (x_move (by conv => lhs; whnf)) rfl ?_
  refine V (x_len_slice Tryd.underlying27 hv0) rfl ?_
  refine V (x_move (by conv => lhs; whnf)) rfl ?_
  refine WL_nil ?_
  refine W_block ?_
  refine W_loop (fun K e w' => ∃ i : Nat, i ≤ tbl.length ∧ K = tbl.length - i ∧ e 0 = v0 ∧ e 1 = v1 ∧ e 5 = .slice (some ⟨w.heap.size, 0, none⟩) 4 4 ∧ e 6 = .slice (some ⟨gt, 0, none⟩) 1 1 ∧ e 22 = v0 ∧ e 23 = .int .i64 (tbl.length : Int) ∧ e 24 = .int .i64 (i : Int) ∧ Blk w' w.heap.size 21 cmV ∧ Blk w' gt 9 [strV (text0 zs 0 (tbl.take i))] ∧ Only (fun _ => False) w w') (k0 := tbl.length) ⟨0, Nat.zero_le _, by omega, rfl, rfl, rfl, rfl, rfl, rfl, rfl, hC2, hT1, hwO⟩ ?_
  rintro K e w2 ⟨i, hi, rfl, e0, e1, e5, e6, e22, e23, e24, hCi, hTi, hw2⟩
  have htl := text0_len zs 0 (tbl.take i)
  have htw := wTab_take tbl i
  by_cases hlt : i < tbl.length
  · obtain ⟨g1, o1, d1, u1, hwv, hc1, hr1⟩ := (hT.new hw2).at_ hlt
    have hfn := hrow _ (List.getElem_mem hlt)
    have hwm := wTab_mem (List.getElem_mem hlt)
    have htake : tbl.take (i + 1) = tbl.take i ++ [tbl[i]] := List.take_succ_eq_append_getElem hlt
    generalize hfs : tbl[i] = fs at hr1 hfn htake hwm
    have hsn := text0_snoc zs 0 (tbl.take i) fs
    rw [← htake, List.length_take, Nat.zero_add, Nat.min_eq_left (by omega)] at hsn
    have hrq := rowG_len (cm := [44]) (by simp) (numB zs i) fs
    have hnumi : ∀ w1, Only (fun _ => False) w w1 → Ret Tryd.prog 24 #[v1, .int .i64 (i : Int)] w1 fun u w' => u = .int .i64 (numB zs i) ∧ w1 = w' := fun w1 ho => hnum i w1 (by omega) ho
    have hrw : ∀ w1, Only (fun _ => False) w2 w1 → Ret Tryd.prog 22 #[u1, strV [44], strV [], .int .i64 (numB zs i)] w1 fun u w3 => u = strV (rowG [44] (numB zs i) fs) ∧ Only (fun _ => False) w1 w3 := fun w1 ho => Row_g u1 fs [44] (numB zs i) w1 (hr1.new ho) (by simp) (by omega) (fun f hf => by have := hfn.2 f hf; omega) (by omega)
    generalize hout : text0 zs 0 (tbl.take i) = out at *
    generalize hrg : rowG [44] (numB zs i) fs = rg at *
    have eE : e = upd (upd (upd (upd (upd (upd (upd e 0 v0) 1 v1) 5 (.slice (some ⟨w.heap.size, 0, none⟩) 4 4)) 6 (.slice (some ⟨gt, 0, none⟩) 1 1)) 22 (.slice (some ⟨g1, o1, none⟩) tbl.length d1)) 23 (.int .i64 (tbl.length : Int))) 24 (.int .i64 (i : Int)) := by simp only [upd_self e0, upd_self e1, upd_self e5, upd_self e6, upd_self (e22.trans hwv), upd_self e23, upd_self e24]
    rw [eE]
    refine W_seq ?_
    refine W_region ?_
    refine V (x_bin rfl rfl (bt (decide_eq_true (by omega)))) rfl ?_
    refine WL_nil ?_
    refine W_seq ?_
    refine W_true (rfl) ?_
    refine W_skip ?_
    refine W_seq ?_
    refine W_block ?_
    refine W_seq ?_
    refine W_region ?_
    refine V (x_move (by conv => lhs; whnf)) rfl ?_
    refine V (x_index (i := i) Tryd.underlying27 sz30 rfl rfl rfl (by omega)) rfl ?_
    refine V (x_load ld30 rfl hc1) rfl ?_
    refine V (x_assign (by conv => lhs; whnf)) rfl ?_
    refine V (x_assign (by conv => lhs; whnf)) rfl ?_
    refine WL_nil ?_
    refine W_draw mixed ?_
    have hT3 : Blk (dr w2) gt 9 [strV out] := hTi.drew
    have hC3 : Blk (dr w2) w.heap.size 21 cmV := hCi.drew
    have hd3 : Only (fun _ => False) w2 (dr w2) := Only.drew _ _
    have hw3 := hw2.trans hd3
    have fin : ∀ {w4 : World}, Only (fun _ => False) (dr w2) w4 → Blk (w4.setCell ⟨gt, 0, none⟩ (strV (out ++ (rg ++ [10])))) w.heap.size 21 cmV ∧ Blk (w4.setCell ⟨gt, 0, none⟩ (strV (out ++ (rg ++ [10])))) gt 9 [strV (text0 zs 0 (tbl.take (i + 1)))] ∧ Only (fun _ => False) w (w4.setCell ⟨gt, 0, none⟩ (strV (out ++ (rg ++ [10])))) := by
      intro w4 ho4
      refine ⟨(hC3.only ho4 id).far (show w.heap.size ≠ gt by omega) _, by rw [hsn]; exact (hT3.only ho4 id).set 0 _, (hw3.trans ho4).then_ (Only.setCell (· = gt) _ rfl _) fun k hk h => by omega⟩
    refine D_pure (i := 0) (listed' := #[true, false, false, false, false, false, false, false, false, false, false, false]) (by kernel_rfl) (by kernel_rfl) (by kernel_rfl) rfl (by kernel_rfl) (fun _ => x_move (by conv => lhs; whnf)) rfl ?_
    refine D_pure (i := 1) (listed' := #[true, true, false, false, false, false, false, false, false, false, false, false]) (by kernel_rfl) (by kernel_rfl) (by kernel_rfl) rfl (by kernel_rfl) (fun _ => x_index (i := 0) Tryd.underlying30 sz9 rfl rfl rfl (by omega)) rfl ?_
    refine D_pure (i := 3) (listed' := #[true, true, false, true, false, false, false, false, false, false, false, false]) (by kernel_rfl) (by kernel_rfl) (by kernel_rfl) rfl (by kernel_rfl) (fun _ => x_move (by conv => lhs; whnf)) rfl ?_
    refine D_pure (i := 4) (listed' := #[true, true, false, true, true, false, false, false, false, false, false, false]) (by kernel_rfl) (by kernel_rfl) (by kernel_rfl) rfl (by kernel_rfl) (fun _ => x_move (by conv => lhs; whnf)) rfl ?_
    refine D_pure (i := 5) (listed' := #[true, true, false, true, true, true, false, false, false, false, false, false]) (by kernel_rfl) (by kernel_rfl) (by kernel_rfl) rfl (by kernel_rfl) (fun _ => x_move (by conv => lhs; whnf)) rfl ?_
    refine WA_two (i := 2) (j := 6) (by kernel_rfl) ?_ ?_
    · skip
      refine WO_val (listed' := #[true, true, true, true, true, true, false, false, false, false, false, false]) (by kernel_rfl) rfl (by kernel_rfl) (x_load ld9 rfl (hT3.cell 0 rfl)) rfl ?_
      refine D_oneC (i := 6) (listed' := #[true, true, true, true, true, true, true, false, false, false, false, false]) (by kernel_rfl) rfl (by kernel_rfl) (x_call2 cf24 (by conv => lhs; whnf) (by conv => lhs; whnf)) rfl ?_
      refine (hnumi _ hw3).mono fun v w4 h4 => ?_
      obtain ⟨rfl, rfl⟩ := h4
      refine D_oneC (i := 7) (listed' := #[true, true, true, true, true, true, true, true, false, false, false, false]) (by kernel_rfl) rfl (by kernel_rfl) (x_call4 cf22 (by conv => lhs; whnf) (by conv => lhs; whnf) (by conv => lhs; whnf) (by conv => lhs; whnf)) rfl ?_
      refine (hrw _ hd3).mono fun v w4 h4 => ?_
      obtain ⟨rfl, ho4⟩ := h4
      have hT4 := hT3.only ho4 id
      refine D_pure (i := 8) (listed' := #[true, true, true, true, true, true, true, true, true, false, false, false]) (by kernel_rfl) (by kernel_rfl) (by kernel_rfl) rfl (by kernel_rfl) (fun _ => x_sv_add (m := [10]) rfl rfl (by simp; omega)) rfl ?_
      refine D_pure (i := 9) (listed' := #[true, true, true, true, true, true, true, true, true, true, false, false]) (by kernel_rfl) (by kernel_rfl) (by kernel_rfl) rfl (by kernel_rfl) (fun _ => x_sv_add rfl rfl (by simp; omega)) rfl ?_
      refine D_pure (i := 10) (listed' := #[true, true, true, true, true, true, true, true, true, true, true, false]) (by kernel_rfl) (by kernel_rfl) (by kernel_rfl) rfl (by kernel_rfl) (fun _ => x_index (i := 0) Tryd.underlying30 sz9 rfl rfl rfl (by omega)) rfl ?_
      refine D_oneS (i := 11) (listed' := #[true, true, true, true, true, true, true, true, true, true, true, true]) (by kernel_rfl) rfl (by kernel_rfl) (x_store st9 rfl (by conv => lhs; whnf) rfl (hT4.cell 0 rfl) (hT4.free 0)) ?_
      refine WA_done (by kernel_rfl) ?_
      refine W_region ?_
      refine V (x_bin rfl rfl (ib_addn (m := i + 1) (by omega) (by omega))) rfl ?_
      refine V (x_move (by conv => lhs; whnf)) rfl ?_
      refine WL_nil ?_
      repeat (first | with_reducible refine xt ?_ | with_reducible refine xb ?_ | with_reducible refine nt ?_ | with_reducible refine nb ?_ | with_reducible refine xn rfl ?_)
      have hf := fin ho4
      exact ⟨tbl.length - (i + 1), by omega, i + 1, by omega, rfl, rfl, rfl, rfl, rfl, hwv.symm, rfl, rfl, hf.1, hf.2.1, hf.2.2⟩
    · skip
      refine WO_call (listed' := #[true, true, false, true, true, true, true, false, false, false, false, false]) (by kernel_rfl) rfl (by kernel_rfl) (x_call2 cf24 (by conv => lhs; whnf) (by conv => lhs; whnf)) rfl ?_
      refine (hnumi _ hw3).mono fun v w4 h4 => ?_
      obtain ⟨rfl, rfl⟩ := h4
      refine WA_two (i := 2) (j := 7) (by kernel_rfl) ?_ ?_
      · skip
        refine WO_val (listed' := #[true, true, true, true, true, true, true, false, false, false, false, false]) (by kernel_rfl) rfl (by kernel_rfl) (x_load ld9 rfl (hT3.cell 0 rfl)) rfl ?_
        refine D_oneC (i := 7) (listed' := #[true, true, true, true, true, true, true, true, false, false, false, false]) (by kernel_rfl) rfl (by kernel_rfl) (x_call4 cf22 (by conv => lhs; whnf) (by conv => lhs; whnf) (by conv => lhs; whnf) (by conv => lhs; whnf)) rfl ?_
        refine (hrw _ hd3).mono fun v w4 h4 => ?_
        obtain ⟨rfl, ho4⟩ := h4
        have hT4 := hT3.only ho4 id
        refine D_pure (i := 8) (listed' := #[true, true, true, true, true, true, true, true, true, false, false, false]) (by kernel_rfl) (by kernel_rfl) (by kernel_rfl) rfl (by kernel_rfl) (fun _ => x_sv_add (m := [10]) rfl rfl (by simp; omega)) rfl ?_
        refine D_pure (i := 9) (listed' := #[true, true, true, true, true, true, true, true, true, true, false, false]) (by kernel_rfl) (by kernel_rfl) (by kernel_rfl) rfl (by kernel_rfl) (fun _ => x_sv_add rfl rfl (by simp; omega)) rfl ?_
        refine D_pure (i := 10) (listed' := #[true, true, true, true, true, true, true, true, true, true, true, false]) (by kernel_rfl) (by kernel_rfl) (by kernel_rfl) rfl (by kernel_rfl) (fun _ => x_index (i := 0) Tryd.underlying30 sz9 rfl rfl rfl (by omega)) rfl ?_
        refine D_oneS (i := 11) (listed' := #[true, true, true, true, true, true, true, true, true, true, true, true]) (by kernel_rfl) rfl (by kernel_rfl) (x_store st9 rfl (by conv => lhs; whnf) rfl (hT4.cell 0 rfl) (hT4.free 0)) ?_
        refine WA_done (by kernel_rfl) ?_
        refine W_region ?_
        refine V (x_bin rfl rfl (ib_addn (m := i + 1) (by omega) (by omega))) rfl ?_
        refine V (x_move (by conv => lhs; whnf)) rfl ?_
        refine WL_nil ?_
        repeat (first | with_reducible refine xt ?_ | with_reducible refine xb ?_ | with_reducible refine nt ?_ | with_reducible refine nb ?_ | with_reducible refine xn rfl ?_)
        have hf := fin ho4
        exact ⟨tbl.length - (i + 1), by omega, i + 1, by omega, rfl, rfl, rfl, rfl, rfl, hwv.symm, rfl, rfl, hf.1, hf.2.1, hf.2.2⟩
      · skip
        refine WO_call (listed' := #[true, true, false, true, true, true, true, true, false, false, false, false]) (by kernel_rfl) rfl (by kernel_rfl) (x_call4 cf22 (by conv => lhs; whnf) (by conv => lhs; whnf) (by conv => lhs; whnf) (by conv => lhs; whnf)) rfl ?_
        refine (hrw _ hd3).mono fun v w4 h4 => ?_
        obtain ⟨rfl, ho4⟩ := h4
        have hT4 := hT3.only ho4 id
        refine D_pure (i := 8) (listed' := #[true, true, false, true, true, true, true, true, true, false, false, false]) (by kernel_rfl) (by kernel_rfl) (by kernel_rfl) rfl (by kernel_rfl) (fun _ => x_sv_add (m := [10]) rfl rfl (by simp; omega)) rfl ?_
        refine D_one (i := 2) (listed' := #[true, true, true, true, true, true, true, true, true, false, false, false]) (by kernel_rfl) rfl (by kernel_rfl) (x_load ld9 rfl (hT4.cell 0 rfl)) rfl ?_
        refine D_pure (i := 9) (listed' := #[true, true, true, true, true, true, true, true, true, true, false, false]) (by kernel_rfl) (by kernel_rfl) (by kernel_rfl) rfl (by kernel_rfl) (fun _ => x_sv_add rfl rfl (by simp; omega)) rfl ?_
        refine D_pure (i := 10) (listed' := #[true, true, true, true, true, true, true, true, true, true, true, false]) (by kernel_rfl) (by kernel_rfl) (by kernel_rfl) rfl (by kernel_rfl) (fun _ => x_index (i := 0) Tryd.underlying30 sz9 rfl rfl rfl (by omega)) rfl ?_
        refine D_oneS (i := 11) (listed' := #[true, true, true, true, true, true, true, true, true, true, true, true]) (by kernel_rfl) rfl (by kernel_rfl) (x_store st9 rfl (by conv => lhs; whnf) rfl (hT4.cell 0 rfl) (hT4.free 0)) ?_
        refine WA_done (by kernel_rfl) ?_
        refine W_region ?_
        refine V (x_bin rfl rfl (ib_addn (m := i + 1) (by omega) (by omega))) rfl ?_
        refine V (x_move (by conv => lhs; whnf)) rfl ?_
        refine WL_nil ?_
        repeat (first | with_reducible refine xt ?_ | with_reducible refine xb ?_ | with_reducible refine nt ?_ | with_reducible refine nb ?_ | with_reducible refine xn rfl ?_)
        have hf := fin ho4
        exact ⟨tbl.length - (i + 1), by omega, i + 1, by omega, rfl, rfl, rfl, rfl, rfl, hwv.symm, rfl, rfl, hf.1, hf.2.1, hf.2.2⟩
  · have hif : tbl.take i = tbl := List.take_of_length_le (by omega)
    rw [hif] at hTi
    have hO0 : Own w2 9 1 (.slice (some ⟨gt, 0, none⟩) 1 1) 1 (nsts zs tbl 1) := own_blk1 hTi
    have eE : e = upd (upd (upd (upd (upd (upd e 0 v0) 1 v1) 5 (.slice (some ⟨w.heap.size, 0, none⟩) 4 4)) 6 (.slice (some ⟨gt, 0, none⟩) 1 1)) 23 (.int .i64 (tbl.length : Int))) 24 (.int .i64 (i : Int)) := by simp only [upd_self e0, upd_self e1, upd_self e5, upd_self e6, upd_self e23, upd_self e24]
    rw [eE]
    refine W_seq ?_
    refine W_region ?_
    refine V (x_bin rfl rfl (bf (decide_eq_false (by omega)))) rfl ?_
    refine WL_nil ?_
    refine W_seq ?_
    refine W_false (rfl) ?_
    refine W_exit ?_
    repeat (first | with_reducible refine xt ?_ | with_reducible refine xb ?_ | with_reducible refine nt ?_ | with_reducible refine nb ?_ | with_reducible refine xn rfl ?_)
    refine W_seq ?_
    refine W_seq ?_
    refine W_region ?_
    refine V (x_assign (by conv => lhs; whnf)) rfl ?_
    refine WL_nil ?_
    refine W_block ?_
    refine W_loop (fun K e w' => ∃ (d : Nat) (v6 : Value), 1 ≤ d ∧ d ≤ 4 ∧ K = 4 - d ∧ e 0 = v0 ∧ e 1 = v1 ∧ e 5 = .slice (some ⟨w.heap.size, 0, none⟩) 4 4 ∧ e 6 = v6 ∧ e 9 = .int .i64 (d : Int) ∧ Blk w' w.heap.size 21 cmV ∧ Own w' 9 1 v6 d (nsts zs tbl d) ∧ (∀ k, v6.ownBlock = some k → w.heap.size < k) ∧ Only (fun _ => False) w w') (k0 := 3) ⟨1, _, by omega, by omega, rfl, rfl, rfl, rfl, rfl, rfl, hCi, hO0, fun k hk => by have hk' : gt = k := Option.some.inj hk; omega, hw2⟩ ?_
    rintro K e2 w3 ⟨d, v6, hd1, hd4, rfl, k0, k1, k5, k6, k9, hC3, hOw, hob, hw3⟩
    by_cases hlt2 : d < 4
    · obtain ⟨D, rfl⟩ : ∃ D, d = D + 1 := ⟨d - 1, by omega⟩
      obtain ⟨A6, c6, hv6, hnc, hcm6⟩ := hOw.form
      obtain ⟨g6, hA6, hb6, hcell⟩ := hOw.cell hv6 (fun hh => by have := nsts_len zs tbl (D + 1); rw [hh] at this; simp at this)
      subst hA6
      have hcD : w3.cell? ⟨g6, 0 + D, none⟩ = some (strV (nst zs tbl D)) := by rw [Nat.zero_add]; exact hcell D _ (nsts_at (by omega))
      have hcom : w3.cell? ⟨w.heap.size, 0 + (D + 1), none⟩ = some (.int .i32 (cOf (D + 1))) := by rw [Nat.zero_add]; exact hC3.cell (D + 1) (cmV_at (by omega))
      have hcl := (cm_of (D + 1)).len.2
      have hce := (cm_of (D + 1)).enc
      have hTl := (nst_len (zs := zs) hwt (d := D) (by omega)).2 (by omega)
      have hnl := nestT_len hcl (numB zs (D + 1)) (nst zs tbl D)
      have hns := nsts_succ zs tbl (D + 1)
      have hN : nst zs tbl (D + 1) = nestT (cmOf (D + 1)) (numB zs (D + 1)) (nst zs tbl D) := rfl
      rw [hN] at hns
      have hnumD : ∀ w1, Only (fun _ => False) w w1 → Ret Tryd.prog 24 #[v1, .int .i64 ((D + 1 : Nat) : Int)] w1 fun u w' => u = .int .i64 (numB zs (D + 1)) ∧ w1 = w' := fun w1 ho => hnum (D + 1) w1 (by omega) ho
      have hR1 : ∀ w1, Ret Tryd.prog 22 #[.slice (some ⟨w1.heap.size, 0, none⟩) 2 2, strV (cmOf (D + 1)), strV [], .int .i64 (numB zs (D + 1))] (w1.alloc (.cells [strV [120], strV (nst zs tbl D)].toArray 9)) fun u w' => u = strV (rowG (cmOf (D + 1)) (numB zs (D + 1)) [[120], nst zs tbl D]) ∧ Only (fun _ => False) w1 w' := fun w1 =>
        (Row_g _ [[120], nst zs tbl D] (cmOf (D + 1)) (numB zs (D + 1)) _ (rdRow_blk (fs := [[120], nst zs tbl D]) (Blk.new w1 9 [strV [120], strV (nst zs tbl D)]) rfl) hcl (by simp) (fun f hf => by
          simp only [List.mem_cons, List.mem_nil_iff, or_false] at hf
          rcases hf with rfl | rfl
          · simp
          · omega) (by omega)).mono fun u w' h => ⟨h.1, (Only.alloc _ w1 _).trans h.2⟩
      have hR2 : ∀ w1, Ret Tryd.prog 22 #[.slice (some ⟨w1.heap.size, 0, none⟩) 3 3, strV (cmOf (D + 1)), strV [], .int .i64 0] (w1.alloc (.cells [strV (nst zs tbl D), strV [], strV [121]].toArray 9)) fun u w' => u = strV (rowG (cmOf (D + 1)) 0 [nst zs tbl D, [], [121]]) ∧ Only (fun _ => False) w1 w' := fun w1 =>
        (Row_g _ [nst zs tbl D, [], [121]] (cmOf (D + 1)) 0 _ (rdRow_blk (fs := [nst zs tbl D, [], [121]]) (Blk.new w1 9 [strV (nst zs tbl D), strV [], strV [121]]) rfl) hcl (by simp) (fun f hf => by
          simp only [List.mem_cons, List.mem_nil_iff, or_false] at hf
          rcases hf with rfl | rfl | rfl
          · omega
          · simp
          · simp) (by omega)).mono fun u w' h => ⟨h.1, (Only.alloc _ w1 _).trans h.2⟩
      have hnE : ((rowG (cmOf (D + 1)) (numB zs (D + 1)) [[120], nst zs tbl D] ++ [10]) ++ rowG (cmOf (D + 1)) 0 [nst zs tbl D, [], [121]]) ++ [10] = nestT (cmOf (D + 1)) (numB zs (D + 1)) (nst zs tbl D) := rfl
      generalize nestT (cmOf (D + 1)) (numB zs (D + 1)) (nst zs tbl D) = NT at *
      generalize nst zs tbl D = T at *
      generalize numB zs (D + 1) = nb at *
      generalize cmOf (D + 1) = cm at *
      generalize rowG cm nb [[120], T] = r1 at *
      generalize rowG cm 0 [T, [], [121]] = r2 at *
      have eF : e2 = upd (upd (upd (upd (upd e2 0 v0) 1 v1) 5 (.slice (some ⟨w.heap.size, 0, none⟩) 4 4)) 6 (.slice (some ⟨g6, 0, none⟩) (D + 1) c6)) 9 (.int .i64 ((D + 1 : Nat) : Int)) := by simp only [upd_self k0, upd_self k1, upd_self k5, upd_self (k6.trans hv6), upd_self k9]
      rw [eF]
      rw [hv6] at hOw hob
      have hwgt : w.heap.size < w3.heap.size := hC3.lt
      refine W_seq ?_
      refine W_seq ?_
      refine W_region ?_
      refine V (x_move (by conv => lhs; whnf)) rfl ?_
      refine V (x_bin rfl rfl (bt (decide_eq_true (by omega)))) rfl ?_
      refine WL_nil ?_
      refine W_true (rfl) ?_
      refine W_skip ?_
      refine W_seq ?_
      refine W_block ?_
      refine W_seq ?_
      refine W_region ?_
      refine V (x_move (by conv => lhs; whnf)) rfl ?_
      refine V (x_move (by conv => lhs; whnf)) rfl ?_
      refine V (x_bin rfl rfl (ib_subn (m := D) (by omega) (by omega))) rfl ?_
      refine V (x_index (i := D) Tryd.underlying30 sz9 rfl rfl rfl (by omega)) rfl ?_
      refine V (x_load ld9 rfl hcD) rfl ?_
      refine V (x_assign (by conv => lhs; whnf)) rfl ?_
      refine WL_nil ?_
      refine W_seq ?_
      refine W_region ?_
      refine V (x_move (by conv => lhs; whnf)) rfl ?_
      refine V (x_move (by conv => lhs; whnf)) rfl ?_
      refine V (x_index (i := D + 1) Tryd.underlying43 sz21 rfl rfl rfl (by omega)) rfl ?_
      refine V (x_load ld21 rfl hcom) rfl ?_
      refine V (x_rune_sv (l := cm) Tryd.underlying21 Tryd.underlying9 rfl hce) rfl ?_
      refine V (x_assign (by conv => lhs; whnf)) rfl ?_
      refine WL_nil ?_
      refine W_region ?_
      refine V (x_move (by conv => lhs; whnf)) rfl ?_
      refine V (x_move (by conv => lhs; whnf)) rfl ?_
      refine V (x_bs2 (v := strV [120]) (u := strV T) Tryd.underlying30 sz9 zv9 rfl rfl rfl rfl rfl) rfl ?_
      refine V (x_move (by conv => lhs; whnf)) rfl ?_
      refine V (x_move (by conv => lhs; whnf)) rfl ?_
      refine V (x_move (by conv => lhs; whnf)) rfl ?_
      refine C (x_call2 cf24 (by conv => lhs; whnf) (by conv => lhs; whnf)) rfl ?_
      refine (hnumD _ (hw3.trans (Only.alloc _ _ _))).mono fun v w4 h4 => ?_
      obtain ⟨rfl, rfl⟩ := h4
      refine C (x_call4 cf22 (by conv => lhs; whnf) (by conv => lhs; whnf) (by conv => lhs; whnf) (by conv => lhs; whnf)) rfl ?_
      refine (hR1 _).mono fun v w4 h4 => ?_
      obtain ⟨rfl, ho4⟩ := h4
      refine V (x_sv_add (m := [10]) rfl rfl (by simp; omega)) rfl ?_
      refine V (x_move (by conv => lhs; whnf)) rfl ?_
      refine V (x_bs3 (v := strV T) (u := strV []) (u3 := strV [121]) Tryd.underlying30 sz9 zv9 rfl rfl rfl rfl rfl rfl rfl) rfl ?_
      refine V (x_move (by conv => lhs; whnf)) rfl ?_
      refine C (x_call4 cf22 (by conv => lhs; whnf) (by conv => lhs; whnf) (by conv => lhs; whnf) (by conv => lhs; whnf)) rfl ?_
      refine (hR2 _).mono fun v w5 h5 => ?_
      obtain ⟨rfl, ho5⟩ := h5
      refine V (x_sv_add rfl rfl (by simp; omega)) rfl ?_
      refine V (x_sv_add (m := [10]) rfl rfl (by simp; omega)) rfl ?_
      refine V (x_bs1 (v := strV NT) Tryd.underlying30 sz9 zv9 rfl (congrArg strV hnE) rfl) rfl ?_
      have hA5 : Only (fun _ => False) w5 (w5.alloc (.cells [strV NT].toArray 9)) := Only.alloc _ _ _
      have hn5 := (ho4.trans ho5).trans hA5
      refine VE (x_append (news := [strV NT]) eT9 (by conv => lhs; whnf) (by conv => lhs; whnf) (hOw.only hn5 (fun _ _ => id)) rfl (Cells.of_blk (Blk.new _ _ _)) (by intro u hu; rw [List.mem_singleton] at hu; subst hu; rfl) (by omega) (by unfold maxLen; omega)) rfl ?_
      rintro va w7 ⟨hown7, ho7, hat7⟩
      refine V (x_assign (by conv => lhs; whnf)) rfl ?_
      refine WL_nil ?_
      refine W_region ?_
      refine V (x_move (by conv => lhs; whnf)) rfl ?_
      refine V (x_bin rfl rfl (ib_addn (m := D + 1 + 1) (by omega) (by omega))) rfl ?_
      refine V (x_assign (by conv => lhs; whnf)) rfl ?_
      refine WL_nil ?_
      repeat (first | with_reducible refine xt ?_ | with_reducible refine xb ?_ | with_reducible refine nt ?_ | with_reducible refine nb ?_ | with_reducible refine xn rfl ?_)
      refine ⟨4 - (D + 1 + 1), by omega, D + 1 + 1, va, by omega, by omega, rfl, rfl, rfl, rfl, rfl, rfl, (hC3.only hn5 id).only ho7 (fun hk => Nat.lt_irrefl _ (hob _ hk)), by rw [hns]; exact hown7, fun k hk => ?_, (hw3.trans hn5).then_ ho7 fun k hk h => by have := hob k h; omega⟩
      rcases hat7 with h8 | h8
      · rw [h8] at hk; exact hob k hk
      · rw [h8] at hk; injection hk with hk; have := hn5.size; omega
    · obtain rfl : d = 4 := by omega
      obtain ⟨A6, c6, hv6, hnc, hcm6⟩ := hOw.form
      have eG : e2 = upd (upd (upd (upd e2 0 v0) 5 (.slice (some ⟨w.heap.size, 0, none⟩) 4 4)) 6 v6) 9 (.int .i64 ((4 : Nat) : Int)) := by simp only [upd_self k0, upd_self k5, upd_self k6, upd_self k9]
      rw [eG]
      refine W_seq ?_
      refine W_seq ?_
      refine W_region ?_
      refine V (x_move (by conv => lhs; whnf)) rfl ?_
      refine V (x_bin rfl rfl (bf (decide_eq_false (by omega)))) rfl ?_
      refine WL_nil ?_
      refine W_false (rfl) ?_
      refine W_exit ?_
      repeat (first | with_reducible refine xt ?_ | with_reducible refine xb ?_ | with_reducible refine nt ?_ | with_reducible refine nb ?_ | with_reducible refine xn rfl ?_)
      refine W_seq ?_
      refine W_seq ?_
      refine W_region ?_
      refine V (x_assign (by conv => lhs; whnf)) rfl ?_
      refine WL_nil ?_
      refine W_block ?_
      refine W_loop (fun K e w' => ∃ d : Nat, d ≤ 3 ∧ K = d ∧ e 0 = v0 ∧ e 5 = .slice (some ⟨w.heap.size, 0, none⟩) 4 4 ∧ e 6 = v6 ∧ e 12 = .int .i64 (d : Int) ∧ Only (fun _ => False) w3 w') (k0 := 3) ⟨3, by omega, rfl, rfl, rfl, rfl, rfl, Only.refl _ _⟩ ?_
      rintro d e4 w4 ⟨_, hd, rfl, j0, j5, j6, j12, hO4⟩
      have hOw4 := hOw.only hO4 (fun _ _ => id)
      have hC4 := hC3.only hO4 id
      have hw4 := hw3.trans hO4
      obtain ⟨g6, hA6, hb6, hcell⟩ := hOw4.cell hv6 (fun hh => by have := nsts_len zs tbl 4; rw [hh] at this; simp at this)
      subst hA6
      have hat : ∀ k, k < 4 → w4.cell? ⟨g6, 0 + k, none⟩ = some (strV (nst zs tbl k)) := fun k hk => by rw [Nat.zero_add]; exact hcell k _ (nsts_at hk)
      by_cases hlt3 : 0 < d
      · obtain ⟨D, rfl⟩ : ∃ D, d = D + 1 := ⟨d - 1, by omega⟩
        have hcom : w4.cell? ⟨w.heap.size, 0 + (D + 1), none⟩ = some (.int .i32 (cOf (D + 1))) := by rw [Nat.zero_add]; exact hC4.cell (D + 1) (cmV_at (by omega))
        have hTl := nst_len (zs := zs) hwt (d := D + 1) (by omega)
        obtain ⟨hgd, hen⟩ := nOpt_ok (d := D + 1) (by omega)
        have hdw : Only (fun _ => False) w4 (dr w4) := Only.drew _ _
        obtain ⟨hG5, hU5⟩ := tabs (dr w4) (hw4.trans hdw)
        have hall := implReadAll_sv (nst zs tbl (D + 1)) (nOpt (cOf (D + 1))) er (dr w4) (nestTab (nst zs tbl D)) hG5 hU5 hgd rfl rfl (by rw [hen]; exact nst_tab hsp (by omega)) (by omega) (by simp [nestTab])
        have hcT : (dr w4).cell? ⟨g6, 0 + (D + 1), none⟩ = some (strV (nst zs tbl (D + 1))) := hat (D + 1) (by omega)
        have hcom5 : (dr w4).cell? ⟨w.heap.size, 0 + (D + 1), none⟩ = some (.int .i32 (cOf (D + 1))) := hcom
        have hcD := hat D (by omega)
        generalize nst zs tbl D = T at *
        generalize nst zs tbl (D + 1) = T1 at *
        generalize cOf (D + 1) = cr at *
        have eH : e4 = upd (upd (upd (upd e4 0 v0) 5 (.slice (some ⟨w.heap.size, 0, none⟩) 4 4)) 6 (.slice (some ⟨g6, 0, none⟩) 4 c6)) 12 (.int .i64 ((D + 1 : Nat) : Int)) := by simp only [upd_self j0, upd_self j5, upd_self (j6.trans hv6), upd_self j12]
        rw [eH]
        refine W_seq ?_
        refine W_seq ?_
        refine W_region ?_
        refine V (x_move (by conv => lhs; whnf)) rfl ?_
        refine V (x_bin rfl rfl (bt (decide_eq_true (by omega)))) rfl ?_
        refine WL_nil ?_
        refine W_true (rfl) ?_
        refine W_skip ?_
        refine W_seq ?_
        refine W_block ?_
        refine W_seq ?_
        refine W_draw mixed ?_
        refine D_pure (i := 0) (listed' := #[true, false, false, false, false, false, false, false, false, false, false, false, false, false, false]) (by kernel_rfl) (by kernel_rfl) (by kernel_rfl) rfl (by kernel_rfl) (fun _ => x_move (by conv => lhs; whnf)) rfl ?_
        refine D_pure (i := 1) (listed' := #[true, true, false, false, false, false, false, false, false, false, false, false, false, false, false]) (by kernel_rfl) (by kernel_rfl) (by kernel_rfl) rfl (by kernel_rfl) (fun _ => x_move (by conv => lhs; whnf)) rfl ?_
        refine D_pure (i := 2) (listed' := #[true, true, true, false, false, false, false, false, false, false, false, false, false, false, false]) (by kernel_rfl) (by kernel_rfl) (by kernel_rfl) rfl (by kernel_rfl) (fun _ => x_index (i := D + 1) Tryd.underlying30 sz9 rfl rfl rfl (by omega)) rfl ?_
        refine D_pure (i := 4) (listed' := #[true, true, true, false, true, false, false, false, false, false, false, false, false, false, false]) (by kernel_rfl) (by kernel_rfl) (by kernel_rfl) rfl (by kernel_rfl) (fun _ => x_move (by conv => lhs; whnf)) rfl ?_
        refine D_pure (i := 5) (listed' := #[true, true, true, false, true, true, false, false, false, false, false, false, false, false, false]) (by kernel_rfl) (by kernel_rfl) (by kernel_rfl) rfl (by kernel_rfl) (fun _ => x_move (by conv => lhs; whnf)) rfl ?_
        refine D_pure (i := 6) (listed' := #[true, true, true, false, true, true, true, false, false, false, false, false, false, false, false]) (by kernel_rfl) (by kernel_rfl) (by kernel_rfl) rfl (by kernel_rfl) (fun _ => x_index (i := D + 1) Tryd.underlying43 sz21 rfl rfl rfl (by omega)) rfl ?_
        refine D_still (i := 7) (listed' := #[true, true, true, false, true, true, true, true, false, false, false, false, false, false, false]) (by kernel_rfl) (by kernel_rfl) (by kernel_rfl) rfl (by kernel_rfl) (fun _ hgw => x_load ld21 rfl (hgw.cell hcom5)) rfl ?_
        refine D_pure (i := 8) (listed' := #[true, true, true, false, true, true, true, true, true, false, false, false, false, false, false]) (by kernel_rfl) (by kernel_rfl) (by kernel_rfl) rfl (by kernel_rfl) (fun _ => x_build rfl (bdOptN cr)) rfl ?_
        refine D_one (i := 3) (listed' := #[true, true, true, true, true, true, true, true, true, false, false, false, false, false, false]) (by kernel_rfl) rfl (by kernel_rfl) (x_load ld9 rfl hcT) rfl ?_
        refine D_oneC (i := 9) (listed' := #[true, true, true, true, true, true, true, true, true, true, false, false, false, false, false]) (by kernel_rfl) rfl (by kernel_rfl) (x_call2 cf19 (by conv => lhs; whnf) (by conv => lhs; whnf)) rfl ?_
        refine hall.mono fun v w5 h5 => ?_
        obtain ⟨vs, rows, rfl, hV, ho5⟩ := h5
        refine D_pure (i := 10) (listed' := #[true, true, true, true, true, true, true, true, true, true, true, false, false, false, false]) (by kernel_rfl) (by kernel_rfl) (by kernel_rfl) rfl (by kernel_rfl) (fun _ => x_move (by conv => lhs; whnf)) rfl ?_
        refine D_pure (i := 11) (listed' := #[true, true, true, true, true, true, true, true, true, true, true, true, false, false, false]) (by kernel_rfl) (by kernel_rfl) (by kernel_rfl) rfl (by kernel_rfl) (fun _ => x_extract rfl rfl) rfl ?_
        refine D_pure (i := 12) (listed' := #[true, true, true, true, true, true, true, true, true, true, true, true, true, false, false]) (by kernel_rfl) (by kernel_rfl) (by kernel_rfl) rfl (by kernel_rfl) (fun _ => x_extract rfl rfl) rfl ?_
        refine D_pure (i := 13) (listed' := #[true, true, true, true, true, true, true, true, true, true, true, true, true, true, false]) (by kernel_rfl) (by kernel_rfl) (by kernel_rfl) rfl (by kernel_rfl) (fun _ => x_assign (by conv => lhs; whnf)) rfl ?_
        refine D_pure (i := 14) (listed' := #[true, true, true, true, true, true, true, true, true, true, true, true, true, true, true]) (by kernel_rfl) (by kernel_rfl) (by kernel_rfl) rfl (by kernel_rfl) (fun _ => x_assign (by conv => lhs; whnf)) rfl ?_
        refine WA_done (by kernel_rfl) ?_
        have hn5 := hdw.trans ho5
        have hV5 := hV.read
        have hcD5 : (dr w5).cell? ⟨g6, 0 + D, none⟩ = some (strV T) := (World.cell?_of_block (hn5.block g6 (cell_lt hcD) id)).trans hcD
        have hn6 : Only (fun _ => False) w4 (dr w5) := hn5.trans (Only.drew _ _)
        refine W_seq ?_
        refine W_draw mixed ?_
        refine D_pure (i := 0) (listed' := #[true, false, false, false, false, false, false, false, false, false, false, false, false, false, false, false, false, false, false, false]) (by kernel_rfl) (by kernel_rfl) (by kernel_rfl) rfl (by kernel_rfl) (fun _ => x_move (by conv => lhs; whnf)) rfl ?_
        refine D_pure (i := 1) (listed' := #[true, true, false, false, false, false, false, false, false, false, false, false, false, false, false, false, false, false, false, false]) (by kernel_rfl) (by kernel_rfl) (by kernel_rfl) rfl (by kernel_rfl) (fun _ => x_bin rfl rfl (bf rfl)) rfl ?_
        refine D_pure (i := 2) (listed' := #[true, true, true, false, false, false, false, false, false, false, false, false, false, false, false, false, false, false, false, false]) (by kernel_rfl) (by kernel_rfl) (by kernel_rfl) rfl (by kernel_rfl) (fun _ => x_move (by conv => lhs; whnf)) rfl ?_
        refine D_pureG (i := 3) (listed' := #[true, true, true, true, false, false, false, false, false, false, false, false, false, false, false, false, false, false, false, false]) (by kernel_rfl) (by kernel_rfl) (by kernel_rfl) rfl (by kernel_rfl) rfl (fun _ => x_move (by conv => lhs; whnf)) rfl ?_
        refine D_pureG (i := 4) (listed' := #[true, true, true, true, true, false, false, false, false, false, false, false, false, false, false, false, false, false, false, false]) (by kernel_rfl) (by kernel_rfl) (by kernel_rfl) rfl (by kernel_rfl) rfl (fun _ => x_move (by conv => lhs; whnf)) rfl ?_
        refine D_pureG (i := 5) (listed' := #[true, true, true, true, true, true, false, false, false, false, false, false, false, false, false, false, false, false, false, false]) (by kernel_rfl) (by kernel_rfl) (by kernel_rfl) rfl (by kernel_rfl) rfl (fun _ => x_move (by conv => lhs; whnf)) rfl ?_
        refine D_pureG (i := 6) (listed' := #[true, true, true, true, true, true, true, false, false, false, false, false, false, false, false, false, false, false, false, false]) (by kernel_rfl) (by kernel_rfl) (by kernel_rfl) rfl (by kernel_rfl) rfl (fun _ => x_bin rfl rfl (ib_subn (m := D) (by omega) (by omega))) rfl ?_
        refine D_pureG (i := 7) (listed' := #[true, true, true, true, true, true, true, true, false, false, false, false, false, false, false, false, false, false, false, false]) (by kernel_rfl) (by kernel_rfl) (by kernel_rfl) rfl (by kernel_rfl) rfl (fun _ => x_index (i := D) Tryd.underlying30 sz9 rfl rfl rfl (by omega)) rfl ?_
        refine D_pureG (i := 10) (listed' := #[true, true, true, true, true, true, true, true, false, false, true, false, false, false, false, false, false, false, false, false]) (by kernel_rfl) (by kernel_rfl) (by kernel_rfl) rfl (by kernel_rfl) rfl (fun _ => x_move (by conv => lhs; whnf)) rfl ?_
        refine D_pureG (i := 11) (listed' := #[true, true, true, true, true, true, true, true, false, false, true, true, false, false, false, false, false, false, false, false]) (by kernel_rfl) (by kernel_rfl) (by kernel_rfl) rfl (by kernel_rfl) rfl (fun _ => x_move (by conv => lhs; whnf)) rfl ?_
        refine D_pureG (i := 12) (listed' := #[true, true, true, true, true, true, true, true, false, false, true, true, true, false, false, false, false, false, false, false]) (by kernel_rfl) (by kernel_rfl) (by kernel_rfl) rfl (by kernel_rfl) rfl (fun _ => x_bin rfl rfl (ib_subn (m := D) (by omega) (by omega))) rfl ?_
        refine D_pureG (i := 13) (listed' := #[true, true, true, true, true, true, true, true, false, false, true, true, true, true, false, false, false, false, false, false]) (by kernel_rfl) (by kernel_rfl) (by kernel_rfl) rfl (by kernel_rfl) rfl (fun _ => x_index (i := D) Tryd.underlying30 sz9 rfl rfl rfl (by omega)) rfl ?_
        refine D_stillG (i := 8) (listed' := #[true, true, true, true, true, true, true, true, true, false, true, true, true, true, false, false, false, false, false, false]) (by kernel_rfl) (by kernel_rfl) (by kernel_rfl) rfl (by kernel_rfl) rfl (fun _ hgw => x_load ld9 rfl (hgw.cell hcD5)) rfl ?_
        refine D_stillG (i := 14) (listed' := #[true, true, true, true, true, true, true, true, true, false, true, true, true, true, true, false, false, false, false, false]) (by kernel_rfl) (by kernel_rfl) (by kernel_rfl) rfl (by kernel_rfl) rfl (fun _ hgw => x_load ld9 rfl (hgw.cell hcD5)) rfl ?_
        have hsame : ∀ v2 w8, RdTab w8 v2 (nestTab T) → Only (fun _ => False) (dr w5) w8 → Ret Tryd.prog 20 #[vs, v2] w8 fun v w9 => v = .bool true ∧ Only (fun _ => False) w8 w9 := fun v2 w8 h2 ho8 => Same_ok vs v2 (nestTab T) w8 ((hV5.new (Only.drew _ _)).new ho8) h2 (by simp [nestTab]) (fun fs hfs => by
          simp only [nestTab, List.mem_cons, List.mem_nil_iff, or_false] at hfs
          rcases hfs with rfl | rfl <;> simp)
        refine WA_two (i := 9) (j := 15) (by kernel_rfl) ?_ ?_
        · skip
          refine WO_valG (listed' := #[true, true, true, true, true, true, true, true, true, true, true, true, true, true, true, false, false, false, false, false]) (by kernel_rfl) rfl (by kernel_rfl) rfl (x_bs2 (v := strV [120]) (u := strV T) Tryd.underlying30 sz9 zv9 rfl rfl rfl rfl rfl) rfl ?_
          refine WA_only (i := 15) (by kernel_rfl) ?_
          refine WO_valG (listed' := #[true, true, true, true, true, true, true, true, true, true, true, true, true, true, true, true, false, false, false, false]) (by kernel_rfl) rfl (by kernel_rfl) rfl (x_bs3 (v := strV T) (u := strV []) (u3 := strV [121]) Tryd.underlying30 sz9 zv9 rfl rfl rfl rfl rfl rfl rfl) rfl ?_
          refine WA_only (i := 16) (by kernel_rfl) ?_
          refine WO_valG (listed' := #[true, true, true, true, true, true, true, true, true, true, true, true, true, true, true, true, true, false, false, false]) (by kernel_rfl) rfl (by kernel_rfl) rfl (x_bs2 Tryd.underlying27 sz30 zv30 rfl (by conv => lhs; whnf) (by conv => lhs; whnf) rfl rfl) rfl ?_
          refine WA_only (i := 17) (by kernel_rfl) ?_
          refine WO_callG (listed' := #[true, true, true, true, true, true, true, true, true, true, true, true, true, true, true, true, true, true, false, false]) (by kernel_rfl) rfl (by kernel_rfl) rfl (x_call2 cf20 (by conv => lhs; whnf) (by conv => lhs; whnf)) rfl ?_
          have hm := nest_mem1 (dr w5) T _ _ _ rfl rfl rfl
          refine (hsame _ _ hm.1 hm.2).mono fun v w9 h9 => ?_
          obtain ⟨rfl, ho9⟩ := h9
          refine D_pureG (i := 18) (listed' := #[true, true, true, true, true, true, true, true, true, true, true, true, true, true, true, true, true, true, true, false]) (by kernel_rfl) (by kernel_rfl) (by kernel_rfl) rfl (by kernel_rfl) rfl (fun _ => x_not rfl) rfl ?_
          refine D_pure (i := 19) (listed' := #[true, true, true, true, true, true, true, true, true, true, true, true, true, true, true, true, true, true, true, true]) (by kernel_rfl) (by kernel_rfl) (by kernel_rfl) rfl (by kernel_rfl) (fun _ => x_pick_f rfl (by conv => lhs; whnf)) rfl ?_
          refine WA_done (by kernel_rfl) ?_
          refine W_false (rfl) ?_
          refine W_skip ?_
          repeat (first | with_reducible refine xt ?_ | with_reducible refine xb ?_ | with_reducible refine nt ?_ | with_reducible refine nb ?_ | with_reducible refine xn rfl ?_)
          refine W_region ?_
          refine V (x_move (by conv => lhs; whnf)) rfl ?_
          refine V (x_bin rfl rfl (ib_subn (m := D) (by omega) (by omega))) rfl ?_
          refine V (x_assign (by conv => lhs; whnf)) rfl ?_
          refine WL_nil ?_
          repeat (first | with_reducible refine xt ?_ | with_reducible refine xb ?_ | with_reducible refine nt ?_ | with_reducible refine nb ?_ | with_reducible refine xn rfl ?_)
          exact ⟨D, by omega, D, by omega, rfl, rfl, rfl, hv6.symm, rfl, ((hO4.trans hn6).trans hm.2).trans ho9⟩
        · skip
          refine WO_valG (listed' := #[true, true, true, true, true, true, true, true, true, false, true, true, true, true, true, true, false, false, false, false]) (by kernel_rfl) rfl (by kernel_rfl) rfl (x_bs3 (v := strV T) (u := strV []) (u3 := strV [121]) Tryd.underlying30 sz9 zv9 rfl rfl rfl rfl rfl rfl rfl) rfl ?_
          refine WA_only (i := 9) (by kernel_rfl) ?_
          refine WO_valG (listed' := #[true, true, true, true, true, true, true, true, true, true, true, true, true, true, true, true, false, false, false, false]) (by kernel_rfl) rfl (by kernel_rfl) rfl (x_bs2 (v := strV [120]) (u := strV T) Tryd.underlying30 sz9 zv9 rfl rfl rfl rfl rfl) rfl ?_
          refine WA_only (i := 16) (by kernel_rfl) ?_
          refine WO_valG (listed' := #[true, true, true, true, true, true, true, true, true, true, true, true, true, true, true, true, true, false, false, false]) (by kernel_rfl) rfl (by kernel_rfl) rfl (x_bs2 Tryd.underlying27 sz30 zv30 rfl (by conv => lhs; whnf) (by conv => lhs; whnf) rfl rfl) rfl ?_
          refine WA_only (i := 17) (by kernel_rfl) ?_
          refine WO_callG (listed' := #[true, true, true, true, true, true, true, true, true, true, true, true, true, true, true, true, true, true, false, false]) (by kernel_rfl) rfl (by kernel_rfl) rfl (x_call2 cf20 (by conv => lhs; whnf) (by conv => lhs; whnf)) rfl ?_
          have hm := nest_mem2 (dr w5) T _ _ _ rfl rfl rfl
          refine (hsame _ _ hm.1 hm.2).mono fun v w9 h9 => ?_
          obtain ⟨rfl, ho9⟩ := h9
          refine D_pureG (i := 18) (listed' := #[true, true, true, true, true, true, true, true, true, true, true, true, true, true, true, true, true, true, true, false]) (by kernel_rfl) (by kernel_rfl) (by kernel_rfl) rfl (by kernel_rfl) rfl (fun _ => x_not rfl) rfl ?_
          refine D_pure (i := 19) (listed' := #[true, true, true, true, true, true, true, true, true, true, true, true, true, true, true, true, true, true, true, true]) (by kernel_rfl) (by kernel_rfl) (by kernel_rfl) rfl (by kernel_rfl) (fun _ => x_pick_f rfl (by conv => lhs; whnf)) rfl ?_
          refine WA_done (by kernel_rfl) ?_
          refine W_false (rfl) ?_
          refine W_skip ?_
          repeat (first | with_reducible refine xt ?_ | with_reducible refine xb ?_ | with_reducible refine nt ?_ | with_reducible refine nb ?_ | with_reducible refine xn rfl ?_)
          refine W_region ?_
          refine V (x_move (by conv => lhs; whnf)) rfl ?_
          refine V (x_bin rfl rfl (ib_subn (m := D) (by omega) (by omega))) rfl ?_
          refine V (x_assign (by conv => lhs; whnf)) rfl ?_
          refine WL_nil ?_
          repeat (first | with_reducible refine xt ?_ | with_reducible refine xb ?_ | with_reducible refine nt ?_ | with_reducible refine nb ?_ | with_reducible refine xn rfl ?_)
          exact ⟨D, by omega, D, by omega, rfl, rfl, rfl, hv6.symm, rfl, ((hO4.trans hn6).trans hm.2).trans ho9⟩
      · obtain rfl : d = 0 := by omega
        obtain ⟨hG5, hU5⟩ := tabs w4 hw4
        have hTl := text0_len zs 0 tbl
        have hall := implReadAll_sv (nst zs tbl 0) (nOpt 0) er w4 tbl hG5 hU5 (by decide) rfl rfl (by rw [show encR (nOpt 0).comma = [44] from cm44.enc.symm]; exact text0_tab zs tbl hsp) (by show (text0 zs 0 tbl).length ≤ _; omega) (by omega)
        have hc0 := hat 0 (by omega)
        generalize nst zs tbl 0 = T at *
        have eH : e4 = upd (upd (upd (upd e4 0 v0) 5 (.slice (some ⟨w.heap.size, 0, none⟩) 4 4)) 6 (.slice (some ⟨g6, 0, none⟩) 4 c6)) 12 (.int .i64 ((0 : Nat) : Int)) := by simp only [upd_self j0, upd_self j5, upd_self (j6.trans hv6), upd_self j12]
        rw [eH]
        refine W_seq ?_
        refine W_seq ?_
        refine W_region ?_
        refine V (x_move (by conv => lhs; whnf)) rfl ?_
        refine V (x_bin rfl rfl (bf (decide_eq_false (by omega)))) rfl ?_
        refine WL_nil ?_
        refine W_false (rfl) ?_
        refine W_exit ?_
        repeat (first | with_reducible refine xt ?_ | with_reducible refine xb ?_ | with_reducible refine nt ?_ | with_reducible refine nb ?_ | with_reducible refine xn rfl ?_)
        refine W_seq ?_
        refine W_region ?_
        refine V (x_move (by conv => lhs; whnf)) rfl ?_
        refine V (x_index (i := 0) Tryd.underlying30 sz9 rfl rfl rfl (by omega)) rfl ?_
        refine V (x_load ld9 rfl hc0) rfl ?_
        refine V (x_build rfl bdOptM) rfl ?_
        refine C (x_call2 cf19 (by conv => lhs; whnf) (by conv => lhs; whnf)) rfl ?_
        refine hall.mono fun v w5 h5 => ?_
        obtain ⟨vs, rows, rfl, hV, ho5⟩ := h5
        refine V (x_move (by conv => lhs; whnf)) rfl ?_
        refine V (x_extract rfl rfl) rfl ?_
        refine V (x_extract rfl rfl) rfl ?_
        refine V (x_assign (by conv => lhs; whnf)) rfl ?_
        refine V (x_assign (by conv => lhs; whnf)) rfl ?_
        refine WL_nil ?_
        refine W_seq ?_
        refine W_region ?_
        refine V (x_move (by conv => lhs; whnf)) rfl ?_
        refine V (x_bin rfl rfl (bt rfl)) rfl ?_
        refine V (x_move (by conv => lhs; whnf)) rfl ?_
        refine VG rfl (x_move (by conv => lhs; whnf)) rfl ?_
        refine VG rfl (x_move (by conv => lhs; whnf)) rfl ?_
        refine CG rfl (x_call2 cf20 (by conv => lhs; whnf) (by conv => lhs; whnf)) rfl ?_
        refine (Same_ok vs v0 tbl w5 hV.read ((hT.new hw4).new ho5) (by omega) (fun fs hfs => by have := (hrow fs hfs).1; omega)).mono fun v w6 h6 => ?_
        obtain ⟨rfl, ho6⟩ := h6
        refine V (x_pick_t rfl (by conv => lhs; whnf)) rfl ?_
        refine V (x_assign (by conv => lhs; whnf)) rfl ?_
        refine WL_nil ?_
        refine W_ret ?_
        repeat (with_reducible (first | refine rt ?_ | refine rb ?_))
        exact bodyE_1 rfl rfl ⟨rfl, (hw4.trans ho5).trans ho6⟩
end Go.Proofs.YtcdhbfhijkdfoaaDoor
