/-
  utf8.EncodeRune of a character beyond ASCII.
-/
import Derived.Test.YtcdhbfhijkdfoaaDoorIf
namespace Go.Proofs.YtcdhbfhijkdfoaaDoor
open Go.EC Go.RowKit

/-- A character's bytes. -/
@[irreducible] def encR (r : Int) : Bytes := (Utf8.encode r).data.toList
theorem fin_lift {P : Int → Prop} {m : Nat} (h : ∀ x : Fin m, P (x.val : Int)) {z : Int} (h0 : 0 ≤ z) (h1 : z < (m : Int)) : P z := by
  have := h ⟨z.toNat, by omega⟩
  simpa [Int.toNat_of_nonneg h0] using this
theorem t_or2 : ∀ x : Fin 32, IntKind.u8.wrap (BitVec.ofInt 8 192 ||| BitVec.ofInt 8 (x.val : Int)).toNat = 192 + (x.val : Int) := by decide
theorem t_or3 : ∀ x : Fin 16, IntKind.u8.wrap (BitVec.ofInt 8 224 ||| BitVec.ofInt 8 (x.val : Int)).toNat = 224 + (x.val : Int) := by decide
theorem t_or4 : ∀ x : Fin 8, IntKind.u8.wrap (BitVec.ofInt 8 240 ||| BitVec.ofInt 8 (x.val : Int)).toNat = 240 + (x.val : Int) := by decide
theorem t_or1 : ∀ x : Fin 64, IntKind.u8.wrap (BitVec.ofInt 8 128 ||| BitVec.ofInt 8 (x.val : Int)).toNat = 128 + (x.val : Int) := by decide
theorem t_and : ∀ x : Fin 256, IntKind.u8.wrap (BitVec.ofInt 8 (x.val : Int) &&& BitVec.ofInt 8 63).toNat = (x.val : Int) % 64 := by decide +kernel
theorem b_or {a y z : Int} {m : Nat} (t : ∀ x : Fin m, IntKind.u8.wrap (BitVec.ofInt 8 a ||| BitVec.ofInt 8 (x.val : Int)).toNat = a + (x.val : Int)) (hy : y = z) (h0 : 0 ≤ z) (h1 : z < (m : Int)) : ibin .or .u8 a y = some (.int .u8 (a + z)) := by
  subst hy
  have := fin_lift (P := fun x => IntKind.u8.wrap (BitVec.ofInt 8 a ||| BitVec.ofInt 8 x).toNat = a + x) t h0 h1
  simp only [ibin]
  rw [← this]; rfl
theorem b_and {y z : Int} (hy : y = z) (h0 : 0 ≤ z) (h1 : z < 256) : ibin .and .u8 y 63 = some (.int .u8 (z % 64)) := by
  subst hy
  have := fin_lift (P := fun x => IntKind.u8.wrap (BitVec.ofInt 8 x &&& BitVec.ofInt 8 63).toNat = x % 64) t_and h0 h1
  simp only [ibin]
  rw [← this]; rfl
theorem u8w {z : Int} (_ : 0 ≤ z) : IntKind.u8.wrap z = z % 256 := by
  unfold IntKind.wrap
  simp [IntKind.bits, IntKind.signed]
theorem u32w {z : Int} (h0 : 0 ≤ z) (h1 : z < 4294967296) : IntKind.u32.wrap z = z := by
  unfold IntKind.wrap
  simp [IntKind.bits, IntKind.signed]
  omega
theorem sh6 {r : Int} (_ : 0 ≤ r) : r.fdiv (2 ^ min (Int.toNat 6) IntKind.i32.bits) = r / 64 := by
  rw [Int.fdiv_eq_ediv_of_nonneg _ (by decide)]; rfl
theorem sh12 {r : Int} (_ : 0 ≤ r) : r.fdiv (2 ^ min (Int.toNat 12) IntKind.i32.bits) = r / 4096 := by
  rw [Int.fdiv_eq_ediv_of_nonneg _ (by decide)]; rfl
theorem sh18 {r : Int} (_ : 0 ≤ r) : r.fdiv (2 ^ min (Int.toNat 18) IntKind.i32.bits) = r / 262144 := by
  rw [Int.fdiv_eq_ediv_of_nonneg _ (by decide)]; rfl
theorem valid_iff (r : Int) : Utf8.valid r = Lib.validRune r := by
  unfold Utf8.valid Lib.validRune
  rw [Bool.eq_iff_iff]
  simp
  omega
theorem ofN {n : Nat} (h : n < 256) : bv (UInt8.ofNat n) = .int .u8 (n : Int) := by
  unfold bv
  rw [UInt8.toNat_ofNat', Nat.mod_eq_of_lt (by omega)]
theorem encR_2 {r : Int} (h0 : 128 ≤ r) (h1 : r < 2048) : (encR r).map bv = [.int .u8 (192 + r / 64), .int .u8 (128 + r % 64)] := by
  unfold encR Utf8.encode
  have hv : Utf8.valid r = true := by unfold Utf8.valid; simp; omega
  simp only [hv, if_true]
  rw [if_neg (by omega), if_pos (by omega)]
  simp only [List.map_cons, List.map_nil]
  rw [ofN (by omega), ofN (by omega)]
  congr 2
  · omega
  · congr 2; omega
theorem encR_3 {r : Int} (h0 : 2048 ≤ r) (h1 : r < 65536) (hv : Lib.validRune r = true) : (encR r).map bv = [.int .u8 (224 + r / 4096), .int .u8 (128 + r / 64 % 64), .int .u8 (128 + r % 64)] := by
  unfold encR Utf8.encode
  rw [← valid_iff] at hv
  simp only [hv, if_true]
  rw [if_neg (by omega), if_neg (by omega), if_pos (by omega)]
  simp only [List.map_cons, List.map_nil]
  rw [ofN (by omega), ofN (by omega), ofN (by omega)]
  simp only [List.cons.injEq, Value.int.injEq, true_and, and_true]
  omega
theorem encR_4 {r : Int} (h0 : 65536 ≤ r) (h1 : r ≤ 1114111) : (encR r).map bv = [.int .u8 (240 + r / 262144), .int .u8 (128 + r / 4096 % 64), .int .u8 (128 + r / 64 % 64), .int .u8 (128 + r % 64)] := by
  unfold encR Utf8.encode
  have hv : Utf8.valid r = true := by unfold Utf8.valid; simp; omega
  simp only [hv, if_true]
  rw [if_neg (by omega), if_neg (by omega), if_neg (by omega)]
  simp only [List.map_cons, List.map_nil]
  rw [ofN (by omega), ofN (by omega), ofN (by omega), ofN (by omega)]
  simp only [List.cons.injEq, Value.int.injEq, true_and, and_true]
  omega
theorem encR_1 {r : Int} (h0 : 0 ≤ r) (h1 : r < 128) : encR r = [UInt8.ofNat r.toNat] := by
  unfold encR Utf8.encode
  have hv : Utf8.valid r = true := by unfold Utf8.valid; simp; omega
  simp only [hv, if_true]
  rw [if_pos (by omega)]
/-- What EncodeRune leaves in the four bytes at g. -/
def EncPost (g : Nat) (r : Int) (w0 : World) : Value → World → Prop := fun v w => v = .int .i64 ((encR r).length : Int) ∧ (∃ cs, Blk w g 105 cs ∧ cs.length = 4 ∧ ∀ (j : Nat) (b : UInt8), (encR r)[j]? = some b → cs[j]? = some (bv b)) ∧ Only (· = g) w0 w
theorem encPost {g : Nat} {r : Int} {w0 w : World} {vs rest : List Value} (hE : (encR r).map bv = vs) (hb : Blk w g 105 (vs ++ rest)) (hl : (vs ++ rest).length = 4) (ho : Only (· = g) w0 w) {n : Int} (hn : n = (vs.length : Int)) : EncPost g r w0 (.int .i64 n) w := by
  subst hE hn
  refine ⟨by simp, ⟨_, hb, hl, fun j b hj => ?_⟩, ho⟩
  have hlt := (List.getElem?_eq_some_iff.1 hj).1
  rw [List.getElem?_append_left (by simpa using hlt), List.getElem?_map, hj]
  rfl
theorem encSlow_ok (g : Nat) (r : Int) (w : World) (c0 c1 c2 c3 : Value) (h0 : 128 ≤ r) (hv : Lib.validRune r = true) (hB : Blk w g 105 [c0, c1, c2, c3]) :
    Ret Tryd.prog 73 #[.slice (some ⟨g, 0, none⟩) 4 4, .int .i32 r] w (EncPost g r w) := by
  have hv2 : (0 ≤ r ∧ r < 55296) ∨ (57343 < r ∧ r ≤ 1114111) := by simpa [Lib.validRune] using hv
  refine ret_of_W Tryd.func73 rfl (Nat.le_of_ble_eq_true rfl) ?_
  have hw : IntKind.u32.wrap r = r := u32w (by omega) (by omega)
  by_cases h2 : r < 2048
  · have hB1 := hB.set 0 (.int .u8 (192 + r / 64))
    have hB2 := hB1.set 1 (.int .u8 (128 + r % 64))
    refine W_seq ?_
    refine W_region ?_
    refine V (x_assign (by conv => lhs; whnf)) rfl ?_
    refine WL_nil ?_
    refine W_seq ?_
    refine W_region ?_
    refine V (x_move (by conv => lhs; whnf)) rfl ?_
    refine V (x_convi Tryd.underlying21 Tryd.underlying102 rfl) rfl ?_
    rw [hw]
    refine V (x_assign (by conv => lhs; whnf)) rfl ?_
    refine WL_nil ?_
    refine W_block ?_
    refine W_seq ?_
    refine W_region ?_
    refine V (x_move (by conv => lhs; whnf)) rfl ?_
    refine V (x_bin rfl rfl (bt (decide_eq_true (by omega)))) rfl ?_
    refine V (x_assign (by conv => lhs; whnf)) rfl ?_
    refine WL_nil ?_
    refine W_true (rfl) ?_
    refine W_seq ?_
    refine W_region ?_
    refine V (x_move (by conv => lhs; whnf)) rfl ?_
    refine V (x_index (i := 1) Tryd.underlying62 sz5 rfl rfl rfl (by omega)) rfl ?_
    refine V (x_load ld5 rfl (hB.cell 1 rfl)) rfl ?_
    refine WL_nil ?_
    refine W_seq ?_
    refine W_region ?_
    refine V (x_move (by conv => lhs; whnf)) rfl ?_
    refine V (x_move (by conv => lhs; whnf)) rfl ?_
    refine V (x_shr rfl rfl (by decide)) rfl ?_
    refine V (x_convi Tryd.underlying21 Tryd.underlying5 rfl) rfl ?_
    refine V (x_bin rfl rfl (b_or t_or2 (z := r / 64) (by rw [sh6 (by omega), u8w (by omega)]; omega) (by omega) (by omega))) rfl ?_
    refine V (x_index (i := 0) Tryd.underlying62 sz5 rfl rfl rfl (by omega)) rfl ?_
    refine S (x_store st5 rfl (by conv => lhs; whnf) rfl (hB.cell 0 rfl) (hB.free 0)) ?_
    refine WL_nil ?_
    refine W_seq ?_
    refine W_region ?_
    refine V (x_move (by conv => lhs; whnf)) rfl ?_
    refine V (x_move (by conv => lhs; whnf)) rfl ?_
    refine V (x_convi Tryd.underlying21 Tryd.underlying5 rfl) rfl ?_
    refine V (x_bin rfl rfl (b_and (z := r % 256) (u8w (by omega)) (by omega) (by omega))) rfl ?_
    refine V (x_bin rfl rfl (b_or t_or1 (z := r % 64) (by omega) (by omega) (by omega))) rfl ?_
    refine V (x_index (i := 1) Tryd.underlying62 sz5 rfl rfl rfl (by omega)) rfl ?_
    refine S (x_store st5 rfl (by conv => lhs; whnf) rfl (hB1.cell 1 rfl) (hB1.free 1)) ?_
    refine WL_nil ?_
    refine W_seq ?_
    refine W_region ?_
    refine V (x_assign (by conv => lhs; whnf)) rfl ?_
    refine WL_nil ?_
    refine W_ret ?_
    repeat (with_reducible (first | refine rt ?_ | refine rb ?_))
    exact bodyE_1 rfl rfl (encPost (encR_2 h0 h2) (rest := [c2, c3]) hB2 rfl ((Only.setCell (· = g) w rfl _).trans (Only.setCell (· = g) _ rfl _)) rfl)
  · by_cases h3 : r < 65536
    · have hB1 := hB.set 0 (.int .u8 (224 + r / 4096))
      have hB2 := hB1.set 1 (.int .u8 (128 + r / 64 % 64))
      have hB3 := hB2.set 2 (.int .u8 (128 + r % 64))
      have fin : EncPost g r w (.int .i64 3) _ := encPost (encR_3 (by omega) h3 hv) (rest := [c3]) hB3 rfl (((Only.setCell (· = g) w rfl _).trans (Only.setCell (· = g) _ rfl _)).trans (Only.setCell (· = g) _ rfl _)) rfl
      by_cases h55 : r < 55296
      · skip
        refine W_seq ?_
        refine W_region ?_
        refine V (x_assign (by conv => lhs; whnf)) rfl ?_
        refine WL_nil ?_
        refine W_seq ?_
        refine W_region ?_
        refine V (x_move (by conv => lhs; whnf)) rfl ?_
        refine V (x_convi Tryd.underlying21 Tryd.underlying102 rfl) rfl ?_
        rw [hw]
        refine V (x_assign (by conv => lhs; whnf)) rfl ?_
        refine WL_nil ?_
        refine W_block ?_
        refine W_seq ?_
        refine W_region ?_
        refine V (x_move (by conv => lhs; whnf)) rfl ?_
        refine V (x_bin rfl rfl (bf (decide_eq_false (by omega)))) rfl ?_
        refine V (x_assign (by conv => lhs; whnf)) rfl ?_
        refine WL_nil ?_
        refine W_false (rfl) ?_
        refine W_seq ?_
        refine W_seq ?_
        refine W_region ?_
        refine V (x_move (by conv => lhs; whnf)) rfl ?_
        refine V (x_bin rfl rfl (bt (decide_eq_true (by omega)))) rfl ?_
        refine V (x_assign (by conv => lhs; whnf)) rfl ?_
        refine WL_nil ?_
        refine W_true (rfl) ?_
        refine W_skip ?_
        refine W_true (rfl) ?_
        refine W_seq ?_
        refine W_region ?_
        refine V (x_move (by conv => lhs; whnf)) rfl ?_
        refine V (x_index (i := 2) Tryd.underlying62 sz5 rfl rfl rfl (by omega)) rfl ?_
        refine V (x_load ld5 rfl (hB.cell 2 rfl)) rfl ?_
        refine WL_nil ?_
        refine W_seq ?_
        refine W_region ?_
        refine V (x_move (by conv => lhs; whnf)) rfl ?_
        refine V (x_move (by conv => lhs; whnf)) rfl ?_
        refine V (x_shr rfl rfl (by decide)) rfl ?_
        refine V (x_convi Tryd.underlying21 Tryd.underlying5 rfl) rfl ?_
        refine V (x_bin rfl rfl (b_or t_or3 (z := r / 4096) (by rw [sh12 (by omega), u8w (by omega)]; omega) (by omega) (by omega))) rfl ?_
        refine V (x_index (i := 0) Tryd.underlying62 sz5 rfl rfl rfl (by omega)) rfl ?_
        refine S (x_store st5 rfl (by conv => lhs; whnf) rfl (hB.cell 0 rfl) (hB.free 0)) ?_
        refine WL_nil ?_
        refine W_seq ?_
        refine W_region ?_
        refine V (x_move (by conv => lhs; whnf)) rfl ?_
        refine V (x_move (by conv => lhs; whnf)) rfl ?_
        refine V (x_shr rfl rfl (by decide)) rfl ?_
        refine V (x_convi Tryd.underlying21 Tryd.underlying5 rfl) rfl ?_
        refine V (x_bin rfl rfl (b_and (z := r / 64 % 256) (by rw [sh6 (by omega), u8w (by omega)]) (by omega) (by omega))) rfl ?_
        refine V (x_bin rfl rfl (b_or t_or1 (z := r / 64 % 64) (by omega) (by omega) (by omega))) rfl ?_
        refine V (x_index (i := 1) Tryd.underlying62 sz5 rfl rfl rfl (by omega)) rfl ?_
        refine S (x_store st5 rfl (by conv => lhs; whnf) rfl (hB1.cell 1 rfl) (hB1.free 1)) ?_
        refine WL_nil ?_
        refine W_seq ?_
        refine W_region ?_
        refine V (x_move (by conv => lhs; whnf)) rfl ?_
        refine V (x_move (by conv => lhs; whnf)) rfl ?_
        refine V (x_convi Tryd.underlying21 Tryd.underlying5 rfl) rfl ?_
        refine V (x_bin rfl rfl (b_and (z := r % 256) (u8w (by omega)) (by omega) (by omega))) rfl ?_
        refine V (x_bin rfl rfl (b_or t_or1 (z := r % 64) (by omega) (by omega) (by omega))) rfl ?_
        refine V (x_index (i := 2) Tryd.underlying62 sz5 rfl rfl rfl (by omega)) rfl ?_
        refine S (x_store st5 rfl (by conv => lhs; whnf) rfl (hB2.cell 2 rfl) (hB2.free 2)) ?_
        refine WL_nil ?_
        refine W_seq ?_
        refine W_region ?_
        refine V (x_assign (by conv => lhs; whnf)) rfl ?_
        refine WL_nil ?_
        refine W_ret ?_
        repeat (with_reducible (first | refine rt ?_ | refine rb ?_))
        exact bodyE_1 rfl rfl fin
      · skip
        refine W_seq ?_
        refine W_region ?_
        refine V (x_assign (by conv => lhs; whnf)) rfl ?_
        refine WL_nil ?_
        refine W_seq ?_
        refine W_region ?_
        refine V (x_move (by conv => lhs; whnf)) rfl ?_
        refine V (x_convi Tryd.underlying21 Tryd.underlying102 rfl) rfl ?_
        rw [hw]
        refine V (x_assign (by conv => lhs; whnf)) rfl ?_
        refine WL_nil ?_
        refine W_block ?_
        refine W_seq ?_
        refine W_region ?_
        refine V (x_move (by conv => lhs; whnf)) rfl ?_
        refine V (x_bin rfl rfl (bf (decide_eq_false (by omega)))) rfl ?_
        refine V (x_assign (by conv => lhs; whnf)) rfl ?_
        refine WL_nil ?_
        refine W_false (rfl) ?_
        refine W_seq ?_
        refine W_seq ?_
        refine W_region ?_
        refine V (x_move (by conv => lhs; whnf)) rfl ?_
        refine V (x_bin rfl rfl (bf (decide_eq_false (by omega)))) rfl ?_
        refine V (x_assign (by conv => lhs; whnf)) rfl ?_
        refine WL_nil ?_
        refine W_false (rfl) ?_
        refine W_region ?_
        refine V (x_move (by conv => lhs; whnf)) rfl ?_
        refine V (x_bin rfl rfl (bt (decide_eq_true (by omega)))) rfl ?_
        refine V (x_move (by conv => lhs; whnf)) rfl ?_
        refine VG rfl (x_move (by conv => lhs; whnf)) rfl ?_
        refine VG rfl (x_bin rfl rfl (bt (decide_eq_true (by omega)))) rfl ?_
        refine V (x_pick_t rfl (by conv => lhs; whnf)) rfl ?_
        refine V (x_assign (by conv => lhs; whnf)) rfl ?_
        refine WL_nil ?_
        refine W_true (rfl) ?_
        refine W_seq ?_
        refine W_region ?_
        refine V (x_move (by conv => lhs; whnf)) rfl ?_
        refine V (x_index (i := 2) Tryd.underlying62 sz5 rfl rfl rfl (by omega)) rfl ?_
        refine V (x_load ld5 rfl (hB.cell 2 rfl)) rfl ?_
        refine WL_nil ?_
        refine W_seq ?_
        refine W_region ?_
        refine V (x_move (by conv => lhs; whnf)) rfl ?_
        refine V (x_move (by conv => lhs; whnf)) rfl ?_
        refine V (x_shr rfl rfl (by decide)) rfl ?_
        refine V (x_convi Tryd.underlying21 Tryd.underlying5 rfl) rfl ?_
        refine V (x_bin rfl rfl (b_or t_or3 (z := r / 4096) (by rw [sh12 (by omega), u8w (by omega)]; omega) (by omega) (by omega))) rfl ?_
        refine V (x_index (i := 0) Tryd.underlying62 sz5 rfl rfl rfl (by omega)) rfl ?_
        refine S (x_store st5 rfl (by conv => lhs; whnf) rfl (hB.cell 0 rfl) (hB.free 0)) ?_
        refine WL_nil ?_
        refine W_seq ?_
        refine W_region ?_
        refine V (x_move (by conv => lhs; whnf)) rfl ?_
        refine V (x_move (by conv => lhs; whnf)) rfl ?_
        refine V (x_shr rfl rfl (by decide)) rfl ?_
        refine V (x_convi Tryd.underlying21 Tryd.underlying5 rfl) rfl ?_
        refine V (x_bin rfl rfl (b_and (z := r / 64 % 256) (by rw [sh6 (by omega), u8w (by omega)]) (by omega) (by omega))) rfl ?_
        refine V (x_bin rfl rfl (b_or t_or1 (z := r / 64 % 64) (by omega) (by omega) (by omega))) rfl ?_
        refine V (x_index (i := 1) Tryd.underlying62 sz5 rfl rfl rfl (by omega)) rfl ?_
        refine S (x_store st5 rfl (by conv => lhs; whnf) rfl (hB1.cell 1 rfl) (hB1.free 1)) ?_
        refine WL_nil ?_
        refine W_seq ?_
        refine W_region ?_
        refine V (x_move (by conv => lhs; whnf)) rfl ?_
        refine V (x_move (by conv => lhs; whnf)) rfl ?_
        refine V (x_convi Tryd.underlying21 Tryd.underlying5 rfl) rfl ?_
        refine V (x_bin rfl rfl (b_and (z := r % 256) (u8w (by omega)) (by omega) (by omega))) rfl ?_
        refine V (x_bin rfl rfl (b_or t_or1 (z := r % 64) (by omega) (by omega) (by omega))) rfl ?_
        refine V (x_index (i := 2) Tryd.underlying62 sz5 rfl rfl rfl (by omega)) rfl ?_
        refine S (x_store st5 rfl (by conv => lhs; whnf) rfl (hB2.cell 2 rfl) (hB2.free 2)) ?_
        refine WL_nil ?_
        refine W_seq ?_
        refine W_region ?_
        refine V (x_assign (by conv => lhs; whnf)) rfl ?_
        refine WL_nil ?_
        refine W_ret ?_
        repeat (with_reducible (first | refine rt ?_ | refine rb ?_))
        exact bodyE_1 rfl rfl fin
    · have hB1 := hB.set 0 (.int .u8 (240 + r / 262144))
      have hB2 := hB1.set 1 (.int .u8 (128 + r / 4096 % 64))
      have hB3 := hB2.set 2 (.int .u8 (128 + r / 64 % 64))
      have hB4 := hB3.set 3 (.int .u8 (128 + r % 64))
      refine W_seq ?_
      refine W_region ?_
      refine V (x_assign (by conv => lhs; whnf)) rfl ?_
      refine WL_nil ?_
      refine W_seq ?_
      refine W_region ?_
      refine V (x_move (by conv => lhs; whnf)) rfl ?_
      refine V (x_convi Tryd.underlying21 Tryd.underlying102 rfl) rfl ?_
      rw [hw]
      refine V (x_assign (by conv => lhs; whnf)) rfl ?_
      refine WL_nil ?_
      refine W_block ?_
      refine W_seq ?_
      refine W_region ?_
      refine V (x_move (by conv => lhs; whnf)) rfl ?_
      refine V (x_bin rfl rfl (bf (decide_eq_false (by omega)))) rfl ?_
      refine V (x_assign (by conv => lhs; whnf)) rfl ?_
      refine WL_nil ?_
      refine W_false (rfl) ?_
      refine W_seq ?_
      refine W_seq ?_
      refine W_region ?_
      refine V (x_move (by conv => lhs; whnf)) rfl ?_
      refine V (x_bin rfl rfl (bf (decide_eq_false (by omega)))) rfl ?_
      refine V (x_assign (by conv => lhs; whnf)) rfl ?_
      refine WL_nil ?_
      refine W_false (rfl) ?_
      refine W_region ?_
      refine V (x_move (by conv => lhs; whnf)) rfl ?_
      refine V (x_bin rfl rfl (bt (decide_eq_true (by omega)))) rfl ?_
      refine V (x_move (by conv => lhs; whnf)) rfl ?_
      refine VG rfl (x_move (by conv => lhs; whnf)) rfl ?_
      refine VG rfl (x_bin rfl rfl (bf (decide_eq_false (by omega)))) rfl ?_
      refine V (x_pick_t rfl (by conv => lhs; whnf)) rfl ?_
      refine V (x_assign (by conv => lhs; whnf)) rfl ?_
      refine WL_nil ?_
      refine W_false (rfl) ?_
      refine W_seq ?_
      refine W_region ?_
      refine V (x_move (by conv => lhs; whnf)) rfl ?_
      refine V (x_bin rfl rfl (bt (decide_eq_true (by omega)))) rfl ?_
      refine V (x_move (by conv => lhs; whnf)) rfl ?_
      refine VG rfl (x_move (by conv => lhs; whnf)) rfl ?_
      refine VG rfl (x_bin rfl rfl (bt (decide_eq_true (by omega)))) rfl ?_
      refine V (x_pick_t rfl (by conv => lhs; whnf)) rfl ?_
      refine V (x_assign (by conv => lhs; whnf)) rfl ?_
      refine WL_nil ?_
      refine W_true (rfl) ?_
      refine W_seq ?_
      refine W_region ?_
      refine V (x_move (by conv => lhs; whnf)) rfl ?_
      refine V (x_index (i := 3) Tryd.underlying62 sz5 rfl rfl rfl (by omega)) rfl ?_
      refine V (x_load ld5 rfl (hB.cell 3 rfl)) rfl ?_
      refine WL_nil ?_
      refine W_seq ?_
      refine W_region ?_
      refine V (x_move (by conv => lhs; whnf)) rfl ?_
      refine V (x_move (by conv => lhs; whnf)) rfl ?_
      refine V (x_shr rfl rfl (by decide)) rfl ?_
      refine V (x_convi Tryd.underlying21 Tryd.underlying5 rfl) rfl ?_
      refine V (x_bin rfl rfl (b_or t_or4 (z := r / 262144) (by rw [sh18 (by omega), u8w (by omega)]; omega) (by omega) (by omega))) rfl ?_
      refine V (x_index (i := 0) Tryd.underlying62 sz5 rfl rfl rfl (by omega)) rfl ?_
      refine S (x_store st5 rfl (by conv => lhs; whnf) rfl (hB.cell 0 rfl) (hB.free 0)) ?_
      refine WL_nil ?_
      refine W_seq ?_
      refine W_region ?_
      refine V (x_move (by conv => lhs; whnf)) rfl ?_
      refine V (x_move (by conv => lhs; whnf)) rfl ?_
      refine V (x_shr rfl rfl (by decide)) rfl ?_
      refine V (x_convi Tryd.underlying21 Tryd.underlying5 rfl) rfl ?_
      refine V (x_bin rfl rfl (b_and (z := r / 4096 % 256) (by rw [sh12 (by omega), u8w (by omega)]) (by omega) (by omega))) rfl ?_
      refine V (x_bin rfl rfl (b_or t_or1 (z := r / 4096 % 64) (by omega) (by omega) (by omega))) rfl ?_
      refine V (x_index (i := 1) Tryd.underlying62 sz5 rfl rfl rfl (by omega)) rfl ?_
      refine S (x_store st5 rfl (by conv => lhs; whnf) rfl (hB1.cell 1 rfl) (hB1.free 1)) ?_
      refine WL_nil ?_
      refine W_seq ?_
      refine W_region ?_
      refine V (x_move (by conv => lhs; whnf)) rfl ?_
      refine V (x_move (by conv => lhs; whnf)) rfl ?_
      refine V (x_shr rfl rfl (by decide)) rfl ?_
      refine V (x_convi Tryd.underlying21 Tryd.underlying5 rfl) rfl ?_
      refine V (x_bin rfl rfl (b_and (z := r / 64 % 256) (by rw [sh6 (by omega), u8w (by omega)]) (by omega) (by omega))) rfl ?_
      refine V (x_bin rfl rfl (b_or t_or1 (z := r / 64 % 64) (by omega) (by omega) (by omega))) rfl ?_
      refine V (x_index (i := 2) Tryd.underlying62 sz5 rfl rfl rfl (by omega)) rfl ?_
      refine S (x_store st5 rfl (by conv => lhs; whnf) rfl (hB2.cell 2 rfl) (hB2.free 2)) ?_
      refine WL_nil ?_
      refine W_seq ?_
      refine W_region ?_
      refine V (x_move (by conv => lhs; whnf)) rfl ?_
      refine V (x_move (by conv => lhs; whnf)) rfl ?_
      refine V (x_convi Tryd.underlying21 Tryd.underlying5 rfl) rfl ?_
      refine V (x_bin rfl rfl (b_and (z := r % 256) (u8w (by omega)) (by omega) (by omega))) rfl ?_
      refine V (x_bin rfl rfl (b_or t_or1 (z := r % 64) (by omega) (by omega) (by omega))) rfl ?_
      refine V (x_index (i := 3) Tryd.underlying62 sz5 rfl rfl rfl (by omega)) rfl ?_
      refine S (x_store st5 rfl (by conv => lhs; whnf) rfl (hB3.cell 3 rfl) (hB3.free 3)) ?_
      refine WL_nil ?_
      refine W_seq ?_
      refine W_region ?_
      refine V (x_assign (by conv => lhs; whnf)) rfl ?_
      refine WL_nil ?_
      refine W_ret ?_
      repeat (with_reducible (first | refine rt ?_ | refine rb ?_))
      exact bodyE_1 rfl rfl (encPost (encR_4 (by omega) (by omega)) (rest := []) hB4 rfl ((((Only.setCell (· = g) w rfl _).trans (Only.setCell (· = g) _ rfl _)).trans (Only.setCell (· = g) _ rfl _)).trans (Only.setCell (· = g) _ rfl _)) rfl)
theorem EncodeRune_ok (g : Nat) (r : Int) (w : World) (c0 c1 c2 c3 : Value) (h0 : 128 ≤ r) (hv : Lib.validRune r = true) (hB : Blk w g 105 [c0, c1, c2, c3]) :
    Ret Tryd.prog 62 #[.slice (some ⟨g, 0, none⟩) 4 4, .int .i32 r] w (EncPost g r w) := by
  have hv2 : (0 ≤ r ∧ r < 55296) ∨ (57343 < r ∧ r ≤ 1114111) := by simpa [Lib.validRune] using hv
  have hw : IntKind.u32.wrap r = r := u32w (by omega) (by omega)
  refine ret_of_W Tryd.func62 rfl (Nat.le_of_ble_eq_true rfl) ?_
  refine W_seq ?_
  refine W_region ?_
  refine V (x_assign (by conv => lhs; whnf)) rfl ?_
  refine WL_nil ?_
  refine W_seq ?_
  refine W_seq ?_
  refine W_region ?_
  refine V (x_move (by conv => lhs; whnf)) rfl ?_
  refine V (x_convi Tryd.underlying21 Tryd.underlying102 rfl) rfl ?_
  rw [hw]
  refine V (x_bin rfl rfl (bf (decide_eq_false (by omega)))) rfl ?_
  refine WL_nil ?_
  refine W_false (rfl) ?_
  refine W_skip ?_
  refine W_seq ?_
  refine W_region ?_
  refine V (x_move (by conv => lhs; whnf)) rfl ?_
  refine V (x_move (by conv => lhs; whnf)) rfl ?_
  refine C (x_call2 cf73 (by conv => lhs; whnf) (by conv => lhs; whnf)) rfl ?_
  refine (encSlow_ok g r _ c0 c1 c2 c3 h0 hv hB).mono fun v w1 h1 => ?_
  obtain ⟨rfl, h2⟩ := h1
  refine V (x_assign (by conv => lhs; whnf)) rfl ?_
  refine WL_nil ?_
  refine W_ret ?_
  repeat (with_reducible (first | refine rt ?_ | refine rb ?_))
  exact bodyE_1 rfl rfl ⟨rfl, h2⟩
end Go.Proofs.YtcdhbfhijkdfoaaDoor
