/-
  bytes.IndexRune: the first place of a character.
-/
import Derived.Test.YtcdhbfhijkdfoaaDoorEr
import Derived.Lib.SlBytesIndexEntry
import Derived.Lib.IndexLaws
import Derived.Lib.IndexBytes
import Derived.Lib.IndexMore
namespace Go.EC
open Go.RowKit
section
variable {P : Program} {e : Env} {w : World} {d : Option Nat} {ty : TypeId} {pos : String} {af : Array Edge} {g : Option (Nat × Bool)}
theorem x_arr {t te : TypeId} {x : Operand} {gg m : Nat} (hu : P.underlying t = some (.array m te)) (hs : ∀ w, (sizeOf te).run P w = .ok 1 w) (hx : ev e x = .pointer (some ⟨gg, 0, none⟩)) :
    (execOp (ev e) ⟨d, .slice t x none none none, ty, pos, af, g⟩).run P w = .ok (.value (.slice (some ⟨gg, 0, none⟩) m m)) w := by
  simp [execOp, hx, Instr.sliceAt, Instr.sureAddr, run_underlying hu, Instr.sliceBounds, hs, Addr.add]
theorem x_arr_h {t te : TypeId} {x y : Operand} {gg m h : Nat} {k : IntKind} {z : Int} (hu : P.underlying t = some (.array m te)) (hs : ∀ w, (sizeOf te).run P w = .ok 1 w) (hx : ev e x = .pointer (some ⟨gg, 0, none⟩)) (hy : ev e y = .int k z) (hz : z = (h : Int)) (hh : h ≤ m) :
    (execOp (ev e) ⟨d, .slice t x none (some y) none, ty, pos, af, g⟩).run P w = .ok (.value (.slice (some ⟨gg, 0, none⟩) h m)) w := by
  simp only [execOp, hx, Option.map_some, Option.map_none, hy, Instr.sliceAt, Instr.sureAddr, Sem.run_bind, run_underlying hu, Result.andThen_ok, Instr.sliceBounds, Sem.run_pure, sliceBound_run rfl hz hh, hs, Nat.zero_mul, Nat.sub_zero]
  simp [Addr.add]
theorem x_arr_i {t te : TypeId} {x y : Operand} {k : IntKind} {gg m i : Nat} {z : Int} (hu : P.underlying t = some (.array m te)) (hs : ∀ w, (sizeOf te).run P w = .ok 1 w)
    (hx : ev e x = .pointer (some ⟨gg, 0, none⟩)) (hy : ev e y = .int k z) (hz : z = (i : Int)) (hi : i < m) :
    (execOp (ev e) ⟨d, .indexAddr t x y, ty, pos, af, g⟩).run P w = .ok (.value (.pointer (some ⟨gg, i, none⟩))) w := by
  subst hz
  have : Addr.add ⟨gg, 0, none⟩ i = ⟨gg, i, none⟩ := by rw [add_none]; simp
  have h0 : (0 : Int) ≤ (i : Int) := by omega
  simp [execOp, hx, hy, Instr.indexAt, asIntOf, Instr.sureAddr, run_underlying hu, h0, hs, this]
  omega
end
end Go.EC
namespace Go.Proofs.YtcdhbfhijkdfoaaDoor
open Go.EC Go.RowKit
def scC : Code → Code
  | .scope c => c
  | c => c

theorem IndexRune_ascii (A : Option Addr) (L : Bytes) (c : Nat) (r : Int) (w : World) (h : At w A L) (h0 : 0 ≤ r) (h1 : r < 128) :
    Ret Tryd.prog 52 #[.slice A L.length c, .int .i32 r] w fun v w' => v = .int .i64 (Lib.index L (encR r)) ∧ w = w' := by
  refine ret_of_W Tryd.func52 rfl (Nat.le_of_ble_eq_true rfl) ?_
  have hI : Lib.indexByte L (UInt8.ofNat r.toNat) = Lib.index L (encR r) := by rw [encR_1 h0 h1, Lib.index_one]
  refine W_seq ?_
  refine W_region ?_
  refine V (x_assign (by conv => lhs; whnf)) rfl ?_
  refine WL_nil ?_
  refine W_block ?_
  refine W_seq ?_
  refine W_region ?_
  refine V (x_move (by conv => lhs; whnf)) rfl ?_
  refine V (x_bin rfl rfl (bt (decide_eq_true (by omega)))) rfl ?_
  refine V (x_move (by conv => lhs; whnf)) rfl ?_
  refine VG rfl (x_move (by conv => lhs; whnf)) rfl ?_
  refine VG rfl (x_bin rfl rfl (bt (decide_eq_true (by omega)))) rfl ?_
  refine V (x_pick_t rfl (by conv => lhs; whnf)) rfl ?_
  refine V (x_assign (by conv => lhs; whnf)) rfl ?_
  refine WL_nil ?_
  refine W_true (rfl) ?_
  refine W_seq ?_
  refine W_region ?_
  refine V (x_move (by conv => lhs; whnf)) rfl ?_
  refine V (x_move (by conv => lhs; whnf)) rfl ?_
  refine V (x_convi Tryd.underlying21 Tryd.underlying5 rfl) rfl ?_
  refine C (x_call2 cf53 (by conv => lhs; whnf) (by conv => lhs; whnf)) rfl ?_
  refine (IndexByte_n A L.length c L (UInt8.ofNat r.toNat) _ _ _ h rfl (by rw [u8w h0, UInt8.toNat_ofNat']; omega) hI).mono fun v w1 h1 => ?_
  obtain ⟨rfl, rfl⟩ := h1
  refine V (x_assign (by conv => lhs; whnf)) rfl ?_
  refine WL_nil ?_
  refine W_ret ?_
  repeat (with_reducible (first | refine rt ?_ | refine rb ?_))
  exact bodyE_1 rfl rfl ⟨rfl, rfl⟩

/-- The first place of the delimiter's last byte ends an instance, if there is such a place. -/
def irOk (E L : Bytes) : Prop := ∀ j : Nat, E.length - 1 ≤ j → L[j]? = E.getLast? → (∀ i : Nat, E.length - 1 ≤ i → i < j → L[i]? ≠ E.getLast?) → Lib.occAt L E (j - (E.length - 1)) = true
theorem occ_get {L E : Bytes} {k : Nat} (h : Lib.occAt L E k = true) (m : Nat) (hm : m < E.length) : L[k + m]? = some (E[m]'hm) := by
  unfold Lib.occAt at h
  obtain ⟨t, ht⟩ := List.isPrefixOf_iff_prefix.1 h
  rw [← List.getElem?_drop, ← ht, List.getElem?_append_left hm, List.getElem?_eq_getElem hm]
theorem last_get {E : Bytes} (h : E ≠ []) : E.getLast? = some (E[E.length - 1]'(by have := List.length_pos_iff.2 h; omega)) := by
  rw [List.getLast?_eq_getElem?, List.getElem?_eq_getElem]
theorem encR_len {r : Int} (h0 : 128 ≤ r) (hv : Lib.validRune r = true) : 2 ≤ (encR r).length ∧ (encR r).length ≤ 4 := by
  have hv2 : (0 ≤ r ∧ r < 55296) ∨ (57343 < r ∧ r ≤ 1114111) := by simpa [Lib.validRune] using hv
  rw [← List.length_map (f := bv)]
  by_cases h2 : r < 2048
  · rw [encR_2 h0 h2]; simp
  · by_cases h3 : r < 65536
    · rw [encR_3 (by omega) h3 hv]; simp
    · rw [encR_4 (by omega) (by omega)]; simp
theorem z105 (w : World) : (zeroValue 105).run Tryd.prog w = .ok (.agg #[.int .u8 0, .int .u8 0, .int .u8 0, .int .u8 0]) w := by kernel_rfl
theorem noOcc_of {L E : Bytes} (hE : E ≠ []) {k : Nat} (h : ∀ i : Nat, E.length - 1 ≤ i → i < k + (E.length - 1) → L[i]? ≠ E.getLast?) : Lib.NoOcc L E k := fun j hj => by
  cases ho : Lib.occAt L E j
  · rfl
  · exact absurd (by rw [last_get hE]; exact occ_get ho (E.length - 1) (by have := List.length_pos_iff.2 hE; omega)) (h (j + (E.length - 1)) (by omega) (by omega))
theorem u8_inj {a b : UInt8} (h : (a.toNat : Int) = (b.toNat : Int)) : a = b := UInt8.toNat_inj.1 (by omega)
theorem IndexRune_multi (A : Option Addr) (L : Bytes) (c : Nat) (r : Int) (w : World) (h : At w A L) (hc : L.length ≤ c) (hm : L.length ≤ 2147487744) (h0 : 128 ≤ r) (hv : Lib.validRune r = true) (hr : r ≠ 65533) (hok : irOk (encR r) L) :
    Ret Tryd.prog 52 #[.slice A L.length c, .int .i32 r] w fun v w' => v = .int .i64 (Lib.index L (encR r)) ∧ Only (fun _ => False) w w' := by
  have hlen := encR_len h0 hv
  have hB0 : Blk (w.alloc (.cells #[.int .u8 0, .int .u8 0, .int .u8 0, .int .u8 0] 105)) w.heap.size 105 [.int .u8 0, .int .u8 0, .int .u8 0, .int .u8 0] := Blk.new w _ _
  generalize hE : encR r = E at *
  have hEn : E ≠ [] := by rintro rfl; simp at hlen
  refine ret_of_W Tryd.func52 rfl (Nat.le_of_ble_eq_true rfl) ?_
  have none_ : (∀ i : Nat, E.length - 1 ≤ i → L[i]? ≠ E.getLast?) → Lib.index L E = -1 := fun hnone => Lib.index_none fun j _ => noOcc_of hEn (k := j + 1) (fun i h1 _ => hnone i h1) j (by omega)
  by_cases hsh : L.length ≤ E.length - 1
  · rw [none_ (fun i hi hh => by rw [last_get hEn, List.getElem?_eq_none (by omega)] at hh; cases hh)]
    refine W_seq ?_
    refine W_region ?_
    refine V (x_assign (by conv => lhs; whnf)) rfl ?_
    refine WL_nil ?_
    refine W_block ?_
    refine W_seq ?_
    refine W_region ?_
    refine V (x_move (by conv => lhs; whnf)) rfl ?_
    refine V (x_bin rfl rfl (bt (decide_eq_true (by omega)))) rfl ?_
    refine V (x_move (by conv => lhs; whnf)) rfl ?_
    refine VG rfl (x_move (by conv => lhs; whnf)) rfl ?_
    refine VG rfl (x_bin rfl rfl (bf (decide_eq_false (by omega)))) rfl ?_
    refine V (x_pick_t rfl (by conv => lhs; whnf)) rfl ?_
    refine V (x_assign (by conv => lhs; whnf)) rfl ?_
    refine WL_nil ?_
    refine W_false (rfl) ?_
    refine W_seq ?_
    refine W_region ?_
    refine V (x_move (by conv => lhs; whnf)) rfl ?_
    refine V (x_bin rfl rfl (bf (beq_eq_false_iff_ne.2 (by omega)))) rfl ?_
    refine V (x_assign (by conv => lhs; whnf)) rfl ?_
    refine WL_nil ?_
    refine W_false (rfl) ?_
    refine W_seq ?_
    refine W_region ?_
    refine V (x_move (by conv => lhs; whnf)) rfl ?_
    refine C (x_call1 cf57 (by conv => lhs; whnf)) rfl ?_
    refine (ValidRune_ok r _).mono fun v w1 h1 => ?_
    obtain ⟨rfl, rfl⟩ := h1
    rw [hv]
    refine V (x_not rfl) rfl ?_
    refine V (x_assign (by conv => lhs; whnf)) rfl ?_
    refine WL_nil ?_
    refine W_false (rfl) ?_
    refine W_scope ?_
    refine W_seq ?_
    refine W_region ?_
    refine V (x_alloc (cs := [.int .u8 0, .int .u8 0, .int .u8 0, .int .u8 0]) z105 rfl) rfl ?_
    refine WL_nil ?_
    refine W_seq ?_
    refine W_region ?_
    refine V (x_arr Tryd.underlying105 sz5 rfl) rfl ?_
    refine V (x_move (by conv => lhs; whnf)) rfl ?_
    refine C (x_call2 cf62 (by conv => lhs; whnf) (by conv => lhs; whnf)) rfl ?_
    refine (EncodeRune_ok w.heap.size r _ _ _ _ _ h0 hv hB0).mono fun v w1 h1 => ?_
    obtain ⟨rfl, ⟨cs, hB, hl4, hcs⟩, hO⟩ := h1
    rw [hE]
    rw [hE] at hcs
    have hfin : Only (fun _ => False) w w1 := (Only.alloc _ w _).then_ hO (fun i hi hh => by omega)
    have hA := h.only hfin (fun _ _ _ => id)
    refine V (x_assign (by conv => lhs; whnf)) rfl ?_
    refine WL_nil ?_
    refine W_seq ?_
    refine W_region ?_
    refine V (x_move (by conv => lhs; whnf)) rfl ?_
    refine V (x_bin rfl rfl (ib_subn (m := E.length - 1) (by omega) (by omega))) rfl ?_
    refine V (x_assign (by conv => lhs; whnf)) rfl ?_
    refine WL_nil ?_
    refine W_seq ?_
    refine W_region ?_
    refine V (x_move (by conv => lhs; whnf)) rfl ?_
    refine V (x_assign (by conv => lhs; whnf)) rfl ?_
    refine WL_nil ?_
    refine W_seq ?_
    refine W_region ?_
    refine V (x_assign (by conv => lhs; whnf)) rfl ?_
    refine WL_nil ?_
    refine W_seq ?_
    refine W_block ?_
    refine W_once ?_
    refine W_seq ?_
    refine W_seq ?_
    refine W_region ?_
    refine V (x_move (by conv => lhs; whnf)) rfl ?_
    refine V (x_move (by conv => lhs; whnf)) rfl ?_
    refine V (x_len_slice Tryd.underlying62 rfl) rfl ?_
    refine V (x_bin rfl rfl (bf (decide_eq_false (by omega)))) rfl ?_
    refine WL_nil ?_
    refine W_false (rfl) ?_
    refine W_exit ?_
    refine W_seq ?_
    refine W_seq ?_
    refine W_region ?_
    refine V (x_assign (by conv => lhs; whnf)) rfl ?_
    refine WL_nil ?_
    refine W_ret ?_
    repeat (with_reducible (first | refine rt ?_ | refine rb ?_ | refine rs ?_ | refine rj ?_))
    exact bodyE_1 rfl rfl ⟨rfl, hfin⟩
  obtain ⟨gA, oA, rfl, hcell0⟩ := h (by rintro rfl; simp at hsh)
  obtain ⟨b, hb⟩ : ∃ b, E[E.length - 1]'(by omega) = b := ⟨_, rfl⟩
  have hlast : E.getLast? = some b := by rw [last_get hEn, hb]
  have gL : L[E.length - 1]? = some (L[E.length - 1]'(by omega)) := List.getElem?_eq_getElem (by omega)
  have gE : E[E.length - 1]? = some b := by rw [List.getElem?_eq_getElem (by omega), hb]
  by_cases heq : (L[E.length - 1]'(by omega)) = b
  · have hocc : Lib.occAt L E (E.length - 1 - (E.length - 1)) = true := hok _ (Nat.le_refl _) (by rw [gL, hlast, heq]) (fun i h1 h2 => by omega)
    have hhit : Lib.index L E = ((E.length - 1 - (E.length - 1) : Nat) : Int) := Lib.index_hit (noOcc_of hEn (fun i h1 h2 => by omega)) (by omega) hocc
    refine W_seq ?_
    refine W_region ?_
    refine V (x_assign (by conv => lhs; whnf)) rfl ?_
    refine WL_nil ?_
    refine W_block ?_
    refine W_seq ?_
    refine W_region ?_
    refine V (x_move (by conv => lhs; whnf)) rfl ?_
    refine V (x_bin rfl rfl (bt (decide_eq_true (by omega)))) rfl ?_
    refine V (x_move (by conv => lhs; whnf)) rfl ?_
    refine VG rfl (x_move (by conv => lhs; whnf)) rfl ?_
    refine VG rfl (x_bin rfl rfl (bf (decide_eq_false (by omega)))) rfl ?_
    refine V (x_pick_t rfl (by conv => lhs; whnf)) rfl ?_
    refine V (x_assign (by conv => lhs; whnf)) rfl ?_
    refine WL_nil ?_
    refine W_false (rfl) ?_
    refine W_seq ?_
    refine W_region ?_
    refine V (x_move (by conv => lhs; whnf)) rfl ?_
    refine V (x_bin rfl rfl (bf (beq_eq_false_iff_ne.2 (by omega)))) rfl ?_
    refine V (x_assign (by conv => lhs; whnf)) rfl ?_
    refine WL_nil ?_
    refine W_false (rfl) ?_
    refine W_seq ?_
    refine W_region ?_
    refine V (x_move (by conv => lhs; whnf)) rfl ?_
    refine C (x_call1 cf57 (by conv => lhs; whnf)) rfl ?_
    refine (ValidRune_ok r _).mono fun v w1 h1 => ?_
    obtain ⟨rfl, rfl⟩ := h1
    rw [hv]
    refine V (x_not rfl) rfl ?_
    refine V (x_assign (by conv => lhs; whnf)) rfl ?_
    refine WL_nil ?_
    refine W_false (rfl) ?_
    refine W_scope ?_
    refine W_seq ?_
    refine W_region ?_
    refine V (x_alloc (cs := [.int .u8 0, .int .u8 0, .int .u8 0, .int .u8 0]) z105 rfl) rfl ?_
    refine WL_nil ?_
    refine W_seq ?_
    refine W_region ?_
    refine V (x_arr Tryd.underlying105 sz5 rfl) rfl ?_
    refine V (x_move (by conv => lhs; whnf)) rfl ?_
    refine C (x_call2 cf62 (by conv => lhs; whnf) (by conv => lhs; whnf)) rfl ?_
    refine (EncodeRune_ok w.heap.size r _ _ _ _ _ h0 hv hB0).mono fun v w1 h1 => ?_
    obtain ⟨rfl, ⟨cs, hB, hl4, hcs⟩, hO⟩ := h1
    rw [hE]
    rw [hE] at hcs
    have hfin : Only (fun _ => False) w w1 := (Only.alloc _ w _).then_ hO (fun i hi hh => by omega)
    have hA := h.only hfin (fun _ _ _ => id)
    refine V (x_assign (by conv => lhs; whnf)) rfl ?_
    refine WL_nil ?_
    refine W_seq ?_
    refine W_region ?_
    refine V (x_move (by conv => lhs; whnf)) rfl ?_
    refine V (x_bin rfl rfl (ib_subn (m := E.length - 1) (by omega) (by omega))) rfl ?_
    refine V (x_assign (by conv => lhs; whnf)) rfl ?_
    refine WL_nil ?_
    have hcell : ∀ j b, L[j]? = some b → w1.cell? ⟨gA, oA + j, none⟩ = some (bv b) := fun j b hjb => (World.cell?_of_block (hfin.block gA (cell_lt (hcell0 j b hjb)) id)).trans (hcell0 j b hjb)
    have gC : cs[E.length - 1]? = some (bv b) := hcs _ _ gE
    refine W_seq ?_
    refine W_region ?_
    refine V (x_move (by conv => lhs; whnf)) rfl ?_
    refine V (x_assign (by conv => lhs; whnf)) rfl ?_
    refine WL_nil ?_
    refine W_seq ?_
    refine W_region ?_
    refine V (x_assign (by conv => lhs; whnf)) rfl ?_
    refine WL_nil ?_
    refine W_seq ?_
    refine W_block ?_
    refine W_once ?_
    refine W_seq ?_
    refine W_seq ?_
    refine W_region ?_
    refine V (x_move (by conv => lhs; whnf)) rfl ?_
    refine V (x_move (by conv => lhs; whnf)) rfl ?_
    refine V (x_len_slice Tryd.underlying62 rfl) rfl ?_
    refine V (x_bin rfl rfl (bt (decide_eq_true (by omega)))) rfl ?_
    refine WL_nil ?_
    refine W_true (rfl) ?_
    refine W_skip ?_
    refine W_block ?_
    refine W_scope ?_
    refine W_seq ?_
    refine W_seq ?_
    refine W_q mixed (by kernel_rfl) ?_
    refine K (x_move (by conv => lhs; whnf)) rfl ?_
    refine K (x_move (by conv => lhs; whnf)) rfl ?_
    refine K (x_index Tryd.underlying62 sz5 rfl rfl rfl (by omega)) rfl ?_
    refine K (x_load ld5 rfl (hcell _ _ gL)) rfl ?_
    refine K (x_move (by conv => lhs; whnf)) rfl ?_
    refine K (x_arr_i Tryd.underlying105 sz5 rfl rfl rfl (by omega)) rfl ?_
    refine K (x_load ld5 rfl (hB.cell _ gC)) rfl ?_
    refine K (x_bin rfl rfl (bf (bne_eq_false_iff_eq.2 (by rw [heq])))) rfl ?_
    refine KN ?_
    refine W_false (rfl) ?_
    refine W_skip ?_
    refine W_seq ?_
    refine W_seq ?_
    refine W_region ?_
    refine V (x_assign (by conv => lhs; whnf)) rfl ?_
    refine WL_nil ?_
    refine W_block ?_
    refine W_loop (fun K e w' => ∃ j : Nat, 1 ≤ j ∧ j ≤ E.length ∧ K = E.length - j ∧ e 0 = .slice (some ⟨gA, oA, none⟩) L.length c ∧ e 8 = .pointer (some ⟨w.heap.size, 0, none⟩) ∧ e 9 = .int .i64 (E.length : Int) ∧ e 10 = .int .i64 ((E.length - 1 : Nat) : Int) ∧ e 11 = .int .i64 (((E.length - 1) : Nat) : Int) ∧ e 14 = .int .i64 (j : Int) ∧ Same w1 w') (k0 := E.length - 1) ⟨1, by omega, by omega, rfl, rfl, rfl, rfl, rfl, rfl, rfl, Same.drew w1⟩ ?_
    rintro K e w2 ⟨j, hj1, hj2, rfl, e0, e8, e9, e10, e11, e14, hs⟩
    rw [← upd_self e0, ← upd_self (e := upd e 0 _) (d := 8) e8, ← upd_self (e := upd (upd e 0 _) 8 _) (d := 9) e9, ← upd_self (e := upd (upd (upd e 0 _) 8 _) 9 _) (d := 10) e10, ← upd_self (e := upd (upd (upd (upd e 0 _) 8 _) 9 _) 10 _) (d := 11) e11, ← upd_self (e := upd (upd (upd (upd (upd e 0 _) 8 _) 9 _) 10 _) 11 _) (d := 14) e14]
    have hB2 := hB.same hs
    have hc2 : ∀ j b, L[j]? = some b → w2.cell? ⟨gA, oA + j, none⟩ = some (bv b) := fun j b hb => (hs.cell _).trans (hcell j b hb)
    by_cases hjn : j < E.length
    · have g1 : L[(E.length - 1) - j]? = some (E[E.length - 1 - j]'(by omega)) := by
        have := occ_get hocc (E.length - 1 - j) (by omega)
        rw [show (E.length - 1) - (E.length - 1) + (E.length - 1 - j) = (E.length - 1) - j by omega] at this
        exact this
      have g2 : cs[E.length - 1 - j]? = some (bv (E[E.length - 1 - j]'(by omega))) := hcs _ _ (List.getElem?_eq_getElem (by omega))
      have hlt : (E.length - 1) - j < L.length := (List.getElem?_eq_some_iff.1 g1).1
      refine W_seq ?_
      refine W_seq ?_
      refine W_region ?_
      refine V (x_move (by conv => lhs; whnf)) rfl ?_
      refine V (x_move (by conv => lhs; whnf)) rfl ?_
      refine V (x_bin rfl rfl (bt (decide_eq_true (by omega)))) rfl ?_
      refine WL_nil ?_
      refine W_true (rfl) ?_
      refine W_skip ?_
      refine W_seq ?_
      refine W_block ?_
      refine W_seq ?_
      refine W_q mixed (by kernel_rfl) ?_
      refine K (x_move (by conv => lhs; whnf)) rfl ?_
      refine K (x_move (by conv => lhs; whnf)) rfl ?_
      refine K (x_move (by conv => lhs; whnf)) rfl ?_
      refine K (x_bin rfl rfl (ib_subn (m := (E.length - 1) - j) (by omega) (by omega))) rfl ?_
      refine K (x_index Tryd.underlying62 sz5 rfl rfl rfl (by omega)) rfl ?_
      refine K (x_load ld5 rfl (hc2 _ _ g1)) rfl ?_
      refine K (x_move (by conv => lhs; whnf)) rfl ?_
      refine K (x_move (by conv => lhs; whnf)) rfl ?_
      refine K (x_bin rfl rfl (ib_subn (m := E.length - 1 - j) (by omega) (by omega))) rfl ?_
      refine K (x_arr_i Tryd.underlying105 sz5 rfl rfl rfl (by omega)) rfl ?_
      refine K (x_load ld5 rfl (hB2.cell _ g2)) rfl ?_
      refine K (x_bin rfl rfl (bf (bne_eq_false_iff_eq.2 rfl))) rfl ?_
      refine KN ?_
      refine W_false (rfl) ?_
      refine W_skip ?_
      refine W_region ?_
      refine V (x_move (by conv => lhs; whnf)) rfl ?_
      refine V (x_bin rfl rfl (ib_addn (m := j + 1) (by omega) (by omega))) rfl ?_
      refine V (x_assign (by conv => lhs; whnf)) rfl ?_
      refine WL_nil ?_
      repeat (first | with_reducible refine xt ?_ | with_reducible refine xb ?_ | with_reducible refine nt ?_ | with_reducible refine nb ?_ | with_reducible refine xn rfl ?_)
      exact ⟨E.length - (j + 1), by omega, j + 1, by omega, by omega, rfl, rfl, rfl, rfl, rfl, rfl, rfl, hs.dr⟩
    · skip
      refine W_seq ?_
      refine W_seq ?_
      refine W_region ?_
      refine V (x_move (by conv => lhs; whnf)) rfl ?_
      refine V (x_move (by conv => lhs; whnf)) rfl ?_
      refine V (x_bin rfl rfl (bf (decide_eq_false (by omega)))) rfl ?_
      refine WL_nil ?_
      refine W_false (rfl) ?_
      refine W_exit ?_
      repeat (first | with_reducible refine xt ?_ | with_reducible refine xb ?_ | with_reducible refine nt ?_ | with_reducible refine nb ?_ | with_reducible refine xn rfl ?_)
      refine W_seq ?_
      refine W_seq ?_
      refine W_region ?_
      refine V (x_move (by conv => lhs; whnf)) rfl ?_
      refine V (x_move (by conv => lhs; whnf)) rfl ?_
      refine V (x_bin rfl rfl (ib_subn (m := (E.length - 1) - (E.length - 1)) (by omega) (by omega))) rfl ?_
      refine V (x_assign (by conv => lhs; whnf)) rfl ?_
      refine WL_nil ?_
      refine W_ret ?_
      repeat (with_reducible (first | refine rt ?_ | refine rb ?_ | refine rs ?_ | refine rj ?_))
      rw [hhit]
      exact bodyE_1 rfl rfl ⟨rfl, hfin.trans (hs.only _)⟩
  · by_cases hneg : Lib.indexByte (L.drop (E.length - 1 + 1)) b < 0
    · have hno := idx_none hneg
      rw [none_ (fun i hi hh => by
        rw [hlast] at hh
        by_cases hie : i = E.length - 1
        · subst hie; rw [gL] at hh; injection hh with hh; exact heq hh
        · refine hno (List.mem_of_getElem? (i := i - (E.length - 1 + 1)) ?_)
          rw [List.getElem?_drop, ← hh]; congr 1; omega)]
      refine W_seq ?_
      refine W_region ?_
      refine V (x_assign (by conv => lhs; whnf)) rfl ?_
      refine WL_nil ?_
      refine W_block ?_
      refine W_seq ?_
      refine W_region ?_
      refine V (x_move (by conv => lhs; whnf)) rfl ?_
      refine V (x_bin rfl rfl (bt (decide_eq_true (by omega)))) rfl ?_
      refine V (x_move (by conv => lhs; whnf)) rfl ?_
      refine VG rfl (x_move (by conv => lhs; whnf)) rfl ?_
      refine VG rfl (x_bin rfl rfl (bf (decide_eq_false (by omega)))) rfl ?_
      refine V (x_pick_t rfl (by conv => lhs; whnf)) rfl ?_
      refine V (x_assign (by conv => lhs; whnf)) rfl ?_
      refine WL_nil ?_
      refine W_false (rfl) ?_
      refine W_seq ?_
      refine W_region ?_
      refine V (x_move (by conv => lhs; whnf)) rfl ?_
      refine V (x_bin rfl rfl (bf (beq_eq_false_iff_ne.2 (by omega)))) rfl ?_
      refine V (x_assign (by conv => lhs; whnf)) rfl ?_
      refine WL_nil ?_
      refine W_false (rfl) ?_
      refine W_seq ?_
      refine W_region ?_
      refine V (x_move (by conv => lhs; whnf)) rfl ?_
      refine C (x_call1 cf57 (by conv => lhs; whnf)) rfl ?_
      refine (ValidRune_ok r _).mono fun v w1 h1 => ?_
      obtain ⟨rfl, rfl⟩ := h1
      rw [hv]
      refine V (x_not rfl) rfl ?_
      refine V (x_assign (by conv => lhs; whnf)) rfl ?_
      refine WL_nil ?_
      refine W_false (rfl) ?_
      refine W_scope ?_
      refine W_seq ?_
      refine W_region ?_
      refine V (x_alloc (cs := [.int .u8 0, .int .u8 0, .int .u8 0, .int .u8 0]) z105 rfl) rfl ?_
      refine WL_nil ?_
      refine W_seq ?_
      refine W_region ?_
      refine V (x_arr Tryd.underlying105 sz5 rfl) rfl ?_
      refine V (x_move (by conv => lhs; whnf)) rfl ?_
      refine C (x_call2 cf62 (by conv => lhs; whnf) (by conv => lhs; whnf)) rfl ?_
      refine (EncodeRune_ok w.heap.size r _ _ _ _ _ h0 hv hB0).mono fun v w1 h1 => ?_
      obtain ⟨rfl, ⟨cs, hB, hl4, hcs⟩, hO⟩ := h1
      rw [hE]
      rw [hE] at hcs
      have hfin : Only (fun _ => False) w w1 := (Only.alloc _ w _).then_ hO (fun i hi hh => by omega)
      have hA := h.only hfin (fun _ _ _ => id)
      refine V (x_assign (by conv => lhs; whnf)) rfl ?_
      refine WL_nil ?_
      refine W_seq ?_
      refine W_region ?_
      refine V (x_move (by conv => lhs; whnf)) rfl ?_
      refine V (x_bin rfl rfl (ib_subn (m := E.length - 1) (by omega) (by omega))) rfl ?_
      refine V (x_assign (by conv => lhs; whnf)) rfl ?_
      refine WL_nil ?_
      have hcell : ∀ j b, L[j]? = some b → w1.cell? ⟨gA, oA + j, none⟩ = some (bv b) := fun j b hjb => (World.cell?_of_block (hfin.block gA (cell_lt (hcell0 j b hjb)) id)).trans (hcell0 j b hjb)
      have gC : cs[E.length - 1]? = some (bv b) := hcs _ _ gE
      have hD : At (dr (dr w1)) (if c = E.length - 1 + 1 then (some ⟨gA, oA, none⟩ : Option Addr) else (some ⟨gA, oA, none⟩ : Option Addr).map (·.add (E.length - 1 + 1))) (L.drop (E.length - 1 + 1)) := At.drop (hA : At (dr (dr w1)) _ L) (E.length - 1 + 1) c hc
      refine W_seq ?_
      refine W_region ?_
      refine V (x_move (by conv => lhs; whnf)) rfl ?_
      refine V (x_assign (by conv => lhs; whnf)) rfl ?_
      refine WL_nil ?_
      refine W_seq ?_
      refine W_region ?_
      refine V (x_assign (by conv => lhs; whnf)) rfl ?_
      refine WL_nil ?_
      refine W_seq ?_
      refine W_block ?_
      refine W_once ?_
      refine W_seq ?_
      refine W_seq ?_
      refine W_region ?_
      refine V (x_move (by conv => lhs; whnf)) rfl ?_
      refine V (x_move (by conv => lhs; whnf)) rfl ?_
      refine V (x_len_slice Tryd.underlying62 rfl) rfl ?_
      refine V (x_bin rfl rfl (bt (decide_eq_true (by omega)))) rfl ?_
      refine WL_nil ?_
      refine W_true (rfl) ?_
      refine W_skip ?_
      refine W_block ?_
      refine W_scope ?_
      refine W_seq ?_
      refine W_seq ?_
      refine W_q mixed (by kernel_rfl) ?_
      refine K (x_move (by conv => lhs; whnf)) rfl ?_
      refine K (x_move (by conv => lhs; whnf)) rfl ?_
      refine K (x_index Tryd.underlying62 sz5 rfl rfl rfl (by omega)) rfl ?_
      refine K (x_load ld5 rfl (hcell _ _ gL)) rfl ?_
      refine K (x_move (by conv => lhs; whnf)) rfl ?_
      refine K (x_arr_i Tryd.underlying105 sz5 rfl rfl rfl (by omega)) rfl ?_
      refine K (x_load ld5 rfl (hB.cell _ gC)) rfl ?_
      refine K (x_bin rfl rfl (bt (bne_iff_ne.2 (fun hh => heq (u8_inj hh))))) rfl ?_
      refine KN ?_
      refine W_true (rfl) ?_
      refine W_seq ?_
      refine W_q mixed (by kernel_rfl) ?_
      refine K (x_move (by conv => lhs; whnf)) rfl ?_
      refine K (x_move (by conv => lhs; whnf)) rfl ?_
      refine K (x_bin rfl rfl (ib_addn (m := E.length - 1 + 1) (by omega) (by omega))) rfl ?_
      refine K (x_slice_l Tryd.underlying62 sz5 rfl rfl rfl (by omega)) rfl ?_
      refine K (x_move (by conv => lhs; whnf)) rfl ?_
      refine K (x_arr_i Tryd.underlying105 sz5 rfl rfl rfl (by omega)) rfl ?_
      refine K (x_load ld5 rfl (hB.cell _ gC)) rfl ?_
      refine KC (fun _ => x_call2 cf53 (by conv => lhs; whnf) (by conv => lhs; whnf)) (IndexByte_n _ _ _ (L.drop (E.length - 1 + 1)) b _ _ _ hD (by simp) rfl rfl) rfl ?_
      refine K (x_assign (by conv => lhs; whnf)) rfl ?_
      refine KN ?_
      refine W_seq ?_
      refine W_seq ?_
      refine W_region ?_
      refine V (x_move (by conv => lhs; whnf)) rfl ?_
      refine V (x_bin rfl rfl (bt (decide_eq_true (by omega)))) rfl ?_
      refine WL_nil ?_
      refine W_true (rfl) ?_
      refine W_seq ?_
      refine W_region ?_
      refine V (x_assign (by conv => lhs; whnf)) rfl ?_
      refine WL_nil ?_
      refine W_ret ?_
      repeat (with_reducible (first | refine rt ?_ | refine rb ?_ | refine rs ?_ | refine rj ?_))
      exact bodyE_1 rfl rfl ⟨rfl, hfin.trans ((Same.drew w1).dr.only _)⟩
    · obtain ⟨l0, l1, hl, hl0, hli⟩ := idx_some (by omega : 0 ≤ Lib.indexByte (L.drop (E.length - 1 + 1)) b)
      have hll : l0.length + 1 + l1.length + (E.length - 1 + 1) = L.length := by
        have := congrArg List.length hl
        simp at this; omega
      obtain ⟨i0, hi0⟩ : ∃ i0, i0 = E.length - 1 + (l0.length + 1) := ⟨_, rfl⟩
      have hmin : ∀ i : Nat, E.length - 1 ≤ i → i < i0 → L[i]? ≠ E.getLast? := fun i h1 h2 hh => by
        rw [hlast] at hh
        by_cases hie : i = E.length - 1
        · subst hie; rw [gL] at hh; injection hh with hh; exact heq hh
        · have : (L.drop (E.length - 1 + 1))[i - (E.length - 1 + 1)]? = some b := by rw [List.getElem?_drop, ← hh]; congr 1; omega
          rw [hl, List.getElem?_append_left (by omega)] at this
          exact hl0 (List.mem_of_getElem? this)
      have hat : L[i0]? = E.getLast? := by
        have : (L.drop (E.length - 1 + 1))[l0.length]? = some b := by rw [hl]; simp
        rw [List.getElem?_drop] at this
        rw [hlast, ← this]; congr 1; omega
      have hocc : Lib.occAt L E (i0 - (E.length - 1)) = true := hok i0 (by omega) hat hmin
      have hhit : Lib.index L E = ((i0 - (E.length - 1) : Nat) : Int) := Lib.index_hit (noOcc_of hEn (fun i h1 h2 => hmin i h1 (by omega))) (by omega) hocc
      have hi1 : i0 < L.length := by omega
      refine W_seq ?_
      refine W_region ?_
      refine V (x_assign (by conv => lhs; whnf)) rfl ?_
      refine WL_nil ?_
      refine W_block ?_
      refine W_seq ?_
      refine W_region ?_
      refine V (x_move (by conv => lhs; whnf)) rfl ?_
      refine V (x_bin rfl rfl (bt (decide_eq_true (by omega)))) rfl ?_
      refine V (x_move (by conv => lhs; whnf)) rfl ?_
      refine VG rfl (x_move (by conv => lhs; whnf)) rfl ?_
      refine VG rfl (x_bin rfl rfl (bf (decide_eq_false (by omega)))) rfl ?_
      refine V (x_pick_t rfl (by conv => lhs; whnf)) rfl ?_
      refine V (x_assign (by conv => lhs; whnf)) rfl ?_
      refine WL_nil ?_
      refine W_false (rfl) ?_
      refine W_seq ?_
      refine W_region ?_
      refine V (x_move (by conv => lhs; whnf)) rfl ?_
      refine V (x_bin rfl rfl (bf (beq_eq_false_iff_ne.2 (by omega)))) rfl ?_
      refine V (x_assign (by conv => lhs; whnf)) rfl ?_
      refine WL_nil ?_
      refine W_false (rfl) ?_
      refine W_seq ?_
      refine W_region ?_
      refine V (x_move (by conv => lhs; whnf)) rfl ?_
      refine C (x_call1 cf57 (by conv => lhs; whnf)) rfl ?_
      refine (ValidRune_ok r _).mono fun v w1 h1 => ?_
      obtain ⟨rfl, rfl⟩ := h1
      rw [hv]
      refine V (x_not rfl) rfl ?_
      refine V (x_assign (by conv => lhs; whnf)) rfl ?_
      refine WL_nil ?_
      refine W_false (rfl) ?_
      refine W_scope ?_
      refine W_seq ?_
      refine W_region ?_
      refine V (x_alloc (cs := [.int .u8 0, .int .u8 0, .int .u8 0, .int .u8 0]) z105 rfl) rfl ?_
      refine WL_nil ?_
      refine W_seq ?_
      refine W_region ?_
      refine V (x_arr Tryd.underlying105 sz5 rfl) rfl ?_
      refine V (x_move (by conv => lhs; whnf)) rfl ?_
      refine C (x_call2 cf62 (by conv => lhs; whnf) (by conv => lhs; whnf)) rfl ?_
      refine (EncodeRune_ok w.heap.size r _ _ _ _ _ h0 hv hB0).mono fun v w1 h1 => ?_
      obtain ⟨rfl, ⟨cs, hB, hl4, hcs⟩, hO⟩ := h1
      rw [hE]
      rw [hE] at hcs
      have hfin : Only (fun _ => False) w w1 := (Only.alloc _ w _).then_ hO (fun i hi hh => by omega)
      have hA := h.only hfin (fun _ _ _ => id)
      refine V (x_assign (by conv => lhs; whnf)) rfl ?_
      refine WL_nil ?_
      refine W_seq ?_
      refine W_region ?_
      refine V (x_move (by conv => lhs; whnf)) rfl ?_
      refine V (x_bin rfl rfl (ib_subn (m := E.length - 1) (by omega) (by omega))) rfl ?_
      refine V (x_assign (by conv => lhs; whnf)) rfl ?_
      refine WL_nil ?_
      have hcell : ∀ j b, L[j]? = some b → w1.cell? ⟨gA, oA + j, none⟩ = some (bv b) := fun j b hjb => (World.cell?_of_block (hfin.block gA (cell_lt (hcell0 j b hjb)) id)).trans (hcell0 j b hjb)
      have gC : cs[E.length - 1]? = some (bv b) := hcs _ _ gE
      have hD : At (dr (dr w1)) (if c = E.length - 1 + 1 then (some ⟨gA, oA, none⟩ : Option Addr) else (some ⟨gA, oA, none⟩ : Option Addr).map (·.add (E.length - 1 + 1))) (L.drop (E.length - 1 + 1)) := At.drop (hA : At (dr (dr w1)) _ L) (E.length - 1 + 1) c hc
      refine W_seq ?_
      refine W_region ?_
      refine V (x_move (by conv => lhs; whnf)) rfl ?_
      refine V (x_assign (by conv => lhs; whnf)) rfl ?_
      refine WL_nil ?_
      refine W_seq ?_
      refine W_region ?_
      refine V (x_assign (by conv => lhs; whnf)) rfl ?_
      refine WL_nil ?_
      refine W_seq ?_
      refine W_block ?_
      refine W_once ?_
      refine W_seq ?_
      refine W_seq ?_
      refine W_region ?_
      refine V (x_move (by conv => lhs; whnf)) rfl ?_
      refine V (x_move (by conv => lhs; whnf)) rfl ?_
      refine V (x_len_slice Tryd.underlying62 rfl) rfl ?_
      refine V (x_bin rfl rfl (bt (decide_eq_true (by omega)))) rfl ?_
      refine WL_nil ?_
      refine W_true (rfl) ?_
      refine W_skip ?_
      refine W_block ?_
      refine W_scope ?_
      refine W_seq ?_
      refine W_seq ?_
      refine W_q mixed (by kernel_rfl) ?_
      refine K (x_move (by conv => lhs; whnf)) rfl ?_
      refine K (x_move (by conv => lhs; whnf)) rfl ?_
      refine K (x_index Tryd.underlying62 sz5 rfl rfl rfl (by omega)) rfl ?_
      refine K (x_load ld5 rfl (hcell _ _ gL)) rfl ?_
      refine K (x_move (by conv => lhs; whnf)) rfl ?_
      refine K (x_arr_i Tryd.underlying105 sz5 rfl rfl rfl (by omega)) rfl ?_
      refine K (x_load ld5 rfl (hB.cell _ gC)) rfl ?_
      refine K (x_bin rfl rfl (bt (bne_iff_ne.2 (fun hh => heq (u8_inj hh))))) rfl ?_
      refine KN ?_
      refine W_true (rfl) ?_
      refine W_seq ?_
      refine W_q mixed (by kernel_rfl) ?_
      refine K (x_move (by conv => lhs; whnf)) rfl ?_
      refine K (x_move (by conv => lhs; whnf)) rfl ?_
      refine K (x_bin rfl rfl (ib_addn (m := E.length - 1 + 1) (by omega) (by omega))) rfl ?_
      refine K (x_slice_l Tryd.underlying62 sz5 rfl rfl rfl (by omega)) rfl ?_
      refine K (x_move (by conv => lhs; whnf)) rfl ?_
      refine K (x_arr_i Tryd.underlying105 sz5 rfl rfl rfl (by omega)) rfl ?_
      refine K (x_load ld5 rfl (hB.cell _ gC)) rfl ?_
      refine KC (fun _ => x_call2 cf53 (by conv => lhs; whnf) (by conv => lhs; whnf)) (IndexByte_n _ _ _ (L.drop (E.length - 1 + 1)) b _ _ _ hD (by simp) rfl hli) rfl ?_
      refine K (x_assign (by conv => lhs; whnf)) rfl ?_
      refine KN ?_
      refine W_seq ?_
      refine W_seq ?_
      refine W_region ?_
      refine V (x_move (by conv => lhs; whnf)) rfl ?_
      refine V (x_bin rfl rfl (bf (decide_eq_false (by omega)))) rfl ?_
      refine WL_nil ?_
      refine W_false (rfl) ?_
      refine W_skip ?_
      refine W_region ?_
      refine V (x_move (by conv => lhs; whnf)) rfl ?_
      refine V (x_move (by conv => lhs; whnf)) rfl ?_
      refine V (x_bin rfl rfl (ib_addn (m := l0.length + 1) (by omega) (by omega))) rfl ?_
      refine V (x_bin rfl rfl (ib_addn (m := i0) (by omega) (by omega))) rfl ?_
      refine V (x_assign (by conv => lhs; whnf)) rfl ?_
      refine WL_nil ?_
      refine W_seq ?_
      refine W_seq ?_
      refine W_region ?_
      refine V (x_assign (by conv => lhs; whnf)) rfl ?_
      refine WL_nil ?_
      refine W_block ?_
      refine W_loop (fun K e w' => ∃ j : Nat, 1 ≤ j ∧ j ≤ E.length ∧ K = E.length - j ∧ e 0 = .slice (some ⟨gA, oA, none⟩) L.length c ∧ e 8 = .pointer (some ⟨w.heap.size, 0, none⟩) ∧ e 9 = .int .i64 (E.length : Int) ∧ e 10 = .int .i64 ((E.length - 1 : Nat) : Int) ∧ e 11 = .int .i64 ((i0 : Nat) : Int) ∧ e 14 = .int .i64 (j : Int) ∧ Same w1 w') (k0 := E.length - 1) ⟨1, by omega, by omega, rfl, rfl, rfl, rfl, rfl, rfl, rfl, (Same.drew w1).dr⟩ ?_
      rintro K e w2 ⟨j, hj1, hj2, rfl, e0, e8, e9, e10, e11, e14, hs⟩
      rw [← upd_self e0, ← upd_self (e := upd e 0 _) (d := 8) e8, ← upd_self (e := upd (upd e 0 _) 8 _) (d := 9) e9, ← upd_self (e := upd (upd (upd e 0 _) 8 _) 9 _) (d := 10) e10, ← upd_self (e := upd (upd (upd (upd e 0 _) 8 _) 9 _) 10 _) (d := 11) e11, ← upd_self (e := upd (upd (upd (upd (upd e 0 _) 8 _) 9 _) 10 _) 11 _) (d := 14) e14]
      have hB2 := hB.same hs
      have hc2 : ∀ j b, L[j]? = some b → w2.cell? ⟨gA, oA + j, none⟩ = some (bv b) := fun j b hb => (hs.cell _).trans (hcell j b hb)
      by_cases hjn : j < E.length
      · have g1 : L[i0 - j]? = some (E[E.length - 1 - j]'(by omega)) := by
          have := occ_get hocc (E.length - 1 - j) (by omega)
          rw [show i0 - (E.length - 1) + (E.length - 1 - j) = i0 - j by omega] at this
          exact this
        have g2 : cs[E.length - 1 - j]? = some (bv (E[E.length - 1 - j]'(by omega))) := hcs _ _ (List.getElem?_eq_getElem (by omega))
        have hlt : i0 - j < L.length := (List.getElem?_eq_some_iff.1 g1).1
        refine W_seq ?_
        refine W_seq ?_
        refine W_region ?_
        refine V (x_move (by conv => lhs; whnf)) rfl ?_
        refine V (x_move (by conv => lhs; whnf)) rfl ?_
        refine V (x_bin rfl rfl (bt (decide_eq_true (by omega)))) rfl ?_
        refine WL_nil ?_
        refine W_true (rfl) ?_
        refine W_skip ?_
        refine W_seq ?_
        refine W_block ?_
        refine W_seq ?_
        refine W_q mixed (by kernel_rfl) ?_
        refine K (x_move (by conv => lhs; whnf)) rfl ?_
        refine K (x_move (by conv => lhs; whnf)) rfl ?_
        refine K (x_move (by conv => lhs; whnf)) rfl ?_
        refine K (x_bin rfl rfl (ib_subn (m := i0 - j) (by omega) (by omega))) rfl ?_
        refine K (x_index Tryd.underlying62 sz5 rfl rfl rfl (by omega)) rfl ?_
        refine K (x_load ld5 rfl (hc2 _ _ g1)) rfl ?_
        refine K (x_move (by conv => lhs; whnf)) rfl ?_
        refine K (x_move (by conv => lhs; whnf)) rfl ?_
        refine K (x_bin rfl rfl (ib_subn (m := E.length - 1 - j) (by omega) (by omega))) rfl ?_
        refine K (x_arr_i Tryd.underlying105 sz5 rfl rfl rfl (by omega)) rfl ?_
        refine K (x_load ld5 rfl (hB2.cell _ g2)) rfl ?_
        refine K (x_bin rfl rfl (bf (bne_eq_false_iff_eq.2 rfl))) rfl ?_
        refine KN ?_
        refine W_false (rfl) ?_
        refine W_skip ?_
        refine W_region ?_
        refine V (x_move (by conv => lhs; whnf)) rfl ?_
        refine V (x_bin rfl rfl (ib_addn (m := j + 1) (by omega) (by omega))) rfl ?_
        refine V (x_assign (by conv => lhs; whnf)) rfl ?_
        refine WL_nil ?_
        repeat (first | with_reducible refine xt ?_ | with_reducible refine xb ?_ | with_reducible refine nt ?_ | with_reducible refine nb ?_ | with_reducible refine xn rfl ?_)
        exact ⟨E.length - (j + 1), by omega, j + 1, by omega, by omega, rfl, rfl, rfl, rfl, rfl, rfl, rfl, hs.dr⟩
      · skip
        refine W_seq ?_
        refine W_seq ?_
        refine W_region ?_
        refine V (x_move (by conv => lhs; whnf)) rfl ?_
        refine V (x_move (by conv => lhs; whnf)) rfl ?_
        refine V (x_bin rfl rfl (bf (decide_eq_false (by omega)))) rfl ?_
        refine WL_nil ?_
        refine W_false (rfl) ?_
        refine W_exit ?_
        repeat (first | with_reducible refine xt ?_ | with_reducible refine xb ?_ | with_reducible refine nt ?_ | with_reducible refine nb ?_ | with_reducible refine xn rfl ?_)
        refine W_seq ?_
        refine W_seq ?_
        refine W_region ?_
        refine V (x_move (by conv => lhs; whnf)) rfl ?_
        refine V (x_move (by conv => lhs; whnf)) rfl ?_
        refine V (x_bin rfl rfl (ib_subn (m := i0 - (E.length - 1)) (by omega) (by omega))) rfl ?_
        refine V (x_assign (by conv => lhs; whnf)) rfl ?_
        refine WL_nil ?_
        refine W_ret ?_
        repeat (with_reducible (first | refine rt ?_ | refine rb ?_ | refine rs ?_ | refine rj ?_))
        rw [hhit]
        exact bodyE_1 rfl rfl ⟨rfl, hfin.trans (hs.only _)⟩
end Go.Proofs.YtcdhbfhijkdfoaaDoor
