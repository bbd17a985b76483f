/-
  (*strings.Reader).Read: what it does to the reader and to the slice.
-/
import Derived.Test.YtcdhbfhijkdfoaaDoorPf
import Derived.Test.YtcdhbfhijkdfoaaDoorEz
namespace Go.Proofs.YtcdhbfhijkdfoaaDoor
open Go.EC Go.RowKit

/-- io.EOF and bufio.ErrBufferFull and the other errors: what the package-level variables hold. -/
structure Glob (w : World) (er : Nat → Addr) : Prop where
  cell : ∀ k, k < 6 ∨ k = 8 ∨ k = 9 → w.cell? ⟨k, 0, none⟩ = some (.iface 143 (.pointer (some (er k))))
  lt : ∀ k, k < 6 ∨ k = 8 ∨ k = 9 → ∃ t cs, Blk w (er k).block t cs
  inj : ∀ j k, (j < 6 ∨ j = 8 ∨ j = 9) → (k < 6 ∨ k = 8 ∨ k = 9) → er j = er k → j = k
/-- The value of package-level error k. -/
def errV (er : Nat → Addr) (k : Nat) : Value := .iface 143 (.pointer (some (er k)))

/-- A strings.Reader at block g. -/
def SBlk (w : World) (g : Nat) (s : ByteArray) (i : Nat) (prev : Int) : Prop := Blk w g 78 [.string s, .int .i64 i, .int .i64 prev]

theorem i64_wrap {z : Int} (h0 : -9223372036854775808 ≤ z) (h1 : z ≤ 9223372036854775807) : IntKind.i64.wrap z = z := by
  unfold IntKind.wrap
  simp only [IntKind.bits, IntKind.signed, Bool.true_and]
  split
  · rename_i h; simp at h; omega
  · rename_i h; simp at h; omega
theorem ib_add {a b : Int} (h0 : -9223372036854775808 ≤ a + b) (h1 : a + b ≤ 9223372036854775807) : ibin .add .i64 a b = some (.int .i64 (a + b)) := by
  simp only [ibin, i64_wrap h0 h1]
theorem ib_sub {a b : Int} (h0 : -9223372036854775808 ≤ a - b) (h1 : a - b ≤ 9223372036854775807) : ibin .sub .i64 a b = some (.int .i64 (a - b)) := by
  simp only [ibin, i64_wrap h0 h1]
theorem ib_addn {a b : Int} {m : Nat} (h : a + b = (m : Int)) (h1 : m ≤ 9223372036854775807) : ibin .add .i64 a b = some (.int .i64 (m : Int)) := by
  rw [ib_add (by omega) (by omega), h]
theorem ib_subn {a b : Int} {m : Nat} (h : a - b = (m : Int)) (h1 : m ≤ 9223372036854775807) : ibin .sub .i64 a b = some (.int .i64 (m : Int)) := by
  rw [ib_sub (by omega) (by omega), h]

/-- What the walk knows all along. -/
structure RdI (T : Nat → Prop) (s i g : Nat) (str : ByteArray) (prev : Int) (cs : List Value) (er : Nat → Addr) (w0 w : World) : Prop where
  S : SBlk w s str i prev
  B : Blk w g 5 cs
  G : w.cell? ⟨0, 0, none⟩ = some (errV er 0)
  O : Only T w0 w
section
variable {T : Nat → Prop} {s i g : Nat} {str : ByteArray} {prev : Int} {cs : List Value} {er : Nat → Addr} {w0 w : World}
theorem RdI.drew (h : RdI T s i g str prev cs er w0 w) : RdI T s i g str prev cs er w0 (dr w) :=
  ⟨h.S, h.B, h.G, h.O.trans (Only.drew _ _)⟩
theorem RdI.ne (h : RdI T s i g str prev cs er w0 w) : s ≠ g := h.S.ne h.B (by decide)
end
theorem Read_eof (s i g o n c : Nat) (str : ByteArray) (prev : Int) (cs : List Value) (er : Nat → Addr) (w : World) (hS : SBlk w s str i prev) (hB : Blk w g 5 cs) (hG0 : w.cell? ⟨0, 0, none⟩ = some (errV er 0)) (hi : str.size ≤ i) :
    Ret Tryd.prog 91 #[.pointer (some ⟨s, 0, none⟩), .slice (some ⟨g, o, none⟩) n c] w (fun v w' => v = .tuple #[.int .i64 0, errV er 0] ∧ SBlk w' s str i prev ∧ Blk w' g 5 cs ∧ Only (fun _ => False) w w') := by
  have hI : RdI (fun _ => False) s i g str prev cs er w w := ⟨hS, hB, hG0, Only.refl _ _⟩
  clear hS hB hG0
  refine ret_of_W Tryd.func91 rfl (Nat.le_of_ble_eq_true rfl) ?_
  refine W_seq ?_
  refine W_region ?_
  refine V (x_assign (by conv => lhs; whnf)) rfl ?_
  refine V (x_assign (by conv => lhs; whnf)) rfl ?_
  refine WL_nil ?_
  refine W_seq ?_
  refine W_seq ?_
  refine W_q mixed (by kernel_rfl) ?_
  replace hI := hI.drew
  refine K (x_move (by conv => lhs; whnf)) rfl ?_
  refine K (x_nilc rfl) rfl ?_
  refine K (x_field0 fa78_1 rfl) rfl ?_
  refine K (x_load ld2 rfl ((hI.S).cell 1 rfl)) rfl ?_
  refine K (x_move (by conv => lhs; whnf)) rfl ?_
  refine K (x_nilc rfl) rfl ?_
  refine K (x_field0 fa78_0 rfl) rfl ?_
  refine K (x_load ld9 rfl ((hI.S).cell 0 rfl)) rfl ?_
  refine K (x_len_str Tryd.underlying9 rfl) rfl ?_
  refine K (x_bin rfl rfl (bt (decide_eq_true (by omega)))) rfl ?_
  refine KN ?_
  refine W_true (rfl) ?_
  refine W_seq ?_
  refine W_q mixed (by kernel_rfl) ?_
  replace hI := hI.drew
  refine K (x_load ld55 rfl hI.G) rfl ?_
  refine K (x_assign (by conv => lhs; whnf)) rfl ?_
  refine K (x_assign (by conv => lhs; whnf)) rfl ?_
  refine KN ?_
  refine W_ret ?_
  repeat (with_reducible (first | refine rt ?_ | refine rb ?_))
  exact bodyE_2 rfl rfl rfl ⟨rfl, hI.S, hI.B, hI.O⟩

theorem Read_some (s i g o n c : Nat) (str : ByteArray) (prev : Int) (cs : List Value) (er : Nat → Addr) (w : World) (hS : SBlk w s str i prev) (hB : Blk w g 5 cs) (hG0 : w.cell? ⟨0, 0, none⟩ = some (errV er 0)) (hi : i < str.size)
    (hsz : str.size ≤ 4611686018427387904) (_ : 0 < s) (_ : 0 < g) (hl : o + n ≤ cs.length) :
    Ret Tryd.prog 91 #[.pointer (some ⟨s, 0, none⟩), .slice (some ⟨g, o, none⟩) n c] w (fun v w' => v = .tuple #[.int .i64 (min (str.size - i) n : Nat), .nilIface] ∧ SBlk w' s str (i + min (str.size - i) n) (-1) ∧
      Blk w' g 5 (splice cs o (((str.data.toList.drop i).take (min (str.size - i) n)).map bv)) ∧ Only (fun k => k = s ∨ k = g) w w') := by
  have hI : RdI (fun k => k = s ∨ k = g) s i g str prev cs er w w := ⟨hS, hB, hG0, Only.refl _ _⟩
  clear hS hB hG0
  refine ret_of_W Tryd.func91 rfl (Nat.le_of_ble_eq_true rfl) ?_
  refine W_seq ?_
  refine W_region ?_
  refine V (x_assign (by conv => lhs; whnf)) rfl ?_
  refine V (x_assign (by conv => lhs; whnf)) rfl ?_
  refine WL_nil ?_
  refine W_seq ?_
  refine W_seq ?_
  refine W_q mixed (by kernel_rfl) ?_
  replace hI := hI.drew
  refine K (x_move (by conv => lhs; whnf)) rfl ?_
  refine K (x_nilc rfl) rfl ?_
  refine K (x_field0 fa78_1 rfl) rfl ?_
  refine K (x_load ld2 rfl ((hI.S).cell 1 rfl)) rfl ?_
  refine K (x_move (by conv => lhs; whnf)) rfl ?_
  refine K (x_nilc rfl) rfl ?_
  refine K (x_field0 fa78_0 rfl) rfl ?_
  refine K (x_load ld9 rfl ((hI.S).cell 0 rfl)) rfl ?_
  refine K (x_len_str Tryd.underlying9 rfl) rfl ?_
  refine K (x_bin rfl rfl (bf (decide_eq_false (by omega)))) rfl ?_
  refine KN ?_
  refine W_false (rfl) ?_
  refine W_skip ?_
  refine W_seq ?_
  refine W_region ?_
  refine V (x_move (by conv => lhs; whnf)) rfl ?_
  refine V (x_nilc rfl) rfl ?_
  refine V (x_field0 fa78_2 rfl) rfl ?_
  refine S (x_store st3 rfl (by conv => lhs; whnf) rfl ((hI.S).cell 2 rfl) ((hI.S).free 2)) ?_
  refine WL_nil ?_
  refine W_seq ?_
  replace hI : RdI (fun k => k = s ∨ k = g) s i g str (-1) cs er _ (World.setCell _ ⟨s, 2, none⟩ (.int .i64 (-1))) := ⟨hI.S.set 2 _, hI.B.far (Ne.symm hI.ne) _, (World.cell?_setCell_other _ _ _ _ (by intro h; simp at h)).trans hI.G, hI.O.trans (Only.setCell _ _ (.inl rfl) _)⟩
  refine W_draw mixed ?_
  replace hI := hI.drew
  refine D_pure (i := 0) (listed' := #[true, false, false, false, false, false, false, false, false, false, false, false]) (by kernel_rfl) (by kernel_rfl) (by kernel_rfl) rfl (by kernel_rfl) (fun _ => x_move (by conv => lhs; whnf)) rfl ?_
  refine D_pure (i := 1) (listed' := #[true, true, false, false, false, false, false, false, false, false, false, false]) (by kernel_rfl) (by kernel_rfl) (by kernel_rfl) rfl (by kernel_rfl) (fun _ => x_move (by conv => lhs; whnf)) rfl ?_
  refine D_pure (i := 2) (listed' := #[true, true, true, false, false, false, false, false, false, false, false, false]) (by kernel_rfl) (by kernel_rfl) (by kernel_rfl) rfl (by kernel_rfl) (fun _ => x_nilc rfl) rfl ?_
  refine D_pure (i := 3) (listed' := #[true, true, true, true, false, false, false, false, false, false, false, false]) (by kernel_rfl) (by kernel_rfl) (by kernel_rfl) rfl (by kernel_rfl) (fun _ => x_field0 fa78_0 rfl) rfl ?_
  refine D_pure (i := 5) (listed' := #[true, true, true, true, false, true, false, false, false, false, false, false]) (by kernel_rfl) (by kernel_rfl) (by kernel_rfl) rfl (by kernel_rfl) (fun _ => x_move (by conv => lhs; whnf)) rfl ?_
  refine D_pure (i := 6) (listed' := #[true, true, true, true, false, true, true, false, false, false, false, false]) (by kernel_rfl) (by kernel_rfl) (by kernel_rfl) rfl (by kernel_rfl) (fun _ => x_nilc rfl) rfl ?_
  refine D_pure (i := 7) (listed' := #[true, true, true, true, false, true, true, true, false, false, false, false]) (by kernel_rfl) (by kernel_rfl) (by kernel_rfl) rfl (by kernel_rfl) (fun _ => x_field0 fa78_1 rfl) rfl ?_
  refine D_still (i := 4) (listed' := #[true, true, true, true, true, true, true, true, false, false, false, false]) (by kernel_rfl) (by kernel_rfl) (by kernel_rfl) rfl (by kernel_rfl) (fun _ hgw => x_load ld9 rfl (hgw.cell ((hI.S).cell 0 rfl))) rfl ?_
  refine D_one (i := 8) (listed' := #[true, true, true, true, true, true, true, true, true, false, false, false]) (by kernel_rfl) rfl (by kernel_rfl) (x_load ld2 rfl ((hI.S).cell 1 rfl)) rfl ?_
  refine D_pure (i := 9) (listed' := #[true, true, true, true, true, true, true, true, true, true, false, false]) (by kernel_rfl) (by kernel_rfl) (by kernel_rfl) rfl (by kernel_rfl) (fun _ => x_str_l Tryd.underlying9 rfl rfl rfl (by omega)) rfl ?_
  refine D_oneE (i := 10) (listed' := #[true, true, true, true, true, true, true, true, true, true, true, false]) (by kernel_rfl) rfl (by kernel_rfl) (x_copy_str Tryd.underlying62 sz5 rfl rfl hI.B hl) rfl ?_
  rintro _ w5 ⟨rfl, hB5, hO5⟩
  have hS5 := hI.S.only hO5 hI.ne
  have hO := hI.O.trans (hO5.mono fun k _ hk => .inr hk)
  refine D_pure (i := 11) (listed' := #[true, true, true, true, true, true, true, true, true, true, true, true]) (by kernel_rfl) (by kernel_rfl) (by kernel_rfl) rfl (by kernel_rfl) (fun _ => x_assign (by conv => lhs; whnf)) rfl ?_
  refine WA_done (by kernel_rfl) ?_
  refine W_seq ?_
  refine W_region ?_
  refine V (x_move (by conv => lhs; whnf)) rfl ?_
  refine V (x_nilc rfl) rfl ?_
  refine V (x_field0 fa78_1 rfl) rfl ?_
  refine V (x_load ld2 rfl ((hS5).cell 1 rfl)) rfl ?_
  refine V (x_move (by conv => lhs; whnf)) rfl ?_
  refine V (x_bin rfl rfl (ib_addn rfl (by simp; omega))) rfl ?_
  refine V (x_nilc rfl) rfl ?_
  refine V (x_field0 fa78_1 rfl) rfl ?_
  refine S (x_store st2 rfl (by conv => lhs; whnf) rfl ((hS5).cell 1 rfl) ((hS5).free 1)) ?_
  refine WL_nil ?_
  refine W_ret ?_
  repeat (with_reducible (first | refine rt ?_ | refine rb ?_))
  refine bodyE_2 rfl (by conv => lhs; whnf) (by conv => lhs; whnf) ?_
  have e1 : (str.extract i str.size).size = str.size - i := ext_size _ _ _ (Nat.le_refl _)
  have e2 : (str.extract i str.size).data.toList = str.data.toList.drop i := by rw [ext_list, List.take_of_length_le (by rw [ba_len]; exact Nat.le_refl _)]
  rw [e1, e2] at hB5
  have hS6 := hS5.set 1 (.int .i64 ((i + min (str.extract i str.size).size n : Nat) : Int))
  rw [e1] at hS6 ⊢
  exact ⟨rfl, hS6, hB5.far (Ne.symm hI.ne) _, hO.trans (Only.setCell _ _ (.inl rfl) _)⟩
end Go.Proofs.YtcdhbfhijkdfoaaDoor
