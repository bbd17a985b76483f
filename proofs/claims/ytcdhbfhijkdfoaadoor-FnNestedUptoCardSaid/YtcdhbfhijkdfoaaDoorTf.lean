/-
  Strings as bytes: single operations; spec.Has, spec.Quoted, laws.comment.
-/
import Derived.Test.YtcdhbfhijkdfoaaDoorTe
import Derived.Laws.Strings
namespace Go.Proofs.YtcdhbfhijkdfoaaDoor
open Go.EC Go.RowKit
theorem sv_of (s : ByteArray) : Value.string s = strV s.data.toList := by
  unfold strV
  congr 1
section
variable {P : Program} {e : Env} {w : World} {d : Option Nat} {ty : TypeId} {pos : String} {af : Array Edge} {g : Option (Nat × Bool)}
theorem x_len_sv {t : TypeId} {x : Operand} {l : Bytes} (hu : P.underlying t = some .string) (hx : ev e x = strV l) :
    (execOp (ev e) ⟨d, .call { callee := .builtin .len, args := #[x], argTypes := #[t] }, ty, pos, af, g⟩).run P w = .ok (.value (.int .i64 (l.length : Int))) w := by
  rw [x_len_str hu hx]; rfl
theorem x_sv_eql {t t' : TypeId} {x y : Operand} {l m : Bytes} (hx : ev e x = strV l) (hy : ev e y = strV m) :
    (execOp (ev e) ⟨d, .binOp .eql t x y t', ty, pos, af, g⟩).run P w = .ok (.value (.bool (l == m))) w := by
  rw [x_str_eql (a := ⟨l.toArray⟩) (b := ⟨m.toArray⟩) hx hy, ByteArray.toList_eq, ByteArray.toList_eq]
theorem x_sv_lh {t : TypeId} {x lo hi : Operand} {s : Bytes} {l h : Nat} {kl kh : IntKind} {zl zh : Int} (hu : P.underlying t = some .string) (hx : ev e x = strV s) (hl : ev e lo = .int kl zl) (hh : ev e hi = .int kh zh) (el : zl = (l : Int)) (eh : zh = (h : Int)) (h1 : l ≤ h) (h2 : h ≤ s.length) :
    (execOp (ev e) ⟨d, .slice t x (some lo) (some hi) none, ty, pos, af, g⟩).run P w = .ok (.value (strV ((s.take h).drop l))) w := by
  rw [x_str_lh (s := ⟨s.toArray⟩) hu hx hl hh el eh h1 (by simpa [ByteArray.size] using h2), sv_of, ext_list]
theorem x_sv_h {t : TypeId} {x hi : Operand} {s : Bytes} {h : Nat} {kh : IntKind} {zh : Int} (hu : P.underlying t = some .string) (hx : ev e x = strV s) (hh : ev e hi = .int kh zh) (eh : zh = (h : Int)) (h2 : h ≤ s.length) :
    (execOp (ev e) ⟨d, .slice t x none (some hi) none, ty, pos, af, g⟩).run P w = .ok (.value (strV (s.take h))) w := by
  rw [x_str_h (s := ⟨s.toArray⟩) hu hx hh eh (by simpa [ByteArray.size] using h2), sv_of, ext_list]; rfl
theorem x_sv_at {t : TypeId} {x y : Operand} {s : Bytes} {k : IntKind} {i : Nat} {z : Int} (hu : P.underlying t = some .string) (hx : ev e x = strV s) (hy : ev e y = .int k z) (hz : z = (i : Int)) {b : UInt8} (hb : s[i]? = some b) :
    (execOp (ev e) ⟨d, .index t x y, ty, pos, af, g⟩).run P w = .ok (.value (bv b)) w := x_str_at (s := ⟨s.toArray⟩) hu hx hy hz hb
end
/-- The bytes p stand at place i of l. -/
def occB (l p : Bytes) (i : Nat) : Bool := (l.take (i + p.length)).drop i == p
def hasB (l p : Bytes) : Bool := (List.range (l.length + 1 - p.length)).any (occB l p)
theorem hasB_false {l p : Bytes} (h : hasB l p = false) : ∀ i, i + p.length ≤ l.length → occB l p i = false := fun i hi => by
  unfold hasB at h
  rw [List.any_eq_false] at h
  have := h i (List.mem_range.2 (by omega))
  simpa using this
theorem hasB_true {l p : Bytes} {i : Nat} (hi : i + p.length ≤ l.length) (h : occB l p i = true) : hasB l p = true := by
  unfold hasB
  rw [List.any_eq_true]
  exact ⟨i, List.mem_range.2 (by omega), h⟩
theorem hasB_none {l p : Bytes} (h : ∀ i, i + p.length ≤ l.length → occB l p i = false) : hasB l p = false := by
  unfold hasB
  rw [List.any_eq_false]
  intro i hi
  rw [List.mem_range] at hi
  rw [h i (by omega)]
  simp
theorem hasB_one {l : Bytes} {b : UInt8} (h : hasB l [b] = false) : b ∉ l := fun hh => by
  obtain ⟨i, hi, rfl⟩ := List.getElem_of_mem hh
  have h1 := hasB_false h i (by simp; omega)
  unfold occB at h1
  have h2 : (l.take (i + 1)).drop i = [l[i]] := by
    rw [List.take_succ_eq_append_getElem hi, List.drop_append_of_le_length (by simp; omega)]
    simp
  simp only [List.length_singleton, h2] at h1
  simp at h1
theorem Has_ok (l p : Bytes) (w : World) (hl : l.length ≤ 4611686018427387904) (hp : p.length ≤ 4611686018427387000) :
    Ret Tryd.prog 17 #[strV l, strV p] w fun v w' => v = .bool (hasB l p) ∧ w = w' := by
  refine ret_of_W Tryd.func17 rfl (Nat.le_of_ble_eq_true rfl) ?_
  conv => arg 3; whnf
  refine W_seq ?_
  refine W_region ?_
  refine V (x_assign (by conv => lhs; whnf)) rfl ?_
  refine WL_nil ?_
  refine W_seq ?_
  refine W_seq ?_
  refine W_region ?_
  refine V (x_assign (by conv => lhs; whnf)) rfl ?_
  refine WL_nil ?_
  refine W_block ?_
  refine W_loop (fun K e w' => ∃ i : Nat, i + p.length ≤ l.length + 1 + p.length ∧ K = l.length + 1 - i ∧ e 0 = strV l ∧ e 1 = strV p ∧ e 5 = .int .i64 (i : Int) ∧ (∀ j, j < i → j + p.length ≤ l.length → occB l p j = false) ∧ w = w') (k0 := l.length + 1) ⟨0, by omega, by omega, rfl, rfl, rfl, fun j hj => by omega, rfl⟩ ?_
  rintro K e w1 ⟨i, hi, rfl, e0, e1, e5, hno, rfl⟩
  have eE : e = upd (upd (upd e 0 (strV l)) 1 (strV p)) 5 (.int .i64 (i : Int)) := by simp only [upd_self e0, upd_self e1, upd_self e5]
  rw [eE]
  by_cases hlt : i + p.length ≤ l.length
  · cases ho : occB l p i
    · have ho' : ((l.take (i + p.length)).drop i == p) = false := ho
      refine W_seq ?_
      refine W_seq ?_
      refine W_region ?_
      refine V (x_move (by conv => lhs; whnf)) rfl ?_
      refine V (x_move (by conv => lhs; whnf)) rfl ?_
      refine V (x_len_sv Tryd.underlying9 rfl) rfl ?_
      refine V (x_bin rfl rfl (ib_addn (m := i + p.length) (by omega) (by omega))) rfl ?_
      refine V (x_move (by conv => lhs; whnf)) rfl ?_
      refine V (x_len_sv Tryd.underlying9 rfl) rfl ?_
      refine V (x_bin rfl rfl (bt (decide_eq_true (by omega)))) rfl ?_
      refine WL_nil ?_
      refine W_true (rfl) ?_
      refine W_skip ?_
      refine W_seq ?_
      refine W_block ?_
      refine W_seq ?_
      refine W_region ?_
      refine V (x_move (by conv => lhs; whnf)) rfl ?_
      refine V (x_move (by conv => lhs; whnf)) rfl ?_
      refine V (x_move (by conv => lhs; whnf)) rfl ?_
      refine V (x_move (by conv => lhs; whnf)) rfl ?_
      refine V (x_len_sv Tryd.underlying9 rfl) rfl ?_
      refine V (x_bin rfl rfl (ib_addn (m := i + p.length) (by omega) (by omega))) rfl ?_
      refine V (x_sv_lh Tryd.underlying9 rfl rfl rfl rfl rfl (by omega) hlt) rfl ?_
      refine V (x_move (by conv => lhs; whnf)) rfl ?_
      refine V ((x_sv_eql rfl rfl).trans (by rw [ho'])) rfl ?_
      refine WL_nil ?_
      refine W_false (rfl) ?_
      refine W_skip ?_
      refine W_region ?_
      refine V (x_move (by conv => lhs; whnf)) rfl ?_
      refine V (x_bin rfl rfl (ib_addn (m := i + 1) (by omega) (by omega))) rfl ?_
      refine V (x_assign (by conv => lhs; whnf)) rfl ?_
      refine WL_nil ?_
      repeat (first | with_reducible refine xt ?_ | with_reducible refine xb ?_ | with_reducible refine nt ?_ | with_reducible refine nb ?_ | with_reducible refine xn rfl ?_)
      refine ⟨l.length + 1 - (i + 1), by omega, i + 1, by omega, rfl, rfl, rfl, rfl, fun j hj hjl => ?_, rfl⟩
      rcases Nat.lt_or_eq_of_le (Nat.le_of_lt_succ hj) with h1 | h1
      · exact hno j h1 hjl
      · rw [h1]; exact ho
    · have ho' : ((l.take (i + p.length)).drop i == p) = true := ho
      rw [hasB_true hlt ho]
      refine W_seq ?_
      refine W_seq ?_
      refine W_region ?_
      refine V (x_move (by conv => lhs; whnf)) rfl ?_
      refine V (x_move (by conv => lhs; whnf)) rfl ?_
      refine V (x_len_sv Tryd.underlying9 rfl) rfl ?_
      refine V (x_bin rfl rfl (ib_addn (m := i + p.length) (by omega) (by omega))) rfl ?_
      refine V (x_move (by conv => lhs; whnf)) rfl ?_
      refine V (x_len_sv Tryd.underlying9 rfl) rfl ?_
      refine V (x_bin rfl rfl (bt (decide_eq_true (by omega)))) rfl ?_
      refine WL_nil ?_
      refine W_true (rfl) ?_
      refine W_skip ?_
      refine W_seq ?_
      refine W_block ?_
      refine W_seq ?_
      refine W_region ?_
      refine V (x_move (by conv => lhs; whnf)) rfl ?_
      refine V (x_move (by conv => lhs; whnf)) rfl ?_
      refine V (x_move (by conv => lhs; whnf)) rfl ?_
      refine V (x_move (by conv => lhs; whnf)) rfl ?_
      refine V (x_len_sv Tryd.underlying9 rfl) rfl ?_
      refine V (x_bin rfl rfl (ib_addn (m := i + p.length) (by omega) (by omega))) rfl ?_
      refine V (x_sv_lh Tryd.underlying9 rfl rfl rfl rfl rfl (by omega) hlt) rfl ?_
      refine V (x_move (by conv => lhs; whnf)) rfl ?_
      refine V ((x_sv_eql rfl rfl).trans (by rw [ho'])) rfl ?_
      refine WL_nil ?_
      refine W_true (rfl) ?_
      refine W_seq ?_
      refine W_region ?_
      refine V (x_assign (by conv => lhs; whnf)) rfl ?_
      refine WL_nil ?_
      refine W_ret ?_
      repeat (with_reducible (first | refine rt ?_ | refine rb ?_))
      exact bodyE_1 rfl rfl ⟨rfl, rfl⟩
  · rw [hasB_none (fun j hj => hno j (by omega) hj)]
    refine W_seq ?_
    refine W_seq ?_
    refine W_region ?_
    refine V (x_move (by conv => lhs; whnf)) rfl ?_
    refine V (x_move (by conv => lhs; whnf)) rfl ?_
    refine V (x_len_sv Tryd.underlying9 rfl) rfl ?_
    refine V (x_bin rfl rfl (ib_addn (m := i + p.length) (by omega) (by omega))) rfl ?_
    refine V (x_move (by conv => lhs; whnf)) rfl ?_
    refine V (x_len_sv Tryd.underlying9 rfl) rfl ?_
    refine V (x_bin rfl rfl (bf (decide_eq_false (by omega)))) rfl ?_
    refine WL_nil ?_
    refine W_false (rfl) ?_
    refine W_exit ?_
    repeat (first | with_reducible refine xt ?_ | with_reducible refine xb ?_ | with_reducible refine nt ?_ | with_reducible refine nb ?_ | with_reducible refine xn rfl ?_)
    refine W_seq ?_
    refine W_region ?_
    refine V (x_assign (by conv => lhs; whnf)) rfl ?_
    refine WL_nil ?_
    refine W_ret ?_
    repeat (with_reducible (first | refine rt ?_ | refine rb ?_))
    exact bodyE_1 rfl rfl ⟨rfl, rfl⟩
/-- Quotes doubled. -/
def dblB (f : Bytes) : Bytes := f.flatMap fun b => if b = 34 then [34, 34] else [b]
def quotedB (f : Bytes) : Bytes := 34 :: (dblB f ++ [34])
theorem dblB_snoc (f : Bytes) (b : UInt8) : dblB (f ++ [b]) = dblB f ++ (if b = 34 then [34, 34] else [b]) := by unfold dblB; simp
theorem dblB_len (f : Bytes) : (dblB f).length ≤ 2 * f.length := by
  induction f with
  | nil => simp [dblB]
  | cons b f ih =>
    have : dblB (b :: f) = (if b = 34 then [34, 34] else [b]) ++ dblB f := rfl
    rw [this, List.length_append]
    split <;> simp <;> omega
theorem Quoted_ok (f : Bytes) (w : World) (hl : f.length ≤ 2147483648) : Ret Tryd.prog 30 #[strV f] w fun v w' => v = strV (quotedB f) ∧ Only (fun _ => False) w w' := by
  refine ret_of_W Tryd.func30 rfl (Nat.le_of_ble_eq_true rfl) ?_
  conv => arg 3; whnf
  refine W_seq ?_
  refine W_region ?_
  refine V (x_assign (by conv => lhs; whnf)) rfl ?_
  refine WL_nil ?_
  refine W_seq ?_
  refine W_region ?_
  refine V (x_bs1 Tryd.underlying62 sz5 zv5 rfl rfl rfl) rfl ?_
  refine V (x_assign (by conv => lhs; whnf)) rfl ?_
  refine WL_nil ?_
  refine W_seq ?_
  refine W_seq ?_
  refine W_region ?_
  refine V (x_assign (by conv => lhs; whnf)) rfl ?_
  refine WL_nil ?_
  refine W_block ?_
  have own0 : Own (w.alloc (.cells [Value.int .u8 34].toArray 5)) 5 1 (.slice (some ⟨w.heap.size, 0, none⟩) 1 1) (34 :: dblB (f.take 0)).length ((34 :: dblB (f.take 0)).map bv) :=
    ⟨rfl, .inr ⟨w.heap.size, 1, #[.int .u8 34], rfl, Nat.zero_le _, Blk.new w 5 [.int .u8 34], Nat.le_refl _, by unfold maxLen; omega, rfl, rfl⟩⟩
  refine W_loop (fun K e w' => ∃ (i : Nat) (u : Value), i ≤ f.length ∧ K = f.length - i ∧ e 0 = strV f ∧ e 3 = u ∧ e 4 = .int .i64 (i : Int) ∧ Own w' 5 1 u (34 :: dblB (f.take i)).length ((34 :: dblB (f.take i)).map bv) ∧ (∀ k, u.ownBlock = some k → w.heap.size ≤ k) ∧ Only (fun _ => False) w w') (k0 := f.length) ⟨0, .slice (some ⟨w.heap.size, 0, none⟩) 1 1, Nat.zero_le _, by omega, rfl, rfl, rfl, own0, (fun k hk => by
    have : w.heap.size = k := by simpa [Value.ownBlock] using hk
    omega), Only.alloc _ _ _⟩ ?_
  rintro K e w1 ⟨i, u, hi, rfl, e0, e3, e4, hown, hnew, hO⟩
  have eE : e = upd (upd (upd e 0 (strV f)) 3 u) 4 (.int .i64 (i : Int)) := by simp only [upd_self e0, upd_self e3, upd_self e4]
  rw [eE]
  have hd := dblB_len (f.take i)
  rw [List.length_take] at hd
  have app : ∀ {w1 w2 w3 : World} {u u' : Value}, Only (fun _ => False) w w1 → (∀ k, u.ownBlock = some k → w.heap.size ≤ k) → Only (fun _ => False) w1 w2 → Only (fun k => u.ownBlock = some k) w2 w3 → (u'.ownBlock = u.ownBlock ∨ u'.ownBlock = some w2.heap.size) → Only (fun _ => False) w w3 ∧ ∀ k, u'.ownBlock = some k → w.heap.size ≤ k := by
    intro w1 w2 w3 u u' h1 h2 h3 h4 h5
    have h13 := h1.trans h3
    refine ⟨h13.then_ h4 fun k hk hu => by have := h2 k hu; omega, fun k hk => ?_⟩
    rcases h5 with h6 | h6
    · exact h2 k (by rw [← h6]; exact hk)
    · rw [h6] at hk; injection hk with hk; have := h13.size; omega
  by_cases hlt : i < f.length
  · have hb : f[i]? = some f[i] := List.getElem?_eq_getElem hlt
    generalize hfb : f[i] = b at hb
    have htake : f.take (i + 1) = f.take i ++ [b] := by rw [List.take_succ_eq_append_getElem hlt, hfb]
    have hsn := dblB_snoc (f.take i) b
    rw [← htake] at hsn
    by_cases h34 : b = 34
    · rw [if_pos h34] at hsn
      subst h34
      refine W_seq ?_
      refine W_seq ?_
      refine W_region ?_
      refine V (x_move (by conv => lhs; whnf)) rfl ?_
      refine V (x_move (by conv => lhs; whnf)) rfl ?_
      refine V (x_len_sv Tryd.underlying9 rfl) rfl ?_
      refine V (x_bin rfl rfl (bt (decide_eq_true (by omega)))) rfl ?_
      refine WL_nil ?_
      refine W_true (rfl) ?_
      refine W_skip ?_
      refine W_seq ?_
      refine W_block ?_
      refine W_seq ?_
      refine W_seq ?_
      refine W_region ?_
      refine V (x_move (by conv => lhs; whnf)) rfl ?_
      refine V (x_move (by conv => lhs; whnf)) rfl ?_
      refine V (x_sv_at Tryd.underlying9 rfl rfl rfl hb) rfl ?_
      refine V (x_bin rfl rfl (bt rfl)) rfl ?_
      refine WL_nil ?_
      refine W_true (rfl) ?_
      refine W_region ?_
      refine V (x_move (by conv => lhs; whnf)) rfl ?_
      refine V (x_bs1 Tryd.underlying62 sz5 zv5 rfl rfl rfl) rfl ?_
      have hA1 := Only.alloc (fun _ => False) w1 (.cells [Value.int .u8 34].toArray 5)
      refine VE (x_append (news := [34].map bv) eT5 (by conv => lhs; whnf) (by conv => lhs; whnf) (hown.only hA1 (fun _ _ => id)) rfl (Cells.of_blk (Blk.new _ _ _)) byte_one (by simp; omega) (by unfold maxLen; simp; omega)) rfl ?_
      rintro u1 w2 ⟨hown1, ho1, hat1⟩
      obtain ⟨hO1, hn1⟩ := app hO hnew hA1 ho1 hat1
      refine V (x_assign (by conv => lhs; whnf)) rfl ?_
      refine WL_nil ?_
      refine W_region ?_
      refine V (x_move (by conv => lhs; whnf)) rfl ?_
      refine V (x_move (by conv => lhs; whnf)) rfl ?_
      refine V (x_move (by conv => lhs; whnf)) rfl ?_
      refine V (x_sv_at Tryd.underlying9 rfl rfl rfl hb) rfl ?_
      refine V (x_bs1 Tryd.underlying62 sz5 zv5 rfl rfl rfl) rfl ?_
      have hA2 := Only.alloc (fun _ => False) w2 (.cells [bv 34].toArray 5)
      refine VE (x_append (news := [34].map bv) eT5 (by conv => lhs; whnf) (by conv => lhs; whnf) (hown1.only hA2 (fun _ _ => id)) rfl (Cells.of_blk (Blk.new _ _ _)) byte_one (by simp; omega) (by unfold maxLen; simp; omega)) rfl ?_
      rintro u2 w3 ⟨hown2, ho2, hat2⟩
      obtain ⟨hO2, hn2⟩ := app hO1 hn1 hA2 ho2 hat2
      refine V (x_assign (by conv => lhs; whnf)) rfl ?_
      refine WL_nil ?_
      refine W_region ?_
      refine V (x_move (by conv => lhs; whnf)) rfl ?_
      refine V (x_bin rfl rfl (ib_addn (m := i + 1) (by omega) (by omega))) rfl ?_
      refine V (x_assign (by conv => lhs; whnf)) rfl ?_
      refine WL_nil ?_
      repeat (first | with_reducible refine xt ?_ | with_reducible refine xb ?_ | with_reducible refine nt ?_ | with_reducible refine nb ?_ | with_reducible refine xn rfl ?_)
      refine ⟨f.length - (i + 1), by omega, i + 1, u2, by omega, rfl, rfl, rfl, rfl, ?_, hn2, hO2⟩
      rw [hsn]
      have he : ((34 :: (dblB (f.take i) ++ [34, 34])) : Bytes) = ((34 :: dblB (f.take i)) ++ [34]) ++ [34] := by simp
      rw [he, List.map_append, List.map_append, List.length_append, List.length_append]
      exact hown2
    · rw [if_neg h34] at hsn
      refine W_seq ?_
      refine W_seq ?_
      refine W_region ?_
      refine V (x_move (by conv => lhs; whnf)) rfl ?_
      refine V (x_move (by conv => lhs; whnf)) rfl ?_
      refine V (x_len_sv Tryd.underlying9 rfl) rfl ?_
      refine V (x_bin rfl rfl (bt (decide_eq_true (by omega)))) rfl ?_
      refine WL_nil ?_
      refine W_true (rfl) ?_
      refine W_skip ?_
      refine W_seq ?_
      refine W_block ?_
      refine W_seq ?_
      refine W_seq ?_
      refine W_region ?_
      refine V (x_move (by conv => lhs; whnf)) rfl ?_
      refine V (x_move (by conv => lhs; whnf)) rfl ?_
      refine V (x_sv_at Tryd.underlying9 rfl rfl rfl hb) rfl ?_
      refine V (x_bin rfl rfl (bf (byte_ne (n := 34) h34))) rfl ?_
      refine WL_nil ?_
      refine W_false (rfl) ?_
      refine W_skip ?_
      refine W_region ?_
      refine V (x_move (by conv => lhs; whnf)) rfl ?_
      refine V (x_move (by conv => lhs; whnf)) rfl ?_
      refine V (x_move (by conv => lhs; whnf)) rfl ?_
      refine V (x_sv_at Tryd.underlying9 rfl rfl rfl hb) rfl ?_
      refine V (x_bs1 Tryd.underlying62 sz5 zv5 rfl rfl rfl) rfl ?_
      have hA2 := Only.alloc (fun _ => False) w1 (.cells [bv b].toArray 5)
      refine VE (x_append (news := [b].map bv) eT5 (by conv => lhs; whnf) (by conv => lhs; whnf) (hown.only hA2 (fun _ _ => id)) rfl (Cells.of_blk (Blk.new _ _ _)) byte_one (by simp; omega) (by unfold maxLen; simp; omega)) rfl ?_
      rintro u2 w3 ⟨hown2, ho2, hat2⟩
      obtain ⟨hO2, hn2⟩ := app hO hnew hA2 ho2 hat2
      refine V (x_assign (by conv => lhs; whnf)) rfl ?_
      refine WL_nil ?_
      refine W_region ?_
      refine V (x_move (by conv => lhs; whnf)) rfl ?_
      refine V (x_bin rfl rfl (ib_addn (m := i + 1) (by omega) (by omega))) rfl ?_
      refine V (x_assign (by conv => lhs; whnf)) rfl ?_
      refine WL_nil ?_
      repeat (first | with_reducible refine xt ?_ | with_reducible refine xb ?_ | with_reducible refine nt ?_ | with_reducible refine nb ?_ | with_reducible refine xn rfl ?_)
      refine ⟨f.length - (i + 1), by omega, i + 1, u2, by omega, rfl, rfl, rfl, rfl, ?_, hn2, hO2⟩
      rw [hsn]
      have he : ((34 :: (dblB (f.take i) ++ [b])) : Bytes) = (34 :: dblB (f.take i)) ++ [b] := by simp
      rw [he, List.map_append, List.length_append]
      exact hown2
  · have hif : f.take i = f := List.take_of_length_le (by omega)
    rw [hif] at hown hd
    have hd2 := dblB_len f
    refine W_seq ?_
    refine W_seq ?_
    refine W_region ?_
    refine V (x_move (by conv => lhs; whnf)) rfl ?_
    refine V (x_move (by conv => lhs; whnf)) rfl ?_
    refine V (x_len_sv Tryd.underlying9 rfl) rfl ?_
    refine V (x_bin rfl rfl (bf (decide_eq_false (by omega)))) rfl ?_
    refine WL_nil ?_
    refine W_false (rfl) ?_
    refine W_exit ?_
    repeat (first | with_reducible refine xt ?_ | with_reducible refine xb ?_ | with_reducible refine nt ?_ | with_reducible refine nb ?_ | with_reducible refine xn rfl ?_)
    refine W_seq ?_
    refine W_region ?_
    refine V (x_move (by conv => lhs; whnf)) rfl ?_
    refine V (x_bs1 Tryd.underlying62 sz5 zv5 rfl rfl rfl) rfl ?_
    have hA2 := Only.alloc (fun _ => False) w1 (.cells [Value.int .u8 34].toArray 5)
    refine VE (x_append (news := [34].map bv) eT5 (by conv => lhs; whnf) (by conv => lhs; whnf) (hown.only hA2 (fun _ _ => id)) rfl (Cells.of_blk (Blk.new _ _ _)) byte_one (by simp; omega) (by unfold maxLen; simp; omega)) rfl ?_
    rintro u2 w3 ⟨hown2, ho2, hat2⟩
    obtain ⟨hO2, hn2⟩ := app hO hnew hA2 ho2 hat2
    obtain ⟨Af, cf, hff, -, -⟩ := hown2.form
    have hown3 : Own w3 5 1 u2 (quotedB f).length ((quotedB f).map bv) := (by unfold quotedB; have he : ((34 :: (dblB f ++ [34])) : Bytes) = (34 :: dblB f) ++ [34] := (by simp); rw [he, List.map_append, List.length_append]; exact hown2)
    refine V (x_bytes_str (l := quotedB f) Tryd.underlying62 Tryd.underlying5 Tryd.underlying9 hff (by unfold quotedB; simp) (hown3.at_ hff)) rfl ?_
    refine V (x_assign (by conv => lhs; whnf)) rfl ?_
    refine WL_nil ?_
    refine W_ret ?_
    repeat (with_reducible (first | refine rt ?_ | refine rb ?_))
    exact bodyE_1 rfl rfl ⟨rfl, hO2⟩
/-- The comment character's bytes, none for none. -/
def cmtB (o : Opt) : Bytes := if o.ct = 0 then [] else encR o.ct
theorem comment_ok (o : Opt) (w : World) : Ret Tryd.prog 23 #[.agg o.cells.toArray] w fun v w' => v = strV (cmtB o) ∧ Only (fun _ => False) w w' := by
  refine ret_of_W Tryd.func23 rfl (Nat.le_of_ble_eq_true rfl) ?_
  have hO := Blk.new w 23 o.cells
  by_cases hz : o.ct = 0
  · have hc : cmtB o = [] := by unfold cmtB; rw [if_pos hz]
    rw [hc]
    conv => arg 3; whnf
    refine W_seq ?_
    refine W_region ?_
    refine V (x_box (cs := o.cells) rfl) rfl ?_
    refine V (x_assign (by conv => lhs; whnf)) rfl ?_
    refine WL_nil ?_
    refine W_seq ?_
    refine W_seq ?_
    refine W_region ?_
    refine V (x_field0 fa23_1 rfl) rfl ?_
    refine V (x_load ld21 rfl ((hO).cell 1 rfl)) rfl ?_
    refine V (x_bin rfl rfl (bt (beq_iff_eq.2 (by omega)))) rfl ?_
    refine WL_nil ?_
    refine W_true (rfl) ?_
    refine W_seq ?_
    refine W_region ?_
    refine V (x_assign (by conv => lhs; whnf)) rfl ?_
    refine WL_nil ?_
    refine W_ret ?_
    repeat (with_reducible (first | refine rt ?_ | refine rb ?_))
    exact bodyE_1 rfl rfl ⟨rfl, Only.alloc _ _ _⟩
  · have hc : cmtB o = encR o.ct := by unfold cmtB; rw [if_neg hz]
    rw [hc]
    conv => arg 3; whnf
    refine W_seq ?_
    refine W_region ?_
    refine V (x_box (cs := o.cells) rfl) rfl ?_
    refine V (x_assign (by conv => lhs; whnf)) rfl ?_
    refine WL_nil ?_
    refine W_seq ?_
    refine W_seq ?_
    refine W_region ?_
    refine V (x_field0 fa23_1 rfl) rfl ?_
    refine V (x_load ld21 rfl ((hO).cell 1 rfl)) rfl ?_
    refine V (x_bin rfl rfl (bf (beq_eq_false_iff_ne.2 (by omega)))) rfl ?_
    refine WL_nil ?_
    refine W_false (rfl) ?_
    refine W_skip ?_
    refine W_seq ?_
    refine W_region ?_
    refine V (x_field0 fa23_1 rfl) rfl ?_
    refine V (x_load ld21 rfl ((hO).cell 1 rfl)) rfl ?_
    refine V (x_rune_str Tryd.underlying21 Tryd.underlying9 rfl) rfl ?_
    refine V (x_assign (by conv => lhs; whnf)) rfl ?_
    refine WL_nil ?_
    refine W_ret ?_
    repeat (with_reducible (first | refine rt ?_ | refine rb ?_))
    exact bodyE_1 rfl rfl ⟨by unfold strV; rw [← utf8_encR]; rfl, Only.alloc _ _ _⟩
end Go.Proofs.YtcdhbfhijkdfoaaDoor
