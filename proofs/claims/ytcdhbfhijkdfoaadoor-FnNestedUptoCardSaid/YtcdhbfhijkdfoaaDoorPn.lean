/-
  Plain laws on bytes: runes at the head of bytes, places of the delimiter, ends of lines, ends of fields.
-/
import Derived.Test.YtcdhbfhijkdfoaaDoorRq
namespace Go.Proofs.YtcdhbfhijkdfoaaDoor
open Go.EC Go.RowKit

theorem runeB_ascii {b : UInt8} {t : Bytes} (h : b.toNat < 128) : runeB (b :: t) = (b.toNat : Int) := by
  unfold runeB
  rw [decB_N (by simp)]
  simp [Lib.decodeN, h]
theorem runeB_nil : runeB [] = 65533 := by unfold runeB; rw [decB_nil]; rfl
theorem bvs_inj {l m : Bytes} (h : l.map bv = m.map bv) : l = m := by
  induction l generalizing m with
  | nil => cases m with
    | nil => rfl
    | cons b m => simp at h
  | cons a l ih => cases m with
    | nil => simp at h
    | cons b m =>
      simp only [List.map_cons, List.cons.injEq] at h
      have h1 : a = b := by
        have := h.1
        unfold bv at this
        injection this with _ this
        exact u8_inj this
      rw [h1, ih h.2]
theorem bv_to {n : Nat} {z : Int} (h : z = (n : Int)) (hn : n < 256) : Value.int .u8 z = bv (UInt8.ofNat n) := by rw [ofN hn, h]
theorem toN {n : Nat} (h : n < 256) : (UInt8.ofNat n).toNat = n := by rw [UInt8.toNat_ofNat', Nat.mod_eq_of_lt (by omega)]
/-- The bytes of a character beyond ASCII. -/
theorem encR_multi {r : Int} (h0 : 128 ≤ r) (hv : Lib.validRune r = true) : ∃ m : Nat, r = (m : Int) ∧
    ((m < 2048 ∧ encR r = [UInt8.ofNat (192 + m / 64), UInt8.ofNat (128 + m % 64)]) ∨
     (2048 ≤ m ∧ m < 65536 ∧ (m < 55296 ∨ 57344 ≤ m) ∧ encR r = [UInt8.ofNat (224 + m / 4096), UInt8.ofNat (128 + m / 64 % 64), UInt8.ofNat (128 + m % 64)]) ∨
     (65536 ≤ m ∧ m ≤ 1114111 ∧ encR r = [UInt8.ofNat (240 + m / 262144), UInt8.ofNat (128 + m / 4096 % 64), UInt8.ofNat (128 + m / 64 % 64), UInt8.ofNat (128 + m % 64)])) := by
  have hv2 : (0 ≤ r ∧ r < 55296) ∨ (57343 < r ∧ r ≤ 1114111) := by simpa [Lib.validRune] using hv
  refine ⟨r.toNat, by omega, ?_⟩
  by_cases h2 : r < 2048
  · refine .inl ⟨by omega, bvs_inj ?_⟩
    rw [encR_2 h0 h2]
    simp only [List.map_cons, List.map_nil]
    rw [bv_to (n := 192 + r.toNat / 64) (by omega) (by omega), bv_to (n := 128 + r.toNat % 64) (by omega) (by omega)]
  by_cases h3 : r < 65536
  · refine .inr (.inl ⟨by omega, by omega, by omega, bvs_inj ?_⟩)
    rw [encR_3 (by omega) h3 hv]
    simp only [List.map_cons, List.map_nil]
    rw [bv_to (n := 224 + r.toNat / 4096) (by omega) (by omega), bv_to (n := 128 + r.toNat / 64 % 64) (by omega) (by omega), bv_to (n := 128 + r.toNat % 64) (by omega) (by omega)]
  · refine .inr (.inr ⟨by omega, by omega, bvs_inj ?_⟩)
    rw [encR_4 (by omega) (by omega)]
    simp only [List.map_cons, List.map_nil]
    rw [bv_to (n := 240 + r.toNat / 262144) (by omega) (by omega), bv_to (n := 128 + r.toNat / 4096 % 64) (by omega) (by omega), bv_to (n := 128 + r.toNat / 64 % 64) (by omega) (by omega), bv_to (n := 128 + r.toNat % 64) (by omega) (by omega)]
theorem runeB_enc {r : Int} (h0 : 0 ≤ r) (hv : Lib.validRune r = true) (t : Bytes) : runeB (encR r ++ t) = r := by
  by_cases h1 : r < 128
  · rw [encR_1 h0 h1]
    show runeB (UInt8.ofNat r.toNat :: t) = r
    rw [runeB_ascii (by rw [toN (by omega)]; omega), toN (by omega)]
    omega
  · obtain ⟨m, rfl, ⟨hm, he⟩ | ⟨hm, hm2, hs, he⟩ | ⟨hm, hm2, he⟩⟩ := encR_multi (by omega) hv <;> rw [he] <;> unfold runeB <;> rw [decB_N (by simp)] <;> simp only [List.cons_append, List.nil_append, List.length_cons, List.getD_cons_zero, List.getD_cons_succ]
    · rw [toN (by omega), toN (by omega)]
      unfold Lib.decodeN
      rw [if_neg (by omega), if_pos ⟨by omega, by omega, by omega⟩, if_pos (by omega)]
      dsimp only
      omega
    · rw [toN (by omega), toN (by omega), toN (by omega)]
      unfold Lib.decodeN
      rw [if_neg (by omega), if_neg (by omega), if_pos ⟨by omega, ⟨by omega, by omega⟩, by omega, by omega⟩, if_pos (by omega)]
      dsimp only
      omega
    · rw [toN (by omega), toN (by omega), toN (by omega), toN (by omega)]
      unfold Lib.decodeN
      rw [if_neg (by omega), if_neg (by omega), if_neg (by omega), if_pos ⟨by omega, ⟨by omega, by omega⟩, ⟨by omega, by omega⟩, by omega, by omega⟩, if_pos (by omega)]
      dsimp only
      omega
/-- What a delimiter's bytes are. -/
structure Cm (r : Int) (cm : Bytes) : Prop where
  enc : cm = encR r
  del : delimR r = true
theorem Cm.valid {r : Int} {cm : Bytes} (h : Cm r cm) : 0 ≤ r ∧ Lib.validRune r = true ∧ r ≠ 0 ∧ r ≠ 34 ∧ r ≠ 13 ∧ r ≠ 10 ∧ r ≠ 65533 := by
  have := h.del
  unfold delimR at this
  rw [decide_eq_true_iff] at this
  have hv := this.2.2.2.2.1
  simp [Lib.validRune] at hv
  exact ⟨by omega, this.2.2.2.2.1, this.1, this.2.1, this.2.2.1, this.2.2.2.1, this.2.2.2.2.2⟩
theorem Cm.len {r : Int} {cm : Bytes} (h : Cm r cm) : 1 ≤ cm.length ∧ cm.length ≤ 4 := by
  obtain ⟨h0, hv, _⟩ := h.valid
  rw [h.enc]
  by_cases h1 : r < 128
  · rw [encR_1 h0 h1]; simp
  · have := encR_len (by omega) hv; omega
theorem Cm.runeLen {r : Int} {cm : Bytes} (h : Cm r cm) : Lib.runeLen r = (cm.length : Int) := by
  obtain ⟨h0, hv, _⟩ := h.valid
  rw [h.enc]
  by_cases h1 : r < 128
  · rw [encR_1 h0 h1]; unfold Lib.runeLen; simp; omega
  · obtain ⟨m, rfl, ⟨hm, he⟩ | ⟨hm, hm2, hs, he⟩ | ⟨hm, hm2, he⟩⟩ := encR_multi (by omega) hv <;> rw [he] <;> unfold Lib.runeLen <;> simp <;> omega
/-- None of its bytes is a newline or a quote. -/
theorem Cm.not_mem {r : Int} {cm : Bytes} (h : Cm r cm) : (10 : UInt8) ∉ cm ∧ (34 : UInt8) ∉ cm := by
  obtain ⟨h0, hv, _, h34, _, h10, _⟩ := h.valid
  have key : ∀ b ∈ cm, b.toNat ≠ 10 ∧ b.toNat ≠ 34 := by
    rw [h.enc]
    by_cases h1 : r < 128
    · rw [encR_1 h0 h1]
      intro b hb
      rw [List.mem_singleton] at hb
      subst hb
      rw [toN (by omega)]
      omega
    · obtain ⟨m, rfl, ⟨hm, he⟩ | ⟨hm, hm2, hs, he⟩ | ⟨hm, hm2, he⟩⟩ := encR_multi (by omega) hv <;> rw [he] <;> intro b hb <;> simp only [List.mem_cons, List.mem_nil_iff, or_false] at hb
      · rcases hb with rfl | rfl <;> rw [toN (by omega)] <;> omega
      · rcases hb with rfl | rfl | rfl <;> rw [toN (by omega)] <;> omega
      · rcases hb with rfl | rfl | rfl | rfl <;> rw [toN (by omega)] <;> omega
  exact ⟨fun hh => (key _ hh).1 rfl, fun hh => (key _ hh).2 rfl⟩

/-- A line, or what is left of it, and what follows it. -/
def LineEnd (L p : Bytes) : Prop := (∃ L0, L = L0 ++ [10] ∧ (10 : UInt8) ∉ L0) ∨ (p = [] ∧ (10 : UInt8) ∉ L)
theorem LineEnd.of_raw {k : Nat} {L p : Bytes} (h : RawEnds k L p) : LineEnd L p := by
  rcases h with ⟨_, h⟩ | ⟨_, h⟩
  · exact .inl h
  · exact .inr h
theorem LineEnd.drop {u L p : Bytes} (h : LineEnd (u ++ L) p) (hu : (10 : UInt8) ∉ u) : LineEnd L p := by
  rcases h with ⟨L0, h1, h2⟩ | ⟨h1, h2⟩
  · left
    rcases List.append_eq_append_iff.1 h1 with ⟨t, h3, h4⟩ | ⟨t, h3, h4⟩
    · exact ⟨t, h4, fun hh => h2 (by rw [h3]; exact List.mem_append.2 (.inr hh))⟩
    · cases t with
      | nil => exact ⟨[], by simpa using h4.symm, by simp⟩
      | cons b t =>
        simp only [List.cons_append, List.cons.injEq] at h4
        refine absurd ?_ hu
        rw [h3, h4.1]
        simp
  · exact .inr ⟨h1, fun hh => h2 (List.mem_append.2 (.inr hh))⟩
theorem LineEnd.nil {p : Bytes} (h : LineEnd [] p) : p = [] := by
  rcases h with ⟨L0, h1, _⟩ | ⟨h1, _⟩
  · simp at h1
  · exact h1
/-- A piece without a newline at the head of what is to be read lies in the line. -/
theorem LineEnd.head {u v L p : Bytes} (h : LineEnd L p) (hu : (10 : UInt8) ∉ u) (he : L ++ p = u ++ v) : ∃ L', L = u ++ L' ∧ v = L' ++ p := by
  rcases List.append_eq_append_iff.1 he with ⟨t, h3, h4⟩ | ⟨t, h3, h4⟩
  · rcases h with ⟨L0, h1, h2⟩ | ⟨h1, h2⟩
    · refine absurd ?_ hu
      rw [h3, h1]
      simp
    · subst h1
      cases t with
      | nil => exact ⟨[], by simpa using h3.symm, by simpa using h4.symm⟩
      | cons b t => simp at h4
  · exact ⟨t, h3, h4⟩
/-- At the end of a line. -/
theorem LineEnd.eol {L p : Bytes} (h : LineEnd L p) (he : Eol (L ++ p)) : (L = [] ∧ p = []) ∨ L = [10] := by
  rcases he with he | ⟨r, he⟩
  · exact .inl (List.append_eq_nil_iff.1 he)
  · rcases h with ⟨L0, h1, h2⟩ | ⟨h1, h2⟩
    · cases L0 with
      | nil => exact .inr (by simpa using h1)
      | cons b L0 =>
        rw [h1] at he
        simp only [List.cons_append, List.cons.injEq] at he
        exact absurd (by rw [he.1]; simp) h2
    · subst h1
      rw [List.append_nil] at he
      exact absurd (by rw [he]; simp) h2
theorem nlLen_10 : nlLen [10] = 1 := by unfold nlLen; simp
theorem nlLen_nil : nlLen [] = 0 := by unfold nlLen; simp
theorem nlLen_app {u : Bytes} : nlLen (u ++ [10]) = 1 := by unfold nlLen; simp
theorem nlLen_no {u : Bytes} (h : (10 : UInt8) ∉ u) : nlLen u = 0 := by
  unfold nlLen
  rw [if_neg]
  intro hh
  exact h (List.mem_of_getLast? hh)

/-! IndexRune on lines that the readers of this text meet. -/
theorem FirstCm.ok {r : Int} {cm u t : Bytes} (hc : Cm r cm) (h : FirstCm cm u) : irOk cm (u ++ (cm ++ t)) ∧ Lib.index (u ++ (cm ++ t)) cm = (u.length : Int) := by
  have hl := hc.len
  have hne : cm ≠ [] := by rintro rfl; simp at hl
  have hget : ∀ i : Nat, i < u.length + cm.length → (u ++ (cm ++ t))[i]? = (u ++ cm)[i]? := fun i hi => by
    rw [← List.append_assoc, List.getElem?_append_left (by simpa using hi)]
  have hocc : Lib.occAt (u ++ (cm ++ t)) cm u.length = true := by
    unfold Lib.occAt
    rw [List.drop_left]
    exact List.isPrefixOf_iff_prefix.2 (List.prefix_append _ _)
  have hno : ∀ i : Nat, cm.length - 1 ≤ i → i < u.length + (cm.length - 1) → (u ++ (cm ++ t))[i]? ≠ cm.getLast? := fun i h1 h2 => by
    rw [hget i (by omega)]
    exact h i h1 h2
  refine ⟨fun j hj hat hmin => ?_, Lib.index_hit (noOcc_of hne hno) (by simp) hocc⟩
  have hje : j = u.length + (cm.length - 1) := by
    rcases Nat.lt_trichotomy j (u.length + (cm.length - 1)) with h1 | h1 | h1
    · exact absurd hat (hno j hj h1)
    · exact h1
    · refine absurd ?_ (hmin (u.length + (cm.length - 1)) (by omega) h1)
      rw [hget _ (by omega), List.getElem?_append_right (by omega), List.getLast?_eq_getElem?]
      congr 1
      omega
  rw [hje, Nat.add_sub_cancel]
  exact hocc
theorem NoCm.ok {r : Int} {cm L : Bytes} (hc : Cm r cm) (h : NoCm cm L) : irOk cm L ∧ Lib.index L cm = -1 := by
  have hl := hc.len
  have hne : cm ≠ [] := by rintro rfl; simp at hl
  exact ⟨fun j hj hat _ => absurd hat (h j hj), Lib.index_none fun j _ => noOcc_of hne (k := j + 1) (fun i h1 _ => h i h1) j (by omega)⟩
theorem NoCm.nl {r : Int} {cm u : Bytes} (hc : Cm r cm) (h : NoCm cm u) : NoCm cm (u ++ [10]) := fun i hi => by
  have hl := hc.len
  rcases Nat.lt_or_ge i u.length with h1 | h1
  · rw [List.getElem?_append_left h1]
    exact h i hi
  · rw [List.getElem?_append_right h1]
    intro hh
    have h2 : cm.getLast? ≠ some 10 := fun h3 => hc.not_mem.1 (List.mem_of_getLast? h3)
    have h3 : cm.getLast? ≠ none := by
      rw [ne_eq, List.getLast?_eq_none_iff]
      rintro rfl; simp at hl
    rw [← hh] at h2 h3
    rcases Nat.eq_or_lt_of_le (Nat.zero_le (i - u.length)) with h4 | h4
    · rw [← h4] at h2; simp at h2
    · rw [List.getElem?_eq_none (by simp; omega)] at h3; exact h3 rfl
theorem IndexRune_ok (A : Option Addr) (L cm : Bytes) (c : Nat) (r : Int) (w : World) (hc : Cm r cm) (h : At w A L) (hcap : L.length ≤ c) (hm : L.length ≤ 2147487744) (hok : irOk cm L) :
    Ret Tryd.prog 52 #[.slice A L.length c, .int .i32 r] w fun v w' => v = .int .i64 (Lib.index L cm) ∧ Only (fun _ => False) w w' := by
  obtain ⟨h0, hv, _, _, _, _, h5⟩ := hc.valid
  rw [hc.enc] at *
  by_cases h1 : r < 128
  · exact (IndexRune_ascii A L c r w h h0 h1).mono fun v w' ⟨h2, h3⟩ => ⟨h2, by rw [← h3]; exact Only.refl _ _⟩
  · exact IndexRune_multi A L c r w h hcap hm (by omega) hv h5 hok

/-! The ends of fields in the record buffer. -/
def endsOf (n : Nat) : List Bytes → List Nat
  | [] => []
  | f :: fs => (n + f.length) :: endsOf (n + f.length) fs
theorem endsOf_length (n : Nat) (fs : List Bytes) : (endsOf n fs).length = fs.length := by
  induction fs generalizing n with
  | nil => rfl
  | cons f fs ih => simp [endsOf, ih]
theorem endsOf_snoc (n : Nat) (fs : List Bytes) (f : Bytes) : endsOf n (fs ++ [f]) = endsOf n fs ++ [n + fs.flatten.length + f.length] := by
  induction fs generalizing n with
  | nil => simp [endsOf]
  | cons g fs ih => simp [endsOf, ih]; omega
/-- What has been gathered of the fields acc. -/
structure Gath (rb : Bytes) (ix : List Nat) (acc : List Bytes) : Prop where
  rb : rb = acc.flatten
  ix : ix = endsOf 0 acc
theorem Gath.nil : Gath [] [] [] := ⟨rfl, rfl⟩
theorem Gath.snoc {rb u : Bytes} {ix : List Nat} {acc : List Bytes} (h : Gath rb ix acc) : Gath (rb ++ u) (ix ++ [(rb ++ u).length]) (acc ++ [u]) :=
  ⟨by rw [h.rb]; simp, by rw [h.ix, endsOf_snoc, h.rb, List.length_append]; simp⟩
theorem norm_id {k : Nat} {L p : Bytes} (h : (13 : UInt8) ∉ L ++ p) : normN (normE k L) = L := by
  have h1 : (13 : UInt8) ∉ L := fun hh => h (List.mem_append.2 (.inl hh))
  have h2 : normE k L = L := by
    unfold normE
    rw [if_neg]
    rintro ⟨_, hh⟩
    exact h1 (List.mem_of_getLast? hh)
  rw [h2]
  unfold normN
  rw [if_neg]
  rintro ⟨_, hh⟩
  exact h1 (List.dropLast_subset _ (List.mem_of_getLast? hh))
end Go.Proofs.YtcdhbfhijkdfoaaDoor
