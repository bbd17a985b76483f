/-
  The state of readRecord, and how its steps turn it.
-/
import Derived.Test.YtcdhbfhijkdfoaaDoorPn
namespace Go.EC
open Go.RowKit
theorem Own.no2 {w : World} {t t' : TypeId} {sz sz' n n' : Nat} {v v' : Value} {xs xs' : List Value} (h : Own w t sz v n xs) (h' : Own w t' sz' v' n' xs') (hne : t ≠ t') {k : Nat} (hk : v.ownBlock = some k) : v'.ownBlock ≠ some k := by
  obtain ⟨_, _, _, hb, _⟩ := h.blk hk
  exact h'.ne hb (Ne.symm hne)
theorem At.cells {w : World} {A : Option Addr} {l : Bytes} (h : At w A l) : Cells w A (l.map bv) := fun hn => by
  obtain ⟨gA, o, hA, hc⟩ := h (by rintro rfl; simp at hn)
  refine ⟨gA, o, hA, fun j u hu => ?_⟩
  rw [List.getElem?_map] at hu
  obtain ⟨b, hb, rfl⟩ := Option.map_eq_some_iff.1 hu
  exact hc j b hb
end Go.EC
namespace Go.Proofs.YtcdhbfhijkdfoaaDoor
open Go.EC Go.RowKit

/-- The reader (block a), what has been gathered, the line at hand, the positions' own blocks P; what has turned since w0. -/
structure RS (Bs a g s : Nat) (x0 : Fld) (w0 : World) (str : ByteArray) (P : List Nat) (w : World) (x : Fld) (r : Nat) (p rb : Bytes) (ix : List Nat) (np : Nat) (A : Option Addr) (c : Nat) (L : Bytes) : Prop where
  st : RrS w Bs a g s x str r p rb ix np
  line : LineAt w g x.raw r A c L
  pos : ∀ pb ∈ P, (∃ l n : Int, Blk w pb 85 [.int .i64 l, .int .i64 n]) ∧ x.psn.ownBlock ≠ some pb ∧ w0.heap.size ≤ pb
  only : Only (Blks a g s x0) w0 w
  blk : ∀ k, Blks a g s x k → Blks a g s x0 k ∨ w0.heap.size ≤ k
  fld : x.cm = x0.cm ∧ x.ct = x0.ct ∧ x.fpr = x0.fpr ∧ x.lz = x0.lz ∧ x.tr = x0.tr ∧ x.re = x0.re
section
variable {Bs a g s : Nat} {x0 : Fld} {w0 : World} {str : ByteArray} {P P' : List Nat} {w w' : World} {x : Fld} {r : Nat} {p rb : Bytes} {ix : List Nat} {np : Nat} {A : Option Addr} {c : Nat} {L : Bytes} {S : Nat → Prop}
theorem RS.other (h : RS Bs a g s x0 w0 str P w x r p rb ix np A c L) (ho : Only S w w') (hS : ∀ k, Blks a g s x k → ¬ S k) (hS0 : ∀ k, k < w0.heap.size → ¬ S k)
    (hP : ∀ pb ∈ P', (∃ l n : Int, Blk w' pb 85 [.int .i64 l, .int .i64 n]) ∧ x.psn.ownBlock ≠ some pb ∧ w0.heap.size ≤ pb) : RS Bs a g s x0 w0 str P' w' x r p rb ix np A c L :=
  ⟨h.st.only ho hS, h.line.only ho (hS g (.inr (.inr (.inl rfl)))) (fun k hk => hS k (.inr (.inr (.inr (.inr (.inl hk)))))), hP, h.only.then_ ho fun i hi hs => (hS0 i hi hs).elim, h.blk, h.fld⟩
theorem RS.new (h : RS Bs a g s x0 w0 str P w x r p rb ix np A c L) (ho : Only (fun _ => False) w w') : RS Bs a g s x0 w0 str P w' x r p rb ix np A c L :=
  h.other ho (fun _ _ => id) (fun _ _ => id) fun pb hpb => by
    obtain ⟨⟨l, n, hb⟩, h2⟩ := h.pos pb hpb
    exact ⟨⟨l, n, hb.only ho id⟩, h2⟩
theorem RS.same (h : RS Bs a g s x0 w0 str P w x r p rb ix np A c L) (hs : Same w w') : RS Bs a g s x0 w0 str P w' x r p rb ix np A c L := h.new (hs.only _)
theorem RS.drew (h : RS Bs a g s x0 w0 str P w x r p rb ix np A c L) : RS Bs a g s x0 w0 str P (dr w) x r p rb ix np A c L := h.new (Only.drew _ _)
/-- Blocks of other types are none of the gathered slices'. -/
theorem RS.noT (h : RS Bs a g s x0 w0 str P w x r p rb ix np A c L) {k : Nat} {t : TypeId} {cs : List Value} (hb : Blk w k t cs) (h5 : (5 : TypeId) ≠ t) (h3 : (3 : TypeId) ≠ t) (h85 : (85 : TypeId) ≠ t) : x.rec_.ownBlock ≠ some k ∧ x.idx.ownBlock ≠ some k ∧ x.psn.ownBlock ≠ some k := by
  obtain ⟨ys, hp⟩ := h.st.psn
  exact ⟨h.st.rcb.ne hb h5, h.st.idx.ne hb h3, hp.ne hb h85⟩
theorem RS.pos_nb (h : RS Bs a g s x0 w0 str P w x r p rb ix np A c L) {pb : Nat} (hpb : pb ∈ P) : ¬ Blks a g s x pb := by
  obtain ⟨⟨l, n, hb⟩, h2, _⟩ := h.pos pb hpb
  obtain ⟨⟨_, hB⟩, ⟨_, hG⟩, ⟨_, hSs⟩, _, _⟩ := h.st.rd.src.lts
  obtain ⟨m, xs, hown⟩ := h.st.rd.raw
  rintro (e | e | e | e | e | e | e | e)
  · exact hb.ne h.st.rd.C (by decide) e
  · exact hb.ne hB (by decide) e
  · exact hb.ne hG (by decide) e
  · exact hb.ne hSs (by decide) e
  · exact hown.ne hb (by decide) e
  · exact h.st.rcb.ne hb (by decide) e
  · exact h.st.idx.ne hb (by decide) e
  · exact h2 e
/-- A number stored into a position. -/
theorem RS.setPos (h : RS Bs a g s x0 w0 str P w x r p rb ix np A c L) {pb i : Nat} (hpb : pb ∈ P) (hi : i < 2) (z : Int) : RS Bs a g s x0 w0 str P (w.setCell ⟨pb, i, none⟩ (.int .i64 z)) x r p rb ix np A c L := by
  refine h.other (S := (· = pb)) (Only.setCell (· = pb) _ rfl _) (fun k hk e => h.pos_nb hpb (e ▸ hk)) (fun k hk e => by have := (h.pos pb hpb).2.2; omega) fun pb' hpb' => ?_
  obtain ⟨⟨l, n, hb⟩, h2⟩ := h.pos pb' hpb'
  refine ⟨?_, h2⟩
  by_cases e : pb' = pb
  · subst e
    have hb2 := hb.set i (.int .i64 z)
    have hi2 : i = 0 ∨ i = 1 := by omega
    rcases hi2 with rfl | rfl
    · exact ⟨z, n, hb2⟩
    · exact ⟨l, z, hb2⟩
  · exact ⟨l, n, hb.far (p := ⟨pb, i, none⟩) e _⟩
theorem RS.addPos (h : RS Bs a g s x0 w0 str P w x r p rb ix np A c L) (ho : Only (fun _ => False) w w') {pb : Nat} {l n : Int} (hb : Blk w' pb 85 [.int .i64 l, .int .i64 n]) (hpb : w.heap.size ≤ pb) : RS Bs a g s x0 w0 str (pb :: P) w' x r p rb ix np A c L := by
  have h1 := h.new ho
  refine ⟨h1.st, h1.line, fun q hq => ?_, h1.only, h1.blk, h1.fld⟩
  rcases List.mem_cons.1 hq with rfl | hq
  · refine ⟨⟨l, n, hb⟩, fun e => ?_, Nat.le_trans h.only.size hpb⟩
    obtain ⟨ys, hp⟩ := h.st.psn
    have := hp.lt e
    omega
  · exact h1.pos q hq
theorem RS.dropPos (h : RS Bs a g s x0 w0 str P w x r p rb ix np A c L) (hP : ∀ pb ∈ P', pb ∈ P) : RS Bs a g s x0 w0 str P' w x r p rb ix np A c L :=
  ⟨h.st, h.line, fun pb hpb => h.pos pb (hP pb hpb), h.only, h.blk, h.fld⟩
theorem LineAt.drop {raw : Value} (h : LineAt w g raw r A c L) (k : Nat) (hk : k ≤ L.length) : LineAt w g raw r (if c = k then A else A.map (·.add k)) (c - k) (L.drop k) := by
  refine ⟨by have := h.cap; simp; omega, fun hn => ?_⟩
  have hlt : k < L.length := by
    rcases Nat.lt_or_ge k L.length with h1 | h1
    · exact h1
    · exact absurd (List.drop_eq_nil_of_le h1) hn
  obtain ⟨gA, o, csA, h1, h2, h3, h4⟩ := h.cells (by rintro rfl; simp at hlt)
  have hc := h.cap
  rw [if_neg (by omega)]
  refine ⟨gA, o + k, csA, by rw [h1]; simp [add_none], h2, fun j b hj => ?_, (match h4 with | .inl ⟨e1, e2⟩ => .inl ⟨e1, by simp; omega⟩ | .inr e3 => .inr e3)⟩
  rw [Nat.add_assoc]
  exact h3 (k + j) b (by rw [← hj, List.getElem?_drop])
theorem RS.cut (h : RS Bs a g s x0 w0 str P w x r p rb ix np A c L) (k : Nat) (hk : k ≤ L.length) : RS Bs a g s x0 w0 str P w x r p rb ix np (if c = k then A else A.map (·.add k)) (c - k) (L.drop k) :=
  ⟨h.st, h.line.drop k hk, h.pos, h.only, h.blk, h.fld⟩
theorem RS.bytes (h : RS Bs a g s x0 w0 str P w x r p rb ix np A c L) {u t : Bytes} (hL : L = u ++ t) : At w A u := by
  have := h.line.at_.take u.length
  rw [hL, List.take_left] at this
  exact this
theorem RS.upd (h : RS Bs a g s x0 w0 str P w x r p rb ix np A c L) {w2 : World} {v1 v2 v3 : Value} {T : Nat → Prop} {rb' : Bytes} {ix' : List Nat} {np' : Nat} (ho : Only (fun k => k = a ∨ T k) w w2)
    (hT : ∀ k, T k → x.rec_.ownBlock = some k ∨ x.idx.ownBlock = some k ∨ x.psn.ownBlock = some k) (hC : CBlk w2 a { x with rec_ := v1, idx := v2, psn := v3 })
    (h1 : Own w2 5 1 v1 rb'.length (rb'.map bv)) (h2 : Own w2 3 1 v2 ix'.length (ix'.map fun n : Nat => Value.int .i64 ((n : Nat) : Int))) (h3 : ∃ xs, Own w2 85 2 v3 np' xs)
    (b1 : v1.ownBlock = x.rec_.ownBlock ∨ v1.ownBlock = some w.heap.size) (b2 : v2.ownBlock = x.idx.ownBlock ∨ v2.ownBlock = some w.heap.size) (b3 : v3.ownBlock = x.psn.ownBlock ∨ v3.ownBlock = some w.heap.size) :
    RS Bs a g s x0 w0 str P w2 { x with rec_ := v1, idx := v2, psn := v3 } r p rb' ix' np' A c L := by
  obtain ⟨⟨_, hB⟩, ⟨_, hG⟩, ⟨_, hSs⟩, _, _⟩ := h.st.rd.src.lts
  obtain ⟨m, xs, hraw⟩ := h.st.rd.raw
  obtain ⟨ys, hpsn⟩ := h.st.psn
  obtain ⟨e1, e2, e3, e4⟩ := h.st.rd.ab
  have no : ∀ k, x.rec_.ownBlock ≠ some k → x.idx.ownBlock ≠ some k → x.psn.ownBlock ≠ some k → ¬ T k := fun k n1 n2 n3 ht => by
    rcases hT k ht with e | e | e
    · exact n1 e
    · exact n2 e
    · exact n3 e
  have nB : ¬ (x.b = a ∨ T x.b) := fun hh => hh.elim e1 (by obtain ⟨n1, n2, n3⟩ := h.noT hB (by decide) (by decide) (by decide); exact no _ n1 n2 n3)
  have nS : ¬ (s = a ∨ T s) := fun hh => hh.elim e3 (by obtain ⟨n1, n2, n3⟩ := h.noT hSs (by decide) (by decide) (by decide); exact no _ n1 n2 n3)
  have nG : ¬ (g = a ∨ T g) := fun hh => hh.elim e2 (no _ h.st.recg (h.st.idx.ne hG (by decide)) (hpsn.ne hG (by decide)))
  have nR : ∀ k, x.raw.ownBlock = some k → ¬ (k = a ∨ T k) := fun k hk hh => hh.elim (fun e => e4 (by rw [hk, e])) (no _ (fun e => h.st.recr k e hk) (hraw.no2 h.st.idx (by decide) hk) (hraw.no2 hpsn (by decide) hk))
  have hlt : ∀ {k}, Blks a g s x k → k < w.heap.size := fun hk => h.st.lt hk
  refine ⟨⟨⟨hC, h.st.rd.src.only ho nB nG nS, ⟨m, xs, hraw.only ho nR⟩, h.st.rd.rawg, h.st.rd.lo⟩, h1, ?_, ?_, h2, h3, ?_⟩, h.line.only ho nG nR, ?_, ?_, ?_, h.fld⟩
  · show v1.ownBlock ≠ some g
    rcases b1 with e | e
    · rw [e]; exact h.st.recg
    · rw [e]; intro hh; injection hh with hh; have := hG.lt; omega
  · show ∀ k, v1.ownBlock = some k → x.raw.ownBlock ≠ some k
    intro k hk hr
    rcases b1 with e | e
    · exact h.st.recr k (by rw [← e]; exact hk) hr
    · rw [e] at hk; injection hk with hk; have := hraw.lt hr; omega
  · have hB0 : Bs ≤ w.heap.size := by have := h.st.rd.C.lt; have := h.st.rd.lo.1; omega
    refine ⟨fun k hk => ?_, fun k hk => ?_, fun k hk => ?_⟩
    · have hk' : v1.ownBlock = some k := hk
      rcases b1 with e | e
      · exact h.st.lo.1 k (by rw [← e]; exact hk')
      · rw [e] at hk'; injection hk' with hk'; omega
    · have hk' : v2.ownBlock = some k := hk
      rcases b2 with e | e
      · exact h.st.lo.2.1 k (by rw [← e]; exact hk')
      · rw [e] at hk'; injection hk' with hk'; omega
    · have hk' : v3.ownBlock = some k := hk
      rcases b3 with e | e
      · exact h.st.lo.2.2 k (by rw [← e]; exact hk')
      · rw [e] at hk'; injection hk' with hk'; omega
  · intro pb hpb
    obtain ⟨⟨l, n, hb⟩, h4, h5⟩ := h.pos pb hpb
    refine ⟨⟨l, n, hb.only ho fun hh => hh.elim (fun e => ?_) (no _ (h.st.rcb.ne hb (by decide)) (h.st.idx.ne hb (by decide)) h4)⟩, ?_, h5⟩
    · rw [e] at hb; exact hb.ne h.st.rd.C (by decide) rfl
    · show v3.ownBlock ≠ some pb
      rcases b3 with e | e
      · rw [e]; exact h4
      · rw [e]; intro hh; injection hh with hh; have := hb.lt; omega
  · refine h.only.then_ ho fun i hi hh => ?_
    have hbi : Blks a g s x i := by
      rcases hh with e | e
      · exact .inl e
      · rcases hT i e with e | e | e
        · exact .inr (.inr (.inr (.inr (.inr (.inl e)))))
        · exact .inr (.inr (.inr (.inr (.inr (.inr (.inl e))))))
        · exact .inr (.inr (.inr (.inr (.inr (.inr (.inr e))))))
    rcases h.blk i hbi with h6 | h6
    · exact h6
    · omega
  · have hsz := h.only.size
    intro k hk
    rcases hk with e | e | e | e | e | e | e | e
    · exact h.blk k (.inl e)
    · exact h.blk k (.inr (.inl e))
    · exact h.blk k (.inr (.inr (.inl e)))
    · exact h.blk k (.inr (.inr (.inr (.inl e))))
    · exact h.blk k (.inr (.inr (.inr (.inr (.inl e)))))
    · have hk' : v1.ownBlock = some k := e
      rcases b1 with e | e
      · exact h.blk k (.inr (.inr (.inr (.inr (.inr (.inl (by rw [← e]; exact hk')))))))
      · rw [e] at hk'; injection hk' with hk'; exact .inr (by omega)
    · have hk' : v2.ownBlock = some k := e
      rcases b2 with e | e
      · exact h.blk k (.inr (.inr (.inr (.inr (.inr (.inr (.inl (by rw [← e]; exact hk'))))))))
      · rw [e] at hk'; injection hk' with hk'; exact .inr (by omega)
    · have hk' : v3.ownBlock = some k := e
      rcases b3 with e | e
      · exact h.blk k (.inr (.inr (.inr (.inr (.inr (.inr (.inr (by rw [← e]; exact hk'))))))))
      · rw [e] at hk'; injection hk' with hk'; exact .inr (by omega)
theorem only_set {w w1 : World} {T : Nat → Prop} (ho : Only T w w1) (i : Nat) (v : Value) : Only (fun k => k = a ∨ T k) w (w1.setCell ⟨a, i, none⟩ v) :=
  (ho.mono fun _ _ hk => .inr hk).trans (Only.setCell _ _ (.inl rfl) _)
/-- An append to the record buffer, stored back. v0: what was appended to. -/
theorem RS.appRec (h : RS Bs a g s x0 w0 str P w x r p rb ix np A c L) {v0 v' : Value} {rb' : Bytes} {w1 : World} (hb : v0.ownBlock = x.rec_.ownBlock) (h1 : Own w1 5 1 v' rb'.length (rb'.map bv)) (ho : Only (fun k => v0.ownBlock = some k) w w1) (hat : v'.ownBlock = v0.ownBlock ∨ v'.ownBlock = some w.heap.size) :
    CBlk w1 a x ∧ RS Bs a g s x0 w0 str P (w1.setCell ⟨a, 11, none⟩ v') { x with rec_ := v' } r p rb' ix np A c L := by
  obtain ⟨ys, hpsn⟩ := h.st.psn
  rw [hb] at ho hat
  have hC : CBlk w1 a x := h.st.rd.C.only ho (h.noT h.st.rd.C (by decide) (by decide) (by decide)).1
  have hst : Only (· = a) w1 (w1.setCell ⟨a, 11, none⟩ v') := Only.setCell (· = a) _ rfl _
  have na : ∀ {t sz v n xs}, Own w1 t sz v n xs → t ≠ 71 → Own (w1.setCell ⟨a, 11, none⟩ v') t sz v n xs := fun ho1 ht => ho1.only hst fun k hk e => ho1.ne hC ht (by rw [hk, e])
  refine ⟨hC, h.upd (v1 := v') (v2 := x.idx) (v3 := x.psn) (only_set ho 11 v') (fun k hk => .inl hk) (hC.set 11 v') (na h1 (by decide)) (na (h.st.idx.only ho fun k hk e => h.st.idx.no2 h.st.rcb (by decide) hk e) (by decide)) ⟨ys, na (hpsn.only ho fun k hk e => hpsn.no2 h.st.rcb (by decide) hk e) (by decide)⟩ hat (.inl rfl) (.inl rfl)⟩
theorem RS.appIdx (h : RS Bs a g s x0 w0 str P w x r p rb ix np A c L) {v0 v' : Value} {ix' : List Nat} {w1 : World} (hb : v0.ownBlock = x.idx.ownBlock) (h1 : Own w1 3 1 v' ix'.length (ix'.map fun n : Nat => Value.int .i64 ((n : Nat) : Int))) (ho : Only (fun k => v0.ownBlock = some k) w w1) (hat : v'.ownBlock = v0.ownBlock ∨ v'.ownBlock = some w.heap.size) :
    CBlk w1 a x ∧ RS Bs a g s x0 w0 str P (w1.setCell ⟨a, 12, none⟩ v') { x with idx := v' } r p rb ix' np A c L := by
  obtain ⟨ys, hpsn⟩ := h.st.psn
  rw [hb] at ho hat
  have hC : CBlk w1 a x := h.st.rd.C.only ho (h.noT h.st.rd.C (by decide) (by decide) (by decide)).2.1
  have hst : Only (· = a) w1 (w1.setCell ⟨a, 12, none⟩ v') := Only.setCell (· = a) _ rfl _
  have na : ∀ {t sz v n xs}, Own w1 t sz v n xs → t ≠ 71 → Own (w1.setCell ⟨a, 12, none⟩ v') t sz v n xs := fun ho1 ht => ho1.only hst fun k hk e => ho1.ne hC ht (by rw [hk, e])
  refine ⟨hC, h.upd (v1 := x.rec_) (v2 := v') (v3 := x.psn) (only_set ho 12 v') (fun k hk => .inr (.inl hk)) (hC.set 12 v') (na (h.st.rcb.only ho fun k hk e => h.st.rcb.no2 h.st.idx (by decide) hk e) (by decide)) (na h1 (by decide)) ⟨ys, na (hpsn.only ho fun k hk e => hpsn.no2 h.st.idx (by decide) hk e) (by decide)⟩ (.inl rfl) hat (.inl rfl)⟩
theorem RS.appPsn (h : RS Bs a g s x0 w0 str P w x r p rb ix np A c L) {v0 v' : Value} {np' : Nat} {xs : List Value} {w1 : World} (hb : v0.ownBlock = x.psn.ownBlock) (h1 : Own w1 85 2 v' np' xs) (ho : Only (fun k => v0.ownBlock = some k) w w1) (hat : v'.ownBlock = v0.ownBlock ∨ v'.ownBlock = some w.heap.size) :
    CBlk w1 a x ∧ RS Bs a g s x0 w0 str P (w1.setCell ⟨a, 13, none⟩ v') { x with psn := v' } r p rb ix np' A c L := by
  obtain ⟨ys, hpsn⟩ := h.st.psn
  rw [hb] at ho hat
  have hC : CBlk w1 a x := h.st.rd.C.only ho (h.noT h.st.rd.C (by decide) (by decide) (by decide)).2.2
  have hst : Only (· = a) w1 (w1.setCell ⟨a, 13, none⟩ v') := Only.setCell (· = a) _ rfl _
  have na : ∀ {t sz v n xs}, Own w1 t sz v n xs → t ≠ 71 → Own (w1.setCell ⟨a, 13, none⟩ v') t sz v n xs := fun ho1 ht => ho1.only hst fun k hk e => ho1.ne hC ht (by rw [hk, e])
  refine ⟨hC, h.upd (v1 := x.rec_) (v2 := x.idx) (v3 := v') (only_set ho 13 v') (fun k hk => .inr (.inr hk)) (hC.set 13 v') (na (h.st.rcb.only ho fun k hk e => h.st.rcb.no2 hpsn (by decide) hk e) (by decide)) (na (h.st.idx.only ho fun k hk e => h.st.idx.no2 hpsn (by decide) hk e) (by decide)) ⟨xs, na h1 (by decide)⟩ (.inl rfl) (.inl rfl) hat⟩
/-- A new line has been read. -/
theorem RS.readLine (h : RS Bs a g s x0 w0 str P w x r p rb ix np A c L) {raw' : Value} {nl' off' : Int} {r' : Nat} {p' L' : Bytes} {A' : Option Addr} {c' : Nat} (h' : RdS w' Bs a g s { x with raw := raw', nl := nl', off := off' } str r' p') (hL : LineAt w' g raw' r' A' c' L')
    (ho : Only (RlS a x.b g s x.raw) w w') (hraw : raw'.ownBlock = x.raw.ownBlock ∨ ∃ k, raw'.ownBlock = some k ∧ w.heap.size ≤ k) : RS Bs a g s x0 w0 str P w' { x with raw := raw', nl := nl', off := off' } r' p' rb ix np A' c' L' := by
  obtain ⟨⟨_, hB⟩, ⟨_, hG⟩, ⟨_, hSs⟩, _, _⟩ := h.st.rd.src.lts
  obtain ⟨m, xs, hr⟩ := h.st.rd.raw
  obtain ⟨ys, hpsn⟩ := h.st.psn
  have key : ∀ {t sz v n xs}, Own w t sz v n xs → t ≠ 71 → t ≠ 121 → t ≠ 78 → v.ownBlock ≠ some g → (∀ k, v.ownBlock = some k → x.raw.ownBlock ≠ some k) → Own w' t sz v n xs := fun ho1 h1 h2 h3 h4 h5 => ho1.only ho fun k hk hh => by
    rcases hh with e | (e | e | e) | e
    · exact ho1.ne h.st.rd.C h1 (by rw [hk, e])
    · exact ho1.ne hB h2 (by rw [hk, e])
    · exact h4 (by rw [hk, e])
    · exact ho1.ne hSs h3 (by rw [hk, e])
    · exact h5 k hk e
  refine ⟨⟨h', key h.st.rcb (by decide) (by decide) (by decide) h.st.recg h.st.recr, h.st.recg, ?_, key h.st.idx (by decide) (by decide) (by decide) (h.st.idx.ne hG (by decide)) (fun k hk => h.st.idx.no2 hr (by decide) hk), ⟨ys, key hpsn (by decide) (by decide) (by decide) (hpsn.ne hG (by decide)) (fun k hk => hpsn.no2 hr (by decide) hk)⟩, h.st.lo⟩, hL, ?_, ?_, ?_, h.fld⟩
  · show ∀ k, x.rec_.ownBlock = some k → raw'.ownBlock ≠ some k
    intro k hk hr'
    rcases hraw with e | ⟨k', e, hk'⟩
    · exact h.st.recr k hk (by rw [← e]; exact hr')
    · rw [e] at hr'; injection hr' with hr'; have := h.st.rcb.lt hk; omega
  · intro pb hpb
    obtain ⟨⟨l, n, hb⟩, h4, h5⟩ := h.pos pb hpb
    refine ⟨⟨l, n, hb.only ho fun hh => h.pos_nb hpb (.of_rl hh)⟩, h4, h5⟩
  · refine h.only.then_ ho fun i hi hh => ?_
    rcases h.blk i (.of_rl hh) with h6 | h6
    · exact h6
    · omega
  · have hsz := h.only.size
    intro k hk
    rcases hk with e | e | e | e | e | e | e | e
    · exact h.blk k (.inl e)
    · exact h.blk k (.inr (.inl e))
    · exact h.blk k (.inr (.inr (.inl e)))
    · exact h.blk k (.inr (.inr (.inr (.inl e))))
    · have hk' : raw'.ownBlock = some k := e
      rcases hraw with e | ⟨k', e, hk2⟩
      · exact h.blk k (.inr (.inr (.inr (.inr (.inl (by rw [← e]; exact hk'))))))
      · rw [e] at hk'; injection hk' with hk'; exact .inr (by omega)
    · exact h.blk k (.inr (.inr (.inr (.inr (.inr (.inl e))))))
    · exact h.blk k (.inr (.inr (.inr (.inr (.inr (.inr (.inl e)))))))
    · exact h.blk k (.inr (.inr (.inr (.inr (.inr (.inr (.inr e)))))))
/-- What stands below the reader's blocks. -/
theorem RS.below (h : RS Bs a g s x0 w0 str P w x r p rb ix np A c L) (hx : ∀ k, Blks a g s x0 k → Bs ≤ k) (hB0 : Bs ≤ w0.heap.size) : Below Bs w0 w := h.only.below hx hB0
theorem RS.len (h : RS Bs a g s x0 w0 str P w x r p rb ix np A c L) : p.length ≤ 2147487744 := h.st.rd.src.lts.2.2.2.1
end
/-- What a walk of readRecord knows of the world at its start. -/
structure Start (Bs a g s : Nat) (x0 : Fld) (er : Nat → Addr) (w0 : World) : Prop where
  lo : ∀ k, Blks a g s x0 k → Bs ≤ k
  size : Bs ≤ w0.heap.size
  errs : 13 ≤ Bs ∧ ∀ j, (j < 6 ∨ j = 8 ∨ j = 9) → (er j).block < Bs
  glob : Glob w0 er
  tabs : Lib.Utf8Tabs 10 11 w0
theorem tabs_below {Bs : Nat} {w w' : World} (h : Lib.Utf8Tabs 10 11 w) (hb : Below Bs w w') (h13 : 13 ≤ Bs) : Lib.Utf8Tabs 10 11 w' := by
  refine ⟨fun i hi => ?_, fun i hi => ?_⟩
  · have h1 := h.1 i hi
    exact (World.cell?_of_block (hb.block 10 (by omega))).trans h1
  · obtain ⟨h1, h2⟩ := h.2 i hi
    exact ⟨(World.cell?_of_block (hb.block 11 (by omega))).trans h1, (World.cell?_of_block (hb.block 11 (by omega))).trans h2⟩
section
variable {Bs a g s : Nat} {x0 : Fld} {w0 : World} {str : ByteArray} {P : List Nat} {w : World} {x : Fld} {r : Nat} {p rb : Bytes} {ix : List Nat} {np : Nat} {A : Option Addr} {c : Nat} {L : Bytes} {er : Nat → Addr}
theorem RS.glob (h : RS Bs a g s x0 w0 str P w x r p rb ix np A c L) (hs : Start Bs a g s x0 er w0) : Glob w er := hs.glob.below (h.below hs.lo hs.size) hs.errs.1 hs.errs.2
theorem RS.tabs (h : RS Bs a g s x0 w0 str P w x r p rb ix np A c L) (hs : Start Bs a g s x0 er w0) : Lib.Utf8Tabs 10 11 w := tabs_below hs.tabs (h.below hs.lo hs.size) hs.errs.1
end
end Go.Proofs.YtcdhbfhijkdfoaaDoor
