/- The scanner of the program told as plain functions, part 3: texts joined by a program (wip/tools/shake.py), without what this claim does not reach. -/
import Derived.Test.YtogkcphobhhbdaaDoorBk2
import Derived.WalkSmall
import Derived.Shelf.LaysM
import Derived.Shelf.Strconv.Itoa4
import Derived.Test.YtogkcphobhhbdaaDoorProg
set_option linter.unusedVariables false
set_option linter.unusedSimpArgs false
/- The scanner's functions over the plain state: strings and runes. -/
namespace Go.Proofs.YtogkcphobhhbdaaDoor
open Go Go.RowKit Go.Lib
namespace Sc
open Ev
set_option maxRecDepth 100000
theorem dec_ch (s : ByteArray) (i : Nat) : (Utf8.decode s i).1 ≤ 1114111 := by
  have hb : ∀ k, (s.get! (i + k)).toNat < 256 := fun k => (s.get! (i + k)).toNat_lt
  unfold Utf8.decode
  have h0 := hb 0; have h1 := hb 1; have h2 := hb 2; have h3 := hb 3
  simp only
  repeat' split
  all_goals first
    | (simp [Utf8.runeError]; done)
    | (simp only; omega)
    | (rename_i hv; simp only [Utf8.valid, Nat.add_zero, Bool.and_eq_true, decide_eq_true_eq, Bool.not_eq_true'] at hv ⊢; omega)
    | (rename_i hv; simp [Utf8.valid] at hv; simp only [Nat.add_zero]; omega)
theorem dec_big (s : ByteArray) (i : Nat) (h : ¬ (s.get! i).toNat < 128) : 128 ≤ (Utf8.decode s i).1 := by
  have h0 : ¬ (s.get! (i + 0)).toNat < 128 := h
  unfold Utf8.decode
  simp only [h0]
  repeat' split
  all_goals first
    | (simp [Utf8.runeError]; done)
    | contradiction
    | (rename_i hv; simp only [Utf8.valid, Nat.add_zero, Bool.and_eq_true, decide_eq_true_eq, Bool.not_eq_true'] at hv ⊢; omega)
    | (rename_i hv; simp [Utf8.valid] at hv; simp only [Nat.add_zero]; omega)
theorem readAt_ch (src : ByteArray) (line : Int) : ∀ (f : Nat) (fresh : Bool) (p : Nat) (col : Int) (ns : List Note), -1 ≤ (readAt src line f fresh p col ns).ch ∧ (readAt src line f fresh p col ns).ch ≤ 1114111
  | 0, _, _, _, _ => by simp [readAt]
  | f + 1, fresh, p, col, ns => by
    have := dec_ch src p
    have := (src.get! p).toNat_lt
    simp only [readAt]
    repeat' split
    all_goals first
      | exact readAt_ch src line f _ _ _ _
      | (constructor <;> simp only <;> omega)
theorem nextch_ch (src : ByteArray) (st : St) : -1 ≤ (nextch src st).ch ∧ (nextch src st).ch ≤ 1114111 := readAt_ch _ _ _ _ _ _ _
theorem readAt_pos (src : ByteArray) (line : Int) : ∀ (f : Nat) (fresh : Bool) (p : Nat) (col : Int) (ns : List Note), p ≤ src.size → p + (readAt src line f fresh p col ns).chw ≤ (readAt src line f fresh p col ns).p ∧ (readAt src line f fresh p col ns).p ≤ src.size ∧ ((readAt src line f fresh p col ns).ch ≠ -1 → 1 ≤ (readAt src line f fresh p col ns).chw) ∧ ((readAt src line f fresh p col ns).ch < 128 → (readAt src line f fresh p col ns).chw ≤ 1)
  | 0, _, p, col, _, h => ⟨by simp [readAt], by simp [readAt, h], by simp [readAt], by simp [readAt]⟩
  | f + 1, fresh, p, col, ns, h => by
    have step : ∀ (w : Nat) (b : Bool) (c : Int) (ns : List Note), p + w ≤ src.size → p + (readAt src line f b (p + w) c ns).chw ≤ (readAt src line f b (p + w) c ns).p ∧ (readAt src line f b (p + w) c ns).p ≤ src.size ∧ ((readAt src line f b (p + w) c ns).ch ≠ -1 → 1 ≤ (readAt src line f b (p + w) c ns).chw) ∧ ((readAt src line f b (p + w) c ns).ch < 128 → (readAt src line f b (p + w) c ns).chw ≤ 1) := fun w b c ns hw => by
      obtain ⟨h1, h2, h4, h5⟩ := readAt_pos src line f b (p + w) c ns hw
      exact ⟨by omega, h2, h4, h5⟩
    by_cases hp : p < src.size
    · have d1 := dec_pos src p
      have d2 := dec_le src p hp
      simp only [readAt, if_pos hp]
      split
      · split
        · exact step 1 false _ _ (by omega)
        · exact ⟨by simp, by simp only; omega, fun _ => by simp, fun _ => by simp⟩
      · rename_i hb
        have d3 := dec_big src p hb
        split
        · exact step 1 false _ _ (by omega)
        · split
          · exact step _ false _ _ d2
          · exact ⟨by simp, d2, fun _ => d1.1, fun h => absurd h (by simp only; omega)⟩
    · simp only [readAt, if_neg hp]
      exact ⟨by simp, h, by simp, by simp⟩
/-- A character of one byte is that byte. -/
theorem readAt_byte (src : ByteArray) (line : Int) : ∀ (f : Nat) (fresh : Bool) (p : Nat) (col : Int) (ns : List Note), 0 ≤ (readAt src line f fresh p col ns).ch → (readAt src line f fresh p col ns).ch < 128 → ((src.get! ((readAt src line f fresh p col ns).p - 1)).toNat : Int) = (readAt src line f fresh p col ns).ch
  | 0, _, p, col, _ => by simp [readAt]
  | f + 1, fresh, p, col, ns => by
    simp only [readAt]
    by_cases hp : p < src.size
    · simp only [if_pos hp]
      split
      · split
        · exact readAt_byte src line f _ _ _ _
        · intro _ _; rfl
      · rename_i hb
        have d3 := dec_big src p hb
        split
        · exact readAt_byte src line f _ _ _ _
        · split
          · exact readAt_byte src line f _ _ _ _
          · intro _ h; exfalso; simp only at h; omega
    · simp only [if_neg hp]
      intro h; exact absurd h (by simp)
/-- Where the reading stands is within the source. -/
structure Pos (src : ByteArray) (st : St) : Prop where
  w : st.chw ≤ st.p
  n : st.p ≤ src.size
  pos : st.ch ≠ -1 → 1 ≤ st.chw
  lo : -1 ≤ st.ch
  hi : st.ch ≤ 1114111
  asc : st.ch < 128 → st.chw ≤ 1
  byte : 0 ≤ st.ch → st.ch < 128 → ((src.get! (st.p - 1)).toNat : Int) = st.ch
theorem Pos.same {src : ByteArray} {st st' : St} (h : Pos src st) (e1 : st'.p = st.p) (e2 : st'.chw = st.chw) (e3 : st'.ch = st.ch) : Pos src st' :=
  ⟨by rw [e1, e2]; exact h.w, by rw [e1]; exact h.n, by rw [e2, e3]; exact h.pos, by rw [e3]; exact h.lo, by rw [e3]; exact h.hi, by rw [e2, e3]; exact h.asc, by rw [e1, e3]; exact h.byte⟩
theorem nextch_pos {src : ByteArray} {st : St} (h : st.p ≤ src.size) : Pos src (nextch src st) ∧ st.p ≤ (nextch src st).p - (nextch src st).chw := by
  have := readAt_pos src (nlLine st) (src.size + 1) st.fresh st.p (nlCol st) st.notes h
  have h2 := nextch_ch src st
  have e1 : (nextch src st).p = (readAt src (nlLine st) (src.size + 1) st.fresh st.p (nlCol st) st.notes).p := rfl
  have e2 : (nextch src st).chw = (readAt src (nlLine st) (src.size + 1) st.fresh st.p (nlCol st) st.notes).chw := rfl
  have e3 : (nextch src st).ch = (readAt src (nlLine st) (src.size + 1) st.fresh st.p (nlCol st) st.notes).ch := rfl
  rw [← e1, ← e2, ← e3] at this
  exact ⟨⟨by omega, this.2.1, this.2.2.1, h2.1, h2.2, this.2.2.2, readAt_byte _ _ _ _ _ _ _⟩, by omega⟩
/-- Where the place told lies: within what was read. -/
structure Kp (st : St) : Prop where
  l0 : 0 ≤ st.line0
  c0 : 0 ≤ st.col0
  c : st.col0 + st.chw ≤ st.p
  l : st.line0 + 2 * st.chw ≤ 2 * st.p
/-- No earlier place. -/
def Lx (a b : St) : Prop := a.line0 < b.line0 ∨ (a.line0 = b.line0 ∧ a.col0 ≤ b.col0)
theorem Lx.refl (a : St) : Lx a a := .inr ⟨rfl, Int.le_refl _⟩
theorem Lx.trans {a b c : St} (h : Lx a b) (h' : Lx b c) : Lx a c := by unfold Lx at *; omega
theorem readAt_kp (src : ByteArray) (line : Int) (hs : src.size ≤ 2048) : ∀ (f : Nat) (fresh : Bool) (p : Nat) (col : Int) (ns : List Note), p ≤ src.size → 0 ≤ col → col ≤ p → col ≤ (readAt src line f fresh p col ns).col ∧ (readAt src line f fresh p col ns).col + (readAt src line f fresh p col ns).chw ≤ (readAt src line f fresh p col ns).p
  | 0, _, p, col, _, h, h0, h1 => ⟨Int.le_refl _, by show col + ((0 : Nat) : Int) ≤ (p : Int); omega⟩
  | f + 1, fresh, p, col, ns, h, h0, h1 => by
    have step : ∀ (w : Nat) (b : Bool) (ns : List Note), p + w ≤ src.size → col ≤ (readAt src line f b (p + w) (u64 (col + w)) ns).col ∧ (readAt src line f b (p + w) (u64 (col + w)) ns).col + (readAt src line f b (p + w) (u64 (col + w)) ns).chw ≤ (readAt src line f b (p + w) (u64 (col + w)) ns).p := fun w b ns hw => by
      have e : u64 (col + w) = col + w := u64_small (by omega) (by omega)
      rw [e]
      obtain ⟨h1, h2⟩ := readAt_kp src line hs f b (p + w) (col + w) ns hw (by omega) (by omega)
      exact ⟨by omega, h2⟩
    by_cases hp : p < src.size
    · have d2 := dec_le src p hp
      simp only [readAt, if_pos hp]
      split
      · split
        · exact step 1 false _ (by omega)
        · exact ⟨Int.le_refl _, by show col + ((1 : Nat) : Int) ≤ ((p + 1 : Nat) : Int); omega⟩
      · split
        · exact step 1 false _ (by omega)
        · split
          · exact step _ false _ d2
          · exact ⟨Int.le_refl _, by show col + ((Utf8.decode src p).2 : Int) ≤ ((p + (Utf8.decode src p).2 : Nat) : Int); omega⟩
    · simp only [readAt, if_neg hp]
      exact ⟨Int.le_refl _, by show col + ((0 : Nat) : Int) ≤ (p : Int); omega⟩
theorem nextch_kp {src : ByteArray} {st : St} (hs : src.size ≤ 2048) (hn : st.p ≤ src.size) (h10 : st.ch = 10 → 1 ≤ st.chw) (hk : Kp st) : Kp (nextch src st) ∧ Lx st (nextch src st) := by
  have k1 := hk.l0; have k2 := hk.c0; have k3 := hk.c; have k4 := hk.l
  have el : (nextch src st).line0 = nlLine st := rfl
  have ec : (nextch src st).col0 = (readAt src (nlLine st) (src.size + 1) st.fresh st.p (nlCol st) st.notes).col := rfl
  have e1 : (nextch src st).p = (readAt src (nlLine st) (src.size + 1) st.fresh st.p (nlCol st) st.notes).p := rfl
  have e2 : (nextch src st).chw = (readAt src (nlLine st) (src.size + 1) st.fresh st.p (nlCol st) st.notes).chw := rfl
  have hp := (readAt_pos src (nlLine st) (src.size + 1) st.fresh st.p (nlCol st) st.notes hn).1
  rw [← e1, ← e2] at hp
  by_cases hc : st.ch = 10
  · have h1 := h10 hc
    have cl : nlLine st = st.line0 + 1 := by unfold nlLine; rw [if_pos hc]; exact u64_small (by omega) (by omega)
    have cc : nlCol st = 0 := by unfold nlCol; rw [if_pos hc]
    have hr := readAt_kp src (nlLine st) hs (src.size + 1) st.fresh st.p (nlCol st) st.notes hn (by rw [cc]; exact Int.le_refl _) (by rw [cc]; omega)
    rw [← ec, ← e1, ← e2] at hr
    rw [cc] at hr
    rw [cl] at el
    exact ⟨⟨by omega, by omega, hr.2, by omega⟩, .inl (by omega)⟩
  · have cl : nlLine st = st.line0 := by unfold nlLine; rw [if_neg hc]
    have cc : nlCol st = st.col0 + st.chw := by unfold nlCol; rw [if_neg hc]; exact u64_small (by omega) (by omega)
    have hr := readAt_kp src (nlLine st) hs (src.size + 1) st.fresh st.p (nlCol st) st.notes hn (by rw [cc]; omega) (by rw [cc]; omega)
    rw [← ec, ← e1, ← e2] at hr
    rw [cc] at hr
    rw [cl] at el
    exact ⟨⟨by omega, by omega, hr.2, by omega⟩, .inr ⟨el.symm, by omega⟩⟩
/-- Places are kept, or go on. -/
def Fk (src : ByteArray) (st st' : St) : Prop := Pos src st → src.size ≤ 2048 → Kp st → Kp st' ∧ Lx st st'
theorem Kp.same {a b : St} (h : Kp a) (e1 : b.line0 = a.line0) (e2 : b.col0 = a.col0) (e3 : b.p = a.p) (e4 : b.chw = a.chw) : Kp b := ⟨by rw [e1]; exact h.l0, by rw [e2]; exact h.c0, by rw [e2, e3, e4]; exact h.c, by rw [e1, e3, e4]; exact h.l⟩
theorem fk_same {src : ByteArray} {a b : St} (e1 : b.line0 = a.line0) (e2 : b.col0 = a.col0) (e3 : b.p = a.p) (e4 : b.chw = a.chw) : Fk src a b := fun _ _ h => ⟨h.same e1 e2 e3 e4, .inr ⟨e1.symm, by rw [e2]; exact Int.le_refl _⟩⟩
/-- Reading has gone on; something may have been told. -/
structure On (src : ByteArray) (st st' : St) : Prop where
  keep : st' = { st with fresh := st'.fresh, p := st'.p, chw := st'.chw, line0 := st'.line0, col0 := st'.col0, ch := st'.ch, notes := st'.notes }
  notes : ∃ l, st'.notes = st.notes ++ l
  left : left src st' ≤ left src st
  pos : Pos src st → Pos src st' ∧ st.p - st.chw ≤ st'.p - st'.chw
  kp : Fk src st st'
theorem On.refl (src : ByteArray) (st : St) : On src st st := ⟨rfl, ⟨[], by simp⟩, Nat.le_refl _, fun h => ⟨h, Nat.le_refl _⟩, fk_same rfl rfl rfl rfl⟩
theorem On.trans {src : ByteArray} {a b c : St} (h : On src a b) (h' : On src b c) : On src a c := by
  obtain ⟨l, hl⟩ := h.notes
  obtain ⟨l', hl'⟩ := h'.notes
  refine ⟨?_, ⟨l ++ l', by rw [hl', hl, List.append_assoc]⟩, Nat.le_trans h'.left h.left, fun hp => ⟨(h'.pos (h.pos hp).1).1, Nat.le_trans (h.pos hp).2 (h'.pos (h.pos hp).1).2⟩, fun hp hs hk => ⟨(h'.kp (h.pos hp).1 hs (h.kp hp hs hk).1).1, (h.kp hp hs hk).2.trans (h'.kp (h.pos hp).1 hs (h.kp hp hs hk).1).2⟩⟩
  have h1 := h.keep
  have h2 := h'.keep
  rw [h2, h1]
theorem on_next (src : ByteArray) (st : St) : On src st (nextch src st) := ⟨rfl, nextch_notes src st, nextch_le src st, fun h => ⟨(nextch_pos h.n).1, by have := (nextch_pos (src := src) (st := st) h.n).2; omega⟩, fun h hs hk => nextch_kp hs h.n (fun e => h.pos (by rw [e]; decide)) hk⟩
theorem on_errAt (src : ByteArray) (l c : Int) (m : ByteArray) (st : St) : On src st (errAt l c m st) := ⟨rfl, ⟨[_], rfl⟩, Nat.le_refl _, fun h => ⟨h.same rfl rfl rfl, Nat.le_refl _⟩, fk_same rfl rfl rfl rfl⟩
theorem on_error (src : ByteArray) (m : ByteArray) (st : St) : On src st (error m st) := on_errAt src _ _ m st
theorem on_errorAt (src : ByteArray) (o : Int) (m : ByteArray) (st : St) : On src st (errorAtF o m st) := on_errAt src _ _ m st
theorem On.b {src : ByteArray} {a b : St} (h : On src a b) : b.b = a.b := by rw [h.keep]
theorem On.len {src : ByteArray} {a b : St} (h : On src a b) : a.notes.length ≤ b.notes.length := by
  obtain ⟨l, hl⟩ := h.notes
  rw [hl, List.length_append]; omega
theorem on_skip (src : ByteArray) (c : Int → Bool) (st : St) : On src st (skip src c st) := skip_ind src c (P := fun s => On src st s) (fun s h _ => h.trans (on_next src s)) st (On.refl src st)
theorem escLF_on (src : ByteArray) (b : Int) (p : St × Int × Int) (hI : escI b p) : On src p.1 (escLF src b p).1 := by
  unfold escLF
  refine runF_sat (body := escB src b) (μ := escM) (fun a => escI b a ∧ On src p.1 a.1) (P := fun (q : St × Int × Option Bool) => On src p.1 q.1) (fun a ha => ?_) p ⟨hI, On.refl _ _⟩
  have on := escB_on src b a ha.1
  refine ⟨fun h1 => ⟨fun _ => ha.2, fun h2 => ⟨fun h3 => ⟨(((on.1 h1).2 h2).1 h3).1, ha.2.trans (on_error _ _ _)⟩, fun h3 => ?_⟩⟩, fun _ => ha.2⟩
  have := ((on.1 h1).2 h2).2 h3
  exact ⟨⟨this.1, ha.2.trans (on_next _ _)⟩, this.2⟩
theorem escTail_on (src : ByteArray) (b m : Int) (st : St) (r : St × Int × Option Bool) (h : On src st r.1) : On src st (escTail b m r).2 := by
  unfold escTail
  split
  · exact h
  · split
    · exact h.trans (on_error _ _ _)
    · split
      · exact h.trans (on_error _ _ _)
      · exact h
theorem escapeF_on (src : ByteArray) (q : Int) (st : St) : On src st (escapeF src q st).2 := by
  unfold escapeF
  split
  · exact on_next _ _
  · split
    · exact escTail_on src _ _ _ _ (escLF_on src 8 (st, 0, 3) ⟨.inl rfl, by show (3 : Int) ≤ 8; decide⟩)
    · split
      · exact escTail_on src _ _ _ _ ((on_next src st).trans (escLF_on src 16 (nextch src st, 0, 2) ⟨.inr rfl, by show (2 : Int) ≤ 8; decide⟩))
      · split
        · exact escTail_on src _ _ _ _ ((on_next src st).trans (escLF_on src 16 (nextch src st, 0, 4) ⟨.inr rfl, by show (4 : Int) ≤ 8; decide⟩))
        · split
          · exact escTail_on src _ _ _ _ ((on_next src st).trans (escLF_on src 16 (nextch src st, 0, 8) ⟨.inr rfl, by show (8 : Int) ≤ 8; decide⟩))
          · split
            · exact On.refl _ _
            · exact on_error _ _ _
/-! Raw strings and strings: a loop over the state and whether all is well. -/
def msgStr : ByteArray := ByteArray.mk #[115, 116, 114, 105, 110, 103, 32, 110, 111, 116, 32, 116, 101, 114, 109, 105, 110, 97, 116, 101, 100]
def msgStrLine : ByteArray := ByteArray.mk #[110, 101, 119, 108, 105, 110, 101, 32, 105, 110, 32, 115, 116, 114, 105, 110, 103]
def rawB (src : ByteArray) (p : St × Bool) : Tree (Step (St × Bool) (St × Bool)) :=
  (.test (p.1.ch == 96)
    (.leaf (Step.out (nextch src p.1, p.2)))
    (.test (decide (p.1.ch < 0))
      (.leaf (Step.out (errorAtF 0 msgStr p.1, false)))
      (.leaf (Step.go (nextch src p.1, p.2)))))
def strB (src : ByteArray) (p : St × Bool) : Tree (Step (St × Bool) (St × Bool)) :=
  (.test (p.1.ch == 34)
    (.leaf (Step.out (nextch src p.1, p.2)))
    (.test (p.1.ch == 92)
      (.test (!(escapeF src 34 (nextch src p.1)).fst)
        (.leaf (Step.go ((escapeF src 34 (nextch src p.1)).snd, false)))
        (.leaf (Step.go ((escapeF src 34 (nextch src p.1)).snd, p.2))))
      (.test (p.1.ch == 10)
        (.leaf (Step.out (error msgStrLine p.1, false)))
        (.test (decide (p.1.ch < 0))
          (.leaf (Step.out (errorAtF 0 msgStr p.1, false)))
          (.leaf (Step.go (nextch src p.1, p.2)))))))
noncomputable def okIn (A : Ad) (bx : List Value) (p : St × Bool) : E (SY A) := atB A 2 (p.1, bx, p.2)
noncomputable def okX (A : Ad) (bx : List Value) (p : St × Bool) : Ex × E (SY A) := (.exit 0, okIn A bx p)
noncomputable abbrev rawLoop : Code := loopOf (blkOf (bodyOf Tryd.f78) 0)
noncomputable abbrev strLoop : Code := loopOf (blkOf (bodyOf Tryd.f77) 0)
theorem raw_ev (A : Ad) (bx : List Value) (p : St × Bool) : (evCode (cfF A Tryd.f78.ntmps) rawLoop (okIn A bx p)).bind (fun xe => .leaf (xe.1, pare [0, 2] xe.2)) =
  (rawB A.src p).bind fun s => .leaf (stepX (okIn A bx) (okX A bx) s) := by kernel_rfl
theorem str_ev (A : Ad) (bx : List Value) (p : St × Bool) : (evCode (cfF A Tryd.f77.ntmps) strLoop (okIn A bx p)).bind (fun xe => .leaf (xe.1, pare [0, 2] xe.2)) =
  (strB A.src p).bind fun s => .leaf (stepX (okIn A bx) (okX A bx) s) := by kernel_rfl
def okM (src : ByteArray) (p : St × Bool) : Nat := left src p.1
theorem rawB_noAny (src : ByteArray) (p : St × Bool) : (rawB src p).noAny := ⟨trivial, trivial, trivial⟩
theorem strB_noAny (src : ByteArray) (p : St × Bool) : (strB src p).noAny := ⟨trivial, ⟨trivial, trivial⟩, trivial, trivial, trivial⟩
theorem ne_neg {x : Int} (h : decide (x < 0) = false) : ¬ x = -1 := fun e => by rw [e] at h; cases h
theorem rawB_on (src : ByteArray) (p : St × Bool) : (rawB src p).sat fun s => match s with
    | .go a' => On src p.1 a'.1 ∧ okM src a' < okM src p
    | .out q => On src p.1 q.1 := by
  refine ⟨fun _ => on_next _ _, fun _ => ⟨fun _ => on_errorAt _ _ _ _, fun h => ⟨on_next _ _, nextch_left src p.1 (ne_neg h)⟩⟩⟩
theorem eq_ne {x k : Int} (hk : k ≠ -1) (h : (x == k) = true) : ¬ x = -1 := fun e => by rw [e] at h; exact hk (by simpa using (eq_of_beq h).symm)
theorem strB_on (src : ByteArray) (p : St × Bool) : (strB src p).sat fun s => match s with
    | .go a' => On src p.1 a'.1 ∧ okM src a' < okM src p
    | .out q => On src p.1 q.1 := by
  have esc : (p.1.ch == 92) = true → On src p.1 (escapeF src 34 (nextch src p.1)).2 ∧ left src (escapeF src 34 (nextch src p.1)).2 < left src p.1 := fun h => by
    have h1 := nextch_left src p.1 (eq_ne (by decide) h)
    have h2 := escapeF_on src 34 (nextch src p.1)
    exact ⟨(on_next _ _).trans h2, Nat.lt_of_le_of_lt h2.left h1⟩
  refine ⟨fun _ => on_next _ _, fun _ => ⟨fun h => ⟨fun _ => esc h, fun _ => esc h⟩, fun _ => ⟨fun _ => on_error _ _ _, fun _ => ⟨fun _ => on_errorAt _ _ _ _, fun h => ⟨on_next _ _, nextch_left src p.1 (ne_neg h)⟩⟩⟩⟩⟩
def rawLF (src : ByteArray) (p : St × Bool) : St × Bool := runF (rawB src) (okM src) (st0, false) p
def strLF (src : ByteArray) (p : St × Bool) : St × Bool := runF (strB src) (okM src) (st0, false) p
/-- A loop over the state and whether all is well, told. -/
theorem ok_loop {A : Ad} (hA : A.Ok) {N : Nat} {b : Code} {body : St × Bool → Tree (Step (St × Bool) (St × Bool))}
    (hev : ∀ bx p, (evCode (cfF A N) b (okIn A bx p)).bind (fun xe => .leaf (xe.1, pare [0, 2] xe.2)) = (body p).bind fun s => .leaf (stepX (okIn A bx) (okX A bx) s))
    (hn : ∀ p, (body p).noAny) (hon : ∀ p, (body p).sat fun s => match s with
      | .go a' => On A.src p.1 a'.1 ∧ okM A.src a' < okM A.src p
      | .out q => On A.src p.1 q.1) :
    BlkOk (SY A) N 0 (.loop b) (blkG (inB A 2) (fun p => .leaf (.normal, okIn A p.2.1 (runF body (okM A.src) (st0, false) (p.1, p.2.2))))) := by
  have h1 := At.run0 (Y := SY A) (id := 0) (F := fun bx p => okIn A bx p) (G := okX A) (body := body) (okM A.src) (st0, false) (b := b) (N := N)
    (fun bx => At.same (SLaws A hA) (cfgL_ok A hA (fSums_ok A hA) N [] 0) (fun _ => [0, 2]) (fun p => hev bx p)) (fun bx q => by simp [okX]) hn (fun p => sat_mono (hon p) (fun s h => by cases s with
      | go a' => exact h.2
      | out q => trivial))
  refine blkG_ok (F := fun p : St × List Value × Bool => okIn A p.2.1 (p.1, p.2.2)) ?_ (inB_ok 2 (by decide))
  exact ⟨fun p => h1.wp ((p.1, p.2.2), p.2.1), fun p => h1.mono ((p.1, p.2.2), p.2.1)⟩
theorem ok_on {src : ByteArray} {body : St × Bool → Tree (Step (St × Bool) (St × Bool))} (hon : ∀ p, (body p).sat fun s => match s with
      | .go a' => On src p.1 a'.1 ∧ okM src a' < okM src p
      | .out q => On src p.1 q.1) (p : St × Bool) : On src p.1 (runF body (okM src) (st0, false) p).1 := by
  refine runF_sat (body := body) (μ := okM src) (fun a => On src p.1 a.1) (P := fun (q : St × Bool) => On src p.1 q.1) (fun a ha => ?_) p (On.refl _ _)
  refine sat_mono (hon a) (fun s h => ?_)
  cases s with
  | go a' => exact ⟨ha.trans h.1, h.2⟩
  | out q => exact ha.trans h
end Sc
end Go.Proofs.YtogkcphobhhbdaaDoor

/- The scanner's functions over the plain state: strings, runes, characters of names. -/
namespace Go.Proofs.YtogkcphobhhbdaaDoor
open Go Go.RowKit Go.Lib
namespace Sc
open Ev
set_option maxRecDepth 100000
def rawStringF (src : ByteArray) (st : St) : St := setLitF src 4 (rawLF src (nextch src st, true)).2 (rawLF src (nextch src st, true)).1
def stdStringF (src : ByteArray) (st : St) : St := setLitF src 4 (strLF src (nextch src st, true)).2 (strLF src (nextch src st, true)).1
noncomputable abbrev rawBlk (A : Ad) : E (SY A) → Tree (Ex × E (SY A)) := blkG (inB A 2) (fun p => .leaf (.normal, okIn A p.2.1 (runF (rawB A.src) (okM A.src) (st0, false) (p.1, p.2.2))))
noncomputable abbrev strBlk (A : Ad) : E (SY A) → Tree (Ex × E (SY A)) := blkG (inB A 2) (fun p => .leaf (.normal, okIn A p.2.1 (runF (strB A.src) (okM A.src) (st0, false) (p.1, p.2.2))))
theorem rawString_ev (A : Ad) (st : St) (bx : List Value) : evFn (cfgL A (fSums A) Tryd.f78.ntmps [(0, rawBlk A)] 0) Tryd.f78 [.st 0] ⟨st, bx⟩ =
  (.req (BlkOk (SY A) Tryd.f78.ntmps 0 (.loop rawLoop) (rawBlk A))
    (.req ((rawLF A.src (nextch A.src st, true)).fst.b.isSome = true) (.leaf (unit, ⟨rawStringF A.src st, bx⟩)))) := by kernel_rfl
theorem stdString_ev (A : Ad) (st : St) (bx : List Value) : evFn (cfgL A (fSums A) Tryd.f77.ntmps [(0, strBlk A)] 0) Tryd.f77 [.st 0] ⟨st, bx⟩ =
  (.req (BlkOk (SY A) Tryd.f77.ntmps 0 (.loop strLoop) (strBlk A))
    (.req ((strLF A.src (nextch A.src st, true)).fst.b.isSome = true) (.leaf (unit, ⟨stdStringF A.src st, bx⟩)))) := by kernel_rfl
theorem raw_on (src : ByteArray) (st : St) : On src st (rawLF src (nextch src st, true)).1 := (on_next _ _).trans (ok_on (rawB_on src) (nextch src st, true))
theorem str_on (src : ByteArray) (st : St) : On src st (strLF src (nextch src st, true)).1 := (on_next _ _).trans (ok_on (strB_on src) (nextch src st, true))
noncomputable def rawS (A : Ad) : Smy (SY A) := ⟨78, #[], true, onSt A (fun st => st.b.isSome = true) (rawStringF A.src)⟩
theorem rawS_ok (A : Ad) (hA : A.Ok) : (rawS A).Ok := by
  refine ev_okV hA Tryd.func78 (fun args w => by kernel_rfl) (C := cfgL A (fSums A) Tryd.f78.ntmps [(0, rawBlk A)] 0) (cfgL_ok A hA (fSums_ok A hA) Tryd.f78.ntmps [(0, rawBlk A)] 0) (fun args c Q h => ?_)
  unfold onSt at h
  split at h
  · obtain ⟨st, bx⟩ := c
    exact sat_of_eq (rawString_ev A st bx) ⟨ok_loop hA (raw_ev A) (rawB_noAny A.src) (rawB_on A.src), by rw [(raw_on A.src st).b]; exact h.1, .inl h.2⟩
  · exact h.elim
noncomputable def strS (A : Ad) : Smy (SY A) := ⟨77, #[], true, onSt A (fun st => st.b.isSome = true) (stdStringF A.src)⟩
theorem strS_ok (A : Ad) (hA : A.Ok) : (strS A).Ok := by
  refine ev_okV hA Tryd.func77 (fun args w => by kernel_rfl) (C := cfgL A (fSums A) Tryd.f77.ntmps [(0, strBlk A)] 0) (cfgL_ok A hA (fSums_ok A hA) Tryd.f77.ntmps [(0, strBlk A)] 0) (fun args c Q h => ?_)
  unfold onSt at h
  split at h
  · obtain ⟨st, bx⟩ := c
    exact sat_of_eq (stdString_ev A st bx) ⟨ok_loop hA (str_ev A) (strB_noAny A.src) (strB_on A.src), by rw [(str_on A.src st).b]; exact h.1, .inl h.2⟩
  · exact h.elim
/-! Runes -/
def msgRune0 : ByteArray := ByteArray.mk #[101, 109, 112, 116, 121, 32, 114, 117, 110, 101, 32, 108, 105, 116, 101, 114, 97, 108, 32, 111, 114, 32, 117, 110, 101, 115, 99, 97, 112, 101, 100, 32, 39]
def msgRune2 : ByteArray := ByteArray.mk #[109, 111, 114, 101, 32, 116, 104, 97, 110, 32, 111, 110, 101, 32, 99, 104, 97, 114, 97, 99, 116, 101, 114, 32, 105, 110, 32, 114, 117, 110, 101, 32, 108, 105, 116, 101, 114, 97, 108]
def msgRuneLine : ByteArray := ByteArray.mk #[110, 101, 119, 108, 105, 110, 101, 32, 105, 110, 32, 114, 117, 110, 101, 32, 108, 105, 116, 101, 114, 97, 108]
def msgRuneEnd : ByteArray := ByteArray.mk #[114, 117, 110, 101, 32, 108, 105, 116, 101, 114, 97, 108, 32, 110, 111, 116, 32, 116, 101, 114, 109, 105, 110, 97, 116, 101, 100]
def runeB (src : ByteArray) (p : St × Bool × Int) : Tree (Step (St × Bool × Int) (St × Bool)) :=
  (.test (p.1.ch == 39)
    (.test (p.2.1)
      (.test (p.2.2 == 0)
        (.leaf (Step.out (nextch src (error msgRune0 p.1), false)))
        (.test (p.2.2 != 1)
          (.leaf (Step.out (nextch src (errorAtF 0 msgRune2 p.1), false)))
          (.leaf (Step.out (nextch src p.1, p.2.1)))))
      (.leaf (Step.out (nextch src p.1, p.2.1))))
    (.test (p.1.ch == 92)
      (.test (!(escapeF src 39 (nextch src p.1)).fst)
        (.leaf (Step.go ((escapeF src 39 (nextch src p.1)).snd, false, IntKind.i64.wrap (p.2.2 + 1))))
        (.leaf (Step.go ((escapeF src 39 (nextch src p.1)).snd, p.2.1, IntKind.i64.wrap (p.2.2 + 1)))))
      (.test (p.1.ch == 10)
        (.test (p.2.1)
          (.leaf (Step.out (error msgRuneLine p.1, false)))
          (.leaf (Step.out (p.1, p.2.1))))
        (.test (decide (p.1.ch < 0))
          (.test (p.2.1)
            (.leaf (Step.out (errorAtF 0 msgRuneEnd p.1, false)))
            (.leaf (Step.out (p.1, p.2.1))))
          (.leaf (Step.go (nextch src p.1, p.2.1, IntKind.i64.wrap (p.2.2 + 1))))))))
noncomputable def runeIn (A : Ad) (bx : List Value) (p : St × Bool × Int) : E (SY A) := ⟨⟨p.1, bx⟩, [(0, .st 0), (2, .val (.bool p.2.1)), (3, .val (.int .i64 p.2.2))]⟩
noncomputable abbrev runeLoop : Code := loopOf (blkOf (bodyOf Tryd.f79) 0)
def keepR : Ex → List Nat
  | .normal => [0, 2, 3]
  | _ => [0, 2]
theorem rune_ev (A : Ad) (bx : List Value) (p : St × Bool × Int) : (evCode (cfF A Tryd.f79.ntmps) runeLoop (runeIn A bx p)).bind (fun xe => .leaf (xe.1, pare (keepR xe.1) xe.2)) =
  (runeB A.src p).bind fun s => .leaf (stepX (runeIn A bx) (okX A bx) s) := by kernel_rfl
def runeM (src : ByteArray) (p : St × Bool × Int) : Nat := left src p.1
theorem runeB_noAny (src : ByteArray) (p : St × Bool × Int) : (runeB src p).noAny := ⟨⟨⟨trivial, trivial, trivial⟩, trivial⟩, ⟨trivial, trivial⟩, ⟨trivial, trivial⟩, ⟨trivial, trivial⟩, trivial⟩
theorem runeB_on (src : ByteArray) (p : St × Bool × Int) : (runeB src p).sat fun s => match s with
    | .go a' => On src p.1 a'.1 ∧ runeM src a' < runeM src p
    | .out q => On src p.1 q.1 := by
  have esc : (p.1.ch == 92) = true → On src p.1 (escapeF src 39 (nextch src p.1)).2 ∧ left src (escapeF src 39 (nextch src p.1)).2 < left src p.1 := fun h => by
    have h1 := nextch_left src p.1 (eq_ne (by decide) h)
    have h2 := escapeF_on src 39 (nextch src p.1)
    exact ⟨(on_next _ _).trans h2, Nat.lt_of_le_of_lt h2.left h1⟩
  refine ⟨fun _ => ⟨fun _ => ⟨fun _ => (on_error _ _ _).trans (on_next _ _), fun _ => ⟨fun _ => (on_errorAt _ _ _ _).trans (on_next _ _), fun _ => on_next _ _⟩⟩, fun _ => on_next _ _⟩,
    fun _ => ⟨fun h => ⟨fun _ => esc h, fun _ => esc h⟩, fun _ => ⟨fun _ => ⟨fun _ => on_error _ _ _, fun _ => On.refl _ _⟩, fun _ => ⟨fun _ => ⟨fun _ => on_errorAt _ _ _ _, fun _ => On.refl _ _⟩, fun h => ⟨on_next _ _, nextch_left src p.1 (ne_neg h)⟩⟩⟩⟩⟩
def runeLF (src : ByteArray) (p : St × Bool × Int) : St × Bool := runF (runeB src) (runeM src) (st0, false) p
noncomputable def inR (A : Ad) (e : E (SY A)) : Option ((St × Bool × Int) × List Value) := match Ev.look e.tm 0, Ev.look e.tm 2, Ev.look e.tm 3 with
  | .st 0, .tt, .val (.int .i64 n) => some ((e.c.st, true, n), e.c.bx)
  | _, _, _ => none
theorem inR_ok {A : Ad} (e : E (SY A)) (p : (St × Bool × Int) × List Value) (h : inR A e = some p) : Lax e (runeIn A p.2 p.1) := by
  unfold inR at h
  split at h
  · rename_i h0 h2 h3
    simp only [Option.some.injEq] at h
    subst h
    exact lax_of rfl ⟨.inl h0, .inr ⟨_, by rw [h2]; rfl, rfl⟩, .inl h3, trivial⟩
  · cases h
noncomputable abbrev runeBlk (A : Ad) : E (SY A) → Tree (Ex × E (SY A)) := blkG (inR A) (fun p => .leaf (.normal, okIn A p.2 (runeLF A.src p.1)))
theorem rune_blk (A : Ad) (hA : A.Ok) : BlkOk (SY A) Tryd.f79.ntmps 0 (.loop runeLoop) (runeBlk A) := by
  have h1 := At.run0 (Y := SY A) (id := 0) (F := fun bx p => runeIn A bx p) (G := okX A) (body := runeB A.src) (runeM A.src) (st0, false) (b := runeLoop) (N := Tryd.f79.ntmps)
    (fun bx => At.same (SLaws A hA) (cfgL_ok A hA (fSums_ok A hA) Tryd.f79.ntmps [] 0) keepR (fun p => rune_ev A bx p)) (fun bx q => by simp [okX]) (runeB_noAny A.src) (fun p => sat_mono (runeB_on A.src p) (fun s h => by cases s with
      | go a' => exact h.2
      | out q => trivial))
  exact blkG_ok h1 inR_ok
theorem rune_on (src : ByteArray) (p : St × Bool × Int) : On src p.1 (runeLF src p).1 := by
  unfold runeLF
  refine runF_sat (body := runeB src) (μ := runeM src) (fun a => On src p.1 a.1) (P := fun (q : St × Bool) => On src p.1 q.1) (fun a ha => ?_) p (On.refl _ _)
  refine sat_mono (runeB_on src a) (fun s h => ?_)
  cases s with
  | go a' => exact ⟨ha.trans h.1, h.2⟩
  | out q => exact ha.trans h
def runeF (src : ByteArray) (st : St) : St := setLitF src 3 (runeLF src (nextch src st, true, 0)).2 (runeLF src (nextch src st, true, 0)).1
theorem runeFn_ev (A : Ad) (st : St) (bx : List Value) : evFn (cfgL A (fSums A) Tryd.f79.ntmps [(0, runeBlk A)] 0) Tryd.f79 [.st 0] ⟨st, bx⟩ =
  (.req (BlkOk (SY A) Tryd.f79.ntmps 0 (.loop runeLoop) (runeBlk A))
    (.req ((runeLF A.src (nextch A.src st, true, 0)).fst.b.isSome = true) (.leaf (unit, ⟨runeF A.src st, bx⟩)))) := by kernel_rfl
noncomputable def runS (A : Ad) : Smy (SY A) := ⟨79, #[], true, onSt A (fun st => st.b.isSome = true) (runeF A.src)⟩
theorem runS_ok (A : Ad) (hA : A.Ok) : (runS A).Ok := by
  refine ev_okV hA Tryd.func79 (fun args w => by kernel_rfl) (C := cfgL A (fSums A) Tryd.f79.ntmps [(0, runeBlk A)] 0) (cfgL_ok A hA (fSums_ok A hA) Tryd.f79.ntmps [(0, runeBlk A)] 0) (fun args c Q h => ?_)
  unfold onSt at h
  split at h
  · obtain ⟨st, bx⟩ := c
    exact sat_of_eq (runeFn_ev A st bx) ⟨rune_blk A hA, by rw [((on_next A.src st).trans (rune_on A.src (nextch A.src st, true, 0))).b]; exact h.1, .inl h.2⟩
  · exact h.elim
end Sc
end Go.Proofs.YtogkcphobhhbdaaDoor

/- The scanner's functions over the plain state: digits. -/
namespace Go.Proofs.YtogkcphobhhbdaaDoor
open Go Go.RowKit Go.Lib
namespace Sc
open Ev
set_option maxRecDepth 100000
def orI (a b : Int) : Int := IntKind.i64.wrap ↑(BitVec.ofInt IntKind.i64.bits a ||| BitVec.ofInt IntKind.i64.bits b).toNat
/-- How far a token goes already. -/
def colIn (st : St) : Int := IntKind.i64.wrap (IntKind.u64.wrap (u64 (1 + st.col0) - st.col))
def digA1 (src : ByteArray) (mx : Int) (p : St × Int × Int) : Tree (Step (St × Int × Int) (St × Int × Int)) :=
  (.test (p.1.ch == 95)
    (.leaf (Step.go (nextch src p.1, orI p.2.1 2, p.2.2)))
    (.test (decide (p.1.ch ≥ mx))
      (.test (decide (p.2.2 < 0))
        (.leaf (Step.go (nextch src p.1, orI p.2.1 1, colIn p.1)))
        (.leaf (Step.go (nextch src p.1, orI p.2.1 1, p.2.2))))
      (.leaf (Step.go (nextch src p.1, orI p.2.1 1, p.2.2)))))
def digA (src : ByteArray) (mx : Int) (p : St × Int × Int) : Tree (Step (St × Int × Int) (St × Int × Int)) :=
  (.test (isDecimalF p.1.ch) (digA1 src mx p) (.test (p.1.ch == 95) (digA1 src mx p) (.leaf (Step.out p))))
noncomputable def digAIn (A : Ad) (mx : Int) (p : St × Int × Int) : E (SY A) := ⟨⟨p.1, [.int .i64 p.2.2]⟩, [(0, .st 0), (2, .box 0), (6, .val (.int .i64 p.2.1)), (7, .val (.int .i32 mx))]⟩
noncomputable def digAO (A : Ad) (p : St × Int × Int) : E (SY A) := ⟨⟨p.1, [.int .i64 p.2.2]⟩, [(0, .st 0), (6, .val (.int .i64 p.2.1))]⟩
noncomputable abbrev digLoop0 : Code := loopOf (blkOf (bodyOf Tryd.f102) 0)
noncomputable abbrev digLoop2 : Code := loopOf (blkOf (bodyOf Tryd.f102) 2)
def keepD : Ex → List Nat
  | .normal => [0, 2, 6, 7]
  | _ => [0, 6]
theorem digA_ev (A : Ad) (mx : Int) (p : St × Int × Int) : (evCode (cfF A Tryd.f102.ntmps) digLoop0 (digAIn A mx p)).bind (fun xe => .leaf (xe.1, pare (keepD xe.1) xe.2)) =
  (digA A.src mx p).bind fun s => .leaf (stepX (digAIn A mx) (fun q => (.exit 0, digAO A q)) s) := by kernel_rfl
def digN1 (src : ByteArray) (mx : Int) (p : St × Int) : Tree (Step (St × Int) (St × Int)) :=
  (.test (p.1.ch == 95)
    (.leaf (Step.go (nextch src p.1, orI p.2 2)))
    (.test (decide (p.1.ch ≥ mx)) .fail (.leaf (Step.go (nextch src p.1, orI p.2 1)))))
def digN (src : ByteArray) (mx : Int) (p : St × Int) : Tree (Step (St × Int) (St × Int)) :=
  (.test (isDecimalF p.1.ch) (digN1 src mx p) (.test (p.1.ch == 95) (digN1 src mx p) (.leaf (Step.out p))))
noncomputable def digNIn (A : Ad) (mx : Int) (bx : List Value) (p : St × Int) : E (SY A) := ⟨⟨p.1, bx⟩, [(0, .st 0), (2, .val (.pointer none)), (6, .val (.int .i64 p.2)), (7, .val (.int .i32 mx))]⟩
noncomputable def digO (A : Ad) (bx : List Value) (p : St × Int) : E (SY A) := ⟨⟨p.1, bx⟩, [(0, .st 0), (6, .val (.int .i64 p.2))]⟩
theorem digN_ev (A : Ad) (mx : Int) (bx : List Value) (p : St × Int) : (evCode (cfF A Tryd.f102.ntmps) digLoop0 (digNIn A mx bx p)).bind (fun xe => .leaf (xe.1, pare (keepD xe.1) xe.2)) =
  (digN A.src mx p).bind fun s => .leaf (stepX (digNIn A mx bx) (fun q => (.exit 0, digO A bx q)) s) := by kernel_rfl
def digB (src : ByteArray) (p : St × Int) : Tree (Step (St × Int) (St × Int)) :=
  (.test (isHexF p.1.ch)
    (.test (p.1.ch == 95)
      (.leaf (Step.go (nextch src p.1, orI p.2 2)))
      (.leaf (Step.go (nextch src p.1, orI p.2 1))))
    (.test (p.1.ch == 95)
      (.test (p.1.ch == 95)
        (.leaf (Step.go (nextch src p.1, orI p.2 2)))
        (.leaf (Step.go (nextch src p.1, orI p.2 1))))
      (.leaf (Step.out p))))
theorem digB_ev (A : Ad) (bx : List Value) (p : St × Int) : (evCode (cfF A Tryd.f102.ntmps) digLoop2 (digO A bx p)).bind (fun xe => .leaf (xe.1, pare [0, 6] xe.2)) =
  (digB A.src p).bind fun s => .leaf (stepX (digO A bx) (fun q => (.exit 2, digO A bx q)) s) := by kernel_rfl
theorem isDec_ge {c : Int} (h : isDecimalF c = true) : 48 ≤ c ∧ c ≤ 57 := by
  have h1 := Bool.and_eq_true_iff.1 h
  exact ⟨of_decide_eq_true h1.1, of_decide_eq_true h1.2⟩
theorem isDec_ne {c : Int} (h : isDecimalF c = true) : ¬ c = -1 := by have := isDec_ge h; omega
theorem isHex_ne {c : Int} (h : isHexF c = true) : ¬ c = -1 := fun e => by rw [e] at h; revert h; decide
def digAM (src : ByteArray) (p : St × Int × Int) : Nat := left src p.1
def digNM (src : ByteArray) (p : St × Int) : Nat := left src p.1
theorem digA_noAny (src : ByteArray) (mx : Int) (p : St × Int × Int) : (digA src mx p).noAny := ⟨⟨trivial, ⟨trivial, trivial⟩, trivial⟩, ⟨trivial, ⟨trivial, trivial⟩, trivial⟩, trivial⟩
theorem digN_noAny (src : ByteArray) (mx : Int) (p : St × Int) : (digN src mx p).noAny := ⟨⟨trivial, trivial, trivial⟩, ⟨trivial, trivial, trivial⟩, trivial⟩
theorem digB_noAny (src : ByteArray) (p : St × Int) : (digB src p).noAny := ⟨⟨trivial, trivial⟩, ⟨trivial, trivial⟩, trivial⟩
theorem digA_on (src : ByteArray) (mx : Int) (p : St × Int × Int) : (digA src mx p).sat fun s => match s with
    | .go a' => On src p.1 a'.1 ∧ digAM src a' < digAM src p
    | .out q => On src p.1 q.1 := by
  have key : ¬ p.1.ch = -1 → (digA1 src mx p).sat fun s => match s with
    | .go a' => On src p.1 a'.1 ∧ digAM src a' < digAM src p
    | .out q => On src p.1 q.1 := fun h => by
    have h1 : On src p.1 (nextch src p.1) ∧ left src (nextch src p.1) < left src p.1 := ⟨on_next _ _, nextch_left src p.1 h⟩
    exact ⟨fun _ => h1, fun _ => ⟨fun _ => ⟨fun _ => h1, fun _ => h1⟩, fun _ => h1⟩⟩
  exact ⟨fun h => key (isDec_ne h), fun _ => ⟨fun h => key (eq_ne (by decide) h), fun _ => On.refl _ _⟩⟩
theorem digN_on (src : ByteArray) (p : St × Int) : (digN src 58 p).sat fun s => match s with
    | .go a' => On src p.1 a'.1 ∧ digNM src a' < digNM src p
    | .out q => On src p.1 q.1 := by
  have h1 : ¬ p.1.ch = -1 → On src p.1 (nextch src p.1) ∧ left src (nextch src p.1) < left src p.1 := fun h => ⟨on_next _ _, nextch_left src p.1 h⟩
  refine ⟨fun h => ⟨fun _ => h1 (isDec_ne h), fun _ => ⟨fun h2 => ?_, fun _ => h1 (isDec_ne h)⟩⟩, fun _ => ⟨fun h => ⟨fun _ => h1 (eq_ne (by decide) h), fun h2 => absurd h (by simp [h2])⟩, fun _ => On.refl _ _⟩⟩
  have h3 := isDec_ge h
  have h4 : p.1.ch ≥ 58 := of_decide_eq_true h2
  exfalso; omega
theorem digB_on (src : ByteArray) (p : St × Int) : (digB src p).sat fun s => match s with
    | .go a' => On src p.1 a'.1 ∧ digNM src a' < digNM src p
    | .out q => On src p.1 q.1 := by
  have h1 : ¬ p.1.ch = -1 → On src p.1 (nextch src p.1) ∧ left src (nextch src p.1) < left src p.1 := fun h => ⟨on_next _ _, nextch_left src p.1 h⟩
  exact ⟨fun h => ⟨fun _ => h1 (isHex_ne h), fun _ => h1 (isHex_ne h)⟩, fun _ => ⟨fun h => ⟨fun _ => h1 (eq_ne (by decide) h), fun _ => h1 (eq_ne (by decide) h)⟩, fun _ => On.refl _ _⟩⟩
def digAF (src : ByteArray) (mx : Int) (p : St × Int × Int) : St × Int × Int := runF (digA src mx) (digAM src) (st0, 0, 0) p
def digNF (src : ByteArray) (p : St × Int) : St × Int := runF (digN src 58) (digNM src) (st0, 0) p
def digBF (src : ByteArray) (p : St × Int) : St × Int := runF (digB src) (digNM src) (st0, 0) p
noncomputable def inDA (A : Ad) (e : E (SY A)) : Option ((St × Int × Int) × Int) := match Ev.look e.tm 0, Ev.look e.tm 2, Ev.look e.tm 6, Ev.look e.tm 7, e.c.bx with
  | .st 0, .box 0, .val (.int .i64 d), .val (.int .i32 m), [.int .i64 v] => some ((e.c.st, d, v), m)
  | _, _, _, _, _ => none
theorem inDA_ok {A : Ad} (e : E (SY A)) (p : (St × Int × Int) × Int) (h : inDA A e = some p) : Lax e (digAIn A p.2 p.1) := by
  unfold inDA at h
  split at h
  · rename_i h0 h2 h6 h7 hb
    simp only [Option.some.injEq] at h
    subst h
    exact lax_of (by show (⟨e.c.st, _⟩ : Core (SY A)) = e.c; rw [← hb]) ⟨.inl h0, .inl h2, .inl h6, .inl h7, trivial⟩
  · cases h
noncomputable def inDN (A : Ad) (e : E (SY A)) : Option ((St × Int) × List Value) := match Ev.look e.tm 0, Ev.look e.tm 2, Ev.look e.tm 6, Ev.look e.tm 7 with
  | .st 0, .val (.pointer none), .val (.int .i64 d), .val (.int .i32 58) => some ((e.c.st, d), e.c.bx)
  | _, _, _, _ => none
theorem inDN_ok {A : Ad} (e : E (SY A)) (p : (St × Int) × List Value) (h : inDN A e = some p) : Lax e (digNIn A 58 p.2 p.1) := by
  unfold inDN at h
  split at h
  · rename_i h0 h2 h6 h7
    simp only [Option.some.injEq] at h
    subst h
    exact lax_of rfl ⟨.inl h0, .inl h2, .inl h6, .inl h7, trivial⟩
  · cases h
noncomputable def inDB (A : Ad) (e : E (SY A)) : Option ((St × Int) × List Value) := match Ev.look e.tm 0, Ev.look e.tm 6 with
  | .st 0, .val (.int .i64 d) => some ((e.c.st, d), e.c.bx)
  | _, _ => none
theorem inDB_ok {A : Ad} (e : E (SY A)) (p : (St × Int) × List Value) (h : inDB A e = some p) : Lax e (digO A p.2 p.1) := by
  unfold inDB at h
  split at h
  · rename_i h0 h6
    simp only [Option.some.injEq] at h
    subst h
    exact lax_of rfl ⟨.inl h0, .inl h6, trivial⟩
  · cases h
theorem digA_blk (A : Ad) (hA : A.Ok) : BlkOk (SY A) Tryd.f102.ntmps 0 (.loop digLoop0) (blkG (inDA A) (fun p => .leaf (.normal, digAO A (digAF A.src p.2 p.1)))) := by
  refine blkG_ok ?_ inDA_ok
  refine At.par (F := fun m p => digAIn A m p) (g := fun m p => .leaf (.normal, digAO A (digAF A.src m p))) (fun m => ?_)
  have h1 := At.run0 (Y := SY A) (κ := PUnit) (id := 0) (F := fun _ p => digAIn A m p) (G := fun _ q => (.exit 0, digAO A q)) (body := digA A.src m) (digAM A.src) (st0, 0, 0) (b := digLoop0) (N := Tryd.f102.ntmps)
    (fun _ => At.same (SLaws A hA) (cfgL_ok A hA (fSums_ok A hA) Tryd.f102.ntmps [] 0) keepD (fun p => digA_ev A m p)) (fun _ q => by simp) (digA_noAny A.src m) (fun p => sat_mono (digA_on A.src m p) (fun s h => by cases s with
      | go a' => exact h.2
      | out q => trivial))
  exact ⟨fun p => h1.wp (p, ⟨⟩), fun p => h1.mono (p, ⟨⟩)⟩
theorem digN_blk (A : Ad) (hA : A.Ok) : BlkOk (SY A) Tryd.f102.ntmps 0 (.loop digLoop0) (blkG (inDN A) (fun p => .leaf (.normal, digO A p.2 (digNF A.src p.1)))) := by
  refine blkG_ok ?_ inDN_ok
  exact At.run0 (Y := SY A) (id := 0) (F := fun bx p => digNIn A 58 bx p) (G := fun bx q => (.exit 0, digO A bx q)) (body := digN A.src 58) (digNM A.src) (st0, 0) (b := digLoop0) (N := Tryd.f102.ntmps)
    (fun bx => At.same (SLaws A hA) (cfgL_ok A hA (fSums_ok A hA) Tryd.f102.ntmps [] 0) keepD (fun p => digN_ev A 58 bx p)) (fun _ q => by simp) (digN_noAny A.src 58) (fun p => sat_mono (digN_on A.src p) (fun s h => by cases s with
      | go a' => exact h.2
      | out q => trivial))
theorem digB_blk (A : Ad) (hA : A.Ok) : BlkOk (SY A) Tryd.f102.ntmps 2 (.loop digLoop2) (blkG (inDB A) (fun p => .leaf (.normal, digO A p.2 (digBF A.src p.1)))) := by
  refine blkG_ok ?_ inDB_ok
  exact At.run0 (Y := SY A) (id := 2) (F := fun bx p => digO A bx p) (G := fun bx q => (.exit 2, digO A bx q)) (body := digB A.src) (digNM A.src) (st0, 0) (b := digLoop2) (N := Tryd.f102.ntmps)
    (fun bx => At.same (SLaws A hA) (cfgL_ok A hA (fSums_ok A hA) Tryd.f102.ntmps [] 0) (fun _ => [0, 6]) (fun p => digB_ev A bx p)) (fun _ q => by simp) (digB_noAny A.src) (fun p => sat_mono (digB_on A.src p) (fun s h => by cases s with
      | go a' => exact h.2
      | out q => trivial))
noncomputable abbrev digBlkA (A : Ad) : List (Nat × (E (SY A) → Tree (Ex × E (SY A)))) := [(0, blkG (inDA A) (fun p => .leaf (.normal, digAO A (digAF A.src p.2 p.1)))), (2, blkG (inDB A) (fun p => .leaf (.normal, digO A p.2 (digBF A.src p.1))))]
noncomputable abbrev digBlkN (A : Ad) : List (Nat × (E (SY A) → Tree (Ex × E (SY A)))) := [(0, blkG (inDN A) (fun p => .leaf (.normal, digO A p.2 (digNF A.src p.1))))]
end Sc
end Go.Proofs.YtogkcphobhhbdaaDoor

/- The scanner's functions over the plain state: digits, characters of names, names. -/
namespace Go.Proofs.YtogkcphobhhbdaaDoor
open Go Go.RowKit Go.Lib
namespace Sc
open Ev
set_option maxRecDepth 100000
theorem digits_evA (A : Ad) (st : St) (b inv : Int) : evFn (cfgL A (fSums A) Tryd.f102.ntmps (digBlkA A) 0) Tryd.f102 [.st 0, .val (.int .i64 b), .box 0] ⟨st, [.int .i64 inv]⟩ =
  (.test (decide (b ≤ 10))
    (.req (BlkOk (SY A) Tryd.f102.ntmps 0 (.loop digLoop0) (blkG (inDA A) (fun p => .leaf (.normal, digAO A (digAF A.src p.2 p.1)))))
      (.leaf (.val (.int .i64 (digAF A.src (IntKind.i32.wrap (IntKind.i64.wrap (48 + b))) (st, 0, inv)).2.1), ⟨(digAF A.src (IntKind.i32.wrap (IntKind.i64.wrap (48 + b))) (st, 0, inv)).1, [.int .i64 (digAF A.src (IntKind.i32.wrap (IntKind.i64.wrap (48 + b))) (st, 0, inv)).2.2]⟩)))
    (.req (BlkOk (SY A) Tryd.f102.ntmps 2 (.loop digLoop2) (blkG (inDB A) (fun p => .leaf (.normal, digO A p.2 (digBF A.src p.1)))))
      (.leaf (.val (.int .i64 (digBF A.src (st, 0)).2), ⟨(digBF A.src (st, 0)).1, [.int .i64 inv]⟩)))) := by kernel_rfl
theorem digits_evN (A : Ad) (st : St) (bx : List Value) : evFn (cfgL A (fSums A) Tryd.f102.ntmps (digBlkN A) 0) Tryd.f102 [.st 0, .val (.int .i64 10), .val (.pointer none)] ⟨st, bx⟩ =
  (.test (decide ((10 : Int) ≤ 10))
    (.req (BlkOk (SY A) Tryd.f102.ntmps 0 (.loop digLoop0) (blkG (inDN A) (fun p => .leaf (.normal, digO A p.2 (digNF A.src p.1)))))
      (.leaf (.val (.int .i64 (digNF A.src (st, 0)).2), ⟨(digNF A.src (st, 0)).1, bx⟩)))
    .fail) := by kernel_rfl
/-- digits, with a place for what is invalid: the state, what there was, the place. -/
def digitsF (src : ByteArray) (b : Int) (st : St) (inv : Int) : St × Int × Int :=
  if b ≤ 10 then digAF src (IntKind.i32.wrap (IntKind.i64.wrap (48 + b))) (st, 0, inv) else ((digBF src (st, 0)).1, (digBF src (st, 0)).2, inv)
noncomputable def dgtG (A : Ad) (args : List SV) (c : Core (SY A)) : Tree (SV × Core (SY A)) :=
  match args, c.bx with
  | [.st 0, .val (.int .i64 b), .box 0], [.int .i64 inv] => .leaf (.val (.int .i64 (digitsF A.src b c.st inv).2.1), ⟨(digitsF A.src b c.st inv).1, [.int .i64 (digitsF A.src b c.st inv).2.2]⟩)
  | [.st 0, .val (.int .i64 10), .val (.pointer none)], _ => .leaf (.val (.int .i64 (digNF A.src (c.st, 0)).2), ⟨(digNF A.src (c.st, 0)).1, c.bx⟩)
  | _, _ => .fail
/-- A function, its two ways of being called told by two configurations. -/
theorem sum_two {A : Ad} {f : FuncId} {G G1 G2 : List SV → Core (SY A) → Tree (SV × Core (SY A))} (h1 : SumOk (SY A) f #[] true G1) (h2 : SumOk (SY A) f #[] true G2) (m1 : GMono G1) (m2 : GMono G2)
    (h : ∀ args c (Q : SV × Core (SY A) → Prop), (G args c).sat Q → (G1 args c).sat Q ∨ (G2 args c).sat Q) : SumOk (SY A) f #[] true G ∧ GMono G := by
  refine ⟨fun args c bl w vals Q hargs hc hs => ?_, fun args c Q hb hs => ?_⟩
  · rcases h args c Q hs with hs | hs
    · exact h1 args c bl w vals Q hargs hc hs
    · exact h2 args c bl w vals Q hargs hc hs
  · rcases h args c Q hs with hs | hs
    · exact m1 args c Q hb hs
    · exact m2 args c Q hb hs
noncomputable def dgtS (A : Ad) : Smy (SY A) := ⟨102, #[], true, dgtG A⟩
theorem dgtS_ok (A : Ad) (hA : A.Ok) : (dgtS A).Ok := by
  have c1 := cfgL_ok A hA (fSums_ok A hA) Tryd.f102.ntmps (digBlkA A) 0
  have c2 := cfgL_ok A hA (fSums_ok A hA) Tryd.f102.ntmps (digBlkN A) 0
  have key := sum_two (A := A) (f := 102) (G := dgtG A) (fn_sound (SLaws A hA) c1 Tryd.func102) (fn_sound (SLaws A hA) c2 Tryd.func102) (fn_mono (SLaws A hA) c1) (fn_mono (SLaws A hA) c2) (fun args c Q h => by
    unfold dgtG at h
    split at h
    · rename_i b inv hbx
      left
      obtain ⟨st, bx⟩ := c
      have hbx' : bx = [.int .i64 inv] := hbx
      subst hbx'
      refine sat_of_eq (digits_evA A st b inv) ⟨fun h1 => ⟨digA_blk A hA, ?_⟩, fun h1 => ⟨digB_blk A hA, ?_⟩⟩
      · have h2 : digitsF A.src b st inv = _ := if_pos (of_decide_eq_true h1)
        simp only [h2] at h; exact h
      · have h2 : digitsF A.src b st inv = _ := if_neg (of_decide_eq_false h1)
        simp only [h2] at h; exact h
    · right
      obtain ⟨st, bx⟩ := c
      exact sat_of_eq (digits_evN A st bx) ⟨fun _ => ⟨digN_blk A hA, h⟩, fun h => by cases h⟩
    · exact h.elim)
  exact ⟨fun args w => by kernel_rfl, key.1, key.2⟩
/-! Characters of names -/
def msgDigit : ByteArray := ByteArray.mk #[105, 100, 101, 110, 116, 105, 102, 105, 101, 114, 32, 99, 97, 110, 110, 111, 116, 32, 98, 101, 103, 105, 110, 32, 119, 105, 116, 104, 32, 100, 105, 103, 105, 116, 32, 37, 35, 85]
def msgIdChar : ByteArray := ByteArray.mk #[105, 110, 118, 97, 108, 105, 100, 32, 99, 104, 97, 114, 97, 99, 116, 101, 114, 32, 37, 35, 85, 32, 105, 110, 32, 105, 100, 101, 110, 116, 105, 102, 105, 101, 114]
def chOk (st : St) : Prop := -2147483648 ≤ st.ch ∧ st.ch ≤ 2147483647
def atIdF (first : Bool) (st : St) : Bool × St :=
  if isLetterU st.ch = true ∨ st.ch = 95 then (true, st)
  else if isDigitU st.ch = true then (true, if first = true then error msgDigit st else st)
  else if st.ch ≥ 128 then (true, error msgIdChar st) else (false, st)
noncomputable def atIdT (A : Ad) (bx : List Value) (st dig : St) : Tree (SV × Core (SY A)) :=
  (.req (-2147483648 ≤ st.ch ∧ st.ch ≤ 2147483647)
    (.test (isLetterU st.ch)
      (.leaf (.tt, ⟨st, bx⟩))
      (.test (st.ch == 95)
        (.leaf (.tt, ⟨st, bx⟩))
        (.req (-2147483648 ≤ st.ch ∧ st.ch ≤ 2147483647)
          (.test (isDigitU st.ch)
            (.leaf (.tt, ⟨dig, bx⟩))
            (.test (decide (st.ch ≥ 128))
              (.leaf (.tt, ⟨error msgIdChar st, bx⟩))
              (.leaf (.ff, ⟨st, bx⟩))))))))
theorem atId_evF (A : Ad) (st : St) (bx : List Value) : evFn (cfF A Tryd.f74.ntmps) Tryd.f74 [.st 0, .ff] ⟨st, bx⟩ = atIdT A bx st st := by kernel_rfl
theorem atId_evT (A : Ad) (st : St) (bx : List Value) : evFn (cfF A Tryd.f74.ntmps) Tryd.f74 [.st 0, .tt] ⟨st, bx⟩ = atIdT A bx st (error msgDigit st) := by kernel_rfl
noncomputable def aidG (A : Ad) (args : List SV) (c : Core (SY A)) : Tree (SV × Core (SY A)) :=
  match args with
  | [.st 0, .ff] => .req (-2147483648 ≤ c.st.ch ∧ c.st.ch ≤ 2147483647) (.leaf (.val (.bool (atIdF false c.st).1), ⟨(atIdF false c.st).2, c.bx⟩))
  | [.st 0, .tt] => .req (-2147483648 ≤ c.st.ch ∧ c.st.ch ≤ 2147483647) (.leaf (.val (.bool (atIdF true c.st).1), ⟨(atIdF true c.st).2, c.bx⟩))
  | _ => .fail
noncomputable def aidS (A : Ad) : Smy (SY A) := ⟨74, #[], true, aidG A⟩
theorem atIdT_sat {A : Ad} {bx : List Value} {st : St} {first : Bool} {Q : SV × Core (SY A) → Prop} (hc : -2147483648 ≤ st.ch ∧ st.ch ≤ 2147483647) (h : ansB bx Q (atIdF first st)) : (atIdT A bx st (if first = true then error msgDigit st else st)).sat (Ans Q) := by
  unfold atIdF at h
  refine ⟨hc, fun h1 => ?_, fun h1 => ⟨fun h2 => ?_, fun h2 => ⟨hc, fun h3 => ?_, fun h3 => ⟨fun h4 => ?_, fun h4 => ?_⟩⟩⟩⟩
  · rw [if_pos (.inl h1)] at h; exact .inr ⟨_, rfl, h⟩
  · rw [if_pos (.inr (by simpa using h2))] at h; exact .inr ⟨_, rfl, h⟩
  all_goals rw [if_neg (fun hh => hh.elim (fun e => by rw [h1] at e; cases e) (fun e => by simp [e] at h2))] at h
  · rw [if_pos h3] at h; exact .inr ⟨_, rfl, h⟩
  all_goals rw [if_neg (by simp [h3])] at h
  · rw [if_pos (of_decide_eq_true h4)] at h; exact .inr ⟨_, rfl, h⟩
  · rw [if_neg (of_decide_eq_false h4)] at h; exact .inr ⟨_, rfl, h⟩
theorem aidS_ok (A : Ad) (hA : A.Ok) : (aidS A).Ok := by
  refine ev_okV hA Tryd.func74 (fun args w => by kernel_rfl) (C := cfF A Tryd.f74.ntmps) (cfgL_ok A hA (fSums_ok A hA) Tryd.f74.ntmps [] 0) (fun args c Q h => ?_)
  unfold aidG at h
  split at h
  · obtain ⟨st, bx⟩ := c
    exact sat_of_eq (atId_evF A st bx) (atIdT_sat (first := false) h.1 h.2)
  · obtain ⟨st, bx⟩ := c
    exact sat_of_eq (atId_evT A st bx) (atIdT_sat (first := true) h.1 h.2)
  · exact h.elim
theorem atIdF_on (src : ByteArray) (first : Bool) (st : St) : On src st (atIdF first st).2 := by
  unfold atIdF
  split
  · exact On.refl _ _
  · split
    · show On src st (if first = true then _ else _)
      split
      · exact on_error _ _ _
      · exact On.refl _ _
    · split
      · exact on_error _ _ _
      · exact On.refl _ _
theorem let_eof : isLetterU (-1) = false := by decide +kernel
theorem dig_eof : isDigitU (-1) = false := by decide +kernel
theorem atIdF_ne {first : Bool} {st : St} (h : (atIdF first st).1 = true) : ¬ st.ch = -1 := fun e => by
  unfold atIdF at h
  rw [e, let_eof, dig_eof] at h
  rw [if_neg (by decide), if_neg (by decide), if_neg (by decide)] at h
  cases h
theorem atIdF_ch (first : Bool) (st : St) : (atIdF first st).2.ch = st.ch := (by
  unfold atIdF
  split
  · rfl
  · split
    · show (if first = true then _ else _ : St).ch = _
      split <;> rfl
    · split <;> rfl)
/-! Sets of tokens -/
def containsF (s t : Int) : Bool := IntKind.u64.wrap ↑(BitVec.ofInt IntKind.u64.bits s &&& BitVec.ofInt IntKind.u64.bits (IntKind.u64.wrap (1 * 2 ^ min t.toNat IntKind.u64.bits))).toNat != 0
theorem contains_ev (A : Ad) (c : Core (SY A)) (s t : Int) : evFn (cfF A Tryd.f101.ntmps) Tryd.f101 [.val (.int .u64 s), .val (.int .u64 t)] c = .req (¬ t < 0) (.leaf (.val (.bool (containsF s t)), c)) := by kernel_rfl
noncomputable def conG (A : Ad) (args : List SV) (c : Core (SY A)) : Tree (SV × Core (SY A)) :=
  match args with
  | [.val (.int .u64 s), .val (.int .u64 t)] => .req (¬ t < 0) (.leaf (.val (.bool (containsF s t)), c))
  | _ => .fail
noncomputable def conS (A : Ad) : Smy (SY A) := ⟨101, #[], true, conG A⟩
theorem conS_ok (A : Ad) (hA : A.Ok) : (conS A).Ok := by
  refine ev_okV hA Tryd.func101 (fun args w => by kernel_rfl) (C := cfF A Tryd.f101.ntmps) (cfgL_ok A hA (fSums_ok A hA) Tryd.f101.ntmps [] 0) (fun args c Q h => ?_)
  unfold conG at h
  split at h
  · exact sat_of_eq (contains_ev A c _ _) ⟨h.1, .inl h.2⟩
  · exact h.elim
noncomputable def gSums (A : Ad) : List (Nat × Smy (SY A)) := (74, aidS A) :: (101, conS A) :: (102, dgtS A) :: (78, rawS A) :: (77, strS A) :: (79, runS A) :: fSums A
theorem gSums_ok (A : Ad) (hA : A.Ok) : SumsOk A (gSums A) := by
  refine SumsOk.cons ?_ (aidS_ok A hA) rfl rfl (fun h => by cases h)
  refine SumsOk.cons ?_ (conS_ok A hA) rfl rfl (fun h => by cases h)
  refine SumsOk.cons ?_ (dgtS_ok A hA) rfl rfl (fun h => by cases h)
  refine SumsOk.cons ?_ (rawS_ok A hA) rfl rfl (fun h => by cases h)
  refine SumsOk.cons ?_ (strS_ok A hA) rfl rfl (fun h => by cases h)
  refine SumsOk.cons ?_ (runS_ok A hA) rfl rfl (fun h => by cases h)
  exact fSums_ok A hA
noncomputable abbrev cfG (A : Ad) (N : Nat) : Cfg (SY A) := cfgL A (gSums A) N [] 0
end Sc
end Go.Proofs.YtogkcphobhhbdaaDoor

/- The scanner's functions over the plain state: names and keywords. -/
namespace Go.Proofs.YtogkcphobhhbdaaDoor
open Go Go.RowKit Go.Lib
namespace Sc
open Ev
set_option maxRecDepth 100000
def cId (x : Int) : Bool := isLetterF x || isDecimalF x
noncomputable abbrev idLoop0 : Code := loopOf (blkOf (bodyOf Tryd.f75) 0)
noncomputable abbrev idLoop2 : Code := loopOf (blkOf (bodyOf Tryd.f75) 2)
theorem idA_ev (A : Ad) (st : St) (bx : List Value) : (evCode (cfG A Tryd.f75.ntmps) idLoop0 (at0 A (st, bx))).bind (fun xe => .leaf (xe.1, pare [0] xe.2)) =
  (.test (isLetterF st.ch) (.leaf (.normal, at0 A (nextch A.src st, bx))) (.test (isDecimalF st.ch) (.leaf (.normal, at0 A (nextch A.src st, bx))) (.leaf (.exit 0, at0 A (st, bx))))) := by kernel_rfl
theorem idA_at (A : Ad) (hA : A.Ok) : At (SY A) Tryd.f75.ntmps (.block 0 (.loop idLoop0)) (at0 A) (fun p => .leaf (.normal, at0 A (skip A.src cId p.1, p.2))) := by
  have h1 := while_at (N := Tryd.f75.ntmps) (id := 0) (b := idLoop0) hA cId (by decide +kernel) (κ := PUnit) (fun _ => [(0, .st 0)]) (At.pared (SLaws A hA) (cfgL_ok A hA (gSums_ok A hA) Tryd.f75.ntmps [] 0) (fun _ => [0]) (fun p Q hs => by
    refine sat_of_eq (idA_ev A p.1 p.2.1) ?_
    refine ⟨fun h => ?_, fun h => ⟨fun h2 => ?_, fun h2 => ?_⟩⟩
    · rw [if_pos (by simp [cId, h])] at hs; exact hs
    · rw [if_pos (by simp [cId, h2])] at hs; exact hs
    · rw [if_neg (by simp [cId, h, h2])] at hs; exact hs))
  exact ⟨fun p => h1.wp (p.1, p.2, ⟨⟩), fun p => h1.mono (p.1, p.2, ⟨⟩)⟩
def idB (src : ByteArray) (st : St) : Tree (Step St St) :=
  (.req (-2147483648 ≤ st.ch ∧ st.ch ≤ 2147483647) (.test (atIdF false st).1 (.leaf (Step.go (nextch src (atIdF false st).2))) (.leaf (Step.out (atIdF false st).2))))
theorem idB_ev (A : Ad) (bx : List Value) (st : St) : (evCode (cfG A Tryd.f75.ntmps) idLoop2 (at0 A (st, bx))).bind (fun xe => .leaf (xe.1, pare [0] xe.2)) =
  (idB A.src st).bind fun s => .leaf (stepX (fun st => at0 A (st, bx)) (fun st => (.exit 2, at0 A (st, bx))) s) := by kernel_rfl
theorem idB_noAny (src : ByteArray) (st : St) : (idB src st).noAny := ⟨trivial, trivial⟩
theorem nextch_chOk (src : ByteArray) (st : St) : chOk (nextch src st) := by have := nextch_ch src st; unfold chOk; omega
theorem idB_on (src : ByteArray) (st : St) (h : chOk st) : (idB src st).sat fun s => match s with
    | .go a' => chOk a' ∧ On src st a' ∧ left src a' < left src st
    | .out q => On src st q ∧ chOk q := by
  refine ⟨h, fun h1 => ?_, fun _ => ⟨atIdF_on _ _ _, by unfold chOk; rw [atIdF_ch]; exact h⟩⟩
  have h2 := atIdF_on src false st
  have h3 : ¬ (atIdF false st).2.ch = -1 := by rw [atIdF_ch]; exact atIdF_ne h1
  exact ⟨nextch_chOk _ _, h2.trans (on_next _ _), Nat.lt_of_lt_of_le (nextch_left src _ h3) h2.left⟩
def idBF (src : ByteArray) (st : St) : St := runF (idB src) (left src) st0 st
theorem idBF_on (src : ByteArray) (st : St) (h : chOk st) : On src st (idBF src st) ∧ chOk (idBF src st) := by
  unfold idBF
  refine runF_sat (body := idB src) (μ := left src) (fun a => chOk a ∧ On src st a) (P := fun q => On src st q ∧ chOk q) (fun a ha => ?_) st ⟨h, On.refl _ _⟩
  refine sat_mono (idB_on src a ha.1) (fun s hs => ?_)
  cases s with
  | go a' => exact ⟨⟨hs.1, ha.2.trans hs.2.1⟩, hs.2.2⟩
  | out q => exact ⟨ha.2.trans hs.1, hs.2⟩
theorem idB_blk (A : Ad) (hA : A.Ok) : BlkOk (SY A) Tryd.f75.ntmps 2 (.loop idLoop2) (blkG (in0 A) (fun p => .req (chOk p.1) (.leaf (.normal, at0 A (idBF A.src p.1, p.2))))) := by
  refine blkG_ok ?_ in0_ok
  exact At.runI (Y := SY A) (id := 2) (F := fun bx st => at0 A (st, bx)) (G := fun bx st => (.exit 2, at0 A (st, bx))) (body := idB A.src) (left A.src) st0 chOk (b := idLoop2) (N := Tryd.f75.ntmps)
    (fun bx => At.same (SLaws A hA) (cfgL_ok A hA (gSums_ok A hA) Tryd.f75.ntmps [] 0) (fun _ => [0]) (fun p => idB_ev A bx p)) (fun _ q => by simp) (idB_noAny A.src) (fun p hp => sat_mono (idB_on A.src p hp) (fun s h => by cases s with
      | go a' => exact ⟨h.1, h.2.2⟩
      | out q => trivial))
theorem idA_blk (A : Ad) (hA : A.Ok) : BlkOk (SY A) Tryd.f75.ntmps 0 (.loop idLoop0) (blkG (in0 A) (fun p => .leaf (.normal, at0 A (skip A.src cId p.1, p.2)))) := blkG_ok (idA_at A hA) in0_ok
noncomputable abbrev idBlks (A : Ad) : List (Nat × (E (SY A) → Tree (Ex × E (SY A)))) := [(0, blkG (in0 A) (fun p => .leaf (.normal, at0 A (skip A.src cId p.1, p.2)))), (2, blkG (in0 A) (fun p => .req (chOk p.1) (.leaf (.normal, at0 A (idBF A.src p.1, p.2)))))]
/-- What a name's text is: a keyword, or a name. -/
def identEnd (src : ByteArray) (st : St) : St :=
  if 2 ≤ (seg src st).size ∧ kwOf (hashF (seg src st)) ≠ 0 ∧ (tokWord (kwOf (hashF (seg src st)))).toList = (seg src st).toList
  then { st with nlsemi := containsF 2200168300544 (kwOf (hashF (seg src st)) : Nat), tok := (kwOf (hashF (seg src st)) : Nat) }
  else { st with nlsemi := true, lit := seg src st, tok := 2 }
def identF (src : ByteArray) (st : St) : St := identEnd src (if (skip src cId st).ch ≥ 128 then idBF src (skip src cId st) else skip src cId st)
noncomputable def idEndT (A : Ad) (bx : List Value) (st : St) : Tree (SV × Core (SY A)) :=
  (.req (st.b.isSome = true)
    (.test (decide (((seg A.src st).size : Int) ≥ 2))
      (.req (2 ≤ (seg A.src st).size)
        (.test (((kwOf (hashF (seg A.src st)) : Nat) : Int) != 0)
          (.req (22 ≤ ((kwOf (hashF (seg A.src st)) : Nat) : Int) ∧ ((kwOf (hashF (seg A.src st)) : Nat) : Int) ≤ 46)
            (.test ((tokWord (((kwOf (hashF (seg A.src st)) : Nat) : Int)).toNat).toList == (seg A.src st).toList)
              (.req (¬ ((kwOf (hashF (seg A.src st)) : Nat) : Int) < 0)
                (.leaf (unit, ⟨{ st with nlsemi := containsF 2200168300544 (kwOf (hashF (seg A.src st)) : Nat), tok := (kwOf (hashF (seg A.src st)) : Nat) }, bx⟩)))
              (.leaf (unit, ⟨{ st with nlsemi := true, tok := 2, lit := seg A.src st }, bx⟩))))
          (.leaf (unit, ⟨{ st with nlsemi := true, tok := 2, lit := seg A.src st }, bx⟩))))
      (.leaf (unit, ⟨{ st with nlsemi := true, tok := 2, lit := seg A.src st }, bx⟩))))
theorem ident_ev (A : Ad) (st : St) (bx : List Value) : evFn (cfgL A (gSums A) Tryd.f75.ntmps (idBlks A) 0) Tryd.f75 [.st 0] ⟨st, bx⟩ =
  (.req (BlkOk (SY A) Tryd.f75.ntmps 0 (.loop idLoop0) (blkG (in0 A) (fun p => .leaf (.normal, at0 A (skip A.src cId p.1, p.2)))))
    (.test (decide ((skip A.src cId st).ch ≥ 128))
      (.req (BlkOk (SY A) Tryd.f75.ntmps 2 (.loop idLoop2) (blkG (in0 A) (fun p => .req (chOk p.1) (.leaf (.normal, at0 A (idBF A.src p.1, p.2))))))
        (.req (chOk (skip A.src cId st)) (idEndT A bx (idBF A.src (skip A.src cId st)))))
      (idEndT A bx (skip A.src cId st)))) := by kernel_rfl
theorem kwFrom_in (h : Int) : ∀ (n k : Nat), kwFrom h n k = 0 ∨ (k ≤ kwFrom h n k ∧ kwFrom h n k < k + n)
  | 0, k => .inl rfl
  | n + 1, k => by
    simp only [kwFrom]
    split
    · exact .inr ⟨Nat.le_refl _, by omega⟩
    · rcases kwFrom_in h n (k + 1) with h1 | h1
      · exact .inl h1
      · exact .inr ⟨by omega, by omega⟩
theorem kwOf_in (h : Int) (h0 : kwOf h ≠ 0) : 22 ≤ kwOf h ∧ kwOf h ≤ 46 := by
  rcases kwFrom_in h 25 22 with h1 | h1
  · exact absurd h1 h0
  · unfold kwOf; omega
theorem idEnd_sat {A : Ad} {bx : List Value} {st : St} {Q : SV × Core (SY A) → Prop} (hb : st.b.isSome = true) (h : Q (unit, ⟨identEnd A.src st, bx⟩)) : (idEndT A bx st).sat Q := by
  unfold identEnd at h
  refine ⟨hb, fun h1 => ⟨by have := of_decide_eq_true h1; omega, fun h2 => ?_, fun h2 => ?_⟩, fun h1 => ?_⟩
  · have h3 : kwOf (hashF (seg A.src st)) ≠ 0 := fun e => by rw [e] at h2; cases h2
    have h4 := kwOf_in _ h3
    refine ⟨by omega, fun h5 => ⟨by omega, ?_⟩, fun h5 => ?_⟩
    · rw [if_pos ⟨by have := of_decide_eq_true h1; omega, h3, by simpa using h5⟩] at h; exact h
    · rw [if_neg (fun hh => by have := hh.2.2; rw [Int.toNat_natCast] at h5; simp [this] at h5)] at h; exact h
  · rw [if_neg (fun hh => hh.2.1 (by simpa using h2))] at h; exact h
  · rw [if_neg (fun hh => by have := of_decide_eq_false h1; have := hh.1; omega)] at h; exact h
theorem skip_chOk {src : ByteArray} {c : Int → Bool} {st : St} (h : chOk st) : chOk (skip src c st) := skip_ind src c (P := chOk) (fun s _ _ => nextch_chOk src s) st h
noncomputable def idnS (A : Ad) : Smy (SY A) := ⟨75, #[], true, onSt A (fun st => chOk st ∧ st.b.isSome = true) (identF A.src)⟩
theorem idnS_ok (A : Ad) (hA : A.Ok) : (idnS A).Ok := by
  refine ev_okV hA Tryd.func75 (fun args w => by kernel_rfl) (C := cfgL A (gSums A) Tryd.f75.ntmps (idBlks A) 0) (cfgL_ok A hA (gSums_ok A hA) Tryd.f75.ntmps (idBlks A) 0) (fun args c Q h => ?_)
  unfold onSt at h
  split at h
  · obtain ⟨st, bx⟩ := c
    obtain ⟨⟨hc, hb⟩, hq⟩ := h
    have hc' : chOk (skip A.src cId st) := skip_chOk hc
    have hb' : (skip A.src cId st).b.isSome = true := by rw [(on_skip A.src cId st).b]; exact hb
    have hq' : Q (unit, ⟨identF A.src st, bx⟩) := hq
    unfold identF at hq'
    refine sat_of_eq (ident_ev A st bx) ⟨idA_blk A hA, fun h1 => ⟨idB_blk A hA, hc', ?_⟩, fun h1 => ?_⟩
    · rw [if_pos (of_decide_eq_true h1)] at hq'
      exact idEnd_sat (by rw [(idBF_on A.src _ hc').1.b]; exact hb') (.inl hq')
    · rw [if_neg (of_decide_eq_false h1)] at hq'
      exact idEnd_sat hb' (.inl hq')
  · exact h.elim
end Sc
end Go.Proofs.YtogkcphobhhbdaaDoor

/- The scanner's functions over the plain state: separators. -/
namespace Go.Proofs.YtogkcphobhhbdaaDoor
open Go Go.RowKit Go.Lib
namespace Sc
open Ev
set_option maxRecDepth 100000
def chAt (s : ByteArray) (i : Int) : Int := IntKind.i32.wrap ↑(s.get! i.toNat).toNat
def sepB (s : ByteArray) (x1 : Int) (p : Int × Int) : Tree (Step (Int × Int) (Int × Option Int)) :=
  (.test (decide (p.2 < ↑s.size))
    (.req (0 ≤ p.2 ∧ p.2.toNat < s.size)
      (.test (chAt s p.2 == 95)
        (.test (p.1 != 48)
          (.leaf (Step.out (0, some p.2)))
          (.leaf (Step.go (chAt s p.2, IntKind.i64.wrap (p.2 + 1)))))
        (.test (isDecimalF (chAt s p.2))
          (.leaf (Step.go (48, IntKind.i64.wrap (p.2 + 1))))
          (.test (x1 == 120)
            (.test (isHexF (chAt s p.2))
              (.leaf (Step.go (48, IntKind.i64.wrap (p.2 + 1))))
              (.test (p.1 == 95)
                (.leaf (Step.out (0, some (IntKind.i64.wrap (p.2 - 1)))))
                (.leaf (Step.go (46, IntKind.i64.wrap (p.2 + 1))))))
            (.test (p.1 == 95)
              (.leaf (Step.out (0, some (IntKind.i64.wrap (p.2 - 1)))))
              (.leaf (Step.go (46, IntKind.i64.wrap (p.2 + 1)))))))))
    (.leaf (Step.out (p.1, none))))
noncomputable def sepIn (A : Ad) (s : ByteArray) (x1 : Int) (c : Core (SY A)) (p : Int × Int) : E (SY A) := ⟨c, [(0, .val (.string s)), (3, .val (.int .i32 x1)), (4, .val (.int .i32 p.1)), (5, .val (.int .i64 p.2))]⟩
noncomputable def sepX (A : Ad) (s : ByteArray) (c : Core (SY A)) (q : Int × Option Int) : Ex × E (SY A) := match q with
  | (d, some r) => (.ret, ⟨c, [(2, .val (.int .i64 r))]⟩)
  | (d, none) => (.exit 0, ⟨c, [(0, .val (.string s)), (4, .val (.int .i32 d))]⟩)
def keepS : Ex → List Nat
  | .normal => [0, 3, 4, 5]
  | .ret => [2]
  | _ => [0, 4]
noncomputable abbrev sepLoop : Code := loopOf (blkOf (bodyOf Tryd.f106) 0)
theorem sep_ev (A : Ad) (s : ByteArray) (x1 : Int) (c : Core (SY A)) (p : Int × Int) : (evCode (cfG A Tryd.f106.ntmps) sepLoop (sepIn A s x1 c p)).bind (fun xe => .leaf (xe.1, pare (keepS xe.1) xe.2)) =
  (sepB s x1 p).bind fun st => .leaf (stepX (sepIn A s x1 c) (sepX A s c) st) := by kernel_rfl
def sepM (s : ByteArray) (p : Int × Int) : Nat := s.size - p.2.toNat
def sepI (s : ByteArray) (p : Int × Int) : Prop := s.size ≤ 4611686018427387904 ∧ 0 ≤ p.2
theorem sepB_noAny (s : ByteArray) (x1 : Int) (p : Int × Int) : (sepB s x1 p).noAny := ⟨⟨⟨trivial, trivial⟩, trivial, ⟨trivial, trivial, trivial⟩, trivial, trivial⟩, trivial⟩
theorem sepB_on (s : ByteArray) (x1 : Int) (p : Int × Int) (hI : sepI s p) : (sepB s x1 p).sat fun st => match st with
    | .go a' => sepI s a' ∧ sepM s a' < sepM s p
    | .out _ => True := by
  obtain ⟨h1, h2⟩ := hI
  refine ⟨fun h3 => ?_, fun _ => trivial⟩
  have h4 : p.2 < (s.size : Int) := of_decide_eq_true h3
  have h5 := i64_small (n := p.2 + 1) (by omega) (by omega)
  have key : ∀ d : Int, sepI s (d, IntKind.i64.wrap (p.2 + 1)) ∧ sepM s (d, IntKind.i64.wrap (p.2 + 1)) < sepM s p := fun d => by
    rw [h5]
    refine ⟨⟨h1, by show 0 ≤ p.2 + 1; omega⟩, ?_⟩
    show s.size - (p.2 + 1).toNat < s.size - p.2.toNat
    omega
  exact ⟨⟨h2, by omega⟩, fun _ => ⟨fun _ => trivial, fun _ => key _⟩, fun _ => ⟨fun _ => key _, fun _ => ⟨fun _ => ⟨fun _ => key _, fun _ => ⟨fun _ => trivial, fun _ => key _⟩⟩, fun _ => ⟨fun _ => trivial, fun _ => key _⟩⟩⟩⟩
def sepLF (s : ByteArray) (x1 : Int) (p : Int × Int) : Int × Option Int := runF (sepB s x1) (sepM s) (0, none) p
noncomputable def inSep (A : Ad) (e : E (SY A)) : Option (((Int × Int) × Core (SY A)) × (ByteArray × Int)) := match Ev.look e.tm 0, Ev.look e.tm 3, Ev.look e.tm 4, Ev.look e.tm 5 with
  | .val (.string s), .val (.int .i32 x), .val (.int .i32 d), .val (.int .i64 i) => some (((d, i), e.c), (s, x))
  | _, _, _, _ => none
theorem inSep_ok {A : Ad} (e : E (SY A)) (p : ((Int × Int) × Core (SY A)) × (ByteArray × Int)) (h : inSep A e = some p) : Lax e (sepIn A p.2.1 p.2.2 p.1.2 p.1.1) := by
  unfold inSep at h
  split at h
  · rename_i h0 h3 h4 h5
    simp only [Option.some.injEq] at h
    subst h
    exact lax_of rfl ⟨.inl h0, .inl h3, .inl h4, .inl h5, trivial⟩
  · cases h
noncomputable def sepG (A : Ad) (p : ((Int × Int) × Core (SY A)) × (ByteArray × Int)) : Tree (Ex × E (SY A)) :=
  .req (sepI p.2.1 p.1.1) (.test (sepLF p.2.1 p.2.2 p.1.1).2.isSome (.leaf (.ret, ⟨p.1.2, [(2, .val (.int .i64 ((sepLF p.2.1 p.2.2 p.1.1).2.getD 0)))]⟩)) (.leaf (.normal, ⟨p.1.2, [(0, .val (.string p.2.1)), (4, .val (.int .i32 (sepLF p.2.1 p.2.2 p.1.1).1))]⟩)))
theorem sep_blk (A : Ad) (hA : A.Ok) : BlkOk (SY A) Tryd.f106.ntmps 0 (.loop sepLoop) (blkG (inSep A) (sepG A)) := by
  refine blkG_ok (F := fun (p : ((Int × Int) × Core (SY A)) × (ByteArray × Int)) => sepIn A p.2.1 p.2.2 p.1.2 p.1.1) ?_ inSep_ok
  have h1 : ∀ k : ByteArray × Int, At (SY A) Tryd.f106.ntmps (.block 0 (.loop sepLoop)) (fun p : (Int × Int) × Core (SY A) => sepIn A k.1 k.2 p.2 p.1) (fun p => .req (sepI k.1 p.1) (.leaf (outX 0 (sepX A k.1 p.2 (sepLF k.1 k.2 p.1))))) := fun k =>
    At.runI (Y := SY A) (id := 0) (F := fun c p => sepIn A k.1 k.2 c p) (G := fun c q => sepX A k.1 c q) (body := sepB k.1 k.2) (sepM k.1) (0, none) (sepI k.1) (b := sepLoop) (N := Tryd.f106.ntmps)
      (fun c => At.same (SLaws A hA) (cfgL_ok A hA (gSums_ok A hA) Tryd.f106.ntmps [] 0) keepS (fun p => sep_ev A k.1 k.2 c p)) (fun c q => by obtain ⟨d, _ | r⟩ := q <;> simp [sepX]) (sepB_noAny k.1 k.2) (sepB_on k.1 k.2)
  have h2 := At.par (F := fun (k : ByteArray × Int) (p : (Int × Int) × Core (SY A)) => sepIn A k.1 k.2 p.2 p.1) (g := fun k (p : (Int × Int) × Core (SY A)) => .req (sepI k.1 p.1) (.leaf (outX 0 (sepX A k.1 p.2 (sepLF k.1 k.2 p.1))))) h1
  refine At.refine (g' := sepG A) h2 (fun p Q hs => ⟨p, Lax.refl _, hs.1, ?_⟩)
  have hs := hs.2
  show ∃ e', Lax (outX 0 (sepX A p.2.1 p.1.2 (sepLF p.2.1 p.2.2 p.1.1))).2 e' ∧ Q ((outX 0 (sepX A p.2.1 p.1.2 (sepLF p.2.1 p.2.2 p.1.1))).1, e')
  generalize sepLF p.2.1 p.2.2 p.1.1 = q at *
  obtain ⟨d, _ | r⟩ := q
  · exact ⟨_, Lax.refl _, hs.2 rfl⟩
  · exact ⟨_, Lax.refl _, hs.1 rfl⟩
def sepEnd (s : ByteArray) (r : Int × Option Int) : Int := match r.2 with
  | some x => x
  | none => if r.1 = 95 then IntKind.i64.wrap ((s.size : Int) - 1) else -1
/-- invalidSep. -/
def invalidSepF (s : ByteArray) : Int :=
  if 2 ≤ s.size ∧ (s.get! 0).toNat = 48 then
    (if lowerF (chAt s 1) = 120 ∨ lowerF (chAt s 1) = 111 ∨ lowerF (chAt s 1) = 98 then sepEnd s (sepLF s (lowerF (chAt s 1)) (48, 2)) else sepEnd s (sepLF s (lowerF (chAt s 1)) (46, 0)))
  else sepEnd s (sepLF s 32 (46, 0))
noncomputable def sepEndT (A : Ad) (c : Core (SY A)) (s : ByteArray) (x1 : Int) (p : Int × Int) : Tree (SV × Core (SY A)) :=
  (.req (BlkOk (SY A) Tryd.f106.ntmps 0 (.loop sepLoop) (blkG (inSep A) (sepG A)))
    (.req (sepI s p)
      (.test (sepLF s x1 p).2.isSome
        (.leaf (.val (.int .i64 ((sepLF s x1 p).2.getD 0)), c))
        (.test ((sepLF s x1 p).1 == 95)
          (.leaf (.val (.int .i64 (IntKind.i64.wrap ((s.size : Int) - 1))), c))
          (.leaf (.val (.int .i64 (-1)), c))))))
theorem invalidSep_ev (A : Ad) (c : Core (SY A)) (s : ByteArray) : evFn (cfgL A (gSums A) Tryd.f106.ntmps [(0, blkG (inSep A) (sepG A))] 0) Tryd.f106 [.val (.string s)] c =
  (.test (decide ((s.size : Int) ≥ 2))
    (.req ((0 : Int) ≤ 0 ∧ Int.toNat 0 < s.size)
      (.test (((s.get! (Int.toNat 0)).toNat : Int) == 48)
        (.req ((0 : Int) ≤ 1 ∧ Int.toNat 1 < s.size)
          (.test (lowerF (chAt s 1) == 120) (sepEndT A c s (lowerF (chAt s 1)) (48, 2))
            (.test (lowerF (chAt s 1) == 111) (sepEndT A c s (lowerF (chAt s 1)) (48, 2))
              (.test (lowerF (chAt s 1) == 98) (sepEndT A c s (lowerF (chAt s 1)) (48, 2))
                (sepEndT A c s (lowerF (chAt s 1)) (46, 0))))))
        (sepEndT A c s 32 (46, 0))))
    (sepEndT A c s 32 (46, 0))) := by kernel_rfl
theorem sepEnd_sat {A : Ad} (hA : A.Ok) {c : Core (SY A)} {s : ByteArray} {x1 : Int} {p : Int × Int} {Q : SV × Core (SY A) → Prop} (hI : sepI s p) (h : Q (.val (.int .i64 (sepEnd s (sepLF s x1 p))), c)) : (sepEndT A c s x1 p).sat Q := by
  refine ⟨sep_blk A hA, hI, ?_⟩
  generalize sepLF s x1 p = r at *
  obtain ⟨d, _ | x⟩ := r
  · refine ⟨fun h1 => (by cases h1), fun _ => ⟨fun h1 => ?_, fun h1 => ?_⟩⟩
    · have h2 : sepEnd s (d, none) = IntKind.i64.wrap ((s.size : Int) - 1) := if_pos (by simpa using h1)
      rw [h2] at h; exact h
    · have h2 : sepEnd s (d, none) = -1 := if_neg (by simpa using h1)
      rw [h2] at h; exact h
  · exact ⟨fun _ => h, fun h1 => by cases h1⟩
noncomputable def ivsG (A : Ad) (args : List SV) (c : Core (SY A)) : Tree (SV × Core (SY A)) :=
  match args with
  | [.val (.string s)] => .req (s.size ≤ 4611686018427387904) (.leaf (.val (.int .i64 (invalidSepF s)), c))
  | _ => .fail
noncomputable def ivsS (A : Ad) : Smy (SY A) := ⟨106, #[], true, ivsG A⟩
theorem ivsS_ok (A : Ad) (hA : A.Ok) : (ivsS A).Ok := by
  refine ev_okV hA Tryd.func106 (fun args w => by kernel_rfl) (C := cfgL A (gSums A) Tryd.f106.ntmps [(0, blkG (inSep A) (sepG A))] 0) (cfgL_ok A hA (gSums_ok A hA) Tryd.f106.ntmps [(0, blkG (inSep A) (sepG A))] 0) (fun args c Q h => ?_)
  unfold ivsG at h
  split at h
  · rename_i s
    obtain ⟨hs, hq⟩ := h
    have hq' : Ans Q (.val (.int .i64 (invalidSepF s)), c) := .inl hq
    unfold invalidSepF at hq'
    refine sat_of_eq (invalidSep_ev A c s) ⟨fun h1 => ⟨⟨Int.le_refl _, by have := of_decide_eq_true h1; show 0 < s.size; omega⟩, fun h2 => ⟨⟨by decide, by have := of_decide_eq_true h1; show 1 < s.size; omega⟩, fun h3 => ?_, fun h3 => ⟨fun h4 => ?_, fun h4 => ⟨fun h5 => ?_, fun h5 => ?_⟩⟩⟩, fun h2 => ?_⟩, fun h1 => ?_⟩
    rotate_left 4
    · rw [if_neg (fun h => by
        have h3 := h.2
        simp [h3] at h2)] at hq'
      exact sepEnd_sat hA ⟨hs, by decide⟩ hq'
    · rw [if_neg (fun h => by have := of_decide_eq_false h1; have := h.1; omega)] at hq'
      exact sepEnd_sat hA ⟨hs, by decide⟩ hq'
    all_goals
      have h20 : (s.get! 0).toNat = 48 := by
        have : ((s.get! (Int.toNat 0)).toNat : Int) = 48 := by simpa using h2
        have e : Int.toNat 0 = 0 := rfl
        rw [e] at this
        omega
      rw [if_pos ⟨by have := of_decide_eq_true h1; omega, h20⟩] at hq'
    · rw [if_pos (.inl (by simpa using h3))] at hq'; exact sepEnd_sat hA ⟨hs, by show (0 : Int) ≤ 2; decide⟩ hq'
    · rw [if_pos (.inr (.inl (by simpa using h4)))] at hq'; exact sepEnd_sat hA ⟨hs, by show (0 : Int) ≤ 2; decide⟩ hq'
    · rw [if_pos (.inr (.inr (by simpa using h5)))] at hq'; exact sepEnd_sat hA ⟨hs, by show (0 : Int) ≤ 2; decide⟩ hq'
    · rw [if_neg (fun h => by rcases h with h | h | h <;> simp_all)] at hq'; exact sepEnd_sat hA ⟨hs, by decide⟩ hq'
  · exact h.elim
noncomputable def hSums (A : Ad) : List (Nat × Smy (SY A)) := (106, ivsS A) :: (75, idnS A) :: gSums A
theorem hSums_ok (A : Ad) (hA : A.Ok) : SumsOk A (hSums A) := by
  refine SumsOk.cons ?_ (ivsS_ok A hA) rfl rfl (fun h => by cases h)
  refine SumsOk.cons ?_ (idnS_ok A hA) rfl rfl (fun h => by cases h)
  exact gSums_ok A hA
noncomputable abbrev cfH (A : Ad) (N : Nat) : Cfg (SY A) := cfgL A (hSums A) N [] 0
end Sc
end Go.Proofs.YtogkcphobhhbdaaDoor

/- The scanner's functions over the plain state: numbers: the pieces. -/
namespace Go.Proofs.YtogkcphobhhbdaaDoor
open Go Go.RowKit Go.Lib
namespace Sc
open Ev
set_option maxRecDepth 100000
/-- A number on the way. -/
structure NumS where
  st : St
  ok : Bool
  kind : Int
  base : Int
  pre : Int
  dig : Int
  inv : Int
  seen : Bool
noncomputable def numIn (A : Ad) (s : NumS) : E (SY A) := ⟨⟨s.st, [.int .i64 s.inv]⟩, [(0, .st 0), (1, .val (.bool s.seen)), (4, .val (.bool s.ok)), (5, .val (.int .u8 s.kind)), (6, .val (.int .i64 s.base)), (7, .val (.int .i32 s.pre)), (8, .val (.int .i64 s.dig)), (9, .box 0)]⟩
noncomputable def ofNum (A : Ad) (e : E (SY A)) : Option NumS := match e.c.bx, Ev.look e.tm 0, plainSV (Ev.look e.tm 1), plainSV (Ev.look e.tm 4), Ev.look e.tm 5, Ev.look e.tm 6, Ev.look e.tm 7, Ev.look e.tm 8, Ev.look e.tm 9 with
  | [.int .i64 inv], .st 0, .val (.bool seen), .val (.bool ok), .val (.int .u8 kind), .val (.int .i64 base), .val (.int .i32 pre), .val (.int .i64 dig), .box 0 => some ⟨e.c.st, ok, kind, base, pre, dig, inv, seen⟩
  | _, _, _, _, _, _, _, _, _ => none
theorem ofNum_ok {A : Ad} (e : E (SY A)) (s : NumS) (h : ofNum A e = some s) : Lax e (numIn A s) := by
  have pl : ∀ v b, plainSV v = .val (.bool b) → v = .val (.bool b) ∨ ∃ u, toVal v = some u ∧ SV.val (.bool b) = .val u := by
    intro v b h
    unfold plainSV at h
    split at h
    · rename_i u hu; exact .inr ⟨u, hu, h.symm⟩
    · exact .inl h
  unfold ofNum at h
  split at h
  · rename_i hb h0 h1 h4 h5 h6 h7 h8 h9
    simp only [Option.some.injEq] at h
    subst h
    exact lax_of (by show (⟨e.c.st, _⟩ : Core (SY A)) = e.c; rw [← hb]) ⟨.inl h0, pl _ _ h1, pl _ _ h4, .inl h5, .inl h6, .inl h7, .inl h8, .inl h9, trivial⟩
  · cases h
noncomputable abbrev nmBody : Code := bodyOf Tryd.f76
noncomputable def numIn10 (A : Ad) (p : NumS × Int) : E (SY A) := ⟨⟨p.1.st, [.int .i64 p.1.inv]⟩, [(0, .st 0), (1, .val (.bool p.1.seen)), (4, .val (.bool p.1.ok)), (5, .val (.int .u8 p.1.kind)), (6, .val (.int .i64 p.1.base)), (7, .val (.int .i32 p.1.pre)), (8, .val (.int .i64 p.1.dig)), (9, .box 0), (10, .val (.int .i32 p.2))]⟩
noncomputable def ofNum10 (A : Ad) (e : E (SY A)) : Option (NumS × Int) := match ofNum A e, Ev.look e.tm 10 with
  | some s, .val (.int .i32 x) => some (s, x)
  | _, _ => none
theorem ofNum10_ok {A : Ad} (e : E (SY A)) (p : NumS × Int) (h : ofNum10 A e = some p) : Lax e (numIn10 A p) := by
  unfold ofNum10 at h
  split at h
  · rename_i s x hs hx
    simp only [Option.some.injEq] at h
    subst h
    have h1 := ofNum_ok e s hs
    refine ⟨h1.1, fun i => ?_⟩
    have hl : Ev.look (numIn10 A (s, x)).tm i = if i = 10 then .val (.int .i32 x) else Ev.look (numIn A s).tm i := by
      by_cases hi : i = 10
      · subst hi; rw [if_pos rfl]; rfl
      · rw [if_neg hi]
        show Ev.look [(0, SV.st 0), (1, _), (4, _), (5, _), (6, _), (7, _), (8, _), (9, _), (10, _)] i = Ev.look [(0, SV.st 0), (1, _), (4, _), (5, _), (6, _), (7, _), (8, _), (9, _)] i
        simp only [look_cons, if_neg hi]
    rw [hl]
    by_cases hi : i = 10
    · rw [if_pos hi, hi]; exact .inr (.inl hx.symm)
    · rw [if_neg hi]; exact h1.2 i
  · cases h
def msgDec : ByteArray := ByteArray.mk #[37, 113, 32, 101, 120, 112, 111, 110, 101, 110, 116, 32, 114, 101, 113, 117, 105, 114, 101, 115, 32, 100, 101, 99, 105, 109, 97, 108, 32, 109, 97, 110, 116, 105, 115, 115, 97]
def msgHex : ByteArray := ByteArray.mk #[37, 113, 32, 101, 120, 112, 111, 110, 101, 110, 116, 32, 114, 101, 113, 117, 105, 114, 101, 115, 32, 104, 101, 120, 97, 100, 101, 99, 105, 109, 97, 108, 32, 109, 97, 110, 116, 105, 115, 115, 97]
def expErr (p : NumS × Int) : NumS :=
  if p.2 = 101 ∧ p.1.pre ≠ 0 ∧ p.1.pre ≠ 48 then { p.1 with st := error msgDec p.1.st, ok := false }
  else if p.2 = 112 ∧ p.1.pre ≠ 120 then { p.1 with st := error msgHex p.1.st, ok := false } else p.1
def expErr2 (p : NumS × Int) : Tree NumS := .test (p.2 == 112) (.test (p.1.pre != 120) (.leaf { p.1 with st := error msgHex p.1.st, ok := false }) (.leaf p.1)) (.leaf p.1)
def expErrT (p : NumS × Int) : Tree NumS := .test (p.2 == 101) (.test (p.1.pre != 0) (.test (p.1.pre != 48) (.leaf { p.1 with st := error msgDec p.1.st, ok := false }) (expErr2 p)) (expErr2 p)) (expErr2 p)
noncomputable abbrev nmBlk1 : Code := blkOf nmBody 1
theorem expErr_ev (A : Ad) (p : NumS × Int) : (evCode (cfH A Tryd.f76.ntmps) (.block 1 nmBlk1) (numIn10 A p)).bind (fun xe => .leaf (xe.1, pare [0, 1, 4, 5, 6, 7, 8, 9] xe.2)) = (expErrT p).bind fun s => .leaf (.normal, numIn A s) := by kernel_rfl
theorem expErr_sat {p : NumS × Int} {Q : NumS → Prop} (h : Q (expErr p)) : (expErrT p).sat Q := by
  unfold expErr at h
  have h2 : ¬ (p.2 = 101 ∧ p.1.pre ≠ 0 ∧ p.1.pre ≠ 48) → (expErr2 p).sat Q := fun hn => by
    rw [if_neg hn] at h
    refine ⟨fun h1 => ⟨fun h2 => ?_, fun h2 => ?_⟩, fun h1 => ?_⟩
    · rw [if_pos ⟨by simpa using h1, by simpa using h2⟩] at h; exact h
    · rw [if_neg (fun hh => hh.2 (by simpa using h2))] at h; exact h
    · rw [if_neg (fun hh => by simp [hh.1] at h1)] at h; exact h
  refine ⟨fun h1 => ⟨fun h3 => ⟨fun h4 => ?_, fun h4 => h2 (fun hh => hh.2.2 (by simpa using h4))⟩, fun h3 => h2 (fun hh => hh.2.1 (by simpa using h3))⟩, fun h1 => h2 (fun hh => by simp [hh.1] at h1)⟩
  rw [if_pos ⟨by simpa using h1, by simpa using h3, by simpa using h4⟩] at h; exact h
theorem exp_blk (A : Ad) (hA : A.Ok) : BlkOk (SY A) Tryd.f76.ntmps 1 nmBlk1 (blkG (ofNum10 A) (fun p => .leaf (.normal, numIn A (expErr p)))) := by
  refine blkG_ok ?_ ofNum10_ok
  refine At.pared (SLaws A hA) (cfgL_ok A hA (hSums_ok A hA) Tryd.f76.ntmps [] 0) (fun _ => [0, 1, 4, 5, 6, 7, 8, 9]) (fun p Q hs => ?_)
  refine sat_of_eq (expErr_ev A p) ?_
  rw [sat_bind]
  exact expErr_sat (Q := fun s => Q (.normal, numIn A s)) hs
end Sc
end Go.Proofs.YtogkcphobhhbdaaDoor

/- How far a token goes: columns and places run alike while no line ends. -/
namespace Go.Proofs.YtogkcphobhhbdaaDoor
open Go Go.RowKit Go.Lib
namespace Sc
open Ev
set_option maxRecDepth 100000
theorem u64_eq (n : Int) : u64 n = n % 18446744073709551616 := by
  show IntKind.u64.wrap n = _
  simp [IntKind.wrap, IntKind.bits, IntKind.signed]
/-- Where reading from p ends. -/
structure RdOk (src : ByteArray) (p : Nat) (col : Int) (R : Rd) : Prop where
  ge : p + R.chw ≤ R.p
  le : R.p ≤ src.size
  col : R.col = u64 (col + ((R.p - R.chw - p : Nat) : Int))
  w : R.ch ≠ -1 → 1 ≤ R.chw
theorem readAt_ok (src : ByteArray) (line : Int) : ∀ (f : Nat) (fresh : Bool) (p : Nat) (col : Int) (ns : List Note), p ≤ src.size → u64 col = col → RdOk src p col (readAt src line f fresh p col ns)
  | 0, _, p, col, _, h, hc => ⟨by simp [readAt], by simp [readAt, h], by simp [readAt, hc], by simp [readAt]⟩
  | f + 1, fresh, p, col, ns, h, hc => by
    have step : ∀ (w : Nat) (b : Bool) (ns : List Note), p + w ≤ src.size → RdOk src p col (readAt src line f b (p + w) (u64 (col + w)) ns) := fun w b ns hw => by
      obtain ⟨h1, h2, h3, h4⟩ := readAt_ok src line f b (p + w) (u64 (col + w)) ns hw (by simp only [u64_eq]; omega)
      refine ⟨by omega, h2, ?_, h4⟩
      rw [h3]
      generalize (readAt src line f b (p + w) (u64 (col + w)) ns) = R at *
      simp only [u64_eq]
      have : ((R.p - R.chw - p : Nat) : Int) = ((R.p - R.chw - (p + w) : Nat) : Int) + w := by omega
      rw [this]
      omega
    by_cases hp : p < src.size
    · have d1 := dec_pos src p
      have d2 := dec_le src p hp
      simp only [readAt, if_pos hp]
      split
      · split
        · exact step 1 false _ (by omega)
        · exact ⟨by simp, by simp only; omega, by simp only; rw [show p + 1 - 1 - p = 0 from by omega]; simp [hc], fun _ => by simp⟩
      · split
        · exact step 1 false _ (by omega)
        · split
          · exact step _ false _ d2
          · exact ⟨by simp, d2, by simp only; rw [show p + (Utf8.decode src p).2 - (Utf8.decode src p).2 - p = 0 from by omega]; simp [hc], fun _ => d1.1⟩
    · simp only [readAt, if_neg hp]
      exact ⟨by simp, h, by simp [hc], by simp⟩
def off (st : St) : Nat := st.p - st.chw - st.b.getD 0
/-- A token has begun; columns tell how far it goes. -/
structure Off (src : ByteArray) (st : St) : Prop where
  b : st.b.isSome = true
  le : st.b.getD 0 ≤ st.p - st.chw
  w : st.chw ≤ st.p
  n : st.p ≤ src.size
  sz : src.size ≤ 2048
  col : u64 (u64 (1 + st.col0) - st.col) = (off st : Int)
  pos : st.ch ≠ -1 → 1 ≤ st.chw
theorem Off.next {src : ByteArray} {st : St} (h : Off src st) (hc : st.ch ≠ 10) : Off src (nextch src st) ∧ off st ≤ off (nextch src st) ∧ (st.ch ≠ -1 → off st < off (nextch src st)) := by
  have hr := readAt_ok src (nlLine st) (src.size + 1) st.fresh st.p (nlCol st) st.notes h.n (by unfold nlCol; rw [if_neg hc]; simp only [u64_eq]; omega)
  have hle := h.le; have hw := h.w; have hcol := h.col; have hpos := h.pos
  have e1 : (nextch src st).p = (readAt src (nlLine st) (src.size + 1) st.fresh st.p (nlCol st) st.notes).p := rfl
  have e2 : (nextch src st).chw = (readAt src (nlLine st) (src.size + 1) st.fresh st.p (nlCol st) st.notes).chw := rfl
  have e3 : (nextch src st).col0 = (readAt src (nlLine st) (src.size + 1) st.fresh st.p (nlCol st) st.notes).col := rfl
  have e4 : (nextch src st).b = st.b := rfl
  have e5 : (nextch src st).col = st.col := rfl
  have e6 : (nextch src st).ch = (readAt src (nlLine st) (src.size + 1) st.fresh st.p (nlCol st) st.notes).ch := rfl
  generalize readAt src (nlLine st) (src.size + 1) st.fresh st.p (nlCol st) st.notes = R at *
  obtain ⟨r1, r2, r3, r4⟩ := hr
  have o1 : off (nextch src st) = off st + (st.chw + (R.p - R.chw - st.p)) := by
    unfold off; rw [e1, e2, e4]; omega
  refine ⟨⟨by rw [e4]; exact h.b, by rw [e4, e1, e2]; omega, by rw [e1, e2]; omega, by rw [e1]; exact r2, h.sz, ?_, by rw [e6, e2]; exact r4⟩, by omega, fun hne => by have := hpos hne; omega⟩
  rw [e3, e5, r3, o1]
  unfold nlCol
  rw [if_neg hc]
  simp only [u64_eq] at hcol ⊢
  have hs := h.sz; have hn := h.n
  have : off st ≤ 2048 := by unfold off; omega
  have : st.chw + (R.p - R.chw - st.p) ≤ 2048 + 2048 := by omega
  omega
theorem Off.colIn {src : ByteArray} {st : St} (h : Off src st) : colIn st = (off st : Int) := by
  have hs := h.sz; have hn := h.n
  have h1 : off st ≤ 2048 := by unfold off; omega
  have hc := h.col
  unfold Sc.colIn
  rw [show IntKind.u64.wrap (u64 (1 + st.col0) - st.col) = u64 (u64 (1 + st.col0) - st.col) from rfl, hc, i64_small (by omega) (by omega)]
/-- What does not read leaves it so. -/
theorem Off.same {src : ByteArray} {st st' : St} (h : Off src st) (e1 : st'.p = st.p) (e2 : st'.chw = st.chw) (e3 : st'.b = st.b) (e4 : st'.col0 = st.col0) (e5 : st'.col = st.col) (e6 : st'.ch = st.ch) : Off src st' ∧ off st' = off st := by
  have o : off st' = off st := by unfold off; rw [e1, e2, e3]
  exact ⟨⟨by rw [e3]; exact h.b, by rw [e1, e2, e3]; exact h.le, by rw [e1, e2]; exact h.w, by rw [e1]; exact h.n, h.sz, by rw [e4, e5, o]; exact h.col, by rw [e6, e2]; exact h.pos⟩, o⟩
theorem Off.error {src : ByteArray} {st : St} (h : Off src st) (m : ByteArray) : Off src (error m st) ∧ off (error m st) = off st := h.same rfl rfl rfl rfl rfl rfl
theorem Off.seg {src : ByteArray} {st : St} (h : Off src st) : (seg src st).size = off st := by
  unfold Sc.seg off
  have := h.le; have := h.n; have := h.w
  rw [ByteArray.size_extract]; omega
/-- Digits go on. -/
theorem digA_off (src : ByteArray) (mx : Int) (p : St × Int × Int) (h : Off src p.1) (hi : p.2.2 < 0 ∨ p.2.2 < off p.1) :
    Off src (digAF src mx p).1 ∧ off p.1 ≤ off (digAF src mx p).1 ∧ ((digAF src mx p).2.2 < 0 ∨ (digAF src mx p).2.2 < off (digAF src mx p).1) := by
  unfold digAF
  refine runF_sat (body := digA src mx) (μ := digAM src) (fun a => Off src a.1 ∧ off p.1 ≤ off a.1 ∧ (a.2.2 < 0 ∨ a.2.2 < off a.1)) (P := fun (q : St × Int × Int) => Off src q.1 ∧ off p.1 ≤ off q.1 ∧ (q.2.2 < 0 ∨ q.2.2 < off q.1)) (fun a ha => ?_) p ⟨h, Nat.le_refl _, hi⟩
  obtain ⟨h1, h2, h3⟩ := ha
  have key : ¬ a.1.ch = -1 → ¬ a.1.ch = 10 → (digA1 src mx a).sat fun s => match s with
      | .go a' => (Off src a'.1 ∧ off p.1 ≤ off a'.1 ∧ (a'.2.2 < 0 ∨ a'.2.2 < off a'.1)) ∧ digAM src a' < digAM src a
      | .out q => Off src q.1 ∧ off p.1 ≤ off q.1 ∧ (q.2.2 < 0 ∨ q.2.2 < off q.1) := fun hn h10 => by
    obtain ⟨g1, g2, g3⟩ := h1.next h10
    have g3 := g3 hn
    have g4 : left src (nextch src a.1) < left src a.1 := nextch_left src a.1 hn
    have old : Off src (nextch src a.1) ∧ off p.1 ≤ off (nextch src a.1) ∧ (a.2.2 < 0 ∨ a.2.2 < off (nextch src a.1)) := ⟨g1, by omega, by omega⟩
    exact ⟨fun _ => ⟨old, g4⟩, fun _ => ⟨fun _ => ⟨fun _ => ⟨⟨g1, by show off p.1 ≤ off (nextch src a.1); omega, .inr (by show colIn a.1 < (off (nextch src a.1) : Int); rw [h1.colIn]; omega)⟩, g4⟩, fun _ => ⟨old, g4⟩⟩, fun _ => ⟨old, g4⟩⟩⟩
  refine ⟨fun hd => key (isDec_ne hd) (by have := isDec_ge hd; omega), fun _ => ⟨fun hd => ?_, fun _ => ⟨h1, h2, h3⟩⟩⟩
  have e : a.1.ch = 95 := by simpa using hd
  exact key (by omega) (by omega)
theorem isHex_ten {c : Int} (h : isHexF c = true) : ¬ c = 10 := fun e => by rw [e] at h; revert h; decide
theorem digB_off (src : ByteArray) (p : St × Int) (h : Off src p.1) : Off src (digBF src p).1 ∧ off p.1 ≤ off (digBF src p).1 := by
  unfold digBF
  refine runF_sat (body := digB src) (μ := digNM src) (fun a => Off src a.1 ∧ off p.1 ≤ off a.1) (P := fun (q : St × Int) => Off src q.1 ∧ off p.1 ≤ off q.1) (fun a ha => ?_) p ⟨h, Nat.le_refl _⟩
  obtain ⟨h1, h2⟩ := ha
  have key : ¬ a.1.ch = -1 → ¬ a.1.ch = 10 → (Off src (nextch src a.1) ∧ off p.1 ≤ off (nextch src a.1)) ∧ left src (nextch src a.1) < left src a.1 := fun hn h10 => by
    obtain ⟨g1, g2, g3⟩ := h1.next h10
    exact ⟨⟨g1, by omega⟩, nextch_left src a.1 hn⟩
  have k95 : (a.1.ch == 95) = true → ¬ a.1.ch = -1 ∧ ¬ a.1.ch = 10 := fun hd => by
    have e : a.1.ch = 95 := by simpa using hd
    omega
  exact ⟨fun hd => ⟨fun _ => key (isHex_ne hd) (isHex_ten hd), fun _ => key (isHex_ne hd) (isHex_ten hd)⟩, fun _ => ⟨fun hd => ⟨fun _ => key (k95 hd).1 (k95 hd).2, fun _ => key (k95 hd).1 (k95 hd).2⟩, fun _ => ⟨h1, h2⟩⟩⟩
theorem digN_off (src : ByteArray) (p : St × Int) (h : Off src p.1) : Off src (digNF src p).1 ∧ off p.1 ≤ off (digNF src p).1 := by
  unfold digNF
  refine runF_sat (body := digN src 58) (μ := digNM src) (fun a => Off src a.1 ∧ off p.1 ≤ off a.1) (P := fun (q : St × Int) => Off src q.1 ∧ off p.1 ≤ off q.1) (fun a ha => ?_) p ⟨h, Nat.le_refl _⟩
  obtain ⟨h1, h2⟩ := ha
  have key : ¬ a.1.ch = -1 → ¬ a.1.ch = 10 → (Off src (nextch src a.1) ∧ off p.1 ≤ off (nextch src a.1)) ∧ left src (nextch src a.1) < left src a.1 := fun hn h10 => by
    obtain ⟨g1, g2, g3⟩ := h1.next h10
    exact ⟨⟨g1, by omega⟩, nextch_left src a.1 hn⟩
  have k95 : (a.1.ch == 95) = true → ¬ a.1.ch = -1 ∧ ¬ a.1.ch = 10 := fun hd => by
    have e : a.1.ch = 95 := by simpa using hd
    omega
  refine ⟨fun hd => ⟨fun _ => key (isDec_ne hd) (by have := isDec_ge hd; omega), fun _ => ⟨fun h2 => ?_, fun _ => key (isDec_ne hd) (by have := isDec_ge hd; omega)⟩⟩, fun _ => ⟨fun hd => ⟨fun _ => key (k95 hd).1 (k95 hd).2, fun hh => absurd hd (by simp [hh])⟩, fun _ => ⟨h1, h2⟩⟩⟩
  have h3 := isDec_ge hd
  have h4 : a.1.ch ≥ 58 := of_decide_eq_true h2
  exfalso; omega
theorem digits_off (src : ByteArray) (b : Int) (st : St) (inv : Int) (h : Off src st) (hi : inv < 0 ∨ inv < off st) :
    Off src (digitsF src b st inv).1 ∧ off st ≤ off (digitsF src b st inv).1 ∧ ((digitsF src b st inv).2.2 < 0 ∨ (digitsF src b st inv).2.2 < off (digitsF src b st inv).1) := by
  unfold digitsF
  split
  · exact digA_off src _ (st, 0, inv) h hi
  · have := digB_off src (st, 0) h
    exact ⟨this.1, this.2, by have h2 := this.2; simp only at h2 ⊢; omega⟩
end Sc
end Go.Proofs.YtogkcphobhhbdaaDoor

/- The scanner's functions over the plain state: numbers. -/
namespace Go.Proofs.YtogkcphobhhbdaaDoor
open Go Go.RowKit Go.Lib
namespace Sc
open Ev
set_option maxRecDepth 100000
def andI (a b : Int) : Int := IntKind.i64.wrap ↑(BitVec.ofInt IntKind.i64.bits a &&& BitVec.ofInt IntKind.i64.bits b).toNat
def msgRadix : ByteArray := ByteArray.mk #[105, 110, 118, 97, 108, 105, 100, 32, 114, 97, 100, 105, 120, 32, 112, 111, 105, 110, 116, 32, 105, 110, 32, 37, 115, 32, 108, 105, 116, 101, 114, 97, 108]
def msgNoDig : ByteArray := ByteArray.mk #[37, 115, 32, 108, 105, 116, 101, 114, 97, 108, 32, 104, 97, 115, 32, 110, 111, 32, 100, 105, 103, 105, 116, 115]
def msgExp : ByteArray := ByteArray.mk #[101, 120, 112, 111, 110, 101, 110, 116, 32, 104, 97, 115, 32, 110, 111, 32, 100, 105, 103, 105, 116, 115]
def msgMant : ByteArray := ByteArray.mk #[104, 101, 120, 97, 100, 101, 99, 105, 109, 97, 108, 32, 109, 97, 110, 116, 105, 115, 115, 97, 32, 114, 101, 113, 117, 105, 114, 101, 115, 32, 97, 32, 39, 112, 39, 32, 101, 120, 112, 111, 110, 101, 110, 116]
def msgInv : ByteArray := ByteArray.mk #[105, 110, 118, 97, 108, 105, 100, 32, 100, 105, 103, 105, 116, 32, 37, 113, 32, 105, 110, 32, 37, 115, 32, 108, 105, 116, 101, 114, 97, 108]
def msgSep : ByteArray := ByteArray.mk #[39, 95, 39, 32, 109, 117, 115, 116, 32, 115, 101, 112, 97, 114, 97, 116, 101, 32, 115, 117, 99, 99, 101, 115, 115, 105, 118, 101, 32, 100, 105, 103, 105, 116, 115]
def baseOk (b : Int) : Prop := b = 2 ∨ b = 8 ∨ b = 10 ∨ b = 16
/-- The integer part, its digits read. -/
def n1T (src : ByteArray) (base pre d0 : Int) (r : St × Int × Int) : Tree NumS :=
  .test (r.1.ch == 46)
    (.test (pre == 111) (.req (baseOk base) (.leaf { st := nextch src (error msgRadix r.1), ok := false, kind := 0, base := base, pre := pre, dig := orI d0 r.2.1, inv := r.2.2, seen := true }))
      (.test (pre == 98) (.req (baseOk base) (.leaf { st := nextch src (error msgRadix r.1), ok := false, kind := 0, base := base, pre := pre, dig := orI d0 r.2.1, inv := r.2.2, seen := true }))
        (.leaf { st := nextch src r.1, ok := true, kind := 0, base := base, pre := pre, dig := orI d0 r.2.1, inv := r.2.2, seen := true })))
    (.leaf { st := r.1, ok := true, kind := 0, base := base, pre := pre, dig := orI d0 r.2.1, inv := r.2.2, seen := false })
def p1FT (src : ByteArray) (st : St) : Tree NumS :=
  .test (st.ch == 48)
    (.test (lowerF (nextch src st).ch == 120) (n1T src 16 120 0 (digitsF src 16 (nextch src (nextch src st)) (-1)))
      (.test (lowerF (nextch src st).ch == 111) (n1T src 8 111 0 (digitsF src 8 (nextch src (nextch src st)) (-1)))
        (.test (lowerF (nextch src st).ch == 98) (n1T src 2 98 0 (digitsF src 2 (nextch src (nextch src st)) (-1)))
          (n1T src 8 48 1 (digitsF src 8 (nextch src st) (-1))))))
    (n1T src 10 0 0 (digitsF src 10 st (-1)))
def p1TF (st : St) : NumS := { st := st, ok := true, kind := 0, base := 10, pre := 0, dig := 0, inv := -1, seen := true }
def p2T (src : ByteArray) (s : NumS) : Tree NumS :=
  .test s.seen (.leaf { s with st := (digitsF src s.base s.st s.inv).1, kind := 1, dig := orI s.dig (digitsF src s.base s.st s.inv).2.1, inv := (digitsF src s.base s.st s.inv).2.2 }) (.leaf s)
def p3T (s : NumS) : Tree NumS :=
  .test (andI s.dig 1 == 0) (.test s.ok (.req (baseOk s.base) (.leaf { s with st := error msgNoDig s.st, ok := false })) (.leaf s)) (.leaf s)
def expDigT (src : ByteArray) (s : NumS) (st1 : St) : Tree NumS :=
  .test (andI (orI (digNF src (st1, 0)).2 (andI s.dig 2)) 1 == 0)
    (.test s.ok (.leaf { s with st := error msgExp (digNF src (st1, 0)).1, ok := false, kind := 1, dig := orI (digNF src (st1, 0)).2 (andI s.dig 2) }) (.leaf { s with st := (digNF src (st1, 0)).1, kind := 1, dig := orI (digNF src (st1, 0)).2 (andI s.dig 2) }))
    (.leaf { s with st := (digNF src (st1, 0)).1, kind := 1, dig := orI (digNF src (st1, 0)).2 (andI s.dig 2) })
def expSignT (src : ByteArray) (s : NumS) : Tree NumS :=
  .test ((nextch src s.st).ch == 43) (expDigT src s (nextch src (nextch src s.st))) (.test ((nextch src s.st).ch == 45) (expDigT src s (nextch src (nextch src s.st))) (expDigT src s (nextch src s.st)))
def noExpT (s : NumS) : Tree NumS :=
  .test (s.pre == 120) (.test (s.kind == 1) (.test s.ok (.leaf { s with st := error msgMant s.st, ok := false }) (.leaf s)) (.leaf s)) (.leaf s)
noncomputable abbrev expBlk (A : Ad) : E (SY A) → Tree (Ex × E (SY A)) := blkG (ofNum10 A) (fun p => .leaf (.normal, numIn A (expErr p)))
def p4T (src : ByteArray) (B : Prop) (s : NumS) : Tree NumS :=
  .test (lowerF s.st.ch == 101) (.test s.ok (.req B (expSignT src (expErr (s, lowerF s.st.ch)))) (expSignT src s))
    (.test (lowerF s.st.ch == 112) (.test s.ok (.req B (expSignT src (expErr (s, lowerF s.st.ch)))) (expSignT src s)) (noExpT s))
def p45T (src : ByteArray) (s : NumS) : Tree NumS := .test (s.st.ch == 105) (.leaf { s with st := nextch src s.st, kind := 2 }) (.leaf s)
def p5T (src : ByteArray) (s : NumS) : Tree NumS :=
  .req (s.st.b.isSome = true)
    (.test (s.kind == 0)
      (.test (decide (s.inv ≥ 0))
        (.test s.ok (.req (0 ≤ s.inv ∧ s.inv.toNat < (setLitF src s.kind s.ok s.st).lit.size) (.req (baseOk s.base) (.leaf { s with st := errorAtF s.inv msgInv (setLitF src s.kind s.ok s.st), ok := false })))
          (.leaf { s with st := setLitF src s.kind s.ok s.st }))
        (.leaf { s with st := setLitF src s.kind s.ok s.st }))
      (.leaf { s with st := setLitF src s.kind s.ok s.st }))
def p6T (s : NumS) : Tree NumS :=
  .test (andI s.dig 2 != 0) (.test s.ok (.req (s.st.lit.size ≤ 4611686018427387904) (.test (decide (invalidSepF s.st.lit ≥ 0)) (.leaf { s with st := errorAtF (invalidSepF s.st.lit) msgSep s.st, ok := false }) (.leaf s))) (.leaf s)) (.leaf s)
def numK : List Nat := [0, 1, 4, 5, 6, 7, 8, 9]
noncomputable abbrev nmN : Nat := Tryd.f76.ntmps
theorem p1F_ev (A : Ad) (st : St) : (evCode (cfH A nmN) (cutHead 7 nmBody) ⟨⟨st, []⟩, [(0, .st 0), (1, .ff)]⟩).bind (fun xe => .leaf (xe.1, pare numK xe.2)) = (p1FT A.src st).bind fun s => .leaf (.normal, numIn A s) := by kernel_rfl
theorem p1T_ev (A : Ad) (st : St) : (evCode (cfH A nmN) (cutHead 7 nmBody) ⟨⟨st, []⟩, [(0, .st 0), (1, .tt)]⟩).bind (fun xe => .leaf (xe.1, pare numK xe.2)) = .leaf (.normal, numIn A (p1TF st)) := by kernel_rfl
theorem p2_ev (A : Ad) (s : NumS) : (evCode (cfH A nmN) (cutHead 1 (cutTail 7 nmBody)) (numIn A s)).bind (fun xe => .leaf (xe.1, pare numK xe.2)) = (p2T A.src s).bind fun s => .leaf (.normal, numIn A s) := by kernel_rfl
theorem p3_ev (A : Ad) (s : NumS) : (evCode (cfH A nmN) (cutHead 1 (cutTail 8 nmBody)) (numIn A s)).bind (fun xe => .leaf (xe.1, pare numK xe.2)) = (p3T s).bind fun s => .leaf (.normal, numIn A s) := by kernel_rfl
noncomputable abbrev cfX (A : Ad) : Cfg (SY A) := cfgL A (hSums A) nmN [(1, expBlk A)] 0
theorem p4_ev (A : Ad) (s : NumS) : (evCode (cfX A) (cutHead 1 (cutTail 9 nmBody)) (numIn A s)).bind (fun xe => .leaf (xe.1, pare numK xe.2)) = (p4T A.src (BlkOk (SY A) nmN 1 nmBlk1 (expBlk A)) s).bind fun s => .leaf (.normal, numIn A s) := by kernel_rfl
theorem p45_ev (A : Ad) (s : NumS) : (evCode (cfH A nmN) (cutHead 1 (cutTail 10 nmBody)) (numIn A s)).bind (fun xe => .leaf (xe.1, pare numK xe.2)) = (p45T A.src s).bind fun s => .leaf (.normal, numIn A s) := by kernel_rfl
theorem p5_ev (A : Ad) (s : NumS) : (evCode (cfH A nmN) (cutHead 2 (cutTail 11 nmBody)) (numIn A s)).bind (fun xe => .leaf (xe.1, pare numK xe.2)) = (p5T A.src s).bind fun s => .leaf (.normal, numIn A s) := by kernel_rfl
theorem p6_ev (A : Ad) (s : NumS) : (evCode (cfH A nmN) (cutHead 1 (cutTail 13 nmBody)) (numIn A s)).bind (fun xe => .leaf (xe.1, pare numK xe.2)) = (p6T s).bind fun s => .leaf (.normal, numIn A s) := by kernel_rfl
theorem p7_ev (A : Ad) (s : NumS) : (evCode (cfH A nmN) (cutTail 14 nmBody) (numIn A s)).bind (fun xe => .leaf (xe.1, pare [] xe.2)) = .leaf (.normal, ⟨⟨{ s.st with bad := !s.ok }, [.int .i64 s.inv]⟩, []⟩) := by kernel_rfl
theorem nm_cuts : hasCut 7 nmBody = true ∧ hasCut 1 (cutTail 7 nmBody) = true ∧ hasCut 1 (cutTail 8 nmBody) = true ∧ hasCut 1 (cutTail 9 nmBody) = true ∧ hasCut 1 (cutTail 10 nmBody) = true ∧ hasCut 2 (cutTail 11 nmBody) = true ∧ hasCut 1 (cutTail 13 nmBody) = true :=
  ⟨by kernel_rfl, by kernel_rfl, by kernel_rfl, by kernel_rfl, by kernel_rfl, by kernel_rfl, by kernel_rfl⟩
theorem nm_tails : cutTail 1 (cutTail 7 nmBody) = cutTail 8 nmBody ∧ cutTail 1 (cutTail 8 nmBody) = cutTail 9 nmBody ∧ cutTail 1 (cutTail 9 nmBody) = cutTail 10 nmBody ∧ cutTail 1 (cutTail 10 nmBody) = cutTail 11 nmBody ∧ cutTail 2 (cutTail 11 nmBody) = cutTail 13 nmBody ∧ cutTail 1 (cutTail 13 nmBody) = cutTail 14 nmBody :=
  ⟨by kernel_rfl, by kernel_rfl, by kernel_rfl, by kernel_rfl, by kernel_rfl, by kernel_rfl⟩
end Sc
end Go.Proofs.YtogkcphobhhbdaaDoor

/- The scanner's functions over the plain state: numbers, put together. -/
namespace Go.Proofs.YtogkcphobhhbdaaDoor
open Go Go.RowKit Go.Lib
namespace Sc
open Ev
set_option maxRecDepth 100000
theorem num_piece {A : Ad} (hA : A.Ok) {C : Cfg (SY A)} (hC : C.Ok) (hN : C.N = nmN) {c tail : Code} (n : Nat) (hc : hasCut n c = true) (ht : cutTail n c = tail) {T : NumS → Tree NumS}
    (hev : ∀ s, (evCode C (cutHead n c) (numIn A s)).bind (fun xe => .leaf (xe.1, pare numK xe.2)) = (T s).bind fun s => .leaf (.normal, numIn A s)) {gb : NumS → Tree (Ex × E (SY A))} (hB : At (SY A) nmN tail (numIn A) gb) :
    At (SY A) nmN c (numIn A) (fun s => (T s).bind gb) := by
  subst ht
  rw [← hN] at hB ⊢
  refine At.cut (SLaws A hA) hC n hc hB (fun s Q h => ?_)
  rw [sat_bind] at h
  have h1 : ((evCode C (cutHead n c) (numIn A s)).bind (fun xe => .leaf (xe.1, pare numK xe.2))).sat (fun xe => xe.1 = .normal ∧ ∃ q, xe.2 = numIn A q ∧ (gb q).sat Q) := by
    rw [hev, sat_bind]
    exact sat_mono h (fun q hq => ⟨rfl, q, rfl, hq⟩)
  rw [sat_bind] at h1
  refine sat_mono h1 ?_
  rintro ⟨ex, e⟩ ⟨k1, q, k2, k3⟩
  simp only at k1 k2
  subst k1
  exact ⟨q, by rw [← k2]; exact lax_pare _ _, k3⟩
def numRes (s : NumS) : St := { s.st with bad := !s.ok }
noncomputable def numLast (A : Ad) (s : NumS) : Tree (Ex × E (SY A)) := .leaf (.normal, ⟨⟨numRes s, [.int .i64 s.inv]⟩, []⟩)
def numTail (src : ByteArray) (B : Prop) {α : Type} (k : NumS → Tree α) (s : NumS) : Tree α :=
  (p2T src s).bind fun s => (p3T s).bind fun s => (p4T src B s).bind fun s => (p45T src s).bind fun s => (p5T src s).bind fun s => (p6T s).bind k
theorem num_tail (A : Ad) (hA : A.Ok) : At (SY A) nmN (cutTail 7 nmBody) (numIn A) (numTail A.src (BlkOk (SY A) nmN 1 nmBlk1 (expBlk A)) (numLast A)) := by
  have c0 : (cfH A nmN).Ok := cfgL_ok A hA (hSums_ok A hA) nmN [] 0
  have c1 : (cfX A).Ok := cfgL_ok A hA (hSums_ok A hA) nmN [(1, expBlk A)] 0
  obtain ⟨k1, k2, k3, k4, k5, k6, k7⟩ := nm_cuts
  obtain ⟨t1, t2, t3, t4, t5, t6⟩ := nm_tails
  have a14 : At (SY A) nmN (cutTail 14 nmBody) (numIn A) (numLast A) := At.pared (SLaws A hA) c0 (fun _ => []) (fun s Q h => sat_of_eq (p7_ev A s) h)
  have a13 := num_piece hA c0 rfl 1 k7 t6 (p6_ev A) a14
  have a11 := num_piece hA c0 rfl 2 k6 t5 (p5_ev A) a13
  have a10 := num_piece hA c0 rfl 1 k5 t4 (p45_ev A) a11
  have a9 := num_piece hA c1 rfl 1 k4 t3 (p4_ev A) a10
  have a8 := num_piece hA c0 rfl 1 k3 t2 (p3_ev A) a9
  exact num_piece hA c0 rfl 1 k2 t1 (p2_ev A) a8
/-- number's answer, as a tree. -/
def numTree (src : ByteArray) (B : Prop) {α : Type} (k : NumS → Tree α) (seen : Bool) (st : St) : Tree α := if seen = true then numTail src B k (p1TF st) else (p1FT src st).bind (numTail src B k)
theorem num_at (A : Ad) (hA : A.Ok) (seen : Bool) : At (SY A) nmN nmBody (fun st => ⟨⟨st, []⟩, number 0 [.st 0, if seen = true then .tt else .ff]⟩) (numTree A.src (BlkOk (SY A) nmN 1 nmBlk1 (expBlk A)) (numLast A) seen) := by
  have c0 : (cfH A nmN).Ok := cfgL_ok A hA (hSums_ok A hA) nmN [] 0
  obtain ⟨k1, _⟩ := nm_cuts
  refine At.cut (SLaws A hA) c0 7 k1 (num_tail A hA) (fun st Q h => ?_)
  cases seen with
  | true =>
    have h1 : ((evCode (cfH A nmN) (cutHead 7 nmBody) ⟨⟨st, []⟩, [(0, .st 0), (1, .tt)]⟩).bind (fun xe => .leaf (xe.1, pare numK xe.2))).sat (fun xe => xe.1 = .normal ∧ ∃ q, xe.2 = numIn A q ∧ (numTail A.src (BlkOk (SY A) nmN 1 nmBlk1 (expBlk A)) (numLast A) q).sat Q) := by
      exact sat_of_eq (p1T_ev A st) ⟨rfl, _, rfl, h⟩
    rw [sat_bind] at h1
    refine sat_mono h1 ?_
    rintro ⟨ex, e⟩ ⟨k1, q, k2, k3⟩
    simp only at k1 k2
    subst k1
    exact ⟨q, by rw [← k2]; exact lax_pare _ _, k3⟩
  | false =>
    have h1 : ((evCode (cfH A nmN) (cutHead 7 nmBody) ⟨⟨st, []⟩, [(0, .st 0), (1, .ff)]⟩).bind (fun xe => .leaf (xe.1, pare numK xe.2))).sat (fun xe => xe.1 = .normal ∧ ∃ q, xe.2 = numIn A q ∧ (numTail A.src (BlkOk (SY A) nmN 1 nmBlk1 (expBlk A)) (numLast A) q).sat Q) := by
      refine sat_of_eq (p1F_ev A st) ?_
      rw [sat_bind]
      have h' : ((p1FT A.src st).bind (numTail A.src (BlkOk (SY A) nmN 1 nmBlk1 (expBlk A)) (numLast A))).sat Q := h
      rw [sat_bind] at h'
      exact sat_mono h' (fun q hq => ⟨rfl, q, rfl, hq⟩)
    rw [sat_bind] at h1
    refine sat_mono h1 ?_
    rintro ⟨ex, e⟩ ⟨k1, q, k2, k3⟩
    simp only at k1 k2
    subst k1
    exact ⟨q, by rw [← k2]; exact lax_pare _ _, k3⟩
/-! What holds on the way. -/
structure NumI (src : ByteArray) (st : St) (s : NumS) : Prop where
  base : baseOk s.base
  offs : Off src s.st
  inv : s.inv < 0 ∨ s.inv < off s.st
  on : On src st s.st
theorem runF_on {α β : Type} {src : ByteArray} {body : α → Tree (Step α β)} {μ : α → Nat} {d : β} (f : α → St) (g : β → St) (I : α → Prop)
    (h : ∀ a, I a → (body a).sat fun s => match s with
      | .go a' => (I a' ∧ On src (f a) (f a')) ∧ μ a' < μ a
      | .out b => On src (f a) (g b)) (a : α) (ha : I a) : On src (f a) (g (runF body μ d a)) := by
  refine runF_sat (body := body) (μ := μ) (fun x => I x ∧ On src (f a) (f x)) (P := fun b => On src (f a) (g b)) (fun x hx => ?_) a ⟨ha, On.refl _ _⟩
  refine sat_mono (h x hx.1) (fun s hs => ?_)
  cases s with
  | go a' => exact ⟨⟨hs.1.1, hx.2.trans hs.1.2⟩, hs.2⟩
  | out b => exact hx.2.trans hs
theorem digits_on (src : ByteArray) (b : Int) (st : St) (inv : Int) : On src st (digitsF src b st inv).1 := by
  unfold digitsF
  split
  · exact runF_on (src := src) (body := digA src (IntKind.i32.wrap (IntKind.i64.wrap (48 + b)))) (fun p : St × Int × Int => p.1) (fun p : St × Int × Int => p.1) (fun _ => True) (fun a _ => sat_mono (digA_on src _ a) (fun s hs => by cases s with
      | go a' => exact ⟨⟨trivial, hs.1⟩, hs.2⟩
      | out q => exact hs)) (st, 0, inv) trivial
  · exact runF_on (src := src) (body := digB src) (fun p : St × Int => p.1) (fun p : St × Int => p.1) (fun _ => True) (fun a _ => sat_mono (digB_on src a) (fun s hs => by cases s with
      | go a' => exact ⟨⟨trivial, hs.1⟩, hs.2⟩
      | out q => exact hs)) (st, 0) trivial
theorem digN_onF (src : ByteArray) (st : St) : On src st (digNF src (st, 0)).1 :=
  runF_on (src := src) (body := digN src 58) (fun p : St × Int => p.1) (fun p : St × Int => p.1) (fun _ => True) (fun a _ => sat_mono (digN_on src a) (fun s hs => by cases s with
      | go a' => exact ⟨⟨trivial, hs.1⟩, hs.2⟩
      | out q => exact hs)) (st, 0) trivial
theorem n1T_sat {src : ByteArray} {st0 st : St} {base pre d0 : Int} (hb : baseOk base) (h : Off src st) (ho : On src st0 st) : (n1T src base pre d0 (digitsF src base st (-1))).sat (NumI src st0) := by
  obtain ⟨h1, h2, h3⟩ := digits_off src base st (-1) h (.inl (by decide))
  have h4 := ho.trans (digits_on src base st (-1))
  generalize digitsF src base st (-1) = r at *
  have key : (r.1.ch == 46) = true → ∀ m, NumI src st0 { st := nextch src (error m r.1), ok := false, kind := 0, base := base, pre := pre, dig := orI d0 r.2.1, inv := r.2.2, seen := true } := fun hc m => by
    have e : r.1.ch = 46 := by simpa using hc
    obtain ⟨g1, g2⟩ := h1.error m
    obtain ⟨g3, g4, g5⟩ := g1.next (by show r.1.ch ≠ 10; rw [e]; decide)
    exact ⟨hb, g3, by show r.2.2 < 0 ∨ r.2.2 < (off (nextch src (error m r.1)) : Int); omega, h4.trans ((on_error _ _ _).trans (on_next _ _))⟩
  refine ⟨fun hc => ⟨fun _ => ⟨hb, key hc _⟩, fun _ => ⟨fun _ => ⟨hb, key hc _⟩, fun _ => ?_⟩⟩, fun _ => ⟨hb, h1, h3, h4⟩⟩
  have e : r.1.ch = 46 := by simpa using hc
  obtain ⟨g3, g4, g5⟩ := h1.next (by rw [e]; decide)
  exact ⟨hb, g3, by show r.2.2 < 0 ∨ r.2.2 < (off (nextch src r.1) : Int); omega, h4.trans (on_next _ _)⟩
theorem low_ten {c k : Int} (hk : k ≠ 42) (h : (lowerF c == k) = true) : c ≠ 10 := fun e => by
  rw [e] at h
  have : lowerF 10 = k := by simpa using h
  exact hk (by rw [← this]; decide)
theorem p1FT_sat {src : ByteArray} {st : St} (h : Off src st) (hc : st.ch ≠ 10) : (p1FT src st).sat (NumI src st) := by
  obtain ⟨h1, _, _⟩ := h.next hc
  have o1 := on_next src st
  refine ⟨fun _ => ⟨fun hx => ?_, fun _ => ⟨fun hx => ?_, fun _ => ⟨fun hx => ?_, fun _ => n1T_sat (.inr (.inl rfl)) h1 o1⟩⟩⟩, fun _ => n1T_sat (.inr (.inr (.inl rfl))) h (On.refl _ _)⟩
  · exact n1T_sat (.inr (.inr (.inr rfl))) (h1.next (low_ten (by decide) hx)).1 (o1.trans (on_next _ _))
  · exact n1T_sat (.inr (.inl rfl)) (h1.next (low_ten (by decide) hx)).1 (o1.trans (on_next _ _))
  · exact n1T_sat (.inl rfl) (h1.next (low_ten (by decide) hx)).1 (o1.trans (on_next _ _))
theorem p2T_sat {src : ByteArray} {st : St} {s : NumS} (h : NumI src st s) : (p2T src s).sat (NumI src st) := by
  obtain ⟨h1, h2, h3⟩ := digits_off src s.base s.st s.inv h.offs h.inv
  exact ⟨fun _ => ⟨h.base, h1, h3, h.on.trans (digits_on _ _ _ _)⟩, fun _ => h⟩
theorem NumI.err {src : ByteArray} {st : St} {s : NumS} (h : NumI src st s) (m : ByteArray) {s' : NumS} (e1 : s'.st = error m s.st) (e2 : s'.base = s.base) (e3 : s'.inv = s.inv) : NumI src st s' := by
  obtain ⟨g1, g2⟩ := h.offs.error m
  exact ⟨by rw [e2]; exact h.base, by rw [e1]; exact g1, by rw [e1, e3, g2]; exact h.inv, by rw [e1]; exact h.on.trans (on_error _ _ _)⟩
theorem p3T_sat {src : ByteArray} {st : St} {s : NumS} (h : NumI src st s) : (p3T s).sat (NumI src st) :=
  ⟨fun _ => ⟨fun _ => ⟨h.base, h.err _ rfl rfl rfl⟩, fun _ => h⟩, fun _ => h⟩
theorem expDig_sat {src : ByteArray} {st st1 : St} {s : NumS} (h : NumI src st s) (h1 : Off src st1) (h2 : off s.st ≤ off st1) (h3 : On src st st1) : (expDigT src s st1).sat (NumI src st) := by
  obtain ⟨g1, g2⟩ := digN_off src (st1, 0) h1
  have g3 := h3.trans (digN_onF src st1)
  have hi := h.inv
  have g2' : off st1 ≤ off (digNF src (st1, 0)).1 := g2
  have key : NumI src st { s with st := (digNF src (st1, 0)).1, kind := 1, dig := orI (digNF src (st1, 0)).2 (andI s.dig 2) } := ⟨h.base, g1, by show s.inv < 0 ∨ s.inv < (off (digNF src (st1, 0)).1 : Int); omega, g3⟩
  exact ⟨fun _ => ⟨fun _ => key.err msgExp rfl rfl rfl, fun _ => key⟩, fun _ => key⟩
theorem expSign_sat {src : ByteArray} {st : St} {s : NumS} (h : NumI src st s) (hc : s.st.ch ≠ 10) : (expSignT src s).sat (NumI src st) := by
  obtain ⟨g1, g2, _⟩ := h.offs.next hc
  have g3 := h.on.trans (on_next src s.st)
  have two : (nextch src s.st).ch ≠ 10 → (expDigT src s (nextch src (nextch src s.st))).sat (NumI src st) := fun hn => by
    obtain ⟨k1, k2, _⟩ := g1.next hn
    exact expDig_sat h k1 (by omega) (g3.trans (on_next _ _))
  refine ⟨fun hx => two ?_, fun _ => ⟨fun hx => two ?_, fun _ => expDig_sat h g1 g2 g3⟩⟩
  · have e : (nextch src s.st).ch = 43 := by simpa using hx
    rw [e]; decide
  · have e : (nextch src s.st).ch = 45 := by simpa using hx
    rw [e]; decide
theorem expErr_I {src : ByteArray} {st : St} {s : NumS} (h : NumI src st s) (e : Int) : NumI src st (expErr (s, e)) ∧ (expErr (s, e)).st.ch = s.st.ch := by
  unfold expErr
  split
  · exact ⟨h.err msgDec rfl rfl rfl, rfl⟩
  · split
    · exact ⟨h.err msgHex rfl rfl rfl, rfl⟩
    · exact ⟨h, rfl⟩
theorem p4T_sat {src : ByteArray} {B : Prop} {st : St} {s : NumS} (hB : B) (h : NumI src st s) : (p4T src B s).sat (NumI src st) := by
  have part : s.st.ch ≠ 10 → (s.ok = true → B ∧ (expSignT src (expErr (s, lowerF s.st.ch))).sat (NumI src st)) ∧ (s.ok = false → (expSignT src s).sat (NumI src st)) := fun hc => by
    obtain ⟨k1, k2⟩ := expErr_I h (lowerF s.st.ch)
    exact ⟨fun _ => ⟨hB, expSign_sat k1 (by rw [k2]; exact hc)⟩, fun _ => expSign_sat h hc⟩
  exact ⟨fun hx => part (low_ten (by decide) hx), fun _ => ⟨fun hx => part (low_ten (by decide) hx), fun _ => ⟨fun _ => ⟨fun _ => ⟨fun _ => h.err msgMant rfl rfl rfl, fun _ => h⟩, fun _ => h⟩, fun _ => h⟩⟩⟩
theorem p45T_sat {src : ByteArray} {st : St} {s : NumS} (h : NumI src st s) : (p45T src s).sat (NumI src st) := by
  refine ⟨fun hx => ?_, fun _ => h⟩
  have e : s.st.ch = 105 := by simpa using hx
  obtain ⟨g1, g2, _⟩ := h.offs.next (by rw [e]; decide)
  have hi := h.inv
  exact ⟨h.base, g1, by show s.inv < 0 ∨ s.inv < (off (nextch src s.st) : Int); omega, h.on.trans (on_next _ _)⟩
/-- Where a literal has been set. -/
def LitI (src : ByteArray) (s : NumS) : Prop := s.st.lit.size ≤ 2048
theorem p5T_sat {src : ByteArray} {st : St} {s : NumS} (h : NumI src st s) : (p5T src s).sat (LitI src) := by
  have hl : (setLitF src s.kind s.ok s.st).lit.size = off s.st := h.offs.seg
  have hs := h.offs.sz; have hn := h.offs.n
  have ho : off s.st ≤ 2048 := by unfold off; omega
  have l1 : LitI src { s with st := setLitF src s.kind s.ok s.st } := by unfold LitI; show (setLitF src s.kind s.ok s.st).lit.size ≤ 2048; omega
  have hi := h.inv
  refine ⟨h.offs.b, fun _ => ⟨fun h1 => ⟨fun _ => ⟨⟨of_decide_eq_true h1, ?_⟩, h.base, ?_⟩, fun _ => l1⟩, fun _ => l1⟩, fun _ => l1⟩
  · have h2 : s.inv ≥ 0 := of_decide_eq_true h1
    rw [hl]; omega
  · show (setLitF src s.kind s.ok s.st).lit.size ≤ 2048
    omega
theorem p6T_sat {src : ByteArray} {s : NumS} (h : LitI src s) : (p6T s).sat (fun _ => True) := by
  have h : s.st.lit.size ≤ 2048 := h
  exact ⟨fun _ => ⟨fun _ => ⟨by omega, fun _ => trivial, fun _ => trivial⟩, fun _ => trivial⟩, fun _ => trivial⟩
end Sc
end Go.Proofs.YtogkcphobhhbdaaDoor

/- The scanner's functions over the plain state: number. -/
namespace Go.Proofs.YtogkcphobhhbdaaDoor
open Go Go.RowKit Go.Lib
namespace Sc
open Ev
set_option maxRecDepth 100000
theorem n1T_noAny (src : ByteArray) (b p d : Int) (r : St × Int × Int) : (n1T src b p d r).noAny := ⟨⟨trivial, trivial, trivial⟩, trivial⟩
theorem p1FT_noAny (src : ByteArray) (st : St) : (p1FT src st).noAny := ⟨⟨n1T_noAny _ _ _ _ _, n1T_noAny _ _ _ _ _, n1T_noAny _ _ _ _ _, n1T_noAny _ _ _ _ _⟩, n1T_noAny _ _ _ _ _⟩
theorem p2T_noAny (src : ByteArray) (s : NumS) : (p2T src s).noAny := ⟨trivial, trivial⟩
theorem p3T_noAny (s : NumS) : (p3T s).noAny := ⟨⟨trivial, trivial⟩, trivial⟩
theorem expDig_noAny (src : ByteArray) (s : NumS) (st : St) : (expDigT src s st).noAny := ⟨⟨trivial, trivial⟩, trivial⟩
theorem expSign_noAny (src : ByteArray) (s : NumS) : (expSignT src s).noAny := ⟨expDig_noAny _ _ _, expDig_noAny _ _ _, expDig_noAny _ _ _⟩
theorem p4T_noAny (src : ByteArray) (B : Prop) (s : NumS) : (p4T src B s).noAny := ⟨⟨expSign_noAny _ _, expSign_noAny _ _⟩, ⟨expSign_noAny _ _, expSign_noAny _ _⟩, ⟨⟨trivial, trivial⟩, trivial⟩, trivial⟩
theorem p45T_noAny (src : ByteArray) (s : NumS) : (p45T src s).noAny := ⟨trivial, trivial⟩
theorem p5T_noAny (src : ByteArray) (s : NumS) : (p5T src s).noAny := ⟨⟨⟨trivial, trivial⟩, trivial⟩, trivial⟩
theorem p6T_noAny (s : NumS) : (p6T s).noAny := ⟨⟨⟨trivial, trivial⟩, trivial⟩, trivial⟩
theorem numTail_noAny (src : ByteArray) (B : Prop) (s : NumS) : (numTail src B Tree.leaf s).noAny :=
  noAny_bind (p2T_noAny _ _) fun _ => noAny_bind (p3T_noAny _) fun _ => noAny_bind (p4T_noAny _ _ _) fun _ => noAny_bind (p45T_noAny _ _) fun _ => noAny_bind (p5T_noAny _ _) fun _ => noAny_bind (p6T_noAny _) fun _ => trivial
theorem numTree_noAny (src : ByteArray) (B : Prop) (seen : Bool) (st : St) : (numTree src B Tree.leaf seen st).noAny := by
  unfold numTree
  split
  · exact numTail_noAny _ _ _
  · exact noAny_bind (p1FT_noAny _ _) fun _ => numTail_noAny _ _ _
theorem p4T_B {src : ByteArray} {B : Prop} {s : NumS} {R : NumS → Prop} (hB : B) (h : (p4T src True s).sat R) : (p4T src B s).sat R :=
  ⟨fun h1 => ⟨fun h2 => ⟨hB, ((h.1 h1).1 h2).2⟩, (h.1 h1).2⟩, fun h1 => ⟨fun h2 => ⟨fun h3 => ⟨hB, (((h.2 h1).1 h2).1 h3).2⟩, ((h.2 h1).1 h2).2⟩, (h.2 h1).2⟩⟩
theorem numTail_k {src : ByteArray} {B : Prop} {α : Type} {k : NumS → Tree α} {s : NumS} {R : NumS → Prop} {Q : α → Prop} (hB : B) (h : (numTail src True Tree.leaf s).sat R) (hk : ∀ s, R s → (k s).sat Q) : (numTail src B k s).sat Q := by
  simp only [numTail, sat_bind] at h ⊢
  exact sat_mono h fun a h => sat_mono h fun a h => p4T_B hB (sat_mono h fun a h => sat_mono h fun a h => sat_mono h fun a h => sat_mono h fun a h => hk a h)
theorem numTree_k {src : ByteArray} {B : Prop} {α : Type} {k : NumS → Tree α} {seen : Bool} {st : St} {R : NumS → Prop} {Q : α → Prop} (hB : B) (h : (numTree src True Tree.leaf seen st).sat R) (hk : ∀ s, R s → (k s).sat Q) : (numTree src B k seen st).sat Q := by
  unfold numTree at *
  split
  · rename_i hs; rw [if_pos hs] at h; exact numTail_k hB h hk
  · rename_i hs
    rw [if_neg hs, sat_bind] at h
    rw [sat_bind]
    exact sat_mono h fun a h => numTail_k hB h hk
def numD : NumS := ⟨st0, false, 0, 0, 0, 0, 0, false⟩
/-- number: its last state. -/
def numS (src : ByteArray) (seen : Bool) (st : St) : NumS := (numTree src True Tree.leaf seen st).get numD
def numberF (src : ByteArray) (seen : Bool) (st : St) : St := numRes (numS src seen st)
/-- What holds behind numbers holds of the last state. -/
theorem num_sat {src : ByteArray} {seen : Bool} {st : St} (h : Off src st) (hc : st.ch ≠ 10) : (numTree src True Tree.leaf seen st).sat (fun _ => True) := by
  have tail : ∀ s, NumI src st s → (numTail src True Tree.leaf s).sat (fun _ => True) := fun s hs => by
    simp only [numTail, sat_bind]
    exact sat_mono (p2T_sat hs) fun a h => sat_mono (p3T_sat h) fun a h => sat_mono (p4T_sat trivial h) fun a h => sat_mono (p45T_sat h) fun a h => sat_mono (p5T_sat h) fun a h => sat_mono (p6T_sat h) fun a _ => trivial
  unfold numTree
  split
  · exact tail _ ⟨.inr (.inr (.inl rfl)), h, .inl (by show (-1 : Int) < 0; decide), On.refl _ _⟩
  · rw [sat_bind]; exact sat_mono (p1FT_sat h hc) fun a ha => tail a ha
theorem num_get {src : ByteArray} {seen : Bool} {st : St} (h : Off src st) (hc : st.ch ≠ 10) {R : NumS → Prop} : (numTree src True Tree.leaf seen st).sat R ↔ R (numS src seen st) := get_sat (numTree_noAny _ _ _ _) (num_sat h hc)
noncomputable def numG (A : Ad) (args : List SV) (c : Core (SY A)) : Tree (SV × Core (SY A)) :=
  match args, c.bx with
  | [.st 0, .ff], [] => .req (Off A.src c.st ∧ c.st.ch ≠ 10) (.leaf (unit, ⟨numberF A.src false c.st, [.int .i64 (numS A.src false c.st).inv]⟩))
  | [.st 0, .tt], [] => .req (Off A.src c.st ∧ c.st.ch ≠ 10) (.leaf (unit, ⟨numberF A.src true c.st, [.int .i64 (numS A.src true c.st).inv]⟩))
  | _, _ => .fail
noncomputable def nmbS (A : Ad) : Smy (SY A) := ⟨76, #[], true, numG A⟩
theorem nm_body : (Tryd.f76).body = some nmBody := by kernel_rfl
theorem nm_res : (Tryd.f76).results.toList = [] := by kernel_rfl
theorem nmbS_ok (A : Ad) (hA : A.Ok) : (nmbS A).Ok := by
  have hend : ∀ (seen : Bool) (st : St) (Q : SV × Core (SY A) → Prop), Off A.src st ∧ st.ch ≠ 10 → Q (unit, ⟨numberF A.src seen st, [.int .i64 (numS A.src seen st).inv]⟩) →
      (numTree A.src (BlkOk (SY A) nmN 1 nmBlk1 (expBlk A)) (numLast A) seen st).sat fun xe => (evEnd Tryd.f76 xe).sat Q := fun seen st Q h hq => by
    refine numTree_k (exp_blk A hA) ((num_get h.1 h.2).2 (rfl : numS A.src seen st = numS A.src seen st)) (fun s hs => ?_)
    have hs : numS A.src seen st = s := hs
    subst hs
    show (match evRes [] (Tryd.f76).results.toList with
      | some r => Tree.leaf (r, (⟨numRes (numS A.src seen st), [.int .i64 (numS A.src seen st).inv]⟩ : Core (SY A)))
      | none => .fail).sat Q
    rw [nm_res]; exact hq
  have one : ∀ (seen : Bool), SumOk (SY A) 76 #[] true (fun args c => match args, c.bx with
      | [.st 0, v], [] => .req (v = (if seen = true then .tt else .ff) ∧ Off A.src c.st ∧ c.st.ch ≠ 10) (.leaf (unit, ⟨numberF A.src seen c.st, [.int .i64 (numS A.src seen c.st).inv]⟩))
      | _, _ => .fail) ∧ GMono (Y := SY A) (fun args c => match args, c.bx with
      | [.st 0, v], [] => .req (v = (if seen = true then .tt else .ff) ∧ Off A.src c.st ∧ c.st.ch ≠ 10) (.leaf (unit, ⟨numberF A.src seen c.st, [.int .i64 (numS A.src seen c.st).inv]⟩))
      | _, _ => .fail) := fun seen => by
    refine ⟨At.fn (Y := SY A) Tryd.func76 nm_body (N := nmN) rfl (π := St) (arg := fun _ => [.st 0, if seen = true then .tt else .ff]) (core := fun st => ⟨st, []⟩) (fun _ => by show 2 ≤ nmN; decide) (num_at A hA seen) (fun args c Q h => ?_), At.fn_mono (fn := Tryd.f76) (num_at A hA seen) (fun args c Q h => ?_)⟩
    · split at h
      · rename_i v hbx
        obtain ⟨st, bx⟩ := c
        have hbx' : bx = [] := hbx
        subst hbx'
        obtain ⟨⟨rfl, h2⟩, h3⟩ := h
        exact ⟨st, rfl, rfl, hend seen st Q h2 h3⟩
      · exact h.elim
    · split at h
      · rename_i v hbx
        obtain ⟨st, bx⟩ := c
        have hbx' : bx = [] := hbx
        subst hbx'
        obtain ⟨⟨rfl, h2⟩, h3⟩ := h
        exact ⟨st, rfl, hend seen st Q h2 h3⟩
      · exact h.elim
  have key := sum_two (A := A) (f := 76) (G := numG A) (one false).1 (one true).1 (one false).2 (one true).2 (fun args c Q h => by
    unfold numG at h
    split at h
    · rename_i hbx
      left
      simp only [hbx]
      exact ⟨⟨rfl, h.1⟩, h.2⟩
    · rename_i hbx
      right
      simp only [hbx]
      exact ⟨⟨rfl, h.1⟩, h.2⟩
    · exact h.elim)
  exact ⟨fun args w => by kernel_rfl, key.1, key.2⟩
end Sc
end Go.Proofs.YtogkcphobhhbdaaDoor

/- A loop over a short text, its characters held against those that are read. -/
namespace Go.Proofs.YtogkcphobhhbdaaDoor
open Go Go.RowKit Go.Lib
namespace Sc
open Ev
set_option maxRecDepth 100000
theorem ety_iterAt {w : World} {it : Nat} {s : ByteArray} {p q : Nat} (h : w.heap[it]? = some (.stringIter s p)) (k : Nat) : ety (w.iterAt it s q) k = ety w k := by
  unfold Ev.ety World.shape?
  by_cases hk : k = it
  · subst hk; rw [Lib.iterAt_heap _ _ _ _ _ h, h]
  · rw [Lib.iterAt_other _ _ _ _ _ hk]
theorem own_iterAt {w : World} {base : Nat} {e : TypeId} {size : Nat} {v : Value} {n : Nat} {xs : List Value} (h : w.ownsRow base e size v n xs) {k : Nat} {s : ByteArray} {p : Nat} (hk : w.heap[k]? = some (.stringIter s p)) (q : Nat) : (w.iterAt k s q).ownsRow base e size v n xs := by
  obtain ⟨h1, h2⟩ := h
  refine ⟨h1, ?_⟩
  rcases h2 with h2 | ⟨g, cap, cur, a, b, c, d⟩
  · exact .inl h2
  · have hne : g ≠ k := fun e1 => by rw [e1, hk] at c; cases c
    exact .inr ⟨g, cap, cur, a, b, by rw [Lib.iterAt_other _ _ _ _ _ hne]; exact c, d⟩
theorem kept_iterAt {A : Ad} {x : Raw} {w : World} (h : RInv A x w) {it : Nat} {s : ByteArray} {p : Nat} (hit : w.heap[it]? = some (.stringIter s p)) (hb : A.base ≤ it) (q : Nat) : Kept A w (w.iterAt it s q) := by
  have := h.ok.s_rd; have := h.ok.rd_buf; have := h.ok.buf_base; have := h.ok.e_s; have := h.ok.sb_e; have := h.ok.lo_s; have := h.ok.lo_sb
  have o : ∀ k, k < A.base → (w.iterAt it s q).heap[k]? = w.heap[k]? := fun k hk => Lib.iterAt_other _ _ _ _ _ (by omega)
  refine ⟨Lib.below_iterAt (Below.refl _ _) (by omega) _ _, fun n v hv xs hown => ⟨by rw [o A.e (by omega)]; exact hv, own_iterAt hown hit q⟩, o _ (by omega), o _ (by omega), o _ (by omega), o _ (by omega), by rw [Lib.iterAt_size]; exact Nat.le_refl _⟩
/-- The scanner's world, an iterator in block it beside it. -/
structure ItInv (A : Ad) (N it : Nat) (s : ByteArray) (p : Nat) (e : E (SY A)) (bl0 bl : List Nat) (w0 : World) (a : Act) (w : World) : Prop where
  inv : InvE (SY A) N e bl a w
  hit : w.heap[it]? = some (.stringIter s p)
  nb : it ∉ bl
  base : A.base ≤ it
  new : w0.heap.size ≤ it
  ext : Ext (SY A) bl0 bl w0 w
theorem it_free {A : Ad} {it : Nat} (hA : A.Ok) (hb : A.base ≤ it) : ¬ (SY A).touch it none := by
  have := hA.s_rd; have := hA.rd_buf; have := hA.buf_base; have := hA.e_s; have := hA.sb_e; have := hA.lo_s; have := hA.lo_sb
  show ¬ (it < A.w0.heap.size ∨ it = A.s ∨ it = A.buf ∨ it = A.rd ∨ it = A.e ∨ it = A.sb ∨ (A.base ≤ it ∧ (none : Option TypeId) = some 59))
  rintro (h | h | h | h | h | h | ⟨_, h⟩)
  · omega
  · omega
  · omega
  · omega
  · omega
  · omega
  · cases h
theorem ety_it {w : World} {it : Nat} {s : ByteArray} {p : Nat} (h : w.heap[it]? = some (.stringIter s p)) : ety w it = none := by unfold Ev.ety World.shape?; rw [h]; rfl
/-- What the evaluator tells of a piece leaves the iterator as it is. -/
theorem ItInv.after {A : Ad} (hA : A.Ok) {N it : Nat} {s : ByteArray} {p : Nat} {e e' : E (SY A)} {bl0 bl bl' : List Nat} {w0 w w' : World} {a a' : Act} (h : ItInv A N it s p e bl0 bl w0 a w) (hI : InvE (SY A) N e' bl' a' w') (hx : Ext (SY A) bl bl' w w') : ItInv A N it s p e' bl0 bl' w0 a' w' := by
  have hlt : it < w.heap.size := (Array.getElem?_eq_some_iff.1 h.hit).1
  refine ⟨hI, ?_, fun hm => ?_, h.base, h.new, h.ext.trans hx⟩
  · rw [hx.fr.keep it hlt (by rw [ety_it h.hit]; exact it_free hA h.base) h.nb]; exact h.hit
  · rcases hx.new it hm with h1 | h1
    · exact h.nb h1
    · omega
theorem rel_iterAt {A : Ad} (hA : A.Ok) {bl : List Nat} {w : World} {it : Nat} {s : ByteArray} {q : Nat} (hb : A.base ≤ it) {sv : SV} {v : Value} (h : Rel (SY A) bl w sv v) : Rel (SY A) bl (w.iterAt it s q) sv v :=
  rel_ext h (List.prefix_refl _) (fun o => World.cell?_of_block (w := w) (a := ⟨A.buf, o, none⟩) (Lib.iterAt_other _ _ _ _ _ (by have := hA.buf_base; show A.buf ≠ it; omega)))
/-- The iterator goes on. -/
theorem ItInv.step {A : Ad} (hA : A.Ok) {N it : Nat} {s : ByteArray} {p : Nat} {e : E (SY A)} {bl0 bl : List Nat} {w0 w : World} {a : Act} (h : ItInv A N it s p e bl0 bl w0 a w) (q : Nat) : ItInv A N it s q e bl0 bl w0 a (w.iterAt it s q) := by
  obtain ⟨x, hx, ha⟩ := h.inv.core.inv
  have hk := kept_iterAt hx h.hit h.base q
  have ho : ∀ k, k ≠ it → (w.iterAt it s q).heap[k]? = w.heap[k]? := fun k hk => Lib.iterAt_other _ _ _ _ _ hk
  refine ⟨⟨⟨⟨x, hx.kept hk, ha⟩, h.inv.core.len, h.inv.core.nd, fun i b u hb hu => ?_, fun b hb => ?_⟩, h.inv.defers, h.inv.size, fun i => rel_iterAt hA h.base (h.inv.rel i)⟩, Lib.iterAt_heap _ _ _ _ _ h.hit, h.nb, h.base, h.new, ?_⟩
  · have hbi : b ≠ it := fun e => h.nb (by rw [← e]; exact List.mem_of_getElem? hb)
    have := h.inv.core.cell i b u hb hu
    rw [World.cell?_of_block (w := w) (a := ⟨b, 0, none⟩) (ho b hbi), World.frozen?_of_block (w := w) (a := ⟨b, 0, none⟩) (ho b hbi)]
    exact this
  · have := h.inv.core.free b hb
    rw [ety_iterAt h.hit, Lib.iterAt_size]
    exact this
  · refine ⟨⟨h.ext.fr.os, h.ext.fr.tape, h.ext.fr.output, by rw [Lib.iterAt_size]; exact h.ext.fr.size, fun k hk => by rw [ety_iterAt h.hit]; exact h.ext.fr.ty k hk, fun k hk ht hb => ?_⟩, h.ext.pre, h.ext.new⟩
    rw [ho k (by have := h.new; omega)]
    exact h.ext.fr.keep k hk ht hb
/-- A slot is set to a plain value. -/
theorem ItInv.put {A : Ad} {N it : Nat} {s : ByteArray} {p : Nat} {c : Core (SY A)} {tm : List (Nat × SV)} {bl0 bl : List Nat} {w0 w : World} {a : Act} (h : ItInv A N it s p ⟨c, tm⟩ bl0 bl w0 a w) {d : Nat} (hd : dstOk N (some d) = true) (v : Value) : ItInv A N it s p ⟨c, (d, .val v) :: tm⟩ bl0 bl w0 (a.put (some d) v) w :=
  ⟨⟨h.inv.core, by rw [put_defers]; exact h.inv.defers, by rw [put_size]; exact h.inv.size, rels_put (d := some d) (sv := .val v) h.inv.size hd h.inv.rel rfl⟩, h.hit, h.nb, h.base, h.new, h.ext⟩
/-- Reading on while the characters are these: were they all? -/
def pfxF (src : ByteArray) : List Int → St → Bool × St
  | [], st => (true, st)
  | r :: rs, st => if st.ch = r then pfxF src rs (nextch src st) else (false, st)
def headTm (tI it : Nat) : List (Nat × SV) := [(0, .st 0), (tI, .val (.pointer (some ⟨it, 0, none⟩)))]
/-- One look at the iterator. -/
theorem next_wp {A : Ad} (hA : A.Ok) {N it tI tK tB id : Nat} {s : ByteArray} {p : Nat} {c : Core (SY A)} {bl0 bl : List Nat} {w0 w : World} {a : Act} (hI : ItInv A N it s p ⟨c, headTm tI it⟩ bl0 bl w0 a w)
    {o1 o2 : Oper} (g1 : o1.guard = none) (g2 : o2.guard = none) (d1 : o1.dst = some tK) (d2 : o2.dst = some tB) (e1 : o1.op = .next (.tmp tI) true) (e2 : o2.op = .extract (.tmp tK) 0) (k1 : dstOk N (some tK) = true) (k2 : dstOk N (some tB) = true) (hK : tI ≠ 0)
    {Qx : Exit → Act → World → Prop}
    (hmore : p < s.size → ∀ a' w', ItInv A N it s (p + (Utf8.decode s p).2) ⟨c, (tB, .val (.bool true)) :: (tK, .val (.tuple #[.bool true, .int .i64 p, .int .i32 (Utf8.decode s p).1])) :: headTm tI it⟩ bl0 bl w0 a' w' → Qx .normal a' w')
    (hend : ¬ p < s.size → ∀ a' w', ItInv A N it s p ⟨c, (tB, .val (.bool false)) :: (tK, .val (.tuple #[.bool false])) :: headTm tI it⟩ bl0 bl w0 a' w' → Qx .normal a' w') :
    (Code.region id #[o1, o2] false).wp Tryd.prog Qx a w := by
  have hslot : a.tmps.getD tI undef = .pointer (some ⟨it, 0, none⟩) := by
    have := hI.inv.rel tI
    have hl : Ev.look (headTm tI it) tI = .val (.pointer (some ⟨it, 0, none⟩)) := by
      unfold headTm; rw [look_cons, if_neg hK, look_cons, if_pos rfl]
    simp only [hl] at this
    exact this
  have ex : ∀ (vs : Array Value) (v : Value) (w' : World), vs[0]? = some v → ∀ a', a' = a.put (some tK) (.tuple vs) → (∀ K : Act → World → Prop, K (a'.put (some tB) v) w' → o2.wp Tryd.prog a' w' K Qx) := by
    intro vs v w' hv a' ha' K hk
    have hs : a'.eval (.tmp tK) = .tuple vs := by
      rw [ha']
      have hlt : tK < a.tmps.size := by rw [hI.inv.size]; exact Nat.le_of_ble_eq_true k1
      simp [Act.eval, Act.put, hlt]
    unfold Oper.wp
    have : (execOp a'.eval o2).run Tryd.prog w' = .ok (.value v) w' := by
      unfold execOp
      simp only [e2, hs]
      simp [Instr.extract, hv]
    rw [this, Oper.upon_value, d2]
    exact hk
  refine wp_region_list ?_
  show wpList Tryd.prog #[o1, o2] Qx [o1, o2] a w
  unfold wpList
  rw [if_pos (by simp [Region.wanted, g1])]
  refine .inl ?_
  unfold Oper.wp
  by_cases hp : p < s.size
  · have hrun : (execOp a.eval o1).run Tryd.prog w = .ok (.value (.tuple #[.bool true, .int .i64 p, .int .i32 (Utf8.decode s p).1])) (w.iterAt it s (p + (Utf8.decode s p).2)) := by
      unfold execOp
      simp only [e1]
      have he : a.eval (.tmp tI) = .pointer (some ⟨it, 0, none⟩) := hslot
      rw [he]
      have := Lib.run_next_any_at (P := Tryd.prog) w it s p o1.type hI.hit hp
      simp [this]
    rw [hrun, Oper.upon_value, d1]
    unfold wpList
    rw [if_pos (by simp [Region.wanted, g2])]
    refine .inl (ex _ (.bool true) _ rfl _ rfl _ ?_)
    unfold wpList
    exact hmore hp _ _ (((hI.step hA _).put k1 _).put k2 _)
  · have hrun : (execOp a.eval o1).run Tryd.prog w = .ok (.value (.tuple #[.bool false])) w := by
      unfold execOp
      simp only [e1]
      have he : a.eval (.tmp tI) = .pointer (some ⟨it, 0, none⟩) := hslot
      rw [he]
      have := Lib.run_next_end_at (P := Tryd.prog) w it s p o1.type hI.hit hp
      simp [this]
    rw [hrun, Oper.upon_value, d1]
    unfold wpList
    rw [if_pos (by simp [Region.wanted, g2])]
    refine .inl (ex _ (.bool false) _ rfl _ rfl _ ?_)
    unfold wpList
    exact hend hp _ _ ((hI.put k1 _).put k2 _)
end Sc
end Go.Proofs.YtogkcphobhhbdaaDoor

/- A loop over a short text: told. -/
namespace Go.Proofs.YtogkcphobhhbdaaDoor
open Go Go.RowKit Go.Lib
namespace Sc
open Ev
set_option maxRecDepth 100000
/-- The characters of a text from p on. -/
def runesAt (s : ByteArray) : Nat → Nat → List Int
  | 0, _ => []
  | n + 1, p => if p < s.size then ((Utf8.decode s p).1 : Int) :: runesAt s n (p + (Utf8.decode s p).2) else []
/-- Where all have been read: on; else: out, by φ. -/
noncomputable def pfxT (A : Ad) (φ : St → St) (bx : List Value) (r : Bool × St) : Tree (Ex × E (SY A)) := .test r.1 (.leaf (.normal, at0 A (r.2, bx))) (.leaf (.ret, ⟨⟨φ r.2, bx⟩, []⟩))
structure RangeCode (N tI tK tB id : Nat) (b rest : Code) : Prop where
  shape : ∃ idR o1 o2, b = .seq (.region idR #[o1, o2] false) rest ∧ o1.guard = none ∧ o2.guard = none ∧ o1.dst = some tK ∧ o2.dst = some tB ∧ o1.op = .next (.tmp tI) true ∧ o2.op = .extract (.tmp tK) 0
  k1 : dstOk N (some tK) = true
  k2 : dstOk N (some tB) = true
  hI : tI ≠ 0
noncomputable def moreIn (A : Ad) (tI tK tB it p : Nat) (r : Int) (q : St × List Value) : E (SY A) := ⟨⟨q.1, q.2⟩, (tB, .val (.bool true)) :: (tK, .val (.tuple #[.bool true, .int .i64 p, .int .i32 r])) :: headTm tI it⟩
noncomputable def endIn (A : Ad) (tI tK tB it : Nat) (q : St × List Value) : E (SY A) := ⟨⟨q.1, q.2⟩, (tB, .val (.bool false)) :: (tK, .val (.tuple #[.bool false])) :: headTm tI it⟩
theorem range_rounds {A : Ad} (hA : A.Ok) {N tI tK tB id : Nat} {b rest : Code} (hc : RangeCode N tI tK tB id b rest) (s : ByteArray) (φ : St → St) (hφ : ∀ st, st.notes.length ≤ (φ st).notes.length)
    (h1 : ∀ (it p : Nat) (r : Int), At (SY A) N rest (moreIn A tI tK tB it p r) (fun q => .test (q.1.ch != r) (.leaf (.ret, ⟨⟨φ q.1, q.2⟩, []⟩)) (.leaf (.normal, ⟨⟨nextch A.src q.1, q.2⟩, headTm tI it⟩))))
    (h0 : ∀ it : Nat, At (SY A) N rest (endIn A tI tK tB it) (fun q => .leaf (.exit id, at0 A q))) {it : Nat} {bl0 : List Nat} {w0 : World} {Q : Ex × E (SY A) → Prop} (bx : List Value) :
    ∀ (n p : Nat) (st : St) (bl : List Nat) (a : Act) (w : World), ItInv A N it s p ⟨⟨st, bx⟩, headTm tI it⟩ bl0 bl w0 a w → (pfxT A φ bx (pfxF A.src (runesAt s n p) st)).sat Q → s.size - p < n →
      Code.rounds Tryd.prog b (Exit.inBlock id (Post (SY A) N Q bl0 w0)) n a w := by
  obtain ⟨idR, o1, o2, rfl, g1, g2, d1, d2, e1, e2⟩ := hc.shape
  intro n
  induction n with
  | zero => intro p st bl a w _ _ h; omega
  | succ n ih =>
    intro p st bl a w hI hs hn
    rw [rounds_succ]
    refine wp_seq (next_wp hA hI g1 g2 d1 d2 e1 e2 hc.k1 hc.k2 hc.hI (fun hp a' w' hI' => ?_) (fun hp a' w' hI' => ?_))
    · show rest.wp Tryd.prog _ a' w'
      simp only [runesAt, if_pos hp, pfxF] at hs
      have hd := dec_pos s p
      refine wp_mono ((h1 it p (Utf8.decode s p).1).wp (st, bx) bl a' w' (fun xe => match xe.1 with
        | .normal => xe.2 = ⟨⟨nextch A.src st, bx⟩, headTm tI it⟩ ∧ (pfxT A φ bx (pfxF A.src (runesAt s n (p + (Utf8.decode s p).2)) (nextch A.src st))).sat Q
        | .ret => Q xe
        | _ => False) hI'.inv ?_) ?_
      · refine ⟨fun hne => ?_, fun he => ?_⟩
        · have hne' : ¬ st.ch = ((Utf8.decode s p).1 : Int) := by simpa using hne
          rw [if_neg hne'] at hs
          exact hs.2 rfl
        · have he' : st.ch = ((Utf8.decode s p).1 : Int) := by simpa using he
          rw [if_pos he'] at hs
          exact ⟨rfl, hs⟩
      · rintro ex a1 w1 (⟨x1, e1', bl1, hq, rfl, hI1, hext1⟩ | ⟨rfl, ⟨x1, e1'⟩, hq, hb1⟩)
        · obtain ⟨⟩ | ⟨i⟩ | ⟨l⟩ | ⟨⟩ := x1
          · obtain ⟨rfl, hq⟩ := hq
            exact ih _ _ _ _ _ (hI'.after hA hI1 hext1) hq (by omega)
          · exact hq.elim
          · exact hq.elim
          · exact .inl ⟨.ret, _, _, hq, rfl, hI1, hI'.ext.trans hext1⟩
        · refine .inr ⟨rfl, ?_⟩
          obtain ⟨⟩ | ⟨i⟩ | ⟨l⟩ | ⟨⟩ := x1
          · obtain ⟨rfl, hq⟩ := hq
            have key : ∀ (rs : List Int) (st : St), lim ≤ st.notes.length → (pfxT A φ bx (pfxF A.src rs st)).sat Q → ∃ q, Q q ∧ (SY A).big q.2.c.st := by
              intro rs
              induction rs with
              | nil => intro st hb h; exact ⟨_, h.1 rfl, hb⟩
              | cons r rs ihr =>
                intro st hb h
                simp only [pfxF] at h
                split at h
                · exact ihr _ (Nat.le_trans hb (nextch_len A.src st)) h
                · exact ⟨_, h.2 rfl, Nat.le_trans hb (hφ st)⟩
            exact key _ _ hb1 hq
          · exact hq.elim
          · exact hq.elim
          · exact ⟨_, hq, hb1⟩
    · show rest.wp Tryd.prog _ a' w'
      simp only [runesAt, if_neg hp, pfxF] at hs
      refine wp_mono ((h0 it).wp (st, bx) bl a' w' (fun xe => xe = (.exit id, at0 A (st, bx)) ∧ Q (.normal, at0 A (st, bx))) hI'.inv ⟨rfl, hs.1 rfl⟩) ?_
      rintro ex a1 w1 (⟨x1, e1', bl1, ⟨hq, hq2⟩, rfl, hI1, hext1⟩ | ⟨rfl, ⟨x1, e1'⟩, ⟨hq, hq2⟩, hb1⟩)
      · simp only [Prod.mk.injEq] at hq
        obtain ⟨rfl, rfl⟩ := hq
        simp only [Ex.toExit, Exit.then, Exit.inBlock, if_true]
        exact .inl ⟨.normal, _, _, hq2, rfl, hI1, hI'.ext.trans hext1⟩
      · simp only [Prod.mk.injEq] at hq
        obtain ⟨rfl, rfl⟩ := hq
        exact .inr ⟨rfl, _, hq2, hb1⟩
theorem pfxT_mono {A : Ad} {φ : St → St} (hφ : ∀ st, st.notes.length ≤ (φ st).notes.length) {bx : List Value} {Q : Ex × E (SY A) → Prop} : ∀ (rs : List Int) (st : St), lim ≤ st.notes.length → (pfxT A φ bx (pfxF A.src rs st)).sat Q → ∃ q, Q q ∧ (SY A).big q.2.c.st
  | [], st, hb, h => ⟨_, h.1 rfl, hb⟩
  | r :: rs, st, hb, h => by
    simp only [pfxF] at h
    split at h
    · exact pfxT_mono hφ rs _ (Nat.le_trans hb (nextch_len A.src st)) h
    · exact ⟨_, h.2 rfl, Nat.le_trans hb (hφ st)⟩
/-- The range over a text, whole: its beginning R comes to an iterator. -/
theorem range_at {A : Ad} (hA : A.Ok) {N tI tK tB id : Nat} {R b rest : Code} (hc : RangeCode N tI tK tB id b rest) (s : ByteArray) (φ : St → St) (hφ : ∀ st, st.notes.length ≤ (φ st).notes.length)
    (h1 : ∀ (it p : Nat) (r : Int), At (SY A) N rest (moreIn A tI tK tB it p r) (fun q => .test (q.1.ch != r) (.leaf (.ret, ⟨⟨φ q.1, q.2⟩, []⟩)) (.leaf (.normal, ⟨⟨nextch A.src q.1, q.2⟩, headTm tI it⟩))))
    (h0 : ∀ it : Nat, At (SY A) N rest (endIn A tI tK tB it) (fun q => .leaf (.exit id, at0 A q))) {F : St × List Value → E (SY A)} (hF : ∀ q, (F q).c = ⟨q.1, q.2⟩)
    (hR : ∀ (q : St × List Value) (bl : List Nat) (a : Act) (w : World) (Qx : Exit → Act → World → Prop), InvE (SY A) N (F q) bl a w → (∀ a' w', ItInv A N w.heap.size s 0 ⟨⟨q.1, q.2⟩, headTm tI w.heap.size⟩ bl bl w a' w' → Qx .normal a' w') → R.wp Tryd.prog Qx a w) :
    At (SY A) N (.seq R (.block id (.loop b))) F (fun q => pfxT A φ q.2 (pfxF A.src (runesAt s (s.size + 1) 0) q.1)) where
  mono := fun q Q hb hs => pfxT_mono hφ _ _ (by rw [hF] at hb; exact hb) hs
  wp := fun q bl a w Q hI hs => by
    refine wp_seq (hR q bl a w _ hI (fun a' w' hI' => ?_))
    show (Code.block id (.loop b)).wp Tryd.prog _ a' w'
    exact wp_block (wp_loop_rounds (s.size + 1) (range_rounds hA hc s φ hφ h1 h0 q.2 (s.size + 1) 0 q.1 bl a' w' hI' hs (by omega)))
end Sc
end Go.Proofs.YtogkcphobhhbdaaDoor

/- The scanner's functions over the plain state: remarks that may name a line. -/
namespace Go.Proofs.YtogkcphobhhbdaaDoor
open Go Go.RowKit Go.Lib
namespace Sc
open Ev
set_option maxRecDepth 100000
/-! Reading on, all of it -/
theorem starsF_on (src : ByteArray) (st : St) : On src st (starsF src st).2 := by
  unfold starsF
  refine runF_on (body := starsB src) (μ := left src) (fun a => a) (fun q : Bool × St => q.2) (fun _ => True) (fun a _ => ⟨fun h => ⟨fun _ => (on_next _ _).trans (on_next _ _), fun _ => ⟨⟨trivial, on_next _ _⟩, nextch_left src a (fun e => by rw [e] at h; cases h)⟩⟩, fun _ => On.refl _ _⟩) st trivial
theorem scF_on (src : ByteArray) (st : St) : On src st (scF src st).2 := by
  unfold scF
  refine runF_on (body := scB src) (μ := left src) (fun a => a) (fun q : Bool × St => q.2) (fun _ => True) (fun a _ => ?_) st trivial
  have on := scB_on src a
  exact ⟨fun h => ⟨fun _ => starsF_on src a, fun h2 => ⟨⟨trivial, (starsF_on src a).trans (on_next _ _)⟩, (on.1 h).2 h2⟩⟩, fun _ => On.refl _ _⟩
theorem skipCommentF_on (src : ByteArray) (st : St) : On src st (skipCommentF src st).2 := by
  unfold skipCommentF
  split
  · exact scF_on src st
  · exact (scF_on src st).trans (on_errorAt _ _ _ _)
theorem pfxF_on (src : ByteArray) : ∀ (rs : List Int) (st : St), On src st (pfxF src rs st).2
  | [], st => On.refl _ _
  | r :: rs, st => by
    simp only [pfxF]
    split
    · exact (on_next _ _).trans (pfxF_on src rs _)
    · exact On.refl _ _
/-! The range's beginning -/
theorem ItInv.begin {A : Ad} (hA : A.Ok) {N : Nat} {e : E (SY A)} {bl : List Nat} {a : Act} {w : World} (h : InvE (SY A) N e bl a w) (s : ByteArray) {tI : Nat} (hd : dstOk N (some tI) = true) (h0 : Ev.look e.tm 0 = .st 0) (hI : tI ≠ 0) :
    ItInv A N w.heap.size s 0 ⟨e.c, headTm tI w.heap.size⟩ bl bl w (a.put (some tI) (.pointer (some ⟨w.heap.size, 0, none⟩))) (w.iter s 0) := by
  obtain ⟨x, hx, ha⟩ := h.core.inv
  have hk := kept_alloc hx (.stringIter s 0)
  have l1 := lt_s hx
  have l2 := lt_buf hx
  have hsz := hx.hsize
  have hC : InvC (SY A) bl e.c (w.iter s 0) := by
    refine ⟨⟨x, hx.kept hk, ha⟩, h.core.len, h.core.nd, fun i b u hb hu => ?_, fun b hb => ?_⟩
    · have hlt := (h.core.free b (List.mem_of_getElem? hb)).2
      show (w.alloc _).cell? _ = _ ∧ (w.alloc _).frozen? _ = _
      rw [World.cell?_alloc_lt _ _ _ hlt, World.frozen?_alloc_old _ _ _ (Nat.ne_of_lt hlt)]
      exact h.core.cell i b u hb hu
    · show ¬ _ ∧ b < (w.alloc _).heap.size
      rw [show ety (w.iter s 0) b = ety w b from ety_alloc_lt _ _ _ (h.core.free b hb).2]
      exact ⟨(h.core.free b hb).1, by simp; have := (h.core.free b hb).2; omega⟩
  have hrel : ∀ i, Rel (SY A) bl (w.iter s 0) (Ev.look e.tm i) (a.tmps.getD i undef) := fun i => rel_ext (h.rel i) (List.prefix_refl _) (fun o => World.cell?_alloc_lt (w := w) (a := ⟨A.buf, o, none⟩) _ (by show A.buf < _; omega))
  have h1 : InvE (SY A) N ⟨e.c, (tI, .val (.pointer (some ⟨w.heap.size, 0, none⟩))) :: e.tm⟩ bl (a.put (some tI) (.pointer (some ⟨w.heap.size, 0, none⟩))) (w.iter s 0) :=
    ⟨hC, by rw [put_defers]; exact h.defers, by rw [put_size]; exact h.size, rels_put (d := some tI) (sv := .val _) h.size hd hrel rfl⟩
  refine ⟨h1.lax (lax_of rfl ⟨.inl ?_, .inl ?_, trivial⟩), World.iter_heap w s 0, fun hm => ?_, ?_, Nat.le_refl _, ⟨fr_alloc _ _, List.prefix_refl _, fun b hb => .inl hb⟩⟩
  · show Ev.look ((tI, _) :: e.tm) 0 = _
    rw [look_cons, if_neg (fun e => hI e.symm)]; exact h0
  · show Ev.look ((tI, _) :: e.tm) tI = _
    rw [look_cons, if_pos rfl]
  · exact absurd (h.core.free _ hm).2 (Nat.lt_irrefl _)
  · have := hx.below.size; omega
theorem range1_wp {A : Ad} (hA : A.Ok) {N tI id : Nat} {o : Oper} {s : ByteArray} (hg : o.guard = none) (hd : o.dst = some tI) (k1 : dstOk N (some tI) = true) (hI : tI ≠ 0) {e : E (SY A)} {bl : List Nat} {a : Act} {w : World} (h : InvE (SY A) N e bl a w) (h0 : Ev.look e.tm 0 = .st 0)
    (ho : (execOp a.eval o).run Tryd.prog w = .ok (.value (.pointer (some ⟨w.heap.size, 0, none⟩))) (w.iter s 0)) {Qx : Exit → Act → World → Prop} (hQ : ∀ a' w', ItInv A N w.heap.size s 0 ⟨e.c, headTm tI w.heap.size⟩ bl bl w a' w' → Qx .normal a' w') :
    (Code.region id #[o] false).wp Tryd.prog Qx a w := by
  refine wp_region_list ?_
  show wpList Tryd.prog #[o] Qx [o] a w
  unfold wpList
  rw [if_pos (by simp [Region.wanted, hg])]
  refine .inl ?_
  unfold Oper.wp
  rw [ho, Oper.upon_value, hd]
  unfold wpList
  exact hQ _ _ (ItInv.begin hA h s k1 h0 hI)
theorem range2_wp {A : Ad} (hA : A.Ok) {N tS tM tI id ty : Nat} {o1 o2 : Oper} {s : ByteArray} (g1 : o1.guard = none) (g2 : o2.guard = none) (d1 : o1.dst = some tM) (d2 : o2.dst = some tI) (e1 : o1.op = .move (.tmp tS)) (e2 : o2.op = .range ty (.tmp tM)) (hty : Tryd.prog.underlying ty = some .string)
    (k1 : dstOk N (some tM) = true) (k2 : dstOk N (some tI) = true) (hM : tM ≠ 0) (hI : tI ≠ 0) {e : E (SY A)} {bl : List Nat} {a : Act} {w : World} (h : InvE (SY A) N e bl a w) (h0 : Ev.look e.tm 0 = .st 0) (hs : Ev.look e.tm tS = .val (.string s))
    {Qx : Exit → Act → World → Prop} (hQ : ∀ a' w', ItInv A N w.heap.size s 0 ⟨e.c, headTm tI w.heap.size⟩ bl bl w a' w' → Qx .normal a' w') :
    (Code.region id #[o1, o2] false).wp Tryd.prog Qx a w := by
  refine wp_region_list ?_
  show wpList Tryd.prog #[o1, o2] Qx [o1, o2] a w
  have hv : a.tmps.getD tS undef = .string s := by
    have := h.rel tS
    rw [hs] at this
    exact this
  unfold wpList
  rw [if_pos (by simp [Region.wanted, g1])]
  refine .inl ?_
  unfold Oper.wp
  have r1 : (execOp a.eval o1).run Tryd.prog w = .ok (.value (.string s)) w := by
    unfold execOp
    simp only [e1]
    have he : a.eval (.tmp tS) = .string s := hv
    rw [he]
    simp
  rw [r1, Oper.upon_value, d1]
  have h2 : InvE (SY A) N ⟨e.c, (tM, .val (.string s)) :: e.tm⟩ bl (a.put (some tM) (.string s)) w :=
    ⟨h.core, by rw [put_defers]; exact h.defers, by rw [put_size]; exact h.size, rels_put (d := some tM) (sv := .val _) h.size k1 h.rel rfl⟩
  unfold wpList
  rw [if_pos (by simp [Region.wanted, g2])]
  refine .inl ?_
  unfold Oper.wp
  have r2 : (execOp (a.put (some tM) (.string s)).eval o2).run Tryd.prog w = .ok (.value (.pointer (some ⟨w.heap.size, 0, none⟩))) (w.iter s 0) := by
    unfold execOp
    simp only [e2]
    have he : (a.put (some tM) (.string s)).eval (.tmp tM) = .string s := by
      have hlt : tM < a.tmps.size := by rw [h.size]; exact Nat.le_of_ble_eq_true k1
      simp [Act.eval, Act.put, hlt]
    rw [he]
    simp [run_range_string _ _ _ hty]
  rw [r2, Oper.upon_value, d2]
  unfold wpList
  refine hQ _ _ (ItInv.begin hA h2 s k2 ?_ hI)
  show Ev.look ((tM, _) :: e.tm) 0 = _
  rw [look_cons, if_neg (fun e => hM e.symm)]; exact h0
end Sc
end Go.Proofs.YtogkcphobhhbdaaDoor

/- The scanner's functions over the plain state: lineComment, fullComment. -/
namespace Go.Proofs.YtogkcphobhhbdaaDoor
open Go Go.RowKit Go.Lib
namespace Sc
open Ev
set_option maxRecDepth 100000
def mB (m k : Int) : Int := IntKind.u64.wrap ↑(BitVec.ofInt IntKind.u64.bits m &&& BitVec.ofInt IntKind.u64.bits k).toNat
def lcTxt (src : ByteArray) (st : St) : St := commentF (seg src (skip src notLine st)) (skip src notLine st)
def lcSkip (src : ByteArray) (st : St) : St := skip src notLine (stop st)
def fcTxt (src : ByteArray) (st : St) : St := if (skipCommentF src st).1 = true then commentF (seg src (skipCommentF src st).2) (skipCommentF src st).2 else (skipCommentF src st).2
def fcSkip (src : ByteArray) (st : St) : St := (skipCommentF src (stop st)).2
/-- A word ahead: if all of it is there, ψ; else φ. -/
def pfxGo (src : ByteArray) (s : ByteArray) (φ ψ : St → St) (st : St) : St :=
  if (pfxF src (runesAt s (s.size + 1) 0) st).1 = true then ψ (pfxF src (runesAt s (s.size + 1) 0) st).2 else φ (pfxF src (runesAt s (s.size + 1) 0) st).2
def goW : ByteArray := ByteArray.mk #[103, 111, 58]
def lineW : ByteArray := ByteArray.mk #[108, 105, 110, 101, 32]
/-- lineComment. -/
def lineCommentF (src : ByteArray) (st : St) : St :=
  if mB st.mode 1 ≠ 0 then lcTxt src st else if mB st.mode 2 = 0 ∨ (st.ch ≠ 103 ∧ st.ch ≠ 108) then lcSkip src st
  else pfxGo src (if st.ch = 108 then lineW else goW) (lcSkip src) (lcTxt src) st
/-- fullComment. -/
def fullCommentF (src : ByteArray) (st : St) : St :=
  if mB st.mode 1 ≠ 0 then fcTxt src st else if mB st.mode 2 = 0 ∨ st.ch ≠ 108 then fcSkip src st
  else pfxGo src lineW (fcSkip src) (fcTxt src) st
theorem lcTxt_on (src : ByteArray) (st : St) : On src st (lcTxt src st) := (on_skip _ _ _).trans (on_errAt _ _ _ _ _)
theorem fcTxt_on (src : ByteArray) (st : St) : On src st (fcTxt src st) := by
  unfold fcTxt
  split
  · exact (skipCommentF_on _ _).trans (on_errAt _ _ _ _ _)
  · exact skipCommentF_on _ _
theorem lcSkip_len (src : ByteArray) (st : St) : st.notes.length ≤ (lcSkip src st).notes.length := (on_skip src notLine (stop st)).len
theorem fcSkip_len (src : ByteArray) (st : St) : st.notes.length ≤ (fcSkip src st).notes.length := (skipCommentF_on src (stop st)).len
theorem pfxGo_len {src s : ByteArray} {φ ψ : St → St} (hφ : ∀ st, st.notes.length ≤ (φ st).notes.length) (hψ : ∀ st, st.notes.length ≤ (ψ st).notes.length) (st : St) : st.notes.length ≤ (pfxGo src s φ ψ st).notes.length := by
  have := (pfxF_on src (runesAt s (s.size + 1) 0) st).len
  unfold pfxGo
  split
  · exact Nat.le_trans this (hψ _)
  · exact Nat.le_trans this (hφ _)
theorem lineComment_len (src : ByteArray) (st : St) : st.notes.length ≤ (lineCommentF src st).notes.length := by
  unfold lineCommentF
  split
  · exact (lcTxt_on _ _).len
  · split
    · exact lcSkip_len _ _
    · exact pfxGo_len (lcSkip_len src) (fun st => (lcTxt_on src st).len) st
theorem fullComment_len (src : ByteArray) (st : St) : st.notes.length ≤ (fullCommentF src st).notes.length := by
  unfold fullCommentF
  split
  · exact (fcTxt_on _ _).len
  · split
    · exact fcSkip_len _ _
    · exact pfxGo_len (fcSkip_len src) (fun st => (fcTxt_on src st).len) st
theorem lax_trans {Y : Ev.Sys} {e e' e'' : E Y} (h : Lax e e') (h' : Lax e' e'') : Lax e e'' := by
  refine ⟨h'.1.trans h.1, fun i => ?_⟩
  rcases h'.2 i with h1 | h1 | ⟨v, h1, h2⟩
  · exact .inl h1
  · rw [h1]; exact h.2 i
  · rcases h.2 i with h3 | h3 | ⟨u, h3, h4⟩
    · rw [h3] at h1; cases h1
    · rw [h3] at h1; exact .inr (.inr ⟨v, h1, h2⟩)
    · rw [h4] at h1
      have : u = v := by simpa [toVal] using h1
      subst this
      exact .inr (.inr ⟨u, h3, h2⟩)
/-- A body up to a cut, pared. -/
theorem At.cutP {Y : Ev.Sys} (hY : Laws Y) {C : Cfg Y} (hC : C.Ok) {c : Code} (n : Nat) (hc : hasCut n c = true) {π ρ : Type} {F : π → E Y} {F' : ρ → E Y} {gb : ρ → Tree (Ex × E Y)} (hB : At Y C.N (cutTail n c) F' gb) (keep : Ex → List Nat)
    {g : π → Tree (Ex × E Y)} (h : ∀ p (Q : Ex × E Y → Prop), (g p).sat Q → ((evCode C (cutHead n c) (F p)).bind (fun xe => .leaf (xe.1, pare (keep xe.1) xe.2))).sat fun xe => match xe.1 with
      | .normal => ∃ q, Lax xe.2 (F' q) ∧ (gb q).sat Q
      | _ => Q xe) : At Y C.N c F g := by
  have h2 : ∀ p (Q : Ex × E Y → Prop), (g p).sat Q → (evCode C (cutHead n c) (F p)).sat fun xe => match xe.1 with
      | .normal => ∃ q, Lax xe.2 (F' q) ∧ (gb q).sat (fun xe => ∃ e', Lax xe.2 e' ∧ Q (xe.1, e'))
      | _ => ∃ e', Lax xe.2 e' ∧ Q (xe.1, e') := fun p Q hs => by
    have h1 := h p Q hs
    rw [sat_bind] at h1
    refine sat_mono h1 (fun xe hx => ?_)
    obtain ⟨x, e⟩ := xe
    obtain ⟨⟩ | ⟨i⟩ | ⟨l⟩ | ⟨⟩ := x
    · obtain ⟨q, hl, hq⟩ := hx
      exact ⟨q, lax_trans (lax_pare _ _) hl, sat_mono hq (fun xe hq => ⟨_, Lax.refl _, hq⟩)⟩
    · exact ⟨_, lax_pare _ _, hx⟩
    · exact ⟨_, lax_pare _ _, hx⟩
    · exact ⟨_, lax_pare _ _, hx⟩
  constructor
  · intro p bl a w Q hI hs
    refine wp_mono (cut_wp hY hC n c _ _ (head_has hc) hB (F p) bl a w (fun xe => ∃ e', Lax xe.2 e' ∧ Q (xe.1, e')) hI (sat_mono (h2 p Q hs) (fun xe hx => ?_))) (fun _ _ _ hp => post_lax hp)
    obtain ⟨x, e⟩ := xe
    obtain ⟨⟩ | ⟨i⟩ | ⟨l⟩ | ⟨⟩ := x <;> exact hx
  · intro p Q hb hs
    obtain ⟨⟨x2, e2⟩, hq2, hb2⟩ := code_mono hY hC (cutHead n c) (F p) _ hb (h2 p Q hs)
    have fin : ∀ (x : Ex) (e : E Y), (∃ e', Lax e e' ∧ Q (x, e')) → Y.big e.c.st → ∃ q, Q q ∧ Y.big q.2.c.st := fun x e ⟨e', hl, hq⟩ hb => ⟨_, hq, by show Y.big e'.c.st; rw [hl.1]; exact hb⟩
    obtain ⟨⟩ | ⟨id⟩ | ⟨l⟩ | ⟨⟩ := x2
    · obtain ⟨q, hl, hs⟩ := hq2
      obtain ⟨⟨x, e⟩, hq, hb3⟩ := hB.mono q _ (by rw [hl.1]; exact hb2) hs
      exact fin x e hq hb3
    · exact fin _ _ hq2 hb2
    · exact fin _ _ hq2 hb2
    · exact fin _ _ hq2 hb2
def seqHead : Code → Code
  | .seq a _ => a
  | c => c
/-! A range over a short text, out of the evaluator's word. -/
def headOps : Code → Array Oper
  | .seq (.region _ os _) _ => os
  | .region _ os _ => os
  | _ => #[]
def opAt (c : Code) (i : Nat) : Oper := (headOps c).getD i default
def keepL (t : Nat) : Ex → List Nat
  | .ret => []
  | .normal => [0, t]
  | _ => [0]
theorem range_told {A : Ad} (hA : A.Ok) {C : Cfg (SY A)} (hC : C.Ok) {tI tK tB id : Nat} {R b rest : Code} (hc : RangeCode C.N tI tK tB id b rest) (s : ByteArray) (φ : St → St) (hφ : ∀ st, st.notes.length ≤ (φ st).notes.length)
    (hm : ∀ (st : St) (bx : List Value) (it p : Nat) (r : Int), (evCode C rest (moreIn A tI tK tB it p r (st, bx))).bind (fun xe => .leaf (xe.1, pare (keepL tI xe.1) xe.2)) =
      .test true (.test (st.ch != r) (.leaf (.ret, ⟨⟨φ st, bx⟩, []⟩)) (.leaf (.normal, ⟨⟨nextch A.src st, bx⟩, headTm tI it⟩))) (.leaf (.exit id, ⟨⟨st, bx⟩, [(0, .st 0)]⟩)))
    (he : ∀ (st : St) (bx : List Value) (it : Nat), (evCode C rest (endIn A tI tK tB it (st, bx))).bind (fun xe => .leaf (xe.1, pare (keepL tI xe.1) xe.2)) = .test false .fail (.leaf (.exit id, ⟨⟨st, bx⟩, [(0, .st 0)]⟩)))
    {F : St × List Value → E (SY A)} (hF : ∀ q, (F q).c = ⟨q.1, q.2⟩)
    (hR : ∀ (q : St × List Value) (bl : List Nat) (a : Act) (w : World) (Qx : Exit → Act → World → Prop), InvE (SY A) C.N (F q) bl a w → (∀ a' w', ItInv A C.N w.heap.size s 0 ⟨⟨q.1, q.2⟩, headTm tI w.heap.size⟩ bl bl w a' w' → Qx .normal a' w') → R.wp Tryd.prog Qx a w) :
    At (SY A) C.N (.seq R (.block id (.loop b))) F (fun q => pfxT A φ q.2 (pfxF A.src (runesAt s (s.size + 1) 0) q.1)) := by
  refine range_at hA hc s φ hφ (fun it p r => At.pared (SLaws A hA) hC (keepL tI) (fun q Q hs => ?_)) (fun it => At.pared (SLaws A hA) hC (keepL tI) (fun q Q hs => ?_)) hF hR
  · exact sat_of_eq (hm q.1 q.2 it p r) ⟨fun _ => hs, fun h => by cases h⟩
  · exact sat_of_eq (he q.1 q.2 it) ⟨(fun h => by cases h), fun _ => hs⟩
/-- What comes of a range, and of what stands behind it. -/
noncomputable def goT (A : Ad) (s : ByteArray) (φ : St → St) (tl : St × List Value → Tree (Ex × E (SY A))) (q : St × List Value) : Tree (Ex × E (SY A)) :=
  .test (pfxF A.src (runesAt s (s.size + 1) 0) q.1).1 (tl ((pfxF A.src (runesAt s (s.size + 1) 0) q.1).2, q.2)) (.leaf (.ret, ⟨⟨φ (pfxF A.src (runesAt s (s.size + 1) 0) q.1).2, q.2⟩, []⟩))
theorem go_at {A : Ad} {N : Nat} {c1 c2 : Code} {F : St × List Value → E (SY A)} {s : ByteArray} {φ : St → St} (h1 : At (SY A) N c1 F (fun q => pfxT A φ q.2 (pfxF A.src (runesAt s (s.size + 1) 0) q.1))) {tl : St × List Value → Tree (Ex × E (SY A))} (h2 : At (SY A) N c2 (at0 A) tl) :
    At (SY A) N (.seq c1 c2) F (goT A s φ tl) :=
  At.seq h1 h2 (fun q Q hs => ⟨fun h => ⟨_, Lax.refl _, hs.1 h⟩, fun h => hs.2 h⟩)
/-! lineComment -/
noncomputable abbrev lcN : Nat := Tryd.f82.ntmps
noncomputable abbrev lcBody : Code := bodyOf Tryd.f82
noncomputable abbrev lcLoop : Code := loopOf (blkOf lcBody 0)
noncomputable abbrev cfLC (A : Ad) : Cfg (SY A) := cfH A lcN
noncomputable abbrev lcRng : Code := seqHead (seqHead (cutTail 4 lcBody))
theorem lc_more (A : Ad) (st : St) (bx : List Value) (it p : Nat) (r : Int) : (evCode (cfLC A) (cutTail 1 lcLoop) (moreIn A 55 56 57 it p r (st, bx))).bind (fun xe => .leaf (xe.1, pare (keepL 55 xe.1) xe.2)) =
  (.test true (.test (st.ch != r) (.leaf (.ret, ⟨⟨lcSkip A.src st, bx⟩, []⟩)) (.leaf (.normal, ⟨⟨nextch A.src st, bx⟩, headTm 55 it⟩))) (.leaf (.exit 0, ⟨⟨st, bx⟩, [(0, .st 0)]⟩))) := by kernel_rfl
theorem lc_end (A : Ad) (st : St) (bx : List Value) (it : Nat) : (evCode (cfLC A) (cutTail 1 lcLoop) (endIn A 55 56 57 it (st, bx))).bind (fun xe => .leaf (xe.1, pare (keepL 55 xe.1) xe.2)) =
  (.test false .fail (.leaf (.exit 0, ⟨⟨st, bx⟩, [(0, .st 0)]⟩))) := by kernel_rfl
theorem lc_shape : lcLoop = .seq (.region 10 #[opAt lcLoop 0, opAt lcLoop 1] false) (cutTail 1 lcLoop) := by kernel_rfl
theorem lc_rc : RangeCode lcN 55 56 57 0 lcLoop (cutTail 1 lcLoop) where
  shape := ⟨10, opAt lcLoop 0, opAt lcLoop 1, lc_shape, by kernel_rfl, by kernel_rfl, by kernel_rfl, by kernel_rfl, by kernel_rfl, by kernel_rfl⟩
  k1 := by kernel_rfl
  k2 := by kernel_rfl
  hI := by decide
theorem lc_rng : cutTail 4 lcBody = .seq (.seq lcRng (.block 0 (.loop lcLoop))) (cutTail 5 lcBody) := by kernel_rfl
theorem lc_rng1 : lcRng = .region 9 #[opAt lcRng 0, opAt lcRng 1] false := by kernel_rfl
noncomputable def lcTl (A : Ad) (q : St × List Value) : Tree (Ex × E (SY A)) :=
  (.req ((skip A.src notLine q.1).b.isSome = true) (.leaf (.normal, ⟨⟨lcTxt A.src q.1, q.2⟩, []⟩)))
theorem lc_tail (A : Ad) (st : St) (bx : List Value) : (evCode (cfLC A) (cutTail 5 lcBody) (at0 A (st, bx))).bind (fun xe => .leaf (xe.1, pare [] xe.2)) = lcTl A (st, bx) := by kernel_rfl
noncomputable def lcIn (A : Ad) (s : ByteArray) (q : St × List Value) : E (SY A) := ⟨⟨q.1, q.2⟩, [(0, .st 0), (2, .val (.string s))]⟩
theorem lc_at2 (A : Ad) (hA : A.Ok) (s : ByteArray) : At (SY A) lcN (cutTail 4 lcBody) (lcIn A s) (goT A s (lcSkip A.src) (lcTl A)) := by
  rw [lc_rng]
  refine go_at (range_told hA (C := cfLC A) (cfgL_ok A hA (hSums_ok A hA) lcN [] 0) lc_rc s (lcSkip A.src) (lcSkip_len A.src) (lc_more A) (lc_end A) (fun _ => rfl) (fun q bl a w Qx hI hQ => ?_)) (At.same (SLaws A hA) (cfgL_ok A hA (hSums_ok A hA) lcN [] 0) (fun _ => []) (fun q => lc_tail A q.1 q.2))
  rw [lc_rng1]
  exact range2_wp hA (tS := 2) (tM := 54) (ty := 9) (by kernel_rfl) (by kernel_rfl) (by kernel_rfl) (by kernel_rfl) (by kernel_rfl) (by kernel_rfl) (by kernel_rfl) (by kernel_rfl) (by kernel_rfl) (by decide) (by decide) hI rfl rfl hQ
def keepC : Ex → List Nat
  | .normal => [0, 2]
  | _ => []
noncomputable def lcT (A : Ad) (B : Bool → Tree (Ex × E (SY A))) (st : St) (bx : List Value) : Tree (Ex × E (SY A)) :=
  (.test (mB st.mode 1 != 0)
    (.req ((skip A.src notLine st).b.isSome = true)
      (.leaf (.ret, ⟨⟨lcTxt A.src st, bx⟩, []⟩)))
    (.test (mB st.mode 2 == 0)
      (.leaf (.ret, ⟨⟨lcSkip A.src st, bx⟩, []⟩))
      (.test (st.ch != 103)
        (.test (st.ch != 108)
          (.leaf (.ret, ⟨⟨lcSkip A.src st, bx⟩, []⟩))
          (.test (st.ch == 108) (B true) (B false)))
        (.test (st.ch == 108) (B true) (B false)))))
theorem lc_head (A : Ad) (st : St) (bx : List Value) : (evCode (cfLC A) (cutHead 4 lcBody) (at0 A (st, bx))).bind (fun xe => .leaf (xe.1, pare (keepC xe.1) xe.2)) =
  lcT A (fun b => .leaf (.normal, lcIn A (if b = true then lineW else goW) (st, bx))) st bx := by kernel_rfl
theorem lc_body : (Tryd.f82).body = some lcBody := by kernel_rfl
noncomputable def lcG (A : Ad) (q : St × List Value) : Tree (Ex × E (SY A)) := lcT A (fun b => goT A (if b = true then lineW else goW) (lcSkip A.src) (lcTl A) q) q.1 q.2
theorem lc_at (A : Ad) (hA : A.Ok) : At (SY A) lcN lcBody (at0 A) (lcG A) := by
  refine At.cutP (SLaws A hA) (C := cfLC A) (cfgL_ok A hA (hSums_ok A hA) lcN [] 0) 4 (by kernel_rfl) (ρ := (St × List Value) × Bool) (F' := fun r => lcIn A (if r.2 = true then lineW else goW) r.1) (gb := fun r => goT A (if r.2 = true then lineW else goW) (lcSkip A.src) (lcTl A) r.1) ?_ keepC (fun q Q hs => ?_)
  · exact At.par (F := fun (k : Bool) (q : St × List Value) => lcIn A (if k = true then lineW else goW) q) (g := fun k q => goT A (if k = true then lineW else goW) (lcSkip A.src) (lcTl A) q) (fun k => lc_at2 A hA _)
  · refine sat_of_eq (lc_head A q.1 q.2) ?_
    refine ⟨hs.1, fun h1 => ⟨(hs.2 h1).1, fun h2 => ⟨fun h3 => ⟨(((hs.2 h1).2 h2).1 h3).1, fun h4 => ⟨fun h5 => ?_, fun h5 => ?_⟩⟩, fun h3 => ⟨fun h5 => ?_, fun h5 => ?_⟩⟩⟩⟩
    · exact ⟨(q, true), Lax.refl _, (((((hs.2 h1).2 h2).1 h3).2 h4).1 h5)⟩
    · exact ⟨(q, false), Lax.refl _, (((((hs.2 h1).2 h2).1 h3).2 h4).2 h5)⟩
    · exact ⟨(q, true), Lax.refl _, ((((hs.2 h1).2 h2).2 h3).1 h5)⟩
    · exact ⟨(q, false), Lax.refl _, ((((hs.2 h1).2 h2).2 h3).2 h5)⟩
theorem go_sat {A : Ad} {s : ByteArray} {φ ψ : St → St} {tl : St × List Value → Tree (Ex × E (SY A))} {Q : Ex × E (SY A) → Prop} {st : St} {bx : List Value} (hb : st.b.isSome = true)
    (htl : ∀ st', st'.b.isSome = true → (∀ x e, (x = .normal ∨ x = .ret) → e.c = (⟨ψ st', bx⟩ : Core (SY A)) → Q (x, e)) → (tl (st', bx)).sat Q)
    (hQ : ∀ x e, (x = .normal ∨ x = .ret) → e.c = (⟨pfxGo A.src s φ ψ st, bx⟩ : Core (SY A)) → Q (x, e)) : (goT A s φ tl (st, bx)).sat Q := by
  have hb' : (pfxF A.src (runesAt s (s.size + 1) 0) st).2.b.isSome = true := by rw [(pfxF_on A.src (runesAt s (s.size + 1) 0) st).b]; exact hb
  refine ⟨fun h => htl _ hb' (fun x e hx he => hQ x e hx (he.trans ?_)), fun h => hQ _ _ (.inr rfl) ?_⟩
  · have h : (pfxF A.src (runesAt s (s.size + 1) 0) st).1 = true := h
    unfold pfxGo; rw [if_pos h]
  · have h : (pfxF A.src (runesAt s (s.size + 1) 0) st).1 = false := h
    unfold pfxGo; rw [if_neg (by rw [h]; decide)]
noncomputable def lncS (A : Ad) : Smy (SY A) := ⟨82, #[], true, onSt A (fun st => st.b.isSome = true) (lineCommentF A.src)⟩
theorem lncS_ok (A : Ad) (hA : A.Ok) : (lncS A).Ok := by
  refine fn_at (A := A) Tryd.func82 lc_body (N := lcN) rfl (by decide) rfl (fun args w => by kernel_rfl) (g := lcG A) (lc_at A hA) (fun st bx Q hb hQ => ?_) (lineComment_len A.src)
  have hsk : (skip A.src notLine st).b.isSome = true := by rw [(on_skip _ _ _).b]; exact hb
  have go : ∀ s, (∀ x e, (x = .normal ∨ x = .ret) → e.c = (⟨pfxGo A.src s (lcSkip A.src) (lcTxt A.src) st, bx⟩ : Core (SY A)) → Q (x, e)) → (goT A s (lcSkip A.src) (lcTl A) (st, bx)).sat Q := fun s hq =>
    go_sat hb (fun st' hb' hq' => ⟨by rw [(on_skip _ _ _).b]; exact hb', hq' _ _ (.inl rfl) rfl⟩) hq
  unfold lineCommentF at hQ
  refine ⟨fun h1 => ⟨hsk, hQ _ _ (.inr rfl) ?_⟩, fun h1 => ⟨fun h2 => hQ _ _ (.inr rfl) ?_, fun h2 => ⟨fun h3 => ⟨fun h4 => hQ _ _ (.inr rfl) ?_, fun h4 => ⟨fun h5 => go _ (fun x e hx he => hQ x e hx (he.trans ?_)), fun h5 => ?_⟩⟩, fun h3 => ⟨fun h5 => ?_, fun h5 => go _ (fun x e hx he => hQ x e hx (he.trans ?_))⟩⟩⟩⟩
  all_goals simp_all
end Sc
end Go.Proofs.YtogkcphobhhbdaaDoor

/- The scanner's functions over the plain state: fullComment; what next may call. -/
namespace Go.Proofs.YtogkcphobhhbdaaDoor
open Go Go.RowKit Go.Lib
namespace Sc
open Ev
set_option maxRecDepth 100000
noncomputable abbrev fcN : Nat := Tryd.f83.ntmps
noncomputable abbrev fcBody : Code := bodyOf Tryd.f83
noncomputable abbrev fcLoop : Code := loopOf (blkOf fcBody 0)
noncomputable abbrev cfFC (A : Ad) : Cfg (SY A) := cfH A fcN
noncomputable abbrev fcRng : Code := seqHead (seqHead (cutTail 2 fcBody))
theorem fc_more (A : Ad) (st : St) (bx : List Value) (it p : Nat) (r : Int) : (evCode (cfFC A) (cutTail 1 fcLoop) (moreIn A 39 40 41 it p r (st, bx))).bind (fun xe => .leaf (xe.1, pare (keepL 39 xe.1) xe.2)) =
  (.test true (.test (st.ch != r) (.leaf (.ret, ⟨⟨fcSkip A.src st, bx⟩, []⟩)) (.leaf (.normal, ⟨⟨nextch A.src st, bx⟩, headTm 39 it⟩))) (.leaf (.exit 0, ⟨⟨st, bx⟩, [(0, .st 0)]⟩))) := by kernel_rfl
theorem fc_end (A : Ad) (st : St) (bx : List Value) (it : Nat) : (evCode (cfFC A) (cutTail 1 fcLoop) (endIn A 39 40 41 it (st, bx))).bind (fun xe => .leaf (xe.1, pare (keepL 39 xe.1) xe.2)) =
  (.test false .fail (.leaf (.exit 0, ⟨⟨st, bx⟩, [(0, .st 0)]⟩))) := by kernel_rfl
theorem fc_shape : fcLoop = .seq (.region 7 #[opAt fcLoop 0, opAt fcLoop 1] false) (cutTail 1 fcLoop) := by kernel_rfl
theorem fc_rc : RangeCode fcN 39 40 41 0 fcLoop (cutTail 1 fcLoop) where
  shape := ⟨7, opAt fcLoop 0, opAt fcLoop 1, fc_shape, by kernel_rfl, by kernel_rfl, by kernel_rfl, by kernel_rfl, by kernel_rfl, by kernel_rfl⟩
  k1 := by kernel_rfl
  k2 := by kernel_rfl
  hI := by decide
theorem fc_rng : cutTail 2 fcBody = .seq (.seq fcRng (.block 0 (.loop fcLoop))) (cutTail 3 fcBody) := by kernel_rfl
theorem fc_rng1 : fcRng = .region 6 #[opAt fcRng 0] false := by kernel_rfl
noncomputable def fcTl (A : Ad) (q : St × List Value) : Tree (Ex × E (SY A)) :=
  (.test ((skipCommentF A.src q.1).fst)
    (.req ((skipCommentF A.src q.1).snd.b.isSome = true)
      (.leaf (.normal, ⟨⟨commentF (seg A.src (skipCommentF A.src q.1).snd) (skipCommentF A.src q.1).snd, q.2⟩, []⟩)))
    (.leaf (.normal, ⟨⟨(skipCommentF A.src q.1).snd, q.2⟩, []⟩)))
theorem fc_tail (A : Ad) (st : St) (bx : List Value) : (evCode (cfFC A) (cutTail 3 fcBody) (at0 A (st, bx))).bind (fun xe => .leaf (xe.1, pare [] xe.2)) = fcTl A (st, bx) := by kernel_rfl
theorem fc_op (a : Act) (w : World) : (execOp a.eval (opAt fcRng 0)).run Tryd.prog w = .ok (.value (.pointer (some ⟨w.heap.size, 0, none⟩))) (w.iter lineW 0) := by
  have e : (opAt fcRng 0).op = .range 9 (.const (.string lineW)) := by kernel_rfl
  unfold execOp
  simp only [e]
  have h : Tryd.prog.underlying 9 = some .string := by kernel_rfl
  have h2 : a.eval (.const (.string lineW)) = .string lineW := rfl
  rw [h2]
  simp [run_range_string _ _ _ h]
theorem fc_at2 (A : Ad) (hA : A.Ok) : At (SY A) fcN (cutTail 2 fcBody) (at0 A) (goT A lineW (fcSkip A.src) (fcTl A)) := by
  rw [fc_rng]
  refine go_at (range_told hA (C := cfFC A) (cfgL_ok A hA (hSums_ok A hA) fcN [] 0) fc_rc lineW (fcSkip A.src) (fcSkip_len A.src) (fc_more A) (fc_end A) (fun _ => rfl) (fun q bl a w Qx hI hQ => ?_)) (At.same (SLaws A hA) (cfgL_ok A hA (hSums_ok A hA) fcN [] 0) (fun _ => []) (fun q => fc_tail A q.1 q.2))
  rw [fc_rng1]
  exact range1_wp hA (by kernel_rfl) (by kernel_rfl) (by kernel_rfl) (by decide) hI rfl (fc_op a w) hQ
def keepF : Ex → List Nat
  | .normal => [0]
  | _ => []
noncomputable def fcT (A : Ad) (B : Tree (Ex × E (SY A))) (st : St) (bx : List Value) : Tree (Ex × E (SY A)) :=
  (.test (mB st.mode 1 != 0)
    (.test ((skipCommentF A.src st).fst)
      (.req ((skipCommentF A.src st).snd.b.isSome = true)
        (.leaf (.ret, ⟨⟨commentF (seg A.src (skipCommentF A.src st).snd) (skipCommentF A.src st).snd, bx⟩, []⟩)))
      (.leaf (.ret, ⟨⟨(skipCommentF A.src st).snd, bx⟩, []⟩)))
    (.test (mB st.mode 2 == 0)
      (.leaf (.ret, ⟨⟨fcSkip A.src st, bx⟩, []⟩))
      (.test (st.ch != 108)
        (.leaf (.ret, ⟨⟨fcSkip A.src st, bx⟩, []⟩))
        B)))
theorem fc_head (A : Ad) (st : St) (bx : List Value) : (evCode (cfFC A) (cutHead 2 fcBody) (at0 A (st, bx))).bind (fun xe => .leaf (xe.1, pare (keepF xe.1) xe.2)) =
  fcT A (.leaf (.normal, at0 A (st, bx))) st bx := by kernel_rfl
theorem fc_body : (Tryd.f83).body = some fcBody := by kernel_rfl
noncomputable def fcG (A : Ad) (q : St × List Value) : Tree (Ex × E (SY A)) := fcT A (goT A lineW (fcSkip A.src) (fcTl A) q) q.1 q.2
theorem fc_at (A : Ad) (hA : A.Ok) : At (SY A) fcN fcBody (at0 A) (fcG A) := by
  refine At.cutP (SLaws A hA) (C := cfFC A) (cfgL_ok A hA (hSums_ok A hA) fcN [] 0) 2 (by kernel_rfl) (fc_at2 A hA) keepF (fun q Q hs => ?_)
  refine sat_of_eq (fc_head A q.1 q.2) ?_
  exact ⟨hs.1, fun h1 => ⟨(hs.2 h1).1, fun h2 => ⟨((hs.2 h1).2 h2).1, fun h3 => ⟨q, Lax.refl _, ((hs.2 h1).2 h2).2 h3⟩⟩⟩⟩
noncomputable def flcS (A : Ad) : Smy (SY A) := ⟨83, #[], true, onSt A (fun st => st.b.isSome = true) (fullCommentF A.src)⟩
theorem flcS_ok (A : Ad) (hA : A.Ok) : (flcS A).Ok := by
  refine fn_at (A := A) Tryd.func83 fc_body (N := fcN) rfl (by decide) rfl (fun args w => by kernel_rfl) (g := fcG A) (fc_at A hA) (fun st bx Q hb hQ => ?_) (fullComment_len A.src)
  have hsk : ∀ st : St, st.b.isSome = true → (skipCommentF A.src st).2.b.isSome = true := fun st hb => by rw [(skipCommentF_on _ _).b]; exact hb
  unfold fullCommentF at hQ
  refine ⟨fun h1 => ⟨fun h2 => ⟨hsk st hb, hQ _ _ (.inr rfl) ?_⟩, fun h2 => hQ _ _ (.inr rfl) ?_⟩, fun h1 => ⟨fun h2 => hQ _ _ (.inr rfl) ?_, fun h2 => ⟨fun h3 => hQ _ _ (.inr rfl) ?_, fun h3 => go_sat (ψ := fcTxt A.src) hb (fun st' hb' hq' => ⟨fun h4 => ⟨hsk st' hb', hq' _ _ (.inl rfl) ?_⟩, fun h4 => hq' _ _ (.inl rfl) ?_⟩) (fun x e hx he => hQ x e hx (he.trans ?_))⟩⟩⟩
  any_goals (unfold fcTxt; simp_all; done)
  all_goals simp_all
noncomputable def iSums (A : Ad) : List (Nat × Smy (SY A)) := (82, lncS A) :: (83, flcS A) :: (76, nmbS A) :: hSums A
theorem iSums_ok (A : Ad) (hA : A.Ok) : SumsOk A (iSums A) := by
  refine SumsOk.cons ?_ (lncS_ok A hA) rfl rfl (fun h => by cases h)
  refine SumsOk.cons ?_ (flcS_ok A hA) rfl rfl (fun h => by cases h)
  refine SumsOk.cons ?_ (nmbS_ok A hA) rfl rfl (fun h => by cases h)
  exact hSums_ok A hA
end Sc
end Go.Proofs.YtogkcphobhhbdaaDoor

/- The scanner's functions over the plain state: next, its great switch. -/
namespace Go.Proofs.YtogkcphobhhbdaaDoor
open Go Go.RowKit Go.Lib
namespace Sc
open Ev
set_option maxRecDepth 100000
noncomputable abbrev nxN : Nat := Tryd.f52.ntmps
noncomputable abbrev nxBody : Code := scopeOf (bodyOf Tryd.f52)
noncomputable abbrev nxLoop : Code := loopOf (blkOf nxBody 0)
noncomputable abbrev nxRest (l : Nat) : Code := (findLabel nxBody l).getD .skip
noncomputable abbrev cfN (A : Ad) : Cfg (SY A) := cfgL A (iSums A) nxN [] 0
/-- How a pass ends: a token is told; another pass; an assignment may follow. -/
inductive Fin where
  | done (s : St) (bx : List Value)
  | redo (s : St)
  | asg (s : St)
noncomputable def finX (A : Ad) (nl : Bool) : Fin → Ex × E (SY A)
  | .done s bx => (.ret, ⟨⟨s, bx⟩, []⟩)
  | .redo s => (.goto 0, ⟨⟨s, []⟩, [(0, .st 0), (2, .val (.bool nl))]⟩)
  | .asg s => (.goto 1, ⟨⟨s, []⟩, [(0, .st 0)]⟩)
def keepN : Ex → List Nat
  | .normal => [0, 2, 3, 4]
  | .goto 0 => [0, 2]
  | .goto _ => [0]
  | _ => []
noncomputable def nxIn (A : Ad) (nl : Bool) (l c : Int) (st : St) : E (SY A) := ⟨⟨st, []⟩, [(0, .st 0), (2, .val (.bool nl)), (3, .val (.int .u64 l)), (4, .val (.int .u64 c))]⟩
def wEOF : ByteArray := ByteArray.mk #[69, 79, 70]
def wNewline : ByteArray := ByteArray.mk #[110, 101, 119, 108, 105, 110, 101]
def wSemi : ByteArray := ByteArray.mk #[115, 101, 109, 105, 99, 111, 108, 111, 110]
def msgChar : ByteArray := ByteArray.mk #[105, 110, 118, 97, 108, 105, 100, 32, 99, 104, 97, 114, 97, 99, 116, 101, 114, 32, 37, 35, 85]
def tk (t : Int) (st : St) : St := { st with tok := t }
def opr (o p : Int) (st : St) : St := { st with op := o, prec := p }
def lit (w : ByteArray) (st : St) : St := { st with tok := 18, lit := w }
def semi (st : St) : St := { st with nlsemi := true }
def swNum (src : ByteArray) (seen : Bool) (st : St) : Tree Fin := .req (Off src st ∧ st.ch ≠ 10) (.leaf (.done (numberF src seen st) [.int .i64 (numS src seen st).inv]))
def sw1 (t : Int) (st : St) : Tree Fin := .leaf (.done (tk t st) [])
def sw4 (o p : Int) (st : St) : Tree Fin := .leaf (.done (tk 4 (opr o p st)) [])
def swA (o p : Int) (st : St) : Tree Fin := .leaf (.asg (opr o p st))
/-- The characters that end a token at once, or begin one that has a function of its own. -/
def swT (src : ByteArray) (nl : Bool) (st : St) : Tree Fin :=
  .test (st.ch == -1) (.test nl (.leaf (.done (lit wEOF st) [])) (sw1 1 st)) <|
  .test (st.ch == 10) (.leaf (.done (lit wNewline (nextch src st)) [])) <|
  .test (st.ch == 48) (swNum src false st) <|
  .test (st.ch == 49) (swNum src false st) <|
  .test (st.ch == 50) (swNum src false st) <|
  .test (st.ch == 51) (swNum src false st) <|
  .test (st.ch == 52) (swNum src false st) <|
  .test (st.ch == 53) (swNum src false st) <|
  .test (st.ch == 54) (swNum src false st) <|
  .test (st.ch == 55) (swNum src false st) <|
  .test (st.ch == 56) (swNum src false st) <|
  .test (st.ch == 57) (swNum src false st) <|
  .test (st.ch == 34) (.req (st.b.isSome = true) (.leaf (.done (stdStringF src st) []))) <|
  .test (st.ch == 96) (.req (st.b.isSome = true) (.leaf (.done (rawStringF src st) []))) <|
  .test (st.ch == 39) (.req (st.b.isSome = true) (.leaf (.done (runeF src st) []))) <|
  .test (st.ch == 40) (sw1 11 (nextch src st)) <|
  .test (st.ch == 91) (sw1 12 (nextch src st)) <|
  .test (st.ch == 123) (sw1 13 (nextch src st)) <|
  .test (st.ch == 44) (sw1 17 (nextch src st)) <|
  .test (st.ch == 59) (.leaf (.done (lit wSemi (nextch src st)) [])) <|
  .test (st.ch == 41) (sw1 14 (semi (nextch src st))) <|
  .test (st.ch == 93) (sw1 15 (semi (nextch src st))) <|
  .test (st.ch == 125) (sw1 16 (semi (nextch src st))) <|
  .test (st.ch == 58) (.test ((nextch src st).ch == 61) (sw1 8 (nextch src (nextch src st))) (sw1 19 (nextch src st))) <|
  .test (st.ch == 46) (.test (isDecimalF (nextch src st).ch) (swNum src true (nextch src st))
    (.test ((nextch src st).ch == 46)
      (.test ((nextch src (nextch src st)).ch == 46) (sw1 21 (nextch src (nextch src (nextch src st))))
        (.req (st.b.isSome = true) (sw1 20 (nextch src (rewind src (nextch src (nextch src st)))))))
      (sw1 20 (nextch src st)))) <|
  .test (st.ch == 43) (.test ((nextch src st).ch != 43) (swA 13 4 (nextch src st)) (sw1 6 (semi (nextch src (opr 13 4 (nextch src st)))))) <|
  .test (st.ch == 45) (.test ((nextch src st).ch != 45) (swA 14 4 (nextch src st)) (sw1 6 (semi (nextch src (opr 14 4 (nextch src st)))))) <|
  .test (st.ch == 42) (.test ((nextch src st).ch == 61) (sw1 5 (nextch src (opr 17 5 (nextch src st)))) (sw1 10 (opr 17 5 (nextch src st)))) <|
  .test (st.ch == 47) (.test ((nextch src st).ch == 47) (.req (st.b.isSome = true) (.leaf (.redo (lineCommentF src (nextch src (nextch src st))))))
    (.test ((nextch src st).ch == 42) (.req (st.b.isSome = true)
        (.test (decide (u64 (1 + (fullCommentF src (nextch src (nextch src st))).line0) > (fullCommentF src (nextch src (nextch src st))).line))
          (.test nl (.leaf (.done (lit wNewline (fullCommentF src (nextch src (nextch src st)))) [])) (.leaf (.redo (fullCommentF src (nextch src (nextch src st))))))
          (.leaf (.redo (fullCommentF src (nextch src (nextch src st)))))))
      (swA 18 5 (nextch src st)))) <|
  .test (st.ch == 37) (swA 19 5 (nextch src st)) <|
  .test (st.ch == 38) (.test ((nextch src st).ch == 38) (sw4 6 2 (nextch src (nextch src st)))
    (.test ((nextch src st).ch == 94) (.leaf (.asg { nextch src (opr 20 5 (nextch src st)) with op := 21 })) (swA 20 5 (nextch src st)))) <|
  .test (st.ch == 124) (.test ((nextch src st).ch == 124) (sw4 5 1 (nextch src (nextch src st))) (swA 15 4 (nextch src st))) <|
  .test (st.ch == 94) (swA 16 4 (nextch src st)) <|
  .test (st.ch == 60) (.test ((nextch src st).ch == 61) (sw4 10 3 (nextch src (nextch src st)))
    (.test ((nextch src st).ch == 60) (swA 22 5 (nextch src (nextch src st)))
      (.test ((nextch src st).ch == 45) (sw1 9 (nextch src (nextch src st))) (sw4 9 3 (nextch src st))))) <|
  .test (st.ch == 62) (.test ((nextch src st).ch == 61) (sw4 12 3 (nextch src (nextch src st)))
    (.test ((nextch src st).ch == 62) (swA 23 5 (nextch src (nextch src st))) (sw4 11 3 (nextch src st)))) <|
  .test (st.ch == 61) (.test ((nextch src st).ch == 61) (sw4 7 3 (nextch src (nextch src st))) (sw1 7 (nextch src st))) <|
  .test (st.ch == 33) (.test ((nextch src st).ch == 61) (sw4 8 3 (nextch src (nextch src st))) (sw4 2 0 (nextch src st))) <|
  .test (st.ch == 126) (sw4 4 0 (nextch src st)) <|
  .leaf (.redo (nextch src (error msgChar st)))
theorem sw_ev (A : Ad) (nl : Bool) (l c : Int) (st : St) : (evCode (cfN A) (cutTail 8 (nxRest 0)) (nxIn A nl l c st)).bind (fun xe => .leaf (xe.1, pare (keepN xe.1) xe.2)) =
  (swT A.src nl st).bind fun f => .leaf (finX A nl f) := by kernel_rfl
end Sc
end Go.Proofs.YtogkcphobhhbdaaDoor

/- The scanner's functions over the plain state: next, a pass of it. -/
namespace Go.Proofs.YtogkcphobhhbdaaDoor
open Go Go.RowKit Go.Lib
namespace Sc
open Ev
set_option maxRecDepth 100000
theorem Pos.ch {src : ByteArray} {st : St} (h : Pos src st) : chOk st := by have := h.lo; have := h.hi; unfold chOk; omega
/-- On from here, whatever else is set. -/
structure Fw (src : ByteArray) (st st' : St) : Prop where
  mode : st'.mode = st.mode
  notes : ∃ l, st'.notes = st.notes ++ l
  left : left src st' ≤ left src st
  pos : Pos src st → Pos src st' ∧ st.p - st.chw ≤ st'.p - st'.chw
  kp : Fk src st st'
  lc : st'.line = st.line ∧ st'.col = st.col
theorem On.fw {src : ByteArray} {a b : St} (h : On src a b) : Fw src a b := ⟨by rw [h.keep], h.notes, h.left, h.pos, h.kp, by rw [h.keep]; exact ⟨rfl, rfl⟩⟩
theorem Fw.refl (src : ByteArray) (st : St) : Fw src st st := (On.refl src st).fw
theorem Fw.trans {src : ByteArray} {a b c : St} (h : Fw src a b) (h' : Fw src b c) : Fw src a c := by
  obtain ⟨l, hl⟩ := h.notes
  obtain ⟨l', hl'⟩ := h'.notes
  exact ⟨h'.mode.trans h.mode, ⟨l ++ l', by rw [hl', hl, List.append_assoc]⟩, Nat.le_trans h'.left h.left, fun hp => ⟨(h'.pos (h.pos hp).1).1, Nat.le_trans (h.pos hp).2 (h'.pos (h.pos hp).1).2⟩,
    fun hp hs hk => ⟨(h'.kp (h.pos hp).1 hs (h.kp hp hs hk).1).1, (h.kp hp hs hk).2.trans (h'.kp (h.pos hp).1 hs (h.kp hp hs hk).1).2⟩, ⟨h'.lc.1.trans h.lc.1, h'.lc.2.trans h.lc.2⟩⟩
theorem fw_same {src : ByteArray} {a b : St} (e0 : b.mode = a.mode) (e1 : b.notes = a.notes) (e2 : left src b = left src a) (e3 : b.p = a.p) (e4 : b.chw = a.chw) (e5 : b.ch = a.ch) (e6 : b.line0 = a.line0) (e7 : b.col0 = a.col0) (e8 : b.line = a.line) (e9 : b.col = a.col) : Fw src a b :=
  ⟨e0, ⟨[], by rw [e1]; simp⟩, Nat.le_of_eq e2, fun h => ⟨h.same e3 e4 e5, by rw [e3, e4]; exact Nat.le_refl _⟩, fk_same e6 e7 e3 e4, e8, e9⟩
theorem fw_stop (src : ByteArray) (st : St) : Fw src st (stop st) := fw_same rfl rfl rfl rfl rfl rfl rfl rfl rfl rfl
theorem lcSkip_fw (src : ByteArray) (st : St) : Fw src st (lcSkip src st) := (fw_stop src st).trans (on_skip _ _ _).fw
theorem fcSkip_fw (src : ByteArray) (st : St) : Fw src st (fcSkip src st) := (fw_stop src st).trans (skipCommentF_on _ _).fw
theorem pfxGo_fw {src s : ByteArray} {φ ψ : St → St} (hφ : ∀ st, Fw src st (φ st)) (hψ : ∀ st, Fw src st (ψ st)) (st : St) : Fw src st (pfxGo src s φ ψ st) := by
  unfold pfxGo
  split
  · exact (pfxF_on _ _ _).fw.trans (hψ _)
  · exact (pfxF_on _ _ _).fw.trans (hφ _)
theorem lineComment_fw (src : ByteArray) (st : St) : Fw src st (lineCommentF src st) := by
  unfold lineCommentF
  split
  · exact (lcTxt_on _ _).fw
  · split
    · exact lcSkip_fw _ _
    · exact pfxGo_fw (lcSkip_fw src) (fun st => (lcTxt_on src st).fw) st
theorem fullComment_fw (src : ByteArray) (st : St) : Fw src st (fullCommentF src st) := by
  unfold fullCommentF
  split
  · exact (fcTxt_on _ _).fw
  · split
    · exact fcSkip_fw _ _
    · exact pfxGo_fw (fcSkip_fw src) (fun st => (fcTxt_on src st).fw) st
theorem test_sat {α : Type} {b : Bool} {t e : Tree α} {Q : α → Prop} (h1 : b = true → t.sat Q) (h2 : e.sat Q) : (Tree.test b t e).sat Q := ⟨h1, fun _ => h2⟩
theorem tr_sat {α : Type} {b : Bool} {t e : Tree α} {Q : α → Prop} (h1 : t.sat Q) (h2 : e.sat Q) : (Tree.test b t e).sat Q := ⟨fun _ => h1, fun _ => h2⟩
theorem sw_noAny (src : ByteArray) (nl : Bool) (st : St) : (swT src nl st).noAny := by
  simp only [swT, sw1, sw4, swA, swNum, Tree.noAny, and_self]
/-! The head of a pass -/
def cBlank (nl : Bool) (x : Int) : Bool := x == 32 || x == 9 || (x == 10 && !nl) || x == 13
def nxSt (bl : Bool) (st : St) : St := start { st with line := u64 (1 + st.line0), col := u64 (1 + st.col0), blank := bl }
def hdT {α : Type} (src : ByteArray) (D : St → α) (K : St → Tree α) (st : St) : Tree α :=
  .test (isLetterF st.ch) (.req (chOk (nextch src st) ∧ st.b.isSome = true) (.leaf (D (identF src (nextch src st)))))
    (.test (decide (st.ch ≥ 128)) (.req (-2147483648 ≤ st.ch ∧ st.ch ≤ 2147483647)
      (.test (atIdF true st).1 (.req (chOk (nextch src (atIdF true st).2) ∧ (atIdF true st).2.b.isSome = true) (.leaf (D (identF src (nextch src (atIdF true st).2)))))
        (K (atIdF true st).2))) (K st))
theorem hd_ev (A : Ad) (nl : Bool) (l c : Int) (st : St) : (evCode (cfN A) (cutHead 4 (cutTail 4 (nxRest 0))) (nxIn A nl l c st)).bind (fun xe => .leaf (xe.1, pare (keepN xe.1) xe.2)) =
  .test (decide (u64 (1 + st.line0) > l))
    (hdT A.src (fun s => (Ex.ret, (⟨⟨s, []⟩, []⟩ : E (SY A)))) (fun s => .leaf (.normal, nxIn A nl l c s)) (nxSt true st))
    (hdT A.src (fun s => (Ex.ret, (⟨⟨s, []⟩, []⟩ : E (SY A)))) (fun s => .leaf (.normal, nxIn A nl l c s)) (nxSt (c == 1) st)) := by kernel_rfl
theorem blank_ev (A : Ad) (nl : Bool) (l c : Int) (st : St) (bx : List Value) : (evCode (cfN A) nxLoop ⟨⟨st, bx⟩, [(0, .st 0), (2, .val (.bool nl)), (3, .val (.int .u64 l)), (4, .val (.int .u64 c))]⟩).bind (fun xe => .leaf (xe.1, pare [0, 2, 3, 4] xe.2)) =
  (.test (st.ch == 32)
    (.leaf (.normal, ⟨⟨nextch A.src st, bx⟩, [(0, .st 0), (2, .val (.bool nl)), (3, .val (.int .u64 l)), (4, .val (.int .u64 c))]⟩))
    (.test (st.ch == 9)
      (.leaf (.normal, ⟨⟨nextch A.src st, bx⟩, [(0, .st 0), (2, .val (.bool nl)), (3, .val (.int .u64 l)), (4, .val (.int .u64 c))]⟩))
      (.test (st.ch == 10)
        (.test (!nl)
          (.leaf (.normal, ⟨⟨nextch A.src st, bx⟩, [(0, .st 0), (2, .val (.bool nl)), (3, .val (.int .u64 l)), (4, .val (.int .u64 c))]⟩))
          (.test (st.ch == 13)
            (.leaf (.normal, ⟨⟨nextch A.src st, bx⟩, [(0, .st 0), (2, .val (.bool nl)), (3, .val (.int .u64 l)), (4, .val (.int .u64 c))]⟩))
            (.leaf (.exit 0, ⟨⟨st, bx⟩, [(0, .st 0), (2, .val (.bool nl)), (3, .val (.int .u64 l)), (4, .val (.int .u64 c))]⟩))))
        (.test (st.ch == 13)
          (.leaf (.normal, ⟨⟨nextch A.src st, bx⟩, [(0, .st 0), (2, .val (.bool nl)), (3, .val (.int .u64 l)), (4, .val (.int .u64 c))]⟩))
          (.leaf (.exit 0, ⟨⟨st, bx⟩, [(0, .st 0), (2, .val (.bool nl)), (3, .val (.int .u64 l)), (4, .val (.int .u64 c))]⟩)))))) := by kernel_rfl
theorem blank_at (A : Ad) (hA : A.Ok) (nl : Bool) : At (SY A) nxN (.block 0 (.loop nxLoop)) (fun p : St × List Value × Int × Int => Es A p.1 p.2.1 [(0, .st 0), (2, .val (.bool nl)), (3, .val (.int .u64 p.2.2.1)), (4, .val (.int .u64 p.2.2.2))])
    (fun p => .leaf (.normal, Es A (skip A.src (cBlank nl) p.1) p.2.1 [(0, .st 0), (2, .val (.bool nl)), (3, .val (.int .u64 p.2.2.1)), (4, .val (.int .u64 p.2.2.2))])) := by
  refine while_at hA (cBlank nl) (by cases nl <;> rfl) (fun p : Int × Int => [(0, .st 0), (2, .val (.bool nl)), (3, .val (.int .u64 p.1)), (4, .val (.int .u64 p.2))]) ?_
  refine At.pared (SLaws A hA) (cfgL_ok A hA (iSums_ok A hA) nxN [] 0) (fun _ => [0, 2, 3, 4]) (fun p Q hs => sat_of_eq (blank_ev A nl p.2.2.1 p.2.2.2 p.1 p.2.1) ?_)
  have key : ∀ b : Bool, cBlank nl p.1.ch = b → (if b = true then Tree.leaf (Ex.normal, Es A (nextch A.src p.1) p.2.1 [(0, .st 0), (2, .val (.bool nl)), (3, .val (.int .u64 p.2.2.1)), (4, .val (.int .u64 p.2.2.2))]) else .leaf (.exit 0, Es A p.1 p.2.1 [(0, .st 0), (2, .val (.bool nl)), (3, .val (.int .u64 p.2.2.1)), (4, .val (.int .u64 p.2.2.2))])).sat Q := fun b hb => by rw [← hb]; exact hs
  have y : cBlank nl p.1.ch = true → Q (Ex.normal, Es A (nextch A.src p.1) p.2.1 [(0, .st 0), (2, .val (.bool nl)), (3, .val (.int .u64 p.2.2.1)), (4, .val (.int .u64 p.2.2.2))]) := key true
  have n : cBlank nl p.1.ch = false → Q (Ex.exit 0, Es A p.1 p.2.1 [(0, .st 0), (2, .val (.bool nl)), (3, .val (.int .u64 p.2.2.1)), (4, .val (.int .u64 p.2.2.2))]) := key false
  clear key hs
  refine ⟨fun h1 => y ?_, fun h1 => ⟨fun h2 => y ?_, fun h2 => ⟨fun h3 => ⟨fun h4 => y ?_, fun h4 => ⟨fun h5 => y ?_, fun h5 => n ?_⟩⟩, fun h3 => ⟨fun h5 => y ?_, fun h5 => n ?_⟩⟩⟩⟩
  all_goals (unfold cBlank; simp_all)
end Sc
end Go.Proofs.YtogkcphobhhbdaaDoor

/- The scanner's functions over the plain state: what a token leaves lies ahead. -/
namespace Go.Proofs.YtogkcphobhhbdaaDoor
open Go Go.RowKit Go.Lib
namespace Sc
open Ev
set_option maxRecDepth 100000
theorem fw_tk {src : ByteArray} {a b : St} (t : Int) (h : Fw src a b) : Fw src a (tk t b) := h.trans (fw_same rfl rfl rfl rfl rfl rfl rfl rfl rfl rfl)
theorem fw_opr {src : ByteArray} {a b : St} (o p : Int) (h : Fw src a b) : Fw src a (opr o p b) := h.trans (fw_same rfl rfl rfl rfl rfl rfl rfl rfl rfl rfl)
theorem fw_lit {src : ByteArray} {a b : St} (w : ByteArray) (h : Fw src a b) : Fw src a (lit w b) := h.trans (fw_same rfl rfl rfl rfl rfl rfl rfl rfl rfl rfl)
theorem fw_semi {src : ByteArray} {a b : St} (h : Fw src a b) : Fw src a (semi b) := h.trans (fw_same rfl rfl rfl rfl rfl rfl rfl rfl rfl rfl)
theorem fw_next {src : ByteArray} {a b : St} (h : Fw src a b) : Fw src a (nextch src b) := h.trans (on_next _ _).fw
theorem fw_setLit {src : ByteArray} {a b : St} (k : Int) (ok : Bool) (h : Fw src a b) : Fw src a (setLitF src k ok b) := h.trans (fw_same rfl rfl rfl rfl rfl rfl rfl rfl rfl rfl)
theorem ident_fw {src : ByteArray} {st : St} (h : chOk st) : Fw src st (identF src st) := by
  have e : ∀ s, Fw src s (identEnd src s) := fun s => by
    unfold identEnd
    split <;> exact fw_same rfl rfl rfl rfl rfl rfl rfl rfl rfl rfl
  unfold identF
  split
  · exact ((on_skip src cId st).trans (idBF_on src _ (skip_chOk h)).1).fw.trans (e _)
  · exact (on_skip src cId st).fw.trans (e _)
/-! Numbers -/
theorem p5T_fw {src : ByteArray} {st : St} {s : NumS} (h : NumI src st s) : (p5T src s).sat (fun s => LitI src s ∧ Fw src st s.st) := by
  have hl : (setLitF src s.kind s.ok s.st).lit.size = off s.st := h.offs.seg
  have hs := h.offs.sz; have hn := h.offs.n
  have ho : off s.st ≤ 2048 := by unfold off; omega
  have l1 : LitI src { s with st := setLitF src s.kind s.ok s.st } := by unfold LitI; show (setLitF src s.kind s.ok s.st).lit.size ≤ 2048; omega
  have f1 : Fw src st (setLitF src s.kind s.ok s.st) := fw_setLit _ _ h.on.fw
  have hi := h.inv
  refine ⟨h.offs.b, fun _ => ⟨fun h1 => ⟨fun _ => ⟨⟨of_decide_eq_true h1, ?_⟩, h.base, ?_, f1.trans (on_errorAt _ _ _ _).fw⟩, fun _ => ⟨l1, f1⟩⟩, fun _ => ⟨l1, f1⟩⟩, fun _ => ⟨l1, f1⟩⟩
  · have h2 : s.inv ≥ 0 := of_decide_eq_true h1
    rw [hl]; omega
  · show (setLitF src s.kind s.ok s.st).lit.size ≤ 2048
    omega
theorem p6T_fw {src : ByteArray} {st : St} {s : NumS} (h : LitI src s ∧ Fw src st s.st) : (p6T s).sat (fun s => Fw src st s.st) := by
  have h1 : s.st.lit.size ≤ 2048 := h.1
  exact ⟨fun _ => ⟨fun _ => ⟨by omega, fun _ => h.2.trans (on_errorAt _ _ _ _).fw, fun _ => h.2⟩, fun _ => h.2⟩, fun _ => h.2⟩
theorem number_fw {src : ByteArray} {seen : Bool} {st : St} (h : Off src st) (hc : st.ch ≠ 10) : Fw src st (numberF src seen st) := by
  have tail : ∀ s, NumI src st s → (numTail src True Tree.leaf s).sat (fun s => Fw src st s.st) := fun s hs => by
    simp only [numTail, sat_bind]
    exact sat_mono (p2T_sat hs) fun a h => sat_mono (p3T_sat h) fun a h => sat_mono (p4T_sat trivial h) fun a h => sat_mono (p45T_sat h) fun a h => sat_mono (p5T_fw h) fun a h => sat_mono (p6T_fw h) fun a h => h
  have key : (numTree src True Tree.leaf seen st).sat (fun s => Fw src st s.st) := by
    unfold numTree
    split
    · exact tail _ ⟨.inr (.inr (.inl rfl)), h, .inl (by show (-1 : Int) < 0; decide), On.refl _ _⟩
    · rw [sat_bind]; exact sat_mono (p1FT_sat h hc) fun a ha => tail a ha
  exact ((num_get h hc).1 key).trans (fw_same rfl rfl rfl rfl rfl rfl rfl rfl rfl rfl)
/-- On from here, but for places. -/
structure Fw0 (src : ByteArray) (st st' : St) : Prop where
  mode : st'.mode = st.mode
  notes : ∃ l, st'.notes = st.notes ++ l
  left : left src st' ≤ left src st
  pos : Pos src st → Pos src st' ∧ st.p - st.chw ≤ st'.p - st'.chw
/-- Back to a point, and on behind it. -/
theorem rewind_fw {src : ByteArray} {st : St} (hO : Off src st) (hb : st.b = some (st.p - st.chw)) (hP : Pos src st) (hc : st.ch = 46) (s : St) (hs : Fw src st s) (hsb : s.b = st.b) : Fw0 src st (rewind src s) := by
  have h1 : st.chw = 1 := by
    have := hP.asc (by rw [hc]; decide)
    have := hP.pos (by rw [hc]; decide)
    omega
  have e : s.b.getD 0 = st.p - 1 := by rw [hsb, hb, h1]; rfl
  have hw := hP.w; have hn := hP.n
  have hlt : st.p - 1 < src.size := by omega
  have hp : ({ s with p := s.b.getD 0, col0 := u64 (s.col0 - u64 ((s.p : Int) - (s.b.getD 0 : Nat))) } : St).p ≤ src.size := by show s.b.getD 0 ≤ _; omega
  have np := nextch_pos hp
  have on := on_next src { s with p := s.b.getD 0, col0 := u64 (s.col0 - u64 ((s.p : Int) - (s.b.getD 0 : Nat))) }
  have ro := readAt_on src (nlLine { s with p := s.b.getD 0, col0 := u64 (s.col0 - u64 ((s.p : Int) - (s.b.getD 0 : Nat))) }) src.size s.fresh (st.p - 1) (nlCol { s with p := s.b.getD 0, col0 := u64 (s.col0 - u64 ((s.p : Int) - (s.b.getD 0 : Nat))) }) s.notes hlt
  have ep : (rewind src s).p = (readAt src (nlLine { s with p := s.b.getD 0, col0 := u64 (s.col0 - u64 ((s.p : Int) - (s.b.getD 0 : Nat))) }) (src.size + 1) s.fresh (s.b.getD 0) (nlCol { s with p := s.b.getD 0, col0 := u64 (s.col0 - u64 ((s.p : Int) - (s.b.getD 0 : Nat))) }) s.notes).p := rfl
  rw [e] at ep
  rw [← e, e, ← ep] at ro
  obtain ⟨l, hl⟩ := hs.notes
  obtain ⟨l', hl'⟩ := on.notes
  refine ⟨?_, ⟨l ++ l', ?_⟩, ?_, fun _ => ⟨np.1, ?_⟩⟩
  · show (nextch src _).mode = _
    rw [on.keep]; exact hs.mode
  · show (nextch src _).notes = _
    rw [hl', ← List.append_assoc, ← hl]
  · unfold left
    rw [if_neg (show ¬ st.ch = -1 by rw [hc]; decide)]
    split <;> omega
  · have h2 := np.2
    have h3 : ({ s with p := s.b.getD 0, col0 := u64 (s.col0 - u64 ((s.p : Int) - (s.b.getD 0 : Nat))) } : St).p = st.p - 1 := e
    rw [h3] at h2
    rw [h1]
    exact h2
/-- Back to a point, it is read again. -/
theorem rewind_at {src : ByteArray} {st : St} (hb : st.b = some (st.p - st.chw)) (hP : Pos src st) (hc : st.ch = 46) (s : St) (hsb : s.b = st.b) :
    (rewind src s).p = st.p ∧ (rewind src s).chw = 1 ∧ (rewind src s).ch = 46 ∧ (rewind src s).line0 = nlLine s ∧ (rewind src s).col0 = nlCol { s with col0 := u64 (s.col0 - u64 ((s.p : Int) - (st.p - 1 : Nat))) } ∧ (rewind src s).line = s.line ∧ (rewind src s).col = s.col := by
  have h1 : st.chw = 1 := by
    have := hP.asc (by rw [hc]; decide)
    have := hP.pos (by rw [hc]; decide)
    omega
  have e : s.b.getD 0 = st.p - 1 := by rw [hsb, hb, h1]; rfl
  have hw := hP.w; have hn := hP.n
  have hlt : st.p - 1 < src.size := by omega
  have hbyte : (src.get! (st.p - 1)).toNat = 46 := by
    have := hP.byte (by rw [hc]; decide) (by rw [hc]; decide)
    rw [hc] at this; omega
  have hr : readAt src (nlLine s) (src.size + 1) s.fresh (st.p - 1) (nlCol { s with col0 := u64 (s.col0 - u64 ((s.p : Int) - (st.p - 1 : Nat))) }) s.notes = ⟨st.p, nlCol { s with col0 := u64 (s.col0 - u64 ((s.p : Int) - (st.p - 1 : Nat))) }, 46, 1, s.notes⟩ := by
    rw [readAt, if_pos hlt, if_pos (by rw [hbyte]; decide), if_neg (by rw [hbyte]; exact fun h => absurd h.1 (by decide)), hbyte]
    rw [show st.p - 1 + 1 = st.p by omega]; rfl
  have key : rewind src s = St.read { s with p := st.p - 1, col0 := u64 (s.col0 - u64 ((s.p : Int) - (st.p - 1 : Nat))) } (nlLine s) (readAt src (nlLine s) (src.size + 1) s.fresh (st.p - 1) (nlCol { s with col0 := u64 (s.col0 - u64 ((s.p : Int) - (st.p - 1 : Nat))) }) s.notes) := by
    unfold rewind
    rw [e]
    rfl
  rw [hr] at key
  rw [key]
  exact ⟨rfl, rfl, rfl, rfl, rfl, rfl, rfl⟩
theorem rewind_fk {src : ByteArray} {st : St} (hO : Off src st) (hb : st.b = some (st.p - st.chw)) (hP : Pos src st) (hc : st.ch = 46) (h2 : (nextch src st).ch = 46) : Fk src st (nextch src (rewind src (nextch src (nextch src st)))) := by
  intro _ hs hk
  have o1 := (hO.next (by rw [hc]; decide)).1
  have o2 := (o1.next (by rw [h2]; decide)).1
  have k1 := nextch_kp hs hP.n (fun e => by rw [hc] at e; cases e) hk
  have p1 := (nextch_pos (src := src) hP.n).1
  have k2 := nextch_kp hs p1.n (fun e => by rw [h2] at e; cases e) k1.1
  have p2 := (nextch_pos (src := src) p1.n).1
  have h1 : st.chw = 1 := by
    have := hP.asc (by rw [hc]; decide)
    have := hP.pos (by rw [hc]; decide)
    omega
  have l1 : (nextch src st).line0 = st.line0 := by show nlLine st = _; unfold nlLine; rw [if_neg (by rw [hc]; decide)]
  have l2 : (nextch src (nextch src st)).line0 = st.line0 := by show nlLine (nextch src st) = _; unfold nlLine; rw [if_neg (by rw [h2]; decide)]; exact l1
  obtain ⟨r1, r2, r3, r4, r5, _, _⟩ := rewind_at hb hP hc (nextch src (nextch src st)) rfl
  have oc0 := hO.col
  have oc2 := o2.col
  have c2 : (nextch src (nextch src st)).col = st.col := rfl
  have b2 : (nextch src (nextch src st)).b = st.b := rfl
  have of0 : off st = 0 := by unfold off; rw [hb]; exact Nat.sub_self _
  have of2 : off (nextch src (nextch src st)) = (nextch src (nextch src st)).p - (nextch src (nextch src st)).chw - (st.p - 1) := by unfold off; rw [b2, hb, h1]; rfl
  rw [c2, of2] at oc2
  rw [of0] at oc0
  have ge2 : st.p - 1 ≤ (nextch src (nextch src st)).p - (nextch src (nextch src st)).chw := by
    have := o2.le; rw [b2, hb, h1] at this; exact this
  have n2 := p2.n; have w2 := p2.w
  have a10 : (nextch src (nextch src st)).ch = 10 → (nextch src (nextch src st)).chw = 1 := fun e => by
    have := p2.asc (by rw [e]; decide)
    have := p2.pos (by rw [e]; decide)
    omega
  obtain ⟨⟨q1, q2, q3, q4⟩, lx⟩ := k2
  have k0 := hk.l0; have k0' := hk.c0; have k3 := hk.c; have k4 := hk.l
  have hn := hP.n
  generalize hg : nextch src (nextch src st) = s at *
  by_cases e10 : s.ch = 10
  · have c5 : (rewind src s).col0 = 0 := by rw [r5]; unfold nlCol; rw [if_pos e10]
    have c4 : (rewind src s).line0 = st.line0 + 1 := by rw [r4]; unfold nlLine; rw [if_pos e10, l2]; exact u64_small (by omega) (by omega)
    generalize rewind src s = r at *
    have el : (nextch src r).line0 = nlLine r := rfl
    have ll : nlLine r = r.line0 := by unfold nlLine; rw [if_neg (by rw [r3]; decide)]
    have cc : nlCol r = 1 := by unfold nlCol; rw [if_neg (by rw [r3]; decide), c5, r2]; rfl
    have hr := readAt_kp src (nlLine r) hs (src.size + 1) r.fresh r.p (nlCol r) r.notes (by omega) (by rw [cc]; decide) (by rw [cc, r1]; omega)
    have hpp := (readAt_pos src (nlLine r) (src.size + 1) r.fresh r.p (nlCol r) r.notes (by omega)).1
    have ec : (nextch src r).col0 = (readAt src (nlLine r) (src.size + 1) r.fresh r.p (nlCol r) r.notes).col := rfl
    have e1 : (nextch src r).p = (readAt src (nlLine r) (src.size + 1) r.fresh r.p (nlCol r) r.notes).p := rfl
    have e2 : (nextch src r).chw = (readAt src (nlLine r) (src.size + 1) r.fresh r.p (nlCol r) r.notes).chw := rfl
    rw [← ec, ← e1, ← e2] at hr
    rw [← e1, ← e2] at hpp
    rw [cc] at hr
    rw [ll, c4] at el
    exact ⟨⟨by omega, by omega, hr.2, by omega⟩, .inl (by omega)⟩
  · have c4 : (rewind src s).line0 = st.line0 := by rw [r4]; unfold nlLine; rw [if_neg e10, l2]
    have c5 : (rewind src s).col0 = st.col0 := by
      rw [r5]; unfold nlCol; rw [if_neg e10]
      simp only [u64_eq] at oc0 oc2 ⊢
      omega
    have kr : Kp (rewind src s) := hk.same c4 c5 r1 (by rw [r2, h1])
    have := nextch_kp (src := src) hs (by rw [r1]; exact hn) (fun e => by rw [r3] at e; cases e) kr
    exact ⟨this.1, Lx.trans (.inr ⟨c4.symm, by rw [c5]; exact Int.le_refl _⟩) this.2⟩
theorem rewind_next {src : ByteArray} {st : St} (hO : Off src st) (hb : st.b = some (st.p - st.chw)) (hP : Pos src st) (hc : st.ch = 46) (h2 : (nextch src st).ch = 46) : Fw src st (nextch src (rewind src (nextch src (nextch src st)))) := by
  have h0 := rewind_fw hO hb hP hc (nextch src (nextch src st)) ((on_next _ _).trans (on_next _ _)).fw rfl
  have h1 := on_next src (rewind src (nextch src (nextch src st)))
  obtain ⟨l, hl⟩ := h0.notes
  obtain ⟨l', hl'⟩ := h1.notes
  refine ⟨(by rw [h1.keep]; exact h0.mode), ⟨l ++ l', by rw [hl', hl, List.append_assoc]⟩, Nat.le_trans h1.left h0.left, fun hp => ⟨(h1.pos (h0.pos hp).1).1, Nat.le_trans (h0.pos hp).2 (h1.pos (h0.pos hp).1).2⟩, rewind_fk hO hb hP hc h2, rfl, rfl⟩
end Sc
end Go.Proofs.YtogkcphobhhbdaaDoor

/- The scanner's functions over the plain state: every token goes on. -/
namespace Go.Proofs.YtogkcphobhhbdaaDoor
open Go Go.RowKit Go.Lib
namespace Sc
open Ev
set_option maxRecDepth 100000
theorem dec_not_end {x : Int} (h : isDecimalF x = true) : ¬ x = -1 := fun e => by rw [e] at h; exact absurd h (by decide)
theorem digits_left {src : ByteArray} {st : St} {inv : Int} (h : isDecimalF st.ch = true) : left src (digitsF src 10 st inv).1 < left src st := by
  unfold digitsF
  rw [if_pos (by decide)]
  refine runF_sat (body := digA src (IntKind.i32.wrap (IntKind.i64.wrap (48 + 10)))) (μ := digAM src) (fun a => a.1 = st ∨ left src a.1 < left src st) (P := fun q : St × Int × Int => left src q.1 < left src st) (fun a ha => ?_) (st, 0, inv) (.inl rfl)
  have go : ¬ a.1.ch = -1 → left src (nextch src a.1) < left src a.1 ∧ left src (nextch src a.1) < left src st := fun hne => by
    have := nextch_left src a.1 hne
    rcases ha with ha | ha
    · rw [ha] at this ⊢; exact ⟨this, this⟩
    · exact ⟨this, by omega⟩
  have d1 : ¬ a.1.ch = -1 → (digA1 src (IntKind.i32.wrap (IntKind.i64.wrap (48 + 10))) a).sat (fun s => match s with
      | .go a' => (a'.1 = st ∨ left src a'.1 < left src st) ∧ digAM src a' < digAM src a
      | .out b => left src b.1 < left src st) := fun hne => by
    have g := go hne
    unfold digA1
    repeat' first
      | exact ⟨.inr g.2, g.1⟩
      | (refine ⟨fun _ => ?_, fun _ => ?_⟩)
  refine ⟨fun h1 => d1 (dec_not_end h1), fun h1 => ⟨fun h2 => d1 (fun e => by rw [e] at h2; exact absurd h2 (by decide)), fun _ => ?_⟩⟩
  rcases ha with ha | ha
  · rw [ha, h] at h1; cases h1
  · exact ha
end Sc
end Go.Proofs.YtogkcphobhhbdaaDoor

/- The scanner's functions over the plain state: every pass goes on. -/
namespace Go.Proofs.YtogkcphobhhbdaaDoor
open Go Go.RowKit Go.Lib
namespace Sc
open Ev
set_option maxRecDepth 100000
theorem sat_all {α : Type} {t : Tree α} {P R : α → Prop} (h : t.sat P) (hr : t.all R) : t.sat (fun a => P a ∧ R a) := by
  induction t with
  | leaf a => exact ⟨h, hr⟩
  | test b t e iht ihe => exact ⟨fun hb => iht (h.1 hb) (hr.1 hb), fun hb => ihe (h.2 hb) (hr.2 hb)⟩
  | req p k ih => exact ⟨h.1, ih h.2 hr⟩
  | any t e iht ihe => exact ⟨iht h.1 hr.1, ihe h.2 hr.2⟩
  | fail => exact h.elim
theorem n1T_all {src : ByteArray} {base pre d0 : Int} {r : St × Int × Int} {L : Nat} (h : left src r.1 < L) : (n1T src base pre d0 r).all (fun a => left src a.st < L) := by
  have e : ∀ m, left src (nextch src (error m r.1)) < L := fun m => Nat.lt_of_le_of_lt (nextch_le src (error m r.1)) h
  exact ⟨fun _ => ⟨fun _ => e _, fun _ => ⟨fun _ => e _, fun _ => Nat.lt_of_le_of_lt (nextch_le src r.1) h⟩⟩, fun _ => h⟩
theorem p1FT_all {src : ByteArray} {st : St} (h : isDecimalF st.ch = true) : (p1FT src st).all (fun a => left src a.st < left src st) := by
  have h1 := nextch_left src st (dec_not_end h)
  have h2 : left src (nextch src (nextch src st)) < left src st := Nat.lt_of_le_of_lt (nextch_le src _) h1
  have d : ∀ (b : Int) (s : St), left src s < left src st → left src (digitsF src b s (-1)).1 < left src st := fun b s hs => Nat.lt_of_le_of_lt (digits_on src b s (-1)).left hs
  exact ⟨fun _ => ⟨fun _ => n1T_all (d _ _ h2), fun _ => ⟨fun _ => n1T_all (d _ _ h2), fun _ => ⟨fun _ => n1T_all (d _ _ h2), fun _ => n1T_all (d _ _ h1)⟩⟩⟩, fun _ => n1T_all (digits_left h)⟩
theorem number_left {src : ByteArray} {st : St} (h : Off src st) (hc : isDecimalF st.ch = true) : left src (numberF src false st) < left src st := by
  have hc10 : st.ch ≠ 10 := fun e => by rw [e] at hc; exact absurd hc (by decide)
  have tail : ∀ s, NumI src st s → (numTail src True Tree.leaf s).sat (fun s' => Fw src s.st s'.st) := fun s hs => by
    have hs' : NumI src s.st s := ⟨hs.base, hs.offs, hs.inv, On.refl _ _⟩
    simp only [numTail, sat_bind]
    exact sat_mono (p2T_sat hs') fun a h => sat_mono (p3T_sat h) fun a h => sat_mono (p4T_sat trivial h) fun a h => sat_mono (p45T_sat h) fun a h => sat_mono (p5T_fw h) fun a h => sat_mono (p6T_fw h) fun a h => h
  have key : (numTree src True Tree.leaf false st).sat (fun s => left src s.st < left src st) := by
    unfold numTree
    rw [if_neg (by decide), sat_bind]
    exact sat_mono (sat_all (p1FT_sat h hc10) (p1FT_all hc)) fun a ha => sat_mono (tail a ha.1) fun s hs => Nat.lt_of_le_of_lt hs.left ha.2
  exact (num_get h hc10).1 key
/-! The switch goes on. -/
def Gd (src : ByteArray) (st s : St) : Prop := Fw src st s ∧ left src s < left src st
def SwQ (src : ByteArray) (nl : Bool) (st : St) : Fin → Prop
  | .done s _ => Fw src st s ∧ (left src s < left src st ∨ (s.nlsemi = st.nlsemi ∧ (nl = false → s.tok = 1)))
  | .redo s => Gd src st s
  | .asg s => Gd src st s
theorem gd_done {src : ByteArray} {nl : Bool} {st s : St} {bx : List Value} (h : Gd src st s) : SwQ src nl st (.done s bx) := ⟨h.1, .inl h.2⟩
theorem gd_tk {src : ByteArray} {st s : St} (t : Int) (h : Gd src st s) : Gd src st (tk t s) := ⟨fw_tk t h.1, h.2⟩
theorem gd_opr {src : ByteArray} {st s : St} (o p : Int) (h : Gd src st s) : Gd src st (opr o p s) := ⟨fw_opr o p h.1, h.2⟩
theorem gd_lit {src : ByteArray} {st s : St} (w : ByteArray) (h : Gd src st s) : Gd src st (lit w s) := ⟨fw_lit w h.1, h.2⟩
theorem gd_semi {src : ByteArray} {st s : St} (h : Gd src st s) : Gd src st (semi s) := ⟨fw_semi h.1, h.2⟩
theorem gd_next {src : ByteArray} {st s : St} (h : Gd src st s) : Gd src st (nextch src s) := ⟨fw_next h.1, Nat.lt_of_le_of_lt (nextch_le src s) h.2⟩
theorem gd_fw {src : ByteArray} {st s s' : St} (h : Gd src st s) (h' : Fw src s s') : Gd src st s' := ⟨h.1.trans h', Nat.lt_of_le_of_lt h'.left h.2⟩
theorem sw_satQ {src : ByteArray} {nl : Bool} {st : St} (hO : Off src st) (hP : Pos src st) (hbb : st.b = some (st.p - st.chw)) : (swT src nl st).sat (SwQ src nl st) := by
  have hb := hO.b
  have eqv : ∀ {k : Int}, (st.ch == k) = true → st.ch = k := fun h => by simpa using h
  refine ⟨fun h0 => ⟨fun hn => ⟨fw_lit _ (Fw.refl _ _), .inr ⟨rfl, fun h => by rw [hn] at h; cases h⟩⟩, fun hn => ⟨fw_tk _ (Fw.refl _ _), .inr ⟨rfl, fun _ => rfl⟩⟩⟩, fun h0 => ?_⟩
  have hne : ¬ st.ch = -1 := fun e => by rw [e] at h0; cases h0
  have g1 : Gd src st (nextch src st) := ⟨(on_next _ _).fw, nextch_left src st hne⟩
  have g2 := gd_next g1
  have g3 := gd_next g2
  have f1 : ∀ {t : Int} {s : St}, Gd src st s → (sw1 t s).sat (SwQ src nl st) := fun h => gd_done (gd_tk _ h)
  have f4 : ∀ {o p : Int} {s : St}, Gd src st s → (sw4 o p s).sat (SwQ src nl st) := fun h => gd_done (gd_tk _ (gd_opr _ _ h))
  have fA : ∀ {o p : Int} {s : St}, Gd src st s → (swA o p s).sat (SwQ src nl st) := fun h => gd_opr _ _ h
  have num : ∀ k : Int, isDecimalF k = true → (st.ch == k) = true → (swNum src false st).sat (SwQ src nl st) := fun k hk h => by
    have hd : isDecimalF st.ch = true := by rw [eqv h]; exact hk
    have hc : st.ch ≠ 10 := fun e => by rw [e] at hd; exact absurd hd (by decide)
    exact ⟨⟨hO, hc⟩, gd_done ⟨number_fw hO hc, number_left hO hd⟩⟩
  have rw1 : st.ch = 46 → (nextch src st).ch = 46 → Gd src st (nextch src (rewind src (nextch src (nextch src st)))) := fun hc h2 => by
    have hr := rewind_fw hO hbb hP hc (nextch src (nextch src st)) g2.1 rfl
    refine ⟨rewind_next hO hbb hP hc h2, ?_⟩
    have hl := hr.left
    by_cases he : (rewind src (nextch src (nextch src st))).ch = -1
    · refine Nat.lt_of_le_of_lt (nextch_le src _) ?_
      unfold left at hl ⊢
      rw [if_pos he] at hl ⊢
      rw [if_neg hne] at hl ⊢
      omega
    · exact Nat.lt_of_lt_of_le (nextch_left src _ he) hl
  refine tr_sat (gd_done (gd_lit _ g1)) ?_
  refine test_sat (num 48 (by decide)) (test_sat (num 49 (by decide)) (test_sat (num 50 (by decide)) (test_sat (num 51 (by decide)) (test_sat (num 52 (by decide)) ?_))))
  refine test_sat (num 53 (by decide)) (test_sat (num 54 (by decide)) (test_sat (num 55 (by decide)) (test_sat (num 56 (by decide)) (test_sat (num 57 (by decide)) ?_))))
  refine tr_sat ⟨hb, gd_done (gd_fw g1 (fw_setLit _ _ (ok_on (strB_on src) (nextch src st, true)).fw))⟩ (tr_sat ⟨hb, gd_done (gd_fw g1 (fw_setLit _ _ (ok_on (rawB_on src) (nextch src st, true)).fw))⟩ (tr_sat ⟨hb, gd_done (gd_fw g1 (fw_setLit _ _ (rune_on src (nextch src st, true, 0)).fw))⟩ ?_))
  refine tr_sat (f1 g1) (tr_sat (f1 g1) (tr_sat (f1 g1) (tr_sat (f1 g1) (tr_sat (gd_done (gd_lit _ g1)) (tr_sat (f1 (gd_semi g1)) (tr_sat (f1 (gd_semi g1)) (tr_sat (f1 (gd_semi g1)) ?_)))))))
  refine tr_sat (tr_sat (f1 g2) (f1 g1)) ?_
  refine test_sat (fun h => test_sat (fun h3 => ?_) (test_sat (fun h2 => tr_sat (f1 g3) ⟨hb, f1 (rw1 (eqv h) (by simpa using h2))⟩) (f1 g1))) ?_
  · have o1 := (hO.next (by rw [eqv h]; decide)).1
    have c1 : (nextch src st).ch ≠ 10 := fun e => by rw [e] at h3; exact absurd h3 (by decide)
    exact ⟨⟨o1, c1⟩, gd_done (gd_fw g1 (number_fw o1 c1))⟩
  refine tr_sat (tr_sat (fA g1) (f1 (gd_semi (gd_next (gd_opr _ _ g1))))) (tr_sat (tr_sat (fA g1) (f1 (gd_semi (gd_next (gd_opr _ _ g1))))) (tr_sat (tr_sat (f1 (gd_next (gd_opr _ _ g1))) (f1 (gd_opr _ _ g1))) ?_))
  refine tr_sat (tr_sat ⟨hb, gd_fw g2 (lineComment_fw _ _)⟩ (tr_sat ⟨hb, tr_sat (tr_sat (gd_done (gd_lit _ (gd_fw g2 (fullComment_fw _ _)))) (gd_fw g2 (fullComment_fw _ _))) (gd_fw g2 (fullComment_fw _ _))⟩ (fA g1))) ?_
  refine tr_sat (fA g1) (tr_sat (tr_sat (f4 g2) (tr_sat (gd_fw (gd_next (gd_opr 20 5 g1)) (fw_same rfl rfl rfl rfl rfl rfl rfl rfl rfl rfl)) (fA g1))) (tr_sat (tr_sat (f4 g2) (fA g1)) (tr_sat (fA g1) ?_)))
  refine tr_sat (tr_sat (f4 g2) (tr_sat (fA g2) (tr_sat (f1 g2) (f4 g1)))) (tr_sat (tr_sat (f4 g2) (tr_sat (fA g2) (f4 g1))) (tr_sat (tr_sat (f4 g2) (f1 g1)) (tr_sat (tr_sat (f4 g2) (f4 g1)) (tr_sat (f4 g1) ?_))))
  exact ⟨((on_error _ _ _).trans (on_next _ _)).fw, nextch_left src (error msgChar st) hne⟩
end Sc
end Go.Proofs.YtogkcphobhhbdaaDoor

/- The scanner's functions over the plain state: what a pass of next leaves. -/
namespace Go.Proofs.YtogkcphobhhbdaaDoor
open Go Go.RowKit Go.Lib
namespace Sc
open Ev
set_option maxRecDepth 100000
theorem On.nl {src : ByteArray} {a b : St} (h : On src a b) : b.nlsemi = a.nlsemi := by rw [h.keep]
theorem pfxGo_nl {src s : ByteArray} {φ ψ : St → St} (hφ : ∀ st, (φ st).nlsemi = st.nlsemi) (hψ : ∀ st, (ψ st).nlsemi = st.nlsemi) (st : St) : (pfxGo src s φ ψ st).nlsemi = st.nlsemi := by
  unfold pfxGo
  split
  · rw [hψ]; exact (pfxF_on _ _ _).nl
  · rw [hφ]; exact (pfxF_on _ _ _).nl
theorem lcSkip_nl (src : ByteArray) (st : St) : (lcSkip src st).nlsemi = st.nlsemi := (on_skip src notLine (stop st)).nl
theorem fcSkip_nl (src : ByteArray) (st : St) : (fcSkip src st).nlsemi = st.nlsemi := (skipCommentF_on src (stop st)).nl
theorem lineComment_nl (src : ByteArray) (st : St) : (lineCommentF src st).nlsemi = st.nlsemi := by
  unfold lineCommentF
  split
  · exact (lcTxt_on _ _).nl
  · split
    · exact lcSkip_nl _ _
    · exact pfxGo_nl (lcSkip_nl src) (fun st => (lcTxt_on src st).nl) st
theorem fullComment_nl (src : ByteArray) (st : St) : (fullCommentF src st).nlsemi = st.nlsemi := by
  unfold fullCommentF
  split
  · exact (fcTxt_on _ _).nl
  · split
    · exact fcSkip_nl _ _
    · exact pfxGo_nl (fcSkip_nl src) (fun st => (fcTxt_on src st).nl) st
def SwN (st : St) : Fin → Prop
  | .redo s => s.nlsemi = st.nlsemi
  | _ => True
theorem sw_allN (src : ByteArray) (nl : Bool) (st : St) : (swT src nl st).all (SwN st) := by
  have r1 : SwN st (.redo (lineCommentF src (nextch src (nextch src st)))) := lineComment_nl _ _
  have r2 : SwN st (.redo (fullCommentF src (nextch src (nextch src st)))) := fullComment_nl _ _
  have r3 : SwN st (.redo (nextch src (error msgChar st))) := rfl
  have ta : ∀ {b : Bool} {t e : Tree Fin}, t.all (SwN st) → e.all (SwN st) → (Tree.test b t e).all (SwN st) := fun h1 h2 => ⟨fun _ => h1, fun _ => h2⟩
  unfold swT
  refine ta (ta trivial trivial) (ta trivial (ta trivial (ta trivial (ta trivial (ta trivial (ta trivial (ta trivial (ta trivial (ta trivial (ta trivial (ta trivial ?_)))))))))))
  refine ta trivial (ta trivial (ta trivial (ta trivial (ta trivial (ta trivial (ta trivial (ta trivial (ta trivial (ta trivial (ta trivial ?_))))))))))
  refine ta (ta trivial trivial) (ta (ta trivial (ta (ta trivial trivial) trivial)) (ta (ta trivial trivial) (ta (ta trivial trivial) (ta (ta trivial trivial) ?_))))
  refine ta (ta r1 (ta (ta (ta trivial r2) r2) trivial)) ?_
  refine ta trivial (ta (ta trivial (ta trivial trivial)) (ta (ta trivial trivial) (ta trivial ?_)))
  refine ta (ta trivial (ta trivial (ta trivial trivial))) (ta (ta trivial (ta trivial trivial)) (ta (ta trivial trivial) (ta (ta trivial trivial) (ta trivial ?_))))
  exact r3
/-- Ahead of where it was. -/
structure Aw (src : ByteArray) (st s : St) : Prop where
  mode : s.mode = st.mode
  notes : ∃ l, s.notes = st.notes ++ l
  left : left src s ≤ left src st
  fwd : st.p - st.chw ≤ s.p - s.chw
  kp : src.size ≤ 2048 → Kp st → Kp s ∧ Lx st s
theorem Fw.aw {src : ByteArray} {a b : St} (h : Fw src a b) (hp : Pos src a) : Aw src a b := ⟨h.mode, h.notes, h.left, (h.pos hp).2, h.kp hp⟩
theorem Aw.trans {src : ByteArray} {a b c : St} (h : Aw src a b) (h' : Aw src b c) : Aw src a c := by
  obtain ⟨l, hl⟩ := h.notes
  obtain ⟨l', hl'⟩ := h'.notes
  exact ⟨h'.mode.trans h.mode, ⟨l ++ l', by rw [hl', hl, List.append_assoc]⟩, Nat.le_trans h'.left h.left, Nat.le_trans h.fwd h'.fwd, fun hs hk => ⟨(h'.kp hs (h.kp hs hk).1).1, (h.kp hs hk).2.trans (h'.kp hs (h.kp hs hk).1).2⟩⟩
/-- The token's place is one between. -/
def TokAt (st s : St) : Prop := Kp st → ∃ s0, Kp s0 ∧ s0.p ≤ 2048 ∧ Lx st s0 ∧ Lx s0 s ∧ s.line = u64 (1 + s0.line0) ∧ s.col = u64 (1 + s0.col0)
/-- Within the source, or at the beginning, where a blank stands for what was not read. -/
def Pos0 (src : ByteArray) (st : St) : Prop := Pos src st ∨ (st.ch = 32 ∧ st.p ≤ src.size)
theorem blanks_pos {src : ByteArray} {nl : Bool} {st : St} (h : Pos0 src st) : Pos src (skip src (cBlank nl) (stop st)) ∧ Aw src st (skip src (cBlank nl) (stop st)) ∧ (skip src (cBlank nl) (stop st)).nlsemi = st.nlsemi := by
  refine ⟨?_, ?_, (on_skip src (cBlank nl) (stop st)).nl⟩
  all_goals
    have f1 : Fw src st (skip src (cBlank nl) (stop st)) := (fw_stop src st).trans (on_skip _ _ _).fw
    rcases h with h | ⟨h1, h2⟩
  · exact (f1.pos h).1
  · have hc : cBlank nl (stop st).ch = true := by show cBlank nl st.ch = true; rw [h1]; cases nl <;> rfl
    rw [skip_eq src (cBlank nl) (by cases nl <;> rfl), if_pos hc]
    exact ((on_skip src (cBlank nl) (nextch src (stop st))).pos (nextch_pos (src := src) (st := stop st) h2).1).1
  · exact f1.aw h
  · have hc : cBlank nl (stop st).ch = true := by show cBlank nl st.ch = true; rw [h1]; cases nl <;> rfl
    have np := nextch_pos (src := src) (st := stop st) h2
    refine ⟨f1.mode, f1.notes, f1.left, ?_, fun hs hk => ?_⟩
    rotate_left
    · rw [skip_eq src (cBlank nl) (by cases nl <;> rfl), if_pos hc]
      have k1 := nextch_kp (src := src) (st := stop st) hs h2 (fun e => by have e : st.ch = 10 := e; rw [h1] at e; cases e) (hk.same rfl rfl rfl rfl)
      have k2 := (on_skip src (cBlank nl) (nextch src (stop st))).kp np.1 hs k1.1
      exact ⟨k2.1, Lx.trans (b := stop st) (Lx.refl st) (k1.2.trans k2.2)⟩
    rw [skip_eq src (cBlank nl) (by cases nl <;> rfl), if_pos hc]
    have := ((on_skip src (cBlank nl) (nextch src (stop st))).pos np.1).2
    have hp : (stop st).p = st.p := rfl
    rw [hp] at np
    have := np.2
    omega
def SwR (src : ByteArray) (nl : Bool) (st : St) : Fin → Prop
  | .done s _ => Pos src s ∧ Aw src st s ∧ (left src s < left src st ∨ (s.nlsemi = st.nlsemi ∧ (nl = false → s.tok = 1))) ∧ TokAt st s
  | .redo s => Pos src s ∧ Aw src st s ∧ left src s < left src st ∧ s.nlsemi = st.nlsemi
  | .asg s => Pos src s ∧ Aw src st s ∧ left src s < left src st ∧ TokAt st s
theorem nxSt_off {src : ByteArray} {bl : Bool} {st : St} (h : Pos src st) (hs : src.size ≤ 2048) : Off src (nxSt bl st) where
  b := rfl
  le := Nat.le_refl _
  w := h.w
  n := h.n
  sz := hs
  col := by
    have : off (nxSt bl st) = 0 := Nat.sub_self _
    rw [this]
    show u64 (u64 (1 + st.col0) - u64 (1 + st.col0)) = 0
    rw [Int.sub_self]; rfl
  pos := h.pos
theorem nxSt_pos {src : ByteArray} {st : St} (bl : Bool) (h : Pos src st) : Pos src (nxSt bl st) := h.same rfl rfl rfl
theorem nxSt_aw (src : ByteArray) (bl : Bool) (st : St) : Aw src st (nxSt bl st) := ⟨rfl, ⟨[], by simp [nxSt, start]⟩, Nat.le_refl _, Nat.le_refl _, fun _ hk => ⟨hk.same rfl rfl rfl rfl, .inr ⟨rfl, Int.le_refl _⟩⟩⟩
theorem atId_same (f : Bool) (st : St) : (atIdF f st).2.p = st.p ∧ (atIdF f st).2.chw = st.chw ∧ (atIdF f st).2.b = st.b ∧ (atIdF f st).2.col0 = st.col0 ∧ (atIdF f st).2.col = st.col := by
  unfold atIdF
  split
  · exact ⟨rfl, rfl, rfl, rfl, rfl⟩
  · split
    · show (if f = true then _ else _ : St).p = _ ∧ (if f = true then _ else _ : St).chw = _ ∧ (if f = true then _ else _ : St).b = _ ∧ (if f = true then _ else _ : St).col0 = _ ∧ (if f = true then _ else _ : St).col = _
      split <;> exact ⟨rfl, rfl, rfl, rfl, rfl⟩
    · split <;> exact ⟨rfl, rfl, rfl, rfl, rfl⟩
theorem atId_off {src : ByteArray} {f : Bool} {st : St} (h : Off src st) : Off src (atIdF f st).2 := by
  obtain ⟨h1, h2, h3, h4, h5⟩ := atId_same f st
  exact (h.same h1 h2 h3 h4 h5 (atIdF_ch f st)).1
/-- From the character on which a token begins. -/
def tailT (src : ByteArray) (nl : Bool) (l c : Int) (st : St) : Tree Fin := hdT src (fun s => Fin.done s []) (swT src nl) (nxSt (decide (u64 (1 + st.line0) > l) || c == 1) st)
/-- A pass, whole. -/
def passT (src : ByteArray) (nl : Bool) (st : St) : Tree Fin := tailT src nl (u64 (1 + st.line0)) (u64 (1 + st.col0)) (skip src (cBlank nl) (stop st))
theorem hd_satQ {src : ByteArray} {nl : Bool} {st : St} (hP : Pos src st) (hO : Off src st) (hb : st.b = some (st.p - st.chw)) : (hdT src (fun s => Fin.done s []) (swT src nl) st).sat (fun f => SwQ src nl st f ∧ SwN st f) := by
  have oI := atIdF_on src true st
  have sI := atId_same true st
  have w : ∀ f, SwQ src nl (atIdF true st).2 f ∧ SwN (atIdF true st).2 f → SwQ src nl st f ∧ SwN st f := fun f h => by
    obtain ⟨h, hn⟩ := h
    have hl := oI.left
    cases f with
    | done s bx => exact ⟨⟨oI.fw.trans h.1, h.2.imp (fun h => Nat.lt_of_lt_of_le h hl) (fun h => ⟨h.1.trans oI.nl, h.2⟩)⟩, trivial⟩
    | redo s => exact ⟨⟨oI.fw.trans h.1, Nat.lt_of_lt_of_le h.2 hl⟩, (show s.nlsemi = _ from hn).trans oI.nl⟩
    | asg s => exact ⟨⟨oI.fw.trans h.1, Nat.lt_of_lt_of_le h.2 hl⟩, trivial⟩
  have idn : ∀ s : St, On src st s → ¬ s.ch = -1 → SwQ src nl st (.done (identF src (nextch src s)) []) ∧ SwN st (.done (identF src (nextch src s)) []) := fun s ho hne => by
    have hl := ho.left
    have h1 := nextch_left src s hne
    have f1 := ident_fw (src := src) (nextch_chOk src s)
    have hl2 := f1.left
    exact ⟨⟨(ho.trans (on_next _ _)).fw.trans f1, .inl (by omega)⟩, trivial⟩
  refine ⟨fun h1 => ⟨⟨nextch_chOk _ _, hO.b⟩, idn st (On.refl _ _) (fun e => by rw [e] at h1; exact absurd h1 (by decide))⟩, fun _ => ⟨fun h1 => ⟨⟨by have := hP.lo; omega, by have := hP.hi; omega⟩, fun h2 => ⟨⟨nextch_chOk _ _, by rw [oI.b]; exact hO.b⟩, idn _ oI (by rw [atIdF_ch]; exact atIdF_ne h2)⟩, fun _ => ?_⟩, fun _ => ?_⟩⟩
  · exact sat_mono (sat_all (sw_satQ (atId_off hO) (oI.pos hP).1 (by rw [sI.2.2.1, sI.1, sI.2.1]; exact hb)) (sw_allN _ _ _)) w
  · exact sat_all (sw_satQ hO hP hb) (sw_allN _ _ _)
theorem pass_satR {src : ByteArray} {nl : Bool} {st : St} (h : Pos0 src st) (hs : src.size ≤ 2048) : (passT src nl st).sat (SwR src nl st) := by
  obtain ⟨p1, a1, n1⟩ := blanks_pos (nl := nl) h
  have key : ∀ bl : Bool, (hdT src (fun s => Fin.done s []) (swT src nl) (nxSt bl (skip src (cBlank nl) (stop st)))).sat (SwR src nl st) := fun bl => by
    refine sat_mono (hd_satQ (nxSt_pos bl p1) (nxSt_off p1 hs) rfl) (fun f hf => ?_)
    obtain ⟨hf, hn⟩ := hf
    have f2 := nxSt_aw src bl (skip src (cBlank nl) (stop st))
    have p2 := nxSt_pos bl p1
    have l1 := a1.left
    have l2 := f2.left
    have a2 := a1.trans f2
    have fin : ∀ {s}, Fw src (nxSt bl (skip src (cBlank nl) (stop st))) s → Pos src s ∧ Aw src st s := fun hf => ⟨(hf.pos p2).1, a2.trans (hf.aw p2)⟩
    have tk : ∀ {s}, Fw src (nxSt bl (skip src (cBlank nl) (stop st))) s → TokAt st s := fun hf hk => ⟨nxSt bl (skip src (cBlank nl) (stop st)), (a2.kp hs hk).1, Nat.le_trans p2.n hs, (a2.kp hs hk).2, (hf.kp p2 hs (a2.kp hs hk).1).2, hf.lc.1, hf.lc.2⟩
    cases f with
    | done s bx => exact ⟨(fin hf.1).1, (fin hf.1).2, hf.2.imp (fun h => by omega) (fun h => ⟨h.1.trans n1, h.2⟩), tk hf.1⟩
    | redo s => exact ⟨(fin hf.1).1, (fin hf.1).2, by have := hf.2; omega, (show s.nlsemi = _ from hn).trans n1⟩
    | asg s => exact ⟨(fin hf.1).1, (fin hf.1).2, by have := hf.2; omega, tk hf.1⟩
  exact key _
end Sc
end Go.Proofs.YtogkcphobhhbdaaDoor

/- The scanner's functions over the plain state: next. -/
namespace Go.Proofs.YtogkcphobhhbdaaDoor
open Go Go.RowKit Go.Lib
namespace Sc
open Ev
set_option maxRecDepth 100000
theorem hd_cut {A : Ad} {nl : Bool} {l c : Int} {Q : Ex × E (SY A) → Prop} {st : St} (h : ((hdT A.src (fun s => Fin.done s []) (swT A.src nl) st).bind fun f => .leaf (finX A nl f)).sat Q) :
    (hdT A.src (fun s => (Ex.ret, (⟨⟨s, []⟩, []⟩ : E (SY A)))) (fun s => .leaf (.normal, nxIn A nl l c s)) st).sat fun xe => match xe.1 with
      | .normal => ∃ q : Bool × Int × Int × St, Lax xe.2 (nxIn A q.1 q.2.1 q.2.2.1 q.2.2.2) ∧ ((swT A.src q.1 q.2.2.2).bind fun f => .leaf (finX A q.1 f)).sat Q
      | _ => Q xe := by
  refine ⟨fun h1 => h.1 h1, fun h1 => ⟨fun h2 => ⟨((h.2 h1).1 h2).1, fun h3 => (((h.2 h1).1 h2).2).1 h3, fun h3 => ⟨(nl, l, c, _), Lax.refl _, (((h.2 h1).1 h2).2).2 h3⟩⟩, fun h2 => ⟨(nl, l, c, _), Lax.refl _, (h.2 h1).2 h2⟩⟩⟩
theorem sw_at (A : Ad) (hA : A.Ok) : At (SY A) nxN (cutTail 8 (nxRest 0)) (fun q : Bool × Int × Int × St => nxIn A q.1 q.2.1 q.2.2.1 q.2.2.2) (fun q => (swT A.src q.1 q.2.2.2).bind fun f => .leaf (finX A q.1 f)) :=
  At.same (SLaws A hA) (C := cfN A) (cfgL_ok A hA (iSums_ok A hA) nxN [] 0) keepN (fun q => sw_ev A q.1 q.2.1 q.2.2.1 q.2.2.2)
theorem cut48 : cutTail 4 (cutTail 4 (nxRest 0)) = cutTail 8 (nxRest 0) := by kernel_rfl
theorem tail_at (A : Ad) (hA : A.Ok) : At (SY A) nxN (cutTail 4 (nxRest 0)) (fun q : Bool × Int × Int × St => nxIn A q.1 q.2.1 q.2.2.1 q.2.2.2) (fun q => (tailT A.src q.1 q.2.1 q.2.2.1 q.2.2.2).bind fun f => .leaf (finX A q.1 f)) := by
  refine At.cutP (SLaws A hA) (C := cfN A) (cfgL_ok A hA (iSums_ok A hA) nxN [] 0) 4 (by kernel_rfl) (F' := fun q : Bool × Int × Int × St => nxIn A q.1 q.2.1 q.2.2.1 q.2.2.2) (gb := fun q => (swT A.src q.1 q.2.2.2).bind fun f => .leaf (finX A q.1 f)) (by rw [cut48]; exact sw_at A hA) keepN (fun q Q hs => ?_)
  obtain ⟨nl, l, c, st⟩ := q
  refine sat_of_eq (hd_ev A nl l c st) ⟨fun h => hd_cut ?_, fun h => hd_cut ?_⟩
  · have hs : ((tailT A.src nl l c st).bind fun f => .leaf (finX A nl f)).sat Q := hs
    unfold tailT at hs
    rw [h, Bool.true_or] at hs
    exact hs
  · have hs : ((tailT A.src nl l c st).bind fun f => .leaf (finX A nl f)).sat Q := hs
    unfold tailT at hs
    rw [h, Bool.false_or] at hs
    exact hs
theorem cut3 : cutTail 3 (nxRest 0) = .seq (.block 0 (.loop nxLoop)) (cutTail 4 (nxRest 0)) := by kernel_rfl
theorem loop_at (A : Ad) (hA : A.Ok) : At (SY A) nxN (cutTail 3 (nxRest 0)) (fun q : Bool × Int × Int × St => nxIn A q.1 q.2.1 q.2.2.1 q.2.2.2) (fun q => (tailT A.src q.1 q.2.1 q.2.2.1 (skip A.src (cBlank q.1) q.2.2.2)).bind fun f => .leaf (finX A q.1 f)) := by
  rw [cut3]
  have h1 := At.par (F := fun (nl : Bool) (p : St × List Value × Int × Int) => Es A p.1 p.2.1 [(0, .st 0), (2, .val (.bool nl)), (3, .val (.int .u64 p.2.2.1)), (4, .val (.int .u64 p.2.2.2))]) (blank_at A hA)
  have h2 : At (SY A) nxN (.block 0 (.loop nxLoop)) (fun q : Bool × Int × Int × St => nxIn A q.1 q.2.1 q.2.2.1 q.2.2.2) (fun q => .leaf (.normal, nxIn A q.1 q.2.1 q.2.2.1 (skip A.src (cBlank q.1) q.2.2.2))) :=
    ⟨fun q => h1.wp ((q.2.2.2, [], q.2.1, q.2.2.1), q.1), fun q => h1.mono ((q.2.2.2, [], q.2.1, q.2.2.1), q.1)⟩
  exact At.seq h2 (tail_at A hA) (fun q Q hs => ⟨(q.1, q.2.1, q.2.2.1, skip A.src (cBlank q.1) q.2.2.2), Lax.refl _, hs⟩)
noncomputable def nx0 (A : Ad) (nl : Bool) (st : St) : E (SY A) := ⟨⟨st, []⟩, [(0, .st 0), (2, .val (.bool nl))]⟩
theorem npos_ev (A : Ad) (nl : Bool) (st : St) : (evCode (cfN A) (cutHead 3 (nxRest 0)) (nx0 A nl st)).bind (fun xe => .leaf (xe.1, pare (keepN xe.1) xe.2)) =
  .leaf (.normal, ⟨⟨stop st, []⟩, [(0, .st 0), (2, .val (.bool nl)), (3, .val #[Value.int IntKind.u64 (u64 (1 + st.line0)), Value.int IntKind.u64 (u64 (1 + st.col0))][0]), (4, .val #[Value.int IntKind.u64 (u64 (1 + st.line0)), Value.int IntKind.u64 (u64 (1 + st.col0))][1])]⟩) := by kernel_rfl
theorem pass_at (A : Ad) (hA : A.Ok) : At (SY A) nxN (nxRest 0) (fun q : Bool × St => nx0 A q.1 q.2) (fun q => (passT A.src q.1 q.2).bind fun f => .leaf (finX A q.1 f)) := by
  refine At.cutP (SLaws A hA) (C := cfN A) (cfgL_ok A hA (iSums_ok A hA) nxN [] 0) 3 (by kernel_rfl) (loop_at A hA) keepN (fun q Q hs => ?_)
  exact sat_of_eq (npos_ev A q.1 q.2) ⟨(q.1, u64 (1 + q.2.line0), u64 (1 + q.2.col0), stop q.2), Lax.refl _, hs⟩
/-- An operator, and its assignment. -/
noncomputable def asgX (A : Ad) (st : St) : Tree (Ex × E (SY A)) := .test (st.ch == 61) (.leaf (.ret, ⟨⟨tk 5 (nextch A.src st), []⟩, []⟩)) (.leaf (.normal, ⟨⟨tk 4 st, []⟩, []⟩))
theorem asg_ev (A : Ad) (st : St) : (evCode (cfN A) (nxRest 1) ⟨⟨st, []⟩, [(0, .st 0)]⟩).bind (fun xe => .leaf (xe.1, pare [] xe.2)) = asgX A st := by kernel_rfl
theorem asg_at (A : Ad) (hA : A.Ok) : At (SY A) nxN (nxRest 1) (fun st => at0 A (st, [])) (asgX A) :=
  At.same (SLaws A hA) (C := cfN A) (cfgL_ok A hA (iSums_ok A hA) nxN [] 0) (fun _ => []) (asg_ev A)
/-! Passes till a token is told. -/
def asgF (src : ByteArray) (st : St) : St := if st.ch = 61 then tk 5 (nextch src st) else tk 4 st
def finS (src : ByteArray) : Fin → Step St (St × List Value)
  | .done s bx => .out (s, bx)
  | .redo s => .go s
  | .asg s => .out (asgF src s, [])
def nextB (src : ByteArray) (nl : Bool) (st : St) : Tree (Step St (St × List Value)) := (passT src nl st).bind fun f => .leaf (finS src f)
/-- next. -/
def nextF (src : ByteArray) (st : St) : St × List Value := runF (nextB src st.nlsemi) (left src) (st0, []) { st with nlsemi := false }
noncomputable def scF0 (A : Ad) (l : Nat) (p : Nat × Bool × St) : E (SY A) := match l with
  | 0 => nx0 A p.2.1 p.2.2
  | _ => at0 A (p.2.2, [])
noncomputable def scGp (A : Ad) (l : Nat) (p : Nat × Bool × St) : Tree (Ex × E (SY A)) := match l with
  | 0 => (passT A.src p.2.1 p.2.2).bind fun f => .leaf (finX A p.2.1 f)
  | 1 => asgX A p.2.2
  | _ => .fail
/-- Either way out of the function. -/
noncomputable def endT (A : Ad) (o : St × List Value) : Tree (Ex × E (SY A)) := .any (.leaf (.ret, ⟨⟨o.1, o.2⟩, []⟩)) (.leaf (.normal, ⟨⟨o.1, o.2⟩, []⟩))
noncomputable def scH (A : Ad) (l : Nat) (p : Nat × Bool × St) : Tree (Ex × E (SY A)) := match l with
  | 0 => (Ev.runT (nextB A.src p.2.1) p.1 p.2.2).bind (endT A)
  | 1 => endT A (asgF A.src p.2.2, [])
  | _ => .fail
def scM (l : Nat) (p : Nat × Bool × St) : Nat := match l with
  | 0 => p.1 + 1
  | _ => 0
theorem scope_step {A : Ad} {nl : Bool} {n : Nat} {st : St} {Q : Ex × E (SY A) → Prop} (h : (scH A 0 (n + 1, nl, st)).sat Q) : ((passT A.src nl st).bind fun f => .leaf (finX A nl f)).sat fun xe => match xe.1 with
      | .goto l' => ∃ p', Lax xe.2 (scF0 A l' p') ∧ scM l' p' < n + 2 ∧ (scH A l' p').sat Q
      | _ => Q xe := by
  simp only [scH, Ev.runT, nextB, bind_assoc, sat_bind] at h
  rw [sat_bind]
  refine sat_mono h (fun f hf => ?_)
  cases f with
  | done s bx => exact hf.1
  | redo s => exact ⟨(n, nl, s), Lax.refl _, Nat.lt_succ_self _, by rw [scH, sat_bind]; exact hf⟩
  | asg s => exact ⟨(n, nl, s), Lax.refl _, Nat.succ_pos _, hf⟩
theorem asg_sat {A : Ad} {st : St} {Q : Ex × E (SY A) → Prop} (h : (endT A (asgF A.src st, [])).sat Q) : (asgX A st).sat Q := by
  unfold asgF at h
  refine ⟨fun h1 => ?_, fun h1 => ?_⟩
  · rw [if_pos (by simpa using h1)] at h; exact h.1
  · rw [if_neg (by simpa using h1)] at h; exact h.2
theorem scope_mono {A : Ad} (hA : A.Ok) : ∀ (n : Nat) (nl : Bool) (st : St) (Q : Ex × E (SY A) → Prop), (SY A).big st → (scH A 0 (n, nl, st)).sat Q → ∃ q, Q q ∧ (SY A).big q.2.c.st
  | 0, _, _, _, _, h => h.elim
  | n + 1, nl, st, Q, hb, h => by
    obtain ⟨⟨x, e⟩, hq, hb'⟩ := (pass_at A hA).mono (nl, st) _ hb (scope_step h)
    obtain ⟨⟩ | ⟨i⟩ | ⟨l⟩ | ⟨⟩ := x
    · exact ⟨_, hq, hb'⟩
    · exact ⟨_, hq, hb'⟩
    · obtain ⟨⟨m, nl', s⟩, hl, hm, hs⟩ := hq
      have hb2 : (SY A).big (scF0 A l (m, nl', s)).c.st := by rw [hl.1]; exact hb'
      match l, hl, hm, hs, hb2 with
      | 0, hl, hm, hs, hb2 => exact scope_mono hA m nl' s Q hb2 hs
      | 1, hl, hm, hs, hb2 => exact (asg_at A hA).mono s Q hb2 (asg_sat hs)
      | _ + 2, hl, hm, hs, hb2 => exact hs.elim
    · exact ⟨_, hq, hb'⟩
  termination_by n => n
  decreasing_by
    have : m + 1 < n + 2 := hm
    omega
theorem lab0 : findLabel nxBody 0 = some (nxRest 0) := by kernel_rfl
theorem lab1 : findLabel nxBody 1 = some (nxRest 1) := by kernel_rfl
theorem cut32 : cutTail 2 (cutTail 3 nxBody) = cutTail 3 (nxRest 0) := by kernel_rfl
theorem first_ev (A : Ad) (st : St) : (evCode (cfN A) (cutHead 3 nxBody) (at0 A (st, []))).bind (fun xe => .leaf (xe.1, pare [0, 2] xe.2)) = .leaf (.normal, nx0 A st.nlsemi { st with nlsemi := false }) := by kernel_rfl
theorem npos2_ev (A : Ad) (nl : Bool) (st : St) : (evCode (cfN A) (cutHead 2 (cutTail 3 nxBody)) (nx0 A nl st)).bind (fun xe => .leaf (xe.1, pare (keepN xe.1) xe.2)) =
  .leaf (.normal, ⟨⟨stop st, []⟩, [(0, .st 0), (2, .val (.bool nl)), (3, .val #[Value.int IntKind.u64 (u64 (1 + st.line0)), Value.int IntKind.u64 (u64 (1 + st.col0))][0]), (4, .val #[Value.int IntKind.u64 (u64 (1 + st.line0)), Value.int IntKind.u64 (u64 (1 + st.col0))][1])]⟩) := by kernel_rfl
theorem pass2_at (A : Ad) (hA : A.Ok) : At (SY A) nxN (cutTail 3 nxBody) (fun q : Bool × St => nx0 A q.1 q.2) (fun q => (passT A.src q.1 q.2).bind fun f => .leaf (finX A q.1 f)) := by
  refine At.cutP (SLaws A hA) (C := cfN A) (cfgL_ok A hA (iSums_ok A hA) nxN [] 0) 2 (by kernel_rfl) (by rw [cut32]; exact loop_at A hA) keepN (fun q Q hs => ?_)
  exact sat_of_eq (npos2_ev A q.1 q.2) ⟨(q.1, u64 (1 + q.2.line0), u64 (1 + q.2.col0), stop q.2), Lax.refl _, hs⟩
theorem first_at (A : Ad) (hA : A.Ok) : At (SY A) nxN nxBody (fun st => at0 A (st, [])) (fun st => (passT A.src st.nlsemi { st with nlsemi := false }).bind fun f => .leaf (finX A st.nlsemi f)) := by
  refine At.cutP (SLaws A hA) (C := cfN A) (cfgL_ok A hA (iSums_ok A hA) nxN [] 0) 3 (by kernel_rfl) (pass2_at A hA) (fun _ => [0, 2]) (fun st Q hs => ?_)
  exact sat_of_eq (first_ev A st) ⟨(st.nlsemi, { st with nlsemi := false }), Lax.refl _, hs⟩
/-! A pass meets what is asked, and the passes end. -/
theorem hd_noAny {src : ByteArray} {nl : Bool} {st : St} : (hdT src (fun s => Fin.done s []) (swT src nl) st).noAny := ⟨trivial, ⟨trivial, sw_noAny _ _ _⟩, sw_noAny _ _ _⟩
theorem nextB_noAny (src : ByteArray) (nl : Bool) (st : St) : (nextB src nl st).noAny := noAny_bind hd_noAny (fun _ => trivial)
theorem nextB_sat {src : ByteArray} {nl : Bool} {st : St} (hI : Pos0 src st ∧ src.size ≤ 2048) : (nextB src nl st).sat fun s => match s with
    | .go a' => (Pos0 src a' ∧ src.size ≤ 2048) ∧ left src a' < left src st
    | .out _ => True := by
  unfold nextB
  rw [sat_bind]
  refine sat_mono (pass_satR hI.1 hI.2) (fun f hf => ?_)
  cases f with
  | done s bx => trivial
  | redo s => exact ⟨⟨.inl hf.1, hI.2⟩, hf.2.2.1⟩
  | asg s => trivial
theorem pos0_nl {src : ByteArray} {st : St} (h : Pos0 src st) (b : Bool) : Pos0 src { st with nlsemi := b } := h.imp (fun h => h.same rfl rfl rfl) (fun h => h)
/-- What next leaves: further on, or at the end. -/
theorem nextF_sat {src : ByteArray} {st : St} (h : Pos0 src st) (hs : src.size ≤ 2048) : Pos src (nextF src st).1 ∧ Aw src st (nextF src st).1 ∧
    ((nextF src st).1.tok = 1 ∨ left src (nextF src st).1 < left src st ∨ (st.nlsemi = true ∧ (nextF src st).1.nlsemi = false)) ∧ TokAt st (nextF src st).1 := by
  unfold nextF
  refine runF_sat (body := nextB src st.nlsemi) (μ := left src) (fun a => Pos0 src a ∧ Aw src st a ∧ a.nlsemi = false) (P := fun r : St × List Value => Pos src r.1 ∧ Aw src st r.1 ∧ (r.1.tok = 1 ∨ left src r.1 < left src st ∨ (st.nlsemi = true ∧ r.1.nlsemi = false)) ∧ TokAt st r.1) (fun a ha => ?_) { st with nlsemi := false } ⟨pos0_nl h false, ⟨rfl, ⟨[], by simp⟩, Nat.le_refl _, Nat.le_refl _, fun _ hk => ⟨hk.same rfl rfl rfl rfl, .inr ⟨rfl, Int.le_refl _⟩⟩⟩, rfl⟩
  obtain ⟨h1, h2, h3⟩ := ha
  unfold nextB
  rw [sat_bind]
  refine sat_mono (pass_satR h1 hs) (fun f hf => ?_)
  have hl := h2.left
  have tk : ∀ {s}, TokAt a s → TokAt st s := fun ht hk => by
    obtain ⟨s0, g1, gp, g2, g3⟩ := ht (h2.kp hs hk).1
    exact ⟨s0, g1, gp, (h2.kp hs hk).2.trans g2, g3⟩
  cases f with
  | done s bx =>
    refine ⟨hf.1, h2.trans hf.2.1, ?_, tk hf.2.2.2⟩
    rcases hf.2.2.1 with h4 | ⟨h4, h5⟩
    · exact .inr (.inl (by show left src s < _; omega))
    · cases hn : st.nlsemi with
      | false => exact .inl (h5 hn)
      | true => exact .inr (.inr ⟨rfl, h4.trans h3⟩)
  | redo s => exact ⟨⟨.inl hf.1, h2.trans hf.2.1, hf.2.2.2.trans h3⟩, hf.2.2.1⟩
  | asg s =>
    have f1 : Fw src s (asgF src s) := by
      unfold asgF
      split
      · exact fw_tk 5 (on_next _ _).fw
      · exact fw_tk 4 (Fw.refl _ _)
    have hl2 := f1.left
    have hl3 := hf.2.2.1
    refine ⟨(f1.pos hf.1).1, (h2.trans hf.2.1).trans (f1.aw hf.1), .inr (.inl (by show left src (asgF src s) < _; omega)), tk (fun hk => ?_)⟩
    obtain ⟨s0, g1, gp, g2, g3, g4, g5⟩ := hf.2.2.2 hk
    have ks := (hf.2.1.kp hs hk).1
    exact ⟨s0, g1, gp, g2, g3.trans (f1.kp hf.1 hs ks).2, f1.lc.1.trans g4, f1.lc.2.trans g5⟩
noncomputable def nxG (A : Ad) (st : St) : Tree (Ex × E (SY A)) := .req (Pos0 A.src st ∧ A.src.size ≤ 2048) (endT A (nextF A.src st))
theorem nx_run {A : Ad} {st : St} {Q : Ex × E (SY A) → Prop} (h : (nxG A st).sat Q) : (scH A 0 (left A.src st + 1, st.nlsemi, { st with nlsemi := false })).sat Q := by
  rw [scH, sat_bind]
  have hP : Pos0 A.src { st with nlsemi := false } := pos0_nl h.1.1 false
  exact sat_of_get (d := (st0, [])) (safe_of_sat (run_noAny (nextB_noAny A.src st.nlsemi) _ _) (run_sat (P := fun _ => True) (left A.src) (fun s => Pos0 A.src s ∧ A.src.size ≤ 2048) (fun a ha => sat_mono (nextB_sat ha) (fun s hs => by cases s with
    | go a' => exact hs
    | out b => trivial)) _ _ ⟨hP, h.1.2⟩ (Nat.lt_succ_self _))) h.2
theorem scope_at (A : Ad) (hA : A.Ok) : At (SY A) nxN (.scope nxBody) (fun st => at0 A (st, [])) (nxG A) := by
  refine At.scope (F := scF0 A) (gp := scGp A) scM (h := scH A) (rest := nxRest) (first_at A hA) (fun l => ?_) (fun l p Q hs => ?_) (fun l p Q hb hs => ?_) (fun st Q hs => ?_)
  · match l with
    | 0 => exact ⟨fun p => (pass_at A hA).wp (p.2.1, p.2.2), fun p => (pass_at A hA).mono (p.2.1, p.2.2)⟩
    | 1 => exact ⟨fun p => (asg_at A hA).wp p.2.2, fun p => (asg_at A hA).mono p.2.2⟩
    | _ + 2 => exact ⟨fun p bl a w Q hI h => h.elim, fun p Q hb h => h.elim⟩
  · obtain ⟨n, nl, st⟩ := p
    match l, n, hs with
    | 0, 0, hs => exact hs.elim
    | 0, n + 1, hs => exact ⟨lab0, scope_step hs⟩
    | 1, n, hs =>
      refine ⟨lab1, ?_⟩
      have h1 : (endT A (asgF A.src st, [])).sat Q := hs
      refine sat_mono (asg_sat (Q := fun xe => Q xe ∧ ∀ l, xe.1 ≠ .goto l) ⟨⟨h1.1, fun l e => by cases e⟩, ⟨h1.2, fun l e => by cases e⟩⟩) (fun xe hx => ?_)
      obtain ⟨x, e⟩ := xe
      obtain ⟨⟩ | ⟨i⟩ | ⟨l⟩ | ⟨⟩ := x
      · exact hx.1
      · exact hx.1
      · exact absurd rfl (hx.2 l)
      · exact hx.1
    | _ + 2, n, hs => exact hs.elim
  · obtain ⟨n, nl, st⟩ := p
    match l, hb, hs with
    | 0, hb, hs => exact scope_mono hA n nl st Q hb hs
    | 1, hb, hs => exact (asg_at A hA).mono st Q hb (asg_sat hs)
    | _ + 2, hb, hs => exact hs.elim
  · refine sat_mono (scope_step (nx_run hs)) (fun xe hx => ?_)
    obtain ⟨x, e⟩ := xe
    obtain ⟨⟩ | ⟨i⟩ | ⟨l⟩ | ⟨⟩ := x
    · exact hx
    · exact hx
    · obtain ⟨p', h1, _, h3⟩ := hx; exact ⟨p', h1, h3⟩
    · exact hx
theorem next_body : (Tryd.f52).body = some (.scope nxBody) := by kernel_rfl
noncomputable def nxtG (A : Ad) (args : List SV) (c : Core (SY A)) : Tree (SV × Core (SY A)) :=
  match args, c.bx with
  | [.st 0], [] => .req (Pos0 A.src c.st ∧ A.src.size ≤ 2048) (.leaf (unit, ⟨(nextF A.src c.st).1, (nextF A.src c.st).2⟩))
  | _, _ => .fail
noncomputable def nxtS (A : Ad) : Smy (SY A) := ⟨52, #[], true, nxtG A⟩
theorem next_res : (Tryd.f52).results.toList = [] := by kernel_rfl
theorem nx_end {A : Ad} {st : St} {Q : SV × Core (SY A) → Prop} (h : Pos0 A.src st ∧ A.src.size ≤ 2048) (hq : Q (unit, ⟨(nextF A.src st).1, (nextF A.src st).2⟩)) : (nxG A st).sat fun xe => (evEnd Tryd.f52 xe).sat Q := by
  refine ⟨h, ?_, ?_⟩
  · show (match evRes [] (Tryd.f52).results.toList with
      | some r => Tree.leaf (r, (⟨(nextF A.src st).1, (nextF A.src st).2⟩ : Core (SY A)))
      | none => .fail).sat Q
    rw [next_res]; exact hq
  · show (match evRes [] (Tryd.f52).results.toList with
      | some r => Tree.leaf (r, (⟨(nextF A.src st).1, (nextF A.src st).2⟩ : Core (SY A)))
      | none => .fail).sat Q
    rw [next_res]; exact hq
theorem nxtS_ok (A : Ad) (hA : A.Ok) : (nxtS A).Ok := by
  refine ⟨fun args w => by kernel_rfl, At.fn (Y := SY A) Tryd.func52 next_body (N := nxN) rfl (π := St) (arg := fun _ => [.st 0]) (core := fun st => ⟨st, []⟩) (fun _ => by show 1 ≤ nxN; decide) (scope_at A hA) (fun args c Q h => ?_), At.fn_mono (fn := Tryd.f52) (scope_at A hA) (fun args c Q h => ?_)⟩
  · change (nxtG A args c).sat Q at h
    unfold nxtG at h
    split at h
    · rename_i hbx
      obtain ⟨st, bx⟩ := c
      have hbx' : bx = [] := hbx
      subst hbx'
      exact ⟨st, rfl, rfl, nx_end h.1 h.2⟩
    · exact h.elim
  · change (nxtG A args c).sat Q at h
    unfold nxtG at h
    split at h
    · rename_i hbx
      obtain ⟨st, bx⟩ := c
      have hbx' : bx = [] := hbx
      subst hbx'
      exact ⟨st, rfl, nx_end h.1 h.2⟩
    · exact h.elim
end Sc
end Go.Proofs.YtogkcphobhhbdaaDoor

/- The scanner's functions over the plain state: which token, which operator. -/
namespace Go.Proofs.YtogkcphobhhbdaaDoor
open Go Go.RowKit Go.Lib
namespace Sc
open Ev
set_option maxRecDepth 100000
theorem On.op {src : ByteArray} {a b : St} (h : On src a b) : b.op = a.op := by rw [h.keep]
theorem pfxGo_op {src s : ByteArray} {φ ψ : St → St} (hφ : ∀ st, (φ st).op = st.op) (hψ : ∀ st, (ψ st).op = st.op) (st : St) : (pfxGo src s φ ψ st).op = st.op := by
  unfold pfxGo
  split
  · rw [hψ]; exact (pfxF_on _ _ _).op
  · rw [hφ]; exact (pfxF_on _ _ _).op
theorem lcSkip_op (src : ByteArray) (st : St) : (lcSkip src st).op = st.op := (on_skip src notLine (stop st)).op
theorem fcSkip_op (src : ByteArray) (st : St) : (fcSkip src st).op = st.op := (skipCommentF_on src (stop st)).op
theorem lineComment_op (src : ByteArray) (st : St) : (lineCommentF src st).op = st.op := by
  unfold lineCommentF
  split
  · exact (lcTxt_on _ _).op
  · split
    · exact lcSkip_op _ _
    · exact pfxGo_op (lcSkip_op src) (fun st => (lcTxt_on src st).op) st
theorem fullComment_op (src : ByteArray) (st : St) : (fullCommentF src st).op = st.op := by
  unfold fullCommentF
  split
  · exact (fcTxt_on _ _).op
  · split
    · exact fcSkip_op _ _
    · exact pfxGo_op (fcSkip_op src) (fun st => (fcTxt_on src st).op) st
/-- The token and the operator are such as have a name. -/
def Rk (s : St) : Prop := (1 ≤ s.tok ∧ s.tok ≤ 46) ∧ (0 ≤ s.op ∧ s.op ≤ 23)
def Rop (s : St) : Prop := 0 ≤ s.op ∧ s.op ≤ 23
theorem Rop.of {a b : St} (h : Rop a) (e : b.op = a.op) : Rop b := by unfold Rop; rw [e]; exact h
theorem ident_rk {src : ByteArray} {st : St} (hc : chOk st) (h : Rop st) : Rk (identF src st) := by
  have e : ∀ s, s.op = st.op → Rk (identEnd src s) := fun s hs => by
    unfold identEnd
    split
    · rename_i hk
      have := kwOf_in _ hk.2.1
      exact ⟨⟨by show (1 : Int) ≤ (kwOf _ : Nat); omega, by show ((kwOf _ : Nat) : Int) ≤ 46; omega⟩, h.of hs⟩
    · exact ⟨⟨by show (1 : Int) ≤ 2; decide, by show (2 : Int) ≤ 46; decide⟩, h.of hs⟩
  unfold identF
  split
  · exact e _ ((on_skip src cId st).trans (idBF_on src _ (skip_chOk hc)).1).op
  · exact e _ (on_skip src cId st).op
theorem p5T_op {src : ByteArray} {st : St} {s : NumS} (h : s.st.op = st.op) : (p5T src s).all (fun s => s.st.tok = 3 ∧ s.st.op = st.op) :=
  ⟨fun _ => ⟨fun _ => ⟨fun _ => ⟨rfl, h⟩, fun _ => ⟨rfl, h⟩⟩, fun _ => ⟨rfl, h⟩⟩, fun _ => ⟨rfl, h⟩⟩
theorem p6T_op {st : St} {s : NumS} (h : s.st.tok = 3 ∧ s.st.op = st.op) : (p6T s).all (fun s => s.st.tok = 3 ∧ s.st.op = st.op) :=
  ⟨fun _ => ⟨fun _ => ⟨fun _ => h, fun _ => h⟩, fun _ => h⟩, fun _ => h⟩
theorem number_rk {src : ByteArray} {seen : Bool} {st : St} (hO : Off src st) (hc : st.ch ≠ 10) (h : Rop st) : Rk (numberF src seen st) := by
  have tail : ∀ s, NumI src st s → (numTail src True Tree.leaf s).sat (fun s => s.st.tok = 3 ∧ s.st.op = st.op) := fun s hs => by
    simp only [numTail, sat_bind]
    exact sat_mono (p2T_sat hs) fun a h => sat_mono (p3T_sat h) fun a h => sat_mono (p4T_sat trivial h) fun a h => sat_mono (p45T_sat h) fun a h => sat_mono (sat_all (p5T_sat h) (p5T_op h.on.op)) fun a h => sat_mono (sat_all (p6T_sat h.1) (p6T_op h.2)) fun a h => h.2
  have key : (numTree src True Tree.leaf seen st).sat (fun s => s.st.tok = 3 ∧ s.st.op = st.op) := by
    unfold numTree
    split
    · exact tail _ ⟨.inr (.inr (.inl rfl)), hO, .inl (by show (-1 : Int) < 0; decide), On.refl _ _⟩
    · rw [sat_bind]; exact sat_mono (p1FT_sat hO hc) fun a ha => tail a ha
  obtain ⟨h1, h2⟩ := (num_get hO hc).1 key
  have e : (numberF src seen st).tok = 3 := h1
  exact ⟨by rw [e]; decide, h.of h2⟩
theorem sat_both {α : Type} {t : Tree α} {P R : α → Prop} (h : t.sat P) (hr : t.sat R) : t.sat (fun a => P a ∧ R a) := by
  induction t with
  | leaf a => exact ⟨h, hr⟩
  | test b t e iht ihe => exact ⟨fun hb => iht (h.1 hb) (hr.1 hb), fun hb => ihe (h.2 hb) (hr.2 hb)⟩
  | req p k ih => exact ⟨h.1, ih h.2 hr.2⟩
  | any t e iht ihe => exact ⟨iht h.1 hr.1, ihe h.2 hr.2⟩
  | fail => exact h.elim
def SwK : Fin → Prop
  | .done s _ => Rk s
  | .redo s => Rop s
  | .asg s => Rop s
theorem sw_satK {src : ByteArray} {nl : Bool} {st : St} (hO : Off src st) (hr : Rop st) : (swT src nl st).sat SwK := by
  have hb := hO.b
  have eqv : ∀ {k : Int}, (st.ch == k) = true → st.ch = k := fun h => by simpa using h
  have f1 : ∀ {t : Int} {s : St}, (1 ≤ t ∧ t ≤ 46) → s.op = st.op → (sw1 t s).sat SwK := fun h e => ⟨h, hr.of e⟩
  have f1o : ∀ {t : Int} {s : St}, (1 ≤ t ∧ t ≤ 46) → Rop s → (sw1 t s).sat SwK := fun h e => ⟨h, e⟩
  have f4 : ∀ {o p : Int} {s : St}, (0 ≤ o ∧ o ≤ 23) → (sw4 o p s).sat SwK := fun h => ⟨⟨by show (1 : Int) ≤ 4; decide, by show (4 : Int) ≤ 46; decide⟩, h⟩
  have fA : ∀ {o p : Int} {s : St}, (0 ≤ o ∧ o ≤ 23) → (swA o p s).sat SwK := fun h => h
  have fl : ∀ {w : ByteArray} {s : St}, s.op = st.op → SwK (.done (lit w s) []) := fun e => ⟨⟨by show (1 : Int) ≤ 18; decide, by show (18 : Int) ≤ 46; decide⟩, hr.of e⟩
  have num : ∀ k : Int, k ≠ 10 → (st.ch == k) = true → (swNum src false st).sat SwK := fun k hk h => by
    have hc : st.ch ≠ 10 := fun e => hk ((eqv h).symm.trans e)
    exact ⟨⟨hO, hc⟩, number_rk hO hc hr⟩
  have lt3 : ∀ {k : Int} {ok : Bool} {s : St}, s.op = st.op → Rk (setLitF src k ok s) := fun e => ⟨⟨by show (1 : Int) ≤ 3; decide, by show (3 : Int) ≤ 46; decide⟩, hr.of e⟩
  refine tr_sat (tr_sat (fl rfl) (f1 (by decide) rfl)) (tr_sat (fl rfl) ?_)
  refine test_sat (num 48 (by decide)) (test_sat (num 49 (by decide)) (test_sat (num 50 (by decide)) (test_sat (num 51 (by decide)) (test_sat (num 52 (by decide)) ?_))))
  refine test_sat (num 53 (by decide)) (test_sat (num 54 (by decide)) (test_sat (num 55 (by decide)) (test_sat (num 56 (by decide)) (test_sat (num 57 (by decide)) ?_))))
  refine tr_sat ⟨hb, lt3 (str_on src st).op⟩ (tr_sat ⟨hb, lt3 (raw_on src st).op⟩ (tr_sat ⟨hb, lt3 ((on_next src st).trans (rune_on src (nextch src st, true, 0))).op⟩ ?_))
  refine tr_sat (f1 (by decide) rfl) (tr_sat (f1 (by decide) rfl) (tr_sat (f1 (by decide) rfl) (tr_sat (f1 (by decide) rfl) (tr_sat (fl rfl) (tr_sat (f1 (by decide) rfl) (tr_sat (f1 (by decide) rfl) (tr_sat (f1 (by decide) rfl) ?_)))))))
  refine tr_sat (tr_sat (f1 (by decide) rfl) (f1 (by decide) rfl)) ?_
  refine test_sat (fun h => test_sat (fun h3 => ?_) (tr_sat (tr_sat (f1 (by decide) rfl) ⟨hb, f1 (by decide) rfl⟩) (f1 (by decide) rfl))) ?_
  · have o1 := (hO.next (by rw [eqv h]; decide)).1
    have c1 : (nextch src st).ch ≠ 10 := fun e => by rw [e] at h3; exact absurd h3 (by decide)
    exact ⟨⟨o1, c1⟩, number_rk o1 c1 (hr.of rfl)⟩
  refine tr_sat (tr_sat (fA (by decide)) (f1o (by decide) (show (0 : Int) ≤ 13 ∧ (13 : Int) ≤ 23 by decide))) (tr_sat (tr_sat (fA (by decide)) (f1o (by decide) (show (0 : Int) ≤ 14 ∧ (14 : Int) ≤ 23 by decide))) (tr_sat (tr_sat (f1o (by decide) (show (0 : Int) ≤ 17 ∧ (17 : Int) ≤ 23 by decide)) (f1o (by decide) (show (0 : Int) ≤ 17 ∧ (17 : Int) ≤ 23 by decide))) ?_))
  have r1 : SwK (.redo (lineCommentF src (nextch src (nextch src st)))) := hr.of (lineComment_op _ _)
  have r2 : SwK (.redo (fullCommentF src (nextch src (nextch src st)))) := hr.of (fullComment_op _ _)
  refine tr_sat (tr_sat ⟨hb, r1⟩ (tr_sat ⟨hb, tr_sat (tr_sat (fl (fullComment_op _ _)) r2) r2⟩ (fA (by decide)))) ?_
  refine tr_sat (fA (by decide)) (tr_sat (tr_sat (f4 (by decide)) (tr_sat (show (0 : Int) ≤ 21 ∧ (21 : Int) ≤ 23 by decide) (fA (by decide)))) (tr_sat (tr_sat (f4 (by decide)) (fA (by decide))) (tr_sat (fA (by decide)) ?_)))
  refine tr_sat (tr_sat (f4 (by decide)) (tr_sat (fA (by decide)) (tr_sat (f1 (by decide) rfl) (f4 (by decide))))) (tr_sat (tr_sat (f4 (by decide)) (tr_sat (fA (by decide)) (f4 (by decide)))) (tr_sat (tr_sat (f4 (by decide)) (f1 (by decide) rfl)) (tr_sat (tr_sat (f4 (by decide)) (f4 (by decide))) (tr_sat (f4 (by decide)) ?_))))
  exact hr.of rfl
theorem pass_satK {src : ByteArray} {nl : Bool} {st : St} (h : Pos0 src st) (hs : src.size ≤ 2048) (hr : Rop st) : (passT src nl st).sat SwK := by
  obtain ⟨p1, a1, n1⟩ := blanks_pos (nl := nl) h
  have r1 : Rop (skip src (cBlank nl) (stop st)) := hr.of (on_skip src (cBlank nl) (stop st)).op
  have key : ∀ bl : Bool, (hdT src (fun s => Fin.done s []) (swT src nl) (nxSt bl (skip src (cBlank nl) (stop st)))).sat SwK := fun bl => by
    have r2 : Rop (nxSt bl (skip src (cBlank nl) (stop st))) := r1.of rfl
    have hO := nxSt_off (bl := bl) p1 hs
    have hP := nxSt_pos bl p1
    generalize nxSt bl (skip src (cBlank nl) (stop st)) = s at *
    have oI := atIdF_on src true s
    exact ⟨fun _ => ⟨⟨nextch_chOk _ _, hO.b⟩, ident_rk (nextch_chOk _ _) (r2.of rfl)⟩, fun _ => ⟨fun _ => ⟨hP.ch, fun _ => ⟨⟨nextch_chOk _ _, by rw [oI.b]; exact hO.b⟩, ident_rk (nextch_chOk _ _) (r2.of oI.op)⟩, fun _ => sw_satK (atId_off hO) (r2.of oI.op)⟩, fun _ => sw_satK hO r2⟩⟩
  exact key _
/-- The token that next tells has a name. -/
theorem nextF_rk {src : ByteArray} {st : St} (h : Pos0 src st) (hs : src.size ≤ 2048) (hr : Rop st) : Rk (nextF src st).1 := by
  unfold nextF
  refine runF_sat (body := nextB src st.nlsemi) (μ := left src) (fun a => Pos0 src a ∧ Rop a) (P := fun r : St × List Value => Rk r.1) (fun a ha => ?_) { st with nlsemi := false } ⟨pos0_nl h false, hr⟩
  unfold nextB
  rw [sat_bind]
  have h1 := pass_satR (nl := st.nlsemi) ha.1 hs
  have h2 := pass_satK (nl := st.nlsemi) ha.1 hs ha.2
  have h3 : (passT src st.nlsemi a).sat (fun f => SwR src st.nlsemi a f ∧ SwK f) := sat_both h1 h2
  refine sat_mono h3 (fun f hf => ?_)
  obtain ⟨hf, hk⟩ := hf
  cases f with
  | done s bx => exact hk
  | redo s => exact ⟨⟨.inl hf.1, hk⟩, hf.2.2.1⟩
  | asg s =>
    have hk : Rop s := hk
    show Rk (asgF src s)
    unfold asgF
    split
    · exact ⟨⟨by show (1 : Int) ≤ 5; decide, by show (5 : Int) ≤ 46; decide⟩, hk.of rfl⟩
    · exact ⟨⟨by show (1 : Int) ≤ 4; decide, by show (4 : Int) ≤ 46; decide⟩, hk.of rfl⟩
end Sc
end Go.Proofs.YtogkcphobhhbdaaDoor

/- Plain: trees with one answer, rounds unfolded; two runs side by side. No program, no memory. -/
namespace Go.Proofs.YtogkcphobhhbdaaDoor
open Go Go.RowKit Go.Lib
namespace Sc
open Ev
set_option maxRecDepth 100000
theorem get_bind {α β : Type} {t : Tree α} {P : α → Prop} (h : t.sat P) (f : α → Tree β) (d : β) (x : α) : (t.bind f).get d = (f (t.get x)).get d := by
  induction t with
  | leaf a => rfl
  | test b t e iht ihe =>
    cases b with
    | true => exact iht (h.1 rfl)
    | false => exact ihe (h.2 rfl)
  | req p k ih => exact ih h.2
  | any t e iht _ => exact iht h.1
  | fail => exact h.elim
/-- A round goes on to something smaller, or ends. -/
def Falls {α β : Type} (I : α → Prop) (μ : α → Nat) (a : α) : Step α β → Prop
  | .go a' => I a' ∧ μ a' < μ a
  | .out _ => True
theorem runT_more {α β : Type} {body : α → Tree (Step α β)} {μ : α → Nat} {I : α → Prop} (hb : ∀ a, I a → (body a).sat (Falls I μ a)) {d : β} : ∀ (n m : Nat) (a : α), I a → μ a < n → μ a < m → (Ev.runT body n a).get d = (Ev.runT body m a).get d
  | 0, _, _, _, h, _ => by omega
  | _, 0, _, _, _, h => by omega
  | n + 1, m + 1, a, ha, hn, hm => by
    have hs := hb a ha
    simp only [Ev.runT]
    rw [get_bind hs _ d (.out d), get_bind hs _ d (.out d)]
    have hg := get_of_sat (d := .out d) hs
    cases hk : (body a).get (.out d) with
    | out b => rfl
    | go a' =>
      rw [hk] at hg
      obtain ⟨h1, h2⟩ := hg
      exact runT_more hb n m a' h1 (by omega) (by omega)
/-- One round of a loop's answer. -/
def stepF {α β : Type} (body : α → Tree (Step α β)) (μ : α → Nat) (d : β) : Step α β → β
  | .go a => runF body μ d a
  | .out b => b
theorem runF_step {α β : Type} {body : α → Tree (Step α β)} {μ : α → Nat} {I : α → Prop} (hb : ∀ a, I a → (body a).sat (Falls I μ a)) {d : β} {a : α} (ha : I a) (x : Step α β) : runF body μ d a = stepF body μ d ((body a).get x) := by
  have hs := hb a ha
  unfold runF
  simp only [Ev.runT]
  rw [get_bind hs _ d x]
  have hg := get_of_sat (d := x) hs
  cases hk : (body a).get x with
  | out b => rfl
  | go a' =>
    rw [hk] at hg
    obtain ⟨h1, h2⟩ := hg
    exact runT_more hb _ _ a' h1 h2 (Nat.lt_succ_self _)
/-- Trees that go alike, their leaves related. -/
def TRel {α β : Type} (R : α → β → Prop) : Tree α → Tree β → Prop
  | .leaf a, .leaf b => R a b
  | .test c t e, .test c' t' e' => c = c' ∧ (c = true → TRel R t t') ∧ (c = false → TRel R e e')
  | .req _ k, .req _ k' => TRel R k k'
  | .fail, .fail => True
  | _, _ => False
theorem trel_get {α β : Type} {R : α → β → Prop} {d : α} {d' : β} (hd : R d d') : ∀ (t : Tree α) (t' : Tree β), TRel R t t' → R (t.get d) (t'.get d') := by
  intro t
  induction t with
  | leaf a => intro t' h; cases t' with
    | leaf b => exact h
    | _ => exact h.elim
  | test c t e iht ihe => intro t' h; cases t' with
    | test c' t2 e2 =>
      obtain ⟨rfl, h1, h2⟩ := h
      cases c with
      | true => exact iht t2 (h1 rfl)
      | false => exact ihe e2 (h2 rfl)
    | _ => exact h.elim
  | req p k ih => intro t' h; cases t' with
    | req p' k' => exact ih k' h
    | _ => exact h.elim
  | any t e _ _ => intro t' h; cases t' <;> exact h.elim
  | fail => intro t' h; cases t' with
    | fail => exact hd
    | _ => exact h.elim
theorem trel_bind {α β γ δ : Type} {R : α → β → Prop} {S : γ → δ → Prop} {f : α → Tree γ} {g : β → Tree δ} (hf : ∀ a b, R a b → TRel S (f a) (g b)) : ∀ (t : Tree α) (t' : Tree β), TRel R t t' → TRel S (t.bind f) (t'.bind g) := by
  intro t
  induction t with
  | leaf a => intro t' h; cases t' with
    | leaf b => exact hf _ _ h
    | _ => exact h.elim
  | test c t e iht ihe => intro t' h; cases t' with
    | test c' t2 e2 => exact ⟨h.1, fun hc => iht _ (h.2.1 hc), fun hc => ihe _ (h.2.2 hc)⟩
    | _ => exact h.elim
  | req p k ih => intro t' h; cases t' with
    | req p' k' => exact ih k' h
    | _ => exact h.elim
  | any t e _ _ => intro t' h; cases t' <;> exact h.elim
  | fail => intro t' h; cases t' with
    | fail => trivial
    | _ => exact h.elim
def StepRel {α α' β β' : Type} (R : α → α' → Prop) (S : β → β' → Prop) : Step α β → Step α' β' → Prop
  | .go a, .go a' => R a a'
  | .out b, .out b' => S b b'
  | _, _ => False
theorem trel_run {α α' β β' : Type} {R : α → α' → Prop} {S : β → β' → Prop} {body : α → Tree (Step α β)} {body' : α' → Tree (Step α' β')} (h : ∀ a a', R a a' → TRel (StepRel R S) (body a) (body' a')) : ∀ n a a', R a a' → TRel S (Ev.runT body n a) (Ev.runT body' n a')
  | 0, _, _, _ => trivial
  | n + 1, a, a', ha => by
    simp only [Ev.runT]
    refine trel_bind (fun s s' hs => ?_) _ _ (h a a' ha)
    cases s with
    | go x => cases s' with
      | go x' => exact trel_run h n x x' hs
      | out _ => exact hs.elim
    | out x => cases s' with
      | go _ => exact hs.elim
      | out x' => exact hs
theorem runF_rel {α α' β β' : Type} {R : α → α' → Prop} {S : β → β' → Prop} {body : α → Tree (Step α β)} {body' : α' → Tree (Step α' β')} {μ : α → Nat} {μ' : α' → Nat} {d : β} {d' : β'}
    (hμ : ∀ a a', R a a' → μ' a' = μ a) (hd : S d d') (h : ∀ a a', R a a' → TRel (StepRel R S) (body a) (body' a')) {a : α} {a' : α'} (ha : R a a') : S (runF body μ d a) (runF body' μ' d' a') := by
  unfold runF
  rw [hμ a a' ha]
  exact trel_get hd _ _ (trel_run h _ a a' ha)
end Sc
end Go.Proofs.YtogkcphobhhbdaaDoor

/- Plain: states that differ only in the mode and in what was told: the scanner's functions keep them so. -/
namespace Go.Proofs.YtogkcphobhhbdaaDoor
open Go Go.RowKit Go.Lib
namespace Sc
open Ev
set_option maxRecDepth 100000
/-- The same but for the mode, what was told, and where the segment begins. -/
def SimB (a b : St) : Prop := ∃ m ns bb, b = { a with mode := m, notes := ns, b := bb }
/-- The same but for the mode and what was told. -/
def Sim (a b : St) : Prop := SimB a b ∧ b.b = a.b
theorem SimB.refl (a : St) : SimB a a := ⟨a.mode, a.notes, a.b, rfl⟩
theorem SimB.symm {a b : St} (h : SimB a b) : SimB b a := by obtain ⟨m, ns, bb, rfl⟩ := h; exact ⟨a.mode, a.notes, a.b, rfl⟩
theorem SimB.trans {a b c : St} (h : SimB a b) (h' : SimB b c) : SimB a c := by
  obtain ⟨m, ns, bb, rfl⟩ := h
  obtain ⟨m', ns', bb', rfl⟩ := h'
  exact ⟨m', ns', bb', rfl⟩
theorem Sim.refl (a : St) : Sim a a := ⟨SimB.refl a, rfl⟩
theorem SimB.ch {a b : St} (h : SimB a b) : b.ch = a.ch := by obtain ⟨m, ns, bb, rfl⟩ := h; rfl
theorem SimB.p {a b : St} (h : SimB a b) : b.p = a.p := by obtain ⟨m, ns, bb, rfl⟩ := h; rfl
theorem SimB.chw {a b : St} (h : SimB a b) : b.chw = a.chw := by obtain ⟨m, ns, bb, rfl⟩ := h; rfl
theorem SimB.line0 {a b : St} (h : SimB a b) : b.line0 = a.line0 := by obtain ⟨m, ns, bb, rfl⟩ := h; rfl
theorem SimB.col0 {a b : St} (h : SimB a b) : b.col0 = a.col0 := by obtain ⟨m, ns, bb, rfl⟩ := h; rfl
theorem SimB.line {a b : St} (h : SimB a b) : b.line = a.line := by obtain ⟨m, ns, bb, rfl⟩ := h; rfl
theorem SimB.col {a b : St} (h : SimB a b) : b.col = a.col := by obtain ⟨m, ns, bb, rfl⟩ := h; rfl
theorem SimB.nlsemi {a b : St} (h : SimB a b) : b.nlsemi = a.nlsemi := by obtain ⟨m, ns, bb, rfl⟩ := h; rfl
theorem SimB.lit {a b : St} (h : SimB a b) : b.lit = a.lit := by obtain ⟨m, ns, bb, rfl⟩ := h; rfl
theorem SimB.tok {a b : St} (h : SimB a b) : b.tok = a.tok := by obtain ⟨m, ns, bb, rfl⟩ := h; rfl
theorem SimB.left (src : ByteArray) {a b : St} (h : SimB a b) : left src b = left src a := by obtain ⟨m, ns, bb, rfl⟩ := h; rfl
theorem readAt_sim (src : ByteArray) (line : Int) : ∀ (f : Nat) (fresh : Bool) (p : Nat) (col : Int) (ns ns' : List Note), ∃ l, readAt src line f fresh p col ns' = { readAt src line f fresh p col ns with notes := l }
  | 0, _, _, _, _, ns' => ⟨ns', rfl⟩
  | f + 1, fresh, p, col, ns, ns' => by
    simp only [readAt]
    by_cases h1 : p < src.size
    · simp only [if_pos h1]
      by_cases h2 : (src.get! p).toNat < 128
      · simp only [if_pos h2]
        by_cases h3 : (src.get! p).toNat = 0 ∧ fresh = false
        · simp only [if_pos h3]; exact readAt_sim src line f _ _ _ _ _
        · simp only [if_neg h3]; exact ⟨ns', rfl⟩
      · simp only [if_neg h2]
        by_cases h3 : (Utf8.decode src p).1 = 0xFFFD ∧ (Utf8.decode src p).2 = 1
        · simp only [if_pos h3]; exact readAt_sim src line f _ _ _ _ _
        · simp only [if_neg h3]
          by_cases h4 : (Utf8.decode src p).1 = 0xFEFF
          · simp only [if_pos h4]; exact readAt_sim src line f _ _ _ _ _
          · simp only [if_neg h4]; exact ⟨ns', rfl⟩
    · simp only [if_neg h1]; exact ⟨ns', rfl⟩
theorem SimB.next {src : ByteArray} {a b : St} (h : SimB a b) : SimB (nextch src a) (nextch src b) := by
  obtain ⟨m, ns, bb, rfl⟩ := h
  obtain ⟨l, hl⟩ := readAt_sim src (nlLine a) (src.size + 1) a.fresh a.p (nlCol a) a.notes ns
  refine ⟨m, l, bb, ?_⟩
  show St.read _ (nlLine a) (readAt src (nlLine a) (src.size + 1) a.fresh a.p (nlCol a) ns) = _
  rw [hl]; rfl
theorem Sim.next {src : ByteArray} {a b : St} (h : Sim a b) : Sim (nextch src a) (nextch src b) := ⟨h.1.next, h.2⟩
theorem SimB.errAt {a b : St} (h : SimB a b) (l c : Int) (m : ByteArray) : SimB (errAt l c m a) (errAt l c m b) := by obtain ⟨m, ns, bb, rfl⟩ := h; exact ⟨_, _, _, rfl⟩
theorem Sim.errAt {a b : St} (h : Sim a b) (l c : Int) (m : ByteArray) : Sim (errAt l c m a) (errAt l c m b) := ⟨h.1.errAt l c m, h.2⟩
theorem Sim.error {a b : St} (h : Sim a b) (m : ByteArray) : Sim (error m a) (error m b) := by
  have : Sc.error m b = Sc.errAt (u64 (1 + a.line0)) (u64 (1 + a.col0)) m b := by unfold Sc.error; rw [h.1.line0, h.1.col0]
  rw [this]; exact h.errAt _ _ _
theorem Sim.errorAtF {a b : St} (h : Sim a b) (o : Int) (m : ByteArray) : Sim (errorAtF o m a) (errorAtF o m b) := by
  have : Sc.errorAtF o m b = Sc.errAt a.line (u64 (a.col + u64 o)) m b := by unfold Sc.errorAtF; rw [h.1.line, h.1.col]
  rw [this]; exact h.errAt _ _ _
theorem SimB.skipN {src : ByteArray} {c : Int → Bool} : ∀ (n : Nat) {a b : St}, SimB a b → SimB (skipN src c n a) (skipN src c n b)
  | 0, a, b, h => h
  | n + 1, a, b, h => by
    simp only [Sc.skipN, h.ch]
    split
    · exact SimB.skipN n h.next
    · exact h
theorem SimB.skip {src : ByteArray} {c : Int → Bool} {a b : St} (h : SimB a b) : SimB (skip src c a) (skip src c b) := by
  unfold Sc.skip
  rw [h.left src]
  exact SimB.skipN _ h
theorem Sim.skip {src : ByteArray} {c : Int → Bool} {a b : St} (h : Sim a b) : Sim (skip src c a) (skip src c b) :=
  ⟨h.1.skip, by rw [(on_skip src c b).b, (on_skip src c a).b]; exact h.2⟩
theorem Sim.seg {src : ByteArray} {a b : St} (h : Sim a b) : seg src b = seg src a := by
  unfold Sc.seg
  rw [h.2, h.1.p, h.1.chw]
theorem Sim.setLit {src : ByteArray} {a b : St} (h : Sim a b) (k : Int) (ok : Bool) : Sim (setLitF src k ok a) (setLitF src k ok b) := by
  refine ⟨?_, h.2⟩
  unfold setLitF
  rw [h.seg]
  obtain ⟨⟨m, ns, bb, rfl⟩, _⟩ := h
  exact ⟨m, ns, bb, rfl⟩
/-! Literals -/
def RBS (x y : Bool × St) : Prop := y.1 = x.1 ∧ Sim x.2 y.2
def RSB (x y : St × Bool) : Prop := Sim x.1 y.1 ∧ y.2 = x.2
theorem esc_sim {src : ByteArray} {b : Int} {p q : St × Int × Int} (h : Sim p.1 q.1 ∧ q.2 = p.2) : Sim (escLF src b p).1 (escLF src b q).1 ∧ (escLF src b q).2 = (escLF src b p).2 := by
  refine runF_rel (R := fun p q : St × Int × Int => Sim p.1 q.1 ∧ q.2 = p.2) (S := fun x y : St × Int × Option Bool => Sim x.1 y.1 ∧ y.2 = x.2) (fun p q h => by unfold escM; rw [h.2]) ⟨Sim.refl _, rfl⟩ (fun p q h => ?_) h
  obtain ⟨a, x, i⟩ := p
  obtain ⟨b', x', i'⟩ := q
  obtain ⟨h, he⟩ := h
  have h : Sim a b' := h
  simp only [Prod.mk.injEq] at he
  obtain ⟨rfl, rfl⟩ := he
  refine ⟨rfl, fun _ => ⟨by show _ = decide (b'.ch < 0); rw [h.1.ch], fun _ => ⟨h, rfl⟩, fun _ => ⟨by show _ = decide (digitOf b b'.ch ≥ b); rw [h.1.ch], fun _ => ⟨h.error _, rfl⟩, fun _ => ⟨h.next, ?_⟩⟩⟩, fun _ => ⟨h, rfl⟩⟩
  show (_, _) = (_, _)
  rw [show b'.ch = a.ch from h.1.ch]
theorem escTail_sim {b m : Int} {r s : St × Int × Option Bool} (h : Sim r.1 s.1 ∧ s.2 = r.2) : RBS (escTail b m r) (escTail b m s) := by
  obtain ⟨a, x, i⟩ := r
  obtain ⟨b', x', i'⟩ := s
  obtain ⟨h, he⟩ := h
  have h : Sim a b' := h
  simp only [Prod.mk.injEq] at he
  obtain ⟨rfl, rfl⟩ := he
  unfold escTail
  cases i' with
  | some y => exact ⟨rfl, h⟩
  | none =>
    simp only
    split
    · exact ⟨rfl, h.error _⟩
    · split
      · exact ⟨rfl, h.error _⟩
      · exact ⟨rfl, h⟩
theorem Sim.escape {src : ByteArray} {q : Int} {a b : St} (h : Sim a b) : RBS (escapeF src q a) (escapeF src q b) := by
  unfold escapeF
  rw [h.1.ch]
  split
  · exact ⟨rfl, h.next⟩
  · split
    · exact escTail_sim (esc_sim ⟨h, rfl⟩)
    · split
      · exact escTail_sim (esc_sim ⟨h.next, rfl⟩)
      · split
        · exact escTail_sim (esc_sim ⟨h.next, rfl⟩)
        · split
          · exact escTail_sim (esc_sim ⟨h.next, rfl⟩)
          · split
            · exact ⟨rfl, h⟩
            · exact ⟨rfl, h.error _⟩
theorem strL_sim {src : ByteArray} {p q : St × Bool} (h : RSB p q) : RSB (strLF src p) (strLF src q) := by
  refine runF_rel (R := RSB) (S := RSB) (fun p q h => h.1.1.left src) ⟨Sim.refl _, rfl⟩ (fun p q h => ?_) h
  obtain ⟨h, he⟩ := h
  have he1 := h.next (src := src) |>.escape (src := src) (q := 34)
  exact ⟨by rw [h.1.ch], fun _ => ⟨h.next, he⟩, fun _ => ⟨by rw [h.1.ch], fun _ => ⟨by rw [he1.1], fun _ => ⟨he1.2, rfl⟩, fun _ => ⟨he1.2, he⟩⟩,
    fun _ => ⟨by rw [h.1.ch], fun _ => ⟨h.error _, rfl⟩, fun _ => ⟨by rw [h.1.ch], fun _ => ⟨h.errorAtF _ _, rfl⟩, fun _ => ⟨h.next, he⟩⟩⟩⟩⟩
theorem Sim.str {src : ByteArray} {a b : St} (h : Sim a b) : Sim (stdStringF src a) (stdStringF src b) := by
  have := strL_sim (src := src) (p := (nextch src a, true)) (q := (nextch src b, true)) ⟨h.next, rfl⟩
  unfold stdStringF
  rw [this.2]; exact this.1.setLit _ _
end Sc
end Go.Proofs.YtogkcphobhhbdaaDoor

/- Plain: whatever the mode, next tells the same token. -/
namespace Go.Proofs.YtogkcphobhhbdaaDoor
open Go Go.RowKit Go.Lib
namespace Sc
open Ev
set_option maxRecDepth 100000
theorem Sim.colIn {a b : St} (h : Sim a b) : colIn b = colIn a := by unfold Sc.colIn; rw [h.1.col0, h.1.col]
end Sc
end Go.Proofs.YtogkcphobhhbdaaDoor

/-
  DERIVED: THE SHELF's CONTRACTS AT THIS DUMP, IN PLAIN WORDS (tools/lay-plain.mjs out of 'TrydShelf.lean', which tools/lay-shelf.mjs wrote): THE SAME DECLARATIONS UNDER THE SAME NAMES: 'import', 'namespace', 'open', 'def', 'theorem' AND NOTHING ELSE: no command of the shelf's: FOR A HAND-IN. Each laying: the table of numbers ('.._ren') and one theorem, a field a fact of the dump's own or the kernel's comparison; each contract: ONE APPLICATION.
-/
namespace Go.Proofs
open Go.Shelf
def Tryd.lays173_ren : Go.Shelf.Ren := ⟨fun | 173 => 85 | 246 => 111 | 283 => 114 | 284 => 115 | 285 => 116 | 286 => 117 | 129 => 119 | 317 => 118 | 318 => 120 | 319 => 121 | 320 => 122 | 337 => 123 | 338 => 124 | n => n, fun | 2 => 2 | 3 => 3 | 9 => 9 | 4 => 4 | 171 => 114 | 0 => 0 | 53 => 100 | 37 => 45 | 5 => 5 | 173 => 157 | 212 => 160 | 51 => 44 | 20 => 20 | 213 => 161 | 46 => 55 | 232 => 165 | 233 => 166 | n => n, fun | 17 => 10 | 18 => 11 | 19 => 12 | n => n⟩
theorem Tryd.lays173 : Go.Proofs.Lays.n173 Tryd.prog Tryd.lays173_ren := {
  mixed := by kernel_rfl
  f129 := Tryd.func119.trans (congrArg some (by kernel_rfl))
  f173 := Tryd.func85.trans (congrArg some (by kernel_rfl))
  f246 := Tryd.func111.trans (congrArg some (by kernel_rfl))
  f283 := Tryd.func114.trans (congrArg some (by kernel_rfl))
  f284 := Tryd.func115.trans (congrArg some (by kernel_rfl))
  f285 := Tryd.func116.trans (congrArg some (by kernel_rfl))
  f286 := Tryd.func117.trans (congrArg some (by kernel_rfl))
  f317 := Tryd.func118.trans (congrArg some (by kernel_rfl))
  f318 := Tryd.func120.trans (congrArg some (by kernel_rfl))
  f319 := Tryd.func121.trans (congrArg some (by kernel_rfl))
  f320 := Tryd.func122.trans (congrArg some (by kernel_rfl))
  f337 := Tryd.func123.trans (congrArg some (by kernel_rfl))
  f338 := Tryd.func124.trans (congrArg some (by kernel_rfl))
  t0 := Tryd.underlying0
  a0 := Tryd.isAgg0
  z0 := Tryd.sizeOf0
  v0 := Tryd.zeroValue0
  t2 := Tryd.underlying2
  a2 := Tryd.isAgg2
  z2 := Tryd.sizeOf2
  v2 := Tryd.zeroValue2
  t3 := Tryd.underlying3
  a3 := Tryd.isAgg3
  z3 := Tryd.sizeOf3
  v3 := Tryd.zeroValue3
  t4 := Tryd.underlying4
  a4 := Tryd.isAgg4
  z4 := Tryd.sizeOf4
  v4 := Tryd.zeroValue4
  t5 := Tryd.underlying5
  a5 := Tryd.isAgg5
  z5 := Tryd.sizeOf5
  v5 := Tryd.zeroValue5
  t9 := Tryd.underlying9
  a9 := Tryd.isAgg9
  z9 := Tryd.sizeOf9
  v9 := Tryd.zeroValue9
  t20 := Tryd.underlying20
  a20 := Tryd.isAgg20
  z20 := Tryd.sizeOf20
  v20 := Tryd.zeroValue20
  t37 := Tryd.underlying45
  a37 := Tryd.isAgg45
  z37 := Tryd.sizeOf45
  v37 := Tryd.zeroValue45
  t46 := Tryd.underlying55
  a46 := Tryd.isAgg55
  z46 := Tryd.sizeOf55
  v46 := Tryd.zeroValue55
  t51 := Tryd.underlying44
  a51 := Tryd.isAgg44
  z51 := Tryd.sizeOf44
  v51 := Tryd.zeroValue44
  t53 := Tryd.underlying100
  a53 := Tryd.isAgg100
  z53 := Tryd.sizeOf100
  v53 := Tryd.zeroValue100
  t171 := Tryd.underlying114
  a171 := Tryd.isAgg114
  z171 := Tryd.sizeOf114
  v171 := Tryd.zeroValue114
  t173 := Tryd.underlying157
  a173 := Tryd.isAgg157
  z173 := Tryd.sizeOf157
  v173 := Tryd.zeroValue157
  t212 := Tryd.underlying160
  a212 := Tryd.isAgg160
  z212 := Tryd.sizeOf160
  v212 := Tryd.zeroValue160
  t213 := Tryd.underlying161
  a213 := Tryd.isAgg161
  z213 := Tryd.sizeOf161
  t232 := Tryd.underlying165
  a232 := Tryd.isAgg165
  z232 := Tryd.sizeOf165
  v232 := Tryd.zeroValue165
  t233 := Tryd.underlying166
  a233 := Tryd.isAgg166
  z233 := Tryd.sizeOf166
  v233 := Tryd.zeroValue166
  g17 := by kernel_rfl
  g18 := by kernel_rfl
  g19 := by kernel_rfl }
open Go.RowKit Go.Sort Go.Lib in
/-- THE ROAD WITHOUT THE TABLE: 0 <= i < 100. (LAID: no walk: one application.) -/
theorem Tryd.strconv_FormatInt_10_small (i : Nat) (hi : i < 100) (w : World) :
    Calls Tryd.prog 85 #[.int .i64 i, .int .i64 10] w fun e w' => e = .returned (.string ⟨(Lib.decDigits i).toArray⟩) ∧ w' = w := Any.strconv_FormatInt_10_small Tryd.lays173 i hi w
end Go.Proofs
