/- The scanner of the program told as plain functions, part 5: texts joined by a program (wip/tools/merge.py). -/
import Derived.Test.YtogkcphobhhbdaaDoorBe4
import Derived.Shelf.Utf8.AppendRunePlain
import Derived.Shelf.Strings.Search1
import Derived.Shelf.Strings.Prefix
import Derived.Test.YtogkcphobhhbdaaDoorProg
import Derived.Lib.OthersKept
import Derived.Lib.DecodeN
import Derived.Laws.BitsLemmas
import Derived.Test.YtogkcphobhhbdaaDoorRows
import Derived.PinnedBridge
import Derived.Lib.LaidRTabT
import Derived.Lib.LaidU8T
import Derived.Stop.LaidErr
import Derived.Lay
import Derived.LaidMore
import Derived.ProofKit
import Derived.OpenShut
import Derived.OpenVars
import Derived.SevenTiedAt
import Derived.Stop.Joined
set_option linter.unusedVariables false
set_option linter.unusedSimpArgs false
/- laws.refused and laws.told walked. -/
namespace Go.Proofs.YtogkcphobhhbdaaDoor
open Go Go.RowKit Go.Lib
namespace Sc
open Ev
set_option maxRecDepth 100000

theorem own_slice {w : World} {base n size : Nat} {e : TypeId} {v : Value} {xs : List Value} (h : w.ownsRow base e size v n xs) : ∃ p cap, v = .slice p n cap := by
  rcases h.2 with ⟨h1, h2⟩ | ⟨g, cap, _, h1, _⟩
  · exact ⟨none, 0, by rw [h1, h2]⟩
  · exact ⟨_, cap, h1⟩
/-- impl.Scan without modes, whole. -/
theorem scan_full {w : World} {ea : Addr} {src : ByteArray} (hG : Glob w ea) (hn : src.size ≤ 2048) :
    Calls Tryd.prog 15 #[.string src, .int .i64 0] w fun en w' => ∃ g cap p c2, en = .returned (.tuple #[.slice (some ⟨g, 0, none⟩) (toks src 0).length cap, .slice p (last src 0).notes.length c2]) ∧
      w'.ownsRow w.heap.size 27 9 (.slice (some ⟨g, 0, none⟩) (toks src 0).length cap) (toks src 0).length (flat outCells (toks src 0)) ∧ Below w.heap.size w w' := by
  have := scan_walk hG hn 0
  rw [show IntKind.u64.wrap 0 = 0 from by decide] at this
  refine this.mono ?_
  rintro en w' ⟨v, ve, rfl, h1, h2, h3⟩
  obtain ⟨g, cap, rfl, _, _⟩ := h1.form (List.length_pos_iff.2 (toks_good _ hn).ne)
  obtain ⟨p, c2, rfl⟩ := own_slice h2
  exact ⟨g, cap, p, c2, rfl, h1, h3⟩
theorem one_res {f : Func} {a : Act} {w : World} {v : Value} {k : Nat} (e : f.results = #[.tmp k]) (h4 : a.tmps[k]? = some v) : (results f a.tmps).run Tryd.prog w = .ok v w := by
  simp [results, e, h4, go_sem]
set_option maxHeartbeats 1600000 in
/-- laws.refused: whether anything is told. -/
theorem refused_walk {w : World} {ea : Addr} {src : ByteArray} (hG : Glob w ea) (hn : src.size ≤ 2048) :
    Calls Tryd.prog 20 #[.string src] w fun en w' => en = .returned (.bool (decide (0 < (last src 0).notes.length))) ∧ Below w.heap.size w w' := by
  have hS := scan_full hG hn
  generalize (toks src 0) = L at hS
  generalize (last src 0).notes.length = N at hS ⊢
  go_enter Tryd.func20, Tryd.ntmps20
  go_wp2_with (go_at_call 15; refine hS.mono ?_; rintro en w' ⟨g, cap, p, c2, rfl, h1, h3⟩)
  exact ⟨rfl, _, one_res (k := 2) (by kernel_rfl) rfl, rfl, h3⟩
set_option maxHeartbeats 1600000 in
/-- laws.told, of a text whose tokens are those wanted, and of which nothing is told: true. -/
theorem toldL_walk {w : World} {ea : Addr} {src : ByteArray} {W : List WTok} {gw capw b1 : Nat} (hG : Glob w ea) (hn : src.size ≤ 2048) (hA : LikeAll (toks src 0) W) (h0 : (last src 0).notes = [])
    (hrow2 : w.ownsRow b1 37 5 (.slice (some ⟨gw, 0, none⟩) W.length capw) W.length (flat wCells W)) :
    Calls Tryd.prog 21 #[.string src, .slice (some ⟨gw, 0, none⟩) W.length capw] w fun en w' => en = .returned (.bool true) ∧ Below w.heap.size w w' := by
  have hS := scan_full hG hn
  have hk : ∀ s ∈ toks src 0, Rk s := fun s hs => by
    obtain ⟨i, hi⟩ := List.mem_iff_getElem?.1 hs
    exact ((toks_good 0 hn).at i s hi).1.rk
  have hL := toks_len src 0 hn
  rw [h0] at hS
  generalize (toks src 0) = L at hS hA hk hL
  have hL' : L.length ≤ 1000000 := by omega
  have hW : ∀ w', Below w.heap.size w w' → w'.ownsRow b1 37 5 (.slice (some ⟨gw, 0, none⟩) W.length capw) W.length (flat wCells W) := fun w' hB => own_below hB hrow2
  go_enter Tryd.func21, Tryd.ntmps21
  go_wp2_with (first
    | (go_at_call 34; refine (alike_walk L W hk hA hL' h1 (hW _ h3)).mono ?_; rintro en w2 ⟨rfl, h4⟩)
    | (go_at_call 15; refine hS.mono ?_; rintro en w' ⟨g, cap, p, c2, rfl, h1, h3⟩))
  exact ⟨rfl, _, one_res (k := 4) (by kernel_rfl) rfl, rfl, h3.trans (below_weak h4 h3.size)⟩
end Sc
end Go.Proofs.YtogkcphobhhbdaaDoor

/- spec.EndsLine and spec.Ends walked. -/
namespace Go.Proofs.YtogkcphobhhbdaaDoor
open Go Go.RowKit Go.Lib
namespace Sc
open Ev
set_option maxRecDepth 100000

/-- Behind which words a line's end puts a semicolon in. -/
def endsLineF (s : ByteArray) : Bool :=
  if s.toList = [98, 114, 101, 97, 107] then true
  else if s.toList = [99, 111, 110, 116, 105, 110, 117, 101] then true
  else if s.toList = [102, 97, 108, 108, 116, 104, 114, 111, 117, 103, 104] then true
  else if s.toList = [114, 101, 116, 117, 114, 110] then true
  else if s.toList = [43, 43] then true
  else if s.toList = [45, 45] then true
  else if s.toList = [41] then true
  else if s.toList = [93] then true
  else if s.toList = [125] then true
  else false
set_option maxHeartbeats 3200000 in
theorem endsLine_walk (w : World) (s : ByteArray) : Calls Tryd.prog 56 #[.string s] w fun e w' => e = .returned (.bool (endsLineF s)) ∧ w' = w := by
  go_enter Tryd.func56, Tryd.ntmps56
  go_wp2_with fail
  all_goals (refine ⟨rfl, _, one_res (k := 2) (by kernel_rfl) rfl, ?_, rfl⟩)
  all_goals (unfold endsLineF; simp_all)
/-- Behind which tokens a line's end puts a semicolon in. -/
def endsW (t : WTok) : Bool := if t.cls = 1 then true else if t.cls = 2 then true else if t.cls = 3 then endsLineF t.text else false
set_option maxHeartbeats 3200000 in
theorem ends_walk (w : World) (t : WTok) : Calls Tryd.prog 35 #[.agg (wCells t).toArray] w fun e w' => e = .returned (.bool (endsW t)) ∧ Below w.heap.size w w' := by
  obtain ⟨cls, text, kind, wl, wc⟩ := t
  show Calls Tryd.prog 35 #[.agg #[.int .i64 cls, .string text, .int .i64 kind, .int .i64 wl, .int .i64 wc]] w _
  unfold endsW
  simp only
  by_cases h1 : cls = 1
  · subst h1
    go_enter Tryd.func35, Tryd.ntmps35
    go_wp2_with (go_at_call 56; refine (endsLine_walk _ _).mono ?_; rintro en w' ⟨rfl, rfl⟩)
    all_goals first | exact ⟨rfl, _, one_res (k := 2) (by kernel_rfl) rfl, by simp, Below.alloc (Below.refl _ _) (Nat.le_refl _) _⟩ | trace_state
  · have e1 : (cls == 1) = false := by simpa using h1
    by_cases h2 : cls = 2
    · subst h2
      go_enter Tryd.func35, Tryd.ntmps35
      go_wp2_with (go_at_call 56; refine (endsLine_walk _ _).mono ?_; rintro en w' ⟨rfl, rfl⟩)
      all_goals first | exact ⟨rfl, _, one_res (k := 2) (by kernel_rfl) rfl, by simp, Below.alloc (Below.refl _ _) (Nat.le_refl _) _⟩ | trace_state
    · have e2 : (cls == 2) = false := by simpa using h2
      by_cases h3 : cls = 3
      · subst h3
        go_enter Tryd.func35, Tryd.ntmps35
        go_wp2_with (go_at_call 56; refine (endsLine_walk _ _).mono ?_; rintro en w' ⟨rfl, rfl⟩)
        all_goals first | exact ⟨rfl, _, one_res (k := 2) (by kernel_rfl) rfl, by simp, Below.alloc (Below.refl _ _) (Nat.le_refl _) _⟩ | trace_state
      · have e3 : (cls == 3) = false := by simpa using h3
        go_enter Tryd.func35, Tryd.ntmps35
        go_wp2_with (go_at_call 56; refine (endsLine_walk _ _).mono ?_; rintro en w' ⟨rfl, rfl⟩)
        all_goals first | exact ⟨rfl, _, one_res (k := 2) (by kernel_rfl) rfl, by simp, Below.alloc (Below.refl _ _) (Nat.le_refl _) _⟩ | trace_state
end Sc
end Go.Proofs.YtogkcphobhhbdaaDoor

/- laws.closed walked. -/
namespace Go.Proofs.YtogkcphobhhbdaaDoor
open Go Go.RowKit Go.Lib
namespace Sc
open Ev
set_option maxRecDepth 100000

theorem info_wtok : (Tryd.prog.info? 37).map (fun i => (i.zero, i.size, i.bytes)) = some (some (.agg #[.int .i64 0, .string ⟨#[]⟩, .int .i64 0, .int .i64 0, .int .i64 0]), 5, 48) := by kernel_rfl
/-- Wanted tokens are appended to a row of the call's own. -/
theorem cw_app {w0 : World} {base n m c : Nat} {v : Value} {xs news : List Value} {ad : Addr} (hown : w0.ownsRow base 37 5 v n xs) (hbase : base ≤ w0.heap.size) (hn : n ≤ 1000000) (hm : 0 < m) (hm2 : m ≤ 1000000)
    (hl : news.length = m * 5) (hnews : ∀ j u, news[j]? = some u → w0.cell? (ad.add j) = some u) (hone : ∀ u ∈ news, u.oneCell' = true)
    {ops : Array Oper} {rest : List Oper} {o : Oper} {a : Act} {Q : Exit → Act → World → Prop} (hgd : o.guard = none) (s x : Operand)
    (ho : o.op = .call { callee := .builtin .append, args := #[s, x], argTypes := #[34, 34] }) (hs : a.eval s = v) (hx : a.eval x = .slice (some ad) m c)
    (h : ∀ g cap w', w'.ownsRow base 37 5 (.slice (some ⟨g, 0, none⟩) (n + m) cap) (n + m) (xs ++ news) → w0.grownBy w' v.ownBlock → wpList Tryd.prog ops Q rest (a.put o.dst (.slice (some ⟨g, 0, none⟩) (n + m) cap)) w') :
    wpList Tryd.prog ops Q (o :: rest) a w0 := by
  obtain ⟨i0, hi0, hz0, hz1, hz2⟩ := info_parts info_wtok
  have hml : n + m ≤ maxLen := by simp only [maxLen]; omega
  exact wpList_append_lies _ hgd s x 34 ho base 37 i0 _ 5 48 Tryd.underlying34 hi0 hz0 hz1 hz2 rfl (by omega) v n xs hs hown
    ad m c news hx hl hnews hone hm hml (by omega) hbase w0.heap.size rfl (fun g cap w' h1 h2 _ _ => h g cap w' h1 h2)
theorem flat_one : ∀ (W : List WTok), ∀ u ∈ flat wCells W, u.oneCell' = true
  | [], u, h => by simp [flat] at h
  | t :: W, u, h => by
    simp only [flat, List.mem_append] at h
    rcases h with h | h
    · simp only [wCells, List.mem_cons, List.not_mem_nil, or_false] at h
      rcases h with rfl | rfl | rfl | rfl | rfl <;> rfl
    · exact flat_one W u h
theorem flat_len5 : ∀ (W : List WTok), (flat wCells W).length = W.length * 5
  | [] => rfl
  | t :: W => by simp only [flat, List.length_append, flat_len5 W, List.length_cons, wCells, List.length_nil]; omega
theorem flat_app (W V : List WTok) : flat wCells (W ++ V) = flat wCells W ++ flat wCells V := by
  induction W with
  | nil => rfl
  | cons t W ih => simp only [List.cons_append, flat, ih, List.append_assoc]
/-- A row of no tokens, just made. -/
theorem own_empty (w : World) : (w.alloc (.cells #[] 37)).ownsRow w.heap.size 37 5 (.slice (some ⟨w.heap.size, 0, none⟩) 0 0) 0 [] :=
  ⟨rfl, .inr ⟨w.heap.size, 0, #[], rfl, Nat.le_refl _, heap_alloc_new w _, Nat.le_refl _, Nat.zero_le _, rfl, rfl⟩⟩
/-- The tokens of a row, appended to an empty one. -/
theorem cw_app0 {w : World} {b1 gl capl : Nat} {W : List WTok} (hrow : w.ownsRow b1 37 5 (.slice (some ⟨gl, 0, none⟩) W.length capl) W.length (flat wCells W)) (hW : 0 < W.length) (hW2 : W.length ≤ 1000000)
    {ops : Array Oper} {rest : List Oper} {o : Oper} {a : Act} {Q : Exit → Act → World → Prop} (hgd : o.guard = none) (s x : Operand)
    (ho : o.op = .call { callee := .builtin .append, args := #[s, x], argTypes := #[34, 34] }) (hs : a.eval s = .slice (some ⟨w.heap.size, 0, none⟩) 0 0) (hx : a.eval x = .slice (some ⟨gl, 0, none⟩) W.length capl)
    (h : ∀ g cap w', w'.ownsRow w.heap.size 37 5 (.slice (some ⟨g, 0, none⟩) W.length cap) W.length (flat wCells W) → Below w.heap.size w w' → wpList Tryd.prog ops Q rest (a.put o.dst (.slice (some ⟨g, 0, none⟩) W.length cap)) w') :
    wpList Tryd.prog ops Q (o :: rest) a (w.alloc (.cells #[] 37)) := by
  refine cw_app (own_empty w) (by simp) (Nat.zero_le _) hW hW2 (flat_len5 W) ((own_alloc hrow _).cells rfl) (flat_one W) hgd s x ho hs hx (fun g cap w' h1 h2 => ?_)
  rw [Nat.zero_add, List.nil_append] at h1
  rw [Nat.zero_add]
  refine h g cap w' h1 ?_
  have h3 := Below.alloc (Below.refl w.heap.size w) (Nat.le_refl _) (.cells #[] 37)
  refine h3.trans ⟨h2.os, h2.tape, h2.output, h2.size, fun k hk => h2.block k (by simp; omega) (fun e => ?_)⟩
  simp [Value.ownBlock] at e; omega
/-- A token more. -/
theorem cw_app1 {w : World} {base n : Nat} {v : Value} {xs : List Value} (t : WTok) (hown : w.ownsRow base 37 5 v n xs) (hbase : base ≤ w.heap.size) (hn : n ≤ 1000000)
    {ops : Array Oper} {rest : List Oper} {o : Oper} {a : Act} {Q : Exit → Act → World → Prop} (hgd : o.guard = none) (s x : Operand)
    (ho : o.op = .call { callee := .builtin .append, args := #[s, x], argTypes := #[34, 34] }) (hs : a.eval s = v) (hx : a.eval x = .slice (some ⟨w.heap.size, 0, none⟩) 1 1)
    (h : ∀ g cap w', w'.ownsRow base 37 5 (.slice (some ⟨g, 0, none⟩) (n + 1) cap) (n + 1) (xs ++ wCells t) → Below base w w' → wpList Tryd.prog ops Q rest (a.put o.dst (.slice (some ⟨g, 0, none⟩) (n + 1) cap)) w') :
    wpList Tryd.prog ops Q (o :: rest) a (w.alloc (.cells (wCells t).toArray 37)) := by
  refine cw_app (own_alloc hown _) (by simp; omega) hn Nat.one_pos (by omega) (news := wCells t) rfl (World.news_of_block (cs := (wCells t).toArray) (t := 37) (fr := (0, 0)) (heap_alloc_new w _)) (fun u hu => flat_one [t] u (by simpa [flat] using hu)) hgd s x ho hs hx (fun g cap w' h1 h2 => ?_)
  refine h g cap w' h1 ?_
  have h3 := Below.alloc (Below.refl base w) hbase (.cells (wCells t).toArray 37)
  refine h3.trans ⟨h2.os, h2.tape, h2.output, h2.size, fun k hk => h2.block k (by simp; omega) (fun e => ?_)⟩
  rcases hown.2 with ⟨rfl, _⟩ | ⟨g', cap', cur, rfl, hb, _⟩
  · cases e
  · have e' : some k = some g' := e
    have : k = g' := Option.some.inj e'
    omega
end Sc
end Go.Proofs.YtogkcphobhhbdaaDoor

/- laws.closed walked whole. -/
namespace Go.Proofs.YtogkcphobhhbdaaDoor
open Go Go.RowKit Go.Lib
namespace Sc
open Ev
set_option maxRecDepth 100000

def semiW : WTok := ⟨4, ⟨#[]⟩, 0, 0, 0⟩
def endW : WTok := ⟨0, ⟨#[]⟩, 0, 0, 0⟩
/-- What closed makes of tokens. -/
def closedF (W : List WTok) (t : WTok) : List WTok := if endsW t = true then W ++ [semiW] ++ [endW] else W ++ [endW]
set_option maxHeartbeats 3200000 in
theorem closed_walk {w : World} {b1 gl capl j : Nat} {W : List WTok} {t : WTok} (hrow : w.ownsRow b1 37 5 (.slice (some ⟨gl, 0, none⟩) W.length capl) W.length (flat wCells W)) (hj : W.length = j + 1) (hW2 : W.length ≤ 100000) (ht : W[j]? = some t) :
    Calls Tryd.prog 22 #[.slice (some ⟨gl, 0, none⟩) W.length capl] w fun en w' => ∃ g cap, en = .returned (.slice (some ⟨g, 0, none⟩) (closedF W t).length cap) ∧
      w'.ownsRow w.heap.size 37 5 (.slice (some ⟨g, 0, none⟩) (closedF W t).length cap) (closedF W t).length (flat wCells (closedF W t)) ∧ Below w.heap.size w w' := by
  have hgl : gl < w.heap.size := by
    obtain ⟨g, cap, e, _, h⟩ := hrow.form (by omega)
    have : gl = g := by simpa using congrArg (fun v => match v with | Value.slice (some a) _ _ => a.block | _ => 0) e
    omega
  have hc : ∀ w', Below w.heap.size w w' → Row5 w' gl j t := fun w' hB => row5 (wS := w) hrow hB ht
  have hE : ∀ w, Calls Tryd.prog 35 #[.agg #[.int .i64 t.cls, .string t.text, .int .i64 t.kind, .int .i64 t.line, .int .i64 t.col]] w fun e w' => e = .returned (.bool (endsW t)) ∧ Below w.heap.size w w' := fun w => ends_walk w t
  unfold closedF
  generalize endsW t = en at hE
  have hn1 : (0 : Int) < (W.length : Int) := by omega
  have hwj : IntKind.i64.wrap ((W.length : Int) - 1) = (j : Int) := by rw [hj]; rw [show ((j + 1 : Nat) : Int) - 1 = (j : Int) by omega]; exact i64_small (by omega) (by omega)
  have hj0 : (0 : Int) ≤ (j : Int) := by omega
  have hj1 : (j : Int) < (W.length : Int) := by omega
  have hW1 : 0 < W.length := by omega
  obtain ⟨cls, text, kind, wl, wc⟩ := t
  simp only at hE
  clear hj
  cases en
  · simp only [Bool.false_eq_true, if_false]
    go_enter Tryd.func22, Tryd.ntmps22
    go_wp2_with (first
      | (go_at_call 35; refine (hE _).mono ?_; rintro e2 w2 ⟨rfl, hB2⟩)
      | (at_builtin; refine cw_app1 endW (own_below hB2 h1) (Nat.le_trans hB1.size hB2.size) (by omega) (by rfl) _ _ (by rfl) (by rfl) (by rfl) ?_; intro g3 c3 w3 h3 hB3)
      | (at_builtin; refine cw_app0 hrow hW1 (by omega) (by rfl) _ _ (by rfl) (by rfl) (by rfl) ?_; intro g1 c1 w1 h1 hB1; obtain ⟨k0, k1, k2, k3, k4⟩ := hc w1 hB1))
    have hz : (W ++ [endW]).length = W.length + 1 := by simp
    refine ⟨rfl, _, one_res (k := 2) (by kernel_rfl) rfl, g3, c3, by rw [hz]; rfl, ?_, hB1.trans ((below_weak hB2 hB1.size).trans hB3)⟩
    rw [hz, flat_app]
    simpa [flat] using h3
  · simp only [if_true]
    go_enter Tryd.func22, Tryd.ntmps22
    go_wp2_with (first
      | (go_at_call 35; refine (hE _).mono ?_; rintro e2 w2 ⟨rfl, hB2⟩)
      | (at_builtin; refine cw_app1 endW h4 (Nat.le_trans hB1.size (Nat.le_trans hB2.size hB4.size)) (by omega) (by rfl) _ _ (by rfl) (by rfl) (by rfl) ?_; intro g3 c3 w3 h3 hB3)
      | (at_builtin; refine cw_app1 semiW (own_below hB2 h1) (Nat.le_trans hB1.size hB2.size) (by omega) (by rfl) _ _ (by rfl) (by rfl) (by rfl) ?_; intro g4 c4 w4 h4 hB4)
      | (at_builtin; refine cw_app0 hrow hW1 (by omega) (by rfl) _ _ (by rfl) (by rfl) (by rfl) ?_; intro g1 c1 w1 h1 hB1; obtain ⟨k0, k1, k2, k3, k4⟩ := hc w1 hB1))
    have hz : (W ++ [semiW] ++ [endW]).length = W.length + 1 + 1 := by simp
    refine ⟨rfl, _, one_res (k := 2) (by kernel_rfl) rfl, g3, c3, by rw [hz]; rfl, ?_, hB1.trans ((below_weak hB2 hB1.size).trans (hB4.trans hB3))⟩
    rw [hz, flat_app, flat_app]
    simpa [flat] using h3
end Sc
end Go.Proofs.YtogkcphobhhbdaaDoor

/-
  DERIVED: THE SHELF's CONTRACTS AT THIS DUMP, IN PLAIN WORDS (tools/lay-plain.mjs out of 'TrydShelf.lean', which tools/lay-shelf.mjs wrote): THE SAME DECLARATIONS UNDER THE SAME NAMES: 'import', 'namespace', 'open', 'def', 'theorem' AND NOTHING ELSE: no command of the shelf's: FOR A HAND-IN. Each laying: the table of numbers ('.._ren') and one theorem, a field a fact of the dump's own or the kernel's comparison; each contract: ONE APPLICATION.
-/
namespace Go.Proofs
open Go.Shelf
def Tryd.lays278_ren : Go.Shelf.Ren := ⟨fun | 278 => 60 | n => n, fun | 37 => 45 | 21 => 21 | 51 => 44 | 4 => 4 | 46 => 55 | 5 => 5 | n => n, fun | n => n⟩
theorem Tryd.lays278 : Go.Proofs.Lays.n278 Tryd.prog Tryd.lays278_ren := {
  mixed := by kernel_rfl
  f278 := Tryd.func60.trans (congrArg some (by kernel_rfl))
  t4 := Tryd.underlying4
  a4 := Tryd.isAgg4
  z4 := Tryd.sizeOf4
  v4 := Tryd.zeroValue4
  t5 := Tryd.underlying5
  a5 := Tryd.isAgg5
  z5 := Tryd.sizeOf5
  v5 := Tryd.zeroValue5
  t21 := Tryd.underlying21
  a21 := Tryd.isAgg21
  z21 := Tryd.sizeOf21
  v21 := Tryd.zeroValue21
  t37 := Tryd.underlying45
  a37 := Tryd.isAgg45
  z37 := Tryd.sizeOf45
  v37 := Tryd.zeroValue45
  t46 := Tryd.underlying55
  a46 := Tryd.isAgg55
  z46 := Tryd.sizeOf55
  v46 := Tryd.zeroValue55
  t51 := Tryd.underlying44
  a51 := Tryd.isAgg44
  z51 := Tryd.sizeOf44
  v51 := Tryd.zeroValue44 }
open Go.RowKit in
/-- unicode/utf8.appendRuneNonASCII (what AppendRune calls for all but ASCII), ONTO A ROW OF BYTES THAT THE CALL OWNS: every int32 that is no ASCII rune: 'Lib.runeCells r' goes in behind what the row holds. (LAID: no walk: one application.) -/
theorem Tryd.utf8_appendRuneNonASCII_plain (B : Nat) (v : Value) (n : Nat) (xs : List Value) (r : Int) (hr0 : -2147483648 ≤ r) (hr1 : r ≤ 2147483647) (hna : r < 0 ∨ 128 ≤ r) (w : World) (hown : w.ownsRow B 5 1 v n xs) (hlen : n + 4 ≤ 140737488355328) (hBw : B ≤ w.heap.size) :
    Calls Tryd.prog 60 #[v, .int .i32 r] w fun e w' => ∃ v', e = .returned v' ∧ w'.ownsRow B 5 1 v' (n + (Lib.runeCells r).length) (xs ++ Lib.runeCells r) ∧ ∃ o, (w.alloc o).grownBy w' v.ownBlock := Any.utf8_appendRuneNonASCII_plain Tryd.lays278 (by kernel_rfl) B v n xs r hr0 hr1 hna w hown hlen hBw
def Tryd.lays242_ren : Go.Shelf.Ren := ⟨fun | 242 => 40 | 278 => 60 | n => n, fun | 37 => 45 | 21 => 21 | 51 => 44 | 4 => 4 | 5 => 5 | 46 => 55 | n => n, fun | n => n⟩
theorem Tryd.lays242 : Go.Proofs.Lays.n242 Tryd.prog Tryd.lays242_ren := {
  mixed := by kernel_rfl
  f242 := Tryd.func40.trans (congrArg some (by kernel_rfl))
  f278 := Tryd.func60.trans (congrArg some (by kernel_rfl))
  t4 := Tryd.underlying4
  a4 := Tryd.isAgg4
  z4 := Tryd.sizeOf4
  v4 := Tryd.zeroValue4
  t5 := Tryd.underlying5
  a5 := Tryd.isAgg5
  z5 := Tryd.sizeOf5
  v5 := Tryd.zeroValue5
  t21 := Tryd.underlying21
  a21 := Tryd.isAgg21
  z21 := Tryd.sizeOf21
  v21 := Tryd.zeroValue21
  t37 := Tryd.underlying45
  a37 := Tryd.isAgg45
  z37 := Tryd.sizeOf45
  v37 := Tryd.zeroValue45
  t46 := Tryd.underlying55
  a46 := Tryd.isAgg55
  z46 := Tryd.sizeOf55
  v46 := Tryd.zeroValue55
  t51 := Tryd.underlying44
  a51 := Tryd.isAgg44
  z51 := Tryd.sizeOf44
  v51 := Tryd.zeroValue44 }
open Go.RowKit in
/-- unicode/utf8.AppendRune: "AppendRune appends the UTF-8 encoding of r to the end of p and returns the extended buffer. If the rune is out of range, it appends the encoding of RuneError.": ONTO A ROW OF BYTES THAT THE CALL OWNS (its head frozen or not): EVERY int32: 'Lib.runeCells r' goes in behind what the row holds; the world: one new block (the bytes as the call's variadic argument), then what 'append' does to the row. (LAID: no walk: one application.) -/
theorem Tryd.utf8_AppendRune_plain (B : Nat) (v : Value) (n : Nat) (xs : List Value) (r : Int) (hr0 : -2147483648 ≤ r) (hr1 : r ≤ 2147483647) (w : World) (hown : w.ownsRow B 5 1 v n xs) (hlen : n + 4 ≤ 140737488355328) (hBw : B ≤ w.heap.size) :
    Calls Tryd.prog 40 #[v, .int .i32 r] w fun e w' => ∃ v', e = .returned v' ∧ w'.ownsRow B 5 1 v' (n + (Lib.runeCells r).length) (xs ++ Lib.runeCells r) ∧ ∃ o, (w.alloc o).grownBy w' v.ownBlock := Any.utf8_AppendRune_plain Tryd.lays242 (by kernel_rfl) B v n xs r hr0 hr1 w hown hlen hBw
def Tryd.lays217_ren : Go.Shelf.Ren := ⟨fun | 217 => 31 | 266 => 55 | n => n, fun | 9 => 9 | 5 => 5 | 3 => 3 | n => n, fun | n => n⟩
theorem Tryd.lays217 : Go.Proofs.Lays.n217 Tryd.prog Tryd.lays217_ren := {
  mixed := by kernel_rfl
  f217 := Tryd.func31.trans (congrArg some (by kernel_rfl))
  f266 := Tryd.func55.trans (congrArg some (by kernel_rfl))
  t3 := Tryd.underlying3
  a3 := Tryd.isAgg3
  z3 := Tryd.sizeOf3
  v3 := Tryd.zeroValue3
  t5 := Tryd.underlying5
  a5 := Tryd.isAgg5
  z5 := Tryd.sizeOf5
  v5 := Tryd.zeroValue5
  t9 := Tryd.underlying9
  a9 := Tryd.isAgg9
  z9 := Tryd.sizeOf9
  v9 := Tryd.zeroValue9 }
open Go.RowKit Go.Lib in
/-- internal/stringslite.IndexByte (what strings.IndexByte calls): IT RETURNS 'Lib.indexByte s c'; the world is as it was. (LAID: no walk: one application.) -/
theorem Tryd.stringslite_IndexByte (s : ByteArray) (c : Int) (w : World) :
    Calls Tryd.prog 31 #[.string s, .int .u8 c] w fun e w' => e = .returned (.int .i64 (Lib.indexByte s.data.toList c.toNat.toUInt8)) ∧ w' = w := Any.stringslite_IndexByte Tryd.lays217 s c w
def Tryd.lays206_ren : Go.Shelf.Ren := ⟨fun | 206 => 57 | n => n, fun | 9 => 9 | 4 => 4 | 3 => 3 | n => n, fun | n => n⟩
theorem Tryd.lays206 : Go.Proofs.Lays.n206 Tryd.prog Tryd.lays206_ren := {
  mixed := by kernel_rfl
  f206 := Tryd.func57.trans (congrArg some (by kernel_rfl))
  t3 := Tryd.underlying3
  a3 := Tryd.isAgg3
  z3 := Tryd.sizeOf3
  v3 := Tryd.zeroValue3
  t4 := Tryd.underlying4
  a4 := Tryd.isAgg4
  z4 := Tryd.sizeOf4
  v4 := Tryd.zeroValue4
  t9 := Tryd.underlying9
  a9 := Tryd.isAgg9
  z9 := Tryd.sizeOf9
  v9 := Tryd.zeroValue9 }
open Go.RowKit Go.Lib in
/-- internal/stringslite.HasPrefix (what strings.HasPrefix calls). (LAID: no walk: one application.) -/
theorem Tryd.stringslite_HasPrefix (s p : ByteArray) (w : World) :
    Calls Tryd.prog 57 #[.string s, .string p] w fun e w' => e = .returned (.bool (Lib.hasPrefix s.data.toList p.data.toList)) ∧ w' = w := Any.stringslite_HasPrefix Tryd.lays206 s p w
def Tryd.lays99_ren : Go.Shelf.Ren := ⟨fun | 99 => 36 | 206 => 57 | n => n, fun | 9 => 9 | 4 => 4 | 3 => 3 | n => n, fun | n => n⟩
theorem Tryd.lays99 : Go.Proofs.Lays.n99 Tryd.prog Tryd.lays99_ren := {
  mixed := by kernel_rfl
  f99 := Tryd.func36.trans (congrArg some (by kernel_rfl))
  f206 := Tryd.func57.trans (congrArg some (by kernel_rfl))
  t3 := Tryd.underlying3
  a3 := Tryd.isAgg3
  z3 := Tryd.sizeOf3
  v3 := Tryd.zeroValue3
  t4 := Tryd.underlying4
  a4 := Tryd.isAgg4
  z4 := Tryd.sizeOf4
  v4 := Tryd.zeroValue4
  t9 := Tryd.underlying9
  a9 := Tryd.isAgg9
  z9 := Tryd.sizeOf9
  v9 := Tryd.zeroValue9 }
open Go.RowKit Go.Lib in
/-- strings.HasPrefix: "HasPrefix reports whether the string s begins with prefix.": IT RETURNS 'Lib.hasPrefix s prefix'; the world is as it was. (LAID: no walk: one application.) -/
theorem Tryd.strings_HasPrefix (s p : ByteArray) (w : World) :
    Calls Tryd.prog 36 #[.string s, .string p] w fun e w' => e = .returned (.bool (Lib.hasPrefix s.data.toList p.data.toList)) ∧ w' = w := Any.strings_HasPrefix Tryd.lays99 s p w
def Tryd.lays208_ren : Go.Shelf.Ren := ⟨fun | 208 => 88 | 206 => 57 | n => n, fun | 9 => 9 | 4 => 4 | 3 => 3 | n => n, fun | n => n⟩
theorem Tryd.lays208 : Go.Proofs.Lays.n208 Tryd.prog Tryd.lays208_ren := {
  mixed := by kernel_rfl
  f206 := Tryd.func57.trans (congrArg some (by kernel_rfl))
  f208 := Tryd.func88.trans (congrArg some (by kernel_rfl))
  t3 := Tryd.underlying3
  a3 := Tryd.isAgg3
  z3 := Tryd.sizeOf3
  v3 := Tryd.zeroValue3
  t4 := Tryd.underlying4
  a4 := Tryd.isAgg4
  z4 := Tryd.sizeOf4
  v4 := Tryd.zeroValue4
  t9 := Tryd.underlying9
  a9 := Tryd.isAgg9
  z9 := Tryd.sizeOf9
  v9 := Tryd.zeroValue9 }
open Go.RowKit Go.Lib in
/-- internal/stringslite.TrimPrefix (what strings.TrimPrefix calls). (LAID: no walk: one application.) -/
theorem Tryd.stringslite_TrimPrefix (s p : ByteArray) (w : World) :
    Calls Tryd.prog 88 #[.string s, .string p] w fun e w' => e = .returned (.string ⟨(Lib.trimPrefix s.data.toList p.data.toList).toArray⟩) ∧ w' = w := Any.stringslite_TrimPrefix Tryd.lays208 s p w
def Tryd.lays101_ren : Go.Shelf.Ren := ⟨fun | 101 => 61 | 208 => 88 | 206 => 57 | n => n, fun | 9 => 9 | 4 => 4 | 3 => 3 | n => n, fun | n => n⟩
theorem Tryd.lays101 : Go.Proofs.Lays.n101 Tryd.prog Tryd.lays101_ren := {
  mixed := by kernel_rfl
  f101 := Tryd.func61.trans (congrArg some (by kernel_rfl))
  f206 := Tryd.func57.trans (congrArg some (by kernel_rfl))
  f208 := Tryd.func88.trans (congrArg some (by kernel_rfl))
  t3 := Tryd.underlying3
  a3 := Tryd.isAgg3
  z3 := Tryd.sizeOf3
  v3 := Tryd.zeroValue3
  t4 := Tryd.underlying4
  a4 := Tryd.isAgg4
  z4 := Tryd.sizeOf4
  v4 := Tryd.zeroValue4
  t9 := Tryd.underlying9
  a9 := Tryd.isAgg9
  z9 := Tryd.sizeOf9
  v9 := Tryd.zeroValue9 }
open Go.RowKit Go.Lib in
/-- strings.TrimPrefix: "TrimPrefix returns s without the provided leading prefix string. If s doesn't start with prefix, s is returned unchanged.": IT RETURNS 'Lib.trimPrefix s prefix'; the world is as it was. (LAID: no walk: one application.) -/
theorem Tryd.strings_TrimPrefix (s p : ByteArray) (w : World) :
    Calls Tryd.prog 61 #[.string s, .string p] w fun e w' => e = .returned (.string ⟨(Lib.trimPrefix s.data.toList p.data.toList).toArray⟩) ∧ w' = w := Any.strings_TrimPrefix Tryd.lays101 s p w
end Go.Proofs

/- spec.TextOk walked. -/
namespace Go.Proofs.YtogkcphobhhbdaaDoor
open Go Go.RowKit Go.Lib
namespace Sc
open Ev
set_option maxRecDepth 100000

/-- A rune that no text here may hold. -/
def badR (r : Int) : Bool := r == 65533 || r == 0 || r == 65279
def textOkN (s : ByteArray) : Nat → Nat → Bool
  | 0, _ => true
  | n + 1, p => if p < s.size then (if badR (Utf8.decode s p).1 = true then false else textOkN s n (p + (Utf8.decode s p).2)) else true
/-- TextOk. -/
def textOkF (s : ByteArray) : Bool := textOkN s (s.size + 1) 0 && decide (s.size ≤ 60)
/-- Known slots of a frame of 23. -/
structure ST (v0 vi : Value) (a : Act) : Prop where
  defers : a.defers = []
  size : a.tmps.size = 23
  s0 : a.tmps[0]? = some v0
  s6 : a.tmps[6]? = some vi
theorem ST.lit {v0 vi : Value} {a : Act} (h : ST v0 vi a) : ∃ x : Nat → Value, a = { tmps := #[v0, x 1, x 2, x 3, x 4, x 5, vi, x 7, x 8, x 9, x 10, x 11, x 12, x 13, x 14, x 15, x 16, x 17, x 18, x 19, x 20, x 21, x 22], defers := [] } := by
  refine ⟨fun i => a.tmps.getD i undef, ?_⟩
  obtain ⟨t, d⟩ := a
  obtain ⟨h1, h2, k0, k6⟩ := h
  simp only at h1 h2 k0 k6
  subst h1
  have e0 : t.getD 0 undef = v0 := by rw [Array.getD_eq_getD_getElem?, k0]; rfl
  have e6 : t.getD 6 undef = vi := by rw [Array.getD_eq_getD_getElem?, k6]; rfl
  have ht := tmpsN 23 t h2
  rw [← e0, ← e6]
  exact congrArg (fun t => ({ tmps := t, defers := [] } : Act)) ht
theorem ST.of {v0 vi : Value} (x : Nat → Value) : ST v0 vi { tmps := #[v0, x 1, x 2, x 3, x 4, x 5, vi, x 7, x 8, x 9, x 10, x 11, x 12, x 13, x 14, x 15, x 16, x 17, x 18, x 19, x 20, x 21, x 22], defers := [] } := ⟨rfl, rfl, rfl, rfl⟩

noncomputable abbrev tkBody : Code := bodyOf Tryd.f17
noncomputable abbrev tkLoop : Code := loopOf (blkOf tkBody 0)
theorem tk_end {w : World} {s : ByteArray} {k pos : Nat} (hk : w.heap[k]? = some (.stringIter s pos)) (h : ¬ pos < s.size)
    (a : Act) (hz : ST (.string s) (.pointer (some ⟨k, 0, none⟩)) a) (Q : Exit → Act → World → Prop) (hQ : ∀ a', ST (.string s) (.pointer (some ⟨k, 0, none⟩)) a' → Q (.exit 0) a' w) : tkLoop.wp Tryd.prog Q a w := by
  obtain ⟨x, rfl⟩ := hz.lit
  clear hz
  have hx := fun ty => run_next_end_at (P := Tryd.prog) w k s pos ty hk h
  simp only [tkLoop, tkBody, bodyOf, Tryd.f17, Option.getD, blkOf, loopOf, cond, Nat.beq]
  go_wp2_with fail
  exact ⟨rfl, rfl, rfl, rfl⟩
theorem tk_bad {w : World} {s : ByteArray} {k pos : Nat} (hk : w.heap[k]? = some (.stringIter s pos)) (h : pos < s.size) (hb : badR (Utf8.decode s pos).1 = true)
    (a : Act) (hz : ST (.string s) (.pointer (some ⟨k, 0, none⟩)) a) (Q : Exit → Act → World → Prop) (hQ : ∀ a' w', a'.defers = [] → a'.tmps[2]? = some (.bool false) → Below k w w' → Q .ret a' w') : tkLoop.wp Tryd.prog Q a w := by
  obtain ⟨x, rfl⟩ := hz.lit
  clear hz
  have hx := fun ty => run_next_any_at (P := Tryd.prog) w k s pos ty hk h
  have hB := below_iterAt (Below.refl k w) (Nat.le_refl k) s (pos + (Utf8.decode s pos).2)
  generalize w.iterAt k s (pos + (Utf8.decode s pos).2) = w1 at hx hB
  generalize ((Utf8.decode s pos).1 : Int) = r at hx hb
  simp only [tkLoop, tkBody, bodyOf, Tryd.f17, Option.getD, blkOf, loopOf, cond, Nat.beq]
  unfold badR at hb
  go_wp2_with fail
  all_goals exact hQ _ _ rfl rfl hB
theorem tk_good {w : World} {s : ByteArray} {k pos : Nat} (hk : w.heap[k]? = some (.stringIter s pos)) (h : pos < s.size) (hb : badR (Utf8.decode s pos).1 = false)
    (a : Act) (hz : ST (.string s) (.pointer (some ⟨k, 0, none⟩)) a) (Q : Exit → Act → World → Prop) (hQ : ∀ a', ST (.string s) (.pointer (some ⟨k, 0, none⟩)) a' → Q .normal a' (w.iterAt k s (pos + (Utf8.decode s pos).2))) : tkLoop.wp Tryd.prog Q a w := by
  obtain ⟨x, rfl⟩ := hz.lit
  clear hz
  have hx := fun ty => run_next_any_at (P := Tryd.prog) w k s pos ty hk h
  generalize w.iterAt k s (pos + (Utf8.decode s pos).2) = w1 at hx hQ
  generalize ((Utf8.decode s pos).1 : Int) = r at hx hb
  simp only [tkLoop, tkBody, bodyOf, Tryd.f17, Option.getD, blkOf, loopOf, cond, Nat.beq]
  unfold badR at hb
  simp only [Bool.or_eq_false_iff] at hb
  obtain ⟨⟨b1, b2⟩, b3⟩ := hb
  go_wp2_with fail
  exact ⟨rfl, rfl, rfl, rfl⟩
theorem textOkN_more (s : ByteArray) : ∀ (n m p : Nat), s.size ≤ p + n → s.size ≤ p + m → textOkN s n p = textOkN s m p
  | 0, 0, _, _, _ => rfl
  | 0, m + 1, p, h, _ => by simp only [textOkN]; rw [if_neg (by omega)]
  | n + 1, 0, p, _, h => by simp only [textOkN]; rw [if_neg (by omega)]
  | n + 1, m + 1, p, h1, h2 => by
    have := (dec_pos s p).1
    simp only [textOkN]
    rw [textOkN_more s n m _ (by omega) (by omega)]
theorem tk_loop {s : ByteArray} {k : Nat} {w0 : World} (Q : Exit → Act → World → Prop) :
    ∀ (d pos : Nat) (a : Act) (w : World), s.size ≤ pos + d → w.heap[k]? = some (.stringIter s pos) → ST (.string s) (.pointer (some ⟨k, 0, none⟩)) a → Below k w0 w →
      (textOkN s d pos = false → ∀ a w, a.defers = [] → a.tmps[2]? = some (.bool false) → Below k w0 w → Q .ret a w) →
      (textOkN s d pos = true → ∀ a w, ST (.string s) (.pointer (some ⟨k, 0, none⟩)) a → Below k w0 w → Q .normal a w) →
      Code.rounds Tryd.prog tkLoop (Exit.inBlock 0 Q) (d + 1) a w
  | 0, pos, a, w, hd, hk, hz, hB, h1, h2 => by
    rw [rounds_succ]
    exact tk_end hk (by omega) a hz _ (fun a' z' => h2 rfl a' w z' hB)
  | d + 1, pos, a, w, hd, hk, hz, hB, h1, h2 => by
    rw [rounds_succ]
    by_cases hp : pos < s.size
    · simp only [textOkN, if_pos hp] at h1 h2
      cases hb : badR (Utf8.decode s pos).1 with
      | true =>
        rw [hb, if_pos rfl] at h1
        exact tk_bad hk hp hb a hz _ (fun a' w' d0 d2 b' => h1 rfl a' w' d0 d2 (hB.trans b'))
      | false =>
        rw [hb, if_neg (by simp)] at h1 h2
        refine tk_good hk hp hb a hz _ (fun a' z' => ?_)
        have := (dec_pos s pos).1
        exact tk_loop Q d _ a' _ (by omega) (iterAt_heap w k s pos _ hk) z' (below_iterAt hB (Nat.le_refl k) s _) h1 h2
    · have e : textOkN s (d + 1) pos = true := by simp only [textOkN, if_neg hp]
      exact tk_end hk hp a hz _ (fun a' z' => h2 e a' w z' hB)
noncomputable abbrev tkP (n : Nat) : Code := fstC (cutTail n tkBody)
theorem tk_body : (Tryd.f17).body = some (.seq (tkP 0) (.seq (.seq (fstC (tkP 1)) (.block 0 (.loop tkLoop))) (cutTail 2 tkBody))) := by kernel_rfl
theorem tk_first {w : World} {s : ByteArray} (B C : Code) (Q : Exit → Act → World → Prop)
    (hQ : ∀ a, ST (.string s) (.pointer (some ⟨w.heap.size, 0, none⟩)) a → B.wp Tryd.prog (Exit.then (fun a w => C.wp Tryd.prog Q a w) Q) a (w.iter s 0)) :
    (Code.seq (tkP 0) (.seq (.seq (fstC (tkP 1)) B) C)).wp Tryd.prog Q { tmps := #[.string s] ++ Array.replicate 22 undef, defers := [] } w := by
  simp only [tkP, fstC, tkBody, bodyOf, Tryd.f17, Option.getD, cutTail, cutN, Option.map, Array.replicate_succ, Array.replicate_zero, List.push_toArray, List.append_toArray, List.nil_append, List.cons_append]
  go_wp2_with fail
  rename_i K hK
  refine Code.wp_mono (fun e a w h => ?_) (hQ _ ⟨rfl, rfl, rfl, rfl⟩)
  cases e <;> first | exact hK _ _ h | exact h
theorem tk_last {w : World} {s : ByteArray} {v : Value} (a : Act) (hz : ST (.string s) v a) (Q : Exit → Act → World → Prop)
    (hQ : ∀ a', a'.defers = [] → a'.tmps[2]? = some (.bool (decide (s.size ≤ 60))) → Q .ret a' w) : (cutTail 2 tkBody).wp Tryd.prog Q a w := by
  obtain ⟨x, rfl⟩ := hz.lit
  clear hz
  simp only [tkBody, bodyOf, Tryd.f17, Option.getD, cutTail, cutN, Option.map]
  go_wp2_with fail
  exact hQ _ rfl (by simp; omega)
theorem textOk_walk (w : World) (s : ByteArray) : Calls Tryd.prog 17 #[.string s] w fun e w' => e = .returned (.bool (textOkF s)) ∧ Below w.heap.size w w' := by
  refine calls_of_wp Tryd.func17 tk_body ?_
  have hnt : (Tryd.f17).ntmps - (#[.string s] : Array Value).size = 22 := by kernel_rfl
  rw [hnt]
  have hB0 : Below w.heap.size w (w.iter s 0) := Below.alloc (Below.refl _ _) (Nat.le_refl _) _
  refine tk_first _ _ _ (fun a z => ?_)
  refine wp_block (wp_loop_rounds (s.size + 1 + 1) ?_)
  have hsz : ∀ w', Below w.heap.size (w.iter s 0) w' → Below w.heap.size w w' := fun w' h => hB0.trans h
  refine tk_loop (k := w.heap.size) (w0 := w.iter s 0) _ (s.size + 1) 0 a _ (by omega) (World.iter_heap w s 0) z (Below.refl _ _) (fun hf a2 w2 d0 d2 b2 => ?_) (fun hf a2 w2 z2 b2 => ?_)
  · exact ⟨d0, _, one_res (k := 2) (by kernel_rfl) d2, by unfold textOkF; rw [hf]; rfl, hsz _ b2⟩
  · show (cutTail 2 tkBody).wp _ _ a2 w2
    exact tk_last a2 z2 _ (fun a3 d0 d2 => ⟨d0, _, one_res (k := 2) (by kernel_rfl) d2, by unfold textOkF; rw [hf]; rfl, hsz _ b2⟩)
end Sc
end Go.Proofs.YtogkcphobhhbdaaDoor

/- Plain: a text within a text; texts that TextOk takes are characters that follow one another. -/
namespace Go.Proofs.YtogkcphobhhbdaaDoor
open Go Go.RowKit Go.Lib
namespace Sc
open Ev
set_option maxRecDepth 100000

/-- A text stands in another one from k on. -/
structure Sub (T : ByteArray) (k : Nat) (s : ByteArray) : Prop where
  le : k + s.size ≤ T.size
  get : ∀ j, j < s.size → T.get! (k + j) = s.get! j
theorem decodeN_same {n m b0 b1 b2 b3 c1 c2 c3 : Nat} (hnm : n ≤ m) (h1 : 1 < n → c1 = b1) (h2 : 2 < n → c2 = b2) (h3 : 3 < n → c3 = b3) (hne : (decodeN n b0 b1 b2 b3).1 ≠ 65533) : decodeN m b0 c1 c2 c3 = decodeN n b0 b1 b2 b3 := by
  unfold decodeN at hne ⊢
  by_cases k0 : b0 < 128
  · rw [if_pos k0, if_pos k0]
  · rw [if_neg k0] at hne
    rw [if_neg k0, if_neg k0]
    by_cases k1 : b0 / 32 = 6 ∧ (1 < n ∧ b1 / 64 = 2)
    · have e1 := h1 k1.2.1
      subst e1
      rw [if_pos k1, if_pos ⟨k1.1, by omega, k1.2.2⟩]
    · rw [if_neg k1] at hne
      by_cases k2 : b0 / 16 = 14 ∧ (1 < n ∧ b1 / 64 = 2) ∧ (2 < n ∧ b2 / 64 = 2)
      · have e1 := h1 k2.2.1.1
        have e2 := h2 k2.2.2.1
        subst e1 e2
        have k1' : ¬ (b0 / 32 = 6 ∧ (1 < m ∧ c1 / 64 = 2)) := fun h => by have := k2.1; have := h.1; omega
        rw [if_neg k1, if_pos k2, if_neg k1', if_pos ⟨k2.1, ⟨by omega, k2.2.1.2⟩, by omega, k2.2.2.2⟩]
      · rw [if_neg k2] at hne
        by_cases k3 : b0 / 8 = 30 ∧ (1 < n ∧ b1 / 64 = 2) ∧ (2 < n ∧ b2 / 64 = 2) ∧ (3 < n ∧ b3 / 64 = 2)
        · have e1 := h1 k3.2.1.1
          have e2 := h2 k3.2.2.1.1
          have e3 := h3 k3.2.2.2.1
          subst e1 e2 e3
          have k1' : ¬ (b0 / 32 = 6 ∧ (1 < m ∧ c1 / 64 = 2)) := fun h => by have := k3.1; have := h.1; omega
          have k2' : ¬ (b0 / 16 = 14 ∧ (1 < m ∧ c1 / 64 = 2) ∧ (2 < m ∧ c2 / 64 = 2)) := fun h => by have := k3.1; have := h.1; omega
          rw [if_neg k1, if_neg k2, if_pos k3, if_neg k1', if_neg k2', if_pos ⟨k3.1, ⟨by omega, k3.2.1.2⟩, ⟨by omega, k3.2.2.1.2⟩, by omega, k3.2.2.2.2⟩]
        · rw [if_neg k3] at hne
          exact absurd rfl hne
theorem dec_same {s T : ByteArray} {i k : Nat} (hi : i < s.size) (h : Sub T k s) (hne : (Utf8.decode s i).1 ≠ 65533) : Utf8.decode T (k + i) = Utf8.decode s i := by
  have ht := h.le
  have g : ∀ m, i + m < s.size → T.get! (k + i + m) = s.get! (i + m) := fun m hm => by
    rw [Nat.add_assoc]; exact h.get _ hm
  have g0 := h.get i hi
  rw [decode_at] at hne ⊢
  rw [decode_at, g0]
  exact decodeN_same (by omega) (fun h => by rw [g 1 (by omega)]) (fun h => by rw [g 2 (by omega)]) (fun h => by rw [g 3 (by omega)]) hne
/-- A text that TextOk takes is characters that follow one another, wherever it stands. -/
theorem textOkN_cl {s T : ByteArray} {k : Nat} (h : Sub T k s) : ∀ (n p : Nat), s.size ≤ p + n → p ≤ s.size → textOkN s n p = true →
    Cl T (k + p) (runesAt s n p) (k + s.size) ∧ ∀ r ∈ runesAt s n p, r ≠ 65533 ∧ r ≠ 0 ∧ r ≠ 65279 ∧ (r < 128 → ∃ j, j < s.size ∧ ((s.get! j).toNat : Int) = r) := by
  intro n
  induction n with
  | zero =>
    intro p h1 h2 _
    have : p = s.size := by omega
    subst this
    exact ⟨.nil, fun r hr => absurd hr List.not_mem_nil⟩
  | succ n ih =>
    intro p h1 h2 ho
    by_cases hp : p < s.size
    · simp only [textOkN, if_pos hp] at ho
      by_cases hb : badR (Utf8.decode s p).1 = true
      · rw [if_pos hb] at ho; cases ho
      · rw [if_neg hb] at ho
        have hb' : ((Utf8.decode s p).1 : Int) ≠ 65533 ∧ ((Utf8.decode s p).1 : Int) ≠ 0 ∧ ((Utf8.decode s p).1 : Int) ≠ 65279 := by
          unfold badR at hb
          simp only [Bool.or_eq_true, beq_iff_eq, not_or] at hb
          exact ⟨hb.1.1, hb.1.2, hb.2⟩
        have dp := dec_pos s p
        have dl := dec_le s p hp
        obtain ⟨c1, c2⟩ := ih (p + (Utf8.decode s p).2) (by omega) dl ho
        have ds := dec_same hp h (by omega)
        have gp : T.get! (k + p) = s.get! p := h.get p hp
        have hT : k + p < T.size := by have := h.le; omega
        have hc : ChAt T (k + p) (Utf8.decode s p).1 (Utf8.decode s p).2 := by
          refine ⟨hT, ?_⟩
          rw [gp, ds]
          by_cases hb1 : (s.get! p).toNat < 128
          · have e : Utf8.decode s p = ((s.get! p).toNat, 1) := by
              have hb1' : (s.get! (p + 0)).toNat < 128 := hb1
              unfold Utf8.decode
              simp only [hb1', if_true]
              rfl
            rw [e] at hb'
            exact .inl ⟨hb1, by simp only at hb'; omega, by rw [e], by rw [e]⟩
          · exact .inr ⟨hb1, by omega, by omega, rfl, rfl⟩
        simp only [runesAt, if_pos hp]
        refine ⟨.cons hc (by rw [Nat.add_assoc]; exact c1), fun r hr => ?_⟩
        rcases List.mem_cons.1 hr with rfl | hr
        · refine ⟨hb'.1, hb'.2.1, hb'.2.2, fun hlt => ⟨p, hp, ?_⟩⟩
          have := (hc.byte hlt).1
          rw [gp] at this
          exact this.symm
        · exact c2 r hr
    · have : p = s.size := by omega
      subst this
      simp only [runesAt, if_neg hp]
      exact ⟨.nil, fun r hr => absurd hr List.not_mem_nil⟩
/-- A text's characters. -/
def runes (s : ByteArray) : List Int := runesAt s (s.size + 1) 0
theorem textOk_cl {s T : ByteArray} {k : Nat} (h : Sub T k s) (ho : textOkF s = true) :
    s.size ≤ 60 ∧ Cl T k (runes s) (k + s.size) ∧ ∀ r ∈ runes s, r ≠ 65533 ∧ r ≠ 0 ∧ r ≠ 65279 ∧ (r < 128 → ∃ j, j < s.size ∧ ((s.get! j).toNat : Int) = r) := by
  unfold textOkF at ho
  simp only [Bool.and_eq_true, decide_eq_true_eq] at ho
  have := textOkN_cl h (s.size + 1) 0 (by omega) (Nat.zero_le _) ho.1
  exact ⟨ho.2, this⟩
end Sc
end Go.Proofs.YtogkcphobhhbdaaDoor

/- Plain: a text of one literal; texts put together. -/
namespace Go.Proofs.YtogkcphobhhbdaaDoor
open Go Go.RowKit Go.Lib
namespace Sc
open Ev
set_option maxRecDepth 100000

theorem app_list (a b : ByteArray) : (a ++ b).data.toList = a.data.toList ++ b.data.toList := by
  rw [ByteArray.data_append, Array.toList_append]
theorem app_size (a b : ByteArray) : (a ++ b).size = a.size + b.size := ByteArray.size_append
theorem get_left (a b : ByteArray) (i : Nat) (h : i < a.size) : (a ++ b).get! i = a.get! i := by
  rw [get_list, get_list, app_list]
  have hl : i < a.data.toList.length := by rw [size_toList]; exact h
  simp only [List.getD_eq_getElem?_getD]
  rw [List.getElem?_append_left hl]
theorem get_right (a b : ByteArray) (i : Nat) : (a ++ b).get! (a.size + i) = b.get! i := by
  rw [get_list, get_list, app_list]
  have hl : a.data.toList.length = a.size := size_toList a
  simp only [List.getD_eq_getElem?_getD]
  rw [List.getElem?_append_right (by omega), hl, Nat.add_sub_cancel_left]
theorem sub_self (a : ByteArray) : Sub a 0 a := ⟨by omega, fun j _ => by rw [Nat.zero_add]⟩
theorem Sub.left {T a : ByteArray} {k : Nat} (h : Sub T k a) (b : ByteArray) : Sub (T ++ b) k a := by
  have hl := h.le
  exact ⟨by rw [app_size]; omega, fun j hj => by rw [get_left _ _ _ (by omega)]; exact h.get j hj⟩
theorem Sub.right {T a : ByteArray} {k : Nat} (h : Sub T k a) (b : ByteArray) : Sub (b ++ T) (b.size + k) a := by
  have hl := h.le
  exact ⟨by rw [app_size]; omega, fun j hj => by rw [Nat.add_assoc, get_right]; exact h.get j hj⟩
theorem Sub.byte {T a : ByteArray} {k : Nat} (h : Sub T k a) {j : Nat} (hj : j < a.size) : T.get! (k + j) = a.get! j := h.get j hj
/-- A byte that is a sign of its own. -/
theorem Sub.chAt {T : ByteArray} {k : Nat} {b : UInt8} (h : Sub T k ⟨#[b]⟩) (h1 : b.toNat < 128) (h2 : b.toNat ≠ 0) : ChAt T k b.toNat 1 := by
  have e : T.get! (k + 0) = b := h.get 0 (by show 0 < 1; decide)
  rw [Nat.add_zero] at e
  have hl := h.le
  have hs : (⟨#[b]⟩ : ByteArray).size = 1 := rfl
  have := chAt_byte (src := T) (p := k) (by omega) (by rw [e]; exact h1) (by rw [e]; exact h2)
  rw [e] at this
  exact this

/-! A text of one literal. -/
/-- The text's only token, but for the semicolon that is put in, and the end. -/
structure One (src : ByteArray) (s : St) : Prop where
  toks : ∃ s2 s3, toks src 0 = [s, s2, s3] ∧ s2.tok = 18 ∧ s2.lit = wEOF ∧ s3.tok = 1
  notes : (last src 0).notes = []
def litW (T : ByteArray) (k : Int) : WTok := ⟨2, T, k, 0, 0⟩
theorem word_lit : (tokWord 3).toList = [108, 105, 116, 101, 114, 97, 108] := by kernel_rfl
theorem word_semi : (tokWord 18).toList = [59] := by kernel_rfl
theorem like_end {s : St} (h : s.tok = 1) : Like s endW := by
  refine ⟨?_, fun h => by cases h⟩
  rw [h]
  show toldF (tokWord 1) _ _ = (0, ⟨#[]⟩)
  unfold toldF
  rw [if_pos word_one]
theorem like_semi {s : St} (h : s.tok = 18) (h2 : s.lit = wEOF) : Like s semiW := by
  refine ⟨?_, fun h => by cases h⟩
  rw [h, h2]
  show toldF (tokWord 18) wEOF (opStr s.op) = (4, ⟨#[]⟩)
  unfold toldF
  have e : wEOF.toList = [69, 79, 70] := by kernel_rfl
  rw [word_semi, e]
  rfl
theorem like_lit {s : St} {k : Int} (h : s.tok = 3) (hk : s.kind = k) (hb : s.bad = false) (h0 : 0 ≤ k) (h9 : k ≤ 9) : Like s (litW s.lit k) := by
  refine ⟨?_, fun _ => ⟨by rw [hk]; show wrap64 k = k; unfold wrap64; omega, hb⟩⟩
  rw [h]
  show toldF (tokWord 3) s.lit (opStr s.op) = (2, s.lit)
  unfold toldF
  rw [word_lit]
  rfl
/-- What closed makes of one token that a semicolon follows. -/
theorem closed_one {t : WTok} (h : endsW t = true) : closedF [t] t = [t, semiW, endW] := by
  unfold closedF
  rw [if_pos h]
  rfl
theorem One.like {src : ByteArray} {s : St} {t : WTok} (h : One src s) (ht : Like s t) (he : endsW t = true) : LikeAll (Sc.toks src 0) (closedF [t] t) := by
  obtain ⟨s2, s3, e, h2, h2', h3⟩ := h.toks
  rw [e, closed_one he]
  refine ⟨rfl, fun i a b ha hb => ?_⟩
  match i, ha, hb with
  | 0, ha, hb => cases ha; cases hb; exact ht
  | 1, ha, hb => cases ha; cases hb; exact like_semi h2 h2'
  | 2, ha, hb => cases ha; cases hb; exact like_end h3
theorem ends_lit (T : ByteArray) (k : Int) : endsW (litW T k) = true := rfl

/-! A raw string. -/
theorem index_no {s : ByteArray} {c : UInt8} (h : ¬ (0 : Int) ≤ Lib.indexByte s.data.toList c) {j : Nat} (hj : j < s.size) : s.get! j ≠ c := by
  have h1 := Lib.indexByte_ge s.data.toList c
  have h2 : Lib.indexByte s.data.toList c = -1 := by omega
  have h3 := Lib.indexByte_none h2 j
  intro e
  apply h3
  rw [get_list] at e
  have hl : j < s.data.toList.length := by rw [size_toList]; exact hj
  rw [List.getElem?_eq_getElem hl]
  rw [List.getD_eq_getElem?_getD, List.getElem?_eq_getElem hl] at e
  simpa using e
def bq : ByteArray := ⟨#[96]⟩
theorem raw_law {s : ByteArray} (h : textOkF s = true) (hn : ¬ (0 : Int) ≤ Lib.indexByte s.data.toList 96) :
    LikeAll (Sc.toks (bq ++ s ++ bq) 0) (closedF [litW (bq ++ s ++ bq) 4] (litW (bq ++ s ++ bq) 4)) ∧ (last (bq ++ s ++ bq) 0).notes = [] := by
  have b1 : bq.size = 1 := rfl
  have sz : (bq ++ s ++ bq).size = s.size + 2 := by rw [app_size, app_size, b1]; omega
  have s1 : Sub (bq ++ s ++ bq) 1 s := ((sub_self s).right bq).left bq
  have s0 : Sub (bq ++ s ++ bq) 0 bq := ((sub_self bq).left s).left bq
  have s2 : Sub (bq ++ s ++ bq) (1 + s.size) bq := by
    have := (sub_self bq).right (bq ++ s)
    rw [app_size, b1, Nat.add_zero] at this
    exact this
  obtain ⟨hs, c1, c2⟩ := textOk_cl s1 h
  have c0 : ChAt (bq ++ s ++ bq) 0 96 1 := s0.chAt (b := 96) (by decide) (by decide)
  have c3 : ChAt (bq ++ s ++ bq) (1 + s.size) 96 1 := s2.chAt (b := 96) (by decide) (by decide)
  obtain ⟨x, x2, x3, t1, ⟨t2, t3, t4, t5⟩, t6, t7, t8, t9⟩ := raw_tok (by omega) c0 c1 (fun r hr e => by
    subst e
    obtain ⟨j, hj, hj2⟩ := (c2 _ hr).2.2.2 (by decide)
    refine index_no hn hj (UInt8.toNat_inj.1 ?_)
    have : ((96 : UInt8).toNat : Int) = 96 := by decide
    omega) c3 (by omega)
  have hO : One (bq ++ s ++ bq) x := ⟨⟨x2, x3, t1, t6, t7, t8⟩, t9⟩
  have hL := like_lit (k := 4) t2 t4 t5 (by decide) (by decide)
  rw [t3] at hL
  exact ⟨hO.like hL (ends_lit _ _), t9⟩
end Sc
end Go.Proofs.YtogkcphobhhbdaaDoor

/- FnRaw walked: true at every text. -/
namespace Go.Proofs.YtogkcphobhhbdaaDoor
open Go Go.RowKit Go.Lib
namespace Sc
open Ev
set_option maxRecDepth 100000

theorem indexByte_walk (w : World) (s : ByteArray) (c : Int) : Calls Tryd.prog 18 #[.string s, .int .u8 c] w fun e w' => e = .returned (.int .i64 (Lib.indexByte s.data.toList c.toNat.toUInt8)) ∧ w' = w := by
  go_enter Tryd.func18, Tryd.ntmps18
  go_wp2_with (go_at_call 31; refine (Tryd.stringslite_IndexByte s c _).mono ?_; rintro en w' ⟨rfl, rfl⟩)
  exact ⟨rfl, _, one_res (k := 4) (by kernel_rfl) rfl, rfl, rfl⟩
/-- A row of one token that is wanted, just made. -/
theorem own_one (w : World) (t : WTok) : (w.alloc (.cells (wCells t).toArray 37)).ownsRow w.heap.size 37 5 (.slice (some ⟨w.heap.size, 0, none⟩) [t].length 1) [t].length (flat wCells [t]) :=
  ⟨rfl, .inr ⟨w.heap.size, 1, (wCells t).toArray, rfl, Nat.le_refl _, heap_alloc_new w _, Nat.le_refl _, by decide, rfl, by simp [flat, wCells]⟩⟩
/-- closed, of one token that is just made. -/
theorem closed_one_walk (w : World) (t : WTok) : Calls Tryd.prog 22 #[.slice (some ⟨w.heap.size, 0, none⟩) 1 1] (w.alloc (.cells (wCells t).toArray 37)) fun en w' => ∃ g cap b, en = .returned (.slice (some ⟨g, 0, none⟩) (closedF [t] t).length cap) ∧
      w'.ownsRow b 37 5 (.slice (some ⟨g, 0, none⟩) (closedF [t] t).length cap) (closedF [t] t).length (flat wCells (closedF [t] t)) ∧ Below w.heap.size w w' := by
  refine (closed_walk (W := [t]) (t := t) (j := 0) (own_one w t) rfl (by simp) rfl).mono ?_
  rintro en w' ⟨g, cap, rfl, h1, h2⟩
  exact ⟨g, cap, _, rfl, h1, below_old h2⟩
theorem glob_at {w w' : World} {ea : Addr} (h : Glob w ea) {B : Nat} (hB : Below B w w') (hw : B = w.heap.size) : Glob w' ea := by subst hw; exact glob_move h hB
set_option maxHeartbeats 3200000 in
theorem fnRaw_long {w : World} {s : ByteArray} (h : 150 < s.size) : Calls Tryd.prog 8 #[.string s] w fun en w' => en = .returned (.bool true) ∧ Below w.heap.size w w' := by
  have h1 : (150 : Int) < (s.size : Int) := by omega
  go_enter Tryd.func8, Tryd.ntmps8
  go_wp2_with fail
  all_goals exact ⟨rfl, _, one_res (k := 2) (by kernel_rfl) rfl, rfl, Below.refl _ _⟩
set_option maxHeartbeats 3200000 in
theorem fnRaw_walk {w : World} {ea : Addr} (s : ByteArray) (hG : Glob w ea) : Calls Tryd.prog 8 #[.string s] w fun en w' => en = .returned (.bool true) ∧ Below w.heap.size w w' := by
  by_cases h : 150 < s.size
  · exact fnRaw_long h
  have h1 : ¬ (150 : Int) < (s.size : Int) := by omega
  have h2 : ¬ (2147483647 : Int) < (s.size : Int) := by omega
  have hT := fun w => textOk_walk w s
  have hI := fun w => indexByte_walk w s 96
  rw [show (96 : Int).toNat.toUInt8 = 96 from rfl] at hI
  cases hb : textOkF s with
  | false =>
    rw [hb] at hT
    go_enter Tryd.func8, Tryd.ntmps8
    go_wp2_with (go_at_call 17; refine (hT _).mono ?_; rintro en w1 ⟨rfl, hB1⟩)
    exact ⟨rfl, _, one_res (k := 2) (by kernel_rfl) rfl, rfl, hB1⟩
  | true =>
    rw [hb] at hT
    by_cases hi : (0 : Int) ≤ Lib.indexByte s.data.toList 96
    · generalize Lib.indexByte s.data.toList 96 = ix at hI hi
      have hi' : ¬ ix < 0 := by omega
      go_enter Tryd.func8, Tryd.ntmps8
      go_wp2_with (first
        | (go_at_call 17; refine (hT _).mono ?_; rintro en w1 ⟨rfl, hB1⟩)
        | (go_at_call 18; refine (hI _).mono ?_; rintro en w2 ⟨rfl, rfl⟩))
      all_goals exact ⟨rfl, _, one_res (k := 2) (by kernel_rfl) rfl, by simp [hi], hB1⟩
    · obtain ⟨hA, h0⟩ := raw_law hb hi
      have hsz : (bq ++ s ++ bq).size ≤ 2048 := by
        rw [app_size, app_size]
        show 1 + s.size + 1 ≤ 2048
        omega
      unfold bq at hA h0 hsz
      have hC := fun w => closed_one_walk w (litW (⟨#[96]⟩ ++ s ++ ⟨#[96]⟩) 4)
      have hTo := fun w gw capw b1 hG => toldL_walk (w := w) (ea := ea) (gw := gw) (capw := capw) (b1 := b1) hG hsz hA h0
      clear hA h0
      generalize closedF [litW (⟨#[96]⟩ ++ s ++ ⟨#[96]⟩) 4] (litW (⟨#[96]⟩ ++ s ++ ⟨#[96]⟩) 4) = W at hC hTo
      generalize Lib.indexByte s.data.toList 96 = ix at hI hi
      go_enter Tryd.func8, Tryd.ntmps8
      go_wp2_with (first
        | (go_at_call 21; refine (hTo _ _ _ _ (glob_move (glob_move hG hB1) hB3) hrow).mono ?_; rintro en w4 ⟨rfl, hB4⟩)
        | (go_at_call 22; refine (hC _).mono ?_; rintro en w3 ⟨g, cap, b, rfl, hrow, hB3⟩)
        | (go_at_call 17; refine (hT _).mono ?_; rintro en w1 ⟨rfl, hB1⟩)
        | (go_at_call 18; refine (hI _).mono ?_; rintro en w2 ⟨rfl, rfl⟩))
      all_goals exact ⟨rfl, _, one_res (k := 2) (by kernel_rfl) rfl, rfl, hB1.trans (below_weak (hB3.trans (below_weak hB4 hB3.size)) hB1.size)⟩
end Sc
end Go.Proofs.YtogkcphobhhbdaaDoor

/- spec.allOf walked. -/
namespace Go.Proofs.YtogkcphobhhbdaaDoor
open Go Go.RowKit Go.Lib
namespace Sc
open Ev
set_option maxRecDepth 100000

/-- A byte is among others. -/
def inByte (b : ByteArray) (x : UInt8) : Bool := decide (0 ≤ Lib.indexByte b.data.toList x)
/-- All bytes from a place on are among others. -/
def allN (s b : ByteArray) : Nat → Nat → Bool
  | 0, _ => true
  | n + 1, i => if i < s.size then (if inByte b (s.get! i) = true then allN s b n (i + 1) else false) else true
/-- Known slots of a frame of 20. -/
structure SO (v0 v1 vi : Value) (a : Act) : Prop where
  defers : a.defers = []
  size : a.tmps.size = 20
  s0 : a.tmps[0]? = some v0
  s1 : a.tmps[1]? = some v1
  s5 : a.tmps[5]? = some vi
theorem SO.lit {v0 v1 vi : Value} {a : Act} (h : SO v0 v1 vi a) : ∃ x : Nat → Value, a = { tmps := #[v0, v1, x 2, x 3, x 4, vi, x 6, x 7, x 8, x 9, x 10, x 11, x 12, x 13, x 14, x 15, x 16, x 17, x 18, x 19], defers := [] } := by
  refine ⟨fun i => a.tmps.getD i undef, ?_⟩
  obtain ⟨t, d⟩ := a
  obtain ⟨h1, h2, k0, k1, k5⟩ := h
  simp only at h1 h2 k0 k1 k5
  subst h1
  have e0 : t.getD 0 undef = v0 := by rw [Array.getD_eq_getD_getElem?, k0]; rfl
  have e1 : t.getD 1 undef = v1 := by rw [Array.getD_eq_getD_getElem?, k1]; rfl
  have e5 : t.getD 5 undef = vi := by rw [Array.getD_eq_getD_getElem?, k5]; rfl
  have ht := tmpsN 20 t h2
  rw [← e0, ← e1, ← e5]
  exact congrArg (fun t => ({ tmps := t, defers := [] } : Act)) ht
theorem SO.of {v0 v1 vi : Value} (x : Nat → Value) : SO v0 v1 vi { tmps := #[v0, v1, x 2, x 3, x 4, vi, x 6, x 7, x 8, x 9, x 10, x 11, x 12, x 13, x 14, x 15, x 16, x 17, x 18, x 19], defers := [] } := ⟨rfl, rfl, rfl, rfl, rfl⟩

noncomputable abbrev aoBody : Code := bodyOf Tryd.f32
noncomputable abbrev aoLoop : Code := loopOf (blkOf aoBody 0)
theorem get_bang (s : ByteArray) (i : Nat) (h : i < s.size) : s.get! i = s[i] := by
  simp [ByteArray.get!, getElem!_pos, h]
  rfl
theorem ao_round {w : World} {s b : ByteArray} {i : Nat} (hs : s.size ≤ 1000000) (hi : i < s.size) (a : Act) (hz : SO (.string s) (.string b) (.int .i64 i) a) (Q : Exit → Act → World → Prop)
    (h1 : inByte b (s.get! i) = true → ∀ a', SO (.string s) (.string b) (.int .i64 (i + 1 : Nat)) a' → Q .normal a' w)
    (h2 : inByte b (s.get! i) = false → ∀ a', a'.defers = [] → a'.tmps[4]? = some (.bool false) → Q .ret a' w) : aoLoop.wp Tryd.prog Q a w := by
  obtain ⟨x, rfl⟩ := hz.lit
  clear hz
  have hi0 : (0 : Int) ≤ (i : Int) := by omega
  have hi1 : (i : Int) < (s.size : Int) := by omega
  have hI := fun c => indexByte_walk w b c
  simp only [aoLoop, aoBody, bodyOf, Tryd.f32, Option.getD, blkOf, loopOf, cond, Nat.beq]
  go_wp2_with (go_at_call 18; refine (hI _).mono ?_; rintro en w2 ⟨rfl, rfl⟩)
  · rename_i h
    exact h2 (by rw [get_bang s i hi]; unfold inByte; simp; omega) _ rfl rfl
  · rename_i h
    exact h1 (by rw [get_bang s i hi]; unfold inByte; simp; omega) _ ⟨rfl, rfl, rfl, rfl, rfl⟩
theorem ao_out {w : World} {s b : ByteArray} (a : Act) (hz : SO (.string s) (.string b) (.int .i64 s.size) a) (Q : Exit → Act → World → Prop)
    (hQ : ∀ a', SO (.string s) (.string b) (.int .i64 s.size) a' → Q (.exit 0) a' w) : aoLoop.wp Tryd.prog Q a w := by
  obtain ⟨x, rfl⟩ := hz.lit
  clear hz
  simp only [aoLoop, aoBody, bodyOf, Tryd.f32, Option.getD, blkOf, loopOf, cond, Nat.beq]
  have hlt : ¬ ((s.size : Int) < (s.size : Int)) := by omega
  go_wp2_with fail
  exact ⟨rfl, rfl, rfl, rfl, rfl⟩
theorem ao_loop {w : World} {s b : ByteArray} (hs : s.size ≤ 1000000) (Q : Exit → Act → World → Prop) : ∀ (d i : Nat) (a : Act), i + d = s.size → SO (.string s) (.string b) (.int .i64 i) a →
      (allN s b d i = true → ∀ a, SO (.string s) (.string b) (.int .i64 s.size) a → Q .normal a w) →
      (allN s b d i = false → ∀ a, a.defers = [] → a.tmps[4]? = some (.bool false) → Q .ret a w) →
      Code.rounds Tryd.prog aoLoop (Exit.inBlock 0 Q) (d + 1) a w
  | 0, i, a, hi, hz, h1, h2 => by
    have hi : i = s.size := by omega
    subst hi
    rw [rounds_succ]
    exact ao_out a hz _ (fun a' z' => h1 rfl a' z')
  | d + 1, i, a, hi, hz, h1, h2 => by
    rw [rounds_succ]
    simp only [allN, if_pos (show i < s.size by omega)] at h1 h2
    refine ao_round hs (by omega) a hz _ (fun hb a' z' => ?_) (fun hb a' d0 d4 => ?_)
    · rw [if_pos hb] at h1 h2
      exact ao_loop hs Q d (i + 1) a' (by omega) z' h1 h2
    · rw [if_neg (by rw [hb]; simp)] at h2
      exact h2 rfl a' d0 d4
noncomputable abbrev aoP (n : Nat) : Code := fstC (cutTail n aoBody)
theorem ao_body : (Tryd.f32).body = some (.seq (aoP 0) (.seq (.seq (fstC (aoP 1)) (.block 0 (.loop aoLoop))) (cutTail 2 aoBody))) := by kernel_rfl
theorem ao_first {w : World} {s b : ByteArray} (B C : Code) (Q : Exit → Act → World → Prop)
    (hQ : ∀ a, SO (.string s) (.string b) (.int .i64 (0 : Nat)) a → B.wp Tryd.prog (Exit.then (fun a w => C.wp Tryd.prog Q a w) Q) a w) :
    (Code.seq (aoP 0) (.seq (.seq (fstC (aoP 1)) B) C)).wp Tryd.prog Q { tmps := #[.string s, .string b] ++ Array.replicate 18 undef, defers := [] } w := by
  simp only [aoP, fstC, aoBody, bodyOf, Tryd.f32, Option.getD, cutTail, cutN, Option.map, Array.replicate_succ, Array.replicate_zero, List.push_toArray, List.append_toArray, List.nil_append, List.cons_append]
  go_wp2_with fail
  rename_i K hK
  refine Code.wp_mono (fun e a w h => ?_) (hQ _ ⟨rfl, rfl, rfl, rfl, rfl⟩)
  cases e <;> first | exact hK _ _ h | exact h
theorem ao_last {w : World} {s b : ByteArray} {v : Value} (a : Act) (hz : SO (.string s) (.string b) v a) (Q : Exit → Act → World → Prop)
    (hQ : ∀ a', a'.defers = [] → a'.tmps[4]? = some (.bool (!s.toList.isEmpty)) → Q .ret a' w) : (cutTail 2 aoBody).wp Tryd.prog Q a w := by
  obtain ⟨x, rfl⟩ := hz.lit
  clear hz
  simp only [aoBody, bodyOf, Tryd.f32, Option.getD, cutTail, cutN, Option.map]
  go_wp2_with fail
  exact hQ _ rfl rfl
/-- allOf. -/
def allOfF (s b : ByteArray) : Bool := allN s b s.size 0 && !s.toList.isEmpty
theorem allOf_walk (w : World) (s b : ByteArray) (hs : s.size ≤ 1000000) : Calls Tryd.prog 32 #[.string s, .string b] w fun e w' => e = .returned (.bool (allOfF s b)) ∧ w' = w := by
  refine calls_of_wp Tryd.func32 ao_body ?_
  have hnt : (Tryd.f32).ntmps - (#[.string s, .string b] : Array Value).size = 18 := by kernel_rfl
  rw [hnt]
  refine ao_first _ _ _ (fun a z => ?_)
  refine wp_block (wp_loop_rounds (s.size + 1) ?_)
  refine ao_loop hs _ s.size 0 a (by omega) z (fun hf a2 z2 => ?_) (fun hf a2 d0 d4 => ?_)
  · show (cutTail 2 aoBody).wp _ _ a2 w
    exact ao_last a2 z2 _ (fun a3 d0 d4 => ⟨d0, _, one_res (k := 4) (by kernel_rfl) d4, by unfold allOfF; rw [hf]; rfl, rfl⟩)
  · exact ⟨d0, _, one_res (k := 4) (by kernel_rfl) d4, by unfold allOfF; rw [hf]; rfl, rfl⟩
end Sc
end Go.Proofs.YtogkcphobhhbdaaDoor

/- spec.valueOf walked. -/
namespace Go.Proofs.YtogkcphobhhbdaaDoor
open Go Go.RowKit Go.Lib
namespace Sc
open Ev
set_option maxRecDepth 100000

def lowHex : ByteArray := ⟨#[48, 49, 50, 51, 52, 53, 54, 55, 56, 57, 97, 98, 99, 100, 101, 102]⟩
def upHex : ByteArray := ⟨#[48, 49, 50, 51, 52, 53, 54, 55, 56, 57, 65, 66, 67, 68, 69, 70]⟩
/-- A digit's value, as valueOf finds it. -/
def hexd (x : UInt8) : Int := if Lib.indexByte lowHex.data.toList x < 0 then Lib.indexByte upHex.data.toList x else Lib.indexByte lowHex.data.toList x
def valN (s : ByteArray) (b : Int) : Nat → Nat → Int → Int
  | 0, _, acc => acc
  | n + 1, i, acc => valN s b n (i + 1) (acc * b + hexd (s.get! i))
/-- Known slots of a frame of 30. -/
structure SV6 (v0 v1 va vi : Value) (a : Act) : Prop where
  defers : a.defers = []
  size : a.tmps.size = 30
  s0 : a.tmps[0]? = some v0
  s1 : a.tmps[1]? = some v1
  s5 : a.tmps[5]? = some va
  s6 : a.tmps[6]? = some vi
theorem SV6.lit {v0 v1 va vi : Value} {a : Act} (h : SV6 v0 v1 va vi a) : ∃ x : Nat → Value, a = { tmps := #[v0, v1, x 2, x 3, x 4, va, vi, x 7, x 8, x 9, x 10, x 11, x 12, x 13, x 14, x 15, x 16, x 17, x 18, x 19, x 20, x 21, x 22, x 23, x 24, x 25, x 26, x 27, x 28, x 29], defers := [] } := by
  refine ⟨fun i => a.tmps.getD i undef, ?_⟩
  obtain ⟨t, d⟩ := a
  obtain ⟨h1, h2, k0, k1, k5, k6⟩ := h
  simp only at h1 h2 k0 k1 k5 k6
  subst h1
  have e0 : t.getD 0 undef = v0 := by rw [Array.getD_eq_getD_getElem?, k0]; rfl
  have e1 : t.getD 1 undef = v1 := by rw [Array.getD_eq_getD_getElem?, k1]; rfl
  have e5 : t.getD 5 undef = va := by rw [Array.getD_eq_getD_getElem?, k5]; rfl
  have e6 : t.getD 6 undef = vi := by rw [Array.getD_eq_getD_getElem?, k6]; rfl
  have ht := tmpsN 30 t h2
  rw [← e0, ← e1, ← e5, ← e6]
  exact congrArg (fun t => ({ tmps := t, defers := [] } : Act)) ht
theorem SV6.of {v0 v1 va vi : Value} (x : Nat → Value) : SV6 v0 v1 va vi { tmps := #[v0, v1, x 2, x 3, x 4, va, vi, x 7, x 8, x 9, x 10, x 11, x 12, x 13, x 14, x 15, x 16, x 17, x 18, x 19, x 20, x 21, x 22, x 23, x 24, x 25, x 26, x 27, x 28, x 29], defers := [] } := ⟨rfl, rfl, rfl, rfl, rfl, rfl⟩

noncomputable abbrev voBody : Code := bodyOf Tryd.f33
noncomputable abbrev voLoop : Code := loopOf (blkOf voBody 0)
theorem vo_round {w : World} {s : ByteArray} {i : Nat} {b acc : Int} (hs : s.size ≤ 1000000) (hi : i < s.size) (hb : 0 ≤ b ∧ b ≤ 16) (hacc : 0 ≤ acc ∧ acc * b ≤ 4294967296) (hd : 0 ≤ hexd (s.get! i) ∧ hexd (s.get! i) ≤ 15)
    (a : Act) (hz : SV6 (.string s) (.int .i64 b) (.int .i64 acc) (.int .i64 i) a) (Q : Exit → Act → World → Prop)
    (h1 : ∀ a', SV6 (.string s) (.int .i64 b) (.int .i64 (acc * b + hexd (s.get! i))) (.int .i64 (i + 1 : Nat)) a' → Q .normal a' w) : voLoop.wp Tryd.prog Q a w := by
  obtain ⟨x, rfl⟩ := hz.lit
  clear hz
  have hi0 : (0 : Int) ≤ (i : Int) := by omega
  have hi1 : (i : Int) < (s.size : Int) := by omega
  have hm0 : 0 ≤ acc * b := Int.mul_nonneg hacc.1 hb.1
  have hm : IntKind.i64.wrap (acc * b) = acc * b := i64_small (by omega) (by omega)
  rw [get_bang s i hi] at hd h1
  have hI := fun c => indexByte_walk w lowHex c
  have hJ := fun c => indexByte_walk w upHex c
  have e1 : lowHex = ⟨#[48, 49, 50, 51, 52, 53, 54, 55, 56, 57, 97, 98, 99, 100, 101, 102]⟩ := rfl
  have e2 : upHex = ⟨#[48, 49, 50, 51, 52, 53, 54, 55, 56, 57, 65, 66, 67, 68, 69, 70]⟩ := rfl
  have hw : ∀ d, 0 ≤ d → d ≤ 15 → IntKind.i64.wrap (acc * b + d) = acc * b + d := fun d h0 h1 => i64_small (by omega) (by omega)
  unfold hexd at hd h1
  generalize hlo : Lib.indexByte lowHex.data.toList s[i] = lo at hd h1
  generalize hup : Lib.indexByte upHex.data.toList s[i] = up at hd h1
  have hI' : ∀ w, Calls Tryd.prog 18 #[.string ⟨#[48, 49, 50, 51, 52, 53, 54, 55, 56, 57, 97, 98, 99, 100, 101, 102]⟩, .int .u8 (s[i].toNat : Nat)] w fun e w' => e = .returned (.int .i64 lo) ∧ w' = w := fun w => by
    have := indexByte_walk w lowHex (s[i].toNat : Nat)
    rw [show ((s[i].toNat : Nat) : Int).toNat.toUInt8 = s[i] by simp, hlo] at this
    exact this
  have hJ' : ∀ w, Calls Tryd.prog 18 #[.string ⟨#[48, 49, 50, 51, 52, 53, 54, 55, 56, 57, 65, 66, 67, 68, 69, 70]⟩, .int .u8 (s[i].toNat : Nat)] w fun e w' => e = .returned (.int .i64 up) ∧ w' = w := fun w => by
    have := indexByte_walk w upHex (s[i].toNat : Nat)
    rw [show ((s[i].toNat : Nat) : Int).toNat.toUInt8 = s[i] by simp, hup] at this
    exact this
  clear hI hJ e1 e2 hlo hup
  by_cases hl : lo < 0
  · rw [if_pos hl] at hd h1
    have hwd := hw up hd.1 hd.2
    simp only [voLoop, voBody, bodyOf, Tryd.f33, Option.getD, blkOf, loopOf, cond, Nat.beq]
    go_wp2_with (first
      | (go_at_call 18; refine (hI' _).mono ?_; rintro en w2 ⟨rfl, rfl⟩)
      | (go_at_call 18; refine (hJ' _).mono ?_; rintro en w2 ⟨rfl, rfl⟩))
    exact ⟨rfl, rfl, rfl, rfl, rfl, rfl⟩
  · rw [if_neg hl] at hd h1
    have hwd := hw lo hd.1 hd.2
    simp only [voLoop, voBody, bodyOf, Tryd.f33, Option.getD, blkOf, loopOf, cond, Nat.beq]
    go_wp2_with (go_at_call 18; refine (hI' _).mono ?_; rintro en w2 ⟨rfl, rfl⟩)
    exact ⟨rfl, rfl, rfl, rfl, rfl, rfl⟩
theorem vo_out {w : World} {s : ByteArray} {v1 va : Value} (a : Act) (hz : SV6 (.string s) v1 va (.int .i64 s.size) a) (Q : Exit → Act → World → Prop)
    (hQ : ∀ a', SV6 (.string s) v1 va (.int .i64 s.size) a' → Q (.exit 0) a' w) : voLoop.wp Tryd.prog Q a w := by
  obtain ⟨x, rfl⟩ := hz.lit
  clear hz
  simp only [voLoop, voBody, bodyOf, Tryd.f33, Option.getD, blkOf, loopOf, cond, Nat.beq]
  have hlt : ¬ ((s.size : Int) < (s.size : Int)) := by omega
  go_wp2_with fail
  exact ⟨rfl, rfl, rfl, rfl, rfl, rfl⟩
theorem vo_loop {w : World} {s : ByteArray} {b : Int} (hs : s.size ≤ 8) (hb : 0 ≤ b ∧ b ≤ 16) (hd : ∀ j, j < s.size → 0 ≤ hexd (s.get! j) ∧ hexd (s.get! j) ≤ 15) (Q : Exit → Act → World → Prop) :
    ∀ (d i : Nat) (acc : Int) (a : Act), i + d = s.size → 0 ≤ acc → acc + 1 ≤ 16 ^ i → SV6 (.string s) (.int .i64 b) (.int .i64 acc) (.int .i64 i) a →
      (∀ a, SV6 (.string s) (.int .i64 b) (.int .i64 (valN s b d i acc)) (.int .i64 s.size) a → Q .normal a w) →
      Code.rounds Tryd.prog voLoop (Exit.inBlock 0 Q) (d + 1) a w
  | 0, i, acc, a, hi, h0, ha, hz, h1 => by
    have hi : i = s.size := by omega
    subst hi
    rw [rounds_succ]
    exact vo_out a hz _ (fun a' z' => h1 a' z')
  | d + 1, i, acc, a, hi, h0, ha, hz, h1 => by
    rw [rounds_succ]
    have hlt : i < s.size := by omega
    obtain ⟨d0, d1⟩ := hd i hlt
    have hp : (16 : Int) ^ (i + 1) = 16 ^ i * 16 := Int.pow_succ ..
    have hp8 : (16 : Int) ^ (i + 1) ≤ 4294967296 := by
      have h2 : i + 1 ≤ 8 := by omega
      have : ∀ k : Nat, k ≤ 8 → (16 : Int) ^ k ≤ 4294967296 := by decide
      exact this _ h2
    have hm : acc * b ≤ acc * 16 := Int.mul_le_mul_of_nonneg_left hb.2 h0
    have hm0 : 0 ≤ acc * b := Int.mul_nonneg h0 hb.1
    refine vo_round (by omega) hlt hb ⟨h0, by omega⟩ ⟨d0, d1⟩ a hz _ (fun a' z' => ?_)
    exact vo_loop hs hb hd Q d (i + 1) _ a' (by omega) (by omega) (by omega) z' h1
noncomputable abbrev voP (n : Nat) : Code := fstC (cutTail n voBody)
theorem vo_body : (Tryd.f33).body = some (.seq (voP 0) (.seq (voP 1) (.seq (.seq (fstC (voP 2)) (.block 0 (.loop voLoop))) (cutTail 3 voBody)))) := by kernel_rfl
theorem vo_first {w : World} {s : ByteArray} {b : Int} (B C : Code) (Q : Exit → Act → World → Prop)
    (hQ : ∀ a, SV6 (.string s) (.int .i64 b) (.int .i64 0) (.int .i64 (0 : Nat)) a → B.wp Tryd.prog (Exit.then (fun a w => C.wp Tryd.prog Q a w) Q) a w) :
    (Code.seq (voP 0) (.seq (voP 1) (.seq (.seq (fstC (voP 2)) B) C))).wp Tryd.prog Q { tmps := #[.string s, .int .i64 b] ++ Array.replicate 28 undef, defers := [] } w := by
  simp only [voP, fstC, voBody, bodyOf, Tryd.f33, Option.getD, cutTail, cutN, Option.map, Array.replicate_succ, Array.replicate_zero, List.push_toArray, List.append_toArray, List.nil_append, List.cons_append]
  go_wp2_with fail
  rename_i K hK
  refine Code.wp_mono (fun e a w h => ?_) (hQ _ ⟨rfl, rfl, rfl, rfl, rfl, rfl⟩)
  cases e <;> first | exact hK _ _ h | exact h
theorem vo_last {w : World} {v0 v1 vi : Value} {x : Int} (a : Act) (hz : SV6 v0 v1 (.int .i64 x) vi a) (Q : Exit → Act → World → Prop)
    (hQ : ∀ a', a'.defers = [] → a'.tmps[4]? = some (.int .i64 x) → Q .ret a' w) : (cutTail 3 voBody).wp Tryd.prog Q a w := by
  obtain ⟨x, rfl⟩ := hz.lit
  clear hz
  simp only [voBody, bodyOf, Tryd.f33, Option.getD, cutTail, cutN, Option.map]
  go_wp2_with fail
  exact hQ _ rfl rfl
theorem valueOf_walk (w : World) (s : ByteArray) (b : Int) (hs : s.size ≤ 8) (hb : 0 ≤ b ∧ b ≤ 16) (hd : ∀ j, j < s.size → 0 ≤ hexd (s.get! j) ∧ hexd (s.get! j) ≤ 15) :
    Calls Tryd.prog 33 #[.string s, .int .i64 b] w fun e w' => e = .returned (.int .i64 (valN s b s.size 0 0)) ∧ w' = w := by
  refine calls_of_wp Tryd.func33 vo_body ?_
  have hnt : (Tryd.f33).ntmps - (#[.string s, .int .i64 b] : Array Value).size = 28 := by kernel_rfl
  rw [hnt]
  refine vo_first _ _ _ (fun a z => ?_)
  refine wp_block (wp_loop_rounds (s.size + 1) ?_)
  refine vo_loop hs hb hd _ s.size 0 0 a (by omega) (by decide) (by decide) z (fun a2 z2 => ?_)
  show (cutTail 3 voBody).wp _ _ a2 w
  exact vo_last a2 z2 _ (fun a3 d0 d4 => ⟨d0, _, one_res (k := 4) (by kernel_rfl) d4, rfl, rfl⟩)
end Sc
end Go.Proofs.YtogkcphobhhbdaaDoor

/- Plain: escapes. -/
namespace Go.Proofs.YtogkcphobhhbdaaDoor
open Go Go.RowKit Go.Lib
namespace Sc
open Ev
set_option maxRecDepth 100000

/-- A digit's value; 99: none. -/
def digv (c : Int) : Int := if 48 ≤ c ∧ c ≤ 57 then c - 48 else if 97 ≤ c ∧ c ≤ 102 then c - 87 else if 65 ≤ c ∧ c ≤ 70 then c - 55 else 99
theorem lower_big {c : Int} (h0 : 128 ≤ c) (h1 : c ≤ 1114111) : 128 ≤ lowerF c := by
  obtain ⟨n, rfl⟩ := Int.eq_ofNat_of_zero_le (show 0 ≤ c by omega)
  have hn : n < 2 ^ 31 := by omega
  have := (bits_nat .i32 31 (by decide) (fun n h0 h1 => wraps_i32 n h0 h1) 32 n (by decide) hn).2
  have e : lowerF (n : Int) = ((32 ||| n : Nat) : Int) := this
  rw [e]
  have : n ≤ 32 ||| n := Nat.right_le_or
  omega
theorem digit_tab : ((List.range 128).all fun n => digitOf 16 (n : Nat) == (if digv (n : Nat) = 99 then 16 else digv (n : Nat)) && (digitOf 8 (n : Nat) == (if digv (n : Nat) = 99 then 8 else digv (n : Nat)))) = true := by kernel_rfl
theorem digit_of {b c : Int} (hb : b = 8 ∨ b = 16) (h0 : 0 ≤ c) (h1 : c ≤ 1114111) : digitOf b c = if digv c = 99 then b else digv c := by
  by_cases h : c < 128
  · have := List.all_eq_true.1 digit_tab c.toNat (List.mem_range.2 (by omega))
    rw [show ((c.toNat : Nat) : Int) = c by omega] at this
    simp only [Bool.and_eq_true, beq_iff_eq] at this
    rcases hb with rfl | rfl
    · exact this.2
    · exact this.1
  · have hl := lower_big (c := c) (by omega) h1
    have e1 : isDecimalF c = false := by unfold isDecimalF; simp; omega
    have e2 : digv c = 99 := by unfold digv; rw [if_neg (by omega), if_neg (by omega), if_neg (by omega)]
    unfold digitOf
    rw [if_neg (by simp [e1]), if_neg (by omega), e2, if_pos rfl]
theorem digv_in (c : Int) : (0 ≤ digv c ∧ digv c ≤ 15 ∧ 48 ≤ c ∧ c ≤ 102) ∨ digv c = 99 := by
  unfold digv
  split
  · left; omega
  · split
    · left; omega
    · split
      · left; omega
      · right; rfl
theorem digit_lt {b c : Int} (hb : b = 8 ∨ b = 16) (h0 : 0 ≤ c) (h1 : c ≤ 1114111) : (digitOf b c ≥ b ↔ ¬ digv c < b) ∧ (digv c < b → digitOf b c = digv c) := by
  have h := digit_of hb h0 h1
  rcases digv_in c with ⟨a1, a2, a3, a4⟩ | a
  · rw [if_neg (by omega)] at h
    rw [h]
    exact ⟨by omega, fun _ => rfl⟩
  · rw [if_pos a] at h
    rw [h, a]
    exact ⟨by omega, fun h => by omega⟩

/-! The digits of an escape. -/
theorem escLF_eq (src : ByteArray) (b : Int) (hb : b = 8 ∨ b = 16) (st : St) (x n : Int) (hn : n ≤ 8) : escLF src b (st, x, n) =
    if n > 0 then (if st.ch < 0 then (st, 0, some true) else if digitOf b st.ch ≥ b then (error msgEscChar st, 0, some false) else escLF src b (nextch src st, IntKind.u32.wrap (IntKind.u32.wrap (x * b) + digitOf b st.ch), IntKind.i64.wrap (n - 1))) else (st, x, none) := by
  unfold escLF
  rw [runF_step (I := escI b) (fun a ha => sat_mono (escB_on src b a ha) (fun s hs => by
    cases s with
    | go a' => exact hs
    | out q => trivial)) ⟨hb, hn⟩ (.out (st0, 0, none))]
  unfold escB
  by_cases h1 : n > 0
  · by_cases h2 : st.ch < 0
    · simp [Tree.get, stepF, h1, h2]
    · by_cases h3 : digitOf b st.ch ≥ b
      · simp [Tree.get, stepF, h1, h2, h3]
      · simp [Tree.get, stepF, h1, h2, h3]
  · simp [Tree.get, stepF, h1]
/-- The first n are digits: their value, and what follows them. -/
def takeDig (b : Int) : Nat → Int → List Int → Option (Int × List Int)
  | 0, x, cs => some (x, cs)
  | n + 1, x, [] => none
  | n + 1, x, c :: cs => if digv c < b then takeDig b n (x * b + digv c) cs else none
theorem pow_step {b x d : Int} {n : Nat} (hb : 0 ≤ b) (hd : d < b) (h : (x + 1) * b ^ (n + 1) ≤ 4294967296) : (x * b + d + 1) * b ^ n ≤ 4294967296 := by
  have h1 : (x * b + d + 1) ≤ (x + 1) * b := by rw [Int.add_mul]; omega
  have h2 : (x * b + d + 1) * b ^ n ≤ (x + 1) * b * b ^ n := Int.mul_le_mul_of_nonneg_right h1 (Int.pow_nonneg hb)
  have h3 : (x + 1) * b * b ^ n = (x + 1) * b ^ (n + 1) := by rw [Int.mul_assoc, Int.pow_succ, Int.mul_comm b]
  omega
theorem pow_one {b x : Int} {n : Nat} (hb : 1 ≤ b) (hx : 0 ≤ x) (h : (x + 1) * b ^ n ≤ 4294967296) : x < 4294967296 := by
  have h1 : 0 < b ^ n := Int.pow_pos (by omega)
  have h2 : (x + 1) * 1 ≤ (x + 1) * b ^ n := Int.mul_le_mul_of_nonneg_left h1 (by omega)
  omega
theorem u32_small {x : Int} (h0 : 0 ≤ x) (h1 : x < 4294967296) : IntKind.u32.wrap x = x := by rw [IntKind.wrap_u32]; omega
/-- Digits that are there. -/
theorem esc_dig {src : ByteArray} {b : Int} (hb : b = 8 ∨ b = 16) : ∀ (n : Nat) (cs r : List Int) (x v : Int) (p q : Nat) (st : St), n ≤ 8 → takeDig b n x cs = some (v, r) → 0 ≤ x → (x + 1) * b ^ n ≤ 4294967296 → Cl src p cs q → Cln src q → Std src p st →
    ∃ p' st', escLF src b (st, x, n) = (st', v, none) ∧ Std src p' st' ∧ Cl src p' r q ∧ Sil src st st' ∧ 0 ≤ v ∧ p' = p + n := by
  intro n
  induction n with
  | zero =>
    intro cs r x v p q st hn ht hx hp hc hq hst
    simp only [takeDig, Option.some.injEq, Prod.mk.injEq] at ht
    obtain ⟨rfl, rfl⟩ := ht
    rw [escLF_eq src b hb _ _ _ (by omega), if_neg (by omega)]
    exact ⟨p, st, rfl, hst, hc, Sil.refl _ _, hx, rfl⟩
  | succ n ih =>
    intro cs r x v p q st hn ht hx hp hc hq hst
    cases cs with
    | nil => simp [takeDig] at ht
    | cons c cs =>
      simp only [takeDig] at ht
      by_cases hd : digv c < b
      · rw [if_pos hd] at ht
        cases hc with
        | @cons _ w _ _ _ h1 h2 =>
          obtain ⟨e1, e2⟩ := hst.of h1
          have hw := h1.w
          have hdi : 0 ≤ digv c ∧ digv c ≤ 15 ∧ 48 ≤ c ∧ c ≤ 102 := by
            rcases digv_in c with h | h
            · exact h
            · omega
          have hw1 : w = 1 := (h1.byte (by omega)).2
          subst hw1
          have hl := digit_lt hb (c := c) (by omega) (by omega)
          have hn' := std_next hst (by rw [e2]; exact h2.cln hq)
          have hs' := sil_next hst (by rw [e2]; exact h2.cln hq)
          rw [e2] at hn'
          have hb1 : (1 : Int) ≤ b := by omega
          have k1 := pow_step (b := b) (x := x) (d := digv c) (n := n) (by omega) hd hp
          have hxb : 0 ≤ x * b := Int.mul_nonneg hx (by omega)
          have k2 := pow_one (b := b) (x := x * b + digv c) (n := n) hb1 (by omega) k1
          have w1 : IntKind.u32.wrap (IntKind.u32.wrap (x * b) + digitOf b c) = x * b + digv c := by
            rw [hl.2 hd, u32_small hxb (by omega), u32_small (by omega) k2]
          have w2 : IntKind.i64.wrap (((n + 1 : Nat) : Int) - 1) = (n : Int) := by rw [show ((n + 1 : Nat) : Int) - 1 = (n : Int) by omega]; exact i64_small (by omega) (by omega)
          obtain ⟨p', st', g1, g2, g3, g4, g5, g6⟩ := ih cs r _ v (p + 1) q (nextch src st) (by omega) ht (by omega) k1 h2 hq hn'.1
          refine ⟨p', st', ?_, g2, g3, hs'.trans g4, g5, by omega⟩
          rw [escLF_eq src b hb _ _ _ (by omega), if_pos (by omega), e1, if_neg (by omega), if_neg (by rw [hl.1]; omega), w1, w2]
          exact g1
      · rw [if_neg hd] at ht; cases ht
theorem takeDig_none (b : Int) : ∀ (n : Nat) (cs : List Int) (x y : Int), takeDig b n x cs = none → takeDig b n y cs = none
  | 0, cs, x, y, h => by simp [takeDig] at h
  | n + 1, [], x, y, h => rfl
  | n + 1, c :: cs, x, y, h => by
    simp only [takeDig] at h ⊢
    split
    · rename_i hd
      rw [if_pos hd] at h
      exact takeDig_none b n cs _ _ h
    · rfl
/-- A digit that is none is told. -/
theorem esc_nodig {src : ByteArray} {b : Int} (hb : b = 8 ∨ b = 16) : ∀ (n : Nat) (cs : List Int) (x : Int) (p q : Nat) (st : St) (e : Int) (we : Nat), n ≤ 8 → takeDig b n x cs = none → Cl src p cs q → ChAt src q e we → ¬ digv e < b → Std src p st →
    st.notes.length < (escLF src b (st, x, n)).1.notes.length ∧ (escLF src b (st, x, n)).2.2 = some false := by
  intro n
  induction n with
  | zero => intro cs x p q st e we hn ht; simp [takeDig] at ht
  | succ n ih =>
    intro cs x p q st e we hn ht hc he hne hst
    have key : ∀ c, st.ch = c → 0 ≤ c → c ≤ 1114111 → ¬ digv c < b → st.notes.length < (escLF src b (st, x, (n + 1 : Nat))).1.notes.length ∧ (escLF src b (st, x, (n + 1 : Nat))).2.2 = some false := fun c e1 h0 h1 hd => by
      have hl := digit_lt hb (c := c) h0 h1
      rw [escLF_eq src b hb _ _ _ (by omega), if_pos (by omega), e1, if_neg (by omega), if_pos (by rw [hl.1]; exact hd)]
      exact ⟨by show st.notes.length < (st.notes ++ [_]).length; simp, rfl⟩
    cases hc with
    | nil =>
      obtain ⟨e1, e2⟩ := hst.of he
      have := he.w
      exact key e e1 (by omega) (by omega) hne
    | @cons _ w _ c cs h1 h2 =>
      obtain ⟨e1, e2⟩ := hst.of h1
      have hw := h1.w
      simp only [takeDig] at ht
      by_cases hd : digv c < b
      · rw [if_pos hd] at ht
        have hdi : 0 ≤ digv c ∧ digv c ≤ 15 ∧ 48 ≤ c ∧ c ≤ 102 := by
          rcases digv_in c with h | h
          · exact h
          · omega
        have hl := digit_lt hb (c := c) (by omega) (by omega)
        have hn' := std_next hst (by rw [e2]; exact h2.cln (.inl ⟨_, _, he⟩))
        rw [e2] at hn'
        have w2 : IntKind.i64.wrap (((n + 1 : Nat) : Int) - 1) = (n : Int) := by rw [show ((n + 1 : Nat) : Int) - 1 = (n : Int) by omega]; exact i64_small (by omega) (by omega)
        rw [escLF_eq src b hb _ _ _ (by omega), if_pos (by omega), e1, if_neg (by omega), if_neg (by rw [hl.1]; omega), w2]
        have hx : ∀ x' x'', takeDig b n x' cs = none → takeDig b n x'' cs = none := fun x' x'' h => takeDig_none b n cs x' x'' h
        have := ih cs (IntKind.u32.wrap (IntKind.u32.wrap (x * b) + digitOf b c)) (p + w) q (nextch src st) e we (by omega) (hx _ _ ht) h2 he hne hn'.1
        rw [hn'.2] at this
        exact this
      · exact key c e1 (by omega) (by omega) hd
end Sc
end Go.Proofs.YtogkcphobhhbdaaDoor

/- Plain: escapes, whole. -/
namespace Go.Proofs.YtogkcphobhhbdaaDoor
open Go Go.RowKit Go.Lib
namespace Sc
open Ev
set_option maxRecDepth 100000

def simpE (q c : Int) : Bool := [c == q, c == 97, c == 98, c == 102, c == 110, c == 114, c == 116, c == 118, c == 92].any id
def octE (c : Int) : Bool := [c == 48, c == 49, c == 50, c == 51, c == 52, c == 53, c == 54, c == 55].any id
def noPoint (v : Int) : Prop := v > 1114111 ∨ (55296 ≤ v ∧ v < 57344)
instance (v : Int) : Decidable (noPoint v) := by unfold noPoint; infer_instance
/-- What stands behind the escape with which these begin (a backslash stands ahead); none where it is no escape. -/
def escC (q : Int) : List Int → Option (List Int)
  | [] => none
  | c :: cs =>
    if simpE q c = true then some cs
    else if octE c = true then (takeDig 8 3 0 (c :: cs)).bind fun r => if r.1 > 255 then none else some r.2
    else if c = 120 then (takeDig 16 2 0 cs).bind fun r => some r.2
    else if c = 117 then (takeDig 16 4 0 cs).bind fun r => if noPoint r.1 then none else some r.2
    else if c = 85 then (takeDig 16 8 0 cs).bind fun r => if noPoint r.1 then none else some r.2
    else none
theorem takeDig_le {b : Int} (hb : 1 ≤ b) : ∀ (n : Nat) (cs r : List Int) (x v : Int), takeDig b n x cs = some (v, r) → v + 1 ≤ (x + 1) * b ^ n
  | 0, cs, r, x, v, h => by
    simp only [takeDig, Option.some.injEq, Prod.mk.injEq] at h
    rw [← h.1, Int.pow_zero]; omega
  | n + 1, [], r, x, v, h => by simp [takeDig] at h
  | n + 1, c :: cs, r, x, v, h => by
    simp only [takeDig] at h
    split at h
    · rename_i hd
      have h1 := takeDig_le hb n cs r _ v h
      have h2 : (x * b + digv c + 1) ≤ (x + 1) * b := by rw [Int.add_mul]; omega
      have h3 : (x * b + digv c + 1) * b ^ n ≤ (x + 1) * b * b ^ n := Int.mul_le_mul_of_nonneg_right h2 (Int.pow_nonneg (by omega))
      have h4 : (x + 1) * b * b ^ n = (x + 1) * b ^ (n + 1) := by rw [Int.mul_assoc, Int.pow_succ, Int.mul_comm b]
      omega
    · cases h
theorem oct_in {c : Int} (h : octE c = true) : 48 ≤ c ∧ c ≤ 55 := by
  simp [octE] at h
  omega
theorem simp_in {q c : Int} (h : simpE q c = true) : c = q ∨ c = 97 ∨ c = 98 ∨ c = 102 ∨ c = 110 ∨ c = 114 ∨ c = 116 ∨ c = 118 ∨ c = 92 := by
  simpa [simpE, or_assoc] using h
theorem error_len (m : ByteArray) (st : St) : (error m st).notes.length = st.notes.length + 1 := by
  show (st.notes ++ [_]).length = _
  simp
/-- What an escape's tail comes to, the digits being there. -/
theorem tail_ok {b m v : Int} {st : St} : escTail b m (st, v, none) = if (v > m ∧ b = 8) then (false, error msgOct st) else if (v > m ∨ (55296 ≤ v ∧ v < 57344)) then (false, error msgPoint st) else (true, st) := rfl
theorem esc_some {src : ByteArray} {q : Int} {cs r : List Int} (h : escC q cs = some r) {p e : Nat} {st : St} (hc : Cl src p cs e) (he : Cln src e) (hst : Std src p st) :
    ∃ p' st', escapeF src q st = (true, st') ∧ Std src p' st' ∧ Cl src p' r e ∧ Sil src st st' := by
  cases hc with
  | nil => cases h
  | @cons _ w _ c cs h1 h2 =>
    obtain ⟨e1, e2⟩ := hst.of h1
    have hw := h1.w
    have hn := std_next hst (by rw [e2]; exact h2.cln he)
    have hs := sil_next hst (by rw [e2]; exact h2.cln he)
    rw [e2] at hn
    simp only [escC] at h
    unfold escapeF
    rw [e1]
    by_cases k1 : simpE q c = true
    · rw [if_pos k1] at h
      have k1' := k1
      unfold simpE at k1'
      rw [if_pos k1']
      cases h
      exact ⟨_, _, rfl, hn.1, h2, hs⟩
    rw [if_neg k1] at h
    have k1' : ¬ [c == q, c == 97, c == 98, c == 102, c == 110, c == 114, c == 116, c == 118, c == 92].any id = true := k1
    rw [if_neg k1']
    by_cases k2 : octE c = true
    · rw [if_pos k2] at h
      have k2' := k2
      unfold octE at k2'
      rw [if_pos k2']
      cases ht : takeDig 8 3 0 (c :: cs) with
      | none => rw [ht] at h; cases h
      | some vr =>
        obtain ⟨v, r'⟩ := vr
        rw [ht] at h
        simp only [Option.bind_some] at h
        by_cases k3 : v > 255
        · rw [if_pos k3] at h; cases h
        · rw [if_neg k3] at h
          cases h
          obtain ⟨p', st', g1, g2, g3, g4, g5, g6⟩ := esc_dig (.inl rfl) 3 _ _ 0 v p e st (by decide) ht (by decide) (by decide) (.cons h1 h2) he hst
          have g1' : escLF src 8 (st, 0, 3) = (st', v, none) := g1
          rw [g1', tail_ok, if_neg (by omega), if_neg (by omega)]
          exact ⟨p', st', rfl, g2, g3, g4⟩
    rw [if_neg k2] at h
    have k2' : ¬ [c == 48, c == 49, c == 50, c == 51, c == 52, c == 53, c == 54, c == 55].any id = true := k2
    rw [if_neg k2']
    by_cases k3 : c = 120
    · rw [if_pos k3] at h
      rw [if_pos k3]
      cases ht : takeDig 16 2 0 cs with
      | none => rw [ht] at h; cases h
      | some vr =>
        obtain ⟨v, r'⟩ := vr
        rw [ht] at h
        simp only [Option.bind_some, Option.some.injEq] at h
        subst h
        have hv := takeDig_le (b := 16) (by decide) 2 _ _ _ _ ht
        have e3 : ((0 : Int) + 1) * 16 ^ 2 = 256 := by decide
        obtain ⟨p', st', g1, g2, g3, g4, g5, g6⟩ := esc_dig (.inr rfl) 2 _ _ 0 v _ e _ (by decide) ht (by decide) (by decide) h2 he hn.1
        have g1' : escLF src 16 (nextch src st, 0, 2) = (st', v, none) := g1
        rw [g1', tail_ok, if_neg (by omega), if_neg (by omega)]
        exact ⟨p', st', rfl, g2, g3, hs.trans g4⟩
    rw [if_neg k3] at h
    rw [if_neg k3]
    by_cases k4 : c = 117
    · rw [if_pos k4] at h
      rw [if_pos k4]
      cases ht : takeDig 16 4 0 cs with
      | none => rw [ht] at h; cases h
      | some vr =>
        obtain ⟨v, r'⟩ := vr
        rw [ht] at h
        simp only [Option.bind_some] at h
        by_cases k6 : noPoint v
        · rw [if_pos k6] at h; cases h
        · rw [if_neg k6] at h
          cases h
          unfold noPoint at k6
          obtain ⟨p', st', g1, g2, g3, g4, g5, g6⟩ := esc_dig (.inr rfl) 4 _ _ 0 v _ e _ (by decide) ht (by decide) (by decide) h2 he hn.1
          have g1' : escLF src 16 (nextch src st, 0, 4) = (st', v, none) := g1
          rw [g1', tail_ok, if_neg (by omega), if_neg (by omega)]
          exact ⟨p', st', rfl, g2, g3, hs.trans g4⟩
    rw [if_neg k4] at h
    rw [if_neg k4]
    by_cases k5 : c = 85
    · rw [if_pos k5] at h
      rw [if_pos k5]
      cases ht : takeDig 16 8 0 cs with
      | none => rw [ht] at h; cases h
      | some vr =>
        obtain ⟨v, r'⟩ := vr
        rw [ht] at h
        simp only [Option.bind_some] at h
        by_cases k6 : noPoint v
        · rw [if_pos k6] at h; cases h
        · rw [if_neg k6] at h
          cases h
          unfold noPoint at k6
          obtain ⟨p', st', g1, g2, g3, g4, g5, g6⟩ := esc_dig (.inr rfl) 8 _ _ 0 v _ e _ (by decide) ht (by decide) (by decide) h2 he hn.1
          have g1' : escLF src 16 (nextch src st, 0, 8) = (st', v, none) := g1
          rw [g1', tail_ok, if_neg (by omega), if_neg (by omega)]
          exact ⟨p', st', rfl, g2, g3, hs.trans g4⟩
    rw [if_neg k5] at h
    cases h
theorem tail_none {src : ByteArray} {b m : Int} {n : Nat} {cs : List Int} (hb : b = 8 ∨ b = 16) (hn : n ≤ 8) (hp : ((0 : Int) + 1) * b ^ n ≤ 4294967296) {p e : Nat} {st : St} {x : Int} {we : Nat} (hc : Cl src p cs e) (he : ChAt src e x we) (hx : ¬ digv x < b) (hst : Std src p st)
    (h : ∀ v r, takeDig b n 0 cs = some (v, r) → v > m ∨ (55296 ≤ v ∧ v < 57344)) : st.notes.length < (escTail b m (escLF src b (st, 0, (n : Int)))).2.notes.length := by
  cases ht : takeDig b n 0 cs with
  | none =>
    obtain ⟨g1, g2⟩ := esc_nodig hb n cs 0 p e st x we hn ht hc he hx hst
    unfold escTail
    rw [g2]
    exact g1
  | some vr =>
    obtain ⟨v, r⟩ := vr
    obtain ⟨p', st', g1, g2, g3, g4, g5, g6⟩ := esc_dig hb n _ _ 0 v p e st hn ht (by decide) hp hc (.inl ⟨_, _, he⟩) hst
    rw [g1, tail_ok]
    have := h v r ht
    split
    · rw [error_len, g4.notes]; omega
    · show st.notes.length < (error _ st').notes.length
      rw [error_len, g4.notes]; omega
theorem esc_none {src : ByteArray} {q : Int} {cs : List Int} (h : escC q cs = none) (hcs : cs ≠ []) {p e we : Nat} {x : Int} {st : St} (hc : Cl src p cs e) (he : ChAt src e x we) (hx : ¬ digv x < 16) (hst : Std src p st) :
    st.notes.length < (escapeF src q st).2.notes.length := by
  cases hc with
  | nil => exact absurd rfl hcs
  | @cons _ w _ c cs h1 h2 =>
    obtain ⟨e1, e2⟩ := hst.of h1
    have hw := h1.w
    have hn := std_next hst (by rw [e2]; exact h2.cln (.inl ⟨_, _, he⟩))
    rw [e2] at hn
    simp only [escC] at h
    unfold escapeF
    rw [e1]
    by_cases k1 : simpE q c = true
    · rw [if_pos k1] at h; cases h
    rw [if_neg k1] at h
    have k1' : ¬ [c == q, c == 97, c == 98, c == 102, c == 110, c == 114, c == 116, c == 118, c == 92].any id = true := k1
    rw [if_neg k1']
    by_cases k2 : octE c = true
    · rw [if_pos k2] at h
      have k2' := k2
      unfold octE at k2'
      rw [if_pos k2']
      refine tail_none (n := 3) (.inl rfl) (by decide) (by decide) (.cons h1 h2) he (by omega) hst (fun v r ht => ?_)
      rw [ht] at h
      simp only [Option.bind_some] at h
      by_cases k3 : v > 255
      · exact .inl k3
      · rw [if_neg k3] at h; cases h
    rw [if_neg k2] at h
    have k2' : ¬ [c == 48, c == 49, c == 50, c == 51, c == 52, c == 53, c == 54, c == 55].any id = true := k2
    rw [if_neg k2']
    by_cases k3 : c = 120
    · rw [if_pos k3] at h
      rw [if_pos k3, ← hn.2]
      refine tail_none (n := 2) (.inr rfl) (by decide) (by decide) h2 he hx hn.1 (fun v r ht => ?_)
      rw [ht] at h
      cases h
    rw [if_neg k3] at h
    rw [if_neg k3]
    by_cases k4 : c = 117
    · rw [if_pos k4] at h
      rw [if_pos k4, ← hn.2]
      refine tail_none (n := 4) (.inr rfl) (by decide) (by decide) h2 he hx hn.1 (fun v r ht => ?_)
      rw [ht] at h
      simp only [Option.bind_some] at h
      by_cases k6 : noPoint v
      · exact k6
      · rw [if_neg k6] at h; cases h
    rw [if_neg k4] at h
    rw [if_neg k4]
    by_cases k5 : c = 85
    · rw [if_pos k5] at h
      rw [if_pos k5, ← hn.2]
      refine tail_none (n := 8) (.inr rfl) (by decide) (by decide) h2 he hx hn.1 (fun v r ht => ?_)
      rw [ht] at h
      simp only [Option.bind_some] at h
      by_cases k6 : noPoint v
      · exact k6
      · rw [if_neg k6] at h; cases h
    rw [if_neg k5, if_neg (by omega)]
    rw [error_len]; omega
end Sc
end Go.Proofs.YtogkcphobhhbdaaDoor

/- Plain: strings and runes. -/
namespace Go.Proofs.YtogkcphobhhbdaaDoor
open Go Go.RowKit Go.Lib
namespace Sc
open Ev
set_option maxRecDepth 100000

/-- What may stand between quotes: so many characters and escapes. -/
inductive Its (q : Int) : List Int → Nat → Prop
  | nil : Its q [] 0
  | ch {c : Int} {cs : List Int} {k : Nat} : c ≠ q → c ≠ 92 → c ≠ 10 → Its q cs k → Its q (c :: cs) (k + 1)
  | es {cs r : List Int} {k : Nat} : escC q cs = some r → Its q r k → Its q (92 :: cs) (k + 1)
theorem strLF_eq (src : ByteArray) (st : St) (ok : Bool) : strLF src (st, ok) =
    if st.ch = 34 then (nextch src st, ok) else if st.ch = 92 then strLF src ((escapeF src 34 (nextch src st)).2, if (escapeF src 34 (nextch src st)).1 = true then ok else false)
    else if st.ch = 10 then (error msgStrLine st, false) else if st.ch < 0 then (errorAtF 0 msgStr st, false) else strLF src (nextch src st, ok) := by
  unfold strLF
  rw [runF_step (I := fun _ => True) (fun a _ => ok_falls (strB_on src) a) trivial (.out (st0, false))]
  unfold strB
  by_cases h1 : st.ch = 34
  · simp [Tree.get, stepF, h1]
  · by_cases h2 : st.ch = 92
    · cases h3 : (escapeF src 34 (nextch src st)).1 <;> simp [Tree.get, stepF, h1, h2, h3]
    · by_cases h4 : st.ch = 10
      · simp [Tree.get, stepF, h1, h2, h4]
      · by_cases h5 : st.ch < 0
        · simp [Tree.get, stepF, h1, h2, h4, h5]
        · simp [Tree.get, stepF, h1, h2, h4, h5]
theorem str_len (src : ByteArray) (st : St) (ok : Bool) : st.notes.length ≤ (strLF src (st, ok)).1.notes.length := (ok_on (strB_on src) (st, ok)).len
/-- A string's inside, whatever follows it. -/
theorem str_loop {src : ByteArray} {cs : List Int} {k : Nat} (h : Its 34 cs k) : ∀ {p q : Nat} {st : St} (ok : Bool), Cl src p cs q → Cln src q → Std src p st →
    ∃ st', strLF src (st, ok) = strLF src (st', ok) ∧ Std src q st' ∧ Sil src st st' := by
  induction h with
  | nil =>
    intro p q st ok hc hq hst
    cases hc
    exact ⟨st, rfl, hst, Sil.refl _ _⟩
  | @ch c cs k n1 n2 n3 h ih =>
    intro p q st ok hc hq hst
    cases hc with
    | @cons _ w _ _ _ h1 h2 =>
      obtain ⟨e1, e2⟩ := hst.of h1
      have hw := h1.w
      have hn := std_next hst (by rw [e2]; exact h2.cln hq)
      have hs := sil_next hst (by rw [e2]; exact h2.cln hq)
      rw [e2] at hn
      obtain ⟨st', g1, g2, g3⟩ := ih ok h2 hq hn.1
      rw [strLF_eq, if_neg (by omega), if_neg (by omega), if_neg (by omega), if_neg (by omega)]
      exact ⟨st', g1, g2, hs.trans g3⟩
  | @es cs r k h1 h ih =>
    intro p q st ok hc hq hst
    cases hc with
    | @cons _ w _ _ _ h3 h2 =>
      obtain ⟨e1, e2⟩ := hst.of h3
      have hn := std_next hst (by rw [e2]; exact h2.cln hq)
      have hs := sil_next hst (by rw [e2]; exact h2.cln hq)
      rw [e2] at hn
      obtain ⟨p', st2, k1, k2, k3, k4⟩ := esc_some h1 h2 hq hn.1
      obtain ⟨st', g1, g2, g3⟩ := ih ok k3 hq k2
      rw [strLF_eq, if_neg (by omega), if_pos e1, k1]
      exact ⟨st', g1, g2, (hs.trans k4).trans g3⟩
theorem str_close {src : ByteArray} {cs : List Int} {k : Nat} (h : Its 34 cs k) {p q : Nat} {st : St} (ok : Bool) (hc : Cl src p cs q) (hq : ChAt src q 34 1) (hq2 : Cln src (q + 1)) (hst : Std src p st) :
    ∃ st', strLF src (st, ok) = (st', ok) ∧ Std src (q + 1) st' ∧ Sil src st st' := by
  obtain ⟨s1, g1, g2, g3⟩ := str_loop h ok hc (.inl ⟨_, _, hq⟩) hst
  obtain ⟨e1, e2⟩ := g2.of hq
  have hn := std_next g2 (by rw [e2]; exact hq2)
  have hs := sil_next g2 (by rw [e2]; exact hq2)
  rw [e2] at hn
  rw [g1, strLF_eq, if_pos e1]
  exact ⟨_, rfl, hn.1, g3.trans hs⟩
/-- A string that does not end, or a line that ends within it: that is told. -/
theorem str_open {src : ByteArray} {cs : List Int} {k : Nat} (h : Its 34 cs k) {p q : Nat} {st : St} (ok : Bool) (hc : Cl src p cs q) (hq : q = src.size ∨ ChAt src q 10 1) (hst : Std src p st) :
    st.notes.length < (strLF src (st, ok)).1.notes.length := by
  have hcl : Cln src q := by
    rcases hq with hq | hq
    · exact .inr hq
    · exact .inl ⟨_, _, hq⟩
  obtain ⟨s1, g1, g2, g3⟩ := str_loop h ok hc hcl hst
  rw [g1, strLF_eq]
  rcases hq with hq | hq
  · subst hq
    have e := g2.end.1
    rw [if_neg (by omega), if_neg (by omega), if_neg (by omega), if_pos (by omega)]
    show st.notes.length < (s1.notes ++ [_]).length
    rw [g3.notes]; simp
  · obtain ⟨e1, e2⟩ := g2.of hq
    rw [if_neg (by omega), if_neg (by omega), if_pos e1]
    show st.notes.length < (s1.notes ++ [_]).length
    rw [g3.notes]; simp
/-- A string that begins with what is no escape: that is told. -/
theorem str_bad {src : ByteArray} {cs : List Int} (h : escC 34 cs = none) (hcs : cs ≠ []) {p q : Nat} {st : St} (ok : Bool) (hc : Cl src p (92 :: cs) q) (hq : ChAt src q 34 1) (hst : Std src p st) :
    st.notes.length < (strLF src (st, ok)).1.notes.length := by
  cases hc with
  | @cons _ w _ _ _ h3 h2 =>
    obtain ⟨e1, e2⟩ := hst.of h3
    have hn := std_next hst (by rw [e2]; exact h2.cln (.inl ⟨_, _, hq⟩))
    rw [e2] at hn
    have := esc_none h hcs h2 hq (by decide) hn.1
    rw [hn.2] at this
    rw [strLF_eq, if_neg (by omega), if_pos e1]
    exact Nat.lt_of_lt_of_le this (str_len src _ _)

/-! Runes. -/
theorem rune_falls (src : ByteArray) (p : St × Bool × Int) : (runeB src p).sat (Falls (fun _ => True) (runeM src) p) :=
  sat_mono (runeB_on src p) (fun s hs => by
    cases s with
    | go a' => exact ⟨trivial, hs.2⟩
    | out q => trivial)
theorem runeLF_eq (src : ByteArray) (st : St) (n : Int) : runeLF src (st, true, n) =
    if st.ch = 39 then (if n = 0 then (nextch src (error msgRune0 st), false) else if n ≠ 1 then (nextch src (errorAtF 0 msgRune2 st), false) else (nextch src st, true))
    else if st.ch = 92 then runeLF src ((escapeF src 39 (nextch src st)).2, (if (escapeF src 39 (nextch src st)).1 = true then true else false), IntKind.i64.wrap (n + 1))
    else if st.ch = 10 then (error msgRuneLine st, false) else if st.ch < 0 then (errorAtF 0 msgRuneEnd st, false) else runeLF src (nextch src st, true, IntKind.i64.wrap (n + 1)) := by
  unfold runeLF
  rw [runF_step (I := fun _ => True) (fun a _ => rune_falls src a) trivial (.out (st0, false))]
  unfold runeB
  by_cases h1 : st.ch = 39
  · by_cases h0 : n = 0
    · simp [Tree.get, stepF, h1, h0]
    · by_cases h2 : n = 1
      · simp [Tree.get, stepF, h1, h2]
      · simp [Tree.get, stepF, h1, h0, h2]
  · by_cases h2 : st.ch = 92
    · cases h3 : (escapeF src 39 (nextch src st)).1 <;> simp [Tree.get, stepF, h1, h2, h3]
    · by_cases h4 : st.ch = 10
      · simp [Tree.get, stepF, h1, h2, h4]
      · by_cases h5 : st.ch < 0
        · simp [Tree.get, stepF, h1, h2, h4, h5]
        · simp [Tree.get, stepF, h1, h2, h4, h5]
theorem rune_loop {src : ByteArray} {cs : List Int} {k : Nat} (h : Its 39 cs k) : ∀ {p q : Nat} {st : St} (n : Nat), n + k ≤ 1000000 → Cl src p cs q → Cln src q → Std src p st →
    ∃ st', runeLF src (st, true, (n : Int)) = runeLF src (st', true, ((n + k : Nat) : Int)) ∧ Std src q st' ∧ Sil src st st' := by
  have hwrap : ∀ n : Nat, n ≤ 1000000 → IntKind.i64.wrap ((n : Int) + 1) = ((n + 1 : Nat) : Int) := fun n hn => by rw [show (n : Int) + 1 = ((n + 1 : Nat) : Int) by omega]; exact i64_small (by omega) (by omega)
  induction h with
  | nil =>
    intro p q st n hk hc hq hst
    cases hc
    exact ⟨st, rfl, hst, Sil.refl _ _⟩
  | @ch c cs k n1 n2 n3 h ih =>
    intro p q st n hk hc hq hst
    cases hc with
    | @cons _ w _ _ _ h1 h2 =>
      obtain ⟨e1, e2⟩ := hst.of h1
      have hw := h1.w
      have hn := std_next hst (by rw [e2]; exact h2.cln hq)
      have hs := sil_next hst (by rw [e2]; exact h2.cln hq)
      rw [e2] at hn
      obtain ⟨st', g1, g2, g3⟩ := ih (n + 1) (by omega) h2 hq hn.1
      rw [runeLF_eq, if_neg (by omega), if_neg (by omega), if_neg (by omega), if_neg (by omega), hwrap n (by omega)]
      exact ⟨st', by rw [g1, show n + 1 + k = n + (k + 1) by omega], g2, hs.trans g3⟩
  | @es cs r k h1 h ih =>
    intro p q st n hk hc hq hst
    cases hc with
    | @cons _ w _ _ _ h3 h2 =>
      obtain ⟨e1, e2⟩ := hst.of h3
      have hn := std_next hst (by rw [e2]; exact h2.cln hq)
      have hs := sil_next hst (by rw [e2]; exact h2.cln hq)
      rw [e2] at hn
      obtain ⟨p', st2, k1, k2, k3, k4⟩ := esc_some h1 h2 hq hn.1
      obtain ⟨st', g1, g2, g3⟩ := ih (n + 1) (by omega) k3 hq k2
      rw [runeLF_eq, if_neg (by omega), if_pos e1, k1, hwrap n (by omega)]
      exact ⟨st', by rw [if_pos rfl, g1, show n + 1 + k = n + (k + 1) by omega], g2, (hs.trans k4).trans g3⟩
theorem rune_close {src : ByteArray} {cs : List Int} (h : Its 39 cs 1) {p q : Nat} {st : St} (hc : Cl src p cs q) (hq : ChAt src q 39 1) (hq2 : Cln src (q + 1)) (hst : Std src p st) :
    ∃ st', runeLF src (st, true, 0) = (st', true) ∧ Std src (q + 1) st' ∧ Sil src st st' := by
  obtain ⟨s1, g1, g2, g3⟩ := rune_loop h 0 (by omega) hc (.inl ⟨_, _, hq⟩) hst
  obtain ⟨e1, e2⟩ := g2.of hq
  have hn := std_next g2 (by rw [e2]; exact hq2)
  have hs := sil_next g2 (by rw [e2]; exact hq2)
  rw [e2] at hn
  have g1' : runeLF src (st, true, 0) = runeLF src (s1, true, 1) := g1
  rw [g1', runeLF_eq, if_pos e1, if_neg (by omega), if_neg (by omega)]
  exact ⟨_, rfl, hn.1, g3.trans hs⟩
/-- None, or more than one, between the quotes: that is told. -/
theorem rune_many {src : ByteArray} {cs : List Int} {k : Nat} (h : Its 39 cs k) (hk : k ≠ 1) (hk2 : k ≤ 1000000) {p q : Nat} {st : St} (hc : Cl src p cs q) (hq : ChAt src q 39 1) (hst : Std src p st) :
    st.notes.length < (runeLF src (st, true, 0)).1.notes.length := by
  obtain ⟨s1, g1, g2, g3⟩ := rune_loop h 0 (by omega) hc (.inl ⟨_, _, hq⟩) hst
  obtain ⟨e1, e2⟩ := g2.of hq
  have g1' : runeLF src (st, true, 0) = runeLF src (s1, true, ((0 + k : Nat) : Int)) := g1
  rw [g1', runeLF_eq, if_pos e1]
  split
  · have h1 := (on_next src (error msgRune0 s1)).len
    have h2 : (error msgRune0 s1).notes.length = s1.notes.length + 1 := error_len _ _
    rw [g3.notes] at h2
    show st.notes.length < (nextch src (error msgRune0 s1)).notes.length
    omega
  · rw [if_pos (by omega)]
    have h1 := (on_next src (errorAtF 0 msgRune2 s1)).len
    have h2 : (errorAtF 0 msgRune2 s1).notes.length = s1.notes.length + 1 := by show (s1.notes ++ [_]).length = _; simp
    rw [g3.notes] at h2
    show st.notes.length < (nextch src (errorAtF 0 msgRune2 s1)).notes.length
    omega
theorem rune_open {src : ByteArray} {cs : List Int} {k : Nat} (h : Its 39 cs k) (hk2 : k ≤ 1000000) {p : Nat} {st : St} (hc : Cl src p cs src.size) (hst : Std src p st) :
    st.notes.length < (runeLF src (st, true, 0)).1.notes.length := by
  obtain ⟨s1, g1, g2, g3⟩ := rune_loop h 0 (by omega) hc (.inr rfl) hst
  have e := g2.end.1
  have g1' : runeLF src (st, true, 0) = runeLF src (s1, true, ((0 + k : Nat) : Int)) := g1
  rw [g1', runeLF_eq, if_neg (by omega), if_neg (by omega), if_neg (by omega), if_pos (by omega)]
  show st.notes.length < (s1.notes ++ [_]).length
  rw [g3.notes]; simp
end Sc
end Go.Proofs.YtogkcphobhhbdaaDoor

/- Plain: texts that are one string, one rune, or begin one that is none. -/
namespace Go.Proofs.YtogkcphobhhbdaaDoor
open Go Go.RowKit Go.Lib
namespace Sc
open Ev
set_option maxRecDepth 100000

/-- A literal that is all of the text. -/
theorem lit_one {src : ByteArray} {st' : St} {k : Int} (hs : src.size ≤ 2048) (h : (nextF src (stI 0)).1 = setLitF src k true st') (hst : Std src src.size st') (hb : st'.b = some 0) (hn : st'.notes = []) (h0 : 0 ≤ k) (h9 : k ≤ 9) :
    LikeAll (Sc.toks src 0) (closedF [litW src k] (litW src k)) ∧ (last src 0).notes = [] := by
  obtain ⟨s2, s3, t1, t2, t3, t4, t5⟩ := one_tok hs h (hst.same rfl rfl rfl rfl) rfl (by show (3 : Int) ≠ 1; decide) hn
  have hO : One src (setLitF src k true st') := ⟨⟨s2, s3, t1, t2, t3, t4⟩, t5⟩
  have hl : (setLitF src k true st').lit = src := by
    show seg src st' = src
    unfold seg
    rw [hb, hst.cut]
    exact ByteArray.extract_zero_size
  have hL := like_lit (s := setLitF src k true st') (k := k) rfl rfl rfl h0 h9
  rw [hl] at hL
  exact ⟨hO.like hL (ends_lit _ _), t5⟩
/-- Something is told of the text. -/
theorem told_some {src : ByteArray} (hs : src.size ≤ 2048) (h : 0 < (nextF src (stI 0)).1.notes.length) : 0 < (last src 0).notes.length := Nat.lt_of_lt_of_le h (last_len hs)
theorem first_str {src : ByteArray} (hs : src.size ≤ 2048) (hc : ChAt src 0 34 1) (hc2 : Cln src 1) : ∃ st, Std src 1 st ∧ st.b = some 0 ∧ st.notes = [] ∧ (nextF src (stI 0)).1 = setLitF src 4 (strLF src (st, true)).2 (strLF src (st, true)).1 := by
  obtain ⟨n, g1, g2, g3, g4, g5, _, g6⟩ := first_sw (m := 0) hs hc (by decide) (by decide) (by decide)
  have e1 : (swT src false n).get fin0 = .done (stdStringF src n) [] := by
    unfold swT
    simp [Tree.get, g4, swNum]
  rw [e1] at g6
  have c1 : Cln src (0 + n.chw) := by rw [g5]; exact hc2
  have n1 := std_next g1 c1
  have s1 := sil_next g1 c1
  rw [g5] at n1
  exact ⟨nextch src n, n1.1, by rw [s1.on.b]; exact g2, by rw [s1.notes, g3], g6⟩
theorem first_rune {src : ByteArray} (hs : src.size ≤ 2048) (hc : ChAt src 0 39 1) (hc2 : Cln src 1) : ∃ st, Std src 1 st ∧ st.b = some 0 ∧ st.notes = [] ∧ (nextF src (stI 0)).1 = setLitF src 3 (runeLF src (st, true, 0)).2 (runeLF src (st, true, 0)).1 := by
  obtain ⟨n, g1, g2, g3, g4, g5, _, g6⟩ := first_sw (m := 0) hs hc (by decide) (by decide) (by decide)
  have e1 : (swT src false n).get fin0 = .done (runeF src n) [] := by
    unfold swT
    simp [Tree.get, g4, swNum]
  rw [e1] at g6
  have c1 : Cln src (0 + n.chw) := by rw [g5]; exact hc2
  have n1 := std_next g1 c1
  have s1 := sil_next g1 c1
  rw [g5] at n1
  exact ⟨nextch src n, n1.1, by rw [s1.on.b]; exact g2, by rw [s1.notes, g3], g6⟩
theorem str_tok {src : ByteArray} {cs : List Int} {k q : Nat} (hs : src.size ≤ 2048) (hc : ChAt src 0 34 1) (h : Cl src 1 cs q) (hi : Its 34 cs k) (hq : ChAt src q 34 1) (he : q + 1 = src.size) :
    LikeAll (Sc.toks src 0) (closedF [litW src 4] (litW src 4)) ∧ (last src 0).notes = [] := by
  obtain ⟨st, g1, g2, g3, g4⟩ := first_str hs hc (h.cln (.inl ⟨_, _, hq⟩))
  obtain ⟨st', r1, r2, r3⟩ := str_close hi true h hq (.inr he) g1
  rw [r1] at g4
  exact lit_one hs g4 (by rw [← he]; exact r2) (by rw [r3.on.b]; exact g2) (by rw [r3.notes, g3]) (by decide) (by decide)
theorem rune_tok {src : ByteArray} {cs : List Int} {q : Nat} (hs : src.size ≤ 2048) (hc : ChAt src 0 39 1) (h : Cl src 1 cs q) (hi : Its 39 cs 1) (hq : ChAt src q 39 1) (he : q + 1 = src.size) :
    LikeAll (Sc.toks src 0) (closedF [litW src 3] (litW src 3)) ∧ (last src 0).notes = [] := by
  obtain ⟨st, g1, g2, g3, g4⟩ := first_rune hs hc (h.cln (.inl ⟨_, _, hq⟩))
  obtain ⟨st', r1, r2, r3⟩ := rune_close hi h hq (.inr he) g1
  rw [r1] at g4
  exact lit_one hs g4 (by rw [← he]; exact r2) (by rw [r3.on.b]; exact g2) (by rw [r3.notes, g3]) (by decide) (by decide)
theorem str_bad_told {src : ByteArray} {cs : List Int} {q : Nat} (hs : src.size ≤ 2048) (hc : ChAt src 0 34 1) (h : Cl src 1 (92 :: cs) q) (hi : escC 34 cs = none) (hcs : cs ≠ []) (hq : ChAt src q 34 1) : 0 < (last src 0).notes.length := by
  obtain ⟨st, g1, g2, g3, g4⟩ := first_str hs hc (h.cln (.inl ⟨_, _, hq⟩))
  have := str_bad hi hcs true h hq g1
  refine told_some hs ?_
  rw [g4]
  show 0 < (strLF src (st, true)).1.notes.length
  omega
theorem str_open_told {src : ByteArray} {cs : List Int} {k q : Nat} (hs : src.size ≤ 2048) (hc : ChAt src 0 34 1) (h : Cl src 1 cs q) (hi : Its 34 cs k) (hq : q = src.size ∨ ChAt src q 10 1) : 0 < (last src 0).notes.length := by
  have hcl : Cln src q := by
    rcases hq with hq | hq
    · exact .inr hq
    · exact .inl ⟨_, _, hq⟩
  obtain ⟨st, g1, g2, g3, g4⟩ := first_str hs hc (h.cln hcl)
  have := str_open hi true h hq g1
  refine told_some hs ?_
  rw [g4]
  show 0 < (strLF src (st, true)).1.notes.length
  omega
theorem rune_many_told {src : ByteArray} {cs : List Int} {k q : Nat} (hs : src.size ≤ 2048) (hc : ChAt src 0 39 1) (h : Cl src 1 cs q) (hi : Its 39 cs k) (hk : k ≠ 1) (hk2 : k ≤ 1000000) (hq : ChAt src q 39 1) : 0 < (last src 0).notes.length := by
  obtain ⟨st, g1, g2, g3, g4⟩ := first_rune hs hc (h.cln (.inl ⟨_, _, hq⟩))
  have := rune_many hi hk hk2 h hq g1
  refine told_some hs ?_
  rw [g4]
  show 0 < (runeLF src (st, true, 0)).1.notes.length
  omega
theorem rune_open_told {src : ByteArray} {cs : List Int} {k : Nat} (hs : src.size ≤ 2048) (hc : ChAt src 0 39 1) (h : Cl src 1 cs src.size) (hi : Its 39 cs k) (hk2 : k ≤ 1000000) : 0 < (last src 0).notes.length := by
  obtain ⟨st, g1, g2, g3, g4⟩ := first_rune hs hc (h.cln (.inr rfl))
  have := rune_open hi hk2 h g1
  refine told_some hs ?_
  rw [g4]
  show 0 < (runeLF src (st, true, 0)).1.notes.length
  omega
end Sc
end Go.Proofs.YtogkcphobhhbdaaDoor

/- spec.Escape walked: its tail. -/
namespace Go.Proofs.YtogkcphobhhbdaaDoor
open Go Go.RowKit Go.Lib
namespace Sc
open Ev
set_option maxRecDepth 100000

def octB : ByteArray := ⟨#[48, 49, 50, 51, 52, 53, 54, 55]⟩
def hexB : ByteArray := ⟨#[48, 49, 50, 51, 52, 53, 54, 55, 56, 57, 97, 98, 99, 100, 101, 102, 65, 66, 67, 68, 69, 70]⟩
/-- What Escape answers, the size, the base and the digits' place being known. -/
def escTl (s : ByteArray) (size base digits : Nat) : Int :=
  if s.size < size then 0
  else if allOfF (s.extract digits size) (if base = 8 then octB else hexB) = false then 0
  else if (base = 8 ∧ valN (s.extract digits size) base (s.extract digits size).size 0 0 > 255) ∨ (6 ≤ size ∧ noPoint (valN (s.extract digits size) base (s.extract digits size).size 0 0)) then 0
  else size
/-- Known slots of a frame of 99. -/
structure SX5 (v0 v1 vs vb vd : Value) (a : Act) : Prop where
  defers : a.defers = []
  size : a.tmps.size = 99
  s0 : a.tmps[0]? = some v0
  s1 : a.tmps[1]? = some v1
  s5 : a.tmps[5]? = some vs
  s6 : a.tmps[6]? = some vb
  s7 : a.tmps[7]? = some vd
theorem SX5.lit {v0 v1 vs vb vd : Value} {a : Act} (h : SX5 v0 v1 vs vb vd a) : ∃ x : Nat → Value, a = { tmps := #[v0, v1, x 2, x 3, x 4, vs, vb, vd, x 8, x 9, x 10, x 11, x 12, x 13, x 14, x 15, x 16, x 17, x 18, x 19, x 20, x 21, x 22, x 23, x 24, x 25, x 26, x 27, x 28, x 29, x 30, x 31, x 32, x 33, x 34, x 35, x 36, x 37, x 38, x 39, x 40, x 41, x 42, x 43, x 44, x 45, x 46, x 47, x 48, x 49, x 50, x 51, x 52, x 53, x 54, x 55, x 56, x 57, x 58, x 59, x 60, x 61, x 62, x 63, x 64, x 65, x 66, x 67, x 68, x 69, x 70, x 71, x 72, x 73, x 74, x 75, x 76, x 77, x 78, x 79, x 80, x 81, x 82, x 83, x 84, x 85, x 86, x 87, x 88, x 89, x 90, x 91, x 92, x 93, x 94, x 95, x 96, x 97, x 98], defers := [] } := by
  refine ⟨fun i => a.tmps.getD i undef, ?_⟩
  obtain ⟨t, d⟩ := a
  obtain ⟨h1, h2, k0, k1, k5, k6, k7⟩ := h
  simp only at h1 h2 k0 k1 k5 k6 k7
  subst h1
  have e0 : t.getD 0 undef = v0 := by rw [Array.getD_eq_getD_getElem?, k0]; rfl
  have e1 : t.getD 1 undef = v1 := by rw [Array.getD_eq_getD_getElem?, k1]; rfl
  have e5 : t.getD 5 undef = vs := by rw [Array.getD_eq_getD_getElem?, k5]; rfl
  have e6 : t.getD 6 undef = vb := by rw [Array.getD_eq_getD_getElem?, k6]; rfl
  have e7 : t.getD 7 undef = vd := by rw [Array.getD_eq_getD_getElem?, k7]; rfl
  have ht := tmpsN 99 t h2
  rw [← e0, ← e1, ← e5, ← e6, ← e7]
  exact congrArg (fun t => ({ tmps := t, defers := [] } : Act)) ht
theorem SX5.of {v0 v1 vs vb vd : Value} (x : Nat → Value) : SX5 v0 v1 vs vb vd { tmps := #[v0, v1, x 2, x 3, x 4, vs, vb, vd, x 8, x 9, x 10, x 11, x 12, x 13, x 14, x 15, x 16, x 17, x 18, x 19, x 20, x 21, x 22, x 23, x 24, x 25, x 26, x 27, x 28, x 29, x 30, x 31, x 32, x 33, x 34, x 35, x 36, x 37, x 38, x 39, x 40, x 41, x 42, x 43, x 44, x 45, x 46, x 47, x 48, x 49, x 50, x 51, x 52, x 53, x 54, x 55, x 56, x 57, x 58, x 59, x 60, x 61, x 62, x 63, x 64, x 65, x 66, x 67, x 68, x 69, x 70, x 71, x 72, x 73, x 74, x 75, x 76, x 77, x 78, x 79, x 80, x 81, x 82, x 83, x 84, x 85, x 86, x 87, x 88, x 89, x 90, x 91, x 92, x 93, x 94, x 95, x 96, x 97, x 98], defers := [] } := ⟨rfl, rfl, rfl, rfl, rfl, rfl, rfl⟩

noncomputable abbrev esBody : Code := bodyOf Tryd.f19
noncomputable abbrev esP (n : Nat) : Code := fstC (cutTail n esBody)
theorem es_body : (Tryd.f19).body = some (.seq (esP 0) (.seq (esP 1) (.seq (esP 2) (.seq (esP 3) (cutTail 4 esBody))))) := by kernel_rfl
theorem hexd_tab : ((List.range 256).all fun n => !(decide (0 ≤ Lib.indexByte hexB.data.toList (UInt8.ofNat n))) || (decide (0 ≤ hexd (UInt8.ofNat n)) && decide (hexd (UInt8.ofNat n) ≤ 15))) = true := by kernel_rfl
theorem oct_tab : ((List.range 256).all fun n => !(decide (0 ≤ Lib.indexByte octB.data.toList (UInt8.ofNat n))) || decide (0 ≤ Lib.indexByte hexB.data.toList (UInt8.ofNat n))) = true := by kernel_rfl
theorem oct_hex {x : UInt8} (h : inByte octB x = true) : inByte hexB x = true := by
  have := List.all_eq_true.1 oct_tab x.toNat (List.mem_range.2 x.toNat_lt)
  rw [UInt8.ofNat_toNat] at this
  unfold inByte at h ⊢
  rw [h] at this
  simpa using this
theorem hexd_in {x : UInt8} (h : inByte hexB x = true) : 0 ≤ hexd x ∧ hexd x ≤ 15 := by
  have := List.all_eq_true.1 hexd_tab x.toNat (List.mem_range.2 x.toNat_lt)
  rw [UInt8.ofNat_toNat] at this
  unfold inByte at h
  rw [h] at this
  simpa using this
theorem allN_get {s b : ByteArray} : ∀ (n i : Nat), allN s b n i = true → ∀ j, i ≤ j → j < i + n → j < s.size → inByte b (s.get! j) = true
  | 0, i, _, j, h1, h2, _ => by omega
  | n + 1, i, h, j, h1, h2, h3 => by
    simp only [allN, if_pos (show i < s.size by omega)] at h
    by_cases hb : inByte b (s.get! i) = true
    · rw [if_pos hb] at h
      by_cases hj : j = i
      · subst hj; exact hb
      · exact allN_get n (i + 1) h j (by omega) (by omega) h3
    · rw [if_neg hb] at h; cases h
theorem allOf_get {s b : ByteArray} (h : allOfF s b = true) : ∀ j, j < s.size → inByte b (s.get! j) = true := by
  unfold allOfF at h
  simp only [Bool.and_eq_true] at h
  exact fun j hj => allN_get _ _ h.1 j (Nat.zero_le _) (by omega) hj
theorem es_short {w : World} {s : ByteArray} {q : Int} {size : Nat} {vb vd : Value} (h : s.size < size) (a : Act) (hz : SX5 (.string s) (.int .u8 q) (.int .i64 size) vb vd a) (Q : Exit → Act → World → Prop)
    (hQ : ∀ a', a'.defers = [] → a'.tmps[4]? = some (.int .i64 0) → Q .ret a' w) : (cutTail 4 esBody).wp Tryd.prog Q a w := by
  obtain ⟨x, rfl⟩ := hz.lit
  clear hz
  have h1 : (s.size : Int) < (size : Int) := by omega
  have h2 : ((size : Int) == 0) = false := by simp; omega
  simp only [esBody, bodyOf, Tryd.f19, Option.getD, cutTail, cutN, Option.map]
  go_wp2_with fail
  all_goals exact hQ _ rfl rfl
theorem es_none {w : World} {s : ByteArray} {q : Int} {vb vd : Value} (a : Act) (hz : SX5 (.string s) (.int .u8 q) (.int .i64 0) vb vd a) (Q : Exit → Act → World → Prop)
    (hQ : ∀ a', a'.defers = [] → a'.tmps[4]? = some (.int .i64 0) → Q .ret a' w) : (cutTail 4 esBody).wp Tryd.prog Q a w := by
  obtain ⟨x, rfl⟩ := hz.lit
  clear hz
  simp only [esBody, bodyOf, Tryd.f19, Option.getD, cutTail, cutN, Option.map]
  go_wp2_with fail
  all_goals exact hQ _ rfl rfl
set_option maxHeartbeats 3200000 in
theorem es_tail8 {w : World} {s : ByteArray} {q : Int} (hs : 4 ≤ s.size) (hs2 : s.size ≤ 1000) (a : Act) (hz : SX5 (.string s) (.int .u8 q) (.int .i64 4) (.int .i64 8) (.int .i64 1) a) (Q : Exit → Act → World → Prop)
    (hQ : ∀ a', a'.defers = [] → a'.tmps[4]? = some (.int .i64 (escTl s 4 8 1)) → Q .ret a' w) : (cutTail 4 esBody).wp Tryd.prog Q a w := by
  obtain ⟨x, rfl⟩ := hz.lit
  clear hz
  have h1 : ¬ (s.size : Int) < 4 := by omega
  have h2 : (4 : Int) ≤ (s.size : Int) := by omega
  have hA := fun w => allOf_walk w (s.extract 1 4) octB (by rw [ByteArray.size_extract]; omega)
  unfold escTl at hQ
  rw [if_neg (by omega)] at hQ
  simp only [if_true] at hQ
  unfold octB at hA
  cases hb : allOfF (s.extract 1 4) octB with
  | false =>
    rw [hb] at hQ
    unfold octB at hb
    rw [hb] at hA
    simp only [esBody, bodyOf, Tryd.f19, Option.getD, cutTail, cutN, Option.map]
    go_wp2_with (go_at_call 32; refine (hA _).mono ?_; rintro en w2 ⟨rfl, rfl⟩)
    all_goals exact hQ _ rfl rfl
  | true =>
    rw [hb] at hQ
    have hg := allOf_get hb
    have hV := fun w => valueOf_walk w (s.extract 1 4) 8 (by rw [ByteArray.size_extract]; omega) (by decide) (fun j hj => hexd_in (oct_hex (hg j hj)))
    unfold octB at hb
    rw [hb] at hA
    simp only [Bool.true_eq_false, if_false, true_and, show ¬ 6 ≤ 4 by decide, false_and, or_false] at hQ
    have hV' : ∀ w, Calls Tryd.prog 33 #[.string (s.extract 1 4), .int .i64 8] w fun e w' => e = .returned (.int .i64 (valN (s.extract 1 4) (8 : Nat) (s.extract 1 4).size 0 0)) ∧ w' = w := hV
    generalize valN (s.extract 1 4) (8 : Nat) (s.extract 1 4).size 0 0 = v at hV' hQ
    simp only [esBody, bodyOf, Tryd.f19, Option.getD, cutTail, cutN, Option.map]
    go_wp2_with (first
      | (go_at_call 32; refine (hA _).mono ?_; rintro en w2 ⟨rfl, rfl⟩)
      | (go_at_call 33; refine (hV' _).mono ?_; rintro en w2 ⟨rfl, rfl⟩))
    all_goals first
      | (rw [if_neg (by omega)] at hQ; exact hQ _ rfl rfl)
      | (rw [if_pos (by omega)] at hQ; exact hQ _ rfl rfl)
      | trace_state
set_option maxHeartbeats 6400000 in
theorem es_tail16 {w : World} {s : ByteArray} {q : Int} {size : Nat} (hsz : size = 4 ∨ size = 6 ∨ size = 10) (hs : size ≤ s.size) (hs2 : s.size ≤ 1000) (a : Act) (hz : SX5 (.string s) (.int .u8 q) (.int .i64 size) (.int .i64 16) (.int .i64 2) a) (Q : Exit → Act → World → Prop)
    (hQ : ∀ a', a'.defers = [] → a'.tmps[4]? = some (.int .i64 (escTl s size 16 2)) → Q .ret a' w) : (cutTail 4 esBody).wp Tryd.prog Q a w := by
  obtain ⟨x, rfl⟩ := hz.lit
  clear hz
  have h1 : ¬ (s.size : Int) < (size : Int) := by omega
  have h2 : (size : Int) ≤ (s.size : Int) := by omega
  have hA := fun w => allOf_walk w (s.extract 2 size) hexB (by rw [ByteArray.size_extract]; omega)
  unfold escTl at hQ
  rw [if_neg (by omega)] at hQ
  simp only [show ¬ (16 : Nat) = 8 by decide, if_false, false_and, false_or] at hQ
  unfold hexB at hA
  cases hb : allOfF (s.extract 2 size) hexB with
  | false =>
    rw [hb] at hQ
    unfold hexB at hb
    rw [hb] at hA
    rcases hsz with rfl | rfl | rfl
    all_goals simp only [esBody, bodyOf, Tryd.f19, Option.getD, cutTail, cutN, Option.map]
    all_goals go_wp2_with (go_at_call 32; refine (hA _).mono ?_; rintro en w2 ⟨rfl, rfl⟩)
    all_goals exact hQ _ rfl rfl
  | true =>
    rw [hb] at hQ
    have hg := allOf_get hb
    have hV := fun w => valueOf_walk w (s.extract 2 size) 16 (by rw [ByteArray.size_extract]; omega) (by decide) (fun j hj => hexd_in (hg j hj))
    unfold hexB at hb
    rw [hb] at hA
    have hV' : ∀ w, Calls Tryd.prog 33 #[.string (s.extract 2 size), .int .i64 16] w fun e w' => e = .returned (.int .i64 (valN (s.extract 2 size) (16 : Nat) (s.extract 2 size).size 0 0)) ∧ w' = w := hV
    generalize valN (s.extract 2 size) (16 : Nat) (s.extract 2 size).size 0 0 = v at hV' hQ
    simp only [Bool.true_eq_false, if_false] at hQ
    unfold noPoint at hQ
    rcases hsz with rfl | rfl | rfl
    all_goals simp only [esBody, bodyOf, Tryd.f19, Option.getD, cutTail, cutN, Option.map]
    all_goals go_wp2_with (first
      | (go_at_call 32; refine (hA _).mono ?_; rintro en w2 ⟨rfl, rfl⟩)
      | (go_at_call 33; refine (hV' _).mono ?_; rintro en w2 ⟨rfl, rfl⟩))
    all_goals first
      | (rw [if_neg (by omega)] at hQ; exact hQ _ rfl rfl)
      | (rw [if_pos (by omega)] at hQ; exact hQ _ rfl rfl)
      | trace_state
end Sc
end Go.Proofs.YtogkcphobhhbdaaDoor

/- spec.Escape walked whole. -/
namespace Go.Proofs.YtogkcphobhhbdaaDoor
open Go Go.RowKit Go.Lib
namespace Sc
open Ev
set_option maxRecDepth 100000

def simB : ByteArray := ⟨#[97, 98, 102, 110, 114, 116, 118, 92]⟩
/-- Escape, of at least two bytes. -/
def escF (s : ByteArray) (q : Int) : Int :=
  if inByte simB (s.get! 1) = true ∨ ((s.get! 1).toNat : Int) = q then 2
  else if (s.get! 1).toNat = 120 then escTl s 4 16 2
  else if (s.get! 1).toNat = 117 then escTl s 6 16 2
  else if (s.get! 1).toNat = 85 then escTl s 10 16 2
  else if 48 ≤ (s.get! 1).toNat ∧ (s.get! 1).toNat ≤ 55 then escTl s 4 8 1
  else 0
/-- What holds of the state ahead of the tail. -/
def EsMid (s : ByteArray) (q : Int) (Z : Int) (a : Act) : Prop :=
  ∃ size base digits : Nat, SX5 (.string s) (.int .u8 q) (.int .i64 size) (.int .i64 base) (.int .i64 digits) a ∧
    ((size = 0 ∧ Z = 0) ∨ ((size = 4 ∨ size = 6 ∨ size = 10) ∧ base = 16 ∧ digits = 2 ∧ Z = escTl s size 16 2) ∨ (size = 4 ∧ base = 8 ∧ digits = 1 ∧ Z = escTl s 4 8 1))
set_option maxHeartbeats 6400000 in
theorem es_head {w : World} {s : ByteArray} {q : Int} (hs : 2 ≤ s.size) (hs2 : s.size ≤ 1000) (C : Code) (Q : Exit → Act → World → Prop)
    (h2 : escF s q = 2 → ∀ a', a'.defers = [] → a'.tmps[4]? = some (.int .i64 2) → Q .ret a' w)
    (hQ : ∀ a, EsMid s q (escF s q) a → C.wp Tryd.prog Q a w) :
    (Code.seq (esP 0) (.seq (esP 1) (.seq (esP 2) (.seq (esP 3) C)))).wp Tryd.prog Q { tmps := #[.string s, .int .u8 q] ++ Array.replicate 97 undef, defers := [] } w := by
  have h1 : ¬ (s.size : Int) < 2 := by omega
  have hx : 1 < s.size := by omega
  have hx1 : (1 : Int) < (s.size : Int) := by omega
  have hI := fun w => indexByte_walk w simB (s[1].toNat : Nat)
  rw [show ((s[1].toNat : Nat) : Int).toNat.toUInt8 = s[1] by simp] at hI
  unfold escF at h2 hQ
  rw [get_bang s 1 hx] at h2 hQ
  unfold inByte at h2 hQ
  generalize Lib.indexByte simB.data.toList s[1] = ix at hI h2 hQ
  unfold simB at hI
  simp only [esP, fstC, esBody, bodyOf, Tryd.f19, Option.getD, cutTail, cutN, Option.map, Array.replicate_succ, Array.replicate_zero, List.push_toArray, List.append_toArray, List.nil_append, List.cons_append]
  go_wp2_with (go_at_call 18; refine (hI _).mono ?_; rintro en w2 ⟨rfl, rfl⟩)
  all_goals simp only [beq_iff_eq, beq_eq_false_iff_ne, ne_eq, decide_eq_true_eq] at *
  all_goals first
    | (refine h2 ?_ _ rfl rfl; rw [if_pos (by omega)]; done)
    | (refine hQ _ ⟨4, 16, 2, ⟨rfl, rfl, rfl, rfl, rfl, rfl, rfl⟩, .inr (.inl ⟨.inl rfl, rfl, rfl, ?_⟩)⟩; rw [if_neg (by omega), if_pos (by omega)]; done)
    | (refine hQ _ ⟨6, 16, 2, ⟨rfl, rfl, rfl, rfl, rfl, rfl, rfl⟩, .inr (.inl ⟨.inr (.inl rfl), rfl, rfl, ?_⟩)⟩; rw [if_neg (by omega), if_neg (by omega), if_pos (by omega)]; done)
    | (refine hQ _ ⟨10, 16, 2, ⟨rfl, rfl, rfl, rfl, rfl, rfl, rfl⟩, .inr (.inl ⟨.inr (.inr rfl), rfl, rfl, ?_⟩)⟩; rw [if_neg (by omega), if_neg (by omega), if_neg (by omega), if_pos (by omega)]; done)
    | (refine hQ _ ⟨4, 8, 1, ⟨rfl, rfl, rfl, rfl, rfl, rfl, rfl⟩, .inr (.inr ⟨rfl, rfl, rfl, ?_⟩)⟩; rw [if_neg (by omega), if_neg (by omega), if_neg (by omega), if_neg (by omega), if_pos (by omega)]; done)
    | (refine hQ _ ⟨0, 16, 0, ⟨rfl, rfl, rfl, rfl, rfl, rfl, rfl⟩, .inl ⟨rfl, ?_⟩⟩; rw [if_neg (by omega), if_neg (by omega), if_neg (by omega), if_neg (by omega), if_neg (by omega)]; done)
    | trace_state
theorem escape_walk (w : World) (s : ByteArray) (q : Int) (hs : 2 ≤ s.size) (hs2 : s.size ≤ 1000) : Calls Tryd.prog 19 #[.string s, .int .u8 q] w fun e w' => e = .returned (.int .i64 (escF s q)) ∧ w' = w := by
  refine calls_of_wp Tryd.func19 es_body ?_
  have hnt : (Tryd.f19).ntmps - (#[.string s, .int .u8 q] : Array Value).size = 97 := by kernel_rfl
  rw [hnt]
  have fin : ∀ a' : Act, a'.defers = [] → a'.tmps[4]? = some (.int .i64 (escF s q)) → bodyPost Tryd.prog Tryd.f19 (fun e w' => e = .returned (.int .i64 (escF s q)) ∧ w' = w) .ret a' w := fun a' d0 d4 => ⟨d0, _, one_res (k := 4) (by kernel_rfl) d4, rfl, rfl⟩
  refine es_head hs hs2 _ _ (fun h2 a' d0 d4 => fin a' d0 (by rw [h2]; exact d4)) (fun a hm => ?_)
  obtain ⟨size, base, digits, hz, hm⟩ := hm
  rcases hm with ⟨rfl, hZ⟩ | ⟨hsz, rfl, rfl, hZ⟩ | ⟨rfl, rfl, rfl, hZ⟩
  · rw [hZ] at fin
    exact es_none a hz _ (fun a' d0 d4 => by rw [hZ]; exact fin a' d0 d4)
  · by_cases hlt : s.size < size
    · have hZ2 : escF s q = 0 := by rw [hZ]; unfold escTl; rw [if_pos hlt]
      rw [hZ2] at fin
      exact es_short hlt a hz _ (fun a' d0 d4 => by rw [hZ2]; exact fin a' d0 d4)
    · rw [hZ] at fin
      exact es_tail16 hsz (by omega) hs2 a hz _ (fun a' d0 d4 => by rw [hZ]; exact fin a' d0 d4)
  · by_cases hlt : s.size < 4
    · have hZ2 : escF s q = 0 := by rw [hZ]; unfold escTl; rw [if_pos hlt]
      rw [hZ2] at fin
      exact es_short hlt a hz _ (fun a' d0 d4 => by rw [hZ2]; exact fin a' d0 d4)
    · rw [hZ] at fin
      exact es_tail8 (by omega) hs2 a hz _ (fun a' d0 d4 => by rw [hZ]; exact fin a' d0 d4)
end Sc
end Go.Proofs.YtogkcphobhhbdaaDoor

/- Plain: what Escape finds is what the scanner takes for an escape. -/
namespace Go.Proofs.YtogkcphobhhbdaaDoor
open Go Go.RowKit Go.Lib
namespace Sc
open Ev
set_option maxRecDepth 100000

/-- Digits of a text, by its bytes. -/
def dgN (S : ByteArray) (b : Int) : Nat → Nat → Int → Option Int
  | 0, _, x => some x
  | n + 1, p, x => if p < S.size ∧ digv (S.get! p).toNat < b then dgN S b n (p + 1) (x * b + digv (S.get! p).toNat) else none
theorem takeDig_bytes {S : ByteArray} {b : Int} (hb : b ≤ 16) : ∀ (n : Nat) (cs : List Int) (x : Int) (p : Nat), Cl S p cs S.size → (takeDig b n x cs).map (·.1) = dgN S b n p x
  | 0, cs, x, p, _ => rfl
  | n + 1, cs, x, p, h => by
    cases h with
    | nil => simp [takeDig, dgN]
    | @cons _ w _ c cs h1 h2 =>
      have hl := h1.lt
      have key : digv c < b ↔ digv (S.get! p).toNat < b := by
        rcases h1.ch with ⟨a1, a2, a3, a4⟩ | ⟨a1, a2, a3, a4, a5⟩
        · rw [a3]
        · have d3 := dec_big S p a1
          have e1 : digv c = 99 := by unfold digv; rw [if_neg (by omega), if_neg (by omega), if_neg (by omega)]
          have e2 : digv (S.get! p).toNat = 99 := by unfold digv; rw [if_neg (by omega), if_neg (by omega), if_neg (by omega)]
          rw [e1, e2]
      simp only [takeDig, dgN]
      by_cases hd : digv c < b
      · have hdi : 0 ≤ digv c ∧ digv c ≤ 15 ∧ 48 ≤ c ∧ c ≤ 102 := by
          rcases digv_in c with h | h
          · exact h
          · omega
        obtain ⟨e1, e2⟩ := h1.byte (by omega)
        subst e2
        rw [if_pos hd, if_pos ⟨hl, key.1 hd⟩, ← e1]
        exact takeDig_bytes hb n cs _ _ h2
      · rw [if_neg hd, if_neg (fun h => hd (key.2 h.2))]
        rfl
theorem byte_tab : ((List.range 256).all fun n => (decide (0 ≤ Lib.indexByte hexB.data.toList (UInt8.ofNat n)) == decide (digv (n : Nat) < 16)) && (decide (0 ≤ Lib.indexByte octB.data.toList (UInt8.ofNat n)) == decide (digv (n : Nat) < 8)) && (!decide (digv (n : Nat) < 16) || hexd (UInt8.ofNat n) == digv (n : Nat))) = true := by kernel_rfl
theorem byte_dig (x : UInt8) : (inByte hexB x = true ↔ digv x.toNat < 16) ∧ (inByte octB x = true ↔ digv x.toNat < 8) ∧ (digv x.toNat < 16 → hexd x = digv x.toNat) := by
  have := List.all_eq_true.1 byte_tab x.toNat (List.mem_range.2 x.toNat_lt)
  rw [UInt8.ofNat_toNat] at this
  simp only [Bool.and_eq_true, beq_iff_eq, Bool.or_eq_true, Bool.not_eq_true', decide_eq_false_iff_not] at this
  obtain ⟨⟨h1, h2⟩, h3⟩ := this
  unfold inByte
  refine ⟨by rw [h1]; simp, by rw [h2]; simp, fun h => ?_⟩
  rcases h3 with h3 | h3
  · exact absurd h h3
  · exact h3
theorem get_extract (S : ByteArray) (p e j : Nat) (he : e ≤ S.size) (hj : p + j < e) : (S.extract p e).get! j = S.get! (p + j) := by
  have hs : (S.extract p e).size = min e S.size - p := ByteArray.size_extract
  rw [get_bang _ _ (by omega), get_bang _ _ (by omega)]
  exact ByteArray.getElem_extract (by omega)
/-- What allOf and valueOf say of a piece of the text. -/
theorem dgN_bytes {S B : ByteArray} {b : Int} (hB : (b = 8 ∧ B = octB) ∨ (b = 16 ∧ B = hexB)) (p e : Nat) (he : e ≤ S.size) : ∀ (n j : Nat) (x : Int), p + j + n = e →
    (allN (S.extract p e) B n j = true → dgN S b n (p + j) x = some (valN (S.extract p e) b n j x)) ∧ (allN (S.extract p e) B n j = false → dgN S b n (p + j) x = none)
  | 0, j, x, h => ⟨fun _ => rfl, fun h => by cases h⟩
  | n + 1, j, x, h => by
    have hs : (S.extract p e).size = min e S.size - p := ByteArray.size_extract
    have hg := get_extract S p e j he (by omega)
    obtain ⟨d1, d2, d3⟩ := byte_dig (S.get! (p + j))
    have key : inByte B (S.get! (p + j)) = true ↔ digv (S.get! (p + j)).toNat < b := by
      rcases hB with ⟨rfl, rfl⟩ | ⟨rfl, rfl⟩
      · exact d2
      · exact d1
    have hb16 : b ≤ 16 := by rcases hB with ⟨rfl, _⟩ | ⟨rfl, _⟩ <;> decide
    simp only [allN, dgN, valN, if_pos (show j < (S.extract p e).size by omega)]
    rw [hg]
    by_cases hb : inByte B (S.get! (p + j)) = true
    · have hd := key.1 hb
      rw [if_pos hb, if_pos ⟨by omega, hd⟩, d3 (by omega)]
      exact dgN_bytes hB p e he n (j + 1) _ (by omega)
    · rw [if_neg hb, if_neg (fun h => hb (key.2 h.2))]
      exact ⟨fun h => (by cases h), fun _ => rfl⟩
theorem dgN_short {S : ByteArray} {b : Int} : ∀ (n p : Nat) (x : Int), S.size < p + n → p ≤ S.size → dgN S b n p x = none
  | 0, p, x, h, h2 => by omega
  | n + 1, p, x, h, h2 => by
    simp only [dgN]
    split
    · exact dgN_short n (p + 1) _ (by omega) (by omega)
    · rfl
theorem toList_ne {s : ByteArray} (h : 0 < s.size) : s.toList.isEmpty = false := by
  have e : s.toList = s.data.toList := ByteArray.toList_eq s
  rw [e]
  have hl : s.data.toList.length = s.size := size_toList s
  cases hd : s.data.toList with
  | nil => rw [hd] at hl; simp at hl; omega
  | cons a l => rfl
/-- The tail of Escape, by the digits. -/
theorem escTl_dig {S : ByteArray} {size base digits : Nat} (hsz : (size = 4 ∧ base = 8 ∧ digits = 1) ∨ ((size = 4 ∨ size = 6 ∨ size = 10) ∧ base = 16 ∧ digits = 2)) :
    escTl S size base digits = 0 ↔ ∀ v, dgN S base (size - digits) digits 0 = some v → (base = 8 ∧ v > 255) ∨ (6 ≤ size ∧ noPoint v) := by
  unfold escTl
  by_cases hs : S.size < size
  · rw [if_pos hs]
    have hd : digits ≤ S.size ∨ S.size < digits := by omega
    constructor
    · intro _ v hv
      exfalso
      rcases hd with hd | hd
      · rw [dgN_short _ _ _ (by omega) hd] at hv; cases hv
      · have : size - digits = (size - digits - 1) + 1 := by omega
        rw [this] at hv
        simp only [dgN] at hv
        rw [if_neg (by omega)] at hv; cases hv
    · intro _; rfl
  · rw [if_neg hs]
    have hB : ((base : Int) = 8 ∧ (if base = 8 then octB else hexB) = octB) ∨ ((base : Int) = 16 ∧ (if base = 8 then octB else hexB) = hexB) := by
      rcases hsz with ⟨_, rfl, _⟩ | ⟨_, rfl, _⟩
      · exact .inl ⟨rfl, rfl⟩
      · exact .inr ⟨rfl, rfl⟩
    have hes : (S.extract digits size).size = size - digits := by rw [ByteArray.size_extract]; omega
    have key := dgN_bytes (S := S) hB digits size (by omega) (size - digits) 0 0 (by omega)
    rw [Nat.add_zero] at key
    have ha : allOfF (S.extract digits size) (if base = 8 then octB else hexB) = allN (S.extract digits size) (if base = 8 then octB else hexB) (size - digits) 0 := by
      unfold allOfF
      rw [hes, toList_ne (by rw [hes]; omega)]; simp
    rw [ha, hes]
    cases hb : allN (S.extract digits size) (if base = 8 then octB else hexB) (size - digits) 0 with
    | false =>
      rw [if_pos rfl, key.2 hb]
      exact ⟨fun _ v hv => by (cases hv), fun _ => rfl⟩
    | true =>
      rw [if_neg (by simp), key.1 hb]
      constructor
      · intro h v hv
        cases hv
        by_cases hc : (base = 8 ∧ valN (S.extract digits size) base (size - digits) 0 0 > 255) ∨ (6 ≤ size ∧ noPoint (valN (S.extract digits size) base (size - digits) 0 0))
        · exact hc
        · rw [if_neg hc] at h; omega
      · intro h
        rw [if_pos (h _ rfl)]
end Sc
end Go.Proofs.YtogkcphobhhbdaaDoor

/- Plain: FnEscape: what Escape tells is what the scanner tells. -/
namespace Go.Proofs.YtogkcphobhhbdaaDoor
open Go Go.RowKit Go.Lib
namespace Sc
open Ev
set_option maxRecDepth 100000

theorem simp_tab : ((List.range 256).all fun n => decide (0 ≤ Lib.indexByte simB.data.toList (UInt8.ofNat n)) == (n == 97 || n == 98 || n == 102 || n == 110 || n == 114 || n == 116 || n == 118 || n == 92)) = true := by kernel_rfl
theorem simp_byte (x : UInt8) : inByte simB x = true ↔ x.toNat = 97 ∨ x.toNat = 98 ∨ x.toNat = 102 ∨ x.toNat = 110 ∨ x.toNat = 114 ∨ x.toNat = 116 ∨ x.toNat = 118 ∨ x.toNat = 92 := by
  have := List.all_eq_true.1 simp_tab x.toNat (List.mem_range.2 x.toNat_lt)
  rw [UInt8.ofNat_toNat] at this
  unfold inByte
  rw [beq_iff_eq.1 this]
  simp [or_assoc]
theorem simpE_iff (q c : Int) : simpE q c = true ↔ c = q ∨ c = 97 ∨ c = 98 ∨ c = 102 ∨ c = 110 ∨ c = 114 ∨ c = 116 ∨ c = 118 ∨ c = 92 := by simp [simpE, or_assoc]
theorem octE_iff (c : Int) : octE c = true ↔ 48 ≤ c ∧ c ≤ 55 := by
  simp [octE]
  omega
theorem bind_dig {S : ByteArray} {b : Int} (hb : b ≤ 16) {n : Nat} {cs : List Int} {p : Nat} (h : Cl S p cs S.size) (bad : Int → Prop) [DecidablePred bad] :
    ((takeDig b n 0 cs).bind fun r => if bad r.1 then none else some r.2) = none ↔ ∀ v, dgN S b n p 0 = some v → bad v := by
  rw [← takeDig_bytes hb n cs 0 p h]
  cases takeDig b n 0 cs with
  | none => simp
  | some vr =>
    obtain ⟨v, r⟩ := vr
    simp only [Option.bind_some, Option.map_some, Option.some.injEq]
    by_cases hb : bad v
    · rw [if_pos hb]; simp [hb]
    · rw [if_neg hb]; simp [hb]
theorem Cl.head {src : ByteArray} {p q : Nat} {c : Int} {cs : List Int} (h : Cl src p (c :: cs) q) : ∃ w, ChAt src p c w ∧ Cl src (p + w) cs q := by
  cases h with
  | cons h1 h2 => exact ⟨_, h1, h2⟩
theorem Cl.nil_eq {src : ByteArray} {p q : Nat} {cs : List Int} (h : Cl src p cs q) (hc : cs = []) : p = q := by
  cases h with
  | nil => rfl
  | cons h1 h2 => cases hc
/-- Escape finds none just where the scanner takes none. -/
theorem escF_none {S : ByteArray} {q : Int} {cs : List Int} (hq : 0 ≤ q ∧ q < 128) (h : Cl S 1 cs S.size) (hcs : cs ≠ []) : escF S q = 0 ↔ escC q cs = none := by
  cases cs with
  | nil => exact absurd rfl hcs
  | cons c cs =>
    obtain ⟨w, h1, h2⟩ := h.head
    have hl := h1.lt
    have hc : (c < 128 ∧ c = ((S.get! 1).toNat : Int) ∧ w = 1) ∨ (128 ≤ c ∧ 128 ≤ (S.get! 1).toNat) := by
      rcases h1.ch with ⟨a1, a2, a3, a4⟩ | ⟨a1, a2, a3, a4, a5⟩
      · left; omega
      · have d3 := dec_big S 1 a1
        right; omega
    have hC := Cl.cons h1 h2
    unfold escF
    simp only [escC]
    by_cases k1 : simpE q c = true
    · rw [if_pos k1]
      rw [simpE_iff] at k1
      rw [if_pos (by rw [simp_byte]; omega)]
      simp
    rw [if_neg k1]
    rw [simpE_iff] at k1
    rw [if_neg (by rw [simp_byte]; omega)]
    by_cases k3 : c = 120
    · have ho : ¬ octE c = true := by rw [octE_iff]; omega
      obtain ⟨_, hw⟩ : c < 128 ∧ w = 1 := by omega
      subst hw
      rw [if_neg ho, if_pos k3, if_pos (by omega)]
      have e1 := escTl_dig (S := S) (size := 4) (base := 16) (digits := 2) (.inr ⟨.inl rfl, rfl, rfl⟩)
      have e2 := bind_dig (b := 16) (by decide) (n := 2) h2 (fun _ => False)
      simp only [if_false] at e2
      rw [e1, e2]
      exact ⟨fun h v hv => by
        rcases h v hv with h | h
        · exact absurd h.1 (by decide)
        · exact absurd h.1 (by decide), fun h v hv => (h v hv).elim⟩
    by_cases k4 : c = 117
    · have ho : ¬ octE c = true := by rw [octE_iff]; omega
      obtain ⟨_, hw⟩ : c < 128 ∧ w = 1 := by omega
      subst hw
      rw [if_neg ho, if_neg k3, if_pos k4, if_neg (by omega), if_pos (by omega)]
      have e1 := escTl_dig (S := S) (size := 6) (base := 16) (digits := 2) (.inr ⟨.inr (.inl rfl), rfl, rfl⟩)
      have e2 := bind_dig (b := 16) (by decide) (n := 4) h2 noPoint
      rw [e1, e2]
      exact ⟨fun h v hv => by
        rcases h v hv with h | h
        · exact absurd h.1 (by decide)
        · exact h.2, fun h v hv => .inr ⟨by decide, h v hv⟩⟩
    by_cases k5 : c = 85
    · have ho : ¬ octE c = true := by rw [octE_iff]; omega
      obtain ⟨_, hw⟩ : c < 128 ∧ w = 1 := by omega
      subst hw
      rw [if_neg ho, if_neg k3, if_neg k4, if_pos k5, if_neg (by omega), if_neg (by omega), if_pos (by omega)]
      have e1 := escTl_dig (S := S) (size := 10) (base := 16) (digits := 2) (.inr ⟨.inr (.inr rfl), rfl, rfl⟩)
      have e2 := bind_dig (b := 16) (by decide) (n := 8) h2 noPoint
      rw [e1, e2]
      exact ⟨fun h v hv => by
        rcases h v hv with h | h
        · exact absurd h.1 (by decide)
        · exact h.2, fun h v hv => .inr ⟨by decide, h v hv⟩⟩
    by_cases ho : octE c = true
    · have ho' := ho
      rw [octE_iff] at ho'
      rw [if_pos ho, if_neg (by omega), if_neg (by omega), if_neg (by omega), if_pos (by omega)]
      have e1 := escTl_dig (S := S) (size := 4) (base := 8) (digits := 1) (.inl ⟨rfl, rfl, rfl⟩)
      have e2 := bind_dig (b := 8) (by decide) (n := 3) hC (fun v => v > 255)
      rw [e1, e2]
      exact ⟨fun h v hv => by
        rcases h v hv with h | h
        · exact h.2
        · exact absurd h.1 (by decide), fun h v hv => .inl ⟨rfl, h v hv⟩⟩
    · have ho' := ho
      rw [octE_iff] at ho'
      rw [if_neg ho, if_neg k3, if_neg k4, if_neg k5, if_neg (by omega), if_neg (by omega), if_neg (by omega), if_neg (by omega)]
      simp
theorem takeDig_sub {b : Int} : ∀ (n : Nat) (cs r : List Int) (x v : Int), takeDig b n x cs = some (v, r) → ∀ y ∈ r, y ∈ cs
  | 0, cs, r, x, v, h, y, hy => by
    simp only [takeDig, Option.some.injEq, Prod.mk.injEq] at h
    rw [h.2]; exact hy
  | n + 1, [], r, x, v, h, y, hy => by simp [takeDig] at h
  | n + 1, c :: cs, r, x, v, h, y, hy => by
    simp only [takeDig] at h
    split at h
    · exact List.mem_cons_of_mem _ (takeDig_sub n cs r _ v h y hy)
    · cases h
theorem bind_sub {b : Int} {n : Nat} {cs r : List Int} {bad : Int → Prop} [DecidablePred bad] (h : ((takeDig b n 0 cs).bind fun r => if bad r.1 then none else some r.2) = some r) : ∀ y ∈ r, y ∈ cs := by
  cases ht : takeDig b n 0 cs with
  | none => rw [ht] at h; cases h
  | some vr =>
    obtain ⟨v, r'⟩ := vr
    rw [ht] at h
    simp only [Option.bind_some] at h
    split at h
    · cases h
    · cases h
      exact takeDig_sub n cs _ 0 v ht
theorem escC_sub {q : Int} {cs r : List Int} (h : escC q cs = some r) : ∀ y ∈ r, y ∈ cs := by
  cases cs with
  | nil => cases h
  | cons c cs =>
    simp only [escC] at h
    split at h
    · cases h; exact fun y hy => List.mem_cons_of_mem _ hy
    · split at h
      · exact bind_sub (bad := fun v => v > 255) h
      · split at h
        · exact fun y hy => List.mem_cons_of_mem _ (bind_sub (bad := fun _ => False) (b := 16) (n := 2) (by simpa using h) y hy)
        · split at h
          · exact fun y hy => List.mem_cons_of_mem _ (bind_sub (bad := noPoint) h y hy)
          · split at h
            · exact fun y hy => List.mem_cons_of_mem _ (bind_sub (bad := noPoint) h y hy)
            · cases h
/-- Plain characters. -/
theorem its_plain {q : Int} : ∀ (cs : List Int), (∀ c ∈ cs, c ≠ q ∧ c ≠ 92 ∧ c ≠ 10) → Its q cs cs.length
  | [], _ => .nil
  | c :: cs, h => .ch (h c (by simp)).1 (h c (by simp)).2.1 (h c (by simp)).2.2 (its_plain cs (fun x hx => h x (by simp [hx])))
def eqS : ByteArray := ⟨#[34, 92]⟩
def eq1 : ByteArray := ⟨#[34]⟩
def bs1 : ByteArray := ⟨#[92]⟩
/-- FnEscape's law. -/
theorem esc_law {s : ByteArray} (h : textOkF s = true) (hs : 0 < s.size) (h34 : ¬ (0 : Int) ≤ Lib.indexByte s.data.toList 34) (h92 : ¬ (0 : Int) ≤ Lib.indexByte s.data.toList 92) (h10 : ¬ (0 : Int) ≤ Lib.indexByte s.data.toList 10) :
    (escF ((eqS ++ s ++ eq1).extract 1 (s.size + 2)) 34 = 0 → 0 < (last (eqS ++ s ++ eq1) 0).notes.length) ∧
    (¬ escF ((eqS ++ s ++ eq1).extract 1 (s.size + 2)) 34 = 0 → LikeAll (Sc.toks (eqS ++ s ++ eq1) 0) (closedF [litW (eqS ++ s ++ eq1) 4] (litW (eqS ++ s ++ eq1) 4)) ∧ (last (eqS ++ s ++ eq1) 0).notes = []) := by
  have b1 : eqS.size = 2 := rfl
  have b2 : eq1.size = 1 := rfl
  have sz : (eqS ++ s ++ eq1).size = s.size + 3 := by rw [app_size, app_size, b1, b2]; omega
  have s1 : Sub (eqS ++ s ++ eq1) 2 s := ((sub_self s).right eqS).left eq1
  have s0 : Sub (eqS ++ s ++ eq1) 0 eqS := ((sub_self eqS).left s).left eq1
  have s2 : Sub (eqS ++ s ++ eq1) (2 + s.size) eq1 := by
    have := (sub_self eq1).right (eqS ++ s)
    rw [app_size, b1, Nat.add_zero] at this
    exact this
  obtain ⟨hs60, c1, c2⟩ := textOk_cl s1 h
  have g0 : (eqS ++ s ++ eq1).get! 0 = 34 := s0.get 0 (by rw [b1]; decide)
  have g1 : (eqS ++ s ++ eq1).get! 1 = 92 := s0.get 1 (by rw [b1]; decide)
  have a0 : ChAt (eqS ++ s ++ eq1) 0 34 1 := by
    have := chAt_byte (src := eqS ++ s ++ eq1) (p := 0) (by omega) (by rw [g0]; decide) (by rw [g0]; decide)
    rw [g0] at this; exact this
  have a1 : ChAt (eqS ++ s ++ eq1) 1 92 1 := by
    have := chAt_byte (src := eqS ++ s ++ eq1) (p := 1) (by omega) (by rw [g1]; decide) (by rw [g1]; decide)
    rw [g1] at this; exact this
  have a2 : ChAt (eqS ++ s ++ eq1) (2 + s.size) 34 1 := s2.chAt (b := 34) (by decide) (by decide)
  have plain : ∀ c ∈ runes s, c ≠ 34 ∧ c ≠ 92 ∧ c ≠ 10 := fun c hc => by
    have key : ∀ b : UInt8, b.toNat < 128 → ¬ (0 : Int) ≤ Lib.indexByte s.data.toList b → c ≠ (b.toNat : Int) := fun b hb hi e => by
      obtain ⟨j, hj, hj2⟩ := (c2 _ hc).2.2.2 (by omega)
      exact index_no hi hj (UInt8.toNat_inj.1 (by omega))
    exact ⟨key 34 (by decide) h34, key 92 (by decide) h92, key 10 (by decide) h10⟩
  have hne : runes s ≠ [] := by
    intro e
    have := c1.nil_eq e
    omega
  have he : ((eqS ++ s ++ eq1).extract 1 (s.size + 2)).size = s.size + 1 := by rw [ByteArray.size_extract]; omega
  have sE : Sub ((eqS ++ s ++ eq1).extract 1 (s.size + 2)) 1 s := ⟨by omega, fun j hj => by
    rw [get_extract _ _ _ _ (by omega) (by omega), show 1 + (1 + j) = 2 + j by omega]
    exact s1.get j hj⟩
  have cE := (textOk_cl sE h).2.1
  have cE' : Cl ((eqS ++ s ++ eq1).extract 1 (s.size + 2)) 1 (runes s) ((eqS ++ s ++ eq1).extract 1 (s.size + 2)).size := by rw [show ((eqS ++ s ++ eq1).extract 1 (s.size + 2)).size = 1 + s.size by omega]; exact cE
  have hE := escF_none (q := 34) (by decide) cE' hne
  have hC : Cl (eqS ++ s ++ eq1) 1 (92 :: runes s) (2 + s.size) := .cons a1 c1
  constructor
  · intro h0
    exact str_bad_told (by omega) a0 hC (hE.1 h0) hne a2
  · intro h0
    cases hr : escC 34 (runes s) with
    | none => exact absurd (hE.2 hr) h0
    | some r =>
      have hI := Its.es hr (its_plain r (fun c hc => plain c (escC_sub hr c hc)))
      exact str_tok (by omega) a0 hC hI a2 (by omega)
end Sc
end Go.Proofs.YtogkcphobhhbdaaDoor

/- FnEscape walked: true at every text. -/
namespace Go.Proofs.YtogkcphobhhbdaaDoor
open Go Go.RowKit Go.Lib
namespace Sc
open Ev
set_option maxRecDepth 100000

theorem refused_true {w : World} {ea : Addr} {src : ByteArray} (hG : Glob w ea) (hn : src.size ≤ 2048) (h : 0 < (last src 0).notes.length) :
    Calls Tryd.prog 20 #[.string src] w fun en w' => en = .returned (.bool true) ∧ Below w.heap.size w w' := by
  have := refused_walk hG hn
  rw [decide_eq_true h] at this
  exact this
set_option maxHeartbeats 3200000 in
theorem fnEscape_long {w : World} {s : ByteArray} (h : 150 < s.size) : Calls Tryd.prog 5 #[.string s] w fun en w' => en = .returned (.bool true) ∧ Below w.heap.size w w' := by
  have h1 : (150 : Int) < (s.size : Int) := by omega
  go_enter Tryd.func5, Tryd.ntmps5
  go_wp2_with fail
  all_goals exact ⟨rfl, _, one_res (k := 2) (by kernel_rfl) rfl, rfl, Below.refl _ _⟩
set_option maxHeartbeats 6400000 in
theorem fnEscape_walk {w : World} {ea : Addr} (s : ByteArray) (hG : Glob w ea) : Calls Tryd.prog 5 #[.string s] w fun en w' => en = .returned (.bool true) ∧ Below w.heap.size w w' := by
  by_cases h : 150 < s.size
  · exact fnEscape_long h
  have h1 : ¬ (150 : Int) < (s.size : Int) := by omega
  have h2 : ¬ (2147483647 : Int) < (s.size : Int) := by omega
  have hT := fun w => textOk_walk w s
  by_cases hskip : textOkF s = false ∨ s.size = 0 ∨ (0 : Int) ≤ Lib.indexByte s.data.toList 34 ∨ (0 : Int) ≤ Lib.indexByte s.data.toList 92 ∨ (0 : Int) ≤ Lib.indexByte s.data.toList 10
  · have hI34 := fun w => indexByte_walk w s 34
    have hI92 := fun w => indexByte_walk w s 92
    have hI10 := fun w => indexByte_walk w s 10
    rw [show (34 : Int).toNat.toUInt8 = 34 from rfl] at hI34
    rw [show (92 : Int).toNat.toUInt8 = 92 from rfl] at hI92
    rw [show (10 : Int).toNat.toUInt8 = 10 from rfl] at hI10
    generalize Lib.indexByte s.data.toList 34 = ia at hI34 hskip
    generalize Lib.indexByte s.data.toList 92 = ib at hI92 hskip
    generalize Lib.indexByte s.data.toList 10 = ic at hI10 hskip
    generalize textOkF s = ok at hT hskip
    have he : s.toList.isEmpty = decide (s.size = 0) := by
      by_cases h0 : s.size = 0
      · rw [decide_eq_true h0, ByteArray.toList_eq s]
        have hl : s.data.toList.length = s.size := size_toList s
        rw [List.isEmpty_iff]
        exact List.eq_nil_of_length_eq_zero (by omega)
      · rw [toList_ne (by omega), decide_eq_false h0]
    cases ok with
    | false =>
      go_enter Tryd.func5, Tryd.ntmps5
      go_wp2_with (first
        | (go_at_call 17; refine (hT _).mono ?_; rintro en w1 ⟨rfl, hB1⟩)
        | (go_at_call 18; refine (hI34 _).mono ?_; rintro en w2 ⟨rfl, rfl⟩)
        | (go_at_call 18; refine (hI92 _).mono ?_; rintro en w2 ⟨rfl, rfl⟩)
        | (go_at_call 18; refine (hI10 _).mono ?_; rintro en w2 ⟨rfl, rfl⟩))
      all_goals exact ⟨rfl, _, one_res (k := 2) (by kernel_rfl) rfl, rfl, hB1⟩
    | true =>
      by_cases h0 : s.size = 0
      · rw [decide_eq_true h0] at he
        go_enter Tryd.func5, Tryd.ntmps5
        go_wp2_with (first
          | (go_at_call 17; refine (hT _).mono ?_; rintro en w1 ⟨rfl, hB1⟩)
          | (go_at_call 18; refine (hI34 _).mono ?_; rintro en w2 ⟨rfl, rfl⟩)
          | (go_at_call 18; refine (hI92 _).mono ?_; rintro en w2 ⟨rfl, rfl⟩)
          | (go_at_call 18; refine (hI10 _).mono ?_; rintro en w2 ⟨rfl, rfl⟩))
        all_goals exact ⟨rfl, _, one_res (k := 2) (by kernel_rfl) rfl, rfl, hB1⟩
      · rw [decide_eq_false h0] at he
        by_cases ha : 0 ≤ ia
        · have ha' : ¬ ia < 0 := by omega
          go_enter Tryd.func5, Tryd.ntmps5
          go_wp2_with (first
            | (go_at_call 17; refine (hT _).mono ?_; rintro en w1 ⟨rfl, hB1⟩)
            | (go_at_call 18; refine (hI34 _).mono ?_; rintro en w2 ⟨rfl, rfl⟩)
            | (go_at_call 18; refine (hI92 _).mono ?_; rintro en w2 ⟨rfl, rfl⟩)
            | (go_at_call 18; refine (hI10 _).mono ?_; rintro en w2 ⟨rfl, rfl⟩))
          all_goals exact ⟨rfl, _, one_res (k := 2) (by kernel_rfl) rfl, rfl, hB1⟩
        · by_cases hb : 0 ≤ ib
          · have hb' : ¬ ib < 0 := by omega
            go_enter Tryd.func5, Tryd.ntmps5
            go_wp2_with (first
              | (go_at_call 17; refine (hT _).mono ?_; rintro en w1 ⟨rfl, hB1⟩)
              | (go_at_call 18; refine (hI34 _).mono ?_; rintro en w2 ⟨rfl, rfl⟩)
              | (go_at_call 18; refine (hI92 _).mono ?_; rintro en w2 ⟨rfl, rfl⟩)
              | (go_at_call 18; refine (hI10 _).mono ?_; rintro en w2 ⟨rfl, rfl⟩))
            all_goals exact ⟨rfl, _, one_res (k := 2) (by kernel_rfl) rfl, rfl, hB1⟩
          · have hc : 0 ≤ ic := by
              rcases hskip with h | h | h | h | h
              · cases h
              · exact absurd h h0
              · exact absurd h ha
              · exact absurd h hb
              · exact h
            have hc' : ¬ ic < 0 := by omega
            go_enter Tryd.func5, Tryd.ntmps5
            go_wp2_with (first
              | (go_at_call 17; refine (hT _).mono ?_; rintro en w1 ⟨rfl, hB1⟩)
              | (go_at_call 18; refine (hI34 _).mono ?_; rintro en w2 ⟨rfl, rfl⟩)
              | (go_at_call 18; refine (hI92 _).mono ?_; rintro en w2 ⟨rfl, rfl⟩)
              | (go_at_call 18; refine (hI10 _).mono ?_; rintro en w2 ⟨rfl, rfl⟩))
            all_goals exact ⟨rfl, _, one_res (k := 2) (by kernel_rfl) rfl, rfl, hB1⟩
  · simp only [not_or] at hskip
    obtain ⟨hok, h0, ha, hb, hc⟩ := hskip
    have hok : textOkF s = true := by simpa using hok
    obtain ⟨hl0, hl1⟩ := esc_law hok (by omega) ha hb hc
    have hI34 := fun w => indexByte_walk w s 34
    have hI92 := fun w => indexByte_walk w s 92
    have hI10 := fun w => indexByte_walk w s 10
    rw [show (34 : Int).toNat.toUInt8 = 34 from rfl] at hI34
    rw [show (92 : Int).toNat.toUInt8 = 92 from rfl] at hI92
    rw [show (10 : Int).toNat.toUInt8 = 10 from rfl] at hI10
    rw [hok] at hT
    generalize Lib.indexByte s.data.toList 34 = ia at hI34 ha
    generalize Lib.indexByte s.data.toList 92 = ib at hI92 hb
    generalize Lib.indexByte s.data.toList 10 = ic at hI10 hc
    have he : s.toList.isEmpty = false := toList_ne (by omega)
    have hTs : (eqS ++ s ++ eq1).size = s.size + 3 := by
      rw [app_size, app_size]
      show 2 + s.size + 1 = _
      omega
    have hTl : (⟨#[34, 92]⟩ ++ s ++ ⟨#[34]⟩ : ByteArray) = eqS ++ s ++ eq1 := rfl
    generalize eqS ++ s ++ eq1 = T at hl0 hl1 hTs hTl
    have hsz : T.size ≤ 2048 := by omega
    have hEw := fun w => escape_walk w (T.extract 1 (s.size + 2)) 34 (by rw [ByteArray.size_extract]; omega) (by rw [ByteArray.size_extract]; omega)
    have hw1 : IntKind.i64.wrap ((T.size : Int) - 1) = ((s.size + 2 : Nat) : Int) := by rw [show (T.size : Int) - 1 = ((s.size + 2 : Nat) : Int) by omega]; exact i64_small (by omega) (by omega)
    have k1 : (1 : Int) ≤ ((s.size + 2 : Nat) : Int) := by omega
    have k2 : ((s.size + 2 : Nat) : Int) ≤ (T.size : Int) := by omega
    generalize hk : s.size + 2 = k at hl0 hl1 hEw hw1 k1 k2
    clear hk hTs
    generalize hE : escF (T.extract 1 k) 34 = z at hl0 hl1 hEw
    clear hE
    by_cases hz : z = 0
    · have hR := fun w hG => refused_true (w := w) (ea := ea) hG hsz (hl0 hz)
      subst hz
      clear hl0 hl1
      go_enter Tryd.func5, Tryd.ntmps5
      go_wp2_with (first
        | (go_at_call 20; refine (hR _ (glob_move hG hB1)).mono ?_; rintro en w4 ⟨rfl, hB4⟩)
        | (go_at_call 17; refine (hT _).mono ?_; rintro en w1 ⟨rfl, hB1⟩)
        | (go_at_call 19; refine (hEw _).mono ?_; rintro en w2 ⟨rfl, rfl⟩)
        | (go_at_call 18; refine (hI34 _).mono ?_; rintro en w2 ⟨rfl, rfl⟩)
        | (go_at_call 18; refine (hI92 _).mono ?_; rintro en w2 ⟨rfl, rfl⟩)
        | (go_at_call 18; refine (hI10 _).mono ?_; rintro en w2 ⟨rfl, rfl⟩))
      all_goals exact ⟨rfl, _, one_res (k := 2) (by kernel_rfl) rfl, rfl, hB1.trans (below_weak hB4 hB1.size)⟩
    · have hz' : (z == 0) = false := by simpa using hz
      obtain ⟨hA, hn⟩ := hl1 hz
      have hC := fun w => closed_one_walk w (litW T 4)
      have hTo := fun w gw capw b1 hG => toldL_walk (w := w) (ea := ea) (gw := gw) (capw := capw) (b1 := b1) hG hsz hA hn
      clear hA hn hl0 hl1
      generalize closedF [litW T 4] (litW T 4) = W at hC hTo
      go_enter Tryd.func5, Tryd.ntmps5
      go_wp2_with (first
        | (go_at_call 21; refine (hTo _ _ _ _ (glob_move (glob_move hG hB1) hB3) hrow).mono ?_; rintro en w4 ⟨rfl, hB4⟩)
        | (go_at_call 22; refine (hC _).mono ?_; rintro en w3 ⟨g, cap, b, rfl, hrow, hB3⟩)
        | (go_at_call 17; refine (hT _).mono ?_; rintro en w1 ⟨rfl, hB1⟩)
        | (go_at_call 19; refine (hEw _).mono ?_; rintro en w2 ⟨rfl, rfl⟩)
        | (go_at_call 18; refine (hI34 _).mono ?_; rintro en w2 ⟨rfl, rfl⟩)
        | (go_at_call 18; refine (hI92 _).mono ?_; rintro en w2 ⟨rfl, rfl⟩)
        | (go_at_call 18; refine (hI10 _).mono ?_; rintro en w2 ⟨rfl, rfl⟩))
      all_goals exact ⟨rfl, _, one_res (k := 2) (by kernel_rfl) rfl, rfl, hB1.trans (below_weak (hB3.trans (below_weak hB4 hB3.size)) hB1.size)⟩
end Sc
end Go.Proofs.YtogkcphobhhbdaaDoor

/- From the listed variables to what the scanner reads of them. -/
namespace Go.Proofs.YtogkcphobhhbdaaDoor
open Go Go.RowKit Go.Lib Go.Shelf
namespace Sc
set_option maxRecDepth 100000

/-- The numbers of this dump, for the library's laws on tables. -/
def tabRen : Go.Shelf.Ren := ⟨fun n => n, fun | 3 => 3 | 49 => 120 | 51 => 44 | 141 => 94 | 196 => 119 | 193 => 116 | 194 => 117 | 198 => 122 | 201 => 125 | 5 => 5 | 119 => 115 | 138 => 152 | 139 => 153 | n => n, fun | 3 => 7 | 4 => 8 | n => n⟩
theorem tabR : RTypes Tryd.prog tabRen := ⟨Tryd.underlying3, Tryd.underlying120, Tryd.underlying44, Tryd.underlying94, Tryd.underlying116, Tryd.underlying117, Tryd.underlying119, Tryd.underlying122, Tryd.underlying125⟩
theorem tabX : RExtra Tryd.prog tabRen := ⟨by kernel_rfl, by kernel_rfl, by kernel_rfl, by kernel_rfl, by kernel_rfl, by kernel_rfl, by kernel_rfl, by kernel_rfl⟩
theorem u8R : U8Types Tryd.prog tabRen := ⟨Tryd.underlying5, Tryd.underlying115, Tryd.underlying152, Tryd.underlying153⟩
theorem u8X : U8Extra Tryd.prog tabRen := ⟨by kernel_rfl, by kernel_rfl, by kernel_rfl, by kernel_rfl, by kernel_rfl, by kernel_rfl, by kernel_rfl⟩
theorem errRow (u : TypeId) (h : Tryd.prog.typeName? 3 u = some "*errors.errorString") : u = 167 :=
  typeName_ptr_named (nm := "errors.errorString") (by rw [show "*" ++ "errors.errorString" = "*errors.errorString" by rfl]; kernel_rfl) (by kernel_rfl) (by decide) u (by rw [show "*" ++ "errors.errorString" = "*errors.errorString" by rfl]; exact h)
theorem tab_cell {W : World} {name : String} {g : Nat} {t e : TypeId} {n : Nat} {zs : List Int} (hg : Tryd.prog.globalNamed name = some g) (hy : (Tryd.prog.globals[g]?).map (·.type) = some t) (ht : Tryd.prog.underlying t = some (.array n e)) (he : Tryd.prog.underlying e = some (.int .u8)) (hce : Tryd.prog.cellsOf e = 1) (hct : Tryd.prog.cellsOf t = n)
    (h : VarReads Tryd.prog W name (tabData .u8 zs)) : TabIs Tryd.prog W name .u8 zs := by
  obtain ⟨g', t', cs, fuel, p, hg', hty, hvar, hd⟩ := h
  obtain rfl := Option.some.inj (hg.symm.trans hg')
  obtain rfl := Option.some.inj (hy.symm.trans hty)
  have hcs := cells_of_tab ht he hce hct hd
  unfold TabIs
  rw [hvar, ← hcs]
def tokTab : List Int := [0, 3, 7, 14, 16, 19, 23, 24, 26, 28, 29, 30, 31, 32, 33, 34, 35, 36, 37, 38, 39, 42, 47, 51, 55, 60, 68, 75, 80, 84, 95, 98, 102, 104, 108, 110, 116, 125, 128, 135, 140, 146, 152, 158, 164, 168, 171, 171]
def opTab : List Int := [0, 1, 2, 4, 5, 7, 9, 11, 13, 14, 16, 17, 19, 20, 21, 22, 23, 24, 25, 26, 27, 29, 31, 33]
theorem glob_of {W : World} (h : laidMet Tryd.prog Rows.fnEndsRow.laid W) : ∃ ea, Glob W ea := by
  have rd : ∀ {n : String} {d : DataW Unit}, (n, d) ∈ Rows.fnEndsRow.laid → VarReads Tryd.prog W n d := fun hm => Lib.laidMet.reads h hm
  have h5 := h.tail.tail.tail.tail
  obtain ⟨ea, s, hv, _, _, _⟩ := laid_sentinel (n := "io.EOF") (nm := "*errors.errorString") (text := [69, 79, 70]) h5 (g := 6) (by kernel_rfl) (by kernel_rfl) Tryd.underlying75 errRow Tryd.underlying167 Tryd.underlying181 rfl rfl Tryd.underlying9 (by kernel_rfl) (by kernel_rfl)
  have mem : ∀ i x, Rows.fnEndsRow.laid[i]? = some x → x ∈ Rows.fnEndsRow.laid := fun i x hx => List.mem_of_getElem? hx
  have r3 := rd (mem 3 ("unicode/utf8.acceptRanges", Rows.laid_unicode_utf8_acceptRanges) rfl)
  have r6 := rd (mem 6 ("unicode.properties", Rows.laid_unicode_properties) rfl)
  have r7 := rd (mem 7 (_, Rows.laid_loop_example_pub_g03120_pub_gosyntax_Operator_index) rfl)
  have r8 := rd (mem 8 (_, Rows.laid_loop_example_pub_g03120_pub_gosyntax_token_index) rfl)
  have r9 := rd (mem 9 ("unicode.Digit", Rows.laid_unicode_Digit) rfl)
  have r10 := rd (mem 10 ("unicode.Letter", Rows.laid_unicode_Letter) rfl)
  have r11 := rd (mem 11 ("unicode/utf8.first", Rows.laid_unicode_utf8_first) rfl)
  have e3 : (Rows.laid_unicode_utf8_acceptRanges : DataW Unit) = acceptData := by kernel_rfl
  have e6 : (Rows.laid_unicode_properties : DataW Unit) = tabData .u8 propertiesTab := by kernel_rfl
  have e7 : (Rows.laid_loop_example_pub_g03120_pub_gosyntax_Operator_index : DataW Unit) = tabData .u8 opTab := by kernel_rfl
  have e8 : (Rows.laid_loop_example_pub_g03120_pub_gosyntax_token_index : DataW Unit) = tabData .u8 tokTab := by kernel_rfl
  rw [e3] at r3
  rw [e6] at r6
  rw [e7] at r7
  rw [e8] at r8
  have r9' : VarReads Tryd.prog W "unicode.Digit" (rtabData digitT) := Pinned.digit_eq ▸ r9
  have r10' : VarReads Tryd.prog W "unicode.Letter" (rtabData letterT) := Pinned.letter_eq ▸ r10
  have r11' : VarReads Tryd.prog W "unicode/utf8.first" firstData := Pinned.utf8First_eq ▸ r11
  have t7 := tab_cell (g := 2) (t := 114) (by kernel_rfl) (by kernel_rfl) Tryd.underlying114 Tryd.underlying5 (by kernel_rfl) (by kernel_rfl) r7
  have t8 := tab_cell (g := 1) (t := 113) (by kernel_rfl) (by kernel_rfl) Tryd.underlying113 Tryd.underlying5 (by kernel_rfl) (by kernel_rfl) r8
  have t6 := tab_cell (g := 4) (t := 115) (by kernel_rfl) (by kernel_rfl) Tryd.underlying115 Tryd.underlying5 (by kernel_rfl) (by kernel_rfl) r6
  have r1 := rd (mem 1 ("math/bits.deBruijn64tab", Rows.laid_math_bits_deBruijn64tab) rfl)
  refine ⟨ea, ?_, ?_, t6, ?_, ?_, ?_, ?_, ?_⟩
  · have := World.var?_cell (show Tryd.prog.globalNamed "io.EOF" = some 6 by kernel_rfl) hv 0
    simpa using this
  · exact utf8Tabs_of_readsT u8R u8X r11' r3
  · exact rvar_of_readsT tabR tabX (name := "unicode.Letter") (g := 5) (by kernel_rfl) (by kernel_rfl) r10'
  · exact rvar_of_readsT tabR tabX (name := "unicode.Digit") (g := 0) (by kernel_rfl) (by kernel_rfl) r9'
  · exact fun i hi => t8.cell (by kernel_rfl) i hi
  · exact fun i hi => t7.cell (by kernel_rfl) i hi
  · obtain ⟨g', t', cs, fuel, p, hg', hty, hvar, hd⟩ := r1
    obtain rfl := Option.some.inj ((show Tryd.prog.globalNamed "math/bits.deBruijn64tab" = some 12 by kernel_rfl).symm.trans hg')
    unfold World.var? at hvar
    rw [hg'] at hvar
    simp only [Option.bind_some] at hvar
    cases hh : W.heap[12]? with
    | none => rw [hh] at hvar; cases hvar
    | some o => exact (Array.getElem?_eq_some_iff.1 hh).1
end Sc
end Go.Proofs.YtogkcphobhhbdaaDoor
