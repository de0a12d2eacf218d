/- The scanner of the program told as plain functions, part 5: texts joined by a program (wip/tools/merge.py). -/
import Derived.Test.YtogkcphobhhbdaaDoorBc4
import Derived.Shelf.Utf8.AppendRunePlain
import Derived.Shelf.Strings.Search1
import Derived.Shelf.Strings.Prefix
import Derived.Test.YtogkcphobhhbdaaDoorProg
import Derived.Lib.OthersKept
import Derived.Lib.DecodeN
import Derived.Laws.BitsLemmas
import Derived.Laws.BytesArg
import Derived.Lib.RuneBytes
import Derived.Test.YtogkcphobhhbdaaDoorRows
import Derived.PinnedBridge
import Derived.Lib.LaidRTabT
import Derived.Lib.LaidU8T
import Derived.Stop.LaidErr
import Derived.Lay
import Derived.LaidMore
import Derived.ProofKit
import Derived.OpenShut
import Derived.OpenVars
import Derived.SevenTiedAt
import Derived.Stop.Joined
set_option linter.unusedVariables false
set_option linter.unusedSimpArgs false
/- laws.refused and laws.told walked. -/
namespace Go.Proofs.YtogkcphobhhbdaaDoor
open Go Go.RowKit Go.Lib
namespace Sc
open Ev
set_option maxRecDepth 100000

theorem own_slice {w : World} {base n size : Nat} {e : TypeId} {v : Value} {xs : List Value} (h : w.ownsRow base e size v n xs) : ∃ p cap, v = .slice p n cap := by
  rcases h.2 with ⟨h1, h2⟩ | ⟨g, cap, _, h1, _⟩
  · exact ⟨none, 0, by rw [h1, h2]⟩
  · exact ⟨_, cap, h1⟩
/-- impl.Scan without modes, whole. -/
theorem scan_full {w : World} {ea : Addr} {src : ByteArray} (hG : Glob w ea) (hn : src.size ≤ 2048) :
    Calls Tryd.prog 15 #[.string src, .int .i64 0] w fun en w' => ∃ g cap p c2, en = .returned (.tuple #[.slice (some ⟨g, 0, none⟩) (toks src 0).length cap, .slice p (last src 0).notes.length c2]) ∧
      w'.ownsRow w.heap.size 27 9 (.slice (some ⟨g, 0, none⟩) (toks src 0).length cap) (toks src 0).length (flat outCells (toks src 0)) ∧ Below w.heap.size w w' := by
  have := scan_walk hG hn 0
  rw [show IntKind.u64.wrap 0 = 0 from by decide] at this
  refine this.mono ?_
  rintro en w' ⟨v, ve, rfl, h1, h2, h3⟩
  obtain ⟨g, cap, rfl, _, _⟩ := h1.form (List.length_pos_iff.2 (toks_good _ hn).ne)
  obtain ⟨p, c2, rfl⟩ := own_slice h2
  exact ⟨g, cap, p, c2, rfl, h1, h3⟩
theorem one_res {f : Func} {a : Act} {w : World} {v : Value} {k : Nat} (e : f.results = #[.tmp k]) (h4 : a.tmps[k]? = some v) : (results f a.tmps).run Tryd.prog w = .ok v w := by
  simp [results, e, h4, go_sem]
set_option maxHeartbeats 1600000 in
/-- laws.refused: whether anything is told. -/
theorem refused_walk {w : World} {ea : Addr} {src : ByteArray} (hG : Glob w ea) (hn : src.size ≤ 2048) :
    Calls Tryd.prog 20 #[.string src] w fun en w' => en = .returned (.bool (decide (0 < (last src 0).notes.length))) ∧ Below w.heap.size w w' := by
  have hS := scan_full hG hn
  generalize (toks src 0) = L at hS
  generalize (last src 0).notes.length = N at hS ⊢
  go_enter Tryd.func20, Tryd.ntmps20
  go_wp2_with (go_at_call 15; refine hS.mono ?_; rintro en w' ⟨g, cap, p, c2, rfl, h1, h3⟩)
  exact ⟨rfl, _, one_res (k := 2) (by kernel_rfl) rfl, rfl, h3⟩
set_option maxHeartbeats 1600000 in
/-- laws.told, of a text whose tokens are those wanted, and of which nothing is told: true. -/
theorem toldL_walk {w : World} {ea : Addr} {src : ByteArray} {W : List WTok} {gw capw b1 : Nat} (hG : Glob w ea) (hn : src.size ≤ 2048) (hA : LikeAll (toks src 0) W) (h0 : (last src 0).notes = [])
    (hrow2 : w.ownsRow b1 37 5 (.slice (some ⟨gw, 0, none⟩) W.length capw) W.length (flat wCells W)) :
    Calls Tryd.prog 21 #[.string src, .slice (some ⟨gw, 0, none⟩) W.length capw] w fun en w' => en = .returned (.bool true) ∧ Below w.heap.size w w' := by
  have hS := scan_full hG hn
  have hk : ∀ s ∈ toks src 0, Rk s := fun s hs => by
    obtain ⟨i, hi⟩ := List.mem_iff_getElem?.1 hs
    exact ((toks_good 0 hn).at i s hi).1.rk
  have hL := toks_len src 0 hn
  rw [h0] at hS
  generalize (toks src 0) = L at hS hA hk hL
  have hL' : L.length ≤ 1000000 := by omega
  have hW : ∀ w', Below w.heap.size w w' → w'.ownsRow b1 37 5 (.slice (some ⟨gw, 0, none⟩) W.length capw) W.length (flat wCells W) := fun w' hB => own_below hB hrow2
  go_enter Tryd.func21, Tryd.ntmps21
  go_wp2_with (first
    | (go_at_call 34; refine (alike_walk L W hk hA hL' h1 (hW _ h3)).mono ?_; rintro en w2 ⟨rfl, h4⟩)
    | (go_at_call 15; refine hS.mono ?_; rintro en w' ⟨g, cap, p, c2, rfl, h1, h3⟩))
  exact ⟨rfl, _, one_res (k := 4) (by kernel_rfl) rfl, rfl, h3.trans (below_weak h4 h3.size)⟩
end Sc
end Go.Proofs.YtogkcphobhhbdaaDoor

/- spec.EndsLine and spec.Ends walked. -/
namespace Go.Proofs.YtogkcphobhhbdaaDoor
open Go Go.RowKit Go.Lib
namespace Sc
open Ev
set_option maxRecDepth 100000

/-- Behind which words a line's end puts a semicolon in. -/
def endsLineF (s : ByteArray) : Bool :=
  if s.toList = [98, 114, 101, 97, 107] then true
  else if s.toList = [99, 111, 110, 116, 105, 110, 117, 101] then true
  else if s.toList = [102, 97, 108, 108, 116, 104, 114, 111, 117, 103, 104] then true
  else if s.toList = [114, 101, 116, 117, 114, 110] then true
  else if s.toList = [43, 43] then true
  else if s.toList = [45, 45] then true
  else if s.toList = [41] then true
  else if s.toList = [93] then true
  else if s.toList = [125] then true
  else false
set_option maxHeartbeats 3200000 in
theorem endsLine_walk (w : World) (s : ByteArray) : Calls Tryd.prog 56 #[.string s] w fun e w' => e = .returned (.bool (endsLineF s)) ∧ w' = w := by
  go_enter Tryd.func56, Tryd.ntmps56
  go_wp2_with fail
  all_goals (refine ⟨rfl, _, one_res (k := 2) (by kernel_rfl) rfl, ?_, rfl⟩)
  all_goals (unfold endsLineF; simp_all)
/-- Behind which tokens a line's end puts a semicolon in. -/
def endsW (t : WTok) : Bool := if t.cls = 1 then true else if t.cls = 2 then true else if t.cls = 3 then endsLineF t.text else false
set_option maxHeartbeats 3200000 in
theorem ends_walk (w : World) (t : WTok) : Calls Tryd.prog 35 #[.agg (wCells t).toArray] w fun e w' => e = .returned (.bool (endsW t)) ∧ Below w.heap.size w w' := by
  obtain ⟨cls, text, kind, wl, wc⟩ := t
  show Calls Tryd.prog 35 #[.agg #[.int .i64 cls, .string text, .int .i64 kind, .int .i64 wl, .int .i64 wc]] w _
  unfold endsW
  simp only
  by_cases h1 : cls = 1
  · subst h1
    go_enter Tryd.func35, Tryd.ntmps35
    go_wp2_with (go_at_call 56; refine (endsLine_walk _ _).mono ?_; rintro en w' ⟨rfl, rfl⟩)
    all_goals first | exact ⟨rfl, _, one_res (k := 2) (by kernel_rfl) rfl, by simp, Below.alloc (Below.refl _ _) (Nat.le_refl _) _⟩ | trace_state
  · have e1 : (cls == 1) = false := by simpa using h1
    by_cases h2 : cls = 2
    · subst h2
      go_enter Tryd.func35, Tryd.ntmps35
      go_wp2_with (go_at_call 56; refine (endsLine_walk _ _).mono ?_; rintro en w' ⟨rfl, rfl⟩)
      all_goals first | exact ⟨rfl, _, one_res (k := 2) (by kernel_rfl) rfl, by simp, Below.alloc (Below.refl _ _) (Nat.le_refl _) _⟩ | trace_state
    · have e2 : (cls == 2) = false := by simpa using h2
      by_cases h3 : cls = 3
      · subst h3
        go_enter Tryd.func35, Tryd.ntmps35
        go_wp2_with (go_at_call 56; refine (endsLine_walk _ _).mono ?_; rintro en w' ⟨rfl, rfl⟩)
        all_goals first | exact ⟨rfl, _, one_res (k := 2) (by kernel_rfl) rfl, by simp, Below.alloc (Below.refl _ _) (Nat.le_refl _) _⟩ | trace_state
      · have e3 : (cls == 3) = false := by simpa using h3
        go_enter Tryd.func35, Tryd.ntmps35
        go_wp2_with (go_at_call 56; refine (endsLine_walk _ _).mono ?_; rintro en w' ⟨rfl, rfl⟩)
        all_goals first | exact ⟨rfl, _, one_res (k := 2) (by kernel_rfl) rfl, by simp, Below.alloc (Below.refl _ _) (Nat.le_refl _) _⟩ | trace_state
end Sc
end Go.Proofs.YtogkcphobhhbdaaDoor

/- laws.closed walked. -/
namespace Go.Proofs.YtogkcphobhhbdaaDoor
open Go Go.RowKit Go.Lib
namespace Sc
open Ev
set_option maxRecDepth 100000

theorem info_wtok : (Tryd.prog.info? 37).map (fun i => (i.zero, i.size, i.bytes)) = some (some (.agg #[.int .i64 0, .string ⟨#[]⟩, .int .i64 0, .int .i64 0, .int .i64 0]), 5, 48) := by kernel_rfl
/-- Wanted tokens are appended to a row of the call's own. -/
theorem cw_app {w0 : World} {base n m c : Nat} {v : Value} {xs news : List Value} {ad : Addr} (hown : w0.ownsRow base 37 5 v n xs) (hbase : base ≤ w0.heap.size) (hn : n ≤ 1000000) (hm : 0 < m) (hm2 : m ≤ 1000000)
    (hl : news.length = m * 5) (hnews : ∀ j u, news[j]? = some u → w0.cell? (ad.add j) = some u) (hone : ∀ u ∈ news, u.oneCell' = true)
    {ops : Array Oper} {rest : List Oper} {o : Oper} {a : Act} {Q : Exit → Act → World → Prop} (hgd : o.guard = none) (s x : Operand)
    (ho : o.op = .call { callee := .builtin .append, args := #[s, x], argTypes := #[34, 34] }) (hs : a.eval s = v) (hx : a.eval x = .slice (some ad) m c)
    (h : ∀ g cap w', w'.ownsRow base 37 5 (.slice (some ⟨g, 0, none⟩) (n + m) cap) (n + m) (xs ++ news) → w0.grownBy w' v.ownBlock → wpList Tryd.prog ops Q rest (a.put o.dst (.slice (some ⟨g, 0, none⟩) (n + m) cap)) w') :
    wpList Tryd.prog ops Q (o :: rest) a w0 := by
  obtain ⟨i0, hi0, hz0, hz1, hz2⟩ := info_parts info_wtok
  have hml : n + m ≤ maxLen := by simp only [maxLen]; omega
  exact wpList_append_lies _ hgd s x 34 ho base 37 i0 _ 5 48 Tryd.underlying34 hi0 hz0 hz1 hz2 rfl (by omega) v n xs hs hown
    ad m c news hx hl hnews hone hm hml (by omega) hbase w0.heap.size rfl (fun g cap w' h1 h2 _ _ => h g cap w' h1 h2)
theorem flat_one : ∀ (W : List WTok), ∀ u ∈ flat wCells W, u.oneCell' = true
  | [], u, h => by simp [flat] at h
  | t :: W, u, h => by
    simp only [flat, List.mem_append] at h
    rcases h with h | h
    · simp only [wCells, List.mem_cons, List.not_mem_nil, or_false] at h
      rcases h with rfl | rfl | rfl | rfl | rfl <;> rfl
    · exact flat_one W u h
theorem flat_len5 : ∀ (W : List WTok), (flat wCells W).length = W.length * 5
  | [] => rfl
  | t :: W => by simp only [flat, List.length_append, flat_len5 W, List.length_cons, wCells, List.length_nil]; omega
theorem flat_app (W V : List WTok) : flat wCells (W ++ V) = flat wCells W ++ flat wCells V := by
  induction W with
  | nil => rfl
  | cons t W ih => simp only [List.cons_append, flat, ih, List.append_assoc]
/-- A row of no tokens, just made. -/
theorem own_empty (w : World) : (w.alloc (.cells #[] 37)).ownsRow w.heap.size 37 5 (.slice (some ⟨w.heap.size, 0, none⟩) 0 0) 0 [] :=
  ⟨rfl, .inr ⟨w.heap.size, 0, #[], rfl, Nat.le_refl _, heap_alloc_new w _, Nat.le_refl _, Nat.zero_le _, rfl, rfl⟩⟩
/-- The tokens of a row, appended to an empty one. -/
theorem cw_app0 {w : World} {b1 gl capl : Nat} {W : List WTok} (hrow : w.ownsRow b1 37 5 (.slice (some ⟨gl, 0, none⟩) W.length capl) W.length (flat wCells W)) (hW : 0 < W.length) (hW2 : W.length ≤ 1000000)
    {ops : Array Oper} {rest : List Oper} {o : Oper} {a : Act} {Q : Exit → Act → World → Prop} (hgd : o.guard = none) (s x : Operand)
    (ho : o.op = .call { callee := .builtin .append, args := #[s, x], argTypes := #[34, 34] }) (hs : a.eval s = .slice (some ⟨w.heap.size, 0, none⟩) 0 0) (hx : a.eval x = .slice (some ⟨gl, 0, none⟩) W.length capl)
    (h : ∀ g cap w', w'.ownsRow w.heap.size 37 5 (.slice (some ⟨g, 0, none⟩) W.length cap) W.length (flat wCells W) → Below w.heap.size w w' → wpList Tryd.prog ops Q rest (a.put o.dst (.slice (some ⟨g, 0, none⟩) W.length cap)) w') :
    wpList Tryd.prog ops Q (o :: rest) a (w.alloc (.cells #[] 37)) := by
  refine cw_app (own_empty w) (by simp) (Nat.zero_le _) hW hW2 (flat_len5 W) ((own_alloc hrow _).cells rfl) (flat_one W) hgd s x ho hs hx (fun g cap w' h1 h2 => ?_)
  rw [Nat.zero_add, List.nil_append] at h1
  rw [Nat.zero_add]
  refine h g cap w' h1 ?_
  have h3 := Below.alloc (Below.refl w.heap.size w) (Nat.le_refl _) (.cells #[] 37)
  refine h3.trans ⟨h2.os, h2.tape, h2.output, h2.size, fun k hk => h2.block k (by simp; omega) (fun e => ?_)⟩
  simp [Value.ownBlock] at e; omega
/-- A token more. -/
theorem cw_app1 {w : World} {base n : Nat} {v : Value} {xs : List Value} (t : WTok) (hown : w.ownsRow base 37 5 v n xs) (hbase : base ≤ w.heap.size) (hn : n ≤ 1000000)
    {ops : Array Oper} {rest : List Oper} {o : Oper} {a : Act} {Q : Exit → Act → World → Prop} (hgd : o.guard = none) (s x : Operand)
    (ho : o.op = .call { callee := .builtin .append, args := #[s, x], argTypes := #[34, 34] }) (hs : a.eval s = v) (hx : a.eval x = .slice (some ⟨w.heap.size, 0, none⟩) 1 1)
    (h : ∀ g cap w', w'.ownsRow base 37 5 (.slice (some ⟨g, 0, none⟩) (n + 1) cap) (n + 1) (xs ++ wCells t) → Below base w w' → wpList Tryd.prog ops Q rest (a.put o.dst (.slice (some ⟨g, 0, none⟩) (n + 1) cap)) w') :
    wpList Tryd.prog ops Q (o :: rest) a (w.alloc (.cells (wCells t).toArray 37)) := by
  refine cw_app (own_alloc hown _) (by simp; omega) hn Nat.one_pos (by omega) (news := wCells t) rfl (World.news_of_block (cs := (wCells t).toArray) (t := 37) (fr := (0, 0)) (heap_alloc_new w _)) (fun u hu => flat_one [t] u (by simpa [flat] using hu)) hgd s x ho hs hx (fun g cap w' h1 h2 => ?_)
  refine h g cap w' h1 ?_
  have h3 := Below.alloc (Below.refl base w) hbase (.cells (wCells t).toArray 37)
  refine h3.trans ⟨h2.os, h2.tape, h2.output, h2.size, fun k hk => h2.block k (by simp; omega) (fun e => ?_)⟩
  rcases hown.2 with ⟨rfl, _⟩ | ⟨g', cap', cur, rfl, hb, _⟩
  · cases e
  · have e' : some k = some g' := e
    have : k = g' := Option.some.inj e'
    omega
end Sc
end Go.Proofs.YtogkcphobhhbdaaDoor

/- laws.closed walked whole. -/
namespace Go.Proofs.YtogkcphobhhbdaaDoor
open Go Go.RowKit Go.Lib
namespace Sc
open Ev
set_option maxRecDepth 100000

def semiW : WTok := ⟨4, ⟨#[]⟩, 0, 0, 0⟩
def endW : WTok := ⟨0, ⟨#[]⟩, 0, 0, 0⟩
/-- What closed makes of tokens. -/
def closedF (W : List WTok) (t : WTok) : List WTok := if endsW t = true then W ++ [semiW] ++ [endW] else W ++ [endW]
set_option maxHeartbeats 3200000 in
theorem closed_walk {w : World} {b1 gl capl j : Nat} {W : List WTok} {t : WTok} (hrow : w.ownsRow b1 37 5 (.slice (some ⟨gl, 0, none⟩) W.length capl) W.length (flat wCells W)) (hj : W.length = j + 1) (hW2 : W.length ≤ 100000) (ht : W[j]? = some t) :
    Calls Tryd.prog 22 #[.slice (some ⟨gl, 0, none⟩) W.length capl] w fun en w' => ∃ g cap, en = .returned (.slice (some ⟨g, 0, none⟩) (closedF W t).length cap) ∧
      w'.ownsRow w.heap.size 37 5 (.slice (some ⟨g, 0, none⟩) (closedF W t).length cap) (closedF W t).length (flat wCells (closedF W t)) ∧ Below w.heap.size w w' := by
  have hgl : gl < w.heap.size := by
    obtain ⟨g, cap, e, _, h⟩ := hrow.form (by omega)
    have : gl = g := by simpa using congrArg (fun v => match v with | Value.slice (some a) _ _ => a.block | _ => 0) e
    omega
  have hc : ∀ w', Below w.heap.size w w' → Row5 w' gl j t := fun w' hB => row5 (wS := w) hrow hB ht
  have hE : ∀ w, Calls Tryd.prog 35 #[.agg #[.int .i64 t.cls, .string t.text, .int .i64 t.kind, .int .i64 t.line, .int .i64 t.col]] w fun e w' => e = .returned (.bool (endsW t)) ∧ Below w.heap.size w w' := fun w => ends_walk w t
  unfold closedF
  generalize endsW t = en at hE
  have hn1 : (0 : Int) < (W.length : Int) := by omega
  have hwj : IntKind.i64.wrap ((W.length : Int) - 1) = (j : Int) := by rw [hj]; rw [show ((j + 1 : Nat) : Int) - 1 = (j : Int) by omega]; exact i64_small (by omega) (by omega)
  have hj0 : (0 : Int) ≤ (j : Int) := by omega
  have hj1 : (j : Int) < (W.length : Int) := by omega
  have hW1 : 0 < W.length := by omega
  obtain ⟨cls, text, kind, wl, wc⟩ := t
  simp only at hE
  clear hj
  cases en
  · simp only [Bool.false_eq_true, if_false]
    go_enter Tryd.func22, Tryd.ntmps22
    go_wp2_with (first
      | (go_at_call 35; refine (hE _).mono ?_; rintro e2 w2 ⟨rfl, hB2⟩)
      | (at_builtin; refine cw_app1 endW (own_below hB2 h1) (Nat.le_trans hB1.size hB2.size) (by omega) (by rfl) _ _ (by rfl) (by rfl) (by rfl) ?_; intro g3 c3 w3 h3 hB3)
      | (at_builtin; refine cw_app0 hrow hW1 (by omega) (by rfl) _ _ (by rfl) (by rfl) (by rfl) ?_; intro g1 c1 w1 h1 hB1; obtain ⟨k0, k1, k2, k3, k4⟩ := hc w1 hB1))
    have hz : (W ++ [endW]).length = W.length + 1 := by simp
    refine ⟨rfl, _, one_res (k := 2) (by kernel_rfl) rfl, g3, c3, by rw [hz]; rfl, ?_, hB1.trans ((below_weak hB2 hB1.size).trans hB3)⟩
    rw [hz, flat_app]
    simpa [flat] using h3
  · simp only [if_true]
    go_enter Tryd.func22, Tryd.ntmps22
    go_wp2_with (first
      | (go_at_call 35; refine (hE _).mono ?_; rintro e2 w2 ⟨rfl, hB2⟩)
      | (at_builtin; refine cw_app1 endW h4 (Nat.le_trans hB1.size (Nat.le_trans hB2.size hB4.size)) (by omega) (by rfl) _ _ (by rfl) (by rfl) (by rfl) ?_; intro g3 c3 w3 h3 hB3)
      | (at_builtin; refine cw_app1 semiW (own_below hB2 h1) (Nat.le_trans hB1.size hB2.size) (by omega) (by rfl) _ _ (by rfl) (by rfl) (by rfl) ?_; intro g4 c4 w4 h4 hB4)
      | (at_builtin; refine cw_app0 hrow hW1 (by omega) (by rfl) _ _ (by rfl) (by rfl) (by rfl) ?_; intro g1 c1 w1 h1 hB1; obtain ⟨k0, k1, k2, k3, k4⟩ := hc w1 hB1))
    have hz : (W ++ [semiW] ++ [endW]).length = W.length + 1 + 1 := by simp
    refine ⟨rfl, _, one_res (k := 2) (by kernel_rfl) rfl, g3, c3, by rw [hz]; rfl, ?_, hB1.trans ((below_weak hB2 hB1.size).trans (hB4.trans hB3))⟩
    rw [hz, flat_app, flat_app]
    simpa [flat] using h3
end Sc
end Go.Proofs.YtogkcphobhhbdaaDoor

/-
  DERIVED: THE SHELF's CONTRACTS AT THIS DUMP, IN PLAIN WORDS (tools/lay-plain.mjs out of 'TrydShelf.lean', which tools/lay-shelf.mjs wrote): THE SAME DECLARATIONS UNDER THE SAME NAMES: 'import', 'namespace', 'open', 'def', 'theorem' AND NOTHING ELSE: no command of the shelf's: FOR A HAND-IN. Each laying: the table of numbers ('.._ren') and one theorem, a field a fact of the dump's own or the kernel's comparison; each contract: ONE APPLICATION.
-/
namespace Go.Proofs
open Go.Shelf
def Tryd.lays278_ren : Go.Shelf.Ren := ⟨fun | 278 => 60 | n => n, fun | 37 => 45 | 21 => 21 | 51 => 44 | 4 => 4 | 46 => 55 | 5 => 5 | n => n, fun | n => n⟩
theorem Tryd.lays278 : Go.Proofs.Lays.n278 Tryd.prog Tryd.lays278_ren := {
  mixed := by kernel_rfl
  f278 := Tryd.func60.trans (congrArg some (by kernel_rfl))
  t4 := Tryd.underlying4
  a4 := Tryd.isAgg4
  z4 := Tryd.sizeOf4
  v4 := Tryd.zeroValue4
  t5 := Tryd.underlying5
  a5 := Tryd.isAgg5
  z5 := Tryd.sizeOf5
  v5 := Tryd.zeroValue5
  t21 := Tryd.underlying21
  a21 := Tryd.isAgg21
  z21 := Tryd.sizeOf21
  v21 := Tryd.zeroValue21
  t37 := Tryd.underlying45
  a37 := Tryd.isAgg45
  z37 := Tryd.sizeOf45
  v37 := Tryd.zeroValue45
  t46 := Tryd.underlying55
  a46 := Tryd.isAgg55
  z46 := Tryd.sizeOf55
  v46 := Tryd.zeroValue55
  t51 := Tryd.underlying44
  a51 := Tryd.isAgg44
  z51 := Tryd.sizeOf44
  v51 := Tryd.zeroValue44 }
open Go.RowKit in
/-- unicode/utf8.appendRuneNonASCII (what AppendRune calls for all but ASCII), ONTO A ROW OF BYTES THAT THE CALL OWNS: every int32 that is no ASCII rune: 'Lib.runeCells r' goes in behind what the row holds. (LAID: no walk: one application.) -/
theorem Tryd.utf8_appendRuneNonASCII_plain (B : Nat) (v : Value) (n : Nat) (xs : List Value) (r : Int) (hr0 : -2147483648 ≤ r) (hr1 : r ≤ 2147483647) (hna : r < 0 ∨ 128 ≤ r) (w : World) (hown : w.ownsRow B 5 1 v n xs) (hlen : n + 4 ≤ 140737488355328) (hBw : B ≤ w.heap.size) :
    Calls Tryd.prog 60 #[v, .int .i32 r] w fun e w' => ∃ v', e = .returned v' ∧ w'.ownsRow B 5 1 v' (n + (Lib.runeCells r).length) (xs ++ Lib.runeCells r) ∧ ∃ o, (w.alloc o).grownBy w' v.ownBlock := Any.utf8_appendRuneNonASCII_plain Tryd.lays278 (by kernel_rfl) B v n xs r hr0 hr1 hna w hown hlen hBw
def Tryd.lays242_ren : Go.Shelf.Ren := ⟨fun | 242 => 40 | 278 => 60 | n => n, fun | 37 => 45 | 21 => 21 | 51 => 44 | 4 => 4 | 5 => 5 | 46 => 55 | n => n, fun | n => n⟩
theorem Tryd.lays242 : Go.Proofs.Lays.n242 Tryd.prog Tryd.lays242_ren := {
  mixed := by kernel_rfl
  f242 := Tryd.func40.trans (congrArg some (by kernel_rfl))
  f278 := Tryd.func60.trans (congrArg some (by kernel_rfl))
  t4 := Tryd.underlying4
  a4 := Tryd.isAgg4
  z4 := Tryd.sizeOf4
  v4 := Tryd.zeroValue4
  t5 := Tryd.underlying5
  a5 := Tryd.isAgg5
  z5 := Tryd.sizeOf5
  v5 := Tryd.zeroValue5
  t21 := Tryd.underlying21
  a21 := Tryd.isAgg21
  z21 := Tryd.sizeOf21
  v21 := Tryd.zeroValue21
  t37 := Tryd.underlying45
  a37 := Tryd.isAgg45
  z37 := Tryd.sizeOf45
  v37 := Tryd.zeroValue45
  t46 := Tryd.underlying55
  a46 := Tryd.isAgg55
  z46 := Tryd.sizeOf55
  v46 := Tryd.zeroValue55
  t51 := Tryd.underlying44
  a51 := Tryd.isAgg44
  z51 := Tryd.sizeOf44
  v51 := Tryd.zeroValue44 }
open Go.RowKit in
/-- unicode/utf8.AppendRune: "AppendRune appends the UTF-8 encoding of r to the end of p and returns the extended buffer. If the rune is out of range, it appends the encoding of RuneError.": ONTO A ROW OF BYTES THAT THE CALL OWNS (its head frozen or not): EVERY int32: 'Lib.runeCells r' goes in behind what the row holds; the world: one new block (the bytes as the call's variadic argument), then what 'append' does to the row. (LAID: no walk: one application.) -/
theorem Tryd.utf8_AppendRune_plain (B : Nat) (v : Value) (n : Nat) (xs : List Value) (r : Int) (hr0 : -2147483648 ≤ r) (hr1 : r ≤ 2147483647) (w : World) (hown : w.ownsRow B 5 1 v n xs) (hlen : n + 4 ≤ 140737488355328) (hBw : B ≤ w.heap.size) :
    Calls Tryd.prog 40 #[v, .int .i32 r] w fun e w' => ∃ v', e = .returned v' ∧ w'.ownsRow B 5 1 v' (n + (Lib.runeCells r).length) (xs ++ Lib.runeCells r) ∧ ∃ o, (w.alloc o).grownBy w' v.ownBlock := Any.utf8_AppendRune_plain Tryd.lays242 (by kernel_rfl) B v n xs r hr0 hr1 w hown hlen hBw
def Tryd.lays217_ren : Go.Shelf.Ren := ⟨fun | 217 => 31 | 266 => 55 | n => n, fun | 9 => 9 | 5 => 5 | 3 => 3 | n => n, fun | n => n⟩
theorem Tryd.lays217 : Go.Proofs.Lays.n217 Tryd.prog Tryd.lays217_ren := {
  mixed := by kernel_rfl
  f217 := Tryd.func31.trans (congrArg some (by kernel_rfl))
  f266 := Tryd.func55.trans (congrArg some (by kernel_rfl))
  t3 := Tryd.underlying3
  a3 := Tryd.isAgg3
  z3 := Tryd.sizeOf3
  v3 := Tryd.zeroValue3
  t5 := Tryd.underlying5
  a5 := Tryd.isAgg5
  z5 := Tryd.sizeOf5
  v5 := Tryd.zeroValue5
  t9 := Tryd.underlying9
  a9 := Tryd.isAgg9
  z9 := Tryd.sizeOf9
  v9 := Tryd.zeroValue9 }
open Go.RowKit Go.Lib in
/-- internal/stringslite.IndexByte (what strings.IndexByte calls): IT RETURNS 'Lib.indexByte s c'; the world is as it was. (LAID: no walk: one application.) -/
theorem Tryd.stringslite_IndexByte (s : ByteArray) (c : Int) (w : World) :
    Calls Tryd.prog 31 #[.string s, .int .u8 c] w fun e w' => e = .returned (.int .i64 (Lib.indexByte s.data.toList c.toNat.toUInt8)) ∧ w' = w := Any.stringslite_IndexByte Tryd.lays217 s c w
def Tryd.lays206_ren : Go.Shelf.Ren := ⟨fun | 206 => 57 | n => n, fun | 9 => 9 | 4 => 4 | 3 => 3 | n => n, fun | n => n⟩
theorem Tryd.lays206 : Go.Proofs.Lays.n206 Tryd.prog Tryd.lays206_ren := {
  mixed := by kernel_rfl
  f206 := Tryd.func57.trans (congrArg some (by kernel_rfl))
  t3 := Tryd.underlying3
  a3 := Tryd.isAgg3
  z3 := Tryd.sizeOf3
  v3 := Tryd.zeroValue3
  t4 := Tryd.underlying4
  a4 := Tryd.isAgg4
  z4 := Tryd.sizeOf4
  v4 := Tryd.zeroValue4
  t9 := Tryd.underlying9
  a9 := Tryd.isAgg9
  z9 := Tryd.sizeOf9
  v9 := Tryd.zeroValue9 }
open Go.RowKit Go.Lib in
/-- internal/stringslite.HasPrefix (what strings.HasPrefix calls). (LAID: no walk: one application.) -/
theorem Tryd.stringslite_HasPrefix (s p : ByteArray) (w : World) :
    Calls Tryd.prog 57 #[.string s, .string p] w fun e w' => e = .returned (.bool (Lib.hasPrefix s.data.toList p.data.toList)) ∧ w' = w := Any.stringslite_HasPrefix Tryd.lays206 s p w
def Tryd.lays99_ren : Go.Shelf.Ren := ⟨fun | 99 => 36 | 206 => 57 | n => n, fun | 9 => 9 | 4 => 4 | 3 => 3 | n => n, fun | n => n⟩
theorem Tryd.lays99 : Go.Proofs.Lays.n99 Tryd.prog Tryd.lays99_ren := {
  mixed := by kernel_rfl
  f99 := Tryd.func36.trans (congrArg some (by kernel_rfl))
  f206 := Tryd.func57.trans (congrArg some (by kernel_rfl))
  t3 := Tryd.underlying3
  a3 := Tryd.isAgg3
  z3 := Tryd.sizeOf3
  v3 := Tryd.zeroValue3
  t4 := Tryd.underlying4
  a4 := Tryd.isAgg4
  z4 := Tryd.sizeOf4
  v4 := Tryd.zeroValue4
  t9 := Tryd.underlying9
  a9 := Tryd.isAgg9
  z9 := Tryd.sizeOf9
  v9 := Tryd.zeroValue9 }
open Go.RowKit Go.Lib in
/-- strings.HasPrefix: "HasPrefix reports whether the string s begins with prefix.": IT RETURNS 'Lib.hasPrefix s prefix'; the world is as it was. (LAID: no walk: one application.) -/
theorem Tryd.strings_HasPrefix (s p : ByteArray) (w : World) :
    Calls Tryd.prog 36 #[.string s, .string p] w fun e w' => e = .returned (.bool (Lib.hasPrefix s.data.toList p.data.toList)) ∧ w' = w := Any.strings_HasPrefix Tryd.lays99 s p w
def Tryd.lays208_ren : Go.Shelf.Ren := ⟨fun | 208 => 88 | 206 => 57 | n => n, fun | 9 => 9 | 4 => 4 | 3 => 3 | n => n, fun | n => n⟩
theorem Tryd.lays208 : Go.Proofs.Lays.n208 Tryd.prog Tryd.lays208_ren := {
  mixed := by kernel_rfl
  f206 := Tryd.func57.trans (congrArg some (by kernel_rfl))
  f208 := Tryd.func88.trans (congrArg some (by kernel_rfl))
  t3 := Tryd.underlying3
  a3 := Tryd.isAgg3
  z3 := Tryd.sizeOf3
  v3 := Tryd.zeroValue3
  t4 := Tryd.underlying4
  a4 := Tryd.isAgg4
  z4 := Tryd.sizeOf4
  v4 := Tryd.zeroValue4
  t9 := Tryd.underlying9
  a9 := Tryd.isAgg9
  z9 := Tryd.sizeOf9
  v9 := Tryd.zeroValue9 }
open Go.RowKit Go.Lib in
/-- internal/stringslite.TrimPrefix (what strings.TrimPrefix calls). (LAID: no walk: one application.) -/
theorem Tryd.stringslite_TrimPrefix (s p : ByteArray) (w : World) :
    Calls Tryd.prog 88 #[.string s, .string p] w fun e w' => e = .returned (.string ⟨(Lib.trimPrefix s.data.toList p.data.toList).toArray⟩) ∧ w' = w := Any.stringslite_TrimPrefix Tryd.lays208 s p w
def Tryd.lays101_ren : Go.Shelf.Ren := ⟨fun | 101 => 61 | 208 => 88 | 206 => 57 | n => n, fun | 9 => 9 | 4 => 4 | 3 => 3 | n => n, fun | n => n⟩
theorem Tryd.lays101 : Go.Proofs.Lays.n101 Tryd.prog Tryd.lays101_ren := {
  mixed := by kernel_rfl
  f101 := Tryd.func61.trans (congrArg some (by kernel_rfl))
  f206 := Tryd.func57.trans (congrArg some (by kernel_rfl))
  f208 := Tryd.func88.trans (congrArg some (by kernel_rfl))
  t3 := Tryd.underlying3
  a3 := Tryd.isAgg3
  z3 := Tryd.sizeOf3
  v3 := Tryd.zeroValue3
  t4 := Tryd.underlying4
  a4 := Tryd.isAgg4
  z4 := Tryd.sizeOf4
  v4 := Tryd.zeroValue4
  t9 := Tryd.underlying9
  a9 := Tryd.isAgg9
  z9 := Tryd.sizeOf9
  v9 := Tryd.zeroValue9 }
open Go.RowKit Go.Lib in
/-- strings.TrimPrefix: "TrimPrefix returns s without the provided leading prefix string. If s doesn't start with prefix, s is returned unchanged.": IT RETURNS 'Lib.trimPrefix s prefix'; the world is as it was. (LAID: no walk: one application.) -/
theorem Tryd.strings_TrimPrefix (s p : ByteArray) (w : World) :
    Calls Tryd.prog 61 #[.string s, .string p] w fun e w' => e = .returned (.string ⟨(Lib.trimPrefix s.data.toList p.data.toList).toArray⟩) ∧ w' = w := Any.strings_TrimPrefix Tryd.lays101 s p w
end Go.Proofs

/- spec.TextOk walked. -/
namespace Go.Proofs.YtogkcphobhhbdaaDoor
open Go Go.RowKit Go.Lib
namespace Sc
open Ev
set_option maxRecDepth 100000

/-- A rune that no text here may hold. -/
def badR (r : Int) : Bool := r == 65533 || r == 0 || r == 65279
def textOkN (s : ByteArray) : Nat → Nat → Bool
  | 0, _ => true
  | n + 1, p => if p < s.size then (if badR (Utf8.decode s p).1 = true then false else textOkN s n (p + (Utf8.decode s p).2)) else true
/-- TextOk. -/
def textOkF (s : ByteArray) : Bool := textOkN s (s.size + 1) 0 && decide (s.size ≤ 60)
/-- Known slots of a frame of 23. -/
structure ST (v0 vi : Value) (a : Act) : Prop where
  defers : a.defers = []
  size : a.tmps.size = 23
  s0 : a.tmps[0]? = some v0
  s6 : a.tmps[6]? = some vi
theorem ST.lit {v0 vi : Value} {a : Act} (h : ST v0 vi a) : ∃ x : Nat → Value, a = { tmps := #[v0, x 1, x 2, x 3, x 4, x 5, vi, x 7, x 8, x 9, x 10, x 11, x 12, x 13, x 14, x 15, x 16, x 17, x 18, x 19, x 20, x 21, x 22], defers := [] } := by
  refine ⟨fun i => a.tmps.getD i undef, ?_⟩
  obtain ⟨t, d⟩ := a
  obtain ⟨h1, h2, k0, k6⟩ := h
  simp only at h1 h2 k0 k6
  subst h1
  have e0 : t.getD 0 undef = v0 := by rw [Array.getD_eq_getD_getElem?, k0]; rfl
  have e6 : t.getD 6 undef = vi := by rw [Array.getD_eq_getD_getElem?, k6]; rfl
  have ht := tmpsN 23 t h2
  rw [← e0, ← e6]
  exact congrArg (fun t => ({ tmps := t, defers := [] } : Act)) ht
theorem ST.of {v0 vi : Value} (x : Nat → Value) : ST v0 vi { tmps := #[v0, x 1, x 2, x 3, x 4, x 5, vi, x 7, x 8, x 9, x 10, x 11, x 12, x 13, x 14, x 15, x 16, x 17, x 18, x 19, x 20, x 21, x 22], defers := [] } := ⟨rfl, rfl, rfl, rfl⟩

noncomputable abbrev tkBody : Code := bodyOf Tryd.f17
noncomputable abbrev tkLoop : Code := loopOf (blkOf tkBody 0)
theorem tk_end {w : World} {s : ByteArray} {k pos : Nat} (hk : w.heap[k]? = some (.stringIter s pos)) (h : ¬ pos < s.size)
    (a : Act) (hz : ST (.string s) (.pointer (some ⟨k, 0, none⟩)) a) (Q : Exit → Act → World → Prop) (hQ : ∀ a', ST (.string s) (.pointer (some ⟨k, 0, none⟩)) a' → Q (.exit 0) a' w) : tkLoop.wp Tryd.prog Q a w := by
  obtain ⟨x, rfl⟩ := hz.lit
  clear hz
  have hx := fun ty => run_next_end_at (P := Tryd.prog) w k s pos ty hk h
  simp only [tkLoop, tkBody, bodyOf, Tryd.f17, Option.getD, blkOf, loopOf, cond, Nat.beq]
  go_wp2_with fail
  exact ⟨rfl, rfl, rfl, rfl⟩
theorem tk_bad {w : World} {s : ByteArray} {k pos : Nat} (hk : w.heap[k]? = some (.stringIter s pos)) (h : pos < s.size) (hb : badR (Utf8.decode s pos).1 = true)
    (a : Act) (hz : ST (.string s) (.pointer (some ⟨k, 0, none⟩)) a) (Q : Exit → Act → World → Prop) (hQ : ∀ a' w', a'.defers = [] → a'.tmps[2]? = some (.bool false) → Below k w w' → Q .ret a' w') : tkLoop.wp Tryd.prog Q a w := by
  obtain ⟨x, rfl⟩ := hz.lit
  clear hz
  have hx := fun ty => run_next_any_at (P := Tryd.prog) w k s pos ty hk h
  have hB := below_iterAt (Below.refl k w) (Nat.le_refl k) s (pos + (Utf8.decode s pos).2)
  generalize w.iterAt k s (pos + (Utf8.decode s pos).2) = w1 at hx hB
  generalize ((Utf8.decode s pos).1 : Int) = r at hx hb
  simp only [tkLoop, tkBody, bodyOf, Tryd.f17, Option.getD, blkOf, loopOf, cond, Nat.beq]
  unfold badR at hb
  go_wp2_with fail
  all_goals exact hQ _ _ rfl rfl hB
theorem tk_good {w : World} {s : ByteArray} {k pos : Nat} (hk : w.heap[k]? = some (.stringIter s pos)) (h : pos < s.size) (hb : badR (Utf8.decode s pos).1 = false)
    (a : Act) (hz : ST (.string s) (.pointer (some ⟨k, 0, none⟩)) a) (Q : Exit → Act → World → Prop) (hQ : ∀ a', ST (.string s) (.pointer (some ⟨k, 0, none⟩)) a' → Q .normal a' (w.iterAt k s (pos + (Utf8.decode s pos).2))) : tkLoop.wp Tryd.prog Q a w := by
  obtain ⟨x, rfl⟩ := hz.lit
  clear hz
  have hx := fun ty => run_next_any_at (P := Tryd.prog) w k s pos ty hk h
  generalize w.iterAt k s (pos + (Utf8.decode s pos).2) = w1 at hx hQ
  generalize ((Utf8.decode s pos).1 : Int) = r at hx hb
  simp only [tkLoop, tkBody, bodyOf, Tryd.f17, Option.getD, blkOf, loopOf, cond, Nat.beq]
  unfold badR at hb
  simp only [Bool.or_eq_false_iff] at hb
  obtain ⟨⟨b1, b2⟩, b3⟩ := hb
  go_wp2_with fail
  exact ⟨rfl, rfl, rfl, rfl⟩
theorem textOkN_more (s : ByteArray) : ∀ (n m p : Nat), s.size ≤ p + n → s.size ≤ p + m → textOkN s n p = textOkN s m p
  | 0, 0, _, _, _ => rfl
  | 0, m + 1, p, h, _ => by simp only [textOkN]; rw [if_neg (by omega)]
  | n + 1, 0, p, _, h => by simp only [textOkN]; rw [if_neg (by omega)]
  | n + 1, m + 1, p, h1, h2 => by
    have := (dec_pos s p).1
    simp only [textOkN]
    rw [textOkN_more s n m _ (by omega) (by omega)]
theorem tk_loop {s : ByteArray} {k : Nat} {w0 : World} (Q : Exit → Act → World → Prop) :
    ∀ (d pos : Nat) (a : Act) (w : World), s.size ≤ pos + d → w.heap[k]? = some (.stringIter s pos) → ST (.string s) (.pointer (some ⟨k, 0, none⟩)) a → Below k w0 w →
      (textOkN s d pos = false → ∀ a w, a.defers = [] → a.tmps[2]? = some (.bool false) → Below k w0 w → Q .ret a w) →
      (textOkN s d pos = true → ∀ a w, ST (.string s) (.pointer (some ⟨k, 0, none⟩)) a → Below k w0 w → Q .normal a w) →
      Code.rounds Tryd.prog tkLoop (Exit.inBlock 0 Q) (d + 1) a w
  | 0, pos, a, w, hd, hk, hz, hB, h1, h2 => by
    rw [rounds_succ]
    exact tk_end hk (by omega) a hz _ (fun a' z' => h2 rfl a' w z' hB)
  | d + 1, pos, a, w, hd, hk, hz, hB, h1, h2 => by
    rw [rounds_succ]
    by_cases hp : pos < s.size
    · simp only [textOkN, if_pos hp] at h1 h2
      cases hb : badR (Utf8.decode s pos).1 with
      | true =>
        rw [hb, if_pos rfl] at h1
        exact tk_bad hk hp hb a hz _ (fun a' w' d0 d2 b' => h1 rfl a' w' d0 d2 (hB.trans b'))
      | false =>
        rw [hb, if_neg (by simp)] at h1 h2
        refine tk_good hk hp hb a hz _ (fun a' z' => ?_)
        have := (dec_pos s pos).1
        exact tk_loop Q d _ a' _ (by omega) (iterAt_heap w k s pos _ hk) z' (below_iterAt hB (Nat.le_refl k) s _) h1 h2
    · have e : textOkN s (d + 1) pos = true := by simp only [textOkN, if_neg hp]
      exact tk_end hk hp a hz _ (fun a' z' => h2 e a' w z' hB)
noncomputable abbrev tkP (n : Nat) : Code := fstC (cutTail n tkBody)
theorem tk_body : (Tryd.f17).body = some (.seq (tkP 0) (.seq (.seq (fstC (tkP 1)) (.block 0 (.loop tkLoop))) (cutTail 2 tkBody))) := by kernel_rfl
theorem tk_first {w : World} {s : ByteArray} (B C : Code) (Q : Exit → Act → World → Prop)
    (hQ : ∀ a, ST (.string s) (.pointer (some ⟨w.heap.size, 0, none⟩)) a → B.wp Tryd.prog (Exit.then (fun a w => C.wp Tryd.prog Q a w) Q) a (w.iter s 0)) :
    (Code.seq (tkP 0) (.seq (.seq (fstC (tkP 1)) B) C)).wp Tryd.prog Q { tmps := #[.string s] ++ Array.replicate 22 undef, defers := [] } w := by
  simp only [tkP, fstC, tkBody, bodyOf, Tryd.f17, Option.getD, cutTail, cutN, Option.map, Array.replicate_succ, Array.replicate_zero, List.push_toArray, List.append_toArray, List.nil_append, List.cons_append]
  go_wp2_with fail
  rename_i K hK
  refine Code.wp_mono (fun e a w h => ?_) (hQ _ ⟨rfl, rfl, rfl, rfl⟩)
  cases e <;> first | exact hK _ _ h | exact h
theorem tk_last {w : World} {s : ByteArray} {v : Value} (a : Act) (hz : ST (.string s) v a) (Q : Exit → Act → World → Prop)
    (hQ : ∀ a', a'.defers = [] → a'.tmps[2]? = some (.bool (decide (s.size ≤ 60))) → Q .ret a' w) : (cutTail 2 tkBody).wp Tryd.prog Q a w := by
  obtain ⟨x, rfl⟩ := hz.lit
  clear hz
  simp only [tkBody, bodyOf, Tryd.f17, Option.getD, cutTail, cutN, Option.map]
  go_wp2_with fail
  exact hQ _ rfl (by simp; omega)
theorem textOk_walk (w : World) (s : ByteArray) : Calls Tryd.prog 17 #[.string s] w fun e w' => e = .returned (.bool (textOkF s)) ∧ Below w.heap.size w w' := by
  refine calls_of_wp Tryd.func17 tk_body ?_
  have hnt : (Tryd.f17).ntmps - (#[.string s] : Array Value).size = 22 := by kernel_rfl
  rw [hnt]
  have hB0 : Below w.heap.size w (w.iter s 0) := Below.alloc (Below.refl _ _) (Nat.le_refl _) _
  refine tk_first _ _ _ (fun a z => ?_)
  refine wp_block (wp_loop_rounds (s.size + 1 + 1) ?_)
  have hsz : ∀ w', Below w.heap.size (w.iter s 0) w' → Below w.heap.size w w' := fun w' h => hB0.trans h
  refine tk_loop (k := w.heap.size) (w0 := w.iter s 0) _ (s.size + 1) 0 a _ (by omega) (World.iter_heap w s 0) z (Below.refl _ _) (fun hf a2 w2 d0 d2 b2 => ?_) (fun hf a2 w2 z2 b2 => ?_)
  · exact ⟨d0, _, one_res (k := 2) (by kernel_rfl) d2, by unfold textOkF; rw [hf]; rfl, hsz _ b2⟩
  · show (cutTail 2 tkBody).wp _ _ a2 w2
    exact tk_last a2 z2 _ (fun a3 d0 d2 => ⟨d0, _, one_res (k := 2) (by kernel_rfl) d2, by unfold textOkF; rw [hf]; rfl, hsz _ b2⟩)
end Sc
end Go.Proofs.YtogkcphobhhbdaaDoor

/- Plain: a text within a text; texts that TextOk takes are characters that follow one another. -/
namespace Go.Proofs.YtogkcphobhhbdaaDoor
open Go Go.RowKit Go.Lib
namespace Sc
open Ev
set_option maxRecDepth 100000

/-- A text stands in another one from k on. -/
structure Sub (T : ByteArray) (k : Nat) (s : ByteArray) : Prop where
  le : k + s.size ≤ T.size
  get : ∀ j, j < s.size → T.get! (k + j) = s.get! j
theorem decodeN_same {n m b0 b1 b2 b3 c1 c2 c3 : Nat} (hnm : n ≤ m) (h1 : 1 < n → c1 = b1) (h2 : 2 < n → c2 = b2) (h3 : 3 < n → c3 = b3) (hne : (decodeN n b0 b1 b2 b3).1 ≠ 65533) : decodeN m b0 c1 c2 c3 = decodeN n b0 b1 b2 b3 := by
  unfold decodeN at hne ⊢
  by_cases k0 : b0 < 128
  · rw [if_pos k0, if_pos k0]
  · rw [if_neg k0] at hne
    rw [if_neg k0, if_neg k0]
    by_cases k1 : b0 / 32 = 6 ∧ (1 < n ∧ b1 / 64 = 2)
    · have e1 := h1 k1.2.1
      subst e1
      rw [if_pos k1, if_pos ⟨k1.1, by omega, k1.2.2⟩]
    · rw [if_neg k1] at hne
      by_cases k2 : b0 / 16 = 14 ∧ (1 < n ∧ b1 / 64 = 2) ∧ (2 < n ∧ b2 / 64 = 2)
      · have e1 := h1 k2.2.1.1
        have e2 := h2 k2.2.2.1
        subst e1 e2
        have k1' : ¬ (b0 / 32 = 6 ∧ (1 < m ∧ c1 / 64 = 2)) := fun h => by have := k2.1; have := h.1; omega
        rw [if_neg k1, if_pos k2, if_neg k1', if_pos ⟨k2.1, ⟨by omega, k2.2.1.2⟩, by omega, k2.2.2.2⟩]
      · rw [if_neg k2] at hne
        by_cases k3 : b0 / 8 = 30 ∧ (1 < n ∧ b1 / 64 = 2) ∧ (2 < n ∧ b2 / 64 = 2) ∧ (3 < n ∧ b3 / 64 = 2)
        · have e1 := h1 k3.2.1.1
          have e2 := h2 k3.2.2.1.1
          have e3 := h3 k3.2.2.2.1
          subst e1 e2 e3
          have k1' : ¬ (b0 / 32 = 6 ∧ (1 < m ∧ c1 / 64 = 2)) := fun h => by have := k3.1; have := h.1; omega
          have k2' : ¬ (b0 / 16 = 14 ∧ (1 < m ∧ c1 / 64 = 2) ∧ (2 < m ∧ c2 / 64 = 2)) := fun h => by have := k3.1; have := h.1; omega
          rw [if_neg k1, if_neg k2, if_pos k3, if_neg k1', if_neg k2', if_pos ⟨k3.1, ⟨by omega, k3.2.1.2⟩, ⟨by omega, k3.2.2.1.2⟩, by omega, k3.2.2.2.2⟩]
        · rw [if_neg k3] at hne
          exact absurd rfl hne
theorem dec_same {s T : ByteArray} {i k : Nat} (hi : i < s.size) (h : Sub T k s) (hne : (Utf8.decode s i).1 ≠ 65533) : Utf8.decode T (k + i) = Utf8.decode s i := by
  have ht := h.le
  have g : ∀ m, i + m < s.size → T.get! (k + i + m) = s.get! (i + m) := fun m hm => by
    rw [Nat.add_assoc]; exact h.get _ hm
  have g0 := h.get i hi
  rw [decode_at] at hne ⊢
  rw [decode_at, g0]
  exact decodeN_same (by omega) (fun h => by rw [g 1 (by omega)]) (fun h => by rw [g 2 (by omega)]) (fun h => by rw [g 3 (by omega)]) hne
/-- A text that TextOk takes is characters that follow one another, wherever it stands. -/
theorem textOkN_cl {s T : ByteArray} {k : Nat} (h : Sub T k s) : ∀ (n p : Nat), s.size ≤ p + n → p ≤ s.size → textOkN s n p = true →
    Cl T (k + p) (runesAt s n p) (k + s.size) ∧ ∀ r ∈ runesAt s n p, r ≠ 65533 ∧ r ≠ 0 ∧ r ≠ 65279 ∧ (r < 128 → ∃ j, j < s.size ∧ ((s.get! j).toNat : Int) = r) := by
  intro n
  induction n with
  | zero =>
    intro p h1 h2 _
    have : p = s.size := by omega
    subst this
    exact ⟨.nil, fun r hr => absurd hr List.not_mem_nil⟩
  | succ n ih =>
    intro p h1 h2 ho
    by_cases hp : p < s.size
    · simp only [textOkN, if_pos hp] at ho
      by_cases hb : badR (Utf8.decode s p).1 = true
      · rw [if_pos hb] at ho; cases ho
      · rw [if_neg hb] at ho
        have hb' : ((Utf8.decode s p).1 : Int) ≠ 65533 ∧ ((Utf8.decode s p).1 : Int) ≠ 0 ∧ ((Utf8.decode s p).1 : Int) ≠ 65279 := by
          unfold badR at hb
          simp only [Bool.or_eq_true, beq_iff_eq, not_or] at hb
          exact ⟨hb.1.1, hb.1.2, hb.2⟩
        have dp := dec_pos s p
        have dl := dec_le s p hp
        obtain ⟨c1, c2⟩ := ih (p + (Utf8.decode s p).2) (by omega) dl ho
        have ds := dec_same hp h (by omega)
        have gp : T.get! (k + p) = s.get! p := h.get p hp
        have hT : k + p < T.size := by have := h.le; omega
        have hc : ChAt T (k + p) (Utf8.decode s p).1 (Utf8.decode s p).2 := by
          refine ⟨hT, ?_⟩
          rw [gp, ds]
          by_cases hb1 : (s.get! p).toNat < 128
          · have e : Utf8.decode s p = ((s.get! p).toNat, 1) := by
              have hb1' : (s.get! (p + 0)).toNat < 128 := hb1
              unfold Utf8.decode
              simp only [hb1', if_true]
              rfl
            rw [e] at hb'
            exact .inl ⟨hb1, by simp only at hb'; omega, by rw [e], by rw [e]⟩
          · exact .inr ⟨hb1, by omega, by omega, rfl, rfl⟩
        simp only [runesAt, if_pos hp]
        refine ⟨.cons hc (by rw [Nat.add_assoc]; exact c1), fun r hr => ?_⟩
        rcases List.mem_cons.1 hr with rfl | hr
        · refine ⟨hb'.1, hb'.2.1, hb'.2.2, fun hlt => ⟨p, hp, ?_⟩⟩
          have := (hc.byte hlt).1
          rw [gp] at this
          exact this.symm
        · exact c2 r hr
    · have : p = s.size := by omega
      subst this
      simp only [runesAt, if_neg hp]
      exact ⟨.nil, fun r hr => absurd hr List.not_mem_nil⟩
/-- A text's characters. -/
def runes (s : ByteArray) : List Int := runesAt s (s.size + 1) 0
theorem textOk_cl {s T : ByteArray} {k : Nat} (h : Sub T k s) (ho : textOkF s = true) :
    s.size ≤ 60 ∧ Cl T k (runes s) (k + s.size) ∧ ∀ r ∈ runes s, r ≠ 65533 ∧ r ≠ 0 ∧ r ≠ 65279 ∧ (r < 128 → ∃ j, j < s.size ∧ ((s.get! j).toNat : Int) = r) := by
  unfold textOkF at ho
  simp only [Bool.and_eq_true, decide_eq_true_eq] at ho
  have := textOkN_cl h (s.size + 1) 0 (by omega) (Nat.zero_le _) ho.1
  exact ⟨ho.2, this⟩
end Sc
end Go.Proofs.YtogkcphobhhbdaaDoor

/- Plain: a text of one literal; texts put together. -/
namespace Go.Proofs.YtogkcphobhhbdaaDoor
open Go Go.RowKit Go.Lib
namespace Sc
open Ev
set_option maxRecDepth 100000

theorem app_list (a b : ByteArray) : (a ++ b).data.toList = a.data.toList ++ b.data.toList := by
  rw [ByteArray.data_append, Array.toList_append]
theorem app_size (a b : ByteArray) : (a ++ b).size = a.size + b.size := ByteArray.size_append
theorem get_left (a b : ByteArray) (i : Nat) (h : i < a.size) : (a ++ b).get! i = a.get! i := by
  rw [get_list, get_list, app_list]
  have hl : i < a.data.toList.length := by rw [size_toList]; exact h
  simp only [List.getD_eq_getElem?_getD]
  rw [List.getElem?_append_left hl]
theorem get_right (a b : ByteArray) (i : Nat) : (a ++ b).get! (a.size + i) = b.get! i := by
  rw [get_list, get_list, app_list]
  have hl : a.data.toList.length = a.size := size_toList a
  simp only [List.getD_eq_getElem?_getD]
  rw [List.getElem?_append_right (by omega), hl, Nat.add_sub_cancel_left]
theorem sub_self (a : ByteArray) : Sub a 0 a := ⟨by omega, fun j _ => by rw [Nat.zero_add]⟩
theorem Sub.left {T a : ByteArray} {k : Nat} (h : Sub T k a) (b : ByteArray) : Sub (T ++ b) k a := by
  have hl := h.le
  exact ⟨by rw [app_size]; omega, fun j hj => by rw [get_left _ _ _ (by omega)]; exact h.get j hj⟩
theorem Sub.right {T a : ByteArray} {k : Nat} (h : Sub T k a) (b : ByteArray) : Sub (b ++ T) (b.size + k) a := by
  have hl := h.le
  exact ⟨by rw [app_size]; omega, fun j hj => by rw [Nat.add_assoc, get_right]; exact h.get j hj⟩
theorem Sub.byte {T a : ByteArray} {k : Nat} (h : Sub T k a) {j : Nat} (hj : j < a.size) : T.get! (k + j) = a.get! j := h.get j hj
/-- A byte that is a sign of its own. -/
theorem Sub.chAt {T : ByteArray} {k : Nat} {b : UInt8} (h : Sub T k ⟨#[b]⟩) (h1 : b.toNat < 128) (h2 : b.toNat ≠ 0) : ChAt T k b.toNat 1 := by
  have e : T.get! (k + 0) = b := h.get 0 (by show 0 < 1; decide)
  rw [Nat.add_zero] at e
  have hl := h.le
  have hs : (⟨#[b]⟩ : ByteArray).size = 1 := rfl
  have := chAt_byte (src := T) (p := k) (by omega) (by rw [e]; exact h1) (by rw [e]; exact h2)
  rw [e] at this
  exact this

/-! A text of one literal. -/
/-- The text's only token, but for the semicolon that is put in, and the end. -/
structure One (src : ByteArray) (s : St) : Prop where
  toks : ∃ s2 s3, toks src 0 = [s, s2, s3] ∧ s2.tok = 18 ∧ s2.lit = wEOF ∧ s3.tok = 1
  notes : (last src 0).notes = []
def litW (T : ByteArray) (k : Int) : WTok := ⟨2, T, k, 0, 0⟩
theorem word_lit : (tokWord 3).toList = [108, 105, 116, 101, 114, 97, 108] := by kernel_rfl
theorem word_semi : (tokWord 18).toList = [59] := by kernel_rfl
theorem like_end {s : St} (h : s.tok = 1) : Like s endW := by
  refine ⟨?_, fun h => by cases h⟩
  rw [h]
  show toldF (tokWord 1) _ _ = (0, ⟨#[]⟩)
  unfold toldF
  rw [if_pos word_one]
theorem like_semi {s : St} (h : s.tok = 18) (h2 : s.lit = wEOF) : Like s semiW := by
  refine ⟨?_, fun h => by cases h⟩
  rw [h, h2]
  show toldF (tokWord 18) wEOF (opStr s.op) = (4, ⟨#[]⟩)
  unfold toldF
  have e : wEOF.toList = [69, 79, 70] := by kernel_rfl
  rw [word_semi, e]
  rfl
theorem like_lit {s : St} {k : Int} (h : s.tok = 3) (hk : s.kind = k) (hb : s.bad = false) (h0 : 0 ≤ k) (h9 : k ≤ 9) : Like s (litW s.lit k) := by
  refine ⟨?_, fun _ => ⟨by rw [hk]; show wrap64 k = k; unfold wrap64; omega, hb⟩⟩
  rw [h]
  show toldF (tokWord 3) s.lit (opStr s.op) = (2, s.lit)
  unfold toldF
  rw [word_lit]
  rfl
/-- What closed makes of one token that a semicolon follows. -/
theorem closed_one {t : WTok} (h : endsW t = true) : closedF [t] t = [t, semiW, endW] := by
  unfold closedF
  rw [if_pos h]
  rfl
theorem One.like {src : ByteArray} {s : St} {t : WTok} (h : One src s) (ht : Like s t) (he : endsW t = true) : LikeAll (Sc.toks src 0) (closedF [t] t) := by
  obtain ⟨s2, s3, e, h2, h2', h3⟩ := h.toks
  rw [e, closed_one he]
  refine ⟨rfl, fun i a b ha hb => ?_⟩
  match i, ha, hb with
  | 0, ha, hb => cases ha; cases hb; exact ht
  | 1, ha, hb => cases ha; cases hb; exact like_semi h2 h2'
  | 2, ha, hb => cases ha; cases hb; exact like_end h3
theorem ends_lit (T : ByteArray) (k : Int) : endsW (litW T k) = true := rfl

/-! A raw string. -/
theorem index_no {s : ByteArray} {c : UInt8} (h : ¬ (0 : Int) ≤ Lib.indexByte s.data.toList c) {j : Nat} (hj : j < s.size) : s.get! j ≠ c := by
  have h1 := Lib.indexByte_ge s.data.toList c
  have h2 : Lib.indexByte s.data.toList c = -1 := by omega
  have h3 := Lib.indexByte_none h2 j
  intro e
  apply h3
  rw [get_list] at e
  have hl : j < s.data.toList.length := by rw [size_toList]; exact hj
  rw [List.getElem?_eq_getElem hl]
  rw [List.getD_eq_getElem?_getD, List.getElem?_eq_getElem hl] at e
  simpa using e
def bq : ByteArray := ⟨#[96]⟩
theorem raw_law {s : ByteArray} (h : textOkF s = true) (hn : ¬ (0 : Int) ≤ Lib.indexByte s.data.toList 96) :
    LikeAll (Sc.toks (bq ++ s ++ bq) 0) (closedF [litW (bq ++ s ++ bq) 4] (litW (bq ++ s ++ bq) 4)) ∧ (last (bq ++ s ++ bq) 0).notes = [] := by
  have b1 : bq.size = 1 := rfl
  have sz : (bq ++ s ++ bq).size = s.size + 2 := by rw [app_size, app_size, b1]; omega
  have s1 : Sub (bq ++ s ++ bq) 1 s := ((sub_self s).right bq).left bq
  have s0 : Sub (bq ++ s ++ bq) 0 bq := ((sub_self bq).left s).left bq
  have s2 : Sub (bq ++ s ++ bq) (1 + s.size) bq := by
    have := (sub_self bq).right (bq ++ s)
    rw [app_size, b1, Nat.add_zero] at this
    exact this
  obtain ⟨hs, c1, c2⟩ := textOk_cl s1 h
  have c0 : ChAt (bq ++ s ++ bq) 0 96 1 := s0.chAt (b := 96) (by decide) (by decide)
  have c3 : ChAt (bq ++ s ++ bq) (1 + s.size) 96 1 := s2.chAt (b := 96) (by decide) (by decide)
  obtain ⟨x, x2, x3, t1, ⟨t2, t3, t4, t5⟩, t6, t7, t8, t9⟩ := raw_tok (by omega) c0 c1 (fun r hr e => by
    subst e
    obtain ⟨j, hj, hj2⟩ := (c2 _ hr).2.2.2 (by decide)
    refine index_no hn hj (UInt8.toNat_inj.1 ?_)
    have : ((96 : UInt8).toNat : Int) = 96 := by decide
    omega) c3 (by omega)
  have hO : One (bq ++ s ++ bq) x := ⟨⟨x2, x3, t1, t6, t7, t8⟩, t9⟩
  have hL := like_lit (k := 4) t2 t4 t5 (by decide) (by decide)
  rw [t3] at hL
  exact ⟨hO.like hL (ends_lit _ _), t9⟩
end Sc
end Go.Proofs.YtogkcphobhhbdaaDoor

/- FnRaw walked: true at every text. -/
namespace Go.Proofs.YtogkcphobhhbdaaDoor
open Go Go.RowKit Go.Lib
namespace Sc
open Ev
set_option maxRecDepth 100000

theorem indexByte_walk (w : World) (s : ByteArray) (c : Int) : Calls Tryd.prog 18 #[.string s, .int .u8 c] w fun e w' => e = .returned (.int .i64 (Lib.indexByte s.data.toList c.toNat.toUInt8)) ∧ w' = w := by
  go_enter Tryd.func18, Tryd.ntmps18
  go_wp2_with (go_at_call 31; refine (Tryd.stringslite_IndexByte s c _).mono ?_; rintro en w' ⟨rfl, rfl⟩)
  exact ⟨rfl, _, one_res (k := 4) (by kernel_rfl) rfl, rfl, rfl⟩
/-- A row of one token that is wanted, just made. -/
theorem own_one (w : World) (t : WTok) : (w.alloc (.cells (wCells t).toArray 37)).ownsRow w.heap.size 37 5 (.slice (some ⟨w.heap.size, 0, none⟩) [t].length 1) [t].length (flat wCells [t]) :=
  ⟨rfl, .inr ⟨w.heap.size, 1, (wCells t).toArray, rfl, Nat.le_refl _, heap_alloc_new w _, Nat.le_refl _, by decide, rfl, by simp [flat, wCells]⟩⟩
/-- closed, of one token that is just made. -/
theorem closed_one_walk (w : World) (t : WTok) : Calls Tryd.prog 22 #[.slice (some ⟨w.heap.size, 0, none⟩) 1 1] (w.alloc (.cells (wCells t).toArray 37)) fun en w' => ∃ g cap b, en = .returned (.slice (some ⟨g, 0, none⟩) (closedF [t] t).length cap) ∧
      w'.ownsRow b 37 5 (.slice (some ⟨g, 0, none⟩) (closedF [t] t).length cap) (closedF [t] t).length (flat wCells (closedF [t] t)) ∧ Below w.heap.size w w' := by
  refine (closed_walk (W := [t]) (t := t) (j := 0) (own_one w t) rfl (by simp) rfl).mono ?_
  rintro en w' ⟨g, cap, rfl, h1, h2⟩
  exact ⟨g, cap, _, rfl, h1, below_old h2⟩
theorem glob_at {w w' : World} {ea : Addr} (h : Glob w ea) {B : Nat} (hB : Below B w w') (hw : B = w.heap.size) : Glob w' ea := by subst hw; exact glob_move h hB
set_option maxHeartbeats 3200000 in
theorem fnRaw_long {w : World} {s : ByteArray} (h : 150 < s.size) : Calls Tryd.prog 8 #[.string s] w fun en w' => en = .returned (.bool true) ∧ Below w.heap.size w w' := by
  have h1 : (150 : Int) < (s.size : Int) := by omega
  go_enter Tryd.func8, Tryd.ntmps8
  go_wp2_with fail
  all_goals exact ⟨rfl, _, one_res (k := 2) (by kernel_rfl) rfl, rfl, Below.refl _ _⟩
set_option maxHeartbeats 3200000 in
theorem fnRaw_walk {w : World} {ea : Addr} (s : ByteArray) (hG : Glob w ea) : Calls Tryd.prog 8 #[.string s] w fun en w' => en = .returned (.bool true) ∧ Below w.heap.size w w' := by
  by_cases h : 150 < s.size
  · exact fnRaw_long h
  have h1 : ¬ (150 : Int) < (s.size : Int) := by omega
  have h2 : ¬ (2147483647 : Int) < (s.size : Int) := by omega
  have hT := fun w => textOk_walk w s
  have hI := fun w => indexByte_walk w s 96
  rw [show (96 : Int).toNat.toUInt8 = 96 from rfl] at hI
  cases hb : textOkF s with
  | false =>
    rw [hb] at hT
    go_enter Tryd.func8, Tryd.ntmps8
    go_wp2_with (go_at_call 17; refine (hT _).mono ?_; rintro en w1 ⟨rfl, hB1⟩)
    exact ⟨rfl, _, one_res (k := 2) (by kernel_rfl) rfl, rfl, hB1⟩
  | true =>
    rw [hb] at hT
    by_cases hi : (0 : Int) ≤ Lib.indexByte s.data.toList 96
    · generalize Lib.indexByte s.data.toList 96 = ix at hI hi
      have hi' : ¬ ix < 0 := by omega
      go_enter Tryd.func8, Tryd.ntmps8
      go_wp2_with (first
        | (go_at_call 17; refine (hT _).mono ?_; rintro en w1 ⟨rfl, hB1⟩)
        | (go_at_call 18; refine (hI _).mono ?_; rintro en w2 ⟨rfl, rfl⟩))
      all_goals exact ⟨rfl, _, one_res (k := 2) (by kernel_rfl) rfl, by simp [hi], hB1⟩
    · obtain ⟨hA, h0⟩ := raw_law hb hi
      have hsz : (bq ++ s ++ bq).size ≤ 2048 := by
        rw [app_size, app_size]
        show 1 + s.size + 1 ≤ 2048
        omega
      unfold bq at hA h0 hsz
      have hC := fun w => closed_one_walk w (litW (⟨#[96]⟩ ++ s ++ ⟨#[96]⟩) 4)
      have hTo := fun w gw capw b1 hG => toldL_walk (w := w) (ea := ea) (gw := gw) (capw := capw) (b1 := b1) hG hsz hA h0
      clear hA h0
      generalize closedF [litW (⟨#[96]⟩ ++ s ++ ⟨#[96]⟩) 4] (litW (⟨#[96]⟩ ++ s ++ ⟨#[96]⟩) 4) = W at hC hTo
      generalize Lib.indexByte s.data.toList 96 = ix at hI hi
      go_enter Tryd.func8, Tryd.ntmps8
      go_wp2_with (first
        | (go_at_call 21; refine (hTo _ _ _ _ (glob_move (glob_move hG hB1) hB3) hrow).mono ?_; rintro en w4 ⟨rfl, hB4⟩)
        | (go_at_call 22; refine (hC _).mono ?_; rintro en w3 ⟨g, cap, b, rfl, hrow, hB3⟩)
        | (go_at_call 17; refine (hT _).mono ?_; rintro en w1 ⟨rfl, hB1⟩)
        | (go_at_call 18; refine (hI _).mono ?_; rintro en w2 ⟨rfl, rfl⟩))
      all_goals exact ⟨rfl, _, one_res (k := 2) (by kernel_rfl) rfl, rfl, hB1.trans (below_weak (hB3.trans (below_weak hB4 hB3.size)) hB1.size)⟩
end Sc
end Go.Proofs.YtogkcphobhhbdaaDoor

/- Bytes appended beside an iterator. -/
namespace Go.Proofs.YtogkcphobhhbdaaDoor
open Go Go.RowKit Go.Lib
namespace Sc
open Ev
set_option maxRecDepth 100000

/-- Old blocks below B are as they were; a string's iterator, too. -/
structure Frm (B : Nat) (w w' : World) : Prop where
  below : Below B w w'
  iter : ∀ (k : Nat) (s : ByteArray) (pos : Nat), w.heap[k]? = some (Obj.stringIter s pos) → w'.heap[k]? = some (Obj.stringIter s pos)
theorem Frm.refl (B : Nat) (w : World) : Frm B w w := ⟨Below.refl _ _, fun _ _ _ h => h⟩
theorem Frm.trans {B : Nat} {a b c : World} (h : Frm B a b) (h' : Frm B b c) : Frm B a c := ⟨h.below.trans h'.below, fun k s pos h0 => h'.iter k s pos (h.iter k s pos h0)⟩
theorem lt_of_some {w : World} {k : Nat} {o : Obj} (h : w.heap[k]? = some o) : k < w.heap.size := by
  rcases Nat.lt_or_ge k w.heap.size with h1 | h1
  · exact h1
  · rw [Array.getElem?_eq_none h1] at h; cases h
theorem fr_alloc {B : Nat} {w : World} (hB : B ≤ w.heap.size) (o : Obj) : Frm B w (w.alloc o) :=
  ⟨Below.alloc (Below.refl _ _) hB o, fun k s pos h => by rw [(Below.alloc (Below.refl w.heap.size w) (Nat.le_refl _) o).block k (lt_of_some h)]; exact h⟩
/-- Behind an append to a row of the call's own. -/
theorem fr_grown {B n size : Nat} {e : TypeId} {v : Value} {xs : List Value} {w0 w w' : World} (hown : w.ownsRow B e size v n xs) (h : Frm B w0 w) (hB : B ≤ w.heap.size) (o : Obj) (hg : (w.alloc o).grownBy w' v.ownBlock) : Frm B w0 w' := by
  have hk : ∀ k, v.ownBlock = some k → B ≤ k ∧ ∃ c f, w.heap[k]? = some (.cells c e f) := fun k hk => by
    rcases hown.2 with ⟨rfl, _⟩ | ⟨g', cap', cur, rfl, hb, hgg, _⟩
    · cases hk
    · have : some g' = some k := hk
      cases this
      exact ⟨hb, _, _, hgg⟩
  have h1 := h.trans (fr_alloc hB o)
  refine ⟨h1.below.trans ⟨hg.os, hg.tape, hg.output, hg.size, fun k hk' => hg.block k (by simp; omega) (fun e' => ?_)⟩, fun k s pos h0 => ?_⟩
  · have := (hk k e'.symm).1; omega
  · have h2 := h.iter k s pos h0
    have h3 := (fr_alloc hB o).iter k s pos h2
    rw [hg.block k (lt_of_some h3) (fun e' => ?_)]
    · exact h3
    · obtain ⟨_, c, f, h4⟩ := hk k e'.symm
      rw [h4] at h2; cases h2
def bc (l : List Int) : List Value := l.map (fun x => .int .u8 x)
theorem bc_len (l : List Int) : (bc l).length = l.length := by simp [bc]
theorem bc_app (l k : List Int) : bc (l ++ k) = bc l ++ bc k := by simp [bc]
theorem bc_one : ∀ (l : List Int), ∀ u ∈ bc l, u.oneCell' = true := fun l u hu => by
  simp only [bc, List.mem_map] at hu
  obtain ⟨x, _, rfl⟩ := hu
  rfl
theorem info_byte : (Tryd.prog.info? 5).map (fun i => (i.zero, i.size, i.bytes)) = some (some (.int .u8 0), 1, 1) := by kernel_rfl
/-- Bytes more. -/
theorem ba {w : World} {B n : Nat} {v : Value} {xs : List Value} (l : List Int) (m : Nat) (hl : l.length = m) (hm : 0 < m) (hm2 : m ≤ 100) (hown : w.ownsRow B 5 1 v n xs) (hB : B ≤ w.heap.size) (hn : n ≤ 1000000)
    {ops : Array Oper} {rest : List Oper} {o : Oper} {a : Act} {Q : Exit → Act → World → Prop} (hgd : o.guard = none) (s x : Operand)
    (ho : o.op = .call { callee := .builtin .append, args := #[s, x], argTypes := #[45, 45] }) (hs : a.eval s = v) (hx : a.eval x = .slice (some ⟨w.heap.size, 0, none⟩) m m)
    (h : ∀ v' w', w'.ownsRow B 5 1 v' (n + m) (xs ++ bc l) → Frm B w w' → wpList Tryd.prog ops Q rest (a.put o.dst v') w') :
    wpList Tryd.prog ops Q (o :: rest) a (w.alloc (.cells (bc l).toArray 5)) := by
  obtain ⟨i0, hi0, hz0, hz1, hz2⟩ := info_parts info_byte
  have hml : n + m ≤ maxLen := by simp only [maxLen]; omega
  exact wpList_append_lies _ hgd s x 45 ho B 5 i0 _ 1 1 Tryd.underlying45 hi0 hz0 hz1 hz2 rfl (by omega) v n xs hs (own_alloc hown _)
    ⟨w.heap.size, 0, none⟩ m m (bc l) hx (by rw [bc_len, hl, Nat.mul_one]) (World.news_of_block (cs := (bc l).toArray) (t := 5) (fr := (0, 0)) (heap_alloc_new w _)) (bc_one l) hm hml (by omega) (by simp; omega) _ rfl
    (fun g cap w' h1 h2 _ _ => h _ w' h1 (fr_grown hown (Frm.refl B w) hB _ h2))
end Sc
end Go.Proofs.YtogkcphobhhbdaaDoor

/- spec.Quoted walked: the digits of a number. -/
namespace Go.Proofs.YtogkcphobhhbdaaDoor
open Go Go.RowKit Go.Lib
namespace Sc
open Ev
set_option maxRecDepth 100000

/-- Known slots of a frame of 95. -/
structure SQ (v0 v1 v2 vo vr vk vi : Value) (a : Act) : Prop where
  defers : a.defers = []
  size : a.tmps.size = 95
  s0 : a.tmps[0]? = some v0
  s1 : a.tmps[1]? = some v1
  s2 : a.tmps[2]? = some v2
  s7 : a.tmps[7]? = some vo
  s9 : a.tmps[9]? = some vr
  s10 : a.tmps[10]? = some vk
  s14 : a.tmps[14]? = some vi
theorem SQ.lit {v0 v1 v2 vo vr vk vi : Value} {a : Act} (h : SQ v0 v1 v2 vo vr vk vi a) : ∃ x : Nat → Value, a = { tmps := #[v0, v1, v2, x 3, x 4, x 5, x 6, vo, x 8, vr, vk, x 11, x 12, x 13, vi, x 15, x 16, x 17, x 18, x 19, x 20, x 21, x 22, x 23, x 24, x 25, x 26, x 27, x 28, x 29, x 30, x 31, x 32, x 33, x 34, x 35, x 36, x 37, x 38, x 39, x 40, x 41, x 42, x 43, x 44, x 45, x 46, x 47, x 48, x 49, x 50, x 51, x 52, x 53, x 54, x 55, x 56, x 57, x 58, x 59, x 60, x 61, x 62, x 63, x 64, x 65, x 66, x 67, x 68, x 69, x 70, x 71, x 72, x 73, x 74, x 75, x 76, x 77, x 78, x 79, x 80, x 81, x 82, x 83, x 84, x 85, x 86, x 87, x 88, x 89, x 90, x 91, x 92, x 93, x 94], defers := [] } := by
  refine ⟨fun i => a.tmps.getD i undef, ?_⟩
  obtain ⟨t, d⟩ := a
  obtain ⟨h1, h2, k0, k1, k2, k7, k9, k10, k14⟩ := h
  simp only at h1 h2 k0 k1 k2 k7 k9 k10 k14
  subst h1
  have e0 : t.getD 0 undef = v0 := by rw [Array.getD_eq_getD_getElem?, k0]; rfl
  have e1 : t.getD 1 undef = v1 := by rw [Array.getD_eq_getD_getElem?, k1]; rfl
  have e2 : t.getD 2 undef = v2 := by rw [Array.getD_eq_getD_getElem?, k2]; rfl
  have e7 : t.getD 7 undef = vo := by rw [Array.getD_eq_getD_getElem?, k7]; rfl
  have e9 : t.getD 9 undef = vr := by rw [Array.getD_eq_getD_getElem?, k9]; rfl
  have e10 : t.getD 10 undef = vk := by rw [Array.getD_eq_getD_getElem?, k10]; rfl
  have e14 : t.getD 14 undef = vi := by rw [Array.getD_eq_getD_getElem?, k14]; rfl
  have ht := tmpsN 95 t h2
  rw [← e0, ← e1, ← e2, ← e7, ← e9, ← e10, ← e14]
  exact congrArg (fun t => ({ tmps := t, defers := [] } : Act)) ht
theorem SQ.of {v0 v1 v2 vo vr vk vi : Value} (x : Nat → Value) : SQ v0 v1 v2 vo vr vk vi { tmps := #[v0, v1, v2, x 3, x 4, x 5, x 6, vo, x 8, vr, vk, x 11, x 12, x 13, vi, x 15, x 16, x 17, x 18, x 19, x 20, x 21, x 22, x 23, x 24, x 25, x 26, x 27, x 28, x 29, x 30, x 31, x 32, x 33, x 34, x 35, x 36, x 37, x 38, x 39, x 40, x 41, x 42, x 43, x 44, x 45, x 46, x 47, x 48, x 49, x 50, x 51, x 52, x 53, x 54, x 55, x 56, x 57, x 58, x 59, x 60, x 61, x 62, x 63, x 64, x 65, x 66, x 67, x 68, x 69, x 70, x 71, x 72, x 73, x 74, x 75, x 76, x 77, x 78, x 79, x 80, x 81, x 82, x 83, x 84, x 85, x 86, x 87, x 88, x 89, x 90, x 91, x 92, x 93, x 94], defers := [] } := ⟨rfl, rfl, rfl, rfl, rfl, rfl, rfl, rfl, rfl⟩

noncomputable abbrev quBody : Code := bodyOf Tryd.f26
noncomputable abbrev quLoop : Code := loopOf (blkOf quBody 0)
noncomputable abbrev quHex : Code := loopOf (blkOf quLoop 3)
/-- A digit's byte. -/
def hexCh (d : Int) : Int := if d < 10 then 48 + d else 87 + d
def hexAt (r : Int) (k : Nat) : Int := hexCh (r / 2 ^ k % 16)
def digL : ByteArray := ⟨#[48, 49, 50, 51, 52, 53, 54, 55, 56, 57, 97, 98, 99, 100, 101, 102]⟩
theorem hexCh_tab : ∀ d : _root_.Fin 16, ((digL[d.val]'(by have := d.isLt; show d.val < 16; omega)).toNat : Int) = hexCh d.val := by decide
theorem bits15 {x : Int} (h0 : 0 ≤ x) (h1 : x ≤ 1114111) : bits BinOp.and IntKind.i32 x 15 = x % 16 :=
  bits_mask .i32 31 (by decide) (fun n h0 h1 => wraps_i32 n h0 h1) 4 (by decide) x h0 (by omega)
theorem hex_get {r x : Int} {k : Nat} (hx : x = r / 2 ^ k % 16) (h : x.toNat < digL.size) : ((digL[x.toNat]'h).toNat : Int) = hexAt r k := by
  have hd : 0 ≤ x ∧ x < 16 := by omega
  have key := hexCh_tab ⟨x.toNat, by omega⟩
  simp only at key
  rw [show ((x.toNat : Nat) : Int) = x by omega] at key
  unfold hexAt
  rw [← hx, ← key]
set_option maxHeartbeats 3200000 in
theorem qh_round {w : World} {B n k : Nat} {v0 v1 v2 vo vi : Value} {xs : List Value} {r : Int} (hk : k = 0 ∨ k = 4 ∨ k = 8 ∨ k = 12 ∨ k = 16 ∨ k = 20 ∨ k = 24 ∨ k = 28) (hr : 0 ≤ r ∧ r ≤ 1114111) (hown : w.ownsRow B 5 1 vo n xs) (hB : B ≤ w.heap.size) (hn : n ≤ 1000000)
    (a : Act) (hz : SQ v0 v1 v2 vo (.int .i32 r) (.int .i64 k) vi a) (Q : Exit → Act → World → Prop)
    (hQ : ∀ vo' a' w', SQ v0 v1 v2 vo' (.int .i32 r) (.int .i64 ((k : Int) - 4)) vi a' → w'.ownsRow B 5 1 vo' (n + 1) (xs ++ bc [hexAt r k]) → Frm B w w' → Q .normal a' w') : quHex.wp Tryd.prog Q a w := by
  obtain ⟨x, rfl⟩ := hz.lit
  clear hz
  have hq : ∀ d : Int, 0 < d → bits BinOp.and IntKind.i32 (r / d) 15 = r / d % 16 ∧ 0 ≤ r / d % 16 ∧ r / d % 16 < 16 := fun d hd => by
    have h0 : 0 ≤ r / d := Int.ediv_nonneg hr.1 (by omega)
    have h1 : r / d ≤ r := Int.ediv_le_self _ hr.1
    exact ⟨bits15 h0 (by omega), by omega, by omega⟩
  have h00 : bits BinOp.and IntKind.i32 r 15 = r % 16 := bits15 hr.1 hr.2
  have h01 : 0 ≤ r % 16 := by omega
  have h02 : r % 16 < 16 := by omega
  have key : ∀ (k : Nat) (x : Int) (h : x.toNat < digL.size), x = r / 2 ^ k % 16 → ((digL[x.toNat]'h).toNat : Int) = hexAt r k := fun k x h hx => hex_get hx h
  unfold digL at key
  have fin : ∀ (k : Nat) (y : Int) vo' a' w', y = hexAt r k → SQ v0 v1 v2 vo' (.int .i32 r) (.int .i64 ((k : Int) - 4)) vi a' → w'.ownsRow B 5 1 vo' (n + 1) (xs ++ bc [y]) → Frm B w w' →
      (∀ vo' a' w', SQ v0 v1 v2 vo' (.int .i32 r) (.int .i64 ((k : Int) - 4)) vi a' → w'.ownsRow B 5 1 vo' (n + 1) (xs ++ bc [hexAt r k]) → Frm B w w' → Q .normal a' w') → Q .normal a' w' := fun k y vo' a' w' e h1 h2 h3 h4 => by
    subst e
    exact h4 _ _ _ h1 h2 h3
  rcases hk with rfl | rfl | rfl | rfl | rfl | rfl | rfl | rfl
  · simp only [quHex, quLoop, quBody, bodyOf, Tryd.f26, Option.getD, blkOf, loopOf, cond, Nat.beq]
    go_wp2_with (at_builtin; refine ba [_] 1 rfl (by decide) (by decide) hown hB hn (by rfl) _ _ (by rfl) (by rfl) (by rfl) ?_; intro vo' w1 h1 hF)
    exact fin 0 _ _ _ _ (key 0 _ _ (by simp)) ⟨rfl, rfl, rfl, rfl, rfl, rfl, rfl, rfl, rfl⟩ h1 hF hQ
  · obtain ⟨e0, e1, e2⟩ := hq 16 (by decide)
    simp only [quHex, quLoop, quBody, bodyOf, Tryd.f26, Option.getD, blkOf, loopOf, cond, Nat.beq]
    go_wp2_with (at_builtin; refine ba [_] 1 rfl (by decide) (by decide) hown hB hn (by rfl) _ _ (by rfl) (by rfl) (by rfl) ?_; intro vo' w1 h1 hF)
    exact fin 4 _ _ _ _ (key 4 _ _ (by simp)) ⟨rfl, rfl, rfl, rfl, rfl, rfl, rfl, rfl, rfl⟩ h1 hF hQ
  · obtain ⟨e0, e1, e2⟩ := hq 256 (by decide)
    simp only [quHex, quLoop, quBody, bodyOf, Tryd.f26, Option.getD, blkOf, loopOf, cond, Nat.beq]
    go_wp2_with (at_builtin; refine ba [_] 1 rfl (by decide) (by decide) hown hB hn (by rfl) _ _ (by rfl) (by rfl) (by rfl) ?_; intro vo' w1 h1 hF)
    exact fin 8 _ _ _ _ (key 8 _ _ (by simp)) ⟨rfl, rfl, rfl, rfl, rfl, rfl, rfl, rfl, rfl⟩ h1 hF hQ
  · obtain ⟨e0, e1, e2⟩ := hq 4096 (by decide)
    simp only [quHex, quLoop, quBody, bodyOf, Tryd.f26, Option.getD, blkOf, loopOf, cond, Nat.beq]
    go_wp2_with (at_builtin; refine ba [_] 1 rfl (by decide) (by decide) hown hB hn (by rfl) _ _ (by rfl) (by rfl) (by rfl) ?_; intro vo' w1 h1 hF)
    exact fin 12 _ _ _ _ (key 12 _ _ (by simp)) ⟨rfl, rfl, rfl, rfl, rfl, rfl, rfl, rfl, rfl⟩ h1 hF hQ
  · obtain ⟨e0, e1, e2⟩ := hq 65536 (by decide)
    simp only [quHex, quLoop, quBody, bodyOf, Tryd.f26, Option.getD, blkOf, loopOf, cond, Nat.beq]
    go_wp2_with (at_builtin; refine ba [_] 1 rfl (by decide) (by decide) hown hB hn (by rfl) _ _ (by rfl) (by rfl) (by rfl) ?_; intro vo' w1 h1 hF)
    exact fin 16 _ _ _ _ (key 16 _ _ (by simp)) ⟨rfl, rfl, rfl, rfl, rfl, rfl, rfl, rfl, rfl⟩ h1 hF hQ
  · obtain ⟨e0, e1, e2⟩ := hq 1048576 (by decide)
    simp only [quHex, quLoop, quBody, bodyOf, Tryd.f26, Option.getD, blkOf, loopOf, cond, Nat.beq]
    go_wp2_with (at_builtin; refine ba [_] 1 rfl (by decide) (by decide) hown hB hn (by rfl) _ _ (by rfl) (by rfl) (by rfl) ?_; intro vo' w1 h1 hF)
    exact fin 20 _ _ _ _ (key 20 _ _ (by simp)) ⟨rfl, rfl, rfl, rfl, rfl, rfl, rfl, rfl, rfl⟩ h1 hF hQ
  · obtain ⟨e0, e1, e2⟩ := hq 16777216 (by decide)
    simp only [quHex, quLoop, quBody, bodyOf, Tryd.f26, Option.getD, blkOf, loopOf, cond, Nat.beq]
    go_wp2_with (at_builtin; refine ba [_] 1 rfl (by decide) (by decide) hown hB hn (by rfl) _ _ (by rfl) (by rfl) (by rfl) ?_; intro vo' w1 h1 hF)
    exact fin 24 _ _ _ _ (key 24 _ _ (by simp)) ⟨rfl, rfl, rfl, rfl, rfl, rfl, rfl, rfl, rfl⟩ h1 hF hQ
  · obtain ⟨e0, e1, e2⟩ := hq 268435456 (by decide)
    simp only [quHex, quLoop, quBody, bodyOf, Tryd.f26, Option.getD, blkOf, loopOf, cond, Nat.beq]
    go_wp2_with (at_builtin; refine ba [_] 1 rfl (by decide) (by decide) hown hB hn (by rfl) _ _ (by rfl) (by rfl) (by rfl) ?_; intro vo' w1 h1 hF)
    exact fin 28 _ _ _ _ (key 28 _ _ (by simp)) ⟨rfl, rfl, rfl, rfl, rfl, rfl, rfl, rfl, rfl⟩ h1 hF hQ
end Sc
end Go.Proofs.YtogkcphobhhbdaaDoor

/- spec.Quoted walked: a round of its loop. -/
namespace Go.Proofs.YtogkcphobhhbdaaDoor
open Go Go.RowKit Go.Lib
namespace Sc
open Ev
set_option maxRecDepth 100000

/-- A number's digits. -/
def hexes (r : Int) : Nat → List Int
  | 0 => []
  | j + 1 => hexAt r (4 * j) :: hexes r j
theorem qh_out {w : World} {v0 v1 v2 vo vr vi : Value} (a : Act) (hz : SQ v0 v1 v2 vo vr (.int .i64 (-4)) vi a) (Q : Exit → Act → World → Prop)
    (hQ : ∀ a', SQ v0 v1 v2 vo vr (.int .i64 (-4)) vi a' → Q (.exit 3) a' w) : quHex.wp Tryd.prog Q a w := by
  obtain ⟨x, rfl⟩ := hz.lit
  clear hz
  simp only [quHex, quLoop, quBody, bodyOf, Tryd.f26, Option.getD, blkOf, loopOf, cond, Nat.beq]
  go_wp2_with fail
  exact ⟨rfl, rfl, rfl, rfl, rfl, rfl, rfl, rfl, rfl⟩
theorem qh_loop {B : Nat} {v0 v1 v2 vi : Value} {r : Int} (hr : 0 ≤ r ∧ r ≤ 1114111) (Q : Exit → Act → World → Prop) : ∀ (j n : Nat) (vo : Value) (xs : List Value) (a : Act) (w : World), j ≤ 8 → n + j ≤ 1000000 → w.ownsRow B 5 1 vo n xs → B ≤ w.heap.size →
      SQ v0 v1 v2 vo (.int .i32 r) (.int .i64 (4 * (j : Int) - 4)) vi a →
      (∀ vo' a' w', SQ v0 v1 v2 vo' (.int .i32 r) (.int .i64 (-4)) vi a' → w'.ownsRow B 5 1 vo' (n + j) (xs ++ bc (hexes r j)) → Frm B w w' → Q .normal a' w') →
      Code.rounds Tryd.prog quHex (Exit.inBlock 3 Q) (j + 1) a w
  | 0, n, vo, xs, a, w, hj, hn, hown, hB, hz, hQ => by
    rw [rounds_succ]
    exact qh_out a hz _ (fun a' z' => hQ vo a' w z' (by simpa [hexes, bc] using hown) (Frm.refl B w))
  | j + 1, n, vo, xs, a, w, hj, hn, hown, hB, hz, hQ => by
    rw [rounds_succ]
    rw [show 4 * ((j + 1 : Nat) : Int) - 4 = ((4 * j : Nat) : Int) by omega] at hz
    refine qh_round (k := 4 * j) (by omega) hr hown hB (by omega) a hz _ (fun vo' a' w' z' h1 h2 => ?_)
    show Code.rounds Tryd.prog quHex (Exit.inBlock 3 Q) (j + 1) a' w'
    refine qh_loop hr Q j (n + 1) vo' _ a' w' (by omega) (by omega) h1 (Nat.le_trans hB h2.below.size) (by rw [show 4 * (j : Int) - 4 = ((4 * j : Nat) : Int) - 4 by omega]; exact z') (fun vo2 a2 w2 z2 h3 h4 => hQ vo2 a2 w2 z2 ?_ (h2.trans h4))
    rw [show n + (j + 1) = n + 1 + j by omega]
    rw [List.append_assoc, ← bc_app] at h3
    exact h3
/-- Known slots of a frame of 95. -/
structure SQ5 (v0 v1 v2 vo vi : Value) (a : Act) : Prop where
  defers : a.defers = []
  size : a.tmps.size = 95
  s0 : a.tmps[0]? = some v0
  s1 : a.tmps[1]? = some v1
  s2 : a.tmps[2]? = some v2
  s7 : a.tmps[7]? = some vo
  s14 : a.tmps[14]? = some vi
theorem SQ5.lit {v0 v1 v2 vo vi : Value} {a : Act} (h : SQ5 v0 v1 v2 vo vi a) : ∃ x : Nat → Value, a = { tmps := #[v0, v1, v2, x 3, x 4, x 5, x 6, vo, x 8, x 9, x 10, x 11, x 12, x 13, vi, x 15, x 16, x 17, x 18, x 19, x 20, x 21, x 22, x 23, x 24, x 25, x 26, x 27, x 28, x 29, x 30, x 31, x 32, x 33, x 34, x 35, x 36, x 37, x 38, x 39, x 40, x 41, x 42, x 43, x 44, x 45, x 46, x 47, x 48, x 49, x 50, x 51, x 52, x 53, x 54, x 55, x 56, x 57, x 58, x 59, x 60, x 61, x 62, x 63, x 64, x 65, x 66, x 67, x 68, x 69, x 70, x 71, x 72, x 73, x 74, x 75, x 76, x 77, x 78, x 79, x 80, x 81, x 82, x 83, x 84, x 85, x 86, x 87, x 88, x 89, x 90, x 91, x 92, x 93, x 94], defers := [] } := by
  refine ⟨fun i => a.tmps.getD i undef, ?_⟩
  obtain ⟨t, d⟩ := a
  obtain ⟨h1, h2, k0, k1, k2, k7, k14⟩ := h
  simp only at h1 h2 k0 k1 k2 k7 k14
  subst h1
  have e0 : t.getD 0 undef = v0 := by rw [Array.getD_eq_getD_getElem?, k0]; rfl
  have e1 : t.getD 1 undef = v1 := by rw [Array.getD_eq_getD_getElem?, k1]; rfl
  have e2 : t.getD 2 undef = v2 := by rw [Array.getD_eq_getD_getElem?, k2]; rfl
  have e7 : t.getD 7 undef = vo := by rw [Array.getD_eq_getD_getElem?, k7]; rfl
  have e14 : t.getD 14 undef = vi := by rw [Array.getD_eq_getD_getElem?, k14]; rfl
  have ht := tmpsN 95 t h2
  rw [← e0, ← e1, ← e2, ← e7, ← e14]
  exact congrArg (fun t => ({ tmps := t, defers := [] } : Act)) ht
theorem SQ5.of {v0 v1 v2 vo vi : Value} (x : Nat → Value) : SQ5 v0 v1 v2 vo vi { tmps := #[v0, v1, v2, x 3, x 4, x 5, x 6, vo, x 8, x 9, x 10, x 11, x 12, x 13, vi, x 15, x 16, x 17, x 18, x 19, x 20, x 21, x 22, x 23, x 24, x 25, x 26, x 27, x 28, x 29, x 30, x 31, x 32, x 33, x 34, x 35, x 36, x 37, x 38, x 39, x 40, x 41, x 42, x 43, x 44, x 45, x 46, x 47, x 48, x 49, x 50, x 51, x 52, x 53, x 54, x 55, x 56, x 57, x 58, x 59, x 60, x 61, x 62, x 63, x 64, x 65, x 66, x 67, x 68, x 69, x 70, x 71, x 72, x 73, x 74, x 75, x 76, x 77, x 78, x 79, x 80, x 81, x 82, x 83, x 84, x 85, x 86, x 87, x 88, x 89, x 90, x 91, x 92, x 93, x 94], defers := [] } := ⟨rfl, rfl, rfl, rfl, rfl, rfl, rfl⟩

theorem sq5 {v0 v1 v2 vo vr vk vi : Value} {a : Act} (h : SQ v0 v1 v2 vo vr vk vi a) : SQ5 v0 v1 v2 vo vi a := ⟨h.defers, h.size, h.s0, h.s1, h.s2, h.s7, h.s14⟩
/-- What stands for a character between quotes. -/
def quoR (q : Int) (full : Bool) (r : Int) : List Int :=
  if full = true ∨ r = 127 ∨ (r < 32 ∧ r ≠ 10 ∧ r ≠ 9 ∧ r ≠ 13) then [92, 85] ++ hexes r 8
  else if r = 10 then [92, 110] else if r = 9 then [92, 116] else if r = 13 then [92, 114]
  else if r = q ∨ r = 92 then [92, r] else Lib.encodeRuneZ r
theorem own_iter {w : World} {B n size k : Nat} {e : TypeId} {v : Value} {xs : List Value} {s : ByteArray} {pos : Nat} (h : w.ownsRow B e size v n xs) (hk : w.heap[k]? = some (Obj.stringIter s pos)) (pos' : Nat) : (w.iterAt k s pos').ownsRow B e size v n xs := by
  refine ⟨h.1, ?_⟩
  rcases h.2 with hn | ⟨g, cap, cur, hv, hb, hg, rest⟩
  · exact .inl hn
  · refine .inr ⟨g, cap, cur, hv, hb, ?_, rest⟩
    rw [iterAt_other w k g s pos' (fun e => ?_)]
    · exact hg
    · subst e; rw [hg] at hk; cases hk
/-- What a round leaves. -/
structure QuR (B k : Nat) (s : ByteArray) (pos : Nat) (v0 v1 v2 vi vo' : Value) (n : Nat) (xs : List Value) (w : World) (a' : Act) (w' : World) : Prop where
  slots : SQ5 v0 v1 v2 vo' vi a'
  own : w'.ownsRow B 5 1 vo' n xs
  iter : w'.heap[k]? = some (Obj.stringIter s pos)
  below : Below B w w'
/-- A code with another block's inside. -/
def setBlk (i : Nat) (L : Code) : Code → Code
  | .seq a b => .seq (setBlk i L a) (setBlk i L b)
  | .cond o a b => .cond o (setBlk i L a) (setBlk i L b)
  | .block j b => bif Nat.beq j i then .block j L else .block j (setBlk i L b)
  | .loop b => .loop (setBlk i L b)
  | c => c
theorem qu_set : quLoop = setBlk 3 (.loop quHex) quLoop := by kernel_rfl
set_option maxHeartbeats 6400000 in
theorem qu_hex {w : World} {B n k pos : Nat} {s : ByteArray} {q : Int} {full : Bool} {vo : Value} {xs : List Value} (hk : w.heap[k]? = some (Obj.stringIter s pos)) (hB : B ≤ k) (hp : pos < s.size) (hn : n ≤ 100000) (hown : w.ownsRow B 5 1 vo n xs)
    (hx : full = true ∨ ((Utf8.decode s pos).1 : Int) = 127 ∨ (((Utf8.decode s pos).1 : Int) < 32 ∧ ((Utf8.decode s pos).1 : Int) ≠ 10 ∧ ((Utf8.decode s pos).1 : Int) ≠ 9 ∧ ((Utf8.decode s pos).1 : Int) ≠ 13))
    (a : Act) (hz : SQ5 (.string s) (.int .u8 q) (.bool full) vo (.pointer (some ⟨k, 0, none⟩)) a) (Q : Exit → Act → World → Prop) (L : Code)
    (hL : ∀ a' w1 w2 vo1 Q', SQ (.string s) (.int .u8 q) (.bool full) vo1 (.int .i32 (Utf8.decode s pos).1) (.int .i64 28) (.pointer (some ⟨k, 0, none⟩)) a' → w2.ownsRow B 5 1 vo1 (n + 2) (xs ++ bc [92, 85]) → Frm B w1 w2 → B ≤ w1.heap.size → w1.heap[k]? = some (Obj.stringIter s (pos + (Utf8.decode s pos).2)) → Below B w w1 →
      (∀ vo' a'' w3, SQ (.string s) (.int .u8 q) (.bool full) vo' (.int .i32 (Utf8.decode s pos).1) (.int .i64 (-4)) (.pointer (some ⟨k, 0, none⟩)) a'' → w3.ownsRow B 5 1 vo' (n + 2 + 8) (xs ++ bc [92, 85] ++ bc (hexes (Utf8.decode s pos).1 8)) → Frm B w2 w3 → Q' .normal a'' w3) → L.wp Tryd.prog (Exit.inBlock 3 Q') a' w2)
    (hQ : ∀ vo' a' w', QuR B k s (pos + (Utf8.decode s pos).2) (.string s) (.int .u8 q) (.bool full) (.pointer (some ⟨k, 0, none⟩)) vo' (n + 10) (xs ++ bc ([92, 85] ++ hexes (Utf8.decode s pos).1 8)) w a' w' → Q .normal a' w') : (setBlk 3 L quLoop).wp Tryd.prog Q a w := by
  obtain ⟨x, rfl⟩ := hz.lit
  clear hz
  have hx1 := fun ty => run_next_any_at (P := Tryd.prog) w k s pos ty hk hp
  have hF := below_iterAt (Below.refl B w) hB s (pos + (Utf8.decode s pos).2)
  have hO := own_iter hown hk (pos + (Utf8.decode s pos).2)
  have hI := iterAt_heap w k s pos (pos + (Utf8.decode s pos).2) hk
  have hr0 : 0 ≤ ((Utf8.decode s pos).1 : Int) ∧ ((Utf8.decode s pos).1 : Int) ≤ 1114111 := by have := dec_ch s pos; omega
  have hBw : B ≤ (w.iterAt k s (pos + (Utf8.decode s pos).2)).heap.size := by have := lt_of_some hI; omega
  generalize w.iterAt k s (pos + (Utf8.decode s pos).2) = w1 at hx1 hF hO hI hBw
  generalize hpp : pos + (Utf8.decode s pos).2 = pos' at hI hQ hL
  generalize ((Utf8.decode s pos).1 : Int) = r at hx1 hx hr0 hQ hL
  have fin : ∀ w2 vo' a'' w3, Frm B w1 w2 → SQ (.string s) (.int .u8 q) (.bool full) vo' (.int .i32 r) (.int .i64 (-4)) (.pointer (some ⟨k, 0, none⟩)) a'' → w3.ownsRow B 5 1 vo' (n + 2 + 8) (xs ++ bc [92, 85] ++ bc (hexes r 8)) → Frm B w2 w3 → Q .normal a'' w3 := fun w2 vo' a'' w3 f1 z h1 f2 => by
    refine hQ vo' a'' w3 ⟨sq5 z, ?_, (f1.trans f2).iter _ _ _ hI, hF.trans (f1.trans f2).below⟩
    rw [bc_app, ← List.append_assoc]
    exact h1
  simp only [setBlk, quLoop, quBody, bodyOf, Tryd.f26, Option.getD, blkOf, loopOf, cond, Nat.beq]
  cases full with
  | true =>
    go_wp2_with (at_builtin; refine ba [92, 85] 2 rfl (by decide) (by decide) hO hBw (by omega) (by rfl) _ _ (by rfl) (by rfl) (by rfl) ?_; intro vo1 w2 h1 hF1)
    exact hL _ w1 w2 vo1 _ ⟨rfl, rfl, rfl, rfl, rfl, rfl, rfl, rfl, rfl⟩ h1 hF1 hBw hI hF (fun vo' a'' w3 z h2 f2 => fin w2 vo' a'' w3 hF1 z h2 f2)
  | false =>
    rcases hx with hx | hx | ⟨hx, n10, n9, n13⟩
    · cases hx
    · subst hx
      go_wp2_with (at_builtin; refine ba [92, 85] 2 rfl (by decide) (by decide) hO hBw (by omega) (by rfl) _ _ (by rfl) (by rfl) (by rfl) ?_; intro vo1 w2 h1 hF1)
      exact hL _ w1 w2 vo1 _ ⟨rfl, rfl, rfl, rfl, rfl, rfl, rfl, rfl, rfl⟩ h1 hF1 hBw hI hF (fun vo' a'' w3 z h2 f2 => fin w2 vo' a'' w3 hF1 z h2 f2)
    · have e0 : (r == 127) = false := by simp; omega
      have e1 : (r == 10) = false := by simpa using n10
      have e2 : (r == 9) = false := by simpa using n9
      have e3 : (r == 13) = false := by simpa using n13
      have f1 : (r != 10) = true := by simpa using n10
      have f2 : (r != 9) = true := by simpa using n9
      have f3 : (r != 13) = true := by simpa using n13
      go_wp2_with (at_builtin; refine ba [92, 85] 2 rfl (by decide) (by decide) hO hBw (by omega) (by rfl) _ _ (by rfl) (by rfl) (by rfl) ?_; intro vo1 w2 h1 hF1)
      exact hL _ w1 w2 vo1 _ ⟨rfl, rfl, rfl, rfl, rfl, rfl, rfl, rfl, rfl⟩ h1 hF1 hBw hI hF (fun vo' a'' w3 z h2 f2 => fin w2 vo' a'' w3 hF1 z h2 f2)
end Sc
end Go.Proofs.YtogkcphobhhbdaaDoor

/- spec.Quoted walked: a character that needs no digits. -/
namespace Go.Proofs.YtogkcphobhhbdaaDoor
open Go Go.RowKit Go.Lib
namespace Sc
open Ev
set_option maxRecDepth 100000

/-- What the round of a character comes to, that needs no digits. -/
def quS (q r : Int) : List Int := if r = 10 then [92, 110] else if r = 9 then [92, 116] else if r = 13 then [92, 114] else if r = q ∨ r = 92 then [92, r] else Lib.encodeRuneZ r
theorem quoR_small {q r : Int} (h : ¬ (r = 127 ∨ (r < 32 ∧ r ≠ 10 ∧ r ≠ 9 ∧ r ≠ 13))) : quoR q false r = quS q r := by
  unfold quoR quS
  rw [if_neg (by simpa using h)]
set_option maxHeartbeats 6400000 in
theorem qu_small {w : World} {B n k pos : Nat} {s : ByteArray} {q : Int} {vo : Value} {xs : List Value} (hq : q = 34 ∨ q = 39) (hk : w.heap[k]? = some (Obj.stringIter s pos)) (hB : B ≤ k) (hp : pos < s.size) (hn : n ≤ 100000) (hown : w.ownsRow B 5 1 vo n xs)
    (hx : ¬ (((Utf8.decode s pos).1 : Int) = 127 ∨ (((Utf8.decode s pos).1 : Int) < 32 ∧ ((Utf8.decode s pos).1 : Int) ≠ 10 ∧ ((Utf8.decode s pos).1 : Int) ≠ 9 ∧ ((Utf8.decode s pos).1 : Int) ≠ 13)))
    (a : Act) (hz : SQ5 (.string s) (.int .u8 q) (.bool false) vo (.pointer (some ⟨k, 0, none⟩)) a) (Q : Exit → Act → World → Prop) (L : Code)
    (hQ : ∀ vo' a' w', QuR B k s (pos + (Utf8.decode s pos).2) (.string s) (.int .u8 q) (.bool false) (.pointer (some ⟨k, 0, none⟩)) vo' (n + (quS q (Utf8.decode s pos).1).length) (xs ++ bc (quS q (Utf8.decode s pos).1)) w a' w' → Q .normal a' w') : (setBlk 3 L quLoop).wp Tryd.prog Q a w := by
  obtain ⟨x, rfl⟩ := hz.lit
  clear hz
  have hx1 := fun ty => run_next_any_at (P := Tryd.prog) w k s pos ty hk hp
  have hF := below_iterAt (Below.refl B w) hB s (pos + (Utf8.decode s pos).2)
  have hO := own_iter hown hk (pos + (Utf8.decode s pos).2)
  have hI := iterAt_heap w k s pos (pos + (Utf8.decode s pos).2) hk
  have hr0 : 0 ≤ ((Utf8.decode s pos).1 : Int) ∧ ((Utf8.decode s pos).1 : Int) ≤ 1114111 := by have := dec_ch s pos; omega
  have hBw : B ≤ (w.iterAt k s (pos + (Utf8.decode s pos).2)).heap.size := by have := lt_of_some hI; omega
  generalize w.iterAt k s (pos + (Utf8.decode s pos).2) = w1 at hx1 hF hO hI hBw
  generalize hpp : pos + (Utf8.decode s pos).2 = pos' at hI hQ
  generalize ((Utf8.decode s pos).1 : Int) = r at hx1 hx hr0 hQ
  have fin : ∀ (l : List Int) vo' a'' w3, quS q r = l → SQ5 (.string s) (.int .u8 q) (.bool false) vo' (.pointer (some ⟨k, 0, none⟩)) a'' → w3.ownsRow B 5 1 vo' (n + l.length) (xs ++ bc l) → Frm B w1 w3 → Q .normal a'' w3 := fun l vo' a'' w3 e z h1 f2 => by
    subst e
    exact hQ vo' a'' w3 ⟨z, h1, f2.iter _ _ _ hI, hF.trans f2.below⟩
  have e0 : (r == 127) = false := by simp; omega
  simp only [setBlk, quLoop, quBody, bodyOf, Tryd.f26, Option.getD, blkOf, loopOf, cond, Nat.beq]
  by_cases h10 : r = 10
  · subst h10
    go_wp2_with (at_builtin; refine ba [92, 110] 2 rfl (by decide) (by decide) hO hBw (by omega) (by rfl) _ _ (by rfl) (by rfl) (by rfl) ?_; intro vo1 w2 h1 hF1)
    exact fin [92, 110] _ _ _ rfl ⟨rfl, rfl, rfl, rfl, rfl, rfl, rfl⟩ h1 hF1
  have e10 : (r == 10) = false := by simpa using h10
  by_cases h9 : r = 9
  · subst h9
    go_wp2_with (at_builtin; refine ba [92, 116] 2 rfl (by decide) (by decide) hO hBw (by omega) (by rfl) _ _ (by rfl) (by rfl) (by rfl) ?_; intro vo1 w2 h1 hF1)
    exact fin [92, 116] _ _ _ rfl ⟨rfl, rfl, rfl, rfl, rfl, rfl, rfl⟩ h1 hF1
  have e9 : (r == 9) = false := by simpa using h9
  by_cases h13 : r = 13
  · subst h13
    go_wp2_with (at_builtin; refine ba [92, 114] 2 rfl (by decide) (by decide) hO hBw (by omega) (by rfl) _ _ (by rfl) (by rfl) (by rfl) ?_; intro vo1 w2 h1 hF1)
    exact fin [92, 114] _ _ _ rfl ⟨rfl, rfl, rfl, rfl, rfl, rfl, rfl⟩ h1 hF1
  have e13 : (r == 13) = false := by simpa using h13
  have hge : ¬ r < 32 := by omega
  rcases hq with rfl | rfl
  · by_cases hq1 : r = 34
    · subst hq1
      go_wp2_with (at_builtin; refine ba [92, 34] 2 rfl (by decide) (by decide) hO hBw (by omega) (by rfl) _ _ (by rfl) (by rfl) (by rfl) ?_; intro vo1 w2 h1 hF1)
      exact fin [92, 34] _ _ _ rfl ⟨rfl, rfl, rfl, rfl, rfl, rfl, rfl⟩ h1 hF1
    have eq1 : (r == 34) = false := by simpa using hq1
    by_cases h92 : r = 92
    · subst h92
      go_wp2_with (at_builtin; refine ba [92, 92] 2 rfl (by decide) (by decide) hO hBw (by omega) (by rfl) _ _ (by rfl) (by rfl) (by rfl) ?_; intro vo1 w2 h1 hF1)
      exact fin [92, 92] _ _ _ rfl ⟨rfl, rfl, rfl, rfl, rfl, rfl, rfl⟩ h1 hF1
    have e92 : (r == 92) = false := by simpa using h92
    have hA := Tryd.utf8_AppendRune_plain B vo n xs r (by omega) (by omega) w1 hO (by omega) hBw
    go_wp2_with (go_at_call 40; refine hA.mono ?_; rintro en w2 ⟨vo1, rfl, h1, o, hg⟩)
    refine fin (Lib.encodeRuneZ r) _ _ _ ?_ ⟨rfl, rfl, rfl, rfl, rfl, rfl, rfl⟩ ?_ (fr_grown hO (Frm.refl B w1) hBw o hg)
    · unfold quS
      rw [if_neg h10, if_neg h9, if_neg h13, if_neg (by omega)]
    · have : Lib.runeCells r = bc (Lib.encodeRuneZ r) := rfl
      rw [this, bc_len] at h1
      exact h1
  · by_cases hq1 : r = 39
    · subst hq1
      go_wp2_with (at_builtin; refine ba [92, 39] 2 rfl (by decide) (by decide) hO hBw (by omega) (by rfl) _ _ (by rfl) (by rfl) (by rfl) ?_; intro vo1 w2 h1 hF1)
      exact fin [92, 39] _ _ _ rfl ⟨rfl, rfl, rfl, rfl, rfl, rfl, rfl⟩ h1 hF1
    have eq1 : (r == 39) = false := by simpa using hq1
    by_cases h92 : r = 92
    · subst h92
      go_wp2_with (at_builtin; refine ba [92, 92] 2 rfl (by decide) (by decide) hO hBw (by omega) (by rfl) _ _ (by rfl) (by rfl) (by rfl) ?_; intro vo1 w2 h1 hF1)
      exact fin [92, 92] _ _ _ rfl ⟨rfl, rfl, rfl, rfl, rfl, rfl, rfl⟩ h1 hF1
    have e92 : (r == 92) = false := by simpa using h92
    have hA := Tryd.utf8_AppendRune_plain B vo n xs r (by omega) (by omega) w1 hO (by omega) hBw
    go_wp2_with (go_at_call 40; refine hA.mono ?_; rintro en w2 ⟨vo1, rfl, h1, o, hg⟩)
    refine fin (Lib.encodeRuneZ r) _ _ _ ?_ ⟨rfl, rfl, rfl, rfl, rfl, rfl, rfl⟩ ?_ (fr_grown hO (Frm.refl B w1) hBw o hg)
    · unfold quS
      rw [if_neg h10, if_neg h9, if_neg h13, if_neg (by omega)]
    · have : Lib.runeCells r = bc (Lib.encodeRuneZ r) := rfl
      rw [this, bc_len] at h1
      exact h1
end Sc
end Go.Proofs.YtogkcphobhhbdaaDoor

/- spec.Quoted walked whole. -/
namespace Go.Proofs.YtogkcphobhhbdaaDoor
open Go Go.RowKit Go.Lib
namespace Sc
open Ev
set_option maxRecDepth 100000

theorem enc_len (r : Int) : (Lib.encodeRuneZ r).length ≤ 4 := by
  unfold Lib.encodeRuneZ
  repeat' split
  all_goals simp
theorem quoR_len (q : Int) (full : Bool) (r : Int) : (quoR q full r).length ≤ 10 := by
  have h8 : (hexes r 8).length = 8 := rfl
  have he := enc_len r
  unfold quoR
  repeat' split
  all_goals first
    | (simp only [List.length_append, h8]; decide)
    | (simp; done)
    | omega
/-- What stands between the quotes, from a place on. -/
def quoN (s : ByteArray) (q : Int) (full : Bool) : Nat → Nat → List Int
  | 0, _ => []
  | n + 1, p => if p < s.size then quoR q full (Utf8.decode s p).1 ++ quoN s q full n (p + (Utf8.decode s p).2) else []
theorem qu_round {w : World} {B n k pos : Nat} {s : ByteArray} {q : Int} {full : Bool} {vo : Value} {xs : List Value} (hq : q = 34 ∨ q = 39) (hk : w.heap[k]? = some (Obj.stringIter s pos)) (hB : B ≤ k) (hp : pos < s.size) (hn : n ≤ 100000) (hown : w.ownsRow B 5 1 vo n xs)
    (a : Act) (hz : SQ5 (.string s) (.int .u8 q) (.bool full) vo (.pointer (some ⟨k, 0, none⟩)) a) (Q : Exit → Act → World → Prop)
    (hQ : ∀ vo' a' w', QuR B k s (pos + (Utf8.decode s pos).2) (.string s) (.int .u8 q) (.bool full) (.pointer (some ⟨k, 0, none⟩)) vo' (n + (quoR q full (Utf8.decode s pos).1).length) (xs ++ bc (quoR q full (Utf8.decode s pos).1)) w a' w' → Q .normal a' w') : quLoop.wp Tryd.prog Q a w := by
  have hr0 : 0 ≤ ((Utf8.decode s pos).1 : Int) ∧ ((Utf8.decode s pos).1 : Int) ≤ 1114111 := by have := dec_ch s pos; omega
  by_cases hx : full = true ∨ ((Utf8.decode s pos).1 : Int) = 127 ∨ (((Utf8.decode s pos).1 : Int) < 32 ∧ ((Utf8.decode s pos).1 : Int) ≠ 10 ∧ ((Utf8.decode s pos).1 : Int) ≠ 9 ∧ ((Utf8.decode s pos).1 : Int) ≠ 13)
  · have e : quoR q full (Utf8.decode s pos).1 = [92, 85] ++ hexes (Utf8.decode s pos).1 8 := by unfold quoR; rw [if_pos hx]
    have key := qu_hex hk hB hp hn hown hx a hz Q (.loop quHex) (fun a' w1 w2 vo1 Q' z h1 hF hB1 hI hF0 hq' => by
      refine wp_loop_rounds 9 ?_
      refine qh_loop hr0 Q' 8 (n + 2) vo1 _ a' w2 (by decide) (by omega) h1 (Nat.le_trans hB1 hF.below.size) z (fun vo' a'' w3 z3 h3 f3 => hq' vo' a'' w3 z3 h3 f3)) (fun vo' a' w' h => hQ vo' a' w' (by rw [e]; exact h))
    rw [← qu_set] at key
    exact key
  · have hf : full = false := by
      cases full with
      | true => exact absurd (.inl rfl) hx
      | false => rfl
    subst hf
    have hx' : ¬ (((Utf8.decode s pos).1 : Int) = 127 ∨ (((Utf8.decode s pos).1 : Int) < 32 ∧ ((Utf8.decode s pos).1 : Int) ≠ 10 ∧ ((Utf8.decode s pos).1 : Int) ≠ 9 ∧ ((Utf8.decode s pos).1 : Int) ≠ 13)) := fun h => hx (.inr h)
    have key := qu_small hq hk hB hp hn hown hx' a hz Q (.loop quHex) (fun vo' a' w' h => hQ vo' a' w' (by rw [quoR_small hx']; exact h))
    rw [← qu_set] at key
    exact key
theorem qu_end {w : World} {s : ByteArray} {k pos : Nat} {v1 v2 vo : Value} (hk : w.heap[k]? = some (Obj.stringIter s pos)) (h : ¬ pos < s.size)
    (a : Act) (hz : SQ5 (.string s) v1 v2 vo (.pointer (some ⟨k, 0, none⟩)) a) (Q : Exit → Act → World → Prop) (hQ : ∀ a', SQ5 (.string s) v1 v2 vo (.pointer (some ⟨k, 0, none⟩)) a' → Q (.exit 0) a' w) : quLoop.wp Tryd.prog Q a w := by
  obtain ⟨x, rfl⟩ := hz.lit
  clear hz
  have hx := fun ty => run_next_end_at (P := Tryd.prog) w k s pos ty hk h
  simp only [quLoop, quBody, bodyOf, Tryd.f26, Option.getD, blkOf, loopOf, cond, Nat.beq]
  go_wp2_with fail
  exact ⟨rfl, rfl, rfl, rfl, rfl, rfl, rfl⟩
theorem qu_loop {s : ByteArray} {B k : Nat} {q : Int} {full : Bool} {w0 : World} (hq : q = 34 ∨ q = 39) (hB : B ≤ k) (hs : s.size ≤ 1000) (Q : Exit → Act → World → Prop) :
    ∀ (d pos n : Nat) (vo : Value) (xs : List Value) (a : Act) (w : World), s.size ≤ pos + d → n ≤ 10 * pos + 1 → pos ≤ s.size → w.heap[k]? = some (Obj.stringIter s pos) → w.ownsRow B 5 1 vo n xs → SQ5 (.string s) (.int .u8 q) (.bool full) vo (.pointer (some ⟨k, 0, none⟩)) a → Below B w0 w →
      (∀ vo' n' a' w', SQ5 (.string s) (.int .u8 q) (.bool full) vo' (.pointer (some ⟨k, 0, none⟩)) a' → w'.ownsRow B 5 1 vo' n' (xs ++ bc (quoN s q full d pos)) → n' ≤ 10 * s.size + 1 → Below B w0 w' → w.heap.size ≤ w'.heap.size → Q .normal a' w') →
      Code.rounds Tryd.prog quLoop (Exit.inBlock 0 Q) (d + 1) a w
  | 0, pos, n, vo, xs, a, w, hd, hn, hps, hk, hown, hz, hb, hQ => by
    rw [rounds_succ]
    exact qu_end hk (by omega) a hz _ (fun a' z' => hQ vo n a' w z' (by simpa [quoN, bc] using hown) (by omega) hb (Nat.le_refl _))
  | d + 1, pos, n, vo, xs, a, w, hd, hn, hps, hk, hown, hz, hb, hQ => by
    rw [rounds_succ]
    by_cases hp : pos < s.size
    · have dp := (dec_pos s pos).1
      have dl := dec_le s pos hp
      have hl := quoR_len q full (Utf8.decode s pos).1
      refine qu_round hq hk hB hp (by omega) hown a hz _ (fun vo' a' w' h => ?_)
      show Code.rounds Tryd.prog quLoop (Exit.inBlock 0 Q) (d + 1) a' w'
      refine qu_loop hq hB hs Q d _ _ vo' _ a' w' (by omega) (by omega) dl h.iter h.own h.slots (hb.trans h.below) (fun vo2 n2 a2 w2 z2 h2 hn2 b2 hsz => hQ vo2 n2 a2 w2 z2 ?_ hn2 b2 (Nat.le_trans h.below.size hsz))
      simp only [quoN, if_pos hp]
      rw [bc_app, ← List.append_assoc]
      exact h2
    · refine qu_end hk hp a hz _ (fun a' z' => hQ vo n a' w z' ?_ (by omega) hb (Nat.le_refl _))
      simp only [quoN, if_neg hp]
      simpa [bc] using hown
end Sc
end Go.Proofs.YtogkcphobhhbdaaDoor

/- spec.Quoted, its contract. -/
namespace Go.Proofs.YtogkcphobhhbdaaDoor
open Go Go.RowKit Go.Lib
namespace Sc
open Ev
set_option maxRecDepth 100000

noncomputable abbrev quP (n : Nat) : Code := fstC (cutTail n quBody)
theorem qu_body : (Tryd.f26).body = some (.seq (quP 0) (.seq (quP 1) (.seq (.seq (fstC (quP 2)) (.block 0 (.loop quLoop))) (cutTail 3 quBody)))) := by kernel_rfl
/-- Quoted. -/
def quotedF (s : ByteArray) (q : Int) (full : Bool) : ByteArray := strOfNums ([q] ++ quoN s q full (s.size + 1) 0 ++ [q])
theorem own_byte (w : World) (q : Int) : (w.alloc (.cells (bc [q]).toArray 5)).ownsRow w.heap.size 5 1 (.slice (some ⟨w.heap.size, 0, none⟩) 1 1) 1 (bc [q]) :=
  ⟨rfl, .inr ⟨w.heap.size, 1, (bc [q]).toArray, rfl, Nat.le_refl _, heap_alloc_new w _, Nat.le_refl _, by decide, rfl, by simp [bc]⟩⟩
theorem qu_first {w : World} {s : ByteArray} {q : Int} {full : Bool} (B C : Code) (Q : Exit → Act → World → Prop)
    (hQ : ∀ a, SQ5 (.string s) (.int .u8 q) (.bool full) (.slice (some ⟨w.heap.size, 0, none⟩) 1 1) (.pointer (some ⟨(w.alloc (.cells (bc [q]).toArray 5)).heap.size, 0, none⟩)) a → B.wp Tryd.prog (Exit.then (fun a w => C.wp Tryd.prog Q a w) Q) a ((w.alloc (.cells (bc [q]).toArray 5)).iter s 0)) :
    (Code.seq (quP 0) (.seq (quP 1) (.seq (.seq (fstC (quP 2)) B) C))).wp Tryd.prog Q { tmps := #[.string s, .int .u8 q, .bool full] ++ Array.replicate 92 undef, defers := [] } w := by
  simp only [quP, fstC, quBody, bodyOf, Tryd.f26, Option.getD, cutTail, cutN, Option.map, Array.replicate_succ, Array.replicate_zero, List.push_toArray, List.append_toArray, List.nil_append, List.cons_append]
  go_wp2_with fail
  rename_i K hK
  refine Code.wp_mono (fun e a w h => ?_) (hQ _ ⟨rfl, rfl, rfl, rfl, rfl, rfl, ?_⟩)
  · cases e <;> first | exact hK _ _ h | exact h
  · simp
theorem conv_own {w : World} {B n : Nat} {v : Value} {l : List Int} (h : w.ownsRow B 5 1 v n (bc l)) (hl : 0 < n) : Sem.run Tryd.prog (convert 45 9 v) w = .ok (.string (strOfNums l)) w := by
  obtain ⟨g, cap, rfl, _, _⟩ := h.form hl
  have hlen : l.length = n := by have := h.1; rw [bc_len] at this; omega
  refine run_convert_bytes_arg w 45 5 Tryd.underlying45 Tryd.underlying5 g 0 n cap l hlen (fun i hi => ?_) 9 Tryd.underlying9
  have hj : (bc l)[i]? = some (.int .u8 (l.getD i 0)) := by
    simp only [bc, List.getElem?_map]
    rw [List.getElem?_eq_getElem (by omega)]
    simp [List.getD_eq_getElem?_getD, List.getElem?_eq_getElem (show i < l.length by omega)]
  rw [Nat.zero_add]
  exact own_row_cell h hj
theorem qu_last {w : World} {B n : Nat} {v0 v2 vo vi : Value} {q : Int} {l : List Int} (hown : w.ownsRow B 5 1 vo n (bc l)) (hB : B ≤ w.heap.size) (hn : n ≤ 1000000) (a : Act) (hz : SQ5 v0 (.int .u8 q) v2 vo vi a) (Q : Exit → Act → World → Prop)
    (hQ : ∀ a' w', a'.defers = [] → a'.tmps[6]? = some (.string (strOfNums (l ++ [q]))) → Below B w w' → Q .ret a' w') : (cutTail 3 quBody).wp Tryd.prog Q a w := by
  obtain ⟨x, rfl⟩ := hz.lit
  clear hz
  simp only [quBody, bodyOf, Tryd.f26, Option.getD, cutTail, cutN, Option.map]
  go_wp2_with (at_builtin; refine ba [q] 1 rfl (by decide) (by decide) hown hB hn (by rfl) _ _ (by rfl) (by rfl) (by rfl) ?_; intro v1 w1 h1 hF; rw [← bc_app] at h1; have hcv := conv_own h1 (by omega))
  exact hQ _ _ rfl rfl hF.below
theorem quoted_walk (w : World) (s : ByteArray) (q : Int) (full : Bool) (hq : q = 34 ∨ q = 39) (hs : s.size ≤ 1000) : Calls Tryd.prog 26 #[.string s, .int .u8 q, .bool full] w fun e w' => e = .returned (.string (quotedF s q full)) ∧ Below w.heap.size w w' := by
  refine calls_of_wp Tryd.func26 qu_body ?_
  have hnt : (Tryd.f26).ntmps - (#[.string s, .int .u8 q, .bool full] : Array Value).size = 92 := by kernel_rfl
  rw [hnt]
  refine qu_first _ _ _ (fun a z => ?_)
  refine wp_block (wp_loop_rounds (s.size + 1 + 1) ?_)
  have hsz : (w.alloc (.cells (bc [q]).toArray 5)).heap.size = w.heap.size + 1 := by simp
  have hB0 : Below w.heap.size w ((w.alloc (.cells (bc [q]).toArray 5)).iter s 0) := (Below.alloc (Below.refl _ _) (Nat.le_refl _) _).trans (Below.alloc (Below.refl _ _) (by rw [hsz]; omega) _)
  have hO : ((w.alloc (.cells (bc [q]).toArray 5)).iter s 0).ownsRow w.heap.size 5 1 (.slice (some ⟨w.heap.size, 0, none⟩) 1 1) 1 (bc [q]) := own_alloc (own_byte w q) _
  refine qu_loop (B := w.heap.size) (k := (w.alloc (.cells (bc [q]).toArray 5)).heap.size) (w0 := w) hq (by omega) hs _ (s.size + 1) 0 1 _ _ a _ (by omega) (by omega) (Nat.zero_le _) (World.iter_heap _ s 0) hO z hB0 (fun vo' n' a2 w2 z2 h2 hn2 b2 _ => ?_)
  show (cutTail 3 quBody).wp _ _ a2 w2
  rw [← bc_app] at h2
  exact qu_last h2 b2.size (by omega) a2 z2 _ (fun a3 w3 d0 d6 b3 => ⟨d0, _, one_res (k := 6) (by kernel_rfl) d6, rfl, b2.trans b3⟩)
end Sc
end Go.Proofs.YtogkcphobhhbdaaDoor

/- Plain: escapes. -/
namespace Go.Proofs.YtogkcphobhhbdaaDoor
open Go Go.RowKit Go.Lib
namespace Sc
open Ev
set_option maxRecDepth 100000

/-- A digit's value; 99: none. -/
def digv (c : Int) : Int := if 48 ≤ c ∧ c ≤ 57 then c - 48 else if 97 ≤ c ∧ c ≤ 102 then c - 87 else if 65 ≤ c ∧ c ≤ 70 then c - 55 else 99
theorem lower_big {c : Int} (h0 : 128 ≤ c) (h1 : c ≤ 1114111) : 128 ≤ lowerF c := by
  obtain ⟨n, rfl⟩ := Int.eq_ofNat_of_zero_le (show 0 ≤ c by omega)
  have hn : n < 2 ^ 31 := by omega
  have := (bits_nat .i32 31 (by decide) (fun n h0 h1 => wraps_i32 n h0 h1) 32 n (by decide) hn).2
  have e : lowerF (n : Int) = ((32 ||| n : Nat) : Int) := this
  rw [e]
  have : n ≤ 32 ||| n := Nat.right_le_or
  omega
theorem digit_tab : ((List.range 128).all fun n => digitOf 16 (n : Nat) == (if digv (n : Nat) = 99 then 16 else digv (n : Nat)) && (digitOf 8 (n : Nat) == (if digv (n : Nat) = 99 then 8 else digv (n : Nat)))) = true := by kernel_rfl
theorem digit_of {b c : Int} (hb : b = 8 ∨ b = 16) (h0 : 0 ≤ c) (h1 : c ≤ 1114111) : digitOf b c = if digv c = 99 then b else digv c := by
  by_cases h : c < 128
  · have := List.all_eq_true.1 digit_tab c.toNat (List.mem_range.2 (by omega))
    rw [show ((c.toNat : Nat) : Int) = c by omega] at this
    simp only [Bool.and_eq_true, beq_iff_eq] at this
    rcases hb with rfl | rfl
    · exact this.2
    · exact this.1
  · have hl := lower_big (c := c) (by omega) h1
    have e1 : isDecimalF c = false := by unfold isDecimalF; simp; omega
    have e2 : digv c = 99 := by unfold digv; rw [if_neg (by omega), if_neg (by omega), if_neg (by omega)]
    unfold digitOf
    rw [if_neg (by simp [e1]), if_neg (by omega), e2, if_pos rfl]
theorem digv_in (c : Int) : (0 ≤ digv c ∧ digv c ≤ 15 ∧ 48 ≤ c ∧ c ≤ 102) ∨ digv c = 99 := by
  unfold digv
  split
  · left; omega
  · split
    · left; omega
    · split
      · left; omega
      · right; rfl
theorem digit_lt {b c : Int} (hb : b = 8 ∨ b = 16) (h0 : 0 ≤ c) (h1 : c ≤ 1114111) : (digitOf b c ≥ b ↔ ¬ digv c < b) ∧ (digv c < b → digitOf b c = digv c) := by
  have h := digit_of hb h0 h1
  rcases digv_in c with ⟨a1, a2, a3, a4⟩ | a
  · rw [if_neg (by omega)] at h
    rw [h]
    exact ⟨by omega, fun _ => rfl⟩
  · rw [if_pos a] at h
    rw [h, a]
    exact ⟨by omega, fun h => by omega⟩

/-! The digits of an escape. -/
theorem escLF_eq (src : ByteArray) (b : Int) (hb : b = 8 ∨ b = 16) (st : St) (x n : Int) (hn : n ≤ 8) : escLF src b (st, x, n) =
    if n > 0 then (if st.ch < 0 then (st, 0, some true) else if digitOf b st.ch ≥ b then (error msgEscChar st, 0, some false) else escLF src b (nextch src st, IntKind.u32.wrap (IntKind.u32.wrap (x * b) + digitOf b st.ch), IntKind.i64.wrap (n - 1))) else (st, x, none) := by
  unfold escLF
  rw [runF_step (I := escI b) (fun a ha => sat_mono (escB_on src b a ha) (fun s hs => by
    cases s with
    | go a' => exact hs
    | out q => trivial)) ⟨hb, hn⟩ (.out (st0, 0, none))]
  unfold escB
  by_cases h1 : n > 0
  · by_cases h2 : st.ch < 0
    · simp [Tree.get, stepF, h1, h2]
    · by_cases h3 : digitOf b st.ch ≥ b
      · simp [Tree.get, stepF, h1, h2, h3]
      · simp [Tree.get, stepF, h1, h2, h3]
  · simp [Tree.get, stepF, h1]
/-- The first n are digits: their value, and what follows them. -/
def takeDig (b : Int) : Nat → Int → List Int → Option (Int × List Int)
  | 0, x, cs => some (x, cs)
  | n + 1, x, [] => none
  | n + 1, x, c :: cs => if digv c < b then takeDig b n (x * b + digv c) cs else none
theorem pow_step {b x d : Int} {n : Nat} (hb : 0 ≤ b) (hd : d < b) (h : (x + 1) * b ^ (n + 1) ≤ 4294967296) : (x * b + d + 1) * b ^ n ≤ 4294967296 := by
  have h1 : (x * b + d + 1) ≤ (x + 1) * b := by rw [Int.add_mul]; omega
  have h2 : (x * b + d + 1) * b ^ n ≤ (x + 1) * b * b ^ n := Int.mul_le_mul_of_nonneg_right h1 (Int.pow_nonneg hb)
  have h3 : (x + 1) * b * b ^ n = (x + 1) * b ^ (n + 1) := by rw [Int.mul_assoc, Int.pow_succ, Int.mul_comm b]
  omega
theorem pow_one {b x : Int} {n : Nat} (hb : 1 ≤ b) (hx : 0 ≤ x) (h : (x + 1) * b ^ n ≤ 4294967296) : x < 4294967296 := by
  have h1 : 0 < b ^ n := Int.pow_pos (by omega)
  have h2 : (x + 1) * 1 ≤ (x + 1) * b ^ n := Int.mul_le_mul_of_nonneg_left h1 (by omega)
  omega
theorem u32_small {x : Int} (h0 : 0 ≤ x) (h1 : x < 4294967296) : IntKind.u32.wrap x = x := by rw [IntKind.wrap_u32]; omega
/-- Digits that are there. -/
theorem esc_dig {src : ByteArray} {b : Int} (hb : b = 8 ∨ b = 16) : ∀ (n : Nat) (cs r : List Int) (x v : Int) (p q : Nat) (st : St), n ≤ 8 → takeDig b n x cs = some (v, r) → 0 ≤ x → (x + 1) * b ^ n ≤ 4294967296 → Cl src p cs q → Cln src q → Std src p st →
    ∃ p' st', escLF src b (st, x, n) = (st', v, none) ∧ Std src p' st' ∧ Cl src p' r q ∧ Sil src st st' ∧ 0 ≤ v ∧ p' = p + n := by
  intro n
  induction n with
  | zero =>
    intro cs r x v p q st hn ht hx hp hc hq hst
    simp only [takeDig, Option.some.injEq, Prod.mk.injEq] at ht
    obtain ⟨rfl, rfl⟩ := ht
    rw [escLF_eq src b hb _ _ _ (by omega), if_neg (by omega)]
    exact ⟨p, st, rfl, hst, hc, Sil.refl _ _, hx, rfl⟩
  | succ n ih =>
    intro cs r x v p q st hn ht hx hp hc hq hst
    cases cs with
    | nil => simp [takeDig] at ht
    | cons c cs =>
      simp only [takeDig] at ht
      by_cases hd : digv c < b
      · rw [if_pos hd] at ht
        cases hc with
        | @cons _ w _ _ _ h1 h2 =>
          obtain ⟨e1, e2⟩ := hst.of h1
          have hw := h1.w
          have hdi : 0 ≤ digv c ∧ digv c ≤ 15 ∧ 48 ≤ c ∧ c ≤ 102 := by
            rcases digv_in c with h | h
            · exact h
            · omega
          have hw1 : w = 1 := (h1.byte (by omega)).2
          subst hw1
          have hl := digit_lt hb (c := c) (by omega) (by omega)
          have hn' := std_next hst (by rw [e2]; exact h2.cln hq)
          have hs' := sil_next hst (by rw [e2]; exact h2.cln hq)
          rw [e2] at hn'
          have hb1 : (1 : Int) ≤ b := by omega
          have k1 := pow_step (b := b) (x := x) (d := digv c) (n := n) (by omega) hd hp
          have hxb : 0 ≤ x * b := Int.mul_nonneg hx (by omega)
          have k2 := pow_one (b := b) (x := x * b + digv c) (n := n) hb1 (by omega) k1
          have w1 : IntKind.u32.wrap (IntKind.u32.wrap (x * b) + digitOf b c) = x * b + digv c := by
            rw [hl.2 hd, u32_small hxb (by omega), u32_small (by omega) k2]
          have w2 : IntKind.i64.wrap (((n + 1 : Nat) : Int) - 1) = (n : Int) := by rw [show ((n + 1 : Nat) : Int) - 1 = (n : Int) by omega]; exact i64_small (by omega) (by omega)
          obtain ⟨p', st', g1, g2, g3, g4, g5, g6⟩ := ih cs r _ v (p + 1) q (nextch src st) (by omega) ht (by omega) k1 h2 hq hn'.1
          refine ⟨p', st', ?_, g2, g3, hs'.trans g4, g5, by omega⟩
          rw [escLF_eq src b hb _ _ _ (by omega), if_pos (by omega), e1, if_neg (by omega), if_neg (by rw [hl.1]; omega), w1, w2]
          exact g1
      · rw [if_neg hd] at ht; cases ht
theorem takeDig_none (b : Int) : ∀ (n : Nat) (cs : List Int) (x y : Int), takeDig b n x cs = none → takeDig b n y cs = none
  | 0, cs, x, y, h => by simp [takeDig] at h
  | n + 1, [], x, y, h => rfl
  | n + 1, c :: cs, x, y, h => by
    simp only [takeDig] at h ⊢
    split
    · rename_i hd
      rw [if_pos hd] at h
      exact takeDig_none b n cs _ _ h
    · rfl
/-- A digit that is none is told. -/
theorem esc_nodig {src : ByteArray} {b : Int} (hb : b = 8 ∨ b = 16) : ∀ (n : Nat) (cs : List Int) (x : Int) (p q : Nat) (st : St) (e : Int) (we : Nat), n ≤ 8 → takeDig b n x cs = none → Cl src p cs q → ChAt src q e we → ¬ digv e < b → Std src p st →
    st.notes.length < (escLF src b (st, x, n)).1.notes.length ∧ (escLF src b (st, x, n)).2.2 = some false := by
  intro n
  induction n with
  | zero => intro cs x p q st e we hn ht; simp [takeDig] at ht
  | succ n ih =>
    intro cs x p q st e we hn ht hc he hne hst
    have key : ∀ c, st.ch = c → 0 ≤ c → c ≤ 1114111 → ¬ digv c < b → st.notes.length < (escLF src b (st, x, (n + 1 : Nat))).1.notes.length ∧ (escLF src b (st, x, (n + 1 : Nat))).2.2 = some false := fun c e1 h0 h1 hd => by
      have hl := digit_lt hb (c := c) h0 h1
      rw [escLF_eq src b hb _ _ _ (by omega), if_pos (by omega), e1, if_neg (by omega), if_pos (by rw [hl.1]; exact hd)]
      exact ⟨by show st.notes.length < (st.notes ++ [_]).length; simp, rfl⟩
    cases hc with
    | nil =>
      obtain ⟨e1, e2⟩ := hst.of he
      have := he.w
      exact key e e1 (by omega) (by omega) hne
    | @cons _ w _ c cs h1 h2 =>
      obtain ⟨e1, e2⟩ := hst.of h1
      have hw := h1.w
      simp only [takeDig] at ht
      by_cases hd : digv c < b
      · rw [if_pos hd] at ht
        have hdi : 0 ≤ digv c ∧ digv c ≤ 15 ∧ 48 ≤ c ∧ c ≤ 102 := by
          rcases digv_in c with h | h
          · exact h
          · omega
        have hl := digit_lt hb (c := c) (by omega) (by omega)
        have hn' := std_next hst (by rw [e2]; exact h2.cln (.inl ⟨_, _, he⟩))
        rw [e2] at hn'
        have w2 : IntKind.i64.wrap (((n + 1 : Nat) : Int) - 1) = (n : Int) := by rw [show ((n + 1 : Nat) : Int) - 1 = (n : Int) by omega]; exact i64_small (by omega) (by omega)
        rw [escLF_eq src b hb _ _ _ (by omega), if_pos (by omega), e1, if_neg (by omega), if_neg (by rw [hl.1]; omega), w2]
        have hx : ∀ x' x'', takeDig b n x' cs = none → takeDig b n x'' cs = none := fun x' x'' h => takeDig_none b n cs x' x'' h
        have := ih cs (IntKind.u32.wrap (IntKind.u32.wrap (x * b) + digitOf b c)) (p + w) q (nextch src st) e we (by omega) (hx _ _ ht) h2 he hne hn'.1
        rw [hn'.2] at this
        exact this
      · exact key c e1 (by omega) (by omega) hd
end Sc
end Go.Proofs.YtogkcphobhhbdaaDoor

/- Plain: escapes, whole. -/
namespace Go.Proofs.YtogkcphobhhbdaaDoor
open Go Go.RowKit Go.Lib
namespace Sc
open Ev
set_option maxRecDepth 100000

def simpE (q c : Int) : Bool := [c == q, c == 97, c == 98, c == 102, c == 110, c == 114, c == 116, c == 118, c == 92].any id
def octE (c : Int) : Bool := [c == 48, c == 49, c == 50, c == 51, c == 52, c == 53, c == 54, c == 55].any id
def noPoint (v : Int) : Prop := v > 1114111 ∨ (55296 ≤ v ∧ v < 57344)
instance (v : Int) : Decidable (noPoint v) := by unfold noPoint; infer_instance
/-- What stands behind the escape with which these begin (a backslash stands ahead); none where it is no escape. -/
def escC (q : Int) : List Int → Option (List Int)
  | [] => none
  | c :: cs =>
    if simpE q c = true then some cs
    else if octE c = true then (takeDig 8 3 0 (c :: cs)).bind fun r => if r.1 > 255 then none else some r.2
    else if c = 120 then (takeDig 16 2 0 cs).bind fun r => some r.2
    else if c = 117 then (takeDig 16 4 0 cs).bind fun r => if noPoint r.1 then none else some r.2
    else if c = 85 then (takeDig 16 8 0 cs).bind fun r => if noPoint r.1 then none else some r.2
    else none
theorem takeDig_le {b : Int} (hb : 1 ≤ b) : ∀ (n : Nat) (cs r : List Int) (x v : Int), takeDig b n x cs = some (v, r) → v + 1 ≤ (x + 1) * b ^ n
  | 0, cs, r, x, v, h => by
    simp only [takeDig, Option.some.injEq, Prod.mk.injEq] at h
    rw [← h.1, Int.pow_zero]; omega
  | n + 1, [], r, x, v, h => by simp [takeDig] at h
  | n + 1, c :: cs, r, x, v, h => by
    simp only [takeDig] at h
    split at h
    · rename_i hd
      have h1 := takeDig_le hb n cs r _ v h
      have h2 : (x * b + digv c + 1) ≤ (x + 1) * b := by rw [Int.add_mul]; omega
      have h3 : (x * b + digv c + 1) * b ^ n ≤ (x + 1) * b * b ^ n := Int.mul_le_mul_of_nonneg_right h2 (Int.pow_nonneg (by omega))
      have h4 : (x + 1) * b * b ^ n = (x + 1) * b ^ (n + 1) := by rw [Int.mul_assoc, Int.pow_succ, Int.mul_comm b]
      omega
    · cases h
theorem oct_in {c : Int} (h : octE c = true) : 48 ≤ c ∧ c ≤ 55 := by
  simp [octE] at h
  omega
theorem simp_in {q c : Int} (h : simpE q c = true) : c = q ∨ c = 97 ∨ c = 98 ∨ c = 102 ∨ c = 110 ∨ c = 114 ∨ c = 116 ∨ c = 118 ∨ c = 92 := by
  simpa [simpE, or_assoc] using h
theorem error_len (m : ByteArray) (st : St) : (error m st).notes.length = st.notes.length + 1 := by
  show (st.notes ++ [_]).length = _
  simp
/-- What an escape's tail comes to, the digits being there. -/
theorem tail_ok {b m v : Int} {st : St} : escTail b m (st, v, none) = if (v > m ∧ b = 8) then (false, error msgOct st) else if (v > m ∨ (55296 ≤ v ∧ v < 57344)) then (false, error msgPoint st) else (true, st) := rfl
theorem esc_some {src : ByteArray} {q : Int} {cs r : List Int} (h : escC q cs = some r) {p e : Nat} {st : St} (hc : Cl src p cs e) (he : Cln src e) (hst : Std src p st) :
    ∃ p' st', escapeF src q st = (true, st') ∧ Std src p' st' ∧ Cl src p' r e ∧ Sil src st st' := by
  cases hc with
  | nil => cases h
  | @cons _ w _ c cs h1 h2 =>
    obtain ⟨e1, e2⟩ := hst.of h1
    have hw := h1.w
    have hn := std_next hst (by rw [e2]; exact h2.cln he)
    have hs := sil_next hst (by rw [e2]; exact h2.cln he)
    rw [e2] at hn
    simp only [escC] at h
    unfold escapeF
    rw [e1]
    by_cases k1 : simpE q c = true
    · rw [if_pos k1] at h
      have k1' := k1
      unfold simpE at k1'
      rw [if_pos k1']
      cases h
      exact ⟨_, _, rfl, hn.1, h2, hs⟩
    rw [if_neg k1] at h
    have k1' : ¬ [c == q, c == 97, c == 98, c == 102, c == 110, c == 114, c == 116, c == 118, c == 92].any id = true := k1
    rw [if_neg k1']
    by_cases k2 : octE c = true
    · rw [if_pos k2] at h
      have k2' := k2
      unfold octE at k2'
      rw [if_pos k2']
      cases ht : takeDig 8 3 0 (c :: cs) with
      | none => rw [ht] at h; cases h
      | some vr =>
        obtain ⟨v, r'⟩ := vr
        rw [ht] at h
        simp only [Option.bind_some] at h
        by_cases k3 : v > 255
        · rw [if_pos k3] at h; cases h
        · rw [if_neg k3] at h
          cases h
          obtain ⟨p', st', g1, g2, g3, g4, g5, g6⟩ := esc_dig (.inl rfl) 3 _ _ 0 v p e st (by decide) ht (by decide) (by decide) (.cons h1 h2) he hst
          have g1' : escLF src 8 (st, 0, 3) = (st', v, none) := g1
          rw [g1', tail_ok, if_neg (by omega), if_neg (by omega)]
          exact ⟨p', st', rfl, g2, g3, g4⟩
    rw [if_neg k2] at h
    have k2' : ¬ [c == 48, c == 49, c == 50, c == 51, c == 52, c == 53, c == 54, c == 55].any id = true := k2
    rw [if_neg k2']
    by_cases k3 : c = 120
    · rw [if_pos k3] at h
      rw [if_pos k3]
      cases ht : takeDig 16 2 0 cs with
      | none => rw [ht] at h; cases h
      | some vr =>
        obtain ⟨v, r'⟩ := vr
        rw [ht] at h
        simp only [Option.bind_some, Option.some.injEq] at h
        subst h
        have hv := takeDig_le (b := 16) (by decide) 2 _ _ _ _ ht
        have e3 : ((0 : Int) + 1) * 16 ^ 2 = 256 := by decide
        obtain ⟨p', st', g1, g2, g3, g4, g5, g6⟩ := esc_dig (.inr rfl) 2 _ _ 0 v _ e _ (by decide) ht (by decide) (by decide) h2 he hn.1
        have g1' : escLF src 16 (nextch src st, 0, 2) = (st', v, none) := g1
        rw [g1', tail_ok, if_neg (by omega), if_neg (by omega)]
        exact ⟨p', st', rfl, g2, g3, hs.trans g4⟩
    rw [if_neg k3] at h
    rw [if_neg k3]
    by_cases k4 : c = 117
    · rw [if_pos k4] at h
      rw [if_pos k4]
      cases ht : takeDig 16 4 0 cs with
      | none => rw [ht] at h; cases h
      | some vr =>
        obtain ⟨v, r'⟩ := vr
        rw [ht] at h
        simp only [Option.bind_some] at h
        by_cases k6 : noPoint v
        · rw [if_pos k6] at h; cases h
        · rw [if_neg k6] at h
          cases h
          unfold noPoint at k6
          obtain ⟨p', st', g1, g2, g3, g4, g5, g6⟩ := esc_dig (.inr rfl) 4 _ _ 0 v _ e _ (by decide) ht (by decide) (by decide) h2 he hn.1
          have g1' : escLF src 16 (nextch src st, 0, 4) = (st', v, none) := g1
          rw [g1', tail_ok, if_neg (by omega), if_neg (by omega)]
          exact ⟨p', st', rfl, g2, g3, hs.trans g4⟩
    rw [if_neg k4] at h
    rw [if_neg k4]
    by_cases k5 : c = 85
    · rw [if_pos k5] at h
      rw [if_pos k5]
      cases ht : takeDig 16 8 0 cs with
      | none => rw [ht] at h; cases h
      | some vr =>
        obtain ⟨v, r'⟩ := vr
        rw [ht] at h
        simp only [Option.bind_some] at h
        by_cases k6 : noPoint v
        · rw [if_pos k6] at h; cases h
        · rw [if_neg k6] at h
          cases h
          unfold noPoint at k6
          obtain ⟨p', st', g1, g2, g3, g4, g5, g6⟩ := esc_dig (.inr rfl) 8 _ _ 0 v _ e _ (by decide) ht (by decide) (by decide) h2 he hn.1
          have g1' : escLF src 16 (nextch src st, 0, 8) = (st', v, none) := g1
          rw [g1', tail_ok, if_neg (by omega), if_neg (by omega)]
          exact ⟨p', st', rfl, g2, g3, hs.trans g4⟩
    rw [if_neg k5] at h
    cases h
theorem tail_none {src : ByteArray} {b m : Int} {n : Nat} {cs : List Int} (hb : b = 8 ∨ b = 16) (hn : n ≤ 8) (hp : ((0 : Int) + 1) * b ^ n ≤ 4294967296) {p e : Nat} {st : St} {x : Int} {we : Nat} (hc : Cl src p cs e) (he : ChAt src e x we) (hx : ¬ digv x < b) (hst : Std src p st)
    (h : ∀ v r, takeDig b n 0 cs = some (v, r) → v > m ∨ (55296 ≤ v ∧ v < 57344)) : st.notes.length < (escTail b m (escLF src b (st, 0, (n : Int)))).2.notes.length := by
  cases ht : takeDig b n 0 cs with
  | none =>
    obtain ⟨g1, g2⟩ := esc_nodig hb n cs 0 p e st x we hn ht hc he hx hst
    unfold escTail
    rw [g2]
    exact g1
  | some vr =>
    obtain ⟨v, r⟩ := vr
    obtain ⟨p', st', g1, g2, g3, g4, g5, g6⟩ := esc_dig hb n _ _ 0 v p e st hn ht (by decide) hp hc (.inl ⟨_, _, he⟩) hst
    rw [g1, tail_ok]
    have := h v r ht
    split
    · rw [error_len, g4.notes]; omega
    · show st.notes.length < (error _ st').notes.length
      rw [error_len, g4.notes]; omega
theorem esc_none {src : ByteArray} {q : Int} {cs : List Int} (h : escC q cs = none) (hcs : cs ≠ []) {p e we : Nat} {x : Int} {st : St} (hc : Cl src p cs e) (he : ChAt src e x we) (hx : ¬ digv x < 16) (hst : Std src p st) :
    st.notes.length < (escapeF src q st).2.notes.length := by
  cases hc with
  | nil => exact absurd rfl hcs
  | @cons _ w _ c cs h1 h2 =>
    obtain ⟨e1, e2⟩ := hst.of h1
    have hw := h1.w
    have hn := std_next hst (by rw [e2]; exact h2.cln (.inl ⟨_, _, he⟩))
    rw [e2] at hn
    simp only [escC] at h
    unfold escapeF
    rw [e1]
    by_cases k1 : simpE q c = true
    · rw [if_pos k1] at h; cases h
    rw [if_neg k1] at h
    have k1' : ¬ [c == q, c == 97, c == 98, c == 102, c == 110, c == 114, c == 116, c == 118, c == 92].any id = true := k1
    rw [if_neg k1']
    by_cases k2 : octE c = true
    · rw [if_pos k2] at h
      have k2' := k2
      unfold octE at k2'
      rw [if_pos k2']
      refine tail_none (n := 3) (.inl rfl) (by decide) (by decide) (.cons h1 h2) he (by omega) hst (fun v r ht => ?_)
      rw [ht] at h
      simp only [Option.bind_some] at h
      by_cases k3 : v > 255
      · exact .inl k3
      · rw [if_neg k3] at h; cases h
    rw [if_neg k2] at h
    have k2' : ¬ [c == 48, c == 49, c == 50, c == 51, c == 52, c == 53, c == 54, c == 55].any id = true := k2
    rw [if_neg k2']
    by_cases k3 : c = 120
    · rw [if_pos k3] at h
      rw [if_pos k3, ← hn.2]
      refine tail_none (n := 2) (.inr rfl) (by decide) (by decide) h2 he hx hn.1 (fun v r ht => ?_)
      rw [ht] at h
      cases h
    rw [if_neg k3] at h
    rw [if_neg k3]
    by_cases k4 : c = 117
    · rw [if_pos k4] at h
      rw [if_pos k4, ← hn.2]
      refine tail_none (n := 4) (.inr rfl) (by decide) (by decide) h2 he hx hn.1 (fun v r ht => ?_)
      rw [ht] at h
      simp only [Option.bind_some] at h
      by_cases k6 : noPoint v
      · exact k6
      · rw [if_neg k6] at h; cases h
    rw [if_neg k4] at h
    rw [if_neg k4]
    by_cases k5 : c = 85
    · rw [if_pos k5] at h
      rw [if_pos k5, ← hn.2]
      refine tail_none (n := 8) (.inr rfl) (by decide) (by decide) h2 he hx hn.1 (fun v r ht => ?_)
      rw [ht] at h
      simp only [Option.bind_some] at h
      by_cases k6 : noPoint v
      · exact k6
      · rw [if_neg k6] at h; cases h
    rw [if_neg k5, if_neg (by omega)]
    rw [error_len]; omega
end Sc
end Go.Proofs.YtogkcphobhhbdaaDoor

/- Plain: strings and runes. -/
namespace Go.Proofs.YtogkcphobhhbdaaDoor
open Go Go.RowKit Go.Lib
namespace Sc
open Ev
set_option maxRecDepth 100000

/-- What may stand between quotes: so many characters and escapes. -/
inductive Its (q : Int) : List Int → Nat → Prop
  | nil : Its q [] 0
  | ch {c : Int} {cs : List Int} {k : Nat} : c ≠ q → c ≠ 92 → c ≠ 10 → Its q cs k → Its q (c :: cs) (k + 1)
  | es {cs r : List Int} {k : Nat} : escC q cs = some r → Its q r k → Its q (92 :: cs) (k + 1)
theorem strLF_eq (src : ByteArray) (st : St) (ok : Bool) : strLF src (st, ok) =
    if st.ch = 34 then (nextch src st, ok) else if st.ch = 92 then strLF src ((escapeF src 34 (nextch src st)).2, if (escapeF src 34 (nextch src st)).1 = true then ok else false)
    else if st.ch = 10 then (error msgStrLine st, false) else if st.ch < 0 then (errorAtF 0 msgStr st, false) else strLF src (nextch src st, ok) := by
  unfold strLF
  rw [runF_step (I := fun _ => True) (fun a _ => ok_falls (strB_on src) a) trivial (.out (st0, false))]
  unfold strB
  by_cases h1 : st.ch = 34
  · simp [Tree.get, stepF, h1]
  · by_cases h2 : st.ch = 92
    · cases h3 : (escapeF src 34 (nextch src st)).1 <;> simp [Tree.get, stepF, h1, h2, h3]
    · by_cases h4 : st.ch = 10
      · simp [Tree.get, stepF, h1, h2, h4]
      · by_cases h5 : st.ch < 0
        · simp [Tree.get, stepF, h1, h2, h4, h5]
        · simp [Tree.get, stepF, h1, h2, h4, h5]
theorem str_len (src : ByteArray) (st : St) (ok : Bool) : st.notes.length ≤ (strLF src (st, ok)).1.notes.length := (ok_on (strB_on src) (st, ok)).len
/-- A string's inside, whatever follows it. -/
theorem str_loop {src : ByteArray} {cs : List Int} {k : Nat} (h : Its 34 cs k) : ∀ {p q : Nat} {st : St} (ok : Bool), Cl src p cs q → Cln src q → Std src p st →
    ∃ st', strLF src (st, ok) = strLF src (st', ok) ∧ Std src q st' ∧ Sil src st st' := by
  induction h with
  | nil =>
    intro p q st ok hc hq hst
    cases hc
    exact ⟨st, rfl, hst, Sil.refl _ _⟩
  | @ch c cs k n1 n2 n3 h ih =>
    intro p q st ok hc hq hst
    cases hc with
    | @cons _ w _ _ _ h1 h2 =>
      obtain ⟨e1, e2⟩ := hst.of h1
      have hw := h1.w
      have hn := std_next hst (by rw [e2]; exact h2.cln hq)
      have hs := sil_next hst (by rw [e2]; exact h2.cln hq)
      rw [e2] at hn
      obtain ⟨st', g1, g2, g3⟩ := ih ok h2 hq hn.1
      rw [strLF_eq, if_neg (by omega), if_neg (by omega), if_neg (by omega), if_neg (by omega)]
      exact ⟨st', g1, g2, hs.trans g3⟩
  | @es cs r k h1 h ih =>
    intro p q st ok hc hq hst
    cases hc with
    | @cons _ w _ _ _ h3 h2 =>
      obtain ⟨e1, e2⟩ := hst.of h3
      have hn := std_next hst (by rw [e2]; exact h2.cln hq)
      have hs := sil_next hst (by rw [e2]; exact h2.cln hq)
      rw [e2] at hn
      obtain ⟨p', st2, k1, k2, k3, k4⟩ := esc_some h1 h2 hq hn.1
      obtain ⟨st', g1, g2, g3⟩ := ih ok k3 hq k2
      rw [strLF_eq, if_neg (by omega), if_pos e1, k1]
      exact ⟨st', g1, g2, (hs.trans k4).trans g3⟩
theorem str_close {src : ByteArray} {cs : List Int} {k : Nat} (h : Its 34 cs k) {p q : Nat} {st : St} (ok : Bool) (hc : Cl src p cs q) (hq : ChAt src q 34 1) (hq2 : Cln src (q + 1)) (hst : Std src p st) :
    ∃ st', strLF src (st, ok) = (st', ok) ∧ Std src (q + 1) st' ∧ Sil src st st' := by
  obtain ⟨s1, g1, g2, g3⟩ := str_loop h ok hc (.inl ⟨_, _, hq⟩) hst
  obtain ⟨e1, e2⟩ := g2.of hq
  have hn := std_next g2 (by rw [e2]; exact hq2)
  have hs := sil_next g2 (by rw [e2]; exact hq2)
  rw [e2] at hn
  rw [g1, strLF_eq, if_pos e1]
  exact ⟨_, rfl, hn.1, g3.trans hs⟩
/-- A string that does not end, or a line that ends within it: that is told. -/
theorem str_open {src : ByteArray} {cs : List Int} {k : Nat} (h : Its 34 cs k) {p q : Nat} {st : St} (ok : Bool) (hc : Cl src p cs q) (hq : q = src.size ∨ ChAt src q 10 1) (hst : Std src p st) :
    st.notes.length < (strLF src (st, ok)).1.notes.length := by
  have hcl : Cln src q := by
    rcases hq with hq | hq
    · exact .inr hq
    · exact .inl ⟨_, _, hq⟩
  obtain ⟨s1, g1, g2, g3⟩ := str_loop h ok hc hcl hst
  rw [g1, strLF_eq]
  rcases hq with hq | hq
  · subst hq
    have e := g2.end.1
    rw [if_neg (by omega), if_neg (by omega), if_neg (by omega), if_pos (by omega)]
    show st.notes.length < (s1.notes ++ [_]).length
    rw [g3.notes]; simp
  · obtain ⟨e1, e2⟩ := g2.of hq
    rw [if_neg (by omega), if_neg (by omega), if_pos e1]
    show st.notes.length < (s1.notes ++ [_]).length
    rw [g3.notes]; simp
/-- A string that begins with what is no escape: that is told. -/
theorem str_bad {src : ByteArray} {cs : List Int} (h : escC 34 cs = none) (hcs : cs ≠ []) {p q : Nat} {st : St} (ok : Bool) (hc : Cl src p (92 :: cs) q) (hq : ChAt src q 34 1) (hst : Std src p st) :
    st.notes.length < (strLF src (st, ok)).1.notes.length := by
  cases hc with
  | @cons _ w _ _ _ h3 h2 =>
    obtain ⟨e1, e2⟩ := hst.of h3
    have hn := std_next hst (by rw [e2]; exact h2.cln (.inl ⟨_, _, hq⟩))
    rw [e2] at hn
    have := esc_none h hcs h2 hq (by decide) hn.1
    rw [hn.2] at this
    rw [strLF_eq, if_neg (by omega), if_pos e1]
    exact Nat.lt_of_lt_of_le this (str_len src _ _)

/-! Runes. -/
theorem rune_falls (src : ByteArray) (p : St × Bool × Int) : (runeB src p).sat (Falls (fun _ => True) (runeM src) p) :=
  sat_mono (runeB_on src p) (fun s hs => by
    cases s with
    | go a' => exact ⟨trivial, hs.2⟩
    | out q => trivial)
theorem runeLF_eq (src : ByteArray) (st : St) (n : Int) : runeLF src (st, true, n) =
    if st.ch = 39 then (if n = 0 then (nextch src (error msgRune0 st), false) else if n ≠ 1 then (nextch src (errorAtF 0 msgRune2 st), false) else (nextch src st, true))
    else if st.ch = 92 then runeLF src ((escapeF src 39 (nextch src st)).2, (if (escapeF src 39 (nextch src st)).1 = true then true else false), IntKind.i64.wrap (n + 1))
    else if st.ch = 10 then (error msgRuneLine st, false) else if st.ch < 0 then (errorAtF 0 msgRuneEnd st, false) else runeLF src (nextch src st, true, IntKind.i64.wrap (n + 1)) := by
  unfold runeLF
  rw [runF_step (I := fun _ => True) (fun a _ => rune_falls src a) trivial (.out (st0, false))]
  unfold runeB
  by_cases h1 : st.ch = 39
  · by_cases h0 : n = 0
    · simp [Tree.get, stepF, h1, h0]
    · by_cases h2 : n = 1
      · simp [Tree.get, stepF, h1, h2]
      · simp [Tree.get, stepF, h1, h0, h2]
  · by_cases h2 : st.ch = 92
    · cases h3 : (escapeF src 39 (nextch src st)).1 <;> simp [Tree.get, stepF, h1, h2, h3]
    · by_cases h4 : st.ch = 10
      · simp [Tree.get, stepF, h1, h2, h4]
      · by_cases h5 : st.ch < 0
        · simp [Tree.get, stepF, h1, h2, h4, h5]
        · simp [Tree.get, stepF, h1, h2, h4, h5]
theorem rune_loop {src : ByteArray} {cs : List Int} {k : Nat} (h : Its 39 cs k) : ∀ {p q : Nat} {st : St} (n : Nat), n + k ≤ 1000000 → Cl src p cs q → Cln src q → Std src p st →
    ∃ st', runeLF src (st, true, (n : Int)) = runeLF src (st', true, ((n + k : Nat) : Int)) ∧ Std src q st' ∧ Sil src st st' := by
  have hwrap : ∀ n : Nat, n ≤ 1000000 → IntKind.i64.wrap ((n : Int) + 1) = ((n + 1 : Nat) : Int) := fun n hn => by rw [show (n : Int) + 1 = ((n + 1 : Nat) : Int) by omega]; exact i64_small (by omega) (by omega)
  induction h with
  | nil =>
    intro p q st n hk hc hq hst
    cases hc
    exact ⟨st, rfl, hst, Sil.refl _ _⟩
  | @ch c cs k n1 n2 n3 h ih =>
    intro p q st n hk hc hq hst
    cases hc with
    | @cons _ w _ _ _ h1 h2 =>
      obtain ⟨e1, e2⟩ := hst.of h1
      have hw := h1.w
      have hn := std_next hst (by rw [e2]; exact h2.cln hq)
      have hs := sil_next hst (by rw [e2]; exact h2.cln hq)
      rw [e2] at hn
      obtain ⟨st', g1, g2, g3⟩ := ih (n + 1) (by omega) h2 hq hn.1
      rw [runeLF_eq, if_neg (by omega), if_neg (by omega), if_neg (by omega), if_neg (by omega), hwrap n (by omega)]
      exact ⟨st', by rw [g1, show n + 1 + k = n + (k + 1) by omega], g2, hs.trans g3⟩
  | @es cs r k h1 h ih =>
    intro p q st n hk hc hq hst
    cases hc with
    | @cons _ w _ _ _ h3 h2 =>
      obtain ⟨e1, e2⟩ := hst.of h3
      have hn := std_next hst (by rw [e2]; exact h2.cln hq)
      have hs := sil_next hst (by rw [e2]; exact h2.cln hq)
      rw [e2] at hn
      obtain ⟨p', st2, k1, k2, k3, k4⟩ := esc_some h1 h2 hq hn.1
      obtain ⟨st', g1, g2, g3⟩ := ih (n + 1) (by omega) k3 hq k2
      rw [runeLF_eq, if_neg (by omega), if_pos e1, k1, hwrap n (by omega)]
      exact ⟨st', by rw [if_pos rfl, g1, show n + 1 + k = n + (k + 1) by omega], g2, (hs.trans k4).trans g3⟩
theorem rune_close {src : ByteArray} {cs : List Int} (h : Its 39 cs 1) {p q : Nat} {st : St} (hc : Cl src p cs q) (hq : ChAt src q 39 1) (hq2 : Cln src (q + 1)) (hst : Std src p st) :
    ∃ st', runeLF src (st, true, 0) = (st', true) ∧ Std src (q + 1) st' ∧ Sil src st st' := by
  obtain ⟨s1, g1, g2, g3⟩ := rune_loop h 0 (by omega) hc (.inl ⟨_, _, hq⟩) hst
  obtain ⟨e1, e2⟩ := g2.of hq
  have hn := std_next g2 (by rw [e2]; exact hq2)
  have hs := sil_next g2 (by rw [e2]; exact hq2)
  rw [e2] at hn
  have g1' : runeLF src (st, true, 0) = runeLF src (s1, true, 1) := g1
  rw [g1', runeLF_eq, if_pos e1, if_neg (by omega), if_neg (by omega)]
  exact ⟨_, rfl, hn.1, g3.trans hs⟩
/-- None, or more than one, between the quotes: that is told. -/
theorem rune_many {src : ByteArray} {cs : List Int} {k : Nat} (h : Its 39 cs k) (hk : k ≠ 1) (hk2 : k ≤ 1000000) {p q : Nat} {st : St} (hc : Cl src p cs q) (hq : ChAt src q 39 1) (hst : Std src p st) :
    st.notes.length < (runeLF src (st, true, 0)).1.notes.length := by
  obtain ⟨s1, g1, g2, g3⟩ := rune_loop h 0 (by omega) hc (.inl ⟨_, _, hq⟩) hst
  obtain ⟨e1, e2⟩ := g2.of hq
  have g1' : runeLF src (st, true, 0) = runeLF src (s1, true, ((0 + k : Nat) : Int)) := g1
  rw [g1', runeLF_eq, if_pos e1]
  split
  · have h1 := (on_next src (error msgRune0 s1)).len
    have h2 : (error msgRune0 s1).notes.length = s1.notes.length + 1 := error_len _ _
    rw [g3.notes] at h2
    show st.notes.length < (nextch src (error msgRune0 s1)).notes.length
    omega
  · rw [if_pos (by omega)]
    have h1 := (on_next src (errorAtF 0 msgRune2 s1)).len
    have h2 : (errorAtF 0 msgRune2 s1).notes.length = s1.notes.length + 1 := by show (s1.notes ++ [_]).length = _; simp
    rw [g3.notes] at h2
    show st.notes.length < (nextch src (errorAtF 0 msgRune2 s1)).notes.length
    omega
theorem rune_open {src : ByteArray} {cs : List Int} {k : Nat} (h : Its 39 cs k) (hk2 : k ≤ 1000000) {p : Nat} {st : St} (hc : Cl src p cs src.size) (hst : Std src p st) :
    st.notes.length < (runeLF src (st, true, 0)).1.notes.length := by
  obtain ⟨s1, g1, g2, g3⟩ := rune_loop h 0 (by omega) hc (.inr rfl) hst
  have e := g2.end.1
  have g1' : runeLF src (st, true, 0) = runeLF src (s1, true, ((0 + k : Nat) : Int)) := g1
  rw [g1', runeLF_eq, if_neg (by omega), if_neg (by omega), if_neg (by omega), if_pos (by omega)]
  show st.notes.length < (s1.notes ++ [_]).length
  rw [g3.notes]; simp
end Sc
end Go.Proofs.YtogkcphobhhbdaaDoor

/- Plain: texts that are one string, one rune, or begin one that is none. -/
namespace Go.Proofs.YtogkcphobhhbdaaDoor
open Go Go.RowKit Go.Lib
namespace Sc
open Ev
set_option maxRecDepth 100000

/-- A literal that is all of the text. -/
theorem lit_one {src : ByteArray} {st' : St} {k : Int} (hs : src.size ≤ 2048) (h : (nextF src (stI 0)).1 = setLitF src k true st') (hst : Std src src.size st') (hb : st'.b = some 0) (hn : st'.notes = []) (h0 : 0 ≤ k) (h9 : k ≤ 9) :
    LikeAll (Sc.toks src 0) (closedF [litW src k] (litW src k)) ∧ (last src 0).notes = [] := by
  obtain ⟨s2, s3, t1, t2, t3, t4, t5⟩ := one_tok hs h (hst.same rfl rfl rfl rfl) rfl (by show (3 : Int) ≠ 1; decide) hn
  have hO : One src (setLitF src k true st') := ⟨⟨s2, s3, t1, t2, t3, t4⟩, t5⟩
  have hl : (setLitF src k true st').lit = src := by
    show seg src st' = src
    unfold seg
    rw [hb, hst.cut]
    exact ByteArray.extract_zero_size
  have hL := like_lit (s := setLitF src k true st') (k := k) rfl rfl rfl h0 h9
  rw [hl] at hL
  exact ⟨hO.like hL (ends_lit _ _), t5⟩
/-- Something is told of the text. -/
theorem told_some {src : ByteArray} (hs : src.size ≤ 2048) (h : 0 < (nextF src (stI 0)).1.notes.length) : 0 < (last src 0).notes.length := Nat.lt_of_lt_of_le h (last_len hs)
theorem first_str {src : ByteArray} (hs : src.size ≤ 2048) (hc : ChAt src 0 34 1) (hc2 : Cln src 1) : ∃ st, Std src 1 st ∧ st.b = some 0 ∧ st.notes = [] ∧ (nextF src (stI 0)).1 = setLitF src 4 (strLF src (st, true)).2 (strLF src (st, true)).1 := by
  obtain ⟨n, g1, g2, g3, g4, g5, _, g6⟩ := first_sw (m := 0) hs hc (by decide) (by decide) (by decide)
  have e1 : (swT src false n).get fin0 = .done (stdStringF src n) [] := by
    unfold swT
    simp [Tree.get, g4, swNum]
  rw [e1] at g6
  have c1 : Cln src (0 + n.chw) := by rw [g5]; exact hc2
  have n1 := std_next g1 c1
  have s1 := sil_next g1 c1
  rw [g5] at n1
  exact ⟨nextch src n, n1.1, by rw [s1.on.b]; exact g2, by rw [s1.notes, g3], g6⟩
theorem first_rune {src : ByteArray} (hs : src.size ≤ 2048) (hc : ChAt src 0 39 1) (hc2 : Cln src 1) : ∃ st, Std src 1 st ∧ st.b = some 0 ∧ st.notes = [] ∧ (nextF src (stI 0)).1 = setLitF src 3 (runeLF src (st, true, 0)).2 (runeLF src (st, true, 0)).1 := by
  obtain ⟨n, g1, g2, g3, g4, g5, _, g6⟩ := first_sw (m := 0) hs hc (by decide) (by decide) (by decide)
  have e1 : (swT src false n).get fin0 = .done (runeF src n) [] := by
    unfold swT
    simp [Tree.get, g4, swNum]
  rw [e1] at g6
  have c1 : Cln src (0 + n.chw) := by rw [g5]; exact hc2
  have n1 := std_next g1 c1
  have s1 := sil_next g1 c1
  rw [g5] at n1
  exact ⟨nextch src n, n1.1, by rw [s1.on.b]; exact g2, by rw [s1.notes, g3], g6⟩
theorem str_tok {src : ByteArray} {cs : List Int} {k q : Nat} (hs : src.size ≤ 2048) (hc : ChAt src 0 34 1) (h : Cl src 1 cs q) (hi : Its 34 cs k) (hq : ChAt src q 34 1) (he : q + 1 = src.size) :
    LikeAll (Sc.toks src 0) (closedF [litW src 4] (litW src 4)) ∧ (last src 0).notes = [] := by
  obtain ⟨st, g1, g2, g3, g4⟩ := first_str hs hc (h.cln (.inl ⟨_, _, hq⟩))
  obtain ⟨st', r1, r2, r3⟩ := str_close hi true h hq (.inr he) g1
  rw [r1] at g4
  exact lit_one hs g4 (by rw [← he]; exact r2) (by rw [r3.on.b]; exact g2) (by rw [r3.notes, g3]) (by decide) (by decide)
theorem rune_tok {src : ByteArray} {cs : List Int} {q : Nat} (hs : src.size ≤ 2048) (hc : ChAt src 0 39 1) (h : Cl src 1 cs q) (hi : Its 39 cs 1) (hq : ChAt src q 39 1) (he : q + 1 = src.size) :
    LikeAll (Sc.toks src 0) (closedF [litW src 3] (litW src 3)) ∧ (last src 0).notes = [] := by
  obtain ⟨st, g1, g2, g3, g4⟩ := first_rune hs hc (h.cln (.inl ⟨_, _, hq⟩))
  obtain ⟨st', r1, r2, r3⟩ := rune_close hi h hq (.inr he) g1
  rw [r1] at g4
  exact lit_one hs g4 (by rw [← he]; exact r2) (by rw [r3.on.b]; exact g2) (by rw [r3.notes, g3]) (by decide) (by decide)
theorem str_bad_told {src : ByteArray} {cs : List Int} {q : Nat} (hs : src.size ≤ 2048) (hc : ChAt src 0 34 1) (h : Cl src 1 (92 :: cs) q) (hi : escC 34 cs = none) (hcs : cs ≠ []) (hq : ChAt src q 34 1) : 0 < (last src 0).notes.length := by
  obtain ⟨st, g1, g2, g3, g4⟩ := first_str hs hc (h.cln (.inl ⟨_, _, hq⟩))
  have := str_bad hi hcs true h hq g1
  refine told_some hs ?_
  rw [g4]
  show 0 < (strLF src (st, true)).1.notes.length
  omega
theorem str_open_told {src : ByteArray} {cs : List Int} {k q : Nat} (hs : src.size ≤ 2048) (hc : ChAt src 0 34 1) (h : Cl src 1 cs q) (hi : Its 34 cs k) (hq : q = src.size ∨ ChAt src q 10 1) : 0 < (last src 0).notes.length := by
  have hcl : Cln src q := by
    rcases hq with hq | hq
    · exact .inr hq
    · exact .inl ⟨_, _, hq⟩
  obtain ⟨st, g1, g2, g3, g4⟩ := first_str hs hc (h.cln hcl)
  have := str_open hi true h hq g1
  refine told_some hs ?_
  rw [g4]
  show 0 < (strLF src (st, true)).1.notes.length
  omega
theorem rune_many_told {src : ByteArray} {cs : List Int} {k q : Nat} (hs : src.size ≤ 2048) (hc : ChAt src 0 39 1) (h : Cl src 1 cs q) (hi : Its 39 cs k) (hk : k ≠ 1) (hk2 : k ≤ 1000000) (hq : ChAt src q 39 1) : 0 < (last src 0).notes.length := by
  obtain ⟨st, g1, g2, g3, g4⟩ := first_rune hs hc (h.cln (.inl ⟨_, _, hq⟩))
  have := rune_many hi hk hk2 h hq g1
  refine told_some hs ?_
  rw [g4]
  show 0 < (runeLF src (st, true, 0)).1.notes.length
  omega
theorem rune_open_told {src : ByteArray} {cs : List Int} {k : Nat} (hs : src.size ≤ 2048) (hc : ChAt src 0 39 1) (h : Cl src 1 cs src.size) (hi : Its 39 cs k) (hk2 : k ≤ 1000000) : 0 < (last src 0).notes.length := by
  obtain ⟨st, g1, g2, g3, g4⟩ := first_rune hs hc (h.cln (.inr rfl))
  have := rune_open hi hk2 h g1
  refine told_some hs ?_
  rw [g4]
  show 0 < (runeLF src (st, true, 0)).1.notes.length
  omega
end Sc
end Go.Proofs.YtogkcphobhhbdaaDoor

/- Plain: a valid character's bytes, put together again and read again. -/
namespace Go.Proofs.YtogkcphobhhbdaaDoor
open Go Go.RowKit Go.Lib
namespace Sc
open Ev
set_option maxRecDepth 100000

/-- Bytes stand in a text from k on. -/
structure Byt (T : ByteArray) (k : Nat) (l : List Int) : Prop where
  le : k + l.length ≤ T.size
  get : ∀ (j : Nat) (x : Int), l[j]? = some x → ((T.get! (k + j)).toNat : Int) = x
theorem Byt.left {T : ByteArray} {k : Nat} {a b : List Int} (h : Byt T k (a ++ b)) : Byt T k a := by
  have := h.le
  rw [List.length_append] at this
  refine ⟨by omega, fun j x hj => h.get j x ?_⟩
  have hlt : j < a.length := (List.getElem?_eq_some_iff.1 hj).1
  rw [List.getElem?_append_left hlt]; exact hj
theorem Byt.right {T : ByteArray} {k : Nat} {a b : List Int} (h : Byt T k (a ++ b)) : Byt T (k + a.length) b := by
  have := h.le
  rw [List.length_append] at this
  refine ⟨by omega, fun j x hj => ?_⟩
  have := h.get (a.length + j) x (by rw [List.getElem?_append_right (by omega), Nat.add_sub_cancel_left]; exact hj)
  rw [Nat.add_assoc]; exact this
theorem Byt.chAt {T : ByteArray} {k : Nat} {x : Int} {l : List Int} (h : Byt T k (x :: l)) (h0 : 0 < x) (h1 : x < 128) : ChAt T k x 1 := by
  have e := h.get 0 x rfl
  rw [Nat.add_zero] at e
  have hl := h.le
  rw [List.length_cons] at hl
  have := chAt_byte (src := T) (p := k) (by omega) (by omega) (by omega)
  rw [e] at this
  exact this
theorem Byt.tail {T : ByteArray} {k : Nat} {x : Int} {l : List Int} (h : Byt T k (x :: l)) : Byt T (k + 1) l := by
  have : Byt T k ([x] ++ l) := h
  exact this.right
/-- A valid character: what it is made of, what it is put together to, what it is read as elsewhere. -/
theorem decodeN_facts {n b0 b1 b2 b3 : Nat} (hn : 0 < n) (h0 : b0 < 256) (h1 : b1 < 256) (h2 : b2 < 256) (h3 : b3 < 256) (hne : (decodeN n b0 b1 b2 b3).1 ≠ 65533) :
    (decodeN n b0 b1 b2 b3).2 ≤ n ∧ ¬ (55296 ≤ (decodeN n b0 b1 b2 b3).1 ∧ (decodeN n b0 b1 b2 b3).1 < 57344) ∧
    Lib.encodeRuneZ (decodeN n b0 b1 b2 b3).1 = ([(b0 : Int), b1, b2, b3]).take (decodeN n b0 b1 b2 b3).2 ∧
    (∀ m c1 c2 c3, (decodeN n b0 b1 b2 b3).2 ≤ m → (1 < (decodeN n b0 b1 b2 b3).2 → c1 = b1) → (2 < (decodeN n b0 b1 b2 b3).2 → c2 = b2) → (3 < (decodeN n b0 b1 b2 b3).2 → c3 = b3) → decodeN m b0 c1 c2 c3 = decodeN n b0 b1 b2 b3) := by
  unfold decodeN at hne ⊢
  by_cases k0 : b0 < 128
  · simp only [if_pos k0] at hne ⊢
    exact ⟨by omega, by omega, by rw [Lib.encodeRuneZ_one (by omega) (by omega)]; rfl, fun m c1 c2 c3 _ _ _ _ => trivial⟩
  · simp only [if_neg k0] at hne ⊢
    by_cases k1 : b0 / 32 = 6 ∧ (1 < n ∧ b1 / 64 = 2)
    · simp only [if_pos k1] at hne ⊢
      split at hne
      · rename_i hv
        simp only [if_pos hv]
        refine ⟨by omega, by omega, ?_, fun m c1 c2 c3 hm e1 _ _ => ?_⟩
        · rw [Lib.encodeRuneZ_two (by omega) (by omega)]
          show _ = [(b0 : Int), b1]
          congr 1
          · omega
          · congr 1; omega
        · have e1 := e1 (by decide)
          subst e1
          rw [if_pos ⟨k1.1, by omega, k1.2.2⟩, if_pos hv]
      · exact absurd rfl hne
    · simp only [if_neg k1] at hne ⊢
      by_cases k2 : b0 / 16 = 14 ∧ (1 < n ∧ b1 / 64 = 2) ∧ (2 < n ∧ b2 / 64 = 2)
      · simp only [if_pos k2] at hne ⊢
        split at hne
        · rename_i hv
          simp only [if_pos hv]
          refine ⟨by omega, by omega, ?_, fun m c1 c2 c3 hm e1 e2 _ => ?_⟩
          · rw [Lib.encodeRuneZ_three (by omega)]
            show _ = [(b0 : Int), b1, b2]
            congr 1
            · omega
            · congr 1
              · omega
              · congr 1; omega
          · have e1 := e1 (by decide)
            have e2 := e2 (by decide)
            subst e1 e2
            have k1' : ¬ (b0 / 32 = 6 ∧ (1 < m ∧ c1 / 64 = 2)) := fun h => by have := k2.1; have := h.1; omega
            rw [if_neg k1', if_pos ⟨k2.1, ⟨by omega, k2.2.1.2⟩, by omega, k2.2.2.2⟩, if_pos hv]
        · exact absurd rfl hne
      · simp only [if_neg k2] at hne ⊢
        by_cases k3 : b0 / 8 = 30 ∧ (1 < n ∧ b1 / 64 = 2) ∧ (2 < n ∧ b2 / 64 = 2) ∧ (3 < n ∧ b3 / 64 = 2)
        · simp only [if_pos k3] at hne ⊢
          split at hne
          · rename_i hv
            simp only [if_pos hv]
            refine ⟨by omega, by omega, ?_, fun m c1 c2 c3 hm e1 e2 e3 => ?_⟩
            · rw [Lib.encodeRuneZ_four (by omega) (by omega)]
              show _ = [(b0 : Int), b1, b2, b3]
              congr 1
              · omega
              · congr 1
                · omega
                · congr 1
                  · omega
                  · congr 1; omega
            · have e1 := e1 (by decide)
              have e2 := e2 (by decide)
              have e3 := e3 (by decide)
              subst e1 e2 e3
              have k1' : ¬ (b0 / 32 = 6 ∧ (1 < m ∧ c1 / 64 = 2)) := fun h => by have := k3.1; have := h.1; omega
              have k2' : ¬ (b0 / 16 = 14 ∧ (1 < m ∧ c1 / 64 = 2) ∧ (2 < m ∧ c2 / 64 = 2)) := fun h => by have := k3.1; have := h.1; omega
              rw [if_neg k1', if_neg k2', if_pos ⟨k3.1, ⟨by omega, k3.2.1.2⟩, ⟨by omega, k3.2.2.1.2⟩, by omega, k3.2.2.2.2⟩, if_pos hv]
          · exact absurd rfl hne
        · simp only [if_neg k3] at hne
          exact absurd rfl hne
end Sc
end Go.Proofs.YtogkcphobhhbdaaDoor

/- Plain: what Quoted puts together is a string's inside. -/
namespace Go.Proofs.YtogkcphobhhbdaaDoor
open Go Go.RowKit Go.Lib
namespace Sc
open Ev
set_option maxRecDepth 100000

theorem byteLt (s : ByteArray) (p i : Nat) : (s.get! (p + i)).toNat < 256 := (s.get! (p + i)).toNat_lt
/-- A character of a text, put together elsewhere, is read as itself. -/
theorem enc_chAt {s T : ByteArray} {p k : Nat} (hp : p < s.size) (hne : (Utf8.decode s p).1 ≠ 65533) (h0 : ((Utf8.decode s p).1 : Int) ≠ 0) (h1 : ((Utf8.decode s p).1 : Int) ≠ 65279) (h : Byt T k (Lib.encodeRuneZ (Utf8.decode s p).1)) :
    ChAt T k (Utf8.decode s p).1 (Lib.encodeRuneZ (Utf8.decode s p).1).length := by
  have hd := decode_at s p
  have hb0 := byteLt s p 0
  rw [Nat.add_zero] at hb0
  have f := decodeN_facts (n := s.size - p) (b0 := (s.get! p).toNat) (b1 := (s.get! (p + 1)).toNat) (b2 := (s.get! (p + 2)).toNat) (b3 := (s.get! (p + 3)).toNat) (by omega) hb0 (byteLt s p 1) (byteLt s p 2) (byteLt s p 3) (by rw [← hd]; exact hne)
  rw [← hd] at f
  obtain ⟨f1, f2, f3, f4⟩ := f
  have dp := dec_pos s p
  have hw4 : (Utf8.decode s p).2 ≤ 4 := dp.2
  have hl : (Lib.encodeRuneZ (Utf8.decode s p).1).length = (Utf8.decode s p).2 := by rw [f3, List.length_take]; simp; omega
  have hle := h.le
  rw [f3] at h
  have g : ∀ j b, j < (Utf8.decode s p).2 → ([((s.get! p).toNat : Int), ((s.get! (p + 1)).toNat : Int), ((s.get! (p + 2)).toNat : Int), ((s.get! (p + 3)).toNat : Int)])[j]? = some b → ((T.get! (k + j)).toNat : Int) = b := fun j b hj hb => h.get j b (by rw [List.getElem?_take, if_pos hj]; exact hb)
  have g0 := g 0 _ (by omega) rfl
  rw [Nat.add_zero] at g0
  have hT : Utf8.decode T k = Utf8.decode s p := by
    rw [decode_at T k]
    have e0 : (T.get! k).toNat = (s.get! p).toNat := by omega
    rw [e0]
    exact f4 _ _ _ _ (by omega) (fun hh => by have := g 1 _ hh rfl; omega) (fun hh => by have := g 2 _ hh rfl; omega) (fun hh => by have := g 3 _ hh rfl; omega)
  rw [hl]
  refine ⟨by omega, ?_⟩
  by_cases hb : (T.get! k).toNat < 128
  · have e : Utf8.decode T k = ((T.get! k).toNat, 1) := by
      have hb1' : (T.get! (k + 0)).toNat < 128 := hb
      unfold Utf8.decode
      simp only [hb1', if_true]
      rfl
    rw [hT] at e
    rw [e] at h0
    exact .inl ⟨hb, by simp only at h0; omega, by rw [e], by rw [e]⟩
  · exact .inr ⟨hb, by rw [hT]; omega, by rw [hT]; omega, by rw [hT], by rw [hT]⟩
theorem hexCh_dig {d : Int} (h0 : 0 ≤ d) (h1 : d < 16) : digv (hexCh d) = d ∧ 48 ≤ hexCh d ∧ hexCh d ≤ 102 := by
  unfold hexCh digv
  split
  · rw [if_pos (by omega)]; omega
  · rw [if_neg (by omega), if_pos (by omega)]; omega
theorem hexAt_dig (r : Int) (k : Nat) : digv (hexAt r k) = r / 2 ^ k % 16 ∧ 48 ≤ hexAt r k ∧ hexAt r k ≤ 102 := hexCh_dig (by omega) (by omega)
/-- The digits of a number are read as that number. -/
theorem take_hexes {r : Int} (h0 : 0 ≤ r) (h1 : r ≤ 1114111) (rest : List Int) : takeDig 16 8 0 (hexes r 8 ++ rest) = some (r, rest) := by
  have d := fun k => hexAt_dig r k
  simp only [hexes, List.cons_append, List.nil_append, takeDig]
  rw [(d _).1, (d _).1, (d _).1, (d _).1, (d _).1, (d _).1, (d _).1, (d _).1]
  have e0 : (2 : Int) ^ (4 * 0) = 1 := by decide
  have e1 : (2 : Int) ^ (4 * 1) = 16 := by decide
  have e2 : (2 : Int) ^ (4 * 2) = 256 := by decide
  have e3 : (2 : Int) ^ (4 * 3) = 4096 := by decide
  have e4 : (2 : Int) ^ (4 * 4) = 65536 := by decide
  have e5 : (2 : Int) ^ (4 * 5) = 1048576 := by decide
  have e6 : (2 : Int) ^ (4 * 6) = 16777216 := by decide
  have e7 : (2 : Int) ^ (4 * 7) = 268435456 := by decide
  rw [e0, e1, e2, e3, e4, e5, e6, e7]
  rw [if_pos (by omega), if_pos (by omega), if_pos (by omega), if_pos (by omega), if_pos (by omega), if_pos (by omega), if_pos (by omega), if_pos (by omega)]
  congr 2
  omega
theorem cl_hexes {T : ByteArray} {r : Int} : ∀ (j k : Nat), Byt T k (hexes r j) → Cl T k (hexes r j) (k + j)
  | 0, k, _ => .nil
  | j + 1, k, h => by
    have d := hexAt_dig r (4 * j)
    have h1 : Byt T k (hexAt r (4 * j) :: hexes r j) := h
    have := cl_hexes j (k + 1) h1.tail
    rw [show k + (j + 1) = k + 1 + j by omega]
    exact .cons (h1.chAt (by omega) (by omega)) this
end Sc
end Go.Proofs.YtogkcphobhhbdaaDoor

/- Plain: the laws of strings and runes. -/
namespace Go.Proofs.YtogkcphobhhbdaaDoor
open Go Go.RowKit Go.Lib
namespace Sc
open Ev
set_option maxRecDepth 100000

theorem dec_sur {s : ByteArray} {p : Nat} (hp : p < s.size) (hne : (Utf8.decode s p).1 ≠ 65533) : ¬ noPoint (Utf8.decode s p).1 := by
  have hd := decode_at s p
  have hb0 := byteLt s p 0
  rw [Nat.add_zero] at hb0
  have f := decodeN_facts (n := s.size - p) (b0 := (s.get! p).toNat) (b1 := (s.get! (p + 1)).toNat) (b2 := (s.get! (p + 2)).toNat) (b3 := (s.get! (p + 3)).toNat) (by omega) hb0 (byteLt s p 1) (byteLt s p 2) (byteLt s p 3) (by rw [← hd]; exact hne)
  rw [← hd] at f
  have := dec_ch s p
  have := f.2.1
  unfold noPoint
  omega
theorem escC_U {q r : Int} {rest : List Int} (hq : q = 34 ∨ q = 39) (h0 : 0 ≤ r) (h1 : r ≤ 1114111) (hn : ¬ noPoint r) : escC q (85 :: (hexes r 8 ++ rest)) = some rest := by
  have e1 : ¬ simpE q 85 = true := by simp [simpE]; omega
  have e2 : ¬ octE 85 = true := by decide
  simp only [escC]
  rw [if_neg e1, if_neg e2, if_neg (by decide), if_neg (by decide), if_pos trivial, take_hexes h0 h1]
  simp only [Option.bind_some]
  rw [if_neg hn]
theorem escC_s {q c : Int} {rest : List Int} (h : simpE q c = true) : escC q (c :: rest) = some rest := by
  simp only [escC]
  rw [if_pos h]
theorem quo_its {s T : ByteArray} {q : Int} {full : Bool} (hq : q = 34 ∨ q = 39) : ∀ (n p k : Nat), s.size ≤ p + n → p ≤ s.size → textOkN s n p = true → Byt T k (quoN s q full n p) →
    ∃ cs, Cl T k cs (k + (quoN s q full n p).length) ∧ Its q cs (runesAt s n p).length
  | 0, p, k, h1, h2, _, _ => ⟨[], .nil, .nil⟩
  | n + 1, p, k, h1, h2, ho, hb => by
    by_cases hp : p < s.size
    · simp only [textOkN, if_pos hp] at ho
      simp only [quoN, if_pos hp] at hb ⊢
      simp only [runesAt, if_pos hp]
      have dp := dec_pos s p
      have dl := dec_le s p hp
      have dc := dec_ch s p
      cases hbad : badR (Utf8.decode s p).1 with
      | true => rw [hbad] at ho; cases ho
      | false =>
        rw [hbad, if_neg (by simp)] at ho
        have hr : ((Utf8.decode s p).1 : Int) ≠ 65533 ∧ ((Utf8.decode s p).1 : Int) ≠ 0 ∧ ((Utf8.decode s p).1 : Int) ≠ 65279 := by
          unfold badR at hbad
          simp only [Bool.or_eq_false_iff, beq_eq_false_iff_ne, ne_eq] at hbad
          exact ⟨hbad.1.1, hbad.1.2, hbad.2⟩
        have hne : (Utf8.decode s p).1 ≠ 65533 := by omega
        obtain ⟨cs, c1, c2⟩ := quo_its hq n (p + (Utf8.decode s p).2) (k + (quoR q full (Utf8.decode s p).1).length) (by omega) dl ho hb.right
        have hl := hb.left
        have hsur := dec_sur hp hne
        have enc := enc_chAt (T := T) (k := k) hp hne hr.2.1 hr.2.2
        rw [List.length_append, List.length_cons, ← Nat.add_assoc]
        generalize (quoN s q full n (p + (Utf8.decode s p).2)).length = len at c1
        generalize (runesAt s n (p + (Utf8.decode s p).2)).length = cnt at c2
        have h00 : (0 : Int) ≤ ((Utf8.decode s p).1 : Int) := Int.natCast_nonneg _
        have h11 : ((Utf8.decode s p).1 : Int) ≤ 1114111 := by omega
        generalize ((Utf8.decode s p).1 : Int) = r at c1 hl hsur enc hr h00 h11
        have two : ∀ c : Int, quoR q full r = [92, c] → simpE q c = true → 0 < c → c < 128 → ∃ cs, Cl T k cs (k + (quoR q full r).length + len) ∧ Its q cs (cnt + 1) := fun c e hs hc0 hc1 => by
          rw [e] at hl c1 ⊢
          have g1 := hl.chAt (by decide) (by decide)
          have g2 := hl.tail.chAt hc0 hc1
          exact ⟨92 :: c :: cs, .cons g1 (.cons g2 c1), .es (escC_s hs) c2⟩
        by_cases k1 : full = true ∨ r = 127 ∨ (r < 32 ∧ r ≠ 10 ∧ r ≠ 9 ∧ r ≠ 13)
        · have e : quoR q full r = [92, 85] ++ hexes r 8 := by unfold quoR; rw [if_pos k1]
          rw [e] at hl c1 ⊢
          have g1 : ChAt T k 92 1 := hl.left.chAt (by decide) (by decide)
          have g2 : ChAt T (k + 1) 85 1 := hl.left.tail.chAt (by decide) (by decide)
          have g3 := cl_hexes 8 (k + 2) hl.right
          have hlen : ([92, 85] ++ hexes r 8).length = 10 := rfl
          rw [hlen] at c1 ⊢
          exact ⟨92 :: 85 :: (hexes r 8 ++ cs), .cons g1 (.cons g2 (g3.app c1)), .es (escC_U hq h00 h11 hsur) c2⟩
        · have e0 : quoR q full r = quS q r := by unfold quoR quS; rw [if_neg k1]
          have hfull : full = false := by
            cases full with
            | true => exact absurd (.inl rfl) k1
            | false => rfl
          by_cases k2 : r = 10
          · exact two 110 (by rw [e0]; unfold quS; rw [if_pos k2]) (by simp [simpE]) (by decide) (by decide)
          by_cases k3 : r = 9
          · exact two 116 (by rw [e0]; unfold quS; rw [if_neg k2, if_pos k3]) (by simp [simpE]) (by decide) (by decide)
          by_cases k4 : r = 13
          · exact two 114 (by rw [e0]; unfold quS; rw [if_neg k2, if_neg k3, if_pos k4]) (by simp [simpE]) (by decide) (by decide)
          by_cases k5 : r = q ∨ r = 92
          · exact two r (by rw [e0]; unfold quS; rw [if_neg k2, if_neg k3, if_neg k4, if_pos k5]) (by rcases k5 with h | h <;> simp [simpE, h]) (by omega) (by omega)
          · have e : quoR q full r = Lib.encodeRuneZ r := by rw [e0]; unfold quS; rw [if_neg k2, if_neg k3, if_neg k4, if_neg k5]
            rw [e] at hl c1 ⊢
            exact ⟨r :: cs, .cons (enc hl) c1, .ch (fun h => k5 (.inl h)) (fun h => k5 (.inr h)) k2 c2⟩
    · simp only [quoN, if_neg hp, runesAt]
      exact ⟨[], .nil, .nil⟩
theorem quoN_len (s : ByteArray) (q : Int) (full : Bool) : ∀ (n p : Nat), p ≤ s.size → (quoN s q full n p).length + 10 * p ≤ 10 * s.size
  | 0, p, h => by show 0 + 10 * p ≤ _; omega
  | n + 1, p, h => by
    by_cases hp : p < s.size
    · simp only [quoN, if_pos hp, List.length_append]
      have dp := (dec_pos s p).1
      have dl := dec_le s p hp
      have hl := quoR_len q full (Utf8.decode s p).1
      have := quoN_len s q full n _ dl
      omega
    · simp only [quoN, if_neg hp]
      show 0 + 10 * p ≤ _; omega
theorem quoR_byte {q r : Int} {full : Bool} (hq : q = 34 ∨ q = 39) (h0 : 0 ≤ r) (h1 : r ≤ 1114111) : ∀ x ∈ quoR q full r, 0 ≤ x ∧ x < 256 := by
  intro x hx
  unfold quoR at hx
  split at hx
  · rcases List.mem_append.1 hx with hx | hx
    · simp only [List.mem_cons, List.not_mem_nil, or_false] at hx
      rcases hx with rfl | rfl <;> decide
    · have key : ∀ j, x ∈ hexes r j → 0 ≤ x ∧ x < 256 := fun j => by
        induction j with
        | zero => intro h; exact absurd h List.not_mem_nil
        | succ j ih =>
          intro h
          rcases List.mem_cons.1 h with rfl | h
          · have := hexAt_dig r (4 * j); omega
          · exact ih h
      exact key 8 hx
  · repeat' split at hx
    all_goals first
      | (simp only [List.mem_cons, List.not_mem_nil, or_false] at hx; rcases hx with rfl | rfl <;> omega)
      | skip
    unfold Lib.encodeRuneZ at hx
    repeat' split at hx
    all_goals (simp only [List.mem_cons, List.not_mem_nil, or_false] at hx; omega)
theorem quoN_byte {s : ByteArray} {q : Int} {full : Bool} (hq : q = 34 ∨ q = 39) : ∀ (n p : Nat), ∀ x ∈ quoN s q full n p, 0 ≤ x ∧ x < 256
  | 0, p, x, hx => absurd hx List.not_mem_nil
  | n + 1, p, x, hx => by
    by_cases hp : p < s.size
    · simp only [quoN, if_pos hp] at hx
      rcases List.mem_append.1 hx with hx | hx
      · exact quoR_byte hq (Int.natCast_nonneg _) (by have := dec_ch s p; omega) x hx
      · exact quoN_byte hq n _ x hx
    · simp only [quoN, if_neg hp] at hx
      exact absurd hx List.not_mem_nil
/-- The text that numbers are the bytes of. -/
theorem byt_str (l : List Int) (h : ∀ x ∈ l, 0 ≤ x ∧ x < 256) : (strOfNums l).size = l.length ∧ Byt (strOfNums l) 0 l := by
  have e : (strOfNums l).size = l.length := by simp [strOfNums, ByteArray.size]
  refine ⟨e, by omega, fun j x hj => ?_⟩
  have hx := h x (List.mem_of_getElem? hj)
  rw [Nat.zero_add, get_list]
  have : (strOfNums l).data.toList = l.map fun n => UInt8.ofNat n.toNat := by simp [strOfNums]
  rw [this, List.getD_eq_getElem?_getD, List.getElem?_map, hj]
  simp only [Option.map_some, Option.getD_some, UInt8.toNat_ofNat']
  omega
/-- What Quoted tells, of a text that TextOk takes. -/
theorem quoted_parts {s : ByteArray} {q : Int} {full : Bool} (hq : q = 34 ∨ q = 39) (h : textOkF s = true) :
    (quotedF s q full).size ≤ 602 ∧ ∃ cs m, Cl (quotedF s q full) 1 cs m ∧ Its q cs (runes s).length ∧ ChAt (quotedF s q full) 0 q 1 ∧ ChAt (quotedF s q full) m q 1 ∧ m + 1 = (quotedF s q full).size := by
  unfold textOkF at h
  simp only [Bool.and_eq_true, decide_eq_true_eq] at h
  have hb := quoN_byte (s := s) (full := full) hq (s.size + 1) 0
  have hq8 : 0 ≤ q ∧ q < 128 ∧ 0 < q := by omega
  have hall : ∀ x ∈ [q] ++ quoN s q full (s.size + 1) 0 ++ [q], 0 ≤ x ∧ x < 256 := fun x hx => by
    rcases List.mem_append.1 hx with hx | hx
    · rcases List.mem_append.1 hx with hx | hx
      · simp only [List.mem_singleton] at hx; omega
      · exact hb x hx
    · simp only [List.mem_singleton] at hx; omega
  obtain ⟨e1, e2⟩ := byt_str _ hall
  have hlen := quoN_len s q full (s.size + 1) 0 (Nat.zero_le _)
  have hT : quotedF s q full = strOfNums ([q] ++ quoN s q full (s.size + 1) 0 ++ [q]) := rfl
  rw [← hT] at e1 e2
  simp only [List.length_append, List.length_singleton] at e1
  have g0 : ChAt (quotedF s q full) 0 q 1 := e2.left.left.chAt hq8.2.2 hq8.2.1
  have g1 := e2.left.right
  have g2 := e2.right.chAt hq8.2.2 hq8.2.1
  simp only [List.length_append, List.length_singleton] at g1 g2
  obtain ⟨cs, c1, c2⟩ := quo_its (T := quotedF s q full) hq (s.size + 1) 0 (0 + 1) (by omega) (Nat.zero_le _) h.1 g1
  refine ⟨by omega, cs, _, c1, c2, g0, ?_, ?_⟩
  · rw [show 0 + 1 + (quoN s q full (s.size + 1) 0).length = 0 + (1 + (quoN s q full (s.size + 1) 0).length) by omega]
    exact g2
  · omega
theorem runesAt_len (s : ByteArray) : ∀ (n p : Nat), (runesAt s n p).length ≤ n
  | 0, p => Nat.le_refl _
  | n + 1, p => by
    simp only [runesAt]
    split
    · simp only [List.length_cons]; have := runesAt_len s n (p + (Utf8.decode s p).2); omega
    · exact Nat.zero_le _
theorem runes_len {s : ByteArray} (h : textOkF s = true) : (runes s).length ≤ 1000000 := by
  unfold textOkF at h
  simp only [Bool.and_eq_true, decide_eq_true_eq] at h
  have := runesAt_len s (s.size + 1) 0
  unfold runes
  omega
theorem string_law {s : ByteArray} {full : Bool} (h : textOkF s = true) :
    LikeAll (Sc.toks (quotedF s 34 full) 0) (closedF [litW (quotedF s 34 full) 4] (litW (quotedF s 34 full) 4)) ∧ (last (quotedF s 34 full) 0).notes = [] := by
  obtain ⟨h1, cs, m, c1, c2, c3, c4, c5⟩ := quoted_parts (q := 34) (full := full) (.inl rfl) h
  exact str_tok (by omega) c3 c1 c2 c4 c5
theorem rune_law {s : ByteArray} (h : textOkF s = true) :
    ((runes s).length = 1 → LikeAll (Sc.toks (quotedF s 39 false) 0) (closedF [litW (quotedF s 39 false) 3] (litW (quotedF s 39 false) 3)) ∧ (last (quotedF s 39 false) 0).notes = []) ∧
    ((runes s).length ≠ 1 → 0 < (last (quotedF s 39 false) 0).notes.length) := by
  obtain ⟨h1, cs, m, c1, c2, c3, c4, c5⟩ := quoted_parts (q := 39) (full := false) (.inr rfl) h
  have hc := c1.le
  have hits : ∀ {q : Int} {cs : List Int} {k : Nat}, Its q cs k → k ≤ 1000000 → True := fun _ _ => trivial
  refine ⟨fun h2 => ?_, fun h2 => ?_⟩
  · rw [h2] at c2
    exact rune_tok (by omega) c3 c1 c2 c4 c5
  · exact rune_many_told (by omega) c3 c1 c2 h2 (runes_len h) c4
end Sc
end Go.Proofs.YtogkcphobhhbdaaDoor

/- FnString walked: true at every text. -/
namespace Go.Proofs.YtogkcphobhhbdaaDoor
open Go Go.RowKit Go.Lib
namespace Sc
open Ev
set_option maxRecDepth 100000

theorem below_up {a b c : World} (h : Below a.heap.size a b) (h' : Below b.heap.size b c) : Below a.heap.size a c := h.trans (below_weak h' h.size)
set_option maxHeartbeats 3200000 in
theorem fnString_long {w : World} {s : ByteArray} (h : 150 < s.size) : Calls Tryd.prog 10 #[.string s] w fun en w' => en = .returned (.bool true) ∧ Below w.heap.size w w' := by
  have h1 : (150 : Int) < (s.size : Int) := by omega
  go_enter Tryd.func10, Tryd.ntmps10
  go_wp2_with fail
  all_goals exact ⟨rfl, _, one_res (k := 2) (by kernel_rfl) rfl, rfl, Below.refl _ _⟩
set_option maxHeartbeats 6400000 in
theorem fnString_walk {w : World} {ea : Addr} (s : ByteArray) (hG : Glob w ea) : Calls Tryd.prog 10 #[.string s] w fun en w' => en = .returned (.bool true) ∧ Below w.heap.size w w' := by
  by_cases h : 150 < s.size
  · exact fnString_long h
  have h1 : ¬ (150 : Int) < (s.size : Int) := by omega
  have h2 : ¬ (2147483647 : Int) < (s.size : Int) := by omega
  have hT := fun w => textOk_walk w s
  cases hb : textOkF s with
  | false =>
    rw [hb] at hT
    go_enter Tryd.func10, Tryd.ntmps10
    go_wp2_with (go_at_call 17; refine (hT _).mono ?_; rintro en w1 ⟨rfl, hB1⟩)
    exact ⟨rfl, _, one_res (k := 2) (by kernel_rfl) rfl, rfl, hB1⟩
  | true =>
    rw [hb] at hT
    obtain ⟨hA, hn⟩ := string_law (full := false) hb
    obtain ⟨hA2, hn2⟩ := string_law (full := true) hb
    have hs1 := (quoted_parts (q := 34) (full := false) (.inl rfl) hb).1
    have hs2 := (quoted_parts (q := 34) (full := true) (.inl rfl) hb).1
    have hQ1 := fun w => quoted_walk w s 34 false (.inl rfl) (by omega)
    have hQ2 := fun w => quoted_walk w s 34 true (.inl rfl) (by omega)
    generalize quotedF s 34 false = T at hA hn hs1 hQ1
    generalize quotedF s 34 true = U at hA2 hn2 hs2 hQ2
    have hC := fun w => closed_one_walk w (litW T 4)
    have hC2 := fun w => closed_one_walk w (litW U 4)
    have hTo := fun w gw capw b1 hG => toldL_walk (w := w) (ea := ea) (gw := gw) (capw := capw) (b1 := b1) hG (by omega : T.size ≤ 2048) hA hn
    have hTo2 := fun w gw capw b1 hG => toldL_walk (w := w) (ea := ea) (gw := gw) (capw := capw) (b1 := b1) hG (by omega : U.size ≤ 2048) hA2 hn2
    clear hA hn hA2 hn2 hs1 hs2
    generalize closedF [litW T 4] (litW T 4) = W at hC hTo
    generalize closedF [litW U 4] (litW U 4) = V at hC2 hTo2
    go_enter Tryd.func10, Tryd.ntmps10
    go_wp2_with (first
      | (go_at_call 21; have hh := hB6; refine (hTo2 _ _ _ _ (glob_move hG hB6) hrow6).mono ?_; rintro en w7 ⟨rfl, hB7⟩; have hB7 := below_up hB6 hB7)
      | (go_at_call 21; refine (hTo _ _ _ _ (glob_move hG hB4) hrow4).mono ?_; rintro en w5 ⟨rfl, hB5⟩; have hB5 := below_up hB4 hB5)
      | (go_at_call 22; have hh := hB5; refine (hC2 _).mono ?_; rintro en w6 ⟨g6, cap6, b6, rfl, hrow6, hB6⟩; have hB6 := below_up hB5 hB6)
      | (go_at_call 22; refine (hC _).mono ?_; rintro en w4 ⟨g4, cap4, b4, rfl, hrow4, hB4⟩; have hB4 := below_up hB3 hB4)
      | (go_at_call 26; have hh := hB2; refine (hQ2 _).mono ?_; rintro en w3 ⟨rfl, hB3⟩; have hB3 := below_up hB2 hB3)
      | (go_at_call 26; refine (hQ1 _).mono ?_; rintro en w2 ⟨rfl, hB2⟩; have hB2 := below_up hB1 hB2)
      | (go_at_call 17; refine (hT _).mono ?_; rintro en w1 ⟨rfl, hB1⟩))
    exact ⟨rfl, _, one_res (k := 2) (by kernel_rfl) rfl, rfl, hB7⟩
end Sc
end Go.Proofs.YtogkcphobhhbdaaDoor

/- FnRune walked: the count of characters. -/
namespace Go.Proofs.YtogkcphobhhbdaaDoor
open Go Go.RowKit Go.Lib
namespace Sc
open Ev
set_option maxRecDepth 100000

/-- Known slots of a frame of 32. -/
structure SRu (v0 vt vn vi : Value) (a : Act) : Prop where
  defers : a.defers = []
  size : a.tmps.size = 32
  s0 : a.tmps[0]? = some v0
  s3 : a.tmps[3]? = some vt
  s4 : a.tmps[4]? = some vn
  s17 : a.tmps[17]? = some vi
theorem SRu.lit {v0 vt vn vi : Value} {a : Act} (h : SRu v0 vt vn vi a) : ∃ x : Nat → Value, a = { tmps := #[v0, x 1, x 2, vt, vn, x 5, x 6, x 7, x 8, x 9, x 10, x 11, x 12, x 13, x 14, x 15, x 16, vi, x 18, x 19, x 20, x 21, x 22, x 23, x 24, x 25, x 26, x 27, x 28, x 29, x 30, x 31], defers := [] } := by
  refine ⟨fun i => a.tmps.getD i undef, ?_⟩
  obtain ⟨t, d⟩ := a
  obtain ⟨h1, h2, k0, k3, k4, k17⟩ := h
  simp only at h1 h2 k0 k3 k4 k17
  subst h1
  have e0 : t.getD 0 undef = v0 := by rw [Array.getD_eq_getD_getElem?, k0]; rfl
  have e3 : t.getD 3 undef = vt := by rw [Array.getD_eq_getD_getElem?, k3]; rfl
  have e4 : t.getD 4 undef = vn := by rw [Array.getD_eq_getD_getElem?, k4]; rfl
  have e17 : t.getD 17 undef = vi := by rw [Array.getD_eq_getD_getElem?, k17]; rfl
  have ht := tmpsN 32 t h2
  rw [← e0, ← e3, ← e4, ← e17]
  exact congrArg (fun t => ({ tmps := t, defers := [] } : Act)) ht
theorem SRu.of {v0 vt vn vi : Value} (x : Nat → Value) : SRu v0 vt vn vi { tmps := #[v0, x 1, x 2, vt, vn, x 5, x 6, x 7, x 8, x 9, x 10, x 11, x 12, x 13, x 14, x 15, x 16, vi, x 18, x 19, x 20, x 21, x 22, x 23, x 24, x 25, x 26, x 27, x 28, x 29, x 30, x 31], defers := [] } := ⟨rfl, rfl, rfl, rfl, rfl, rfl⟩

noncomputable abbrev ruBody : Code := bodyOf Tryd.f9
noncomputable abbrev ruLoop : Code := loopOf (blkOf ruBody 0)
noncomputable abbrev ruP (n : Nat) : Code := fstC (cutTail n ruBody)
theorem ru_body : (Tryd.f9).body = some (.seq (ruP 0) (.seq (ruP 1) (.seq (ruP 2) (.seq (ruP 3) (.seq (ruP 4) (.seq (ruP 5) (.seq (.seq (fstC (ruP 6)) (.block 0 (.loop ruLoop))) (cutTail 7 ruBody)))))))) := by kernel_rfl
theorem ru_end {w : World} {s : ByteArray} {k pos : Nat} {v0 vt vn : Value} (hk : w.heap[k]? = some (Obj.stringIter s pos)) (h : ¬ pos < s.size)
    (a : Act) (hz : SRu v0 vt vn (.pointer (some ⟨k, 0, none⟩)) a) (Q : Exit → Act → World → Prop) (hQ : ∀ a', SRu v0 vt vn (.pointer (some ⟨k, 0, none⟩)) a' → Q (.exit 0) a' w) : ruLoop.wp Tryd.prog Q a w := by
  obtain ⟨x, rfl⟩ := hz.lit
  clear hz
  have hx := fun ty => run_next_end_at (P := Tryd.prog) w k s pos ty hk h
  simp only [ruLoop, ruBody, bodyOf, Tryd.f9, Option.getD, blkOf, loopOf, cond, Nat.beq]
  go_wp2_with fail
  exact ⟨rfl, rfl, rfl, rfl, rfl, rfl⟩
theorem ru_round {w : World} {s : ByteArray} {k pos n : Nat} {v0 vt : Value} (hk : w.heap[k]? = some (Obj.stringIter s pos)) (h : pos < s.size) (hn : n ≤ 1000000)
    (a : Act) (hz : SRu v0 vt (.int .i64 n) (.pointer (some ⟨k, 0, none⟩)) a) (Q : Exit → Act → World → Prop) (hQ : ∀ a', SRu v0 vt (.int .i64 (n + 1 : Nat)) (.pointer (some ⟨k, 0, none⟩)) a' → Q .normal a' (w.iterAt k s (pos + (Utf8.decode s pos).2))) : ruLoop.wp Tryd.prog Q a w := by
  obtain ⟨x, rfl⟩ := hz.lit
  clear hz
  have hx := fun ty => run_next_any_at (P := Tryd.prog) w k s pos ty hk h
  generalize w.iterAt k s (pos + (Utf8.decode s pos).2) = w1 at hx hQ
  generalize ((Utf8.decode s pos).1 : Int) = r at hx
  have hw : IntKind.i64.wrap ((n : Int) + 1) = (n : Int) + 1 := i64_small (by omega) (by omega)
  simp only [ruLoop, ruBody, bodyOf, Tryd.f9, Option.getD, blkOf, loopOf, cond, Nat.beq]
  go_wp2_with fail
  exact ⟨rfl, rfl, rfl, rfl, rfl, rfl⟩
theorem ru_loop {s : ByteArray} {k B : Nat} {w0 : World} {v0 vt : Value} (hB : B ≤ k) (Q : Exit → Act → World → Prop) : ∀ (d pos n : Nat) (a : Act) (w : World), s.size ≤ pos + d → n + d ≤ 1000000 → w.heap[k]? = some (Obj.stringIter s pos) → SRu v0 vt (.int .i64 n) (.pointer (some ⟨k, 0, none⟩)) a → Below B w0 w →
      (∀ a w, SRu v0 vt (.int .i64 (n + (runesAt s d pos).length : Nat)) (.pointer (some ⟨k, 0, none⟩)) a → Below B w0 w → Q .normal a w) →
      Code.rounds Tryd.prog ruLoop (Exit.inBlock 0 Q) (d + 1) a w
  | 0, pos, n, a, w, hd, hn, hk, hz, hb, hQ => by
    rw [rounds_succ]
    exact ru_end hk (by omega) a hz _ (fun a' z' => hQ a' w z' hb)
  | d + 1, pos, n, a, w, hd, hn, hk, hz, hb, hQ => by
    rw [rounds_succ]
    by_cases hp : pos < s.size
    · have dp := (dec_pos s pos).1
      refine ru_round hk hp (by omega) a hz _ (fun a' z' => ?_)
      refine ru_loop hB Q d _ (n + 1) a' _ (by omega) (by omega) (iterAt_heap w k s pos _ hk) z' (below_iterAt hb hB s _) (fun a2 w2 z2 b2 => hQ a2 w2 ?_ b2)
      simp only [runesAt, if_pos hp, List.length_cons]
      rw [show n + ((runesAt s d (pos + (Utf8.decode s pos).2)).length + 1) = n + 1 + (runesAt s d (pos + (Utf8.decode s pos).2)).length by omega]
      exact z2
    · refine ru_end hk hp a hz _ (fun a' z' => hQ a' w ?_ hb)
      simp only [runesAt, if_neg hp]
      exact z'
end Sc
end Go.Proofs.YtogkcphobhhbdaaDoor

/- FnRune walked: true at every text. -/
namespace Go.Proofs.YtogkcphobhhbdaaDoor
open Go Go.RowKit Go.Lib
namespace Sc
open Ev
set_option maxRecDepth 100000

theorem refused_yes {w : World} {ea : Addr} {src : ByteArray} (hG : Glob w ea) (hn : src.size ≤ 2048) (h : 0 < (last src 0).notes.length) :
    Calls Tryd.prog 20 #[.string src] w fun en w' => en = .returned (.bool true) ∧ Below w.heap.size w w' := by
  have := refused_walk hG hn
  rw [decide_eq_true h] at this
  exact this
set_option maxHeartbeats 3200000 in
theorem fnRune_long {w : World} {s : ByteArray} (h : 150 < s.size) : Calls Tryd.prog 9 #[.string s] w fun en w' => en = .returned (.bool true) ∧ Below w.heap.size w w' := by
  have h1 : (150 : Int) < (s.size : Int) := by omega
  go_enter Tryd.func9, Tryd.ntmps9
  go_wp2_with fail
  all_goals exact ⟨rfl, _, one_res (k := 2) (by kernel_rfl) rfl, rfl, Below.refl _ _⟩
set_option maxHeartbeats 3200000 in
theorem ru_first {w : World} {s : ByteArray} (h : ¬ 150 < s.size) (hb : textOkF s = true) (B C : Code) (Q : Exit → Act → World → Prop)
    (hQ : ∀ a w2, Below w.heap.size w w2 → SRu (.string s) (.string (quotedF s 39 false)) (.int .i64 (0 : Nat)) (.pointer (some ⟨w2.heap.size, 0, none⟩)) a → B.wp Tryd.prog (Exit.then (fun a w => C.wp Tryd.prog Q a w) Q) a (w2.iter s 0)) :
    (Code.seq (ruP 0) (.seq (ruP 1) (.seq (ruP 2) (.seq (ruP 3) (.seq (ruP 4) (.seq (ruP 5) (.seq (.seq (fstC (ruP 6)) B) C))))))).wp Tryd.prog Q { tmps := #[.string s] ++ Array.replicate 31 undef, defers := [] } w := by
  have h1 : ¬ (150 : Int) < (s.size : Int) := by omega
  have h2 : ¬ (2147483647 : Int) < (s.size : Int) := by omega
  have hT := fun w => textOk_walk w s
  rw [hb] at hT
  have hQ1 := fun w => quoted_walk w s 39 false (.inr rfl) (by omega)
  generalize quotedF s 39 false = T at hQ1 hQ
  simp only [ruP, fstC, ruBody, bodyOf, Tryd.f9, Option.getD, cutTail, cutN, Option.map, Array.replicate_succ, Array.replicate_zero, List.push_toArray, List.append_toArray, List.nil_append, List.cons_append]
  go_wp2_with (first
    | (go_at_call 26; have hh := hB1; refine (hQ1 _).mono ?_; rintro en w2 ⟨rfl, hB2⟩; have hB2 := below_up hB1 hB2)
    | (go_at_call 17; refine (hT _).mono ?_; rintro en w1 ⟨rfl, hB1⟩))
  rename_i K hK
  refine Code.wp_mono (fun e a w h => ?_) (hQ _ _ hB2 ⟨rfl, rfl, rfl, rfl, rfl, rfl⟩)
  cases e <;> first | exact hK _ _ h | exact h
set_option maxHeartbeats 3200000 in
theorem ru_many {w w0 : World} {ea : Addr} {s T : ByteArray} {n : Nat} {vi : Value} (hG : Glob w0 ea) (hB : Below w0.heap.size w0 w) (hn : n ≠ 1) (hn2 : n ≤ 1000000) (hsz : T.size ≤ 2048) (hT : 0 < (last T 0).notes.length) (a : Act) (hz : SRu (.string s) (.string T) (.int .i64 n) vi a) (Q : Exit → Act → World → Prop)
    (hQ : ∀ a' w', a'.defers = [] → a'.tmps[2]? = some (.bool true) → Below w0.heap.size w0 w' → Q .ret a' w') : (cutTail 7 ruBody).wp Tryd.prog Q a w := by
  obtain ⟨x, rfl⟩ := hz.lit
  clear hz
  have hR := refused_yes (glob_move hG hB) hsz hT
  have h1 : ((n : Int) == 1) = false := by simp; omega
  simp only [ruBody, bodyOf, Tryd.f9, Option.getD, cutTail, cutN, Option.map]
  go_wp2_with (go_at_call 20; refine hR.mono ?_; rintro en w4 ⟨rfl, hB4⟩)
  exact hQ _ _ rfl rfl (below_up hB hB4)
set_option maxHeartbeats 3200000 in
theorem ru_one {w w0 : World} {ea : Addr} {s T : ByteArray} {vi : Value} (hG : Glob w0 ea) (hB : Below w0.heap.size w0 w) (hsz : T.size ≤ 2048) (hA : LikeAll (Sc.toks T 0) (closedF [litW T 3] (litW T 3))) (h0 : (last T 0).notes = []) (a : Act) (hz : SRu (.string s) (.string T) (.int .i64 (1 : Nat)) vi a) (Q : Exit → Act → World → Prop)
    (hQ : ∀ a' w', a'.defers = [] → a'.tmps[2]? = some (.bool true) → Below w0.heap.size w0 w' → Q .ret a' w') : (cutTail 7 ruBody).wp Tryd.prog Q a w := by
  obtain ⟨x, rfl⟩ := hz.lit
  clear hz
  have hC := fun w => closed_one_walk w (litW T 3)
  have hTo := fun w gw capw b1 hG => toldL_walk (w := w) (ea := ea) (gw := gw) (capw := capw) (b1 := b1) hG hsz hA h0
  clear hA h0
  generalize closedF [litW T 3] (litW T 3) = W at hC hTo
  simp only [ruBody, bodyOf, Tryd.f9, Option.getD, cutTail, cutN, Option.map]
  go_wp2_with (first
    | (go_at_call 21; have hh := hB4; refine (hTo _ _ _ _ (glob_move hG hB4) hrow4).mono ?_; rintro en w5 ⟨rfl, hB5⟩; have hB5 := below_up hB4 hB5)
    | (go_at_call 22; refine (hC _).mono ?_; rintro en w4 ⟨g4, cap4, b4, rfl, hrow4, hB4⟩; have hB4 := below_up hB hB4))
  exact hQ _ _ rfl rfl hB5
theorem fnRune_walk {w : World} {ea : Addr} (s : ByteArray) (hG : Glob w ea) : Calls Tryd.prog 9 #[.string s] w fun en w' => en = .returned (.bool true) ∧ Below w.heap.size w w' := by
  by_cases h : 150 < s.size
  · exact fnRune_long h
  have h1 : ¬ (150 : Int) < (s.size : Int) := by omega
  have h2 : ¬ (2147483647 : Int) < (s.size : Int) := by omega
  cases hb : textOkF s with
  | false =>
    have hT := fun w => textOk_walk w s
    rw [hb] at hT
    go_enter Tryd.func9, Tryd.ntmps9
    go_wp2_with (go_at_call 17; refine (hT _).mono ?_; rintro en w1 ⟨rfl, hB1⟩)
    exact ⟨rfl, _, one_res (k := 2) (by kernel_rfl) rfl, rfl, hB1⟩
  | true =>
    obtain ⟨l1, l2⟩ := rune_law hb
    have hsz := (quoted_parts (q := 39) (full := false) (.inr rfl) hb).1
    have hrl := runes_len hb
    refine calls_of_wp Tryd.func9 ru_body ?_
    have hnt : (Tryd.f9).ntmps - (#[.string s] : Array Value).size = 31 := by kernel_rfl
    rw [hnt]
    refine ru_first h hb _ _ _ (fun a w2 hB2 z => ?_)
    refine wp_block (wp_loop_rounds (s.size + 1 + 1) ?_)
    have hB3 : Below w.heap.size w (w2.iter s 0) := Below.alloc hB2 hB2.size _
    refine ru_loop (k := w2.heap.size) (B := w.heap.size) (w0 := w) hB2.size _ (s.size + 1) 0 0 a _ (by omega) (by omega) (World.iter_heap w2 s 0) z hB3 (fun a3 w3 z3 b3 => ?_)
    rw [Nat.zero_add] at z3
    have z3 : SRu (.string s) (.string (quotedF s 39 false)) (.int .i64 ((runes s).length : Nat)) (.pointer (some ⟨w2.heap.size, 0, none⟩)) a3 := z3
    show (cutTail 7 ruBody).wp _ _ a3 w3
    have fin : ∀ (a' : Act) (w' : World), a'.defers = [] → a'.tmps[2]? = some (.bool true) → Below w.heap.size w w' → bodyPost Tryd.prog Tryd.f9 (fun en w' => en = .returned (.bool true) ∧ Below w.heap.size w w') .ret a' w' := fun a' w' d0 d2 b' => ⟨d0, _, one_res (k := 2) (by kernel_rfl) d2, rfl, b'⟩
    by_cases hn : (runes s).length = 1
    · obtain ⟨k1, k2⟩ := l1 hn
      rw [hn] at z3
      exact ru_one hG b3 (by omega) k1 k2 a3 z3 _ fin
    · exact ru_many hG b3 hn hrl (by omega) (l2 hn) a3 z3 _ fin
end Sc
end Go.Proofs.YtogkcphobhhbdaaDoor

/- Plain: a remark up to a star with a stroke behind it, or the end. -/
namespace Go.Proofs.YtogkcphobhhbdaaDoor
open Go Go.RowKit Go.Lib
namespace Sc
open Ev
set_option maxRecDepth 100000

theorem starsF_eq (src : ByteArray) (st : St) : starsF src st = if st.ch = 42 then (if (nextch src st).ch = 47 then (true, nextch src (nextch src st)) else starsF src (nextch src st)) else (false, st) := by
  unfold starsF
  rw [runF_step (I := fun _ => True) (fun a _ => sat_mono (starsB_on src a) (fun s hs => by
    cases s with
    | go a' => exact ⟨trivial, hs⟩
    | out q => trivial)) trivial (.out (false, st0))]
  unfold starsB
  by_cases h1 : st.ch = 42
  · by_cases h2 : (nextch src st).ch = 47 <;> simp [Tree.get, stepF, h1, h2]
  · simp [Tree.get, stepF, h1]
theorem scF_eq (src : ByteArray) (st : St) : scF src st = if 0 ≤ st.ch then (if (starsF src st).1 = true then (true, (starsF src st).2) else scF src (nextch src (starsF src st).2)) else (false, st) := by
  unfold scF
  rw [runF_step (I := fun _ => True) (fun a _ => sat_mono (scB_on src a) (fun s hs => by
    cases s with
    | go a' => exact ⟨trivial, hs⟩
    | out q => trivial)) trivial (.out (false, st0))]
  unfold scB
  by_cases h1 : 0 ≤ st.ch
  · cases h2 : (starsF src st).1 <;> simp [Tree.get, stepF, h1, h2]
  · simp [Tree.get, stepF, h1]
/-- What stands behind the first star with a stroke behind it. -/
def closeC : List Int → Option (List Int)
  | [] => none
  | c :: r => if c = 42 ∧ r.head? = some 47 then some r.tail else closeC r
theorem sc_one {src : ByteArray} {st : St} (h0 : 0 ≤ st.ch) (h : st.ch ≠ 42) : scF src st = scF src (nextch src st) := by
  rw [scF_eq, if_pos h0, starsF_eq, if_neg h]
  simp
theorem sc_end {src : ByteArray} {st : St} (h0 : 0 ≤ st.ch) (h : st.ch = 42) (h2 : (nextch src st).ch = 47) : scF src st = (true, nextch src (nextch src st)) := by
  rw [scF_eq, if_pos h0, starsF_eq, if_pos h, if_pos h2]
  simp
theorem sc_star {src : ByteArray} {st : St} (h0 : 0 ≤ st.ch) (h : st.ch = 42) (h2 : (nextch src st).ch ≠ 47) (h3 : 0 ≤ (nextch src st).ch) : scF src st = scF src (nextch src st) := by
  rw [scF_eq, if_pos h0, scF_eq src (nextch src st), if_pos h3]
  have e : starsF src st = starsF src (nextch src st) := by rw [starsF_eq, if_pos h, if_neg h2]
  rw [e]
theorem sc_last {src : ByteArray} {st : St} (h0 : 0 ≤ st.ch) (h : st.ch = 42) (h2 : (nextch src st).ch < 0) : scF src st = scF src (nextch src (nextch src st)) := by
  have n47 : ¬ (nextch src st).ch = 47 := by omega
  have n42 : ¬ (nextch src st).ch = 42 := by omega
  have e : starsF src st = (false, nextch src st) := by rw [starsF_eq, if_pos h, if_neg n47, starsF_eq, if_neg n42]
  rw [scF_eq, if_pos h0, e]
  simp
/-- skipComment over characters. -/
theorem sc_cl {src : ByteArray} {p q : Nat} {cs : List Int} (h : Cl src p cs q) : q = src.size → ∀ {st : St}, Std src p st →
    match closeC cs with
    | some r => ∃ p' st', scF src st = (true, st') ∧ Std src p' st' ∧ Cl src p' r q ∧ Sil src st st'
    | none => ∃ st', scF src st = (false, st') ∧ Std src src.size st' ∧ Sil src st st' := by
  induction h with
  | @nil p =>
    intro hq st hst
    subst hq
    have e := hst.end.1
    exact ⟨st, by rw [scF_eq, if_neg (by omega)], hst, Sil.refl _ _⟩
  | @cons p w q r cs h1 h2 ih =>
    intro hq st hst
    have ih := @ih hq
    obtain ⟨e1, e2⟩ := hst.of h1
    have hw := h1.w
    have hcl : Cln src (p + w) := h2.cln (.inr hq)
    have hn := std_next hst (by rw [e2]; exact hcl)
    have hs := sil_next hst (by rw [e2]; exact hcl)
    rw [e2] at hn
    have h0 : 0 ≤ st.ch := by omega
    have on : scF src st = scF src (nextch src st) → closeC (r :: cs) = closeC cs → match closeC (r :: cs) with
        | some r => ∃ p' st', scF src st = (true, st') ∧ Std src p' st' ∧ Cl src p' r q ∧ Sil src st st'
        | none => ∃ st', scF src st = (false, st') ∧ Std src src.size st' ∧ Sil src st st' := fun k1 k2 => by
      have := ih hn.1
      rw [k2, k1]
      cases hc : closeC cs with
      | some x =>
        rw [hc] at this
        obtain ⟨p', st', g1, g2, g3, g4⟩ := this
        exact ⟨p', st', g1, g2, g3, hs.trans g4⟩
      | none =>
        rw [hc] at this
        obtain ⟨st', g1, g2, g3⟩ := this
        exact ⟨st', g1, g2, hs.trans g3⟩
    by_cases h42 : r = 42
    · subst h42
      cases h2 with
      | nil =>
        have hn1 := hn.1
        rw [hq] at hn1
        have e := hn1.end
        have hn2 := next_of (src := src) (p := p + w) (st := nextch src st) (by rw [hn.1.here, e.2]; rfl) (.inr hq)
        have hs2 : Sil src (nextch src st) (nextch src (nextch src st)) := ⟨on_next _ _, hn2.2⟩
        have e3 : (nextch src (nextch src st)).ch = -1 := by have := hn2.1; rw [hq] at this; exact this.end.1
        refine ⟨nextch src (nextch src st), ?_, by rw [← hq]; exact hn2.1, hs.trans hs2⟩
        rw [sc_last h0 e1 (by rw [e.1]; decide), scF_eq, if_neg (by rw [e3]; decide)]
      | @cons _ w2 _ r2 cs2 h3 h4 =>
        obtain ⟨f1, f2⟩ := hn.1.of h3
        have hw2 := h3.w
        by_cases h47 : r2 = 47
        · subst h47
          have hcl2 : Cln src (p + w + w2) := h4.cln (.inr hq)
          have hn2 := std_next hn.1 (by rw [f2]; exact hcl2)
          have hs2 := sil_next hn.1 (by rw [f2]; exact hcl2)
          rw [f2] at hn2
          have ec : closeC (42 :: 47 :: cs2) = some cs2 := by simp [closeC]
          rw [ec]
          exact ⟨_, _, sc_end h0 e1 f1, hn2.1, h4, hs.trans hs2⟩
        · exact on (sc_star h0 e1 (by rw [f1]; exact h47) (by omega)) (by rw [closeC, if_neg (by simp [h47])])
    · exact on (sc_one h0 (by rw [e1]; exact h42)) (by rw [closeC, if_neg (fun h => h42 h.1)])
theorem closeC_at {src : ByteArray} {p q : Nat} {cs r : List Int} (h : Cl src p cs q) (hc : closeC cs = some r) : ∃ i, p ≤ i ∧ i + 1 < q ∧ (src.get! i).toNat = 42 ∧ (src.get! (i + 1)).toNat = 47 := by
  induction h with
  | nil => cases hc
  | @cons p w q c cs h1 h2 ih =>
    have hw := h1.w
    rw [closeC] at hc
    split at hc
    · rename_i hh
      obtain ⟨rfl, hh⟩ := hh
      cases h2 with
      | nil => cases hh
      | @cons _ w2 _ r2 cs2 h3 h4 =>
        simp only [List.head?_cons, Option.some.injEq] at hh
        subst hh
        obtain ⟨b1, b2⟩ := h1.byte (by decide)
        obtain ⟨b3, b4⟩ := h3.byte (by decide)
        subst b2
        have := h4.le
        exact ⟨p, Nat.le_refl _, by omega, by omega, by omega⟩
    · obtain ⟨i, g1, g2, g3, g4⟩ := ih hc
      exact ⟨i, by omega, g2, g3, g4⟩
end Sc
end Go.Proofs.YtogkcphobhhbdaaDoor

/- Plain: what does not end is told. -/
namespace Go.Proofs.YtogkcphobhhbdaaDoor
open Go Go.RowKit Go.Lib
namespace Sc
open Ev
set_option maxRecDepth 100000

theorem passes_next {src : ByteArray} {nl : Bool} {s : St} (h : s.nlsemi = false) : passes src nl s = nextF src { s with nlsemi := nl } := by
  rw [nextF_passes]
  have e : ({ s with nlsemi := false } : St) = s := by cases s; simp only at h; subst h; rfl
  show passes src nl s = passes src nl { s with nlsemi := false }
  rw [e]
theorem passes_len {src : ByteArray} {nl : Bool} {s : St} (h : s.nlsemi = false) (hp : Pos0 src s) (hs : src.size ≤ 2048) : s.notes.length ≤ (passes src nl s).1.notes.length := by
  rw [passes_next h]
  have p0 : Pos0 src { s with nlsemi := nl } := by
    rcases hp with h1 | h1
    · exact .inl (h1.same rfl rfl rfl)
    · exact .inr h1
  obtain ⟨l, hl⟩ := (nextF_sat p0 hs).2.1.notes
  rw [hl, List.length_append]
  show s.notes.length ≤ s.notes.length + _
  omega
theorem first_here {src : ByteArray} {m : Int} (hs : src.size ≤ 2048) {r : Int} {w : Nat} (hc : ChAt src 0 r w) (hb : cBlank false r = false) (h1 : isLetterF r = false) (h2 : r < 128) :
    ∃ n, Here src 0 (stI m) n ∧ n.ch = r ∧ (nextF src (stI m)).1 = (finG src false ((swT src false n).get fin0)).1 := by
  obtain ⟨n, hn, hch, e⟩ := pass_sw (nl := false) hs (stI_pos src m) (stI_go src m) (Nat.zero_le _) .nil (fun x hx => absurd hx List.not_mem_nil) (.inl ⟨w, hc⟩) hb h1 h2
  have e0 : nextF src (stI m) = passes src false (stI m) := nextF_passes src (stI m)
  exact ⟨n, hn, hch, by rw [e0, e]⟩
theorem fc_mode0 {src : ByteArray} {st : St} (h : st.mode = 0) : fullCommentF src st = fcSkip src st := by
  unfold fullCommentF
  rw [h, if_neg (by decide), if_pos (.inl (by decide))]
theorem remark_open_told {src : ByteArray} {cs : List Int} (hs : src.size ≤ 2048) (h0 : ChAt src 0 47 1) (h1 : ChAt src 1 42 1) (h : Cl src 2 cs src.size) (hc : closeC cs = none) : 0 < (last src 0).notes.length := by
  obtain ⟨n, hh, g4, g6⟩ := first_here (m := 0) hs h0 (by decide) (by decide) (by decide)
  have g1 := hh.std
  have g3 : n.notes = [] := hh.notes
  have gm : n.mode = 0 := hh.mode
  have gnl : n.nlsemi = false := hh.nl
  have g5 : n.chw = 1 := (g1.of h0).2
  have c1 : Cln src (0 + n.chw) := by rw [g5]; exact .inl ⟨_, _, h1⟩
  have n1 := std_next g1 c1
  have s1 := sil_next g1 c1
  rw [g5] at n1
  obtain ⟨e1, e2⟩ := n1.1.of h1
  have c2 : Cln src (0 + 1 + (nextch src n).chw) := by rw [e2]; exact h.cln (.inr rfl)
  have n2 := std_next n1.1 c2
  have s2 := s1.trans (sil_next n1.1 c2)
  rw [e2] at n2
  have eg : (swT src false n).get fin0 = .redo (fullCommentF src (nextch src (nextch src n))) := by
    unfold swT
    simp [Tree.get, g4, swNum, e1]
  rw [eg] at g6
  have hmode : (nextch src (nextch src n)).mode = 0 := by rw [s2.on.keep]; exact gm
  have hk := sc_cl h rfl (n2.1.same (b := stop (nextch src (nextch src n))) rfl rfl rfl rfl)
  rw [hc] at hk
  obtain ⟨st', k1, k2, k3⟩ := hk
  have ef : fullCommentF src (nextch src (nextch src n)) = errorAtF 0 msgComment st' := by
    rw [fc_mode0 hmode]
    unfold fcSkip skipCommentF
    rw [k1]
    simp
  rw [ef] at g6
  refine told_some hs ?_
  rw [g6]
  show 0 < (passes src false (errorAtF 0 msgComment st')).1.notes.length
  have hnl : (errorAtF 0 msgComment st').nlsemi = false := by
    show st'.nlsemi = false
    rw [k3.on.keep]
    show (nextch src (nextch src n)).nlsemi = false
    rw [s2.on.keep]
    exact gnl
  have hp : Pos0 src (errorAtF 0 msgComment st') := .inl (k2.pos.same rfl rfl rfl)
  have := passes_len (nl := false) hnl hp hs
  have hl : (errorAtF 0 msgComment st').notes.length = st'.notes.length + 1 := by show (st'.notes ++ [_]).length = _; simp
  omega
theorem raw_open_told {src : ByteArray} (hs : src.size ≤ 2048) (h0 : ChAt src 0 96 1) (h1 : Cln src 1) (hn : ∀ i, 1 ≤ i → i < src.size → (src.get! i).toNat ≠ 96) : 0 < (last src 0).notes.length := by
  obtain ⟨n, g1, g2, g3, g4, g5, _, g6⟩ := first_sw (m := 0) hs h0 (by decide) (by decide) (by decide)
  have e1 : (swT src false n).get fin0 = .done (rawStringF src n) [] := by
    unfold swT
    simp [Tree.get, g4, swNum]
  rw [e1] at g6
  have c1 : Cln src (0 + n.chw) := by rw [g5]; exact h1
  have n1 := std_next g1 c1
  rw [g5] at n1
  have := raw_open (src := src) _ (nextch src n) true (Nat.le_refl _) (fun i hi hi2 => hn i (by rw [n1.1.cut] at hi; omega) hi2) n1.1.pos
  refine told_some hs ?_
  rw [g6]
  show 0 < (rawLF src (nextch src n, true)).1.notes.length
  omega
/-- The inside of what Quoted puts together, its end taken off. -/
theorem quo_open {s T : ByteArray} {q : Int} (hq : q = 34 ∨ q = 39) (h : textOkF s = true) (hT : Byt T 0 ([q] ++ quoN s q false (s.size + 1) 0)) :
    ∃ cs k, Cl T 1 cs (1 + (quoN s q false (s.size + 1) 0).length) ∧ Its q cs k ∧ ChAt T 0 q 1 ∧ k ≤ 1000000 := by
  have hr := runes_len h
  unfold textOkF at h
  simp only [Bool.and_eq_true, decide_eq_true_eq] at h
  have g0 : ChAt T 0 q 1 := hT.left.chAt (by omega) (by omega)
  obtain ⟨cs, c1, c2⟩ := quo_its (T := T) hq (s.size + 1) 0 (0 + 1) (by omega) (Nat.zero_le _) h.1 hT.right
  exact ⟨cs, _, by rw [Nat.zero_add] at c1; exact c1, c2, g0, hr⟩
theorem byt_cut {T : ByteArray} {a b : List Int} (h : Byt T 0 (a ++ b)) : Byt (T.extract 0 a.length) 0 a ∧ (T.extract 0 a.length).size = a.length := by
  have hl := h.le
  rw [List.length_append] at hl
  have es : (T.extract 0 a.length).size = a.length := by rw [extract_size _ _ _ (by omega)]; omega
  refine ⟨⟨by omega, fun j x hj => ?_⟩, es⟩
  have hlt : j < a.length := (List.getElem?_eq_some_iff.1 hj).1
  rw [Nat.zero_add, extract_get _ _ _ _ (by omega) (by omega), Nat.zero_add]
  have := h.left.get j x hj
  rw [Nat.zero_add] at this
  exact this
theorem byt_app {T : ByteArray} {a : List Int} (h : Byt T 0 a) (U : ByteArray) : Byt (T ++ U) 0 a := by
  have hl := h.le
  refine ⟨by rw [app_size]; omega, fun j x hj => ?_⟩
  have hlt : j < a.length := (List.getElem?_eq_some_iff.1 hj).1
  rw [Nat.zero_add, get_left _ _ _ (by omega)]
  have := h.get j x hj
  rw [Nat.zero_add] at this
  exact this
def nlB : ByteArray := ⟨#[10]⟩
/-- What Quoted puts together, its last byte taken off. -/
theorem quoted_open {s : ByteArray} (h : textOkF s = true) :
    (0 < (last ((quotedF s 34 false).extract 0 ((quotedF s 34 false).size - 1)) 0).notes.length ∧ 0 < (last ((quotedF s 34 false).extract 0 ((quotedF s 34 false).size - 1) ++ nlB) 0).notes.length) ∧
    0 < (last ((quotedF s 39 false).extract 0 ((quotedF s 39 false).size - 1)) 0).notes.length := by
  have key : ∀ q : Int, q = 34 ∨ q = 39 → (quotedF s q false).size - 1 = ([q] ++ quoN s q false (s.size + 1) 0).length ∧ Byt (quotedF s q false) 0 (([q] ++ quoN s q false (s.size + 1) 0) ++ [q]) ∧ (quotedF s q false).size ≤ 1000 := fun q hq => by
    have hsz := (quoted_parts (q := q) (full := false) hq h).1
    have hall : ∀ x ∈ [q] ++ quoN s q false (s.size + 1) 0 ++ [q], 0 ≤ x ∧ x < 256 := fun x hx => by
      rcases List.mem_append.1 hx with hx | hx
      · rcases List.mem_append.1 hx with hx | hx
        · simp only [List.mem_singleton] at hx; omega
        · exact quoN_byte (s := s) (full := false) hq (s.size + 1) 0 x hx
      · simp only [List.mem_singleton] at hx; omega
    obtain ⟨e1, e2⟩ := byt_str _ hall
    have hT : quotedF s q false = strOfNums ([q] ++ quoN s q false (s.size + 1) 0 ++ [q]) := rfl
    rw [← hT] at e1 e2
    refine ⟨?_, e2, by omega⟩
    rw [e1, List.length_append]
    simp
  obtain ⟨a1, a2, a3⟩ := key 34 (.inl rfl)
  obtain ⟨b1, b2, b3⟩ := key 39 (.inr rfl)
  rw [a1, b1]
  obtain ⟨a4, a5⟩ := byt_cut a2
  obtain ⟨b4, b5⟩ := byt_cut b2
  have al : ([34] ++ quoN s 34 false (s.size + 1) 0).length = 1 + (quoN s 34 false (s.size + 1) 0).length := by rw [List.length_append]; rfl
  have bl : ([39] ++ quoN s 39 false (s.size + 1) 0).length = 1 + (quoN s 39 false (s.size + 1) 0).length := by rw [List.length_append]; rfl
  refine ⟨⟨?_, ?_⟩, ?_⟩
  · obtain ⟨cs, k, c1, c2, c3, c4⟩ := quo_open (.inl rfl) h a4
    exact str_open_told (by omega) c3 c1 c2 (.inl (by omega))
  · have a6 := byt_app a4 nlB
    obtain ⟨cs, k, c1, c2, c3, c4⟩ := quo_open (.inl rfl) h a6
    have hS : Sub ((quotedF s 34 false).extract 0 ([34] ++ quoN s 34 false (s.size + 1) 0).length ++ nlB) (1 + (quoN s 34 false (s.size + 1) 0).length) nlB := by
      have := (sub_self nlB).right ((quotedF s 34 false).extract 0 ([34] ++ quoN s 34 false (s.size + 1) 0).length)
      rw [a5, al, Nat.add_zero] at this
      rw [al]; exact this
    refine str_open_told ?_ c3 c1 c2 (.inr (hS.chAt (b := 10) (by decide) (by decide)))
    rw [app_size]
    show _ + 1 ≤ 2048
    omega
  · obtain ⟨cs, k, c1, c2, c3, c4⟩ := quo_open (.inr rfl) h b4
    exact rune_open_told (by omega) c3 (by rw [b5, bl]; rw [bl] at c1; exact c1) c2 c4
/-- The first place of a text in another one. -/
def idxN (s x : ByteArray) : Nat → Nat → Int
  | 0, _ => -1
  | n + 1, i => if i + x.size ≤ s.size then (if (s.extract i (i + x.size)).toList = x.toList then (i : Int) else idxN s x n (i + 1)) else -1
def idxF (s x : ByteArray) : Int := idxN s x (s.size + 1) 0
theorem idxN_none {s x : ByteArray} : ∀ (n i : Nat), s.size + 1 ≤ i + n → idxN s x n i < 0 → ∀ j, i ≤ j → j + x.size ≤ s.size → (s.extract j (j + x.size)).toList ≠ x.toList
  | 0, i, h1, _, j, h3, h4 => by omega
  | n + 1, i, h1, h2, j, h3, h4 => by
    rw [idxN, if_pos (by omega)] at h2
    split at h2
    · omega
    · rename_i hne
      by_cases hj : j = i
      · subst hj; exact hne
      · exact idxN_none n (i + 1) (by omega) h2 j (by omega) h4
theorem idxF_none {s x : ByteArray} (h : idxF s x < 0) : ∀ j, j + x.size ≤ s.size → (s.extract j (j + x.size)).toList ≠ x.toList := fun j hj => idxN_none _ 0 (by omega) h j (Nat.zero_le _) hj
def spB : ByteArray := ⟨#[32]⟩
def endB : ByteArray := ⟨#[42, 47]⟩
def begB : ByteArray := ⟨#[47, 42]⟩
theorem remark_law {s : ByteArray} (h : textOkF s = true) (hn : idxF (s ++ spB) endB < 0) : 0 < (last (begB ++ s) 0).notes.length := by
  have s2 : Sub (begB ++ s) 2 s := (sub_self s).right begB
  have s0 : Sub (begB ++ s) 0 begB := (sub_self begB).left s
  obtain ⟨hs, c1, c2⟩ := textOk_cl s2 h
  have sz : (begB ++ s).size = 2 + s.size := by rw [app_size]; rfl
  have e0 : (begB ++ s).get! 0 = 47 := s0.get 0 (by decide)
  have e1 : (begB ++ s).get! 1 = 42 := s0.get 1 (by decide)
  have c0 : ChAt (begB ++ s) 0 47 1 := by
    have := chAt_byte (src := begB ++ s) (p := 0) (by omega) (by rw [e0]; decide) (by rw [e0]; decide)
    rw [e0] at this; exact this
  have c3 : ChAt (begB ++ s) 1 42 1 := by
    have := chAt_byte (src := begB ++ s) (p := 1) (by omega) (by rw [e1]; decide) (by rw [e1]; decide)
    rw [e1] at this; exact this
  rw [← sz] at c1
  refine remark_open_told (by omega) c0 c3 c1 ?_
  cases hc : closeC (runes s) with
  | none => rfl
  | some r =>
    obtain ⟨i, g1, g2, g3, g4⟩ := closeC_at c1 hc
    refine absurd ?_ (idxF_none hn (i - 2) (by rw [app_size]; show i - 2 + 2 ≤ s.size + 1; omega))
    have k1 := s2.get (i - 2) (by omega)
    have k2 := s2.get (i - 1) (by omega)
    rw [show 2 + (i - 2) = i by omega] at k1
    rw [show 2 + (i - 1) = i + 1 by omega] at k2
    have es : (s ++ spB).size = s.size + 1 := by rw [app_size]; rfl
    refine congrArg ByteArray.toList (bytes_ext ?_ (fun j hj => ?_))
    · rw [extract_size _ _ _ (by show i - 2 + 2 ≤ _; omega)]; show i - 2 + 2 - (i - 2) = 2; omega
    · rw [extract_size _ _ _ (by show i - 2 + 2 ≤ _; omega)] at hj
      have hj2 : j < 2 := by have : endB.size = 2 := rfl; omega
      rw [extract_get _ _ _ _ (by show i - 2 + 2 ≤ _; omega) (by show j < i - 2 + 2 - (i - 2); omega)]
      match j, hj2 with
      | 0, _ =>
        rw [Nat.add_zero, get_left _ _ _ (by omega), ← k1]
        exact UInt8.toNat_inj.1 g3
      | 1, _ =>
        rw [show i - 2 + 1 = i - 1 by omega, get_left _ _ _ (by omega), ← k2]
        exact UInt8.toNat_inj.1 g4
theorem raw_open_law {s : ByteArray} (h : textOkF s = true) (hn : ¬ (0 : Int) ≤ Lib.indexByte s.data.toList 96) : 0 < (last (bq ++ s) 0).notes.length := by
  have s1 : Sub (bq ++ s) 1 s := (sub_self s).right bq
  have s0 : Sub (bq ++ s) 0 bq := (sub_self bq).left s
  obtain ⟨hs, c1, c2⟩ := textOk_cl s1 h
  have sz : (bq ++ s).size = 1 + s.size := by rw [app_size]; rfl
  have c0 : ChAt (bq ++ s) 0 96 1 := s0.chAt (b := 96) (by decide) (by decide)
  refine raw_open_told (by omega) c0 (c1.cln (.inr sz.symm)) (fun i hi hi2 e => ?_)
  have k := s1.get (i - 1) (by omega)
  rw [show 1 + (i - 1) = i by omega] at k
  refine index_no hn (j := i - 1) (by omega) ?_
  rw [← k]
  exact UInt8.toNat_inj.1 e
end Sc
end Go.Proofs.YtogkcphobhhbdaaDoor

/- spec.Index walked. -/
namespace Go.Proofs.YtogkcphobhhbdaaDoor
open Go Go.RowKit Go.Lib
namespace Sc
open Ev
set_option maxRecDepth 100000

/-- Known slots of a frame of 25. -/
structure SIx (v0 v1 vi : Value) (a : Act) : Prop where
  defers : a.defers = []
  size : a.tmps.size = 25
  s0 : a.tmps[0]? = some v0
  s1 : a.tmps[1]? = some v1
  s5 : a.tmps[5]? = some vi
theorem SIx.lit {v0 v1 vi : Value} {a : Act} (h : SIx v0 v1 vi a) : ∃ x : Nat → Value, a = { tmps := #[v0, v1, x 2, x 3, x 4, vi, x 6, x 7, x 8, x 9, x 10, x 11, x 12, x 13, x 14, x 15, x 16, x 17, x 18, x 19, x 20, x 21, x 22, x 23, x 24], defers := [] } := by
  refine ⟨fun i => a.tmps.getD i undef, ?_⟩
  obtain ⟨t, d⟩ := a
  obtain ⟨h1, h2, k0, k1, k5⟩ := h
  simp only at h1 h2 k0 k1 k5
  subst h1
  have e0 : t.getD 0 undef = v0 := by rw [Array.getD_eq_getD_getElem?, k0]; rfl
  have e1 : t.getD 1 undef = v1 := by rw [Array.getD_eq_getD_getElem?, k1]; rfl
  have e5 : t.getD 5 undef = vi := by rw [Array.getD_eq_getD_getElem?, k5]; rfl
  have ht := tmpsN 25 t h2
  rw [← e0, ← e1, ← e5]
  exact congrArg (fun t => ({ tmps := t, defers := [] } : Act)) ht
theorem SIx.of {v0 v1 vi : Value} (x : Nat → Value) : SIx v0 v1 vi { tmps := #[v0, v1, x 2, x 3, x 4, vi, x 6, x 7, x 8, x 9, x 10, x 11, x 12, x 13, x 14, x 15, x 16, x 17, x 18, x 19, x 20, x 21, x 22, x 23, x 24], defers := [] } := ⟨rfl, rfl, rfl, rfl, rfl⟩

noncomputable abbrev ixBody : Code := bodyOf Tryd.f28
noncomputable abbrev ixLoop : Code := loopOf (blkOf ixBody 0)
noncomputable abbrev ixP (n : Nat) : Code := fstC (cutTail n ixBody)
theorem ix_body : (Tryd.f28).body = some (.seq (ixP 0) (.seq (.seq (fstC (ixP 1)) (.block 0 (.loop ixLoop))) (cutTail 2 ixBody))) := by kernel_rfl
theorem ix_out {w : World} {s x : ByteArray} {i : Nat} (h : ¬ i + x.size ≤ s.size) (hs : s.size ≤ 1000000) (hx : x.size ≤ 1000000) (hi : i ≤ 2000000)
    (a : Act) (hz : SIx (.string s) (.string x) (.int .i64 i) a) (Q : Exit → Act → World → Prop) (hQ : ∀ a', SIx (.string s) (.string x) (.int .i64 i) a' → Q (.exit 0) a' w) : ixLoop.wp Tryd.prog Q a w := by
  obtain ⟨y, rfl⟩ := hz.lit
  clear hz
  have hw : IntKind.i64.wrap ((i : Int) + (x.size : Int)) = (i : Int) + (x.size : Int) := i64_small (by omega) (by omega)
  have h1 : ¬ (i : Int) + (x.size : Int) ≤ (s.size : Int) := by omega
  simp only [ixLoop, ixBody, bodyOf, Tryd.f28, Option.getD, blkOf, loopOf, cond, Nat.beq]
  go_wp2_with fail
  exact ⟨rfl, rfl, rfl, rfl, rfl⟩
theorem ix_round {w : World} {s x : ByteArray} {i : Nat} (h : i + x.size ≤ s.size) (hs : s.size ≤ 1000000)
    (a : Act) (hz : SIx (.string s) (.string x) (.int .i64 i) a) (Q : Exit → Act → World → Prop)
    (h1 : (s.extract i (i + x.size)).toList = x.toList → ∀ a', a'.defers = [] → a'.tmps[4]? = some (.int .i64 i) → Q .ret a' w)
    (h2 : (s.extract i (i + x.size)).toList ≠ x.toList → ∀ a', SIx (.string s) (.string x) (.int .i64 (i + 1 : Nat)) a' → Q .normal a' w) : ixLoop.wp Tryd.prog Q a w := by
  obtain ⟨y, rfl⟩ := hz.lit
  clear hz
  have hw : IntKind.i64.wrap ((i : Int) + (x.size : Int)) = ((i + x.size : Nat) : Int) := by rw [show (i : Int) + (x.size : Int) = ((i + x.size : Nat) : Int) by omega]; exact i64_small (by omega) (by omega)
  have hw1 : IntKind.i64.wrap ((i : Int) + 1) = ((i + 1 : Nat) : Int) := by rw [show (i : Int) + 1 = ((i + 1 : Nat) : Int) by omega]; exact i64_small (by omega) (by omega)
  have k1 : ((i + x.size : Nat) : Int) ≤ (s.size : Int) := by omega
  have k2 : (0 : Int) ≤ (i : Int) := by omega
  have k3 : (i : Int) ≤ ((i + x.size : Nat) : Int) := by omega
  generalize hj : i + x.size = j at *
  by_cases he : (s.extract i j).toList = x.toList
  · have h1 := h1 he
    clear h2
    have he' : ((s.extract i j).toList == x.toList) = true := by simpa using he
    simp only [ixLoop, ixBody, bodyOf, Tryd.f28, Option.getD, blkOf, loopOf, cond, Nat.beq]
    go_wp2_with fail
    all_goals exact h1 _ rfl rfl
  · have h2 := h2 he
    clear h1
    have he' : ((s.extract i j).toList == x.toList) = false := by simpa using he
    simp only [ixLoop, ixBody, bodyOf, Tryd.f28, Option.getD, blkOf, loopOf, cond, Nat.beq]
    go_wp2_with fail
    all_goals exact ⟨rfl, rfl, rfl, rfl, rfl⟩
theorem ix_loop {w : World} {s x : ByteArray} (hs : s.size ≤ 1000000) (hx : x.size ≤ 1000000) (Q : Exit → Act → World → Prop) : ∀ (d i : Nat) (a : Act), s.size + 1 ≤ i + d → i ≤ s.size + 1 → SIx (.string s) (.string x) (.int .i64 i) a →
      (idxN s x d i = -1 → ∀ a (j : Nat), SIx (.string s) (.string x) (.int .i64 j) a → Q .normal a w) →
      (∀ a, a.defers = [] → a.tmps[4]? = some (.int .i64 (idxN s x d i)) → Q .ret a w) →
      Code.rounds Tryd.prog ixLoop (Exit.inBlock 0 Q) (d + 1) a w
  | 0, i, a, hd, hi, hz, h1, h2 => by
    rw [rounds_succ]
    refine ix_out (by omega) hs hx (by omega) a hz _ (fun a' z' => h1 rfl a' _ z')
  | d + 1, i, a, hd, hi, hz, h1, h2 => by
    rw [rounds_succ]
    by_cases hp : i + x.size ≤ s.size
    · simp only [idxN, if_pos hp] at h1 h2
      refine ix_round hp hs a hz _ (fun he a' d0 d4 => ?_) (fun he a' z' => ?_)
      · rw [if_pos he] at h2
        exact h2 a' d0 d4
      · rw [if_neg he] at h1 h2
        exact ix_loop hs hx Q d (i + 1) a' (by omega) (by omega) z' h1 h2
    · refine ix_out hp hs hx (by omega) a hz _ (fun a' z' => h1 (by simp only [idxN, if_neg hp]) a' _ z')
theorem ix_first {w : World} {s x : ByteArray} (B C : Code) (Q : Exit → Act → World → Prop)
    (hQ : ∀ a, SIx (.string s) (.string x) (.int .i64 (0 : Nat)) a → B.wp Tryd.prog (Exit.then (fun a w => C.wp Tryd.prog Q a w) Q) a w) :
    (Code.seq (ixP 0) (.seq (.seq (fstC (ixP 1)) B) C)).wp Tryd.prog Q { tmps := #[.string s, .string x] ++ Array.replicate 23 undef, defers := [] } w := by
  simp only [ixP, fstC, ixBody, bodyOf, Tryd.f28, Option.getD, cutTail, cutN, Option.map, Array.replicate_succ, Array.replicate_zero, List.push_toArray, List.append_toArray, List.nil_append, List.cons_append]
  go_wp2_with fail
  rename_i K hK
  refine Code.wp_mono (fun e a w h => ?_) (hQ _ ⟨rfl, rfl, rfl, rfl, rfl⟩)
  cases e <;> first | exact hK _ _ h | exact h
theorem ix_last {w : World} {v0 v1 vi : Value} (a : Act) (hz : SIx v0 v1 vi a) (Q : Exit → Act → World → Prop)
    (hQ : ∀ a', a'.defers = [] → a'.tmps[4]? = some (.int .i64 (-1)) → Q .ret a' w) : (cutTail 2 ixBody).wp Tryd.prog Q a w := by
  obtain ⟨x, rfl⟩ := hz.lit
  clear hz
  simp only [ixBody, bodyOf, Tryd.f28, Option.getD, cutTail, cutN, Option.map]
  go_wp2_with fail
  exact hQ _ rfl rfl
theorem index_walk (w : World) (s x : ByteArray) (hs : s.size ≤ 1000000) (hx : x.size ≤ 1000000) : Calls Tryd.prog 28 #[.string s, .string x] w fun e w' => e = .returned (.int .i64 (idxF s x)) ∧ w' = w := by
  refine calls_of_wp Tryd.func28 ix_body ?_
  have hnt : (Tryd.f28).ntmps - (#[.string s, .string x] : Array Value).size = 23 := by kernel_rfl
  rw [hnt]
  refine ix_first _ _ _ (fun a z => ?_)
  refine wp_block (wp_loop_rounds (s.size + 1 + 1) ?_)
  refine ix_loop hs hx _ (s.size + 1) 0 a (by omega) (by omega) z (fun hf a2 j z2 => ?_) (fun a2 d0 d4 => ?_)
  · show (cutTail 2 ixBody).wp _ _ a2 w
    exact ix_last a2 z2 _ (fun a3 d0 d4 => ⟨d0, _, one_res (k := 4) (by kernel_rfl) d4, by unfold idxF; rw [hf], rfl⟩)
  · exact ⟨d0, _, one_res (k := 4) (by kernel_rfl) d4, rfl, rfl⟩
end Sc
end Go.Proofs.YtogkcphobhhbdaaDoor

/- FnUnclosed walked: true at every text. -/
namespace Go.Proofs.YtogkcphobhhbdaaDoor
open Go Go.RowKit Go.Lib
namespace Sc
open Ev
set_option maxRecDepth 100000

set_option maxHeartbeats 3200000 in
theorem fnUnclosed_0 {w : World} {ea : Addr} (s : ByteArray) (k : Int) (hG : Glob w ea) (h1 : ¬ (150 : Int) < (s.size : Int)) (h2 : ¬ (2147483647 : Int) < (s.size : Int)) (hb : textOkF s = true) (hsz : s.size ≤ 60) (hkm : k.tmod 4 = 0) : Calls Tryd.prog 13 #[.string s, .int .u8 k] w fun en w' => en = .returned (.bool true) ∧ Below w.heap.size w w' := by
  have hT := fun w => textOk_walk w s
  rw [hb] at hT
  obtain ⟨⟨q1, q2⟩, q3⟩ := quoted_open hb
  have hs1 := (quoted_parts (q := 34) (full := false) (.inl rfl) hb).1
  have hge : 2 ≤ (quotedF s 34 false).size := by
    obtain ⟨_, cs, m, c1, _, _, _, c5⟩ := quoted_parts (q := 34) (full := false) (.inl rfl) hb
    have := c1.le; omega
  have hQ1 := fun w => quoted_walk w s 34 false (.inl rfl) (by omega)
  clear q3
  generalize quotedF s 34 false = T at hs1 hge hQ1 q1 q2
  have hw : IntKind.i64.wrap ((T.size : Int) - 1) = ((T.size - 1 : Nat) : Int) := by rw [show (T.size : Int) - 1 = ((T.size - 1 : Nat) : Int) by omega]; exact i64_small (by omega) (by omega)
  have k1 : (0 : Int) ≤ ((T.size - 1 : Nat) : Int) := by omega
  have k2 : ((T.size - 1 : Nat) : Int) ≤ (T.size : Int) := by omega
  have z1 : (T.extract 0 (T.size - 1)).size ≤ 2048 := by rw [ByteArray.size_extract]; omega
  have z2 : (T.extract 0 (T.size - 1) ++ nlB).size ≤ 2048 := by rw [app_size, ByteArray.size_extract]; show _ + 1 ≤ 2048; omega
  have hR1 := fun w hG => refused_yes (w := w) (ea := ea) hG z1 q1
  have hR2 := fun w hG => refused_yes (w := w) (ea := ea) hG z2 q2
  clear q1 q2 z1 z2
  unfold nlB at hR2
  generalize T.size - 1 = j at hw k1 k2 hR1 hR2
  go_enter Tryd.func13, Tryd.ntmps13
  go_wp2_with (first
    | (go_at_call 20; have hh := hB3; refine (hR2 _ (glob_move hG hB3)).mono ?_; rintro en w4 ⟨rfl, hB4⟩; have hB4 := below_up hB3 hB4)
    | (go_at_call 20; refine (hR1 _ (glob_move hG hB2)).mono ?_; rintro en w3 ⟨rfl, hB3⟩; have hB3 := below_up hB2 hB3)
    | (go_at_call 26; refine (hQ1 _).mono ?_; rintro en w2 ⟨rfl, hB2⟩; have hB2 := below_up hB1 hB2)
    | (go_at_call 17; refine (hT _).mono ?_; rintro en w1 ⟨rfl, hB1⟩))
  all_goals exact ⟨rfl, _, one_res (k := 4) (by kernel_rfl) rfl, rfl, hB4⟩
set_option maxHeartbeats 3200000 in
theorem fnUnclosed_1 {w : World} {ea : Addr} (s : ByteArray) (k : Int) (hG : Glob w ea) (h1 : ¬ (150 : Int) < (s.size : Int)) (h2 : ¬ (2147483647 : Int) < (s.size : Int)) (hb : textOkF s = true) (hsz : s.size ≤ 60) (hkm : k.tmod 4 = 1) : Calls Tryd.prog 13 #[.string s, .int .u8 k] w fun en w' => en = .returned (.bool true) ∧ Below w.heap.size w w' := by
  have hT := fun w => textOk_walk w s
  rw [hb] at hT
  obtain ⟨⟨q1, q2⟩, q3⟩ := quoted_open hb
  clear q1 q2 q3
  have hI := fun w => indexByte_walk w s 96
  rw [show (96 : Int).toNat.toUInt8 = 96 from rfl] at hI
  by_cases hi : (0 : Int) ≤ Lib.indexByte s.data.toList 96
  · generalize Lib.indexByte s.data.toList 96 = ix at hI hi
    have hi' : ¬ ix < 0 := by omega
    go_enter Tryd.func13, Tryd.ntmps13
    go_wp2_with (first
      | (go_at_call 17; refine (hT _).mono ?_; rintro en w1 ⟨rfl, hB1⟩)
      | (go_at_call 18; refine (hI _).mono ?_; rintro en w2 ⟨rfl, rfl⟩))
    all_goals exact ⟨rfl, _, one_res (k := 4) (by kernel_rfl) rfl, by simp, hB1⟩
  · have hL := raw_open_law hb hi
    have hR1 := fun w hG => refused_yes (w := w) (ea := ea) (src := bq ++ s) hG (by rw [app_size]; show 1 + _ ≤ 2048; omega) hL
    clear hL
    unfold bq at hR1
    generalize Lib.indexByte s.data.toList 96 = ix at hI hi
    go_enter Tryd.func13, Tryd.ntmps13
    go_wp2_with (first
      | (go_at_call 20; refine (hR1 _ (glob_move hG hB1)).mono ?_; rintro en w3 ⟨rfl, hB3⟩; have hB3 := below_up hB1 hB3)
      | (go_at_call 17; refine (hT _).mono ?_; rintro en w1 ⟨rfl, hB1⟩)
      | (go_at_call 18; refine (hI _).mono ?_; rintro en w2 ⟨rfl, rfl⟩))
    all_goals exact ⟨rfl, _, one_res (k := 4) (by kernel_rfl) rfl, rfl, hB3⟩
set_option maxHeartbeats 3200000 in
theorem fnUnclosed_2 {w : World} {ea : Addr} (s : ByteArray) (k : Int) (hG : Glob w ea) (h1 : ¬ (150 : Int) < (s.size : Int)) (h2 : ¬ (2147483647 : Int) < (s.size : Int)) (hb : textOkF s = true) (hsz : s.size ≤ 60) (hkm : k.tmod 4 = 2) : Calls Tryd.prog 13 #[.string s, .int .u8 k] w fun en w' => en = .returned (.bool true) ∧ Below w.heap.size w w' := by
  have hT := fun w => textOk_walk w s
  rw [hb] at hT
  obtain ⟨⟨q1, q2⟩, q3⟩ := quoted_open hb
  clear q1 q2 q3
  have hX := fun w => index_walk w (s ++ spB) endB (by rw [app_size]; show _ + 1 ≤ 1000000; omega) (by decide)
  by_cases hi : (0 : Int) ≤ idxF (s ++ spB) endB
  · generalize idxF (s ++ spB) endB = ix at hX hi
    unfold spB endB at hX
    have hi' : ¬ ix < 0 := by omega
    go_enter Tryd.func13, Tryd.ntmps13
    go_wp2_with (first
      | (go_at_call 17; refine (hT _).mono ?_; rintro en w1 ⟨rfl, hB1⟩)
      | (go_at_call 28; refine (hX _).mono ?_; rintro en w2 ⟨rfl, rfl⟩))
    all_goals exact ⟨rfl, _, one_res (k := 4) (by kernel_rfl) rfl, by simp, hB1⟩
  · have hL := remark_law hb (by omega)
    have hR1 := fun w hG => refused_yes (w := w) (ea := ea) (src := begB ++ s) hG (by rw [app_size]; show 2 + _ ≤ 2048; omega) hL
    clear hL
    unfold begB at hR1
    generalize idxF (s ++ spB) endB = ix at hX hi
    unfold spB endB at hX
    go_enter Tryd.func13, Tryd.ntmps13
    go_wp2_with (first
      | (go_at_call 20; refine (hR1 _ (glob_move hG hB1)).mono ?_; rintro en w3 ⟨rfl, hB3⟩; have hB3 := below_up hB1 hB3)
      | (go_at_call 17; refine (hT _).mono ?_; rintro en w1 ⟨rfl, hB1⟩)
      | (go_at_call 28; refine (hX _).mono ?_; rintro en w2 ⟨rfl, rfl⟩))
    all_goals exact ⟨rfl, _, one_res (k := 4) (by kernel_rfl) rfl, rfl, hB3⟩
set_option maxHeartbeats 3200000 in
theorem fnUnclosed_3 {w : World} {ea : Addr} (s : ByteArray) (k : Int) (hG : Glob w ea) (h1 : ¬ (150 : Int) < (s.size : Int)) (h2 : ¬ (2147483647 : Int) < (s.size : Int)) (hb : textOkF s = true) (hsz : s.size ≤ 60) (hkm : k.tmod 4 = 3) : Calls Tryd.prog 13 #[.string s, .int .u8 k] w fun en w' => en = .returned (.bool true) ∧ Below w.heap.size w w' := by
  have hT := fun w => textOk_walk w s
  rw [hb] at hT
  obtain ⟨⟨q1, q2⟩, q3⟩ := quoted_open hb
  have hs1 := (quoted_parts (q := 39) (full := false) (.inr rfl) hb).1
  have hge : 2 ≤ (quotedF s 39 false).size := by
    obtain ⟨_, cs, m, c1, _, _, _, c5⟩ := quoted_parts (q := 39) (full := false) (.inr rfl) hb
    have := c1.le; omega
  have hQ1 := fun w => quoted_walk w s 39 false (.inr rfl) (by omega)
  clear q1 q2
  generalize quotedF s 39 false = T at hs1 hge hQ1 q3
  have hw : IntKind.i64.wrap ((T.size : Int) - 1) = ((T.size - 1 : Nat) : Int) := by rw [show (T.size : Int) - 1 = ((T.size - 1 : Nat) : Int) by omega]; exact i64_small (by omega) (by omega)
  have k1 : (0 : Int) ≤ ((T.size - 1 : Nat) : Int) := by omega
  have k2 : ((T.size - 1 : Nat) : Int) ≤ (T.size : Int) := by omega
  have z1 : (T.extract 0 (T.size - 1)).size ≤ 2048 := by rw [ByteArray.size_extract]; omega
  have hR1 := fun w hG => refused_yes (w := w) (ea := ea) hG z1 q3
  clear q3 z1
  generalize T.size - 1 = j at hw k1 k2 hR1
  go_enter Tryd.func13, Tryd.ntmps13
  go_wp2_with (first
    | (go_at_call 20; refine (hR1 _ (glob_move hG hB2)).mono ?_; rintro en w3 ⟨rfl, hB3⟩; have hB3 := below_up hB2 hB3)
    | (go_at_call 26; refine (hQ1 _).mono ?_; rintro en w2 ⟨rfl, hB2⟩; have hB2 := below_up hB1 hB2)
    | (go_at_call 17; refine (hT _).mono ?_; rintro en w1 ⟨rfl, hB1⟩))
  all_goals exact ⟨rfl, _, one_res (k := 4) (by kernel_rfl) rfl, rfl, hB3⟩
set_option maxHeartbeats 1600000 in
theorem fnUnclosed_walk {w : World} {ea : Addr} (s : ByteArray) (k : Int) (hG : Glob w ea) (hkb : 0 ≤ k ∧ k ≤ 255) : Calls Tryd.prog 13 #[.string s, .int .u8 k] w fun en w' => en = .returned (.bool true) ∧ Below w.heap.size w w' := by
  by_cases h : 150 < s.size
  · have h1 : (150 : Int) < (s.size : Int) := by omega
    go_enter Tryd.func13, Tryd.ntmps13
    go_wp2_with fail
    all_goals exact ⟨rfl, _, one_res (k := 4) (by kernel_rfl) rfl, rfl, Below.refl _ _⟩
  have h1 : ¬ (150 : Int) < (s.size : Int) := by omega
  have h2 : ¬ (2147483647 : Int) < (s.size : Int) := by omega
  cases hb : textOkF s with
  | false =>
    have hT := fun w => textOk_walk w s
    rw [hb] at hT
    go_enter Tryd.func13, Tryd.ntmps13
    go_wp2_with (go_at_call 17; refine (hT _).mono ?_; rintro en w1 ⟨rfl, hB1⟩)
    exact ⟨rfl, _, one_res (k := 4) (by kernel_rfl) rfl, rfl, hB1⟩
  | true =>
    have hsz : s.size ≤ 60 := by
      unfold textOkF at hb
      simp only [Bool.and_eq_true, decide_eq_true_eq] at hb
      exact hb.2
    have hkm : k.tmod 4 = k % 4 := Int.tmod_eq_emod_of_nonneg hkb.1
    have hc4 : k % 4 = 0 ∨ k % 4 = 1 ∨ k % 4 = 2 ∨ k % 4 = 3 := by omega
    rcases hc4 with h | h | h | h <;> rw [h] at hkm
    · exact fnUnclosed_0 s k hG h1 h2 hb hsz hkm
    · exact fnUnclosed_1 s k hG h1 h2 hb hsz hkm
    · exact fnUnclosed_2 s k hG h1 h2 hb hsz hkm
    · exact fnUnclosed_3 s k hG h1 h2 hb hsz hkm
end Sc
end Go.Proofs.YtogkcphobhhbdaaDoor

/- From the listed variables to what the scanner reads of them. -/
namespace Go.Proofs.YtogkcphobhhbdaaDoor
open Go Go.RowKit Go.Lib Go.Shelf
namespace Sc
set_option maxRecDepth 100000

/-- The numbers of this dump, for the library's laws on tables. -/
def tabRen : Go.Shelf.Ren := ⟨fun n => n, fun | 3 => 3 | 49 => 120 | 51 => 44 | 141 => 94 | 196 => 119 | 193 => 116 | 194 => 117 | 198 => 122 | 201 => 125 | 5 => 5 | 119 => 115 | 138 => 152 | 139 => 153 | n => n, fun | 3 => 7 | 4 => 8 | n => n⟩
theorem tabR : RTypes Tryd.prog tabRen := ⟨Tryd.underlying3, Tryd.underlying120, Tryd.underlying44, Tryd.underlying94, Tryd.underlying116, Tryd.underlying117, Tryd.underlying119, Tryd.underlying122, Tryd.underlying125⟩
theorem tabX : RExtra Tryd.prog tabRen := ⟨by kernel_rfl, by kernel_rfl, by kernel_rfl, by kernel_rfl, by kernel_rfl, by kernel_rfl, by kernel_rfl, by kernel_rfl⟩
theorem u8R : U8Types Tryd.prog tabRen := ⟨Tryd.underlying5, Tryd.underlying115, Tryd.underlying152, Tryd.underlying153⟩
theorem u8X : U8Extra Tryd.prog tabRen := ⟨by kernel_rfl, by kernel_rfl, by kernel_rfl, by kernel_rfl, by kernel_rfl, by kernel_rfl, by kernel_rfl⟩
theorem errRow (u : TypeId) (h : Tryd.prog.typeName? 3 u = some "*errors.errorString") : u = 167 :=
  typeName_ptr_named (nm := "errors.errorString") (by rw [show "*" ++ "errors.errorString" = "*errors.errorString" by rfl]; kernel_rfl) (by kernel_rfl) (by decide) u (by rw [show "*" ++ "errors.errorString" = "*errors.errorString" by rfl]; exact h)
theorem tab_cell {W : World} {name : String} {g : Nat} {t e : TypeId} {n : Nat} {zs : List Int} (hg : Tryd.prog.globalNamed name = some g) (hy : (Tryd.prog.globals[g]?).map (·.type) = some t) (ht : Tryd.prog.underlying t = some (.array n e)) (he : Tryd.prog.underlying e = some (.int .u8)) (hce : Tryd.prog.cellsOf e = 1) (hct : Tryd.prog.cellsOf t = n)
    (h : VarReads Tryd.prog W name (tabData .u8 zs)) : TabIs Tryd.prog W name .u8 zs := by
  obtain ⟨g', t', cs, fuel, p, hg', hty, hvar, hd⟩ := h
  obtain rfl := Option.some.inj (hg.symm.trans hg')
  obtain rfl := Option.some.inj (hy.symm.trans hty)
  have hcs := cells_of_tab ht he hce hct hd
  unfold TabIs
  rw [hvar, ← hcs]
def tokTab : List Int := [0, 3, 7, 14, 16, 19, 23, 24, 26, 28, 29, 30, 31, 32, 33, 34, 35, 36, 37, 38, 39, 42, 47, 51, 55, 60, 68, 75, 80, 84, 95, 98, 102, 104, 108, 110, 116, 125, 128, 135, 140, 146, 152, 158, 164, 168, 171, 171]
def opTab : List Int := [0, 1, 2, 4, 5, 7, 9, 11, 13, 14, 16, 17, 19, 20, 21, 22, 23, 24, 25, 26, 27, 29, 31, 33]
theorem glob_of {W : World} (h : laidMet Tryd.prog Rows.fnEndsRow.laid W) : ∃ ea, Glob W ea := by
  have rd : ∀ {n : String} {d : DataW Unit}, (n, d) ∈ Rows.fnEndsRow.laid → VarReads Tryd.prog W n d := fun hm => Lib.laidMet.reads h hm
  have h5 := h.tail.tail.tail.tail
  obtain ⟨ea, s, hv, _, _, _⟩ := laid_sentinel (n := "io.EOF") (nm := "*errors.errorString") (text := [69, 79, 70]) h5 (g := 6) (by kernel_rfl) (by kernel_rfl) Tryd.underlying75 errRow Tryd.underlying167 Tryd.underlying181 rfl rfl Tryd.underlying9 (by kernel_rfl) (by kernel_rfl)
  have mem : ∀ i x, Rows.fnEndsRow.laid[i]? = some x → x ∈ Rows.fnEndsRow.laid := fun i x hx => List.mem_of_getElem? hx
  have r3 := rd (mem 3 ("unicode/utf8.acceptRanges", Rows.laid_unicode_utf8_acceptRanges) rfl)
  have r6 := rd (mem 6 ("unicode.properties", Rows.laid_unicode_properties) rfl)
  have r7 := rd (mem 7 (_, Rows.laid_loop_example_pub_g03120_pub_gosyntax_Operator_index) rfl)
  have r8 := rd (mem 8 (_, Rows.laid_loop_example_pub_g03120_pub_gosyntax_token_index) rfl)
  have r9 := rd (mem 9 ("unicode.Digit", Rows.laid_unicode_Digit) rfl)
  have r10 := rd (mem 10 ("unicode.Letter", Rows.laid_unicode_Letter) rfl)
  have r11 := rd (mem 11 ("unicode/utf8.first", Rows.laid_unicode_utf8_first) rfl)
  have e3 : (Rows.laid_unicode_utf8_acceptRanges : DataW Unit) = acceptData := by kernel_rfl
  have e6 : (Rows.laid_unicode_properties : DataW Unit) = tabData .u8 propertiesTab := by kernel_rfl
  have e7 : (Rows.laid_loop_example_pub_g03120_pub_gosyntax_Operator_index : DataW Unit) = tabData .u8 opTab := by kernel_rfl
  have e8 : (Rows.laid_loop_example_pub_g03120_pub_gosyntax_token_index : DataW Unit) = tabData .u8 tokTab := by kernel_rfl
  rw [e3] at r3
  rw [e6] at r6
  rw [e7] at r7
  rw [e8] at r8
  have r9' : VarReads Tryd.prog W "unicode.Digit" (rtabData digitT) := Pinned.digit_eq ▸ r9
  have r10' : VarReads Tryd.prog W "unicode.Letter" (rtabData letterT) := Pinned.letter_eq ▸ r10
  have r11' : VarReads Tryd.prog W "unicode/utf8.first" firstData := Pinned.utf8First_eq ▸ r11
  have t7 := tab_cell (g := 2) (t := 114) (by kernel_rfl) (by kernel_rfl) Tryd.underlying114 Tryd.underlying5 (by kernel_rfl) (by kernel_rfl) r7
  have t8 := tab_cell (g := 1) (t := 113) (by kernel_rfl) (by kernel_rfl) Tryd.underlying113 Tryd.underlying5 (by kernel_rfl) (by kernel_rfl) r8
  have t6 := tab_cell (g := 4) (t := 115) (by kernel_rfl) (by kernel_rfl) Tryd.underlying115 Tryd.underlying5 (by kernel_rfl) (by kernel_rfl) r6
  have r1 := rd (mem 1 ("math/bits.deBruijn64tab", Rows.laid_math_bits_deBruijn64tab) rfl)
  refine ⟨ea, ?_, ?_, t6, ?_, ?_, ?_, ?_, ?_⟩
  · have := World.var?_cell (show Tryd.prog.globalNamed "io.EOF" = some 6 by kernel_rfl) hv 0
    simpa using this
  · exact utf8Tabs_of_readsT u8R u8X r11' r3
  · exact rvar_of_readsT tabR tabX (name := "unicode.Letter") (g := 5) (by kernel_rfl) (by kernel_rfl) r10'
  · exact rvar_of_readsT tabR tabX (name := "unicode.Digit") (g := 0) (by kernel_rfl) (by kernel_rfl) r9'
  · exact fun i hi => t8.cell (by kernel_rfl) i hi
  · exact fun i hi => t7.cell (by kernel_rfl) i hi
  · obtain ⟨g', t', cs, fuel, p, hg', hty, hvar, hd⟩ := r1
    obtain rfl := Option.some.inj ((show Tryd.prog.globalNamed "math/bits.deBruijn64tab" = some 12 by kernel_rfl).symm.trans hg')
    unfold World.var? at hvar
    rw [hg'] at hvar
    simp only [Option.bind_some] at hvar
    cases hh : W.heap[12]? with
    | none => rw [hh] at hvar; cases hvar
    | some o => exact (Array.getElem?_eq_some_iff.1 hh).1
end Sc
end Go.Proofs.YtogkcphobhhbdaaDoor
