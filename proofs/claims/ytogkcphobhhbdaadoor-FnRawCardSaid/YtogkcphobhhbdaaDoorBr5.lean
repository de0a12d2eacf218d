/- The scanner of the program told as plain functions, part 5: texts joined by a program (wip/tools/merge.py). -/
import Derived.Test.YtogkcphobhhbdaaDoorBr4
import Derived.Shelf.Utf8.AppendRunePlain
import Derived.Shelf.Strings.Search1
import Derived.Shelf.Strings.Prefix
import Derived.Test.YtogkcphobhhbdaaDoorProg
import Derived.Lib.OthersKept
import Derived.Lib.DecodeN
import Derived.Test.YtogkcphobhhbdaaDoorRows
import Derived.PinnedBridge
import Derived.Lib.LaidRTabT
import Derived.Lib.LaidU8T
import Derived.Stop.LaidErr
import Derived.Lay
import Derived.LaidMore
import Derived.ProofKit
import Derived.OpenShut
import Derived.OpenVars
import Derived.SevenTiedAt
import Derived.Stop.Joined
set_option linter.unusedVariables false
set_option linter.unusedSimpArgs false
/- laws.refused and laws.told walked. -/
namespace Go.Proofs.YtogkcphobhhbdaaDoor
open Go Go.RowKit Go.Lib
namespace Sc
open Ev
set_option maxRecDepth 100000

theorem own_slice {w : World} {base n size : Nat} {e : TypeId} {v : Value} {xs : List Value} (h : w.ownsRow base e size v n xs) : ∃ p cap, v = .slice p n cap := by
  rcases h.2 with ⟨h1, h2⟩ | ⟨g, cap, _, h1, _⟩
  · exact ⟨none, 0, by rw [h1, h2]⟩
  · exact ⟨_, cap, h1⟩
/-- impl.Scan without modes, whole. -/
theorem scan_full {w : World} {ea : Addr} {src : ByteArray} (hG : Glob w ea) (hn : src.size ≤ 2048) :
    Calls Tryd.prog 15 #[.string src, .int .i64 0] w fun en w' => ∃ g cap p c2, en = .returned (.tuple #[.slice (some ⟨g, 0, none⟩) (toks src 0).length cap, .slice p (last src 0).notes.length c2]) ∧
      w'.ownsRow w.heap.size 27 9 (.slice (some ⟨g, 0, none⟩) (toks src 0).length cap) (toks src 0).length (flat outCells (toks src 0)) ∧ Below w.heap.size w w' := by
  have := scan_walk hG hn 0
  rw [show IntKind.u64.wrap 0 = 0 from by decide] at this
  refine this.mono ?_
  rintro en w' ⟨v, ve, rfl, h1, h2, h3⟩
  obtain ⟨g, cap, rfl, _, _⟩ := h1.form (List.length_pos_iff.2 (toks_good _ hn).ne)
  obtain ⟨p, c2, rfl⟩ := own_slice h2
  exact ⟨g, cap, p, c2, rfl, h1, h3⟩
theorem one_res {f : Func} {a : Act} {w : World} {v : Value} {k : Nat} (e : f.results = #[.tmp k]) (h4 : a.tmps[k]? = some v) : (results f a.tmps).run Tryd.prog w = .ok v w := by
  simp [results, e, h4, go_sem]
set_option maxHeartbeats 1600000 in
/-- laws.refused: whether anything is told. -/
theorem refused_walk {w : World} {ea : Addr} {src : ByteArray} (hG : Glob w ea) (hn : src.size ≤ 2048) :
    Calls Tryd.prog 20 #[.string src] w fun en w' => en = .returned (.bool (decide (0 < (last src 0).notes.length))) ∧ Below w.heap.size w w' := by
  have hS := scan_full hG hn
  generalize (toks src 0) = L at hS
  generalize (last src 0).notes.length = N at hS ⊢
  go_enter Tryd.func20, Tryd.ntmps20
  go_wp2_with (go_at_call 15; refine hS.mono ?_; rintro en w' ⟨g, cap, p, c2, rfl, h1, h3⟩)
  exact ⟨rfl, _, one_res (k := 2) (by kernel_rfl) rfl, rfl, h3⟩
set_option maxHeartbeats 1600000 in
/-- laws.told, of a text whose tokens are those wanted, and of which nothing is told: true. -/
theorem toldL_walk {w : World} {ea : Addr} {src : ByteArray} {W : List WTok} {gw capw b1 : Nat} (hG : Glob w ea) (hn : src.size ≤ 2048) (hA : LikeAll (toks src 0) W) (h0 : (last src 0).notes = [])
    (hrow2 : w.ownsRow b1 37 5 (.slice (some ⟨gw, 0, none⟩) W.length capw) W.length (flat wCells W)) :
    Calls Tryd.prog 21 #[.string src, .slice (some ⟨gw, 0, none⟩) W.length capw] w fun en w' => en = .returned (.bool true) ∧ Below w.heap.size w w' := by
  have hS := scan_full hG hn
  have hk : ∀ s ∈ toks src 0, Rk s := fun s hs => by
    obtain ⟨i, hi⟩ := List.mem_iff_getElem?.1 hs
    exact ((toks_good 0 hn).at i s hi).1.rk
  have hL := toks_len src 0 hn
  rw [h0] at hS
  generalize (toks src 0) = L at hS hA hk hL
  have hL' : L.length ≤ 1000000 := by omega
  have hW : ∀ w', Below w.heap.size w w' → w'.ownsRow b1 37 5 (.slice (some ⟨gw, 0, none⟩) W.length capw) W.length (flat wCells W) := fun w' hB => own_below hB hrow2
  go_enter Tryd.func21, Tryd.ntmps21
  go_wp2_with (first
    | (go_at_call 34; refine (alike_walk L W hk hA hL' h1 (hW _ h3)).mono ?_; rintro en w2 ⟨rfl, h4⟩)
    | (go_at_call 15; refine hS.mono ?_; rintro en w' ⟨g, cap, p, c2, rfl, h1, h3⟩))
  exact ⟨rfl, _, one_res (k := 4) (by kernel_rfl) rfl, rfl, h3.trans (below_weak h4 h3.size)⟩
end Sc
end Go.Proofs.YtogkcphobhhbdaaDoor

/- spec.EndsLine and spec.Ends walked. -/
namespace Go.Proofs.YtogkcphobhhbdaaDoor
open Go Go.RowKit Go.Lib
namespace Sc
open Ev
set_option maxRecDepth 100000

/-- Behind which words a line's end puts a semicolon in. -/
def endsLineF (s : ByteArray) : Bool :=
  if s.toList = [98, 114, 101, 97, 107] then true
  else if s.toList = [99, 111, 110, 116, 105, 110, 117, 101] then true
  else if s.toList = [102, 97, 108, 108, 116, 104, 114, 111, 117, 103, 104] then true
  else if s.toList = [114, 101, 116, 117, 114, 110] then true
  else if s.toList = [43, 43] then true
  else if s.toList = [45, 45] then true
  else if s.toList = [41] then true
  else if s.toList = [93] then true
  else if s.toList = [125] then true
  else false
set_option maxHeartbeats 3200000 in
theorem endsLine_walk (w : World) (s : ByteArray) : Calls Tryd.prog 56 #[.string s] w fun e w' => e = .returned (.bool (endsLineF s)) ∧ w' = w := by
  go_enter Tryd.func56, Tryd.ntmps56
  go_wp2_with fail
  all_goals (refine ⟨rfl, _, one_res (k := 2) (by kernel_rfl) rfl, ?_, rfl⟩)
  all_goals (unfold endsLineF; simp_all)
/-- Behind which tokens a line's end puts a semicolon in. -/
def endsW (t : WTok) : Bool := if t.cls = 1 then true else if t.cls = 2 then true else if t.cls = 3 then endsLineF t.text else false
set_option maxHeartbeats 3200000 in
theorem ends_walk (w : World) (t : WTok) : Calls Tryd.prog 35 #[.agg (wCells t).toArray] w fun e w' => e = .returned (.bool (endsW t)) ∧ Below w.heap.size w w' := by
  obtain ⟨cls, text, kind, wl, wc⟩ := t
  show Calls Tryd.prog 35 #[.agg #[.int .i64 cls, .string text, .int .i64 kind, .int .i64 wl, .int .i64 wc]] w _
  unfold endsW
  simp only
  by_cases h1 : cls = 1
  · subst h1
    go_enter Tryd.func35, Tryd.ntmps35
    go_wp2_with (go_at_call 56; refine (endsLine_walk _ _).mono ?_; rintro en w' ⟨rfl, rfl⟩)
    all_goals first | exact ⟨rfl, _, one_res (k := 2) (by kernel_rfl) rfl, by simp, Below.alloc (Below.refl _ _) (Nat.le_refl _) _⟩ | trace_state
  · have e1 : (cls == 1) = false := by simpa using h1
    by_cases h2 : cls = 2
    · subst h2
      go_enter Tryd.func35, Tryd.ntmps35
      go_wp2_with (go_at_call 56; refine (endsLine_walk _ _).mono ?_; rintro en w' ⟨rfl, rfl⟩)
      all_goals first | exact ⟨rfl, _, one_res (k := 2) (by kernel_rfl) rfl, by simp, Below.alloc (Below.refl _ _) (Nat.le_refl _) _⟩ | trace_state
    · have e2 : (cls == 2) = false := by simpa using h2
      by_cases h3 : cls = 3
      · subst h3
        go_enter Tryd.func35, Tryd.ntmps35
        go_wp2_with (go_at_call 56; refine (endsLine_walk _ _).mono ?_; rintro en w' ⟨rfl, rfl⟩)
        all_goals first | exact ⟨rfl, _, one_res (k := 2) (by kernel_rfl) rfl, by simp, Below.alloc (Below.refl _ _) (Nat.le_refl _) _⟩ | trace_state
      · have e3 : (cls == 3) = false := by simpa using h3
        go_enter Tryd.func35, Tryd.ntmps35
        go_wp2_with (go_at_call 56; refine (endsLine_walk _ _).mono ?_; rintro en w' ⟨rfl, rfl⟩)
        all_goals first | exact ⟨rfl, _, one_res (k := 2) (by kernel_rfl) rfl, by simp, Below.alloc (Below.refl _ _) (Nat.le_refl _) _⟩ | trace_state
end Sc
end Go.Proofs.YtogkcphobhhbdaaDoor

/- laws.closed walked. -/
namespace Go.Proofs.YtogkcphobhhbdaaDoor
open Go Go.RowKit Go.Lib
namespace Sc
open Ev
set_option maxRecDepth 100000

theorem info_wtok : (Tryd.prog.info? 37).map (fun i => (i.zero, i.size, i.bytes)) = some (some (.agg #[.int .i64 0, .string ⟨#[]⟩, .int .i64 0, .int .i64 0, .int .i64 0]), 5, 48) := by kernel_rfl
/-- Wanted tokens are appended to a row of the call's own. -/
theorem cw_app {w0 : World} {base n m c : Nat} {v : Value} {xs news : List Value} {ad : Addr} (hown : w0.ownsRow base 37 5 v n xs) (hbase : base ≤ w0.heap.size) (hn : n ≤ 1000000) (hm : 0 < m) (hm2 : m ≤ 1000000)
    (hl : news.length = m * 5) (hnews : ∀ j u, news[j]? = some u → w0.cell? (ad.add j) = some u) (hone : ∀ u ∈ news, u.oneCell' = true)
    {ops : Array Oper} {rest : List Oper} {o : Oper} {a : Act} {Q : Exit → Act → World → Prop} (hgd : o.guard = none) (s x : Operand)
    (ho : o.op = .call { callee := .builtin .append, args := #[s, x], argTypes := #[34, 34] }) (hs : a.eval s = v) (hx : a.eval x = .slice (some ad) m c)
    (h : ∀ g cap w', w'.ownsRow base 37 5 (.slice (some ⟨g, 0, none⟩) (n + m) cap) (n + m) (xs ++ news) → w0.grownBy w' v.ownBlock → wpList Tryd.prog ops Q rest (a.put o.dst (.slice (some ⟨g, 0, none⟩) (n + m) cap)) w') :
    wpList Tryd.prog ops Q (o :: rest) a w0 := by
  obtain ⟨i0, hi0, hz0, hz1, hz2⟩ := info_parts info_wtok
  have hml : n + m ≤ maxLen := by simp only [maxLen]; omega
  exact wpList_append_lies _ hgd s x 34 ho base 37 i0 _ 5 48 Tryd.underlying34 hi0 hz0 hz1 hz2 rfl (by omega) v n xs hs hown
    ad m c news hx hl hnews hone hm hml (by omega) hbase w0.heap.size rfl (fun g cap w' h1 h2 _ _ => h g cap w' h1 h2)
theorem flat_one : ∀ (W : List WTok), ∀ u ∈ flat wCells W, u.oneCell' = true
  | [], u, h => by simp [flat] at h
  | t :: W, u, h => by
    simp only [flat, List.mem_append] at h
    rcases h with h | h
    · simp only [wCells, List.mem_cons, List.not_mem_nil, or_false] at h
      rcases h with rfl | rfl | rfl | rfl | rfl <;> rfl
    · exact flat_one W u h
theorem flat_len5 : ∀ (W : List WTok), (flat wCells W).length = W.length * 5
  | [] => rfl
  | t :: W => by simp only [flat, List.length_append, flat_len5 W, List.length_cons, wCells, List.length_nil]; omega
theorem flat_app (W V : List WTok) : flat wCells (W ++ V) = flat wCells W ++ flat wCells V := by
  induction W with
  | nil => rfl
  | cons t W ih => simp only [List.cons_append, flat, ih, List.append_assoc]
/-- A row of no tokens, just made. -/
theorem own_empty (w : World) : (w.alloc (.cells #[] 37)).ownsRow w.heap.size 37 5 (.slice (some ⟨w.heap.size, 0, none⟩) 0 0) 0 [] :=
  ⟨rfl, .inr ⟨w.heap.size, 0, #[], rfl, Nat.le_refl _, heap_alloc_new w _, Nat.le_refl _, Nat.zero_le _, rfl, rfl⟩⟩
/-- The tokens of a row, appended to an empty one. -/
theorem cw_app0 {w : World} {b1 gl capl : Nat} {W : List WTok} (hrow : w.ownsRow b1 37 5 (.slice (some ⟨gl, 0, none⟩) W.length capl) W.length (flat wCells W)) (hW : 0 < W.length) (hW2 : W.length ≤ 1000000)
    {ops : Array Oper} {rest : List Oper} {o : Oper} {a : Act} {Q : Exit → Act → World → Prop} (hgd : o.guard = none) (s x : Operand)
    (ho : o.op = .call { callee := .builtin .append, args := #[s, x], argTypes := #[34, 34] }) (hs : a.eval s = .slice (some ⟨w.heap.size, 0, none⟩) 0 0) (hx : a.eval x = .slice (some ⟨gl, 0, none⟩) W.length capl)
    (h : ∀ g cap w', w'.ownsRow w.heap.size 37 5 (.slice (some ⟨g, 0, none⟩) W.length cap) W.length (flat wCells W) → Below w.heap.size w w' → wpList Tryd.prog ops Q rest (a.put o.dst (.slice (some ⟨g, 0, none⟩) W.length cap)) w') :
    wpList Tryd.prog ops Q (o :: rest) a (w.alloc (.cells #[] 37)) := by
  refine cw_app (own_empty w) (by simp) (Nat.zero_le _) hW hW2 (flat_len5 W) ((own_alloc hrow _).cells rfl) (flat_one W) hgd s x ho hs hx (fun g cap w' h1 h2 => ?_)
  rw [Nat.zero_add, List.nil_append] at h1
  rw [Nat.zero_add]
  refine h g cap w' h1 ?_
  have h3 := Below.alloc (Below.refl w.heap.size w) (Nat.le_refl _) (.cells #[] 37)
  refine h3.trans ⟨h2.os, h2.tape, h2.output, h2.size, fun k hk => h2.block k (by simp; omega) (fun e => ?_)⟩
  simp [Value.ownBlock] at e; omega
/-- A token more. -/
theorem cw_app1 {w : World} {base n : Nat} {v : Value} {xs : List Value} (t : WTok) (hown : w.ownsRow base 37 5 v n xs) (hbase : base ≤ w.heap.size) (hn : n ≤ 1000000)
    {ops : Array Oper} {rest : List Oper} {o : Oper} {a : Act} {Q : Exit → Act → World → Prop} (hgd : o.guard = none) (s x : Operand)
    (ho : o.op = .call { callee := .builtin .append, args := #[s, x], argTypes := #[34, 34] }) (hs : a.eval s = v) (hx : a.eval x = .slice (some ⟨w.heap.size, 0, none⟩) 1 1)
    (h : ∀ g cap w', w'.ownsRow base 37 5 (.slice (some ⟨g, 0, none⟩) (n + 1) cap) (n + 1) (xs ++ wCells t) → Below base w w' → wpList Tryd.prog ops Q rest (a.put o.dst (.slice (some ⟨g, 0, none⟩) (n + 1) cap)) w') :
    wpList Tryd.prog ops Q (o :: rest) a (w.alloc (.cells (wCells t).toArray 37)) := by
  refine cw_app (own_alloc hown _) (by simp; omega) hn Nat.one_pos (by omega) (news := wCells t) rfl (World.news_of_block (cs := (wCells t).toArray) (t := 37) (fr := (0, 0)) (heap_alloc_new w _)) (fun u hu => flat_one [t] u (by simpa [flat] using hu)) hgd s x ho hs hx (fun g cap w' h1 h2 => ?_)
  refine h g cap w' h1 ?_
  have h3 := Below.alloc (Below.refl base w) hbase (.cells (wCells t).toArray 37)
  refine h3.trans ⟨h2.os, h2.tape, h2.output, h2.size, fun k hk => h2.block k (by simp; omega) (fun e => ?_)⟩
  rcases hown.2 with ⟨rfl, _⟩ | ⟨g', cap', cur, rfl, hb, _⟩
  · cases e
  · have e' : some k = some g' := e
    have : k = g' := Option.some.inj e'
    omega
end Sc
end Go.Proofs.YtogkcphobhhbdaaDoor

/- laws.closed walked whole. -/
namespace Go.Proofs.YtogkcphobhhbdaaDoor
open Go Go.RowKit Go.Lib
namespace Sc
open Ev
set_option maxRecDepth 100000

def semiW : WTok := ⟨4, ⟨#[]⟩, 0, 0, 0⟩
def endW : WTok := ⟨0, ⟨#[]⟩, 0, 0, 0⟩
/-- What closed makes of tokens. -/
def closedF (W : List WTok) (t : WTok) : List WTok := if endsW t = true then W ++ [semiW] ++ [endW] else W ++ [endW]
set_option maxHeartbeats 3200000 in
theorem closed_walk {w : World} {b1 gl capl j : Nat} {W : List WTok} {t : WTok} (hrow : w.ownsRow b1 37 5 (.slice (some ⟨gl, 0, none⟩) W.length capl) W.length (flat wCells W)) (hj : W.length = j + 1) (hW2 : W.length ≤ 100000) (ht : W[j]? = some t) :
    Calls Tryd.prog 22 #[.slice (some ⟨gl, 0, none⟩) W.length capl] w fun en w' => ∃ g cap, en = .returned (.slice (some ⟨g, 0, none⟩) (closedF W t).length cap) ∧
      w'.ownsRow w.heap.size 37 5 (.slice (some ⟨g, 0, none⟩) (closedF W t).length cap) (closedF W t).length (flat wCells (closedF W t)) ∧ Below w.heap.size w w' := by
  have hgl : gl < w.heap.size := by
    obtain ⟨g, cap, e, _, h⟩ := hrow.form (by omega)
    have : gl = g := by simpa using congrArg (fun v => match v with | Value.slice (some a) _ _ => a.block | _ => 0) e
    omega
  have hc : ∀ w', Below w.heap.size w w' → Row5 w' gl j t := fun w' hB => row5 (wS := w) hrow hB ht
  have hE : ∀ w, Calls Tryd.prog 35 #[.agg #[.int .i64 t.cls, .string t.text, .int .i64 t.kind, .int .i64 t.line, .int .i64 t.col]] w fun e w' => e = .returned (.bool (endsW t)) ∧ Below w.heap.size w w' := fun w => ends_walk w t
  unfold closedF
  generalize endsW t = en at hE
  have hn1 : (0 : Int) < (W.length : Int) := by omega
  have hwj : IntKind.i64.wrap ((W.length : Int) - 1) = (j : Int) := by rw [hj]; rw [show ((j + 1 : Nat) : Int) - 1 = (j : Int) by omega]; exact i64_small (by omega) (by omega)
  have hj0 : (0 : Int) ≤ (j : Int) := by omega
  have hj1 : (j : Int) < (W.length : Int) := by omega
  have hW1 : 0 < W.length := by omega
  obtain ⟨cls, text, kind, wl, wc⟩ := t
  simp only at hE
  clear hj
  cases en
  · simp only [Bool.false_eq_true, if_false]
    go_enter Tryd.func22, Tryd.ntmps22
    go_wp2_with (first
      | (go_at_call 35; refine (hE _).mono ?_; rintro e2 w2 ⟨rfl, hB2⟩)
      | (at_builtin; refine cw_app1 endW (own_below hB2 h1) (Nat.le_trans hB1.size hB2.size) (by omega) (by rfl) _ _ (by rfl) (by rfl) (by rfl) ?_; intro g3 c3 w3 h3 hB3)
      | (at_builtin; refine cw_app0 hrow hW1 (by omega) (by rfl) _ _ (by rfl) (by rfl) (by rfl) ?_; intro g1 c1 w1 h1 hB1; obtain ⟨k0, k1, k2, k3, k4⟩ := hc w1 hB1))
    have hz : (W ++ [endW]).length = W.length + 1 := by simp
    refine ⟨rfl, _, one_res (k := 2) (by kernel_rfl) rfl, g3, c3, by rw [hz]; rfl, ?_, hB1.trans ((below_weak hB2 hB1.size).trans hB3)⟩
    rw [hz, flat_app]
    simpa [flat] using h3
  · simp only [if_true]
    go_enter Tryd.func22, Tryd.ntmps22
    go_wp2_with (first
      | (go_at_call 35; refine (hE _).mono ?_; rintro e2 w2 ⟨rfl, hB2⟩)
      | (at_builtin; refine cw_app1 endW h4 (Nat.le_trans hB1.size (Nat.le_trans hB2.size hB4.size)) (by omega) (by rfl) _ _ (by rfl) (by rfl) (by rfl) ?_; intro g3 c3 w3 h3 hB3)
      | (at_builtin; refine cw_app1 semiW (own_below hB2 h1) (Nat.le_trans hB1.size hB2.size) (by omega) (by rfl) _ _ (by rfl) (by rfl) (by rfl) ?_; intro g4 c4 w4 h4 hB4)
      | (at_builtin; refine cw_app0 hrow hW1 (by omega) (by rfl) _ _ (by rfl) (by rfl) (by rfl) ?_; intro g1 c1 w1 h1 hB1; obtain ⟨k0, k1, k2, k3, k4⟩ := hc w1 hB1))
    have hz : (W ++ [semiW] ++ [endW]).length = W.length + 1 + 1 := by simp
    refine ⟨rfl, _, one_res (k := 2) (by kernel_rfl) rfl, g3, c3, by rw [hz]; rfl, ?_, hB1.trans ((below_weak hB2 hB1.size).trans (hB4.trans hB3))⟩
    rw [hz, flat_app, flat_app]
    simpa [flat] using h3
end Sc
end Go.Proofs.YtogkcphobhhbdaaDoor

/-
  DERIVED: THE SHELF's CONTRACTS AT THIS DUMP, IN PLAIN WORDS (tools/lay-plain.mjs out of 'TrydShelf.lean', which tools/lay-shelf.mjs wrote): THE SAME DECLARATIONS UNDER THE SAME NAMES: 'import', 'namespace', 'open', 'def', 'theorem' AND NOTHING ELSE: no command of the shelf's: FOR A HAND-IN. Each laying: the table of numbers ('.._ren') and one theorem, a field a fact of the dump's own or the kernel's comparison; each contract: ONE APPLICATION.
-/
namespace Go.Proofs
open Go.Shelf
def Tryd.lays278_ren : Go.Shelf.Ren := ⟨fun | 278 => 60 | n => n, fun | 37 => 45 | 21 => 21 | 51 => 44 | 4 => 4 | 46 => 55 | 5 => 5 | n => n, fun | n => n⟩
theorem Tryd.lays278 : Go.Proofs.Lays.n278 Tryd.prog Tryd.lays278_ren := {
  mixed := by kernel_rfl
  f278 := Tryd.func60.trans (congrArg some (by kernel_rfl))
  t4 := Tryd.underlying4
  a4 := Tryd.isAgg4
  z4 := Tryd.sizeOf4
  v4 := Tryd.zeroValue4
  t5 := Tryd.underlying5
  a5 := Tryd.isAgg5
  z5 := Tryd.sizeOf5
  v5 := Tryd.zeroValue5
  t21 := Tryd.underlying21
  a21 := Tryd.isAgg21
  z21 := Tryd.sizeOf21
  v21 := Tryd.zeroValue21
  t37 := Tryd.underlying45
  a37 := Tryd.isAgg45
  z37 := Tryd.sizeOf45
  v37 := Tryd.zeroValue45
  t46 := Tryd.underlying55
  a46 := Tryd.isAgg55
  z46 := Tryd.sizeOf55
  v46 := Tryd.zeroValue55
  t51 := Tryd.underlying44
  a51 := Tryd.isAgg44
  z51 := Tryd.sizeOf44
  v51 := Tryd.zeroValue44 }
open Go.RowKit in
/-- unicode/utf8.appendRuneNonASCII (what AppendRune calls for all but ASCII), ONTO A ROW OF BYTES THAT THE CALL OWNS: every int32 that is no ASCII rune: 'Lib.runeCells r' goes in behind what the row holds. (LAID: no walk: one application.) -/
theorem Tryd.utf8_appendRuneNonASCII_plain (B : Nat) (v : Value) (n : Nat) (xs : List Value) (r : Int) (hr0 : -2147483648 ≤ r) (hr1 : r ≤ 2147483647) (hna : r < 0 ∨ 128 ≤ r) (w : World) (hown : w.ownsRow B 5 1 v n xs) (hlen : n + 4 ≤ 140737488355328) (hBw : B ≤ w.heap.size) :
    Calls Tryd.prog 60 #[v, .int .i32 r] w fun e w' => ∃ v', e = .returned v' ∧ w'.ownsRow B 5 1 v' (n + (Lib.runeCells r).length) (xs ++ Lib.runeCells r) ∧ ∃ o, (w.alloc o).grownBy w' v.ownBlock := Any.utf8_appendRuneNonASCII_plain Tryd.lays278 (by kernel_rfl) B v n xs r hr0 hr1 hna w hown hlen hBw
def Tryd.lays242_ren : Go.Shelf.Ren := ⟨fun | 242 => 40 | 278 => 60 | n => n, fun | 37 => 45 | 21 => 21 | 51 => 44 | 4 => 4 | 5 => 5 | 46 => 55 | n => n, fun | n => n⟩
theorem Tryd.lays242 : Go.Proofs.Lays.n242 Tryd.prog Tryd.lays242_ren := {
  mixed := by kernel_rfl
  f242 := Tryd.func40.trans (congrArg some (by kernel_rfl))
  f278 := Tryd.func60.trans (congrArg some (by kernel_rfl))
  t4 := Tryd.underlying4
  a4 := Tryd.isAgg4
  z4 := Tryd.sizeOf4
  v4 := Tryd.zeroValue4
  t5 := Tryd.underlying5
  a5 := Tryd.isAgg5
  z5 := Tryd.sizeOf5
  v5 := Tryd.zeroValue5
  t21 := Tryd.underlying21
  a21 := Tryd.isAgg21
  z21 := Tryd.sizeOf21
  v21 := Tryd.zeroValue21
  t37 := Tryd.underlying45
  a37 := Tryd.isAgg45
  z37 := Tryd.sizeOf45
  v37 := Tryd.zeroValue45
  t46 := Tryd.underlying55
  a46 := Tryd.isAgg55
  z46 := Tryd.sizeOf55
  v46 := Tryd.zeroValue55
  t51 := Tryd.underlying44
  a51 := Tryd.isAgg44
  z51 := Tryd.sizeOf44
  v51 := Tryd.zeroValue44 }
open Go.RowKit in
/-- unicode/utf8.AppendRune: "AppendRune appends the UTF-8 encoding of r to the end of p and returns the extended buffer. If the rune is out of range, it appends the encoding of RuneError.": ONTO A ROW OF BYTES THAT THE CALL OWNS (its head frozen or not): EVERY int32: 'Lib.runeCells r' goes in behind what the row holds; the world: one new block (the bytes as the call's variadic argument), then what 'append' does to the row. (LAID: no walk: one application.) -/
theorem Tryd.utf8_AppendRune_plain (B : Nat) (v : Value) (n : Nat) (xs : List Value) (r : Int) (hr0 : -2147483648 ≤ r) (hr1 : r ≤ 2147483647) (w : World) (hown : w.ownsRow B 5 1 v n xs) (hlen : n + 4 ≤ 140737488355328) (hBw : B ≤ w.heap.size) :
    Calls Tryd.prog 40 #[v, .int .i32 r] w fun e w' => ∃ v', e = .returned v' ∧ w'.ownsRow B 5 1 v' (n + (Lib.runeCells r).length) (xs ++ Lib.runeCells r) ∧ ∃ o, (w.alloc o).grownBy w' v.ownBlock := Any.utf8_AppendRune_plain Tryd.lays242 (by kernel_rfl) B v n xs r hr0 hr1 w hown hlen hBw
def Tryd.lays217_ren : Go.Shelf.Ren := ⟨fun | 217 => 31 | 266 => 55 | n => n, fun | 9 => 9 | 5 => 5 | 3 => 3 | n => n, fun | n => n⟩
theorem Tryd.lays217 : Go.Proofs.Lays.n217 Tryd.prog Tryd.lays217_ren := {
  mixed := by kernel_rfl
  f217 := Tryd.func31.trans (congrArg some (by kernel_rfl))
  f266 := Tryd.func55.trans (congrArg some (by kernel_rfl))
  t3 := Tryd.underlying3
  a3 := Tryd.isAgg3
  z3 := Tryd.sizeOf3
  v3 := Tryd.zeroValue3
  t5 := Tryd.underlying5
  a5 := Tryd.isAgg5
  z5 := Tryd.sizeOf5
  v5 := Tryd.zeroValue5
  t9 := Tryd.underlying9
  a9 := Tryd.isAgg9
  z9 := Tryd.sizeOf9
  v9 := Tryd.zeroValue9 }
open Go.RowKit Go.Lib in
/-- internal/stringslite.IndexByte (what strings.IndexByte calls): IT RETURNS 'Lib.indexByte s c'; the world is as it was. (LAID: no walk: one application.) -/
theorem Tryd.stringslite_IndexByte (s : ByteArray) (c : Int) (w : World) :
    Calls Tryd.prog 31 #[.string s, .int .u8 c] w fun e w' => e = .returned (.int .i64 (Lib.indexByte s.data.toList c.toNat.toUInt8)) ∧ w' = w := Any.stringslite_IndexByte Tryd.lays217 s c w
def Tryd.lays206_ren : Go.Shelf.Ren := ⟨fun | 206 => 57 | n => n, fun | 9 => 9 | 4 => 4 | 3 => 3 | n => n, fun | n => n⟩
theorem Tryd.lays206 : Go.Proofs.Lays.n206 Tryd.prog Tryd.lays206_ren := {
  mixed := by kernel_rfl
  f206 := Tryd.func57.trans (congrArg some (by kernel_rfl))
  t3 := Tryd.underlying3
  a3 := Tryd.isAgg3
  z3 := Tryd.sizeOf3
  v3 := Tryd.zeroValue3
  t4 := Tryd.underlying4
  a4 := Tryd.isAgg4
  z4 := Tryd.sizeOf4
  v4 := Tryd.zeroValue4
  t9 := Tryd.underlying9
  a9 := Tryd.isAgg9
  z9 := Tryd.sizeOf9
  v9 := Tryd.zeroValue9 }
open Go.RowKit Go.Lib in
/-- internal/stringslite.HasPrefix (what strings.HasPrefix calls). (LAID: no walk: one application.) -/
theorem Tryd.stringslite_HasPrefix (s p : ByteArray) (w : World) :
    Calls Tryd.prog 57 #[.string s, .string p] w fun e w' => e = .returned (.bool (Lib.hasPrefix s.data.toList p.data.toList)) ∧ w' = w := Any.stringslite_HasPrefix Tryd.lays206 s p w
def Tryd.lays99_ren : Go.Shelf.Ren := ⟨fun | 99 => 36 | 206 => 57 | n => n, fun | 9 => 9 | 4 => 4 | 3 => 3 | n => n, fun | n => n⟩
theorem Tryd.lays99 : Go.Proofs.Lays.n99 Tryd.prog Tryd.lays99_ren := {
  mixed := by kernel_rfl
  f99 := Tryd.func36.trans (congrArg some (by kernel_rfl))
  f206 := Tryd.func57.trans (congrArg some (by kernel_rfl))
  t3 := Tryd.underlying3
  a3 := Tryd.isAgg3
  z3 := Tryd.sizeOf3
  v3 := Tryd.zeroValue3
  t4 := Tryd.underlying4
  a4 := Tryd.isAgg4
  z4 := Tryd.sizeOf4
  v4 := Tryd.zeroValue4
  t9 := Tryd.underlying9
  a9 := Tryd.isAgg9
  z9 := Tryd.sizeOf9
  v9 := Tryd.zeroValue9 }
open Go.RowKit Go.Lib in
/-- strings.HasPrefix: "HasPrefix reports whether the string s begins with prefix.": IT RETURNS 'Lib.hasPrefix s prefix'; the world is as it was. (LAID: no walk: one application.) -/
theorem Tryd.strings_HasPrefix (s p : ByteArray) (w : World) :
    Calls Tryd.prog 36 #[.string s, .string p] w fun e w' => e = .returned (.bool (Lib.hasPrefix s.data.toList p.data.toList)) ∧ w' = w := Any.strings_HasPrefix Tryd.lays99 s p w
def Tryd.lays208_ren : Go.Shelf.Ren := ⟨fun | 208 => 88 | 206 => 57 | n => n, fun | 9 => 9 | 4 => 4 | 3 => 3 | n => n, fun | n => n⟩
theorem Tryd.lays208 : Go.Proofs.Lays.n208 Tryd.prog Tryd.lays208_ren := {
  mixed := by kernel_rfl
  f206 := Tryd.func57.trans (congrArg some (by kernel_rfl))
  f208 := Tryd.func88.trans (congrArg some (by kernel_rfl))
  t3 := Tryd.underlying3
  a3 := Tryd.isAgg3
  z3 := Tryd.sizeOf3
  v3 := Tryd.zeroValue3
  t4 := Tryd.underlying4
  a4 := Tryd.isAgg4
  z4 := Tryd.sizeOf4
  v4 := Tryd.zeroValue4
  t9 := Tryd.underlying9
  a9 := Tryd.isAgg9
  z9 := Tryd.sizeOf9
  v9 := Tryd.zeroValue9 }
open Go.RowKit Go.Lib in
/-- internal/stringslite.TrimPrefix (what strings.TrimPrefix calls). (LAID: no walk: one application.) -/
theorem Tryd.stringslite_TrimPrefix (s p : ByteArray) (w : World) :
    Calls Tryd.prog 88 #[.string s, .string p] w fun e w' => e = .returned (.string ⟨(Lib.trimPrefix s.data.toList p.data.toList).toArray⟩) ∧ w' = w := Any.stringslite_TrimPrefix Tryd.lays208 s p w
def Tryd.lays101_ren : Go.Shelf.Ren := ⟨fun | 101 => 61 | 208 => 88 | 206 => 57 | n => n, fun | 9 => 9 | 4 => 4 | 3 => 3 | n => n, fun | n => n⟩
theorem Tryd.lays101 : Go.Proofs.Lays.n101 Tryd.prog Tryd.lays101_ren := {
  mixed := by kernel_rfl
  f101 := Tryd.func61.trans (congrArg some (by kernel_rfl))
  f206 := Tryd.func57.trans (congrArg some (by kernel_rfl))
  f208 := Tryd.func88.trans (congrArg some (by kernel_rfl))
  t3 := Tryd.underlying3
  a3 := Tryd.isAgg3
  z3 := Tryd.sizeOf3
  v3 := Tryd.zeroValue3
  t4 := Tryd.underlying4
  a4 := Tryd.isAgg4
  z4 := Tryd.sizeOf4
  v4 := Tryd.zeroValue4
  t9 := Tryd.underlying9
  a9 := Tryd.isAgg9
  z9 := Tryd.sizeOf9
  v9 := Tryd.zeroValue9 }
open Go.RowKit Go.Lib in
/-- strings.TrimPrefix: "TrimPrefix returns s without the provided leading prefix string. If s doesn't start with prefix, s is returned unchanged.": IT RETURNS 'Lib.trimPrefix s prefix'; the world is as it was. (LAID: no walk: one application.) -/
theorem Tryd.strings_TrimPrefix (s p : ByteArray) (w : World) :
    Calls Tryd.prog 61 #[.string s, .string p] w fun e w' => e = .returned (.string ⟨(Lib.trimPrefix s.data.toList p.data.toList).toArray⟩) ∧ w' = w := Any.strings_TrimPrefix Tryd.lays101 s p w
end Go.Proofs

/- spec.TextOk walked. -/
namespace Go.Proofs.YtogkcphobhhbdaaDoor
open Go Go.RowKit Go.Lib
namespace Sc
open Ev
set_option maxRecDepth 100000

/-- A rune that no text here may hold. -/
def badR (r : Int) : Bool := r == 65533 || r == 0 || r == 65279
def textOkN (s : ByteArray) : Nat → Nat → Bool
  | 0, _ => true
  | n + 1, p => if p < s.size then (if badR (Utf8.decode s p).1 = true then false else textOkN s n (p + (Utf8.decode s p).2)) else true
/-- TextOk. -/
def textOkF (s : ByteArray) : Bool := textOkN s (s.size + 1) 0 && decide (s.size ≤ 60)
/-- Known slots of a frame of 23. -/
structure ST (v0 vi : Value) (a : Act) : Prop where
  defers : a.defers = []
  size : a.tmps.size = 23
  s0 : a.tmps[0]? = some v0
  s6 : a.tmps[6]? = some vi
theorem ST.lit {v0 vi : Value} {a : Act} (h : ST v0 vi a) : ∃ x : Nat → Value, a = { tmps := #[v0, x 1, x 2, x 3, x 4, x 5, vi, x 7, x 8, x 9, x 10, x 11, x 12, x 13, x 14, x 15, x 16, x 17, x 18, x 19, x 20, x 21, x 22], defers := [] } := by
  refine ⟨fun i => a.tmps.getD i undef, ?_⟩
  obtain ⟨t, d⟩ := a
  obtain ⟨h1, h2, k0, k6⟩ := h
  simp only at h1 h2 k0 k6
  subst h1
  have e0 : t.getD 0 undef = v0 := by rw [Array.getD_eq_getD_getElem?, k0]; rfl
  have e6 : t.getD 6 undef = vi := by rw [Array.getD_eq_getD_getElem?, k6]; rfl
  have ht := tmpsN 23 t h2
  rw [← e0, ← e6]
  exact congrArg (fun t => ({ tmps := t, defers := [] } : Act)) ht
theorem ST.of {v0 vi : Value} (x : Nat → Value) : ST v0 vi { tmps := #[v0, x 1, x 2, x 3, x 4, x 5, vi, x 7, x 8, x 9, x 10, x 11, x 12, x 13, x 14, x 15, x 16, x 17, x 18, x 19, x 20, x 21, x 22], defers := [] } := ⟨rfl, rfl, rfl, rfl⟩

noncomputable abbrev tkBody : Code := bodyOf Tryd.f17
noncomputable abbrev tkLoop : Code := loopOf (blkOf tkBody 0)
theorem tk_end {w : World} {s : ByteArray} {k pos : Nat} (hk : w.heap[k]? = some (.stringIter s pos)) (h : ¬ pos < s.size)
    (a : Act) (hz : ST (.string s) (.pointer (some ⟨k, 0, none⟩)) a) (Q : Exit → Act → World → Prop) (hQ : ∀ a', ST (.string s) (.pointer (some ⟨k, 0, none⟩)) a' → Q (.exit 0) a' w) : tkLoop.wp Tryd.prog Q a w := by
  obtain ⟨x, rfl⟩ := hz.lit
  clear hz
  have hx := fun ty => run_next_end_at (P := Tryd.prog) w k s pos ty hk h
  simp only [tkLoop, tkBody, bodyOf, Tryd.f17, Option.getD, blkOf, loopOf, cond, Nat.beq]
  go_wp2_with fail
  exact ⟨rfl, rfl, rfl, rfl⟩
theorem tk_bad {w : World} {s : ByteArray} {k pos : Nat} (hk : w.heap[k]? = some (.stringIter s pos)) (h : pos < s.size) (hb : badR (Utf8.decode s pos).1 = true)
    (a : Act) (hz : ST (.string s) (.pointer (some ⟨k, 0, none⟩)) a) (Q : Exit → Act → World → Prop) (hQ : ∀ a' w', a'.defers = [] → a'.tmps[2]? = some (.bool false) → Below k w w' → Q .ret a' w') : tkLoop.wp Tryd.prog Q a w := by
  obtain ⟨x, rfl⟩ := hz.lit
  clear hz
  have hx := fun ty => run_next_any_at (P := Tryd.prog) w k s pos ty hk h
  have hB := below_iterAt (Below.refl k w) (Nat.le_refl k) s (pos + (Utf8.decode s pos).2)
  generalize w.iterAt k s (pos + (Utf8.decode s pos).2) = w1 at hx hB
  generalize ((Utf8.decode s pos).1 : Int) = r at hx hb
  simp only [tkLoop, tkBody, bodyOf, Tryd.f17, Option.getD, blkOf, loopOf, cond, Nat.beq]
  unfold badR at hb
  go_wp2_with fail
  all_goals exact hQ _ _ rfl rfl hB
theorem tk_good {w : World} {s : ByteArray} {k pos : Nat} (hk : w.heap[k]? = some (.stringIter s pos)) (h : pos < s.size) (hb : badR (Utf8.decode s pos).1 = false)
    (a : Act) (hz : ST (.string s) (.pointer (some ⟨k, 0, none⟩)) a) (Q : Exit → Act → World → Prop) (hQ : ∀ a', ST (.string s) (.pointer (some ⟨k, 0, none⟩)) a' → Q .normal a' (w.iterAt k s (pos + (Utf8.decode s pos).2))) : tkLoop.wp Tryd.prog Q a w := by
  obtain ⟨x, rfl⟩ := hz.lit
  clear hz
  have hx := fun ty => run_next_any_at (P := Tryd.prog) w k s pos ty hk h
  generalize w.iterAt k s (pos + (Utf8.decode s pos).2) = w1 at hx hQ
  generalize ((Utf8.decode s pos).1 : Int) = r at hx hb
  simp only [tkLoop, tkBody, bodyOf, Tryd.f17, Option.getD, blkOf, loopOf, cond, Nat.beq]
  unfold badR at hb
  simp only [Bool.or_eq_false_iff] at hb
  obtain ⟨⟨b1, b2⟩, b3⟩ := hb
  go_wp2_with fail
  exact ⟨rfl, rfl, rfl, rfl⟩
theorem textOkN_more (s : ByteArray) : ∀ (n m p : Nat), s.size ≤ p + n → s.size ≤ p + m → textOkN s n p = textOkN s m p
  | 0, 0, _, _, _ => rfl
  | 0, m + 1, p, h, _ => by simp only [textOkN]; rw [if_neg (by omega)]
  | n + 1, 0, p, _, h => by simp only [textOkN]; rw [if_neg (by omega)]
  | n + 1, m + 1, p, h1, h2 => by
    have := (dec_pos s p).1
    simp only [textOkN]
    rw [textOkN_more s n m _ (by omega) (by omega)]
theorem tk_loop {s : ByteArray} {k : Nat} {w0 : World} (Q : Exit → Act → World → Prop) :
    ∀ (d pos : Nat) (a : Act) (w : World), s.size ≤ pos + d → w.heap[k]? = some (.stringIter s pos) → ST (.string s) (.pointer (some ⟨k, 0, none⟩)) a → Below k w0 w →
      (textOkN s d pos = false → ∀ a w, a.defers = [] → a.tmps[2]? = some (.bool false) → Below k w0 w → Q .ret a w) →
      (textOkN s d pos = true → ∀ a w, ST (.string s) (.pointer (some ⟨k, 0, none⟩)) a → Below k w0 w → Q .normal a w) →
      Code.rounds Tryd.prog tkLoop (Exit.inBlock 0 Q) (d + 1) a w
  | 0, pos, a, w, hd, hk, hz, hB, h1, h2 => by
    rw [rounds_succ]
    exact tk_end hk (by omega) a hz _ (fun a' z' => h2 rfl a' w z' hB)
  | d + 1, pos, a, w, hd, hk, hz, hB, h1, h2 => by
    rw [rounds_succ]
    by_cases hp : pos < s.size
    · simp only [textOkN, if_pos hp] at h1 h2
      cases hb : badR (Utf8.decode s pos).1 with
      | true =>
        rw [hb, if_pos rfl] at h1
        exact tk_bad hk hp hb a hz _ (fun a' w' d0 d2 b' => h1 rfl a' w' d0 d2 (hB.trans b'))
      | false =>
        rw [hb, if_neg (by simp)] at h1 h2
        refine tk_good hk hp hb a hz _ (fun a' z' => ?_)
        have := (dec_pos s pos).1
        exact tk_loop Q d _ a' _ (by omega) (iterAt_heap w k s pos _ hk) z' (below_iterAt hB (Nat.le_refl k) s _) h1 h2
    · have e : textOkN s (d + 1) pos = true := by simp only [textOkN, if_neg hp]
      exact tk_end hk hp a hz _ (fun a' z' => h2 e a' w z' hB)
noncomputable abbrev tkP (n : Nat) : Code := fstC (cutTail n tkBody)
theorem tk_body : (Tryd.f17).body = some (.seq (tkP 0) (.seq (.seq (fstC (tkP 1)) (.block 0 (.loop tkLoop))) (cutTail 2 tkBody))) := by kernel_rfl
theorem tk_first {w : World} {s : ByteArray} (B C : Code) (Q : Exit → Act → World → Prop)
    (hQ : ∀ a, ST (.string s) (.pointer (some ⟨w.heap.size, 0, none⟩)) a → B.wp Tryd.prog (Exit.then (fun a w => C.wp Tryd.prog Q a w) Q) a (w.iter s 0)) :
    (Code.seq (tkP 0) (.seq (.seq (fstC (tkP 1)) B) C)).wp Tryd.prog Q { tmps := #[.string s] ++ Array.replicate 22 undef, defers := [] } w := by
  simp only [tkP, fstC, tkBody, bodyOf, Tryd.f17, Option.getD, cutTail, cutN, Option.map, Array.replicate_succ, Array.replicate_zero, List.push_toArray, List.append_toArray, List.nil_append, List.cons_append]
  go_wp2_with fail
  rename_i K hK
  refine Code.wp_mono (fun e a w h => ?_) (hQ _ ⟨rfl, rfl, rfl, rfl⟩)
  cases e <;> first | exact hK _ _ h | exact h
theorem tk_last {w : World} {s : ByteArray} {v : Value} (a : Act) (hz : ST (.string s) v a) (Q : Exit → Act → World → Prop)
    (hQ : ∀ a', a'.defers = [] → a'.tmps[2]? = some (.bool (decide (s.size ≤ 60))) → Q .ret a' w) : (cutTail 2 tkBody).wp Tryd.prog Q a w := by
  obtain ⟨x, rfl⟩ := hz.lit
  clear hz
  simp only [tkBody, bodyOf, Tryd.f17, Option.getD, cutTail, cutN, Option.map]
  go_wp2_with fail
  exact hQ _ rfl (by simp; omega)
theorem textOk_walk (w : World) (s : ByteArray) : Calls Tryd.prog 17 #[.string s] w fun e w' => e = .returned (.bool (textOkF s)) ∧ Below w.heap.size w w' := by
  refine calls_of_wp Tryd.func17 tk_body ?_
  have hnt : (Tryd.f17).ntmps - (#[.string s] : Array Value).size = 22 := by kernel_rfl
  rw [hnt]
  have hB0 : Below w.heap.size w (w.iter s 0) := Below.alloc (Below.refl _ _) (Nat.le_refl _) _
  refine tk_first _ _ _ (fun a z => ?_)
  refine wp_block (wp_loop_rounds (s.size + 1 + 1) ?_)
  have hsz : ∀ w', Below w.heap.size (w.iter s 0) w' → Below w.heap.size w w' := fun w' h => hB0.trans h
  refine tk_loop (k := w.heap.size) (w0 := w.iter s 0) _ (s.size + 1) 0 a _ (by omega) (World.iter_heap w s 0) z (Below.refl _ _) (fun hf a2 w2 d0 d2 b2 => ?_) (fun hf a2 w2 z2 b2 => ?_)
  · exact ⟨d0, _, one_res (k := 2) (by kernel_rfl) d2, by unfold textOkF; rw [hf]; rfl, hsz _ b2⟩
  · show (cutTail 2 tkBody).wp _ _ a2 w2
    exact tk_last a2 z2 _ (fun a3 d0 d2 => ⟨d0, _, one_res (k := 2) (by kernel_rfl) d2, by unfold textOkF; rw [hf]; rfl, hsz _ b2⟩)
end Sc
end Go.Proofs.YtogkcphobhhbdaaDoor

/- Plain: a text within a text; texts that TextOk takes are characters that follow one another. -/
namespace Go.Proofs.YtogkcphobhhbdaaDoor
open Go Go.RowKit Go.Lib
namespace Sc
open Ev
set_option maxRecDepth 100000

/-- A text stands in another one from k on. -/
structure Sub (T : ByteArray) (k : Nat) (s : ByteArray) : Prop where
  le : k + s.size ≤ T.size
  get : ∀ j, j < s.size → T.get! (k + j) = s.get! j
theorem decodeN_same {n m b0 b1 b2 b3 c1 c2 c3 : Nat} (hnm : n ≤ m) (h1 : 1 < n → c1 = b1) (h2 : 2 < n → c2 = b2) (h3 : 3 < n → c3 = b3) (hne : (decodeN n b0 b1 b2 b3).1 ≠ 65533) : decodeN m b0 c1 c2 c3 = decodeN n b0 b1 b2 b3 := by
  unfold decodeN at hne ⊢
  by_cases k0 : b0 < 128
  · rw [if_pos k0, if_pos k0]
  · rw [if_neg k0] at hne
    rw [if_neg k0, if_neg k0]
    by_cases k1 : b0 / 32 = 6 ∧ (1 < n ∧ b1 / 64 = 2)
    · have e1 := h1 k1.2.1
      subst e1
      rw [if_pos k1, if_pos ⟨k1.1, by omega, k1.2.2⟩]
    · rw [if_neg k1] at hne
      by_cases k2 : b0 / 16 = 14 ∧ (1 < n ∧ b1 / 64 = 2) ∧ (2 < n ∧ b2 / 64 = 2)
      · have e1 := h1 k2.2.1.1
        have e2 := h2 k2.2.2.1
        subst e1 e2
        have k1' : ¬ (b0 / 32 = 6 ∧ (1 < m ∧ c1 / 64 = 2)) := fun h => by have := k2.1; have := h.1; omega
        rw [if_neg k1, if_pos k2, if_neg k1', if_pos ⟨k2.1, ⟨by omega, k2.2.1.2⟩, by omega, k2.2.2.2⟩]
      · rw [if_neg k2] at hne
        by_cases k3 : b0 / 8 = 30 ∧ (1 < n ∧ b1 / 64 = 2) ∧ (2 < n ∧ b2 / 64 = 2) ∧ (3 < n ∧ b3 / 64 = 2)
        · have e1 := h1 k3.2.1.1
          have e2 := h2 k3.2.2.1.1
          have e3 := h3 k3.2.2.2.1
          subst e1 e2 e3
          have k1' : ¬ (b0 / 32 = 6 ∧ (1 < m ∧ c1 / 64 = 2)) := fun h => by have := k3.1; have := h.1; omega
          have k2' : ¬ (b0 / 16 = 14 ∧ (1 < m ∧ c1 / 64 = 2) ∧ (2 < m ∧ c2 / 64 = 2)) := fun h => by have := k3.1; have := h.1; omega
          rw [if_neg k1, if_neg k2, if_pos k3, if_neg k1', if_neg k2', if_pos ⟨k3.1, ⟨by omega, k3.2.1.2⟩, ⟨by omega, k3.2.2.1.2⟩, by omega, k3.2.2.2.2⟩]
        · rw [if_neg k3] at hne
          exact absurd rfl hne
theorem dec_same {s T : ByteArray} {i k : Nat} (hi : i < s.size) (h : Sub T k s) (hne : (Utf8.decode s i).1 ≠ 65533) : Utf8.decode T (k + i) = Utf8.decode s i := by
  have ht := h.le
  have g : ∀ m, i + m < s.size → T.get! (k + i + m) = s.get! (i + m) := fun m hm => by
    rw [Nat.add_assoc]; exact h.get _ hm
  have g0 := h.get i hi
  rw [decode_at] at hne ⊢
  rw [decode_at, g0]
  exact decodeN_same (by omega) (fun h => by rw [g 1 (by omega)]) (fun h => by rw [g 2 (by omega)]) (fun h => by rw [g 3 (by omega)]) hne
/-- A text that TextOk takes is characters that follow one another, wherever it stands. -/
theorem textOkN_cl {s T : ByteArray} {k : Nat} (h : Sub T k s) : ∀ (n p : Nat), s.size ≤ p + n → p ≤ s.size → textOkN s n p = true →
    ∃ cs, Cl T (k + p) cs (k + s.size) ∧ ∀ r ∈ cs, r ≠ 65533 ∧ r ≠ 0 ∧ r ≠ 65279 ∧ (r < 128 → ∃ j, j < s.size ∧ ((s.get! j).toNat : Int) = r) := by
  intro n
  induction n with
  | zero =>
    intro p h1 h2 _
    have : p = s.size := by omega
    subst this
    exact ⟨[], .nil, fun r hr => absurd hr List.not_mem_nil⟩
  | succ n ih =>
    intro p h1 h2 ho
    by_cases hp : p < s.size
    · simp only [textOkN, if_pos hp] at ho
      by_cases hb : badR (Utf8.decode s p).1 = true
      · rw [if_pos hb] at ho; cases ho
      · rw [if_neg hb] at ho
        have hb' : ((Utf8.decode s p).1 : Int) ≠ 65533 ∧ ((Utf8.decode s p).1 : Int) ≠ 0 ∧ ((Utf8.decode s p).1 : Int) ≠ 65279 := by
          unfold badR at hb
          simp only [Bool.or_eq_true, beq_iff_eq, not_or] at hb
          exact ⟨hb.1.1, hb.1.2, hb.2⟩
        have dp := dec_pos s p
        have dl := dec_le s p hp
        obtain ⟨cs, c1, c2⟩ := ih (p + (Utf8.decode s p).2) (by omega) dl ho
        have ds := dec_same hp h (by omega)
        have gp : T.get! (k + p) = s.get! p := h.get p hp
        have hT : k + p < T.size := by have := h.le; omega
        have hc : ChAt T (k + p) (Utf8.decode s p).1 (Utf8.decode s p).2 := by
          refine ⟨hT, ?_⟩
          rw [gp, ds]
          by_cases hb1 : (s.get! p).toNat < 128
          · have e : Utf8.decode s p = ((s.get! p).toNat, 1) := by
              have hb1' : (s.get! (p + 0)).toNat < 128 := hb1
              unfold Utf8.decode
              simp only [hb1', if_true]
              rfl
            rw [e] at hb'
            exact .inl ⟨hb1, by simp only at hb'; omega, by rw [e], by rw [e]⟩
          · exact .inr ⟨hb1, by omega, by omega, rfl, rfl⟩
        refine ⟨_ :: cs, .cons hc (by rw [Nat.add_assoc]; exact c1), fun r hr => ?_⟩
        rcases List.mem_cons.1 hr with rfl | hr
        · refine ⟨hb'.1, hb'.2.1, hb'.2.2, fun hlt => ⟨p, hp, ?_⟩⟩
          have := (hc.byte hlt).1
          rw [gp] at this
          exact this.symm
        · exact c2 r hr
    · have : p = s.size := by omega
      subst this
      exact ⟨[], .nil, fun r hr => absurd hr List.not_mem_nil⟩
theorem textOk_cl {s T : ByteArray} {k : Nat} (h : Sub T k s) (ho : textOkF s = true) :
    s.size ≤ 60 ∧ ∃ cs, Cl T k cs (k + s.size) ∧ ∀ r ∈ cs, r ≠ 65533 ∧ r ≠ 0 ∧ r ≠ 65279 ∧ (r < 128 → ∃ j, j < s.size ∧ ((s.get! j).toNat : Int) = r) := by
  unfold textOkF at ho
  simp only [Bool.and_eq_true, decide_eq_true_eq] at ho
  have := textOkN_cl h (s.size + 1) 0 (by omega) (Nat.zero_le _) ho.1
  exact ⟨ho.2, this⟩
end Sc
end Go.Proofs.YtogkcphobhhbdaaDoor

/- Plain: a text of one literal; texts put together. -/
namespace Go.Proofs.YtogkcphobhhbdaaDoor
open Go Go.RowKit Go.Lib
namespace Sc
open Ev
set_option maxRecDepth 100000

theorem app_list (a b : ByteArray) : (a ++ b).data.toList = a.data.toList ++ b.data.toList := by
  rw [ByteArray.data_append, Array.toList_append]
theorem app_size (a b : ByteArray) : (a ++ b).size = a.size + b.size := ByteArray.size_append
theorem get_left (a b : ByteArray) (i : Nat) (h : i < a.size) : (a ++ b).get! i = a.get! i := by
  rw [get_list, get_list, app_list]
  have hl : i < a.data.toList.length := by rw [size_toList]; exact h
  simp only [List.getD_eq_getElem?_getD]
  rw [List.getElem?_append_left hl]
theorem get_right (a b : ByteArray) (i : Nat) : (a ++ b).get! (a.size + i) = b.get! i := by
  rw [get_list, get_list, app_list]
  have hl : a.data.toList.length = a.size := size_toList a
  simp only [List.getD_eq_getElem?_getD]
  rw [List.getElem?_append_right (by omega), hl, Nat.add_sub_cancel_left]
theorem sub_self (a : ByteArray) : Sub a 0 a := ⟨by omega, fun j _ => by rw [Nat.zero_add]⟩
theorem Sub.left {T a : ByteArray} {k : Nat} (h : Sub T k a) (b : ByteArray) : Sub (T ++ b) k a := by
  have hl := h.le
  exact ⟨by rw [app_size]; omega, fun j hj => by rw [get_left _ _ _ (by omega)]; exact h.get j hj⟩
theorem Sub.right {T a : ByteArray} {k : Nat} (h : Sub T k a) (b : ByteArray) : Sub (b ++ T) (b.size + k) a := by
  have hl := h.le
  exact ⟨by rw [app_size]; omega, fun j hj => by rw [Nat.add_assoc, get_right]; exact h.get j hj⟩
theorem Sub.byte {T a : ByteArray} {k : Nat} (h : Sub T k a) {j : Nat} (hj : j < a.size) : T.get! (k + j) = a.get! j := h.get j hj
/-- A byte that is a sign of its own. -/
theorem Sub.chAt {T : ByteArray} {k : Nat} {b : UInt8} (h : Sub T k ⟨#[b]⟩) (h1 : b.toNat < 128) (h2 : b.toNat ≠ 0) : ChAt T k b.toNat 1 := by
  have e : T.get! (k + 0) = b := h.get 0 (by show 0 < 1; decide)
  rw [Nat.add_zero] at e
  have hl := h.le
  have hs : (⟨#[b]⟩ : ByteArray).size = 1 := rfl
  have := chAt_byte (src := T) (p := k) (by omega) (by rw [e]; exact h1) (by rw [e]; exact h2)
  rw [e] at this
  exact this

/-! A text of one literal. -/
/-- The text's only token, but for the semicolon that is put in, and the end. -/
structure One (src : ByteArray) (s : St) : Prop where
  toks : ∃ s2 s3, toks src 0 = [s, s2, s3] ∧ s2.tok = 18 ∧ s2.lit = wEOF ∧ s3.tok = 1
  notes : (last src 0).notes = []
def litW (T : ByteArray) (k : Int) : WTok := ⟨2, T, k, 0, 0⟩
theorem word_lit : (tokWord 3).toList = [108, 105, 116, 101, 114, 97, 108] := by kernel_rfl
theorem word_semi : (tokWord 18).toList = [59] := by kernel_rfl
theorem like_end {s : St} (h : s.tok = 1) : Like s endW := by
  refine ⟨?_, fun h => by cases h⟩
  rw [h]
  show toldF (tokWord 1) _ _ = (0, ⟨#[]⟩)
  unfold toldF
  rw [if_pos word_one]
theorem like_semi {s : St} (h : s.tok = 18) (h2 : s.lit = wEOF) : Like s semiW := by
  refine ⟨?_, fun h => by cases h⟩
  rw [h, h2]
  show toldF (tokWord 18) wEOF (opStr s.op) = (4, ⟨#[]⟩)
  unfold toldF
  have e : wEOF.toList = [69, 79, 70] := by kernel_rfl
  rw [word_semi, e]
  rfl
theorem like_lit {s : St} {k : Int} (h : s.tok = 3) (hk : s.kind = k) (hb : s.bad = false) (h0 : 0 ≤ k) (h9 : k ≤ 9) : Like s (litW s.lit k) := by
  refine ⟨?_, fun _ => ⟨by rw [hk]; show wrap64 k = k; unfold wrap64; omega, hb⟩⟩
  rw [h]
  show toldF (tokWord 3) s.lit (opStr s.op) = (2, s.lit)
  unfold toldF
  rw [word_lit]
  rfl
/-- What closed makes of one token that a semicolon follows. -/
theorem closed_one {t : WTok} (h : endsW t = true) : closedF [t] t = [t, semiW, endW] := by
  unfold closedF
  rw [if_pos h]
  rfl
theorem One.like {src : ByteArray} {s : St} {t : WTok} (h : One src s) (ht : Like s t) (he : endsW t = true) : LikeAll (Sc.toks src 0) (closedF [t] t) := by
  obtain ⟨s2, s3, e, h2, h2', h3⟩ := h.toks
  rw [e, closed_one he]
  refine ⟨rfl, fun i a b ha hb => ?_⟩
  match i, ha, hb with
  | 0, ha, hb => cases ha; cases hb; exact ht
  | 1, ha, hb => cases ha; cases hb; exact like_semi h2 h2'
  | 2, ha, hb => cases ha; cases hb; exact like_end h3
theorem ends_lit (T : ByteArray) (k : Int) : endsW (litW T k) = true := rfl

/-! A raw string. -/
theorem index_no {s : ByteArray} {c : UInt8} (h : ¬ (0 : Int) ≤ Lib.indexByte s.data.toList c) {j : Nat} (hj : j < s.size) : s.get! j ≠ c := by
  have h1 := Lib.indexByte_ge s.data.toList c
  have h2 : Lib.indexByte s.data.toList c = -1 := by omega
  have h3 := Lib.indexByte_none h2 j
  intro e
  apply h3
  rw [get_list] at e
  have hl : j < s.data.toList.length := by rw [size_toList]; exact hj
  rw [List.getElem?_eq_getElem hl]
  rw [List.getD_eq_getElem?_getD, List.getElem?_eq_getElem hl] at e
  simpa using e
def bq : ByteArray := ⟨#[96]⟩
theorem raw_law {s : ByteArray} (h : textOkF s = true) (hn : ¬ (0 : Int) ≤ Lib.indexByte s.data.toList 96) :
    LikeAll (Sc.toks (bq ++ s ++ bq) 0) (closedF [litW (bq ++ s ++ bq) 4] (litW (bq ++ s ++ bq) 4)) ∧ (last (bq ++ s ++ bq) 0).notes = [] := by
  have b1 : bq.size = 1 := rfl
  have sz : (bq ++ s ++ bq).size = s.size + 2 := by rw [app_size, app_size, b1]; omega
  have s1 : Sub (bq ++ s ++ bq) 1 s := ((sub_self s).right bq).left bq
  have s0 : Sub (bq ++ s ++ bq) 0 bq := ((sub_self bq).left s).left bq
  have s2 : Sub (bq ++ s ++ bq) (1 + s.size) bq := by
    have := (sub_self bq).right (bq ++ s)
    rw [app_size, b1, Nat.add_zero] at this
    exact this
  obtain ⟨hs, cs, c1, c2⟩ := textOk_cl s1 h
  have c0 : ChAt (bq ++ s ++ bq) 0 96 1 := s0.chAt (b := 96) (by decide) (by decide)
  have c3 : ChAt (bq ++ s ++ bq) (1 + s.size) 96 1 := s2.chAt (b := 96) (by decide) (by decide)
  obtain ⟨x, x2, x3, t1, ⟨t2, t3, t4, t5⟩, t6, t7, t8, t9⟩ := raw_tok (by omega) c0 c1 (fun r hr e => by
    subst e
    obtain ⟨j, hj, hj2⟩ := (c2 _ hr).2.2.2 (by decide)
    refine index_no hn hj (UInt8.toNat_inj.1 ?_)
    have : ((96 : UInt8).toNat : Int) = 96 := by decide
    omega) c3 (by omega)
  have hO : One (bq ++ s ++ bq) x := ⟨⟨x2, x3, t1, t6, t7, t8⟩, t9⟩
  have hL := like_lit (k := 4) t2 t4 t5 (by decide) (by decide)
  rw [t3] at hL
  exact ⟨hO.like hL (ends_lit _ _), t9⟩
end Sc
end Go.Proofs.YtogkcphobhhbdaaDoor

/- FnRaw walked: true at every text. -/
namespace Go.Proofs.YtogkcphobhhbdaaDoor
open Go Go.RowKit Go.Lib
namespace Sc
open Ev
set_option maxRecDepth 100000

theorem indexByte_walk (w : World) (s : ByteArray) (c : Int) : Calls Tryd.prog 18 #[.string s, .int .u8 c] w fun e w' => e = .returned (.int .i64 (Lib.indexByte s.data.toList c.toNat.toUInt8)) ∧ w' = w := by
  go_enter Tryd.func18, Tryd.ntmps18
  go_wp2_with (go_at_call 31; refine (Tryd.stringslite_IndexByte s c _).mono ?_; rintro en w' ⟨rfl, rfl⟩)
  exact ⟨rfl, _, one_res (k := 4) (by kernel_rfl) rfl, rfl, rfl⟩
/-- A row of one token that is wanted, just made. -/
theorem own_one (w : World) (t : WTok) : (w.alloc (.cells (wCells t).toArray 37)).ownsRow w.heap.size 37 5 (.slice (some ⟨w.heap.size, 0, none⟩) [t].length 1) [t].length (flat wCells [t]) :=
  ⟨rfl, .inr ⟨w.heap.size, 1, (wCells t).toArray, rfl, Nat.le_refl _, heap_alloc_new w _, Nat.le_refl _, by decide, rfl, by simp [flat, wCells]⟩⟩
/-- closed, of one token that is just made. -/
theorem closed_one_walk (w : World) (t : WTok) : Calls Tryd.prog 22 #[.slice (some ⟨w.heap.size, 0, none⟩) 1 1] (w.alloc (.cells (wCells t).toArray 37)) fun en w' => ∃ g cap b, en = .returned (.slice (some ⟨g, 0, none⟩) (closedF [t] t).length cap) ∧
      w'.ownsRow b 37 5 (.slice (some ⟨g, 0, none⟩) (closedF [t] t).length cap) (closedF [t] t).length (flat wCells (closedF [t] t)) ∧ Below w.heap.size w w' := by
  refine (closed_walk (W := [t]) (t := t) (j := 0) (own_one w t) rfl (by simp) rfl).mono ?_
  rintro en w' ⟨g, cap, rfl, h1, h2⟩
  exact ⟨g, cap, _, rfl, h1, below_old h2⟩
theorem glob_at {w w' : World} {ea : Addr} (h : Glob w ea) {B : Nat} (hB : Below B w w') (hw : B = w.heap.size) : Glob w' ea := by subst hw; exact glob_move h hB
set_option maxHeartbeats 3200000 in
theorem fnRaw_long {w : World} {s : ByteArray} (h : 150 < s.size) : Calls Tryd.prog 8 #[.string s] w fun en w' => en = .returned (.bool true) ∧ Below w.heap.size w w' := by
  have h1 : (150 : Int) < (s.size : Int) := by omega
  go_enter Tryd.func8, Tryd.ntmps8
  go_wp2_with fail
  all_goals exact ⟨rfl, _, one_res (k := 2) (by kernel_rfl) rfl, rfl, Below.refl _ _⟩
set_option maxHeartbeats 3200000 in
theorem fnRaw_walk {w : World} {ea : Addr} (s : ByteArray) (hG : Glob w ea) : Calls Tryd.prog 8 #[.string s] w fun en w' => en = .returned (.bool true) ∧ Below w.heap.size w w' := by
  by_cases h : 150 < s.size
  · exact fnRaw_long h
  have h1 : ¬ (150 : Int) < (s.size : Int) := by omega
  have h2 : ¬ (2147483647 : Int) < (s.size : Int) := by omega
  have hT := fun w => textOk_walk w s
  have hI := fun w => indexByte_walk w s 96
  rw [show (96 : Int).toNat.toUInt8 = 96 from rfl] at hI
  cases hb : textOkF s with
  | false =>
    rw [hb] at hT
    go_enter Tryd.func8, Tryd.ntmps8
    go_wp2_with (go_at_call 17; refine (hT _).mono ?_; rintro en w1 ⟨rfl, hB1⟩)
    exact ⟨rfl, _, one_res (k := 2) (by kernel_rfl) rfl, rfl, hB1⟩
  | true =>
    rw [hb] at hT
    by_cases hi : (0 : Int) ≤ Lib.indexByte s.data.toList 96
    · generalize Lib.indexByte s.data.toList 96 = ix at hI hi
      have hi' : ¬ ix < 0 := by omega
      go_enter Tryd.func8, Tryd.ntmps8
      go_wp2_with (first
        | (go_at_call 17; refine (hT _).mono ?_; rintro en w1 ⟨rfl, hB1⟩)
        | (go_at_call 18; refine (hI _).mono ?_; rintro en w2 ⟨rfl, rfl⟩))
      all_goals exact ⟨rfl, _, one_res (k := 2) (by kernel_rfl) rfl, by simp [hi], hB1⟩
    · obtain ⟨hA, h0⟩ := raw_law hb hi
      have hsz : (bq ++ s ++ bq).size ≤ 2048 := by
        rw [app_size, app_size]
        show 1 + s.size + 1 ≤ 2048
        omega
      unfold bq at hA h0 hsz
      have hC := fun w => closed_one_walk w (litW (⟨#[96]⟩ ++ s ++ ⟨#[96]⟩) 4)
      have hTo := fun w gw capw b1 hG => toldL_walk (w := w) (ea := ea) (gw := gw) (capw := capw) (b1 := b1) hG hsz hA h0
      clear hA h0
      generalize closedF [litW (⟨#[96]⟩ ++ s ++ ⟨#[96]⟩) 4] (litW (⟨#[96]⟩ ++ s ++ ⟨#[96]⟩) 4) = W at hC hTo
      generalize Lib.indexByte s.data.toList 96 = ix at hI hi
      go_enter Tryd.func8, Tryd.ntmps8
      go_wp2_with (first
        | (go_at_call 21; refine (hTo _ _ _ _ (glob_move (glob_move hG hB1) hB3) hrow).mono ?_; rintro en w4 ⟨rfl, hB4⟩)
        | (go_at_call 22; refine (hC _).mono ?_; rintro en w3 ⟨g, cap, b, rfl, hrow, hB3⟩)
        | (go_at_call 17; refine (hT _).mono ?_; rintro en w1 ⟨rfl, hB1⟩)
        | (go_at_call 18; refine (hI _).mono ?_; rintro en w2 ⟨rfl, rfl⟩))
      all_goals exact ⟨rfl, _, one_res (k := 2) (by kernel_rfl) rfl, rfl, hB1.trans (below_weak (hB3.trans (below_weak hB4 hB3.size)) hB1.size)⟩
end Sc
end Go.Proofs.YtogkcphobhhbdaaDoor

/- From the listed variables to what the scanner reads of them. -/
namespace Go.Proofs.YtogkcphobhhbdaaDoor
open Go Go.RowKit Go.Lib Go.Shelf
namespace Sc
set_option maxRecDepth 100000

/-- The numbers of this dump, for the library's laws on tables. -/
def tabRen : Go.Shelf.Ren := ⟨fun n => n, fun | 3 => 3 | 49 => 120 | 51 => 44 | 141 => 94 | 196 => 119 | 193 => 116 | 194 => 117 | 198 => 122 | 201 => 125 | 5 => 5 | 119 => 115 | 138 => 152 | 139 => 153 | n => n, fun | 3 => 7 | 4 => 8 | n => n⟩
theorem tabR : RTypes Tryd.prog tabRen := ⟨Tryd.underlying3, Tryd.underlying120, Tryd.underlying44, Tryd.underlying94, Tryd.underlying116, Tryd.underlying117, Tryd.underlying119, Tryd.underlying122, Tryd.underlying125⟩
theorem tabX : RExtra Tryd.prog tabRen := ⟨by kernel_rfl, by kernel_rfl, by kernel_rfl, by kernel_rfl, by kernel_rfl, by kernel_rfl, by kernel_rfl, by kernel_rfl⟩
theorem u8R : U8Types Tryd.prog tabRen := ⟨Tryd.underlying5, Tryd.underlying115, Tryd.underlying152, Tryd.underlying153⟩
theorem u8X : U8Extra Tryd.prog tabRen := ⟨by kernel_rfl, by kernel_rfl, by kernel_rfl, by kernel_rfl, by kernel_rfl, by kernel_rfl, by kernel_rfl⟩
theorem errRow (u : TypeId) (h : Tryd.prog.typeName? 3 u = some "*errors.errorString") : u = 167 :=
  typeName_ptr_named (nm := "errors.errorString") (by rw [show "*" ++ "errors.errorString" = "*errors.errorString" by rfl]; kernel_rfl) (by kernel_rfl) (by decide) u (by rw [show "*" ++ "errors.errorString" = "*errors.errorString" by rfl]; exact h)
theorem tab_cell {W : World} {name : String} {g : Nat} {t e : TypeId} {n : Nat} {zs : List Int} (hg : Tryd.prog.globalNamed name = some g) (hy : (Tryd.prog.globals[g]?).map (·.type) = some t) (ht : Tryd.prog.underlying t = some (.array n e)) (he : Tryd.prog.underlying e = some (.int .u8)) (hce : Tryd.prog.cellsOf e = 1) (hct : Tryd.prog.cellsOf t = n)
    (h : VarReads Tryd.prog W name (tabData .u8 zs)) : TabIs Tryd.prog W name .u8 zs := by
  obtain ⟨g', t', cs, fuel, p, hg', hty, hvar, hd⟩ := h
  obtain rfl := Option.some.inj (hg.symm.trans hg')
  obtain rfl := Option.some.inj (hy.symm.trans hty)
  have hcs := cells_of_tab ht he hce hct hd
  unfold TabIs
  rw [hvar, ← hcs]
def tokTab : List Int := [0, 3, 7, 14, 16, 19, 23, 24, 26, 28, 29, 30, 31, 32, 33, 34, 35, 36, 37, 38, 39, 42, 47, 51, 55, 60, 68, 75, 80, 84, 95, 98, 102, 104, 108, 110, 116, 125, 128, 135, 140, 146, 152, 158, 164, 168, 171, 171]
def opTab : List Int := [0, 1, 2, 4, 5, 7, 9, 11, 13, 14, 16, 17, 19, 20, 21, 22, 23, 24, 25, 26, 27, 29, 31, 33]
theorem glob_of {W : World} (h : laidMet Tryd.prog Rows.fnEndsRow.laid W) : ∃ ea, Glob W ea := by
  have rd : ∀ {n : String} {d : DataW Unit}, (n, d) ∈ Rows.fnEndsRow.laid → VarReads Tryd.prog W n d := fun hm => Lib.laidMet.reads h hm
  have h5 := h.tail.tail.tail.tail
  obtain ⟨ea, s, hv, _, _, _⟩ := laid_sentinel (n := "io.EOF") (nm := "*errors.errorString") (text := [69, 79, 70]) h5 (g := 6) (by kernel_rfl) (by kernel_rfl) Tryd.underlying75 errRow Tryd.underlying167 Tryd.underlying181 rfl rfl Tryd.underlying9 (by kernel_rfl) (by kernel_rfl)
  have mem : ∀ i x, Rows.fnEndsRow.laid[i]? = some x → x ∈ Rows.fnEndsRow.laid := fun i x hx => List.mem_of_getElem? hx
  have r3 := rd (mem 3 ("unicode/utf8.acceptRanges", Rows.laid_unicode_utf8_acceptRanges) rfl)
  have r6 := rd (mem 6 ("unicode.properties", Rows.laid_unicode_properties) rfl)
  have r7 := rd (mem 7 (_, Rows.laid_loop_example_pub_g03120_pub_gosyntax_Operator_index) rfl)
  have r8 := rd (mem 8 (_, Rows.laid_loop_example_pub_g03120_pub_gosyntax_token_index) rfl)
  have r9 := rd (mem 9 ("unicode.Digit", Rows.laid_unicode_Digit) rfl)
  have r10 := rd (mem 10 ("unicode.Letter", Rows.laid_unicode_Letter) rfl)
  have r11 := rd (mem 11 ("unicode/utf8.first", Rows.laid_unicode_utf8_first) rfl)
  have e3 : (Rows.laid_unicode_utf8_acceptRanges : DataW Unit) = acceptData := by kernel_rfl
  have e6 : (Rows.laid_unicode_properties : DataW Unit) = tabData .u8 propertiesTab := by kernel_rfl
  have e7 : (Rows.laid_loop_example_pub_g03120_pub_gosyntax_Operator_index : DataW Unit) = tabData .u8 opTab := by kernel_rfl
  have e8 : (Rows.laid_loop_example_pub_g03120_pub_gosyntax_token_index : DataW Unit) = tabData .u8 tokTab := by kernel_rfl
  rw [e3] at r3
  rw [e6] at r6
  rw [e7] at r7
  rw [e8] at r8
  have r9' : VarReads Tryd.prog W "unicode.Digit" (rtabData digitT) := Pinned.digit_eq ▸ r9
  have r10' : VarReads Tryd.prog W "unicode.Letter" (rtabData letterT) := Pinned.letter_eq ▸ r10
  have r11' : VarReads Tryd.prog W "unicode/utf8.first" firstData := Pinned.utf8First_eq ▸ r11
  have t7 := tab_cell (g := 2) (t := 114) (by kernel_rfl) (by kernel_rfl) Tryd.underlying114 Tryd.underlying5 (by kernel_rfl) (by kernel_rfl) r7
  have t8 := tab_cell (g := 1) (t := 113) (by kernel_rfl) (by kernel_rfl) Tryd.underlying113 Tryd.underlying5 (by kernel_rfl) (by kernel_rfl) r8
  have t6 := tab_cell (g := 4) (t := 115) (by kernel_rfl) (by kernel_rfl) Tryd.underlying115 Tryd.underlying5 (by kernel_rfl) (by kernel_rfl) r6
  have r1 := rd (mem 1 ("math/bits.deBruijn64tab", Rows.laid_math_bits_deBruijn64tab) rfl)
  refine ⟨ea, ?_, ?_, t6, ?_, ?_, ?_, ?_, ?_⟩
  · have := World.var?_cell (show Tryd.prog.globalNamed "io.EOF" = some 6 by kernel_rfl) hv 0
    simpa using this
  · exact utf8Tabs_of_readsT u8R u8X r11' r3
  · exact rvar_of_readsT tabR tabX (name := "unicode.Letter") (g := 5) (by kernel_rfl) (by kernel_rfl) r10'
  · exact rvar_of_readsT tabR tabX (name := "unicode.Digit") (g := 0) (by kernel_rfl) (by kernel_rfl) r9'
  · exact fun i hi => t8.cell (by kernel_rfl) i hi
  · exact fun i hi => t7.cell (by kernel_rfl) i hi
  · obtain ⟨g', t', cs, fuel, p, hg', hty, hvar, hd⟩ := r1
    obtain rfl := Option.some.inj ((show Tryd.prog.globalNamed "math/bits.deBruijn64tab" = some 12 by kernel_rfl).symm.trans hg')
    unfold World.var? at hvar
    rw [hg'] at hvar
    simp only [Option.bind_some] at hvar
    cases hh : W.heap[12]? with
    | none => rw [hh] at hvar; cases hvar
    | some o => exact (Array.getElem?_eq_some_iff.1 hh).1
end Sc
end Go.Proofs.YtogkcphobhhbdaaDoor
