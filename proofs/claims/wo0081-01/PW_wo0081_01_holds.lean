import PyProof.Rows.All
import Wide.All
import OpenK.AllK
import Wide.FinOn
import PySem.Challenge.RW_wo0081_01
open PySem PySem.W PyProof.Rows
set_option Elab.async false
set_option linter.unusedVariables false
set_option compiler.extract_closed false
set_option compiler.reuse false

set_option rowWalk.seconds 0
namespace Mine
theorem cheap {r : OpenRow} (K : Params → Frag) (hw : r.toRowW.promised) (hc : K = K → r.Holds) : r.Holds := hc rfl
section
local macro_rules | `(tactic| o_head (kHook $K $_ $_)) => `(tactic| refine Mine.cheap $K ?hw ?hc)
set_option maxRecDepth 100000 in
set_option maxHeartbeats 8000000 in
open_top hk for PySem.Challenge.rw_wo0081_01.row
end
noncomputable def V : Program := view PySem.Challenge.rw_wo0081_01.row.prog [0, 1, 3, 5, 6, 7, 9, 10, 11, 12, 13, 15, 16, 17, 19, 20, 21, 22, 23, 24, 25, 26, 27, 28, 29, 30, 31, 32]
theorem primer.tw16530149456418654567 : True := trivial
theorem primer.tw1560720249812581514 : True := trivial
theorem primer.tw12501295708771294048 : True := trivial
set_option Elab.async true
theorem primer : (V.main.futureAnnotations || true) = true := by first | k_qdec | rfl
set_option Elab.async false
theorem primed : (V.main.futureAnnotations || true) = true := primer
abbrev LawWalks (d : DefRec) (kwd : List (Str × Expr)) : Prop := WalkO V [Str.ofString "Whitespace", Str.ofString "_name_disallowed_re", Str.ofString "_value_disallowed_re"] (XL V []) (InK hk.heap_1) PySem.Challenge.rw_wo0081_01.row.toRowW d kwd fun f vs => PySem.call f vs
theorem walk_of {d0 : DefRec} {kwd0 : List (Str × Expr)} (h0 : defOf V PySem.Challenge.rw_wo0081_01.row.name = some (d0, kwd0)) (h : LawWalks d0 kwd0) : ∀ d kwd, defOf V PySem.Challenge.rw_wo0081_01.row.name = some (d, kwd) → LawWalks d kwd := by
  intro d kwd h1
  rw [h0] at h1
  cases h1
  exact h
end Mine

namespace Mine
theorem rs_A0_base : True := by w_top off; trivial
theorem gd9 {α : Type} {M : Model} {A : Around} {t : Sem α} {Q : α → Shared → Prop} {E : Value → Shared → Prop} {s : Shared} (h : wpAny M A t Q E s) : wpAny M A t Q E s := h
noncomputable abbrev LS : List Str := looseW Mine.V [Str.ofString "Whitespace", Str.ofString "_name_disallowed_re", Str.ofString "_value_disallowed_re"]
abbrev tup3 (i j k : Int) (ti tj tk : Tok) (n : Nat) : Obj := { cls := .type "tuple", data := .seq #[.int i ti, .int j tj, .int k tk] n }
/-- a place's letters -/
def nm (i j k : Int) : Str := Txt.mul (Str.ofString "a") i ++ Txt.mul (Str.ofString "b") j ++ Txt.mul (Str.ofString "c") k
theorem mul1_len {x : Str} {n : Int} (hx : x.length = 1) (h : n ≤ 4) : (Txt.mul x n).length ≤ 4 := by
  have := len_mul_k1 (n := n) hx
  split at this <;> omega
theorem nm_len {i j k : Int} (hi : i ≤ 4) (hj : j ≤ 4) (hk : k ≤ 4) : (nm i j k).length ≤ 12 := by
  have a := mul1_len (x := Str.ofString "a") (by decide +kernel) hi
  have b := mul1_len (x := Str.ofString "b") (by decide +kernel) hj
  have c := mul1_len (x := Str.ofString "c") (by decide +kernel) hk
  simp only [nm, Str.length_append]; omega
abbrev In4 (i : Int) : Prop := 0 ≤ i ∧ i ≤ 4
local macro_rules | `(tactic| k_mem) => `(tactic| first | (with_reducible assumption) | (with_reducible exact List.mem_cons_self) | (with_reducible refine' List.mem_cons_of_mem _ ?_; k_mem))
theorem strs_snoc {α : Type} {ys : List Value} {f : α → Str} {l : List α} {c : Nat} {b : α} {t : Tok} {x : Str} (h : StrsAre ys ((l.take c).map f)) (hb : l[c]? = some b) (e : x = f b) : StrsAre (ys ++ [.str x t]) ((l.take (c + 1)).map f) := by
  subst e
  rw [List.take_add_one, hb, List.map_append]
  exact StrsAre.append' h (.cons _ _ .nil)
theorem pair_item {j k : Int} {tj tl : Tok} {c : Nat} {v : Value} (h : ([Value.int j tj, Value.int k tl].toArray)[c]? = some v) : ∃ b t, v = .int b t ∧ [j, k][c]? = some b ∧ (b = j ∨ b = k) := by
  rcases c with _ | _ | c
  · cases h; exact ⟨_, _, rfl, rfl, .inl rfl⟩
  · cases h; exact ⟨_, _, rfl, rfl, .inr rfl⟩
  · cases h
theorem off1_mem {D : Addr} : ∀ {l : List (Addr × Obj)}, LCg.Off1 D l → ∀ p ∈ l, p.1 ≠ D
  | [], _, _, h => nomatch h
  | _ :: _, x, p, h => by
    rcases List.mem_cons.mp h with rfl | h
    · exact x.1
    · exact off1_mem x.2 p h
theorem cj0 {a d : Nat} {r : Prop} (h : @LT.lt Nat _ a d ∧ r) : @LT.lt Nat _ a d := h.1
theorem cj1 {x0 a d : Nat} {r : Prop} (h : @LT.lt Nat _ x0 d ∧ @LT.lt Nat _ a d ∧ r) : @LT.lt Nat _ a d := h.2.1
theorem cz1 {x0 a d : Nat} (h : @LT.lt Nat _ x0 d ∧ @LT.lt Nat _ a d) : @LT.lt Nat _ a d := h.2
theorem cj2 {x0 x1 a d : Nat} {r : Prop} (h : @LT.lt Nat _ x0 d ∧ @LT.lt Nat _ x1 d ∧ @LT.lt Nat _ a d ∧ r) : @LT.lt Nat _ a d := h.2.2.1
theorem cz2 {x0 x1 a d : Nat} (h : @LT.lt Nat _ x0 d ∧ @LT.lt Nat _ x1 d ∧ @LT.lt Nat _ a d) : @LT.lt Nat _ a d := h.2.2
theorem cj3 {x0 x1 x2 a d : Nat} {r : Prop} (h : @LT.lt Nat _ x0 d ∧ @LT.lt Nat _ x1 d ∧ @LT.lt Nat _ x2 d ∧ @LT.lt Nat _ a d ∧ r) : @LT.lt Nat _ a d := h.2.2.2.1
theorem cz3 {x0 x1 x2 a d : Nat} (h : @LT.lt Nat _ x0 d ∧ @LT.lt Nat _ x1 d ∧ @LT.lt Nat _ x2 d ∧ @LT.lt Nat _ a d) : @LT.lt Nat _ a d := h.2.2.2
theorem cj4 {x0 x1 x2 x3 a d : Nat} {r : Prop} (h : @LT.lt Nat _ x0 d ∧ @LT.lt Nat _ x1 d ∧ @LT.lt Nat _ x2 d ∧ @LT.lt Nat _ x3 d ∧ @LT.lt Nat _ a d ∧ r) : @LT.lt Nat _ a d := h.2.2.2.2.1
theorem cz4 {x0 x1 x2 x3 a d : Nat} (h : @LT.lt Nat _ x0 d ∧ @LT.lt Nat _ x1 d ∧ @LT.lt Nat _ x2 d ∧ @LT.lt Nat _ x3 d ∧ @LT.lt Nat _ a d) : @LT.lt Nat _ a d := h.2.2.2.2
theorem cj5 {x0 x1 x2 x3 x4 a d : Nat} {r : Prop} (h : @LT.lt Nat _ x0 d ∧ @LT.lt Nat _ x1 d ∧ @LT.lt Nat _ x2 d ∧ @LT.lt Nat _ x3 d ∧ @LT.lt Nat _ x4 d ∧ @LT.lt Nat _ a d ∧ r) : @LT.lt Nat _ a d := h.2.2.2.2.2.1
theorem cz5 {x0 x1 x2 x3 x4 a d : Nat} (h : @LT.lt Nat _ x0 d ∧ @LT.lt Nat _ x1 d ∧ @LT.lt Nat _ x2 d ∧ @LT.lt Nat _ x3 d ∧ @LT.lt Nat _ x4 d ∧ @LT.lt Nat _ a d) : @LT.lt Nat _ a d := h.2.2.2.2.2
theorem cj6 {x0 x1 x2 x3 x4 x5 a d : Nat} {r : Prop} (h : @LT.lt Nat _ x0 d ∧ @LT.lt Nat _ x1 d ∧ @LT.lt Nat _ x2 d ∧ @LT.lt Nat _ x3 d ∧ @LT.lt Nat _ x4 d ∧ @LT.lt Nat _ x5 d ∧ @LT.lt Nat _ a d ∧ r) : @LT.lt Nat _ a d := h.2.2.2.2.2.2.1
theorem cz6 {x0 x1 x2 x3 x4 x5 a d : Nat} (h : @LT.lt Nat _ x0 d ∧ @LT.lt Nat _ x1 d ∧ @LT.lt Nat _ x2 d ∧ @LT.lt Nat _ x3 d ∧ @LT.lt Nat _ x4 d ∧ @LT.lt Nat _ x5 d ∧ @LT.lt Nat _ a d) : @LT.lt Nat _ a d := h.2.2.2.2.2.2
theorem cj7 {x0 x1 x2 x3 x4 x5 x6 a d : Nat} {r : Prop} (h : @LT.lt Nat _ x0 d ∧ @LT.lt Nat _ x1 d ∧ @LT.lt Nat _ x2 d ∧ @LT.lt Nat _ x3 d ∧ @LT.lt Nat _ x4 d ∧ @LT.lt Nat _ x5 d ∧ @LT.lt Nat _ x6 d ∧ @LT.lt Nat _ a d ∧ r) : @LT.lt Nat _ a d := h.2.2.2.2.2.2.2.1
theorem cz7 {x0 x1 x2 x3 x4 x5 x6 a d : Nat} (h : @LT.lt Nat _ x0 d ∧ @LT.lt Nat _ x1 d ∧ @LT.lt Nat _ x2 d ∧ @LT.lt Nat _ x3 d ∧ @LT.lt Nat _ x4 d ∧ @LT.lt Nat _ x5 d ∧ @LT.lt Nat _ x6 d ∧ @LT.lt Nat _ a d) : @LT.lt Nat _ a d := h.2.2.2.2.2.2.2
theorem cj8 {x0 x1 x2 x3 x4 x5 x6 x7 a d : Nat} {r : Prop} (h : @LT.lt Nat _ x0 d ∧ @LT.lt Nat _ x1 d ∧ @LT.lt Nat _ x2 d ∧ @LT.lt Nat _ x3 d ∧ @LT.lt Nat _ x4 d ∧ @LT.lt Nat _ x5 d ∧ @LT.lt Nat _ x6 d ∧ @LT.lt Nat _ x7 d ∧ @LT.lt Nat _ a d ∧ r) : @LT.lt Nat _ a d := h.2.2.2.2.2.2.2.2.1
theorem cz8 {x0 x1 x2 x3 x4 x5 x6 x7 a d : Nat} (h : @LT.lt Nat _ x0 d ∧ @LT.lt Nat _ x1 d ∧ @LT.lt Nat _ x2 d ∧ @LT.lt Nat _ x3 d ∧ @LT.lt Nat _ x4 d ∧ @LT.lt Nat _ x5 d ∧ @LT.lt Nat _ x6 d ∧ @LT.lt Nat _ x7 d ∧ @LT.lt Nat _ a d) : @LT.lt Nat _ a d := h.2.2.2.2.2.2.2.2
theorem cj9 {x0 x1 x2 x3 x4 x5 x6 x7 x8 a d : Nat} {r : Prop} (h : @LT.lt Nat _ x0 d ∧ @LT.lt Nat _ x1 d ∧ @LT.lt Nat _ x2 d ∧ @LT.lt Nat _ x3 d ∧ @LT.lt Nat _ x4 d ∧ @LT.lt Nat _ x5 d ∧ @LT.lt Nat _ x6 d ∧ @LT.lt Nat _ x7 d ∧ @LT.lt Nat _ x8 d ∧ @LT.lt Nat _ a d ∧ r) : @LT.lt Nat _ a d := h.2.2.2.2.2.2.2.2.2.1
theorem cz9 {x0 x1 x2 x3 x4 x5 x6 x7 x8 a d : Nat} (h : @LT.lt Nat _ x0 d ∧ @LT.lt Nat _ x1 d ∧ @LT.lt Nat _ x2 d ∧ @LT.lt Nat _ x3 d ∧ @LT.lt Nat _ x4 d ∧ @LT.lt Nat _ x5 d ∧ @LT.lt Nat _ x6 d ∧ @LT.lt Nat _ x7 d ∧ @LT.lt Nat _ x8 d ∧ @LT.lt Nat _ a d) : @LT.lt Nat _ a d := h.2.2.2.2.2.2.2.2.2
theorem cj10 {x0 x1 x2 x3 x4 x5 x6 x7 x8 x9 a d : Nat} {r : Prop} (h : @LT.lt Nat _ x0 d ∧ @LT.lt Nat _ x1 d ∧ @LT.lt Nat _ x2 d ∧ @LT.lt Nat _ x3 d ∧ @LT.lt Nat _ x4 d ∧ @LT.lt Nat _ x5 d ∧ @LT.lt Nat _ x6 d ∧ @LT.lt Nat _ x7 d ∧ @LT.lt Nat _ x8 d ∧ @LT.lt Nat _ x9 d ∧ @LT.lt Nat _ a d ∧ r) : @LT.lt Nat _ a d := h.2.2.2.2.2.2.2.2.2.2.1
theorem cz10 {x0 x1 x2 x3 x4 x5 x6 x7 x8 x9 a d : Nat} (h : @LT.lt Nat _ x0 d ∧ @LT.lt Nat _ x1 d ∧ @LT.lt Nat _ x2 d ∧ @LT.lt Nat _ x3 d ∧ @LT.lt Nat _ x4 d ∧ @LT.lt Nat _ x5 d ∧ @LT.lt Nat _ x6 d ∧ @LT.lt Nat _ x7 d ∧ @LT.lt Nat _ x8 d ∧ @LT.lt Nat _ x9 d ∧ @LT.lt Nat _ a d) : @LT.lt Nat _ a d := h.2.2.2.2.2.2.2.2.2.2
theorem cj11 {x0 x1 x2 x3 x4 x5 x6 x7 x8 x9 x10 a d : Nat} {r : Prop} (h : @LT.lt Nat _ x0 d ∧ @LT.lt Nat _ x1 d ∧ @LT.lt Nat _ x2 d ∧ @LT.lt Nat _ x3 d ∧ @LT.lt Nat _ x4 d ∧ @LT.lt Nat _ x5 d ∧ @LT.lt Nat _ x6 d ∧ @LT.lt Nat _ x7 d ∧ @LT.lt Nat _ x8 d ∧ @LT.lt Nat _ x9 d ∧ @LT.lt Nat _ x10 d ∧ @LT.lt Nat _ a d ∧ r) : @LT.lt Nat _ a d := h.2.2.2.2.2.2.2.2.2.2.2.1
theorem cz11 {x0 x1 x2 x3 x4 x5 x6 x7 x8 x9 x10 a d : Nat} (h : @LT.lt Nat _ x0 d ∧ @LT.lt Nat _ x1 d ∧ @LT.lt Nat _ x2 d ∧ @LT.lt Nat _ x3 d ∧ @LT.lt Nat _ x4 d ∧ @LT.lt Nat _ x5 d ∧ @LT.lt Nat _ x6 d ∧ @LT.lt Nat _ x7 d ∧ @LT.lt Nat _ x8 d ∧ @LT.lt Nat _ x9 d ∧ @LT.lt Nat _ x10 d ∧ @LT.lt Nat _ a d) : @LT.lt Nat _ a d := h.2.2.2.2.2.2.2.2.2.2.2
theorem lt_room {a b c L : Nat} (h : a + c < L) (hb : Nat.ble b c = true) : a + b < L := Nat.lt_of_le_of_lt (Nat.add_le_add_left (Nat.le_of_ble_eq_true hb) a) h
theorem lt_room0 {a c L : Nat} (h : a + c < L) : a < L := Nat.lt_of_le_of_lt (Nat.le_add_right a c) h
local macro_rules | `(tactic| walk_at "lt9") => `(tactic| first | (with_reducible assumption) | (refine' cj0 (by with_reducible assumption)) | (refine' cj1 (by with_reducible assumption)) | (refine' cz1 (by with_reducible assumption)) | (refine' cj2 (by with_reducible assumption)) | (refine' cz2 (by with_reducible assumption)) | (refine' cj3 (by with_reducible assumption)) | (refine' cz3 (by with_reducible assumption)) | (refine' cj4 (by with_reducible assumption)) | (refine' cz4 (by with_reducible assumption)) | (refine' cj5 (by with_reducible assumption)) | (refine' cz5 (by with_reducible assumption)) | (refine' cj6 (by with_reducible assumption)) | (refine' cz6 (by with_reducible assumption)) | (refine' cj7 (by with_reducible assumption)) | (refine' cz7 (by with_reducible assumption)) | (refine' cj8 (by with_reducible assumption)) | (refine' cz8 (by with_reducible assumption)) | (refine' cj9 (by with_reducible assumption)) | (refine' cz9 (by with_reducible assumption)) | (refine' cj10 (by with_reducible assumption)) | (refine' cz10 (by with_reducible assumption)) | (refine' cj11 (by with_reducible assumption)) | (refine' cz11 (by with_reducible assumption)))
theorem lt_room1 {a b c L : Nat} (h : a + c < L) (hb : Nat.ble (1 + b) c = true) : a + 1 + b < L := by
  rw [Nat.add_assoc]; exact lt_room h hb
theorem nx1 {a : Nat} : a ≠ a + 1 := by omega
theorem nx2 {a : Nat} : a ≠ a + 1 + 1 := by omega
theorem nx3 {a : Nat} : a ≠ a + 1 + 1 + 1 := by omega
theorem nx4 {a : Nat} : a ≠ a + 1 + 1 + 1 + 1 := by omega
theorem ny1 {a : Nat} : a + 1 ≠ a := by omega
theorem ny2 {a : Nat} : a + 1 + 1 ≠ a := by omega
theorem ny3 {a : Nat} : a + 1 + 1 + 1 ≠ a := by omega
theorem ny4 {a : Nat} : a + 1 + 1 + 1 + 1 ≠ a := by omega
local macro_rules | `(tactic| k_ne) => `(tactic| (refine neN ?_; (try dsimp only); first | (with_reducible first | assumption | exact nx1 | exact nx2 | exact nx3 | exact nx4 | exact ny1 | exact ny2 | exact ny3 | exact ny4) | (refine' Ne.symm (by with_reducible assumption)) | (refine' Nat.ne_of_gt ?_; walk_at "lt9") | (refine' Nat.ne_of_lt ?_; walk_at "lt9") | omega))
local macro_rules | `(tactic| ktr_room) => `(tactic| first | (with_reducible assumption) | (refine' lt_room1 (by with_reducible assumption) (by exact rfl)) | (refine' lt_room (by with_reducible assumption) (by exact rfl)) | exact Nat.le_of_ble_eq_true rfl | ((try simp only [depth_under_make, depth_under_kw, depth_in1, depth_deeper, depth_caller]); (try dsimp only [ktrTop]); (try simp only [Nat.add_assoc, Nat.reduceAdd]); first | (with_reducible assumption) | (refine' lt_room0 (by with_reducible assumption)) | (refine' lt_room (by with_reducible assumption) (by exact rfl))))
local macro_rules | `(tactic| ktr_units) => `(tactic| first | (with_reducible assumption) | (refine' lt_room (by with_reducible assumption) (by exact rfl)) | exact Nat.le_of_ble_eq_true rfl | ((try simp only [units_under_make, units_in1, units_deeper, Around.mark_units, units_caller]); (try dsimp only [ktrTop]); (try simp only [Nat.add_assoc, Nat.reduceAdd]); first | (with_reducible assumption) | (refine' lt_room0 (by with_reducible assumption)) | (refine' lt_room (by with_reducible assumption) (by exact rfl))))
local macro_rules | `(tactic| walk_at "sub") => `(tactic| first | (with_reducible exact fun _ h9 => h9) | exact List.forall_mem_nil _ | ((with_reducible refine' List.forall_mem_cons.mpr ⟨?a9, ?b9⟩); (case a9 => k_mem); (case b9 => walk_at "sub")) | (intro q9 hq9; repeat (first | exact hq9 | refine List.mem_cons_of_mem _ ?_)))
theorem tup_item {prog : Program} {w : World} {A : Around} {E : Value → Shared → Prop} {s : Shared} {h₀ : Heap} {L : Addr} {news : List (Addr × Obj)} {value slice : Expr} {t : Addr} {l : List Value} {c : Nat} {dd : Option Addr} {sl : Array (Option Value)} {k : Int} {u : Tok} {j : Nat} {x : Value} {Q : Value → Shared → Prop}
    (N : News h₀ L s.heap news) (hm : (t, (⟨.type "tuple", dd, .seq l.toArray c, sl⟩ : Obj)) ∈ news)
    (hlo : -(2 ^ 63) ≤ k) (hhi : k < 2 ^ 63) (hj : seqIndex? k l.length = some j) (hx : l[j]? = some x) (h : Q x s)
    (hs : subscripted slice false (.ref t) (.int k u) = operate [.ref t, .int k u] (getItem (.ref t) (.int k u)) := by with_unfolding_all rfl) :
    wpAny (model prog w) A (subscriptTail value slice (.ref t) (.int k u)) Q E s := item_tupleT (News.isTup N hm) hlo hhi hj hx h hs
theorem lst_item {prog : Program} {w : World} {A : Around} {E : Value → Shared → Prop} {s : Shared} {h₀ : Heap} {L : Addr} {news : List (Addr × Obj)} {value slice : Expr} {t : Addr} {its : Array Value} {c : Nat} {dd : Option Addr} {sl : Array (Option Value)} {k : Int} {u : Tok} {x : Value} {Q : Value → Shared → Prop}
    (N : News h₀ L s.heap news) (hm : (t, (⟨.type "list", dd, .seq its c, sl⟩ : Obj)) ∈ news)
    (hlo : 0 ≤ k) (hhi : k < 2 ^ 63) (hx : its[k.toNat]? = some x) (h : Q x s)
    (hs : subscripted slice false (.ref t) (.int k u) = operate [.ref t, .int k u] (getItem (.ref t) (.int k u)) := by with_unfolding_all rfl) :
    wpAny (model prog w) A (subscriptTail value slice (.ref t) (.int k u)) Q E s :=
  have hl : s.heap.IsList t its := News.isList N hm
  tail_any hl.typeIs slot_list_getitem.lookup (wpAny_getItem_list hl hlo hhi hx h) hs
local macro_rules | `(tactic| k_in) => `(tactic| (k_whole; with_reducible assumption))
local macro_rules | `(tactic| k_room) => `(tactic| ktr_room)
local macro_rules | `(tactic| units_room) => `(tactic| ktr_units)
section
variable {prog : Program} {w : World} {A A₀ : Around} {s : Shared} {K : Frag} {L : Addr} {h₀ base : Heap} {m mg mb : Str → Option Value} {muts : List (Addr × Obj)} {p : Program} {loose : List Str} {mean : ExcName → Option Value}
open PySem.Calls in
/-- a def's call, its ledger a part of the caller's; all else that stands is of the callee's ground -/
theorem code_defG {env : Env} {outer : List Env} {R : Result → Shared → Prop} {name qual : Str} {params : Arguments} {body : List Stmt} {scope : Scope} {dV kV doc pm cdv ct oc : Value} {an od : Option Addr} {osl : Array (Option Value)} {f : Addr} {args : Args} {binds : List (Str × Value)}
    (B : Below A₀ base outer h₀) (F : Fr h₀ L s.heap m) (X₀ : K.In h₀) (N : News h₀ L s.heap muts) (T : Top p loose mean mg mb h₀) (hA : A.frames = some (env :: outer)) (hf : env.frame = some L) (hke : env.scope.kind = .function)
    (ho : K.lookup f = some ⟨oc, od, .func (fnOf name qual params body scope dV kV doc pm an cdv ct), osl⟩) (hcd : codeIn K cdv qual = true) (hroom : A.depth < recursionLimit)
    (hbind : BindsTo s (fnOf name qual params body scope dV kV doc pm an cdv ct) args binds) (hloc : ∀ y ∈ binds, scope.names.lookup y.1 = some .local)
    (h : ∀ g L' h₁, Fr h₀ L g m → Fr g L' h₁ (fun y => binds.reverse.lookup y) → News g L' h₁ muts → Below A base (env :: outer) g → K.In g → Top p loose mean mg mb g →
      (∀ b o, s.heap.get? b = some o → b ∉ muts.map (·.1) → g.get? b = some o) → (∀ p ∈ muts, p.1 < L') →
      wpAny (model prog w) (A.deeper (envOf qual scope L' f cdv)) (execs body (envOf qual scope L' f cdv))
        (fun fl s' => LeaveK h₀ L m g R (match fl with | .ret v => v | _ => .none) s')
        (fun e s' => wpAny (model prog w) (A.deeper (envOf qual scope L' f cdv)) (leaving (envOf qual scope L' f cdv) e) (fun _ s'' => R (.error e) s'') (fun e' s'' => R (.error e') s'') s')
        { s with heap := h₁, toks := s.toks + binds.length })
    (hco : scope.isCoroutine = false) (hgen : scope.isGenerator = false) (hk : scope.kind = .function)
    (hcell : ∀ x ∈ scope.names, x.2 ≠ .cell) : codeAny (model prog w) A (.call (.ref f) args) R s := by
  obtain ⟨FG, BG, st, lv⟩ := groundX (R := R) B F N hA hf hke
  refine codeAny_call_def (fd := fnOf name qual params body scope dV kV doc pm an cdv ct) (body := body) (binds := binds) hroom ((X₀.keeps F.keep) _ _ ho) rfl ((T.keeps F.keep).nolimit) (codeRec_of (X₀.keeps F.keep) hcd) rfl hbind hcell hloc (fun h₁ hns hk₁ => ?_) hco hgen hk
  exact wpAny_mono (h _ s.heap.objs.size h₁ FG ⟨hns, fun b o e => hk₁ b o (of_hideAll _ e), Nat.le_of_eq (hideAll_size _ _)⟩
    (fun p hp => ⟨hk₁ _ _ (N p hp).1, Nat.ne_of_lt (Heap.lt_size (N p hp).1), hideAll_none _ (List.mem_map_of_mem hp)⟩) BG (X₀.keeps st) (T.keeps st) (fun b o e n => hideAll_get _ e n) (fun p hp => Heap.lt_size (N p hp).1)) (fun fl s' hl => lv _ _ hl) fun _ _ y => y
end
theorem keep_nil {h g : Heap} (k : ∀ b o, h.get? b = some o → b ∉ ([] : List (Addr × Obj)).map (·.1) → g.get? b = some o) : ∀ b o, h.get? b = some o → g.get? b = some o := fun b o e => k b o e (by simp)
theorem news_up {h₀ h h' : Heap} {L : Addr} {news : List (Addr × Obj)} (N : News h₀ L h news) (k : ∀ b o, h.get? b = some o → h'.get? b = some o) : News h₀ L h' news := fun p hp => ⟨k _ _ (N p hp).1, (N p hp).2⟩
theorem news_app {h₀ h : Heap} {L : Addr} {a b : List (Addr × Obj)} (N : News h₀ L h a) (M : News h₀ L h b) : News h₀ L h (a ++ b) := fun p hp => (List.mem_append.mp hp).elim (N p) (M p)
theorem news_fresh {h₀ h h' g : Heap} {L L' : Addr} {news own : List (Addr × Obj)} (N : News h₀ L h news) (k : ∀ b o, h.get? b = some o → g.get? b = some o) (N' : News g L' h' own) : ∀ q ∈ news, ∀ p ∈ own, q.1 ≠ p.1 := fun q hq p hp e => by
  have a := k _ _ (N q hq).1
  rw [e, (N' p hp).2.2] at a; cases a
theorem fr_known {h₀ h : Heap} {L : Addr} {m : Str → Option Value} (F : Fr h₀ L h m) (l : List (Str × Value)) (hl : ∀ p ∈ l, m p.1 = some p.2) : Fr h₀ L h (fun y => match l.lookup y with | some v => some v | none => m y) := by
  have e : (fun y => match l.lookup y with | some v => some v | none => m y) = m := by
    funext y
    cases q : l.lookup y with
    | none => rfl
    | some v =>
      have : (y, v) ∈ l := by
        clear hl
        induction l with
        | nil => cases q
        | cons p r ih =>
          rw [List.lookup_cons] at q
          by_cases hy : (y == p.1) = true
          · rw [hy] at q; cases q; rw [beq_iff_eq.mp hy]; exact List.mem_cons_self
          · simp only [Bool.not_eq_true] at hy; rw [hy] at q; exact List.mem_cons_of_mem _ (ih q)
      exact (hl _ this).symm
  rw [e]; exact F
abbrev ent (w : World) (name : Str) (t : Tok) (v : Value) : DictEntry := ⟨PyData.keyHash w.params name, .str name t, v⟩
theorem news_off {h' g : Heap} {L' : Addr} {news own : List (Addr × Obj)} (hg : ∀ q ∈ news, g.get? q.1 = some q.2) (N' : News g L' h' own) : ∀ q ∈ news, ∀ p ∈ own, q.1 ≠ p.1 := fun q hq p hp e => by
  have a := hg q hq
  rw [e, (N' p hp).2.2] at a; cases a
section
variable {prog : Program} {w : World} {A : Around} {E : Value → Shared → Prop} {s : Shared} {h₀ : Heap} {L : Addr} {news : List (Addr × Obj)} {dd : Option Addr} {sl : Array (Option Value)}
theorem lenL {D : Addr} {its : Array Value} {c n : Nat} {Q : Value → Shared → Prop} (N : News h₀ L s.heap news) (hm : (D, (⟨.type "list", dd, .seq its c, sl⟩ : Obj)) ∈ news) (hs : its.size = n) (hf : n < 100000) (h : Q (.int (n : Nat) (s.toks + 1)) { s with toks := s.toks + 1 + 1 }) :
    wpAny (model prog w) A (call (.builtin "len") [.ref D]) Q E s := by
  refine Calls.call_len_list (News.isList N hm) (by omega) ?_
  rw [hs]; exact h
theorem lenT {D : Addr} {its : Array Value} {c n : Nat} {Q : Value → Shared → Prop} (N : News h₀ L s.heap news) (hm : (D, (⟨.type "tuple", dd, .seq its c, sl⟩ : Obj)) ∈ news) (hs : its.size = n) (hf : n < 100000) (h : Q (.int (n : Nat) (s.toks + 1)) { s with toks := s.toks + 1 + 1 }) :
    wpAny (model prog w) A (call (.builtin "len") [.ref D]) Q E s := by
  refine PyProof.Rows.len_tuple (News.isTup N hm) (by omega) ?_
  rw [hs]; exact h
theorem ints_size {vs : List Value} {ns : List Int} (h : IntsAre vs ns) : vs.toArray.size = ns.length := by simp [h.length]
theorem strs_size {vs : List Value} {ns : List Str} (h : StrsAre vs ns) : vs.toArray.size = ns.length := by simp [StrsAre.length h]
theorem tup_int {value slice : Expr} {t : Addr} {vs : List Value} {ns : List Int} {c : Nat} {k : Int} {u : Tok} {Q : Value → Shared → Prop} (N : News h₀ L s.heap news) (hm : (t, (⟨.type "tuple", dd, .seq vs.toArray c, sl⟩ : Obj)) ∈ news) (hi : IntsAre vs ns)
    (h0 : 0 ≤ k) (h1 : k < ns.length) (hf : ns.length < 100000) (h : ∀ t', Q (.int (ns.getD k.toNat 0) t') s)
    (hs : subscripted slice false (.ref t) (.int k u) = operate [.ref t, .int k u] (getItem (.ref t) (.int k u)) := by with_unfolding_all rfl) :
    wpAny (model prog w) A (subscriptTail value slice (.ref t) (.int k u)) Q E s := by
  have hlt : k.toNat < ns.length := by omega
  obtain ⟨t', ht'⟩ := hi.get k.toNat (ns.getD k.toNat 0) (by simp [List.getD, hlt])
  refine item_tupleT (l := vs) (News.isTup N hm) (by omega) (by omega) ?_ ht' (h t') hs
  have hl := hi.length
  unfold seqIndex?
  have e : (if k < 0 then k + (vs.length : Int) else k) = k := if_neg (by omega)
  simp only [e]
  exact if_pos (by simp only [Bool.and_eq_true, decide_eq_true_eq]; omega)
end
theorem news_ro {h₀ h g h' : Heap} {L L' : Addr} {news own : List (Addr × Obj)} (N : News h₀ L h news) (hown : ∀ p ∈ own, p ∈ news) (SK : ∀ b o, h.get? b = some o → b ∉ own.map (·.1) → g.get? b = some o)
    (hk : ∀ b o, g.get? b = some o → h'.get? b = some o) (N9 : News g L' h' own) : News h₀ L h' news := fun p hp => ⟨by
  by_cases e : p.1 ∈ own.map (·.1)
  · obtain ⟨q, hq, hqp⟩ := List.mem_map.mp e
    have a := (N q (hown q hq)).1
    have b := (N p hp).1
    rw [hqp, b] at a
    have c := (N9 q hq).1
    rw [hqp] at c; rw [c]; exact a.symm
  · exact hk _ _ (SK _ _ (N p hp).1 e), (N p hp).2⟩
theorem range_sz {a b : Int} : Builtin.Range.rangeSize a b 1 = (((b - a).toNat : Nat) : Int) := by
  rw [Builtin.Range.rangeSize, if_pos (by decide)]
  split <;> omega
local macro_rules | `(tactic| mul_fits) => `(tactic| (exact PySem.IntMulOk.of_left (PySem.intBits_le_64 (by omega) (by omega))))
local macro_rules | `(tactic| mul_fits) => `(tactic| (exact PySem.IntMulOk.of_right (PySem.intBits_le_64 (by omega) (by omega))))

theorem rs_A0i_iter : True := by w_top off; trivial
open PyProof.Rows.LCg PyProof.Rows.LCt PySem.Calls in
section
variable {prog : Program} {w : World} {A : Around} {E : Value → Shared → Prop} {s : Shared} {h₀ : Heap} {L : Addr} {m : Str → Option Value} {env : Env}
/-- what a source of turns is: its iterator is one new object, and stands as long as S holds of the ledger -/
def IterSrc (prog : Program) (w : World) (A : Around) (h₀ : Heap) (L : Addr) (xv : Value) (s₁ : Shared) (n : Nat) (P : Nat → Value → Prop) (S : List (Addr × Obj) → Prop) : Prop :=
  ∀ (Q : Value → Shared → Prop) (E : Value → Shared → Prop),
    (∀ (o : Obj) (fp : List Addr) (St : Nat → Heap → Prop), o.isFreed = false → Walks prog w A s₁.heap.objs.size fp [s₁.heap.objs.size] n P St → St 0 (s₁.heap.push o) →
      (∀ b ∈ fp, b < s₁.heap.objs.size + 1) → (∀ b ∈ fp, b = s₁.heap.objs.size ∨ (∃ q, h₀.get? b = some q) ∨ (b ≠ L ∧ ∃ q, ∀ nw, S nw → (b, q) ∈ nw)) → (∀ i h, St i h → ∃ o', h.get? s₁.heap.objs.size = some o') →
      (∀ i h h' o' nw, St i h → h.get? s₁.heap.objs.size = some o' → h'.get? s₁.heap.objs.size = some o' → (∀ b o, h₀.get? b = some o → h'.get? b = some o) → News h₀ L h' nw → S nw → St i h') →
      Q (.ref s₁.heap.objs.size) { s₁ with heap := s₁.heap.push o }) → wpAny (model prog w) A (pyIter xv) Q E s₁

theorem iter_str {x : Str} {t : Tok} (hh : A.handled = none) : IterSrc prog w A h₀ L (.str x t) s x.cps.size (SignAt x) (fun _ => True) := by
  intro Q E h
  cases ha : x.cps.all (· < 128)
  · refine wpAny_pyIter_wide ha (h _ [s.heap.objs.size] _ rfl (Walks.strWide hh _ x t) ⟨_, Heap.get?_push_size _ rfl, rfl, rfl⟩ ?_ ?_ (fun i h st => by obtain ⟨o, e, _⟩ := st; exact ⟨o, e⟩) ?_)
    · intro b hb; rw [List.mem_singleton.mp hb]; exact Nat.lt_succ_self _
    · intro b hb; exact .inl (List.mem_singleton.mp hb)
    · intro i h h' o' nw st e e' _ _ _; obtain ⟨o, q, r⟩ := st; rw [e] at q; cases q; exact ⟨_, e', r⟩
  · refine wpAny_pyIter_ascii ha (h _ [s.heap.objs.size] _ rfl (Walks.strAscii hh _ x t) ⟨_, Heap.get?_push_size _ rfl, rfl, rfl⟩ ?_ ?_ (fun i h st => by obtain ⟨o, e, _⟩ := st; exact ⟨o, e⟩) ?_)
    · intro b hb; rw [List.mem_singleton.mp hb]; exact Nat.lt_succ_self _
    · intro b hb; exact .inl (List.mem_singleton.mp hb)
    · intro i h h' o' nw st e e' _ _ _; obtain ⟨o, q, r⟩ := st; rw [e] at q; cases q; exact ⟨_, e', r⟩
theorem iter_tup {ax : Addr} {its : Array Value} {k : Nat} {dd : Option Addr} {sl : Array (Option Value)} {news : List (Addr × Obj)} (hh : A.handled = none) (N : News h₀ L s.heap news) (hm : (ax, (⟨.type "tuple", dd, .seq its k, sl⟩ : Obj)) ∈ news) :
    IterSrc prog w A h₀ L (.ref ax) s its.size (fun i v => its[i]? = some v) (fun nw => (ax, (⟨.type "tuple", dd, .seq its k, sl⟩ : Obj)) ∈ nw) := by
  intro Q E h
  have z := N _ hm
  have hT : s.heap.IsTuple ax its := ⟨_, z.1, rfl, _, rfl⟩
  have hlt : ax < s.heap.objs.size := Heap.lt_size z.1
  refine wpAny_pyIter_tuple hT (h _ _ _ rfl (Walks.tuple hh _ ax (Nat.ne_of_lt hlt) its) ⟨⟨_, Heap.get?_push_size _ rfl, rfl, rfl⟩, ⟨_, Heap.get?_push_of_some _ z.1, rfl, _, rfl⟩⟩ ?_ ?_ (fun i h st => by obtain ⟨o, e, _⟩ := st.1; exact ⟨o, e⟩) ?_)
  · intro b hb
    rcases List.mem_cons.mp hb with rfl | hb
    · exact Nat.lt_succ_self _
    · rw [List.mem_singleton.mp hb]; exact Nat.lt_succ_of_lt hlt
  · intro b hb
    rcases List.mem_cons.mp hb with rfl | hb
    · exact .inl rfl
    · rw [List.mem_singleton.mp hb]; exact .inr (.inr ⟨z.2.1, _, fun _ h => h⟩)
  · intro i h h' o' nw st e e' k N' S
    refine ⟨by obtain ⟨o, q, r⟩ := st.1; rw [e] at q; cases q; exact ⟨_, e', r⟩, ⟨_, (N' _ S).1, rfl, _, rfl⟩⟩
theorem iter_list {ax : Addr} {its : Array Value} {k : Nat} {dd : Option Addr} {sl : Array (Option Value)} {news : List (Addr × Obj)} (hh : A.handled = none) (N : News h₀ L s.heap news) (hm : (ax, (⟨.type "list", dd, .seq its k, sl⟩ : Obj)) ∈ news) :
    IterSrc prog w A h₀ L (.ref ax) s its.size (fun i v => its[i]? = some v) (fun nw => (ax, (⟨.type "list", dd, .seq its k, sl⟩ : Obj)) ∈ nw) := by
  intro Q E h
  have z := N _ hm
  have hT : s.heap.IsList ax its := ⟨_, z.1, rfl, _, rfl⟩
  have hlt : ax < s.heap.objs.size := Heap.lt_size z.1
  refine wpAny_pyIter_list hT (h _ _ _ rfl (Walks.list hh _ ax (Nat.ne_of_lt hlt) its) ⟨⟨_, Heap.get?_push_size _ rfl, rfl, rfl⟩, ⟨_, Heap.get?_push_of_some _ z.1, rfl, _, rfl⟩⟩ ?_ ?_ (fun i h st => by obtain ⟨o, e, _⟩ := st.1; exact ⟨o, e⟩) ?_)
  · intro b hb
    rcases List.mem_cons.mp hb with rfl | hb
    · exact Nat.lt_succ_self _
    · rw [List.mem_singleton.mp hb]; exact Nat.lt_succ_of_lt hlt
  · intro b hb
    rcases List.mem_cons.mp hb with rfl | hb
    · exact .inl rfl
    · rw [List.mem_singleton.mp hb]; exact .inr (.inr ⟨z.2.1, _, fun _ h => h⟩)
  · intro i h h' o' nw st e e' k N' S
    refine ⟨by obtain ⟨o, q, r⟩ := st.1; rw [e] at q; cases q; exact ⟨_, e', r⟩, ⟨_, (N' _ S).1, rfl, _, rfl⟩⟩
theorem iter_range {r : Addr} {a b : Int} {t u v : Tok} {n : Nat} (hh : A.handled = none) (hr : IsRange s.heap r a b 1 t u v) (hsm : Builtin.Range.small a b 1 = true) (hn : Builtin.Range.rangeSize a b 1 = ((n : Nat) : Int)) :
    IterSrc prog w A h₀ L (.ref r) s n (fun i v => ∃ t, v = .int (a + (i : Int)) t) (fun _ => True) := by
  intro Q E h
  refine wpAny_pyIter_range hr hsm (h _ [s.heap.objs.size] _ rfl (range_walks hh a n) (by show IsRangeIter _ _ _ _ _; rw [hn]; simpa using Heap.get?_push_size _ rfl) ?_ ?_ (fun i h st => ⟨_, st⟩) (range_st (L := L)))
  · intro b hb; rw [List.mem_singleton.mp hb]; exact Nat.lt_succ_self _
  · intro b hb; exact .inl (List.mem_singleton.mp hb)

/-- the source of a comprehension, with a test -/
def CSrcT (prog : Program) (w : World) (A : Around) (h₀ : Heap) (L : Addr) (m : Str → Option Value) (env : Env) (ct elt : Expr) (x : Str) (scope : Scope) (cl : List (Str × Addr)) (Fin : Shared → List Value → List (Addr × Obj) → Prop) (xv : Value) (s₁ : Shared) : Prop :=
  ∃ (n : Nat) (P : Nat → Value → Prop) (S : List (Addr × Obj) → Prop) (news : List (Addr × Obj)), n ≤ sizeLine ∧ Fr h₀ L s₁.heap m ∧ News h₀ L s₁.heap news ∧ S news ∧ IterSrc prog w A h₀ L xv s₁ n P S ∧
    ∀ s₂ : Shared, (∃ h, s₂ = { s₁ with heap := h }) → CompRestT prog w A h₀ L m env ct elt x scope cl s₂ S P (Fin s₂) n 0 [] news
/-- the source of a comprehension without a test -/
def CSrc (prog : Program) (w : World) (A : Around) (h₀ : Heap) (L : Addr) (m : Str → Option Value) (env : Env) (elt : Expr) (x : Str) (scope : Scope) (cl : List (Str × Addr)) (Fin : Shared → List Value → List (Addr × Obj) → Prop) (xv : Value) (s₁ : Shared) : Prop :=
  ∃ (n : Nat) (P : Nat → Value → Prop) (S : List (Addr × Obj) → Prop) (news : List (Addr × Obj)), n ≤ sizeLine ∧ Fr h₀ L s₁.heap m ∧ News h₀ L s₁.heap news ∧ S news ∧ IterSrc prog w A h₀ L xv s₁ n P S ∧
    ∀ s₂ : Shared, (∃ h, s₂ = { s₁ with heap := h }) → CompRest prog w A h₀ L m env elt x scope cl s₂ S P (Fin s₂) n 0 [] news

theorem CSrc.of {elt : Expr} {x : Str} {scope : Scope} {cl : List (Str × Addr)} {Fin : Shared → List Value → List (Addr × Obj) → Prop} {xv : Value} {s₁ : Shared} {n : Nat} {P : Nat → Value → Prop} {S : List (Addr × Obj) → Prop} {news : List (Addr × Obj)}
    (I : IterSrc prog w A h₀ L xv s₁ n P S) (F : Fr h₀ L s₁.heap m) (N : News h₀ L s₁.heap news) (hS : S news) (hsz : n ≤ sizeLine)
    (R : ∀ g, CompRest prog w A h₀ L m env elt x scope cl { s₁ with heap := g } S P (Fin { s₁ with heap := g }) n 0 [] news) : CSrc prog w A h₀ L m env elt x scope cl Fin xv s₁ :=
  ⟨n, P, S, news, hsz, F, N, hS, I, fun _ ⟨g, e⟩ => e ▸ R g⟩
theorem CSrcT.of {ct elt : Expr} {x : Str} {scope : Scope} {cl : List (Str × Addr)} {Fin : Shared → List Value → List (Addr × Obj) → Prop} {xv : Value} {s₁ : Shared} {n : Nat} {P : Nat → Value → Prop} {S : List (Addr × Obj) → Prop} {news : List (Addr × Obj)}
    (I : IterSrc prog w A h₀ L xv s₁ n P S) (F : Fr h₀ L s₁.heap m) (N : News h₀ L s₁.heap news) (hS : S news) (hsz : n ≤ sizeLine)
    (R : ∀ g, CompRestT prog w A h₀ L m env ct elt x scope cl { s₁ with heap := g } S P (Fin { s₁ with heap := g }) n 0 [] news) : CSrcT prog w A h₀ L m env ct elt x scope cl Fin xv s₁ :=
  ⟨n, P, S, news, hsz, F, N, hS, I, fun _ ⟨g, e⟩ => e ▸ R g⟩
theorem CompEnd.same {I C D : Addr} {s₁ : Shared} {oI oC oD : Obj} {S : List (Addr × Obj) → Prop} {rest : Value → List (Addr × Obj) → Prop} {y : Value} {h' : Heap} {tk : Nat} {news' : List (Addr × Obj)}
    (F : Fr h₀ L h' m) (N : News h₀ L h' ((I, oI) :: (C, oC) :: (D, oD) :: news')) (off : Off3 I C D news') (hS : S news') (r : rest y news') :
    LCg.CompEnd h₀ L m s₁ I oI C oC D oD S rest y { s₁ with heap := h', toks := tk } := ⟨h', tk, news', rfl, F, N, off, hS, r⟩
theorem rest_inv {elt : Expr} {x : Str} {scope : Scope} {cl : List (Str × Addr)} {S : List (Addr × Obj) → Prop} {P : Nat → Value → Prop} {Fin : List Value → List (Addr × Obj) → Prop} {K : Nat} (J : Nat → List Value → List (Addr × Obj) → Prop)
    (step : ∀ i v I oI C oC D ys news m₂ h tk (Q' E' : Value → Shared → Prop), i < K → P i v → J i ys news → NsObj oC m₂ → m₂ x = some v → Fr h₀ L h m → News h₀ L h ((I, oI) :: (C, oC) :: (D, lst ys) :: news) → Off3 I C D news → ((@Ne Nat I C) ∧ (@Ne Nat I D) ∧ (@Ne Nat C D)) →
      (∀ y h' tk' news', Fr h₀ L h' m → News h₀ L h' ((I, oI) :: (C, oC) :: (D, lst ys) :: news') → Off3 I C D news' → S news' → J (i + 1) (ys ++ [y]) news' → Q' y { s with heap := h', toks := tk' }) →
      wpAny (model prog w) A (eval elt (compEnvC scope cl C env)) Q' E' { s with heap := h, toks := tk })
    (fin : ∀ ys news, J K ys news → Fin ys news) : ∀ n i ys news, i + n = K → J i ys news → CompRest prog w A h₀ L m env elt x scope cl s S P Fin n i ys news := by
  intro n
  induction n with
  | zero => intro i ys news e hJ; subst e; exact CompRest.zero (fin _ _ hJ)
  | succ n ih =>
    intro i ys news e hJ
    refine CompRest.succ fun v I oI C oC D m₂ h tk E' hv hC hx F N off ne => ?_
    exact step i v I oI C oC D ys news m₂ h tk _ E' (by omega) hv hJ hC hx F N off ne fun y h' tk' news' F' N' off' hS' hJ' => ⟨h', tk', news', rfl, F', N', off', hS', ih (i + 1) _ _ (by omega) hJ'⟩
theorem restT_inv {ct elt : Expr} {x : Str} {scope : Scope} {cl : List (Str × Addr)} {S : List (Addr × Obj) → Prop} {P : Nat → Value → Prop} {Fin : List Value → List (Addr × Obj) → Prop} {K : Nat} (J : Nat → List Value → List (Addr × Obj) → Prop)
    (step : ∀ i v I oI C oC D ys news m₂ h tk (Q' : Value → Shared → Prop) (Q₀ : Shared → Prop) (E' : Value → Shared → Prop), i < K → P i v → J i ys news → NsObj oC m₂ → m₂ x = some v → Fr h₀ L h m → News h₀ L h ((I, oI) :: (C, oC) :: (D, lst ys) :: news) → Off3 I C D news → ((@Ne Nat I C) ∧ (@Ne Nat I D) ∧ (@Ne Nat C D)) →
      (∀ y h' tk' news', Fr h₀ L h' m → News h₀ L h' ((I, oI) :: (C, oC) :: (D, lst ys) :: news') → Off3 I C D news' → S news' → J (i + 1) (ys ++ [y]) news' → Q' y { s with heap := h', toks := tk' }) →
      (∀ h' tk' news', Fr h₀ L h' m → News h₀ L h' ((I, oI) :: (C, oC) :: (D, lst ys) :: news') → Off3 I C D news' → S news' → J (i + 1) ys news' → Q₀ { s with heap := h', toks := tk' }) →
      wpAny (model prog w) A (isTrue ct (compEnvC scope cl C env) (eval ct (compEnvC scope cl C env))) (fun ok s' => if ok = true then wpAny (model prog w) A (eval elt (compEnvC scope cl C env)) Q' E' s' else Q₀ s') E' { s with heap := h, toks := tk })
    (fin : ∀ ys news, J K ys news → Fin ys news) : ∀ n i ys news, i + n = K → J i ys news → CompRestT prog w A h₀ L m env ct elt x scope cl s S P Fin n i ys news := by
  intro n
  induction n with
  | zero => intro i ys news e hJ; subst e; exact CompRestT.zero (fin _ _ hJ)
  | succ n ih =>
    intro i ys news e hJ
    refine CompRestT.succ fun v I oI C oC D m₂ h tk E' hv hC hx F N off ne => ?_
    exact step i v I oI C oC D ys news m₂ h tk _ _ E' (by omega) hv hJ hC hx F N off ne (fun y h' tk' news' F' N' off' hS' hJ' => ⟨h', tk', news', rfl, F', N', off', hS', ih (i + 1) _ _ (by omega) hJ'⟩)
      (fun h' tk' news' F' N' off' hS' hJ' => ⟨h', tk', news', rfl, F', N', off', hS', ih (i + 1) _ _ (by omega) hJ'⟩)
theorem comp_fin {elt : Expr} {x : Str} {scope : Scope} {Q : Value → Shared → Prop} {s₂ : Shared} {e : Expr} :
    ∀ D C h tk m' ys news', Fr h₀ L h m → News h₀ L h ((D, lst ys) :: news') → Off1 D news' → h.Ns C m' → h₀.get? C = none → h₀.get? D = none → C ≠ L → D ≠ L → C ≠ D → (∀ p ∈ news', p.1 ≠ C) → FinE h₀ L m s₂ Q ys news' →
      compPost (model prog w) A E none Q (.ref D) C (.ok .next) { s₂ with heap := h, toks := tk } := by
  intro D C h tk m' ys news' F' N' o1 hn hC₀ hD₀ hCL hDL hCD offC fin
  refine ⟨m', hn, fun h'' hs'' => fin D h'' tk (F'.change hs'' hCL hC₀) (fun p hp => ?_) o1⟩
  refine ⟨hs''.extBut _ _ ?_ (N' p hp).1, (N' p hp).2⟩
  rcases List.mem_cons.mp hp with rfl | hp
  · exact Ne.symm hCD
  · exact offC p hp

theorem comp_eval {elt iter : Expr} {x : Str} {px : Pos} {scope : Scope} {cl : List (Str × Addr)} {pos : Pos} {Q : Value → Shared → Prop} (F₀ : Fr h₀ L s.heap m)
    (hclos : closureFor scope env = pure cl) (hcell : ∀ y ∈ scope.names, y.2 ≠ .cell) (hkind : scope.kind = .function)
    (hnames : ∀ y ∈ scope.names, y.2 = .local → scope.names.lookup y.1 = some .local) (hx : scope.names.lookup x = some .local)
    (h : wpAny (model prog w) A (eval iter env) (CSrc prog w A h₀ L m env elt x scope cl (fun s₂ => FinE h₀ L m s₂ Q)) E s)
    (hs : ∀ x, foldedSetIterable iter env x = pure x := by intro _; rfl) :
    wpAny (model prog w) A (eval (.ListComp elt [⟨.Name x px, iter, [], 0⟩] scope pos) env) Q E s := by
  rw [eval_ListComp]
  refine wpAny_comprehension_free (use := none) rfl hs hclos hkind hnames (wpAny_mono h (fun xv s₁ h₁ => ?_) fun _ _ e => e)
  obtain ⟨n, P, S, news, hsz, F, N, hS, I, R⟩ := h₁
  refine I _ _ fun o fp St hf W st hfp _ hIo hSt => ?_
  refine block_U W hsz hIo hSt hcell hkind hx st (fun b hb => by show b < (s₁.heap.push o).objs.size; rw [Heap.size_push]; exact hfp b hb)
    (F.keeps fun _ _ e => Heap.get?_push_of_some _ e) (N.grown fun _ _ e => Heap.get?_push_of_some _ e) (Nat.ne_of_lt F.ns.lt) (next_is_new F) (fun p hp => Nat.ne_of_lt (Heap.lt_size (N p hp).1)) hS (R _ ⟨_, rfl⟩) ?_
  exact comp_fin (elt := elt) (x := x) (scope := scope) (e := iter)

theorem compT_eval {ct elt iter : Expr} {x : Str} {px : Pos} {scope : Scope} {cl : List (Str × Addr)} {pos : Pos} {Q : Value → Shared → Prop} (F₀ : Fr h₀ L s.heap m)
    (hclos : closureFor scope env = pure cl) (hcell : ∀ y ∈ scope.names, y.2 ≠ .cell) (hkind : scope.kind = .function)
    (hnames : ∀ y ∈ scope.names, y.2 = .local → scope.names.lookup y.1 = some .local) (hx : scope.names.lookup x = some .local)
    (h : wpAny (model prog w) A (eval iter env) (CSrcT prog w A h₀ L m env ct elt x scope cl (fun s₂ => FinE h₀ L m s₂ Q)) E s)
    (hs : ∀ x, foldedSetIterable iter env x = pure x := by intro _; rfl) :
    wpAny (model prog w) A (eval (.ListComp elt [⟨.Name x px, iter, [ct], 0⟩] scope pos) env) Q E s := by
  rw [eval_ListComp]
  refine wpAny_comprehension_free (use := none) rfl hs hclos hkind hnames (wpAny_mono h (fun xv s₁ h₁ => ?_) fun _ _ e => e)
  obtain ⟨n, P, S, news, hsz, F, N, hS, I, R⟩ := h₁
  refine I _ _ fun o fp St hf W st hfp _ hIo hSt => ?_
  refine block_T W hsz hIo hSt hcell hkind hx st (fun b hb => by show b < (s₁.heap.push o).objs.size; rw [Heap.size_push]; exact hfp b hb)
    (F.keeps fun _ _ e => Heap.get?_push_of_some _ e) (N.grown fun _ _ e => Heap.get?_push_of_some _ e) (Nat.ne_of_lt F.ns.lt) (next_is_new F) (fun p hp => Nat.ne_of_lt (Heap.lt_size (N p hp).1)) hS (R _ ⟨_, rfl⟩) ?_
  exact comp_fin (elt := elt) (x := x) (scope := scope) (e := iter)
end

open PyProof.Rows.LCg PySem.Calls in
/-- a for loop by what holds of its frame and its ledger between the turns; D holds behind it, by its end or by a break -/
theorem for_inv {prog : Program} {w : World} {A : Around} {E : Value → Shared → Prop} {s : Shared} {h₀ : Heap} {env : Env} {x : Str} {body : List Stmt} {Q : Flow → Shared → Prop}
    {xv : Value} {n : Nat} {P : Nat → Value → Prop} {S : List (Addr × Obj) → Prop} {news : List (Addr × Obj)} {m₀ : Str → Option Value} (J : Nat → (Str → Option Value) → List (Addr × Obj) → Prop) (D : (Str → Option Value) → List (Addr × Obj) → Prop)
    (I : IterSrc prog w A h₀ env.locals xv s n P S) (F : Fr h₀ env.locals s.heap m₀) (N : News h₀ env.locals s.heap news) (hS : S news) (hj : J 0 m₀ news) (hJS : ∀ i m nw, J i m nw → S nw) (hD : ∀ m nw, J n m nw → D m nw)
    (turn : ∀ i v m₁ nw I oI h tk (Kt : Flow → Shared → Prop), i < n → P i v → J i m₁ nw → (∀ p ∈ nw, (@Ne Nat p.1 I)) → Fr h₀ env.locals h (fun y => if y = x then some v else m₁ y) → News h₀ env.locals h ((I, oI) :: nw) →
      (∀ f h' tk' m' nw', f = .next ∨ f = .cont → Fr h₀ env.locals h' m' → News h₀ env.locals h' ((I, oI) :: nw') → (∀ p ∈ nw', (@Ne Nat p.1 I)) → J (i + 1) m' nw' → Kt f { s with heap := h', toks := tk' }) →
      (∀ h' tk' m' nw', Fr h₀ env.locals h' m' → News h₀ env.locals h' nw' → D m' nw' → Kt .brk { s with heap := h', toks := tk' }) →
      (∀ v s', Q (.ret v) s' → Kt (.ret v) s') →
      wpAny (model prog w) A (execs body env) Kt E { s with heap := h, toks := tk })
    (done : ∀ m₁ nw h tk, D m₁ nw → Fr h₀ env.locals h m₁ → News h₀ env.locals h nw → Q .next { s with heap := h, toks := tk }) :
    wpAny (model prog w) A (pyIter xv) (fun it s₂ => LoopAtV prog w A h₀ env x body Q E it s₂) E s := by
  refine I _ _ fun o fp St hf W st hlt hfp hIo hSt => ?_
  have up : ∀ b o', s.heap.get? b = some o' → (s.heap.push o).get? b = some o' := fun b o' e => Heap.get?_push_of_some _ e
  have hIf : s.heap.objs.size ∈ fp := W.sub _ (List.mem_singleton.mpr rfl)
  refine ⟨s.heap.objs.size, fp, [s.heap.objs.size], n, P, St, m₀, news, J, rfl, W, ?_, ?_, ?_, st, F.keeps up, N.grown up, hj, ?_, ?_⟩
  · intro hm
    rcases hfp _ hm with e | ⟨q, e⟩ | ⟨e, _⟩
    · exact absurd F.ns.lt (e ▸ Nat.lt_irrefl _)
    · exact absurd (Heap.lt_size e) (Nat.not_lt.mpr F.above)
    · exact e rfl
  · intro b hb
    rw [List.mem_singleton.mp hb]
    exact next_is_new F
  · intro p hp hI
    exact absurd (Heap.lt_size (N p hp).1) ((List.mem_singleton.mp hI) ▸ Nat.lt_irrefl _)
  · rintro i v m₁ nw s₁ own ⟨hh', tk', rfl⟩ hin hP hJ hoff hown holive hall hst' F₁ N₁
    obtain ⟨oI, hoI⟩ := hIo _ _ hst'
    have hI0 : h₀.get? s.heap.objs.size = none := next_is_new F
    have hio : (s.heap.objs.size, oI) ∈ own := hall _ hIf hI0 oI hoI
    have offI : ∀ p ∈ nw, (@Ne Nat p.1 s.heap.objs.size) := fun p hp e => hoff p hp (List.mem_singleton.mpr e)
    have N₂ : News h₀ env.locals hh' ((s.heap.objs.size, oI) :: nw) := fun p hp => by
      rcases List.mem_cons.mp hp with rfl | hp
      · exact N₁ _ (List.mem_append_left _ hio)
      · exact N₁ _ (List.mem_append_right _ hp)
    -- the iterator's own entries stand in any later ledger
    have own_in : ∀ nw', S nw' → ∀ p ∈ own, p ∈ (s.heap.objs.size, oI) :: nw' := by
      intro nw' hS' p hp
      have hg := holive p hp
      rcases hfp p.1 (hown p hp) with e | ⟨q, e⟩ | ⟨_, q, hq⟩
      · have : p.2 = oI := by rw [e, hoI] at hg; exact (Option.some.inj hg).symm
        exact List.mem_cons.mpr (.inl (Prod.ext e this))
      · have := (N₁ p (List.mem_append_left _ hp)).2.2
        rw [e] at this; cases this
      · have h1 := (N₁ _ (List.mem_append_right own (hq nw (hJS _ _ _ hJ)))).1
        have h2 : p.2 = q := by rw [hg] at h1; exact Option.some.inj h1
        exact List.mem_cons.mpr (.inr (by have := hq nw' hS'; rw [← h2] at this; exact this))
    refine turn i v m₁ nw _ oI hh' tk' _ hin hP hJ offI F₁ N₂ ?_ ?_ ?_
    · intro f h' tk m' nw' hfl F' N' off' hJ'
      have fin : LoopStepU h₀ env.locals [s.heap.objs.size] own (J (i + 1)) { s with heap := hh', toks := tk' } .next { s with heap := h', toks := tk } := by
        refine ⟨rfl, h', tk, m', nw', rfl, F', fun p hp => ?_, fun p hp hI => off' p hp (List.mem_singleton.mp hI), hJ'⟩
        rcases List.mem_append.mp hp with hp | hp
        · exact N' p (own_in nw' (hJS _ _ _ hJ') p hp)
        · exact N' p (List.mem_cons_of_mem _ hp)
      rcases hfl with rfl | rfl
      · exact .next fin
      · exact .cont fin
    · intro h' tk m' nw' F' N' hD'
      exact .brk (done m' nw' h' tk hD' F' N')
    · intro v s' h; exact .ret h
  · intro h' tk m' nw' F' N' _ hJ
    exact done m' nw' h' tk (hD _ _ hJ) F' N'
local macro_rules | `(tactic| walk_at "off3") => `(tactic| first | assumption | exact True.intro | (refine And.intro ⟨by k_ne, by k_ne, by k_ne⟩ ?_; walk_at "off3") | (refine And.intro (by assumption) ?_; walk_at "off3"))

theorem rs_A1_named : True := by w_top off; trivial
section
variable {w : World} {dp un : Nat} {gd : Option (List Code)} {cn : Str} {cs : Scope} {a : Addr} {ccd : Value} {cl : List (Str × Addr)} {outer : List Env} {A₀ : Around} {base h₀ : Heap} {L : Addr} {m : Str → Option Value} {s : Shared} {Q E : Value → Shared → Prop} {mean : ExcName → Option Value} {mg mb : Str → Option Value} {news : List (Addr × Obj)}

set_option maxRecDepth 100000 in
set_option maxHeartbeats 8000000 in
theorem named_c (B : Below A₀ base outer h₀) (F : Fr h₀ L s.heap m) (X : (Mine.hk.heap_1 w.params).In h₀) (N : News h₀ L s.heap news) (T : Top Mine.V LS mean mg mb h₀) (hk : cs.kind = .function)
    (hdp : dp + 1 < recursionLimit) (hun : un + 8 < cLine) {p : Addr} {i j k : Int} {ti tj tl : Tok} {n : Nat} (hp : (p, tup3 i j k ti tj tl n) ∈ news)
    (hi : In4 i) (hj : In4 j) (hkk : In4 k)
    (ret : ∀ (t : Tok) (h' : Heap) (tk' : Nat), Fr h₀ L h' m → News h₀ L h' news → Q (.str (nm i j k) t) { s with heap := h', toks := tk' }) :
    wpAny (model PySem.Challenge.rw_wo0081_01.row.prog w) (ktrTop dp un gd cn cs L a ccd cl outer) (call (.ref 320) [.ref p]) Q E s := by
  refine wpAny_call ?_
  k_dflt cell_enter
  (repeat' (first | (k_unfold; (try dsimp only)) | (k_end; wrow_close) | (first | ((fail_if_success (with_reducible refine' gd9 (t := eval _ _) ?_)); (first | (with_reducible (((fail_if_success (fail_if_success (with_reducible refine' gd9 (t := execs (_ :: _) _) ?_))); first | k_gentoks | ((with_reducible refine wpAny_execs_cons ?_); (try dsimp only); k_fold)))) | (with_reducible (((fail_if_success (fail_if_success (with_reducible refine' gd9 (t := subscriptTail _ _ (Value.ref _) (Value.int _ _)) ?_))); k_dflt (first | (refine' tup_item (by k_asm) (by k_mem) (by decide) (by decide) (by rfl) (by rfl) ?_) | (refine' lst_item (by k_asm) (by k_mem) (by decide) (by decide) (by rfl) ?_))))) )) | walk1) | ((with_reducible show wpAny _ _ _ _ _ _); dsimp only) | (leave1; walk_say "STEP leave1"; try dsimp only) | fail "no step"))
  all_goals exact ret _ _ _ (by k_asm) (by k_asm)
end

theorem rs_A2_spelled : True := by w_top off; trivial
/-- a place's name as the atlas has it first -/
def spl (i j k turn : Int) : Str := if turn.fmod 2 = 1 then Txt.upper (nm i j k) else nm i j k
theorem spl_len {i j k turn : Int} (hi : i ≤ 4) (hj : j ≤ 4) (hk : k ≤ 4) : (spl i j k turn).length ≤ 36 := by
  have := nm_len hi hj hk
  unfold spl
  split
  · have := len_upper (nm i j k); omega
  · omega
section
variable {w : World} {dp un : Nat} {gd : Option (List Code)} {cn : Str} {cs : Scope} {a : Addr} {ccd : Value} {cl : List (Str × Addr)} {outer : List Env} {A₀ : Around} {base h₀ : Heap} {L : Addr} {m : Str → Option Value} {s : Shared} {Q E : Value → Shared → Prop} {mean : ExcName → Option Value} {mg mb : Str → Option Value} {news : List (Addr × Obj)}

set_option maxRecDepth 100000 in
set_option maxHeartbeats 8000000 in
theorem spelled_c (B : Below A₀ base outer h₀) (F : Fr h₀ L s.heap m) (X : (Mine.hk.heap_1 w.params).In h₀) (N : News h₀ L s.heap news) (T : Top Mine.V LS mean mg mb h₀) (hk : cs.kind = .function)
    (hdp : dp + 5 < recursionLimit) (hun : un + 50 < cLine) {p : Addr} {i j k : Int} {ti tj tl : Tok} {n : Nat} (hp : (p, tup3 i j k ti tj tl n) ∈ news)
    (hi : In4 i) (hj : In4 j) (hkk : In4 k) {turn : Int} {tu : Tok}
    (ret : ∀ (t : Tok) (h' : Heap) (tk' : Nat), Fr h₀ L h' m → News h₀ L h' news → Q (.str (spl i j k turn) t) { s with heap := h', toks := tk' }) :
    wpAny (model PySem.Challenge.rw_wo0081_01.row.prog w) (ktrTop dp un gd cn cs L a ccd cl outer) (call (.ref 327) [.ref p, .int turn tu]) Q E s := by
  refine wpAny_call ?_
  have hl := nm_len hi.2 hj.2 hkk.2
  k_dflt cell_enter
  (repeat' (first | (k_unfold; (try dsimp only)) | (k_end; wrow_close) | (first | ((fail_if_success (with_reducible refine' gd9 (t := eval _ _) ?_)); (first | (with_reducible (((fail_if_success (fail_if_success (with_reducible refine' gd9 (t := execs (_ :: _) _) ?_))); first | k_gentoks | ((with_reducible refine wpAny_execs_cons ?_); (try dsimp only); k_fold)))) | ((fail_if_success (fail_if_success (with_reducible refine' gd9 (t := call _ _ _) ?_))); (first | (with_reducible (((fail_if_success (fail_if_success (with_reducible refine' gd9 (t := call (Value.builtin "str.upper") [Value.str _ _]) ?_))); (refine SCL.upper (by ((try dsimp only); first | with_reducible assumption | omega | (simp only [Str.length_append]; omega) | fail "slen")) ?_); intro _; (try dsimp only)))) | (with_reducible (((fail_if_success (fail_if_success (with_reducible refine' gd9 (t := call (Value.ref 320) _) ?_))); k_dflt (refine' named_c (by k_asm) (by k_asm) (by k_asm) (by k_asm) (by k_asm) (by first | rfl | assumption) (by ktr_room) (by ktr_units) (by k_mem) (by with_reducible assumption) (by with_reducible assumption) (by with_reducible assumption) ?_); intro _ _ _ _ _; (try dsimp only); (try k_fold)))) )) )) | walk1) | ((with_reducible show wpAny _ _ _ _ _ _); dsimp only) | (leave1; walk_say "STEP leave1"; try dsimp only) | fail "no step"))
  · have e : spl i j k turn = Txt.upper (nm i j k) := if_pos (by assumption)
    rw [e] at ret
    exact ret _ _ _ (by k_asm) (by k_asm)
  · have e : spl i j k turn = nm i j k := if_neg (by assumption)
    rw [e] at ret
    exact ret _ _ _ (by k_asm) (by k_asm)
end

theorem rs_A3_leads : True := by w_top off; trivial
/-- the lead that tells of i a's and b letters -/
def ld (way i b : Int) : Str :=
  if way = 2 then Txt.mul (Str.ofString " ") (1 + i) ++ Str.ofString "\t" ++ Txt.mul (Str.ofString " ") (i + b) ++ Str.ofString ".\t"
  else Txt.mul (Str.ofString " \t") way ++ Txt.mul (Str.ofString "\t") i ++ Txt.mul (Str.ofString " ") b ++ Str.ofString ".\t"
section
variable {w : World} {dp un : Nat} {gd : Option (List Code)} {cn : Str} {cs : Scope} {a : Addr} {ccd : Value} {cl : List (Str × Addr)} {outer : List Env} {A₀ : Around} {base h₀ : Heap} {L : Addr} {m : Str → Option Value} {s : Shared} {Q E : Value → Shared → Prop} {mean : ExcName → Option Value} {mg mb : Str → Option Value} {news : List (Addr × Obj)}

set_option maxRecDepth 100000 in
set_option maxHeartbeats 8000000 in
theorem leads_c (B : Below A₀ base outer h₀) (F : Fr h₀ L s.heap m) (X : (Mine.hk.heap_1 w.params).In h₀) (N : News h₀ L s.heap news) (T : Top Mine.V LS mean mg mb h₀) (hk : cs.kind = .function)
    (hdp : dp + 5 < recursionLimit) (hun : un + 50 < cLine) {p : Addr} {i j k : Int} {ti tj tl : Tok} {n : Nat} (hp : (p, tup3 i j k ti tj tl n) ∈ news)
    (hi : In4 i) (hj : In4 j) (hkk : In4 k) {way : Int} {tw : Tok} (hw : 0 ≤ way ∧ way ≤ 2)
    (ret : ∀ (l : Addr) (ys : List Value) (h' : Heap) (tk' : Nat), StrsAre ys [ld way i j, ld way i k] → (∀ q ∈ news, q.1 ≠ l) → Fr h₀ L h' m → News h₀ L h' ((l, LCg.lst ys) :: news) → Q (.ref l) { s with heap := h', toks := tk' }) :
    wpAny (model PySem.Challenge.rw_wo0081_01.row.prog w) (ktrTop dp un gd cn cs L a ccd cl outer) (call (.ref 332) [.ref p, .int way tw]) Q E s := by
  refine wpAny_call ?_
  (first | (k_dflt (refine' code_defC ?k1 ?k2 ?k3 ?k4 ?k5 ?kA ?kF ?kK ?k6 ?k7 ?k8 ?k9 ?kB ?kD ?_ ?c2 ?c3 ?c4; (case kA => exact rfl); (case kF => exact rfl); (case kK => first | exact rfl | assumption); (case k1 => k_asm); (case k2 => k_asm); (case k3 => k_asm); (case k4 => k_asm); (case k5 => k_asm); (case k6 => k_is); (case k7 => k_is); (case k8 => ktr_room); (case k9 => first | exact BindsTo.of_eq rfl | exact binds_K (by k_in) rfl (by k_is) rfl rfl rfl | fail "k_enter: no rule for these arguments"); (case kB => exact rfl); (case kD => decide +kernel); (case c2 => exact rfl); (case c3 => exact rfl); (case c4 => exact rfl); k_whole; intro g L1 h1 tk1 cells9 FG F1 N1 Y1 B1 X1 T1 LT; (try k_lt LT); k_cells Y1; (try simp only [List.cons_append, List.nil_append] at N1); (try dsimp only); (try k_lift B1); (try k_fold))) | (k_dflt cell_enter))
  repeat' (first | (with_reducible show wpAny _ _ (eval (Expr.ListComp _ _ _ _) _) _ _ _; (k_dflt (refine comp_eval (F₀ := by k_asm) (by with_unfolding_all rfl) (by decide) (by rfl) (by decide) (by rfl) ?_))) | (first | ((fail_if_success (with_reducible refine' gd9 (t := eval _ _) ?_)); (first | (with_reducible (((fail_if_success (fail_if_success (with_reducible refine' gd9 (t := execs (_ :: _) _) ?_))); first | k_gentoks | ((with_reducible refine wpAny_execs_cons ?_); (try dsimp only); k_fold)))) | (with_reducible (((fail_if_success (fail_if_success (with_reducible refine' gd9 (t := subscriptTail _ _ (Value.ref _) (Value.int _ _)) ?_))); k_dflt (first | (refine' tup_item (by k_asm) (by k_mem) (by decide) (by decide) (by rfl) (by rfl) ?_) | (refine' lst_item (by k_asm) (by k_mem) (by decide) (by decide) (by rfl) ?_))))) | (with_reducible (((fail_if_success (fail_if_success (with_reducible refine' gd9 (t := subscriptTail (Expr.Name _ _) (Expr.Slice _ _ _ _) (Value.ref _) (Value.ref _)) ?_))); k_dflt (refine' slice_tuple_from (a := 1) (by k_asm) (by k_asm) (News.isTup (by k_asm) (by k_mem)) (by decide) (by exact Nat.le_of_ble_eq_true rfl) ?_ (by with_unfolding_all rfl) (by (intro _; with_unfolding_all rfl)) (by exact Nat.le_of_ble_eq_true rfl)); intro _ _ _; (try dsimp only); (try k_fold)))) )) | walk1) | (dsimp only; (first | ((fail_if_success (with_reducible refine' gd9 (t := eval _ _) ?_)); (first | (with_reducible (((fail_if_success (fail_if_success (with_reducible refine' gd9 (t := execs (_ :: _) _) ?_))); first | k_gentoks | ((with_reducible refine wpAny_execs_cons ?_); (try dsimp only); k_fold)))) | (with_reducible (((fail_if_success (fail_if_success (with_reducible refine' gd9 (t := subscriptTail _ _ (Value.ref _) (Value.int _ _)) ?_))); k_dflt (first | (refine' tup_item (by k_asm) (by k_mem) (by decide) (by decide) (by rfl) (by rfl) ?_) | (refine' lst_item (by k_asm) (by k_mem) (by decide) (by decide) (by rfl) ?_))))) | (with_reducible (((fail_if_success (fail_if_success (with_reducible refine' gd9 (t := subscriptTail (Expr.Name _ _) (Expr.Slice _ _ _ _) (Value.ref _) (Value.ref _)) ?_))); k_dflt (refine' slice_tuple_from (a := 1) (by k_asm) (by k_asm) (News.isTup (by k_asm) (by k_mem)) (by decide) (by exact Nat.le_of_ble_eq_true rfl) ?_ (by with_unfolding_all rfl) (by (intro _; with_unfolding_all rfl)) (by exact Nat.le_of_ble_eq_true rfl)); intro _ _ _; (try dsimp only); (try k_fold)))) )) | walk1)))
  all_goals (
    (rename Fr _ _ _ _ => F9); (rename News _ _ _ _ => N9)
    k_dflt (refine CSrc.of (iter_tup rfl N9 List.mem_cons_self) F9 N9 List.mem_cons_self (Nat.le_of_ble_eq_true rfl) fun g => rest_inv (K := 2) (fun c ys nw => nw = _ ∧ StrsAre ys (([j, k].take c).map (ld way i))) ?step ?fin _ _ _ _ rfl ⟨rfl, StrsAre.nil⟩)
    case step =>
      rintro c v I oI C oC D ys nw m₂ h tq Q' E' hc hv ⟨rfl, hys⟩ hC hx F9 N9 off ne hQ
      obtain ⟨b, tb, rfl, hb, hbb⟩ := pair_item hv
      have hb4 : In4 b := by rcases hbb with rfl | rfl <;> assumption
      (repeat' (first | (k_unfold; (try dsimp only)) | (k_end; wrow_close) | (first | ((fail_if_success (with_reducible refine' gd9 (t := eval _ _) ?_)); (first | (with_reducible (((fail_if_success (fail_if_success (with_reducible refine' gd9 (t := execs (_ :: _) _) ?_))); first | k_gentoks | ((with_reducible refine wpAny_execs_cons ?_); (try dsimp only); k_fold)))) | (with_reducible (((fail_if_success (fail_if_success (with_reducible refine' gd9 (t := subscriptTail _ _ (Value.ref _) (Value.int _ _)) ?_))); k_dflt (first | (refine' tup_item (by k_asm) (by k_mem) (by decide) (by decide) (by rfl) (by rfl) ?_) | (refine' lst_item (by k_asm) (by k_mem) (by decide) (by decide) (by rfl) ?_))))) | (with_reducible (((fail_if_success (fail_if_success (with_reducible refine' gd9 (t := subscriptTail (Expr.Name _ _) (Expr.Slice _ _ _ _) (Value.ref _) (Value.ref _)) ?_))); k_dflt (refine' slice_tuple_from (a := 1) (by k_asm) (by k_asm) (News.isTup (by k_asm) (by k_mem)) (by decide) (by exact Nat.le_of_ble_eq_true rfl) ?_ (by with_unfolding_all rfl) (by (intro _; with_unfolding_all rfl)) (by exact Nat.le_of_ble_eq_true rfl)); intro _ _ _; (try dsimp only); (try k_fold)))) )) | walk1) | ((with_reducible show wpAny _ _ _ _ _ _); dsimp only) | (leave1; walk_say "STEP leave1"; try dsimp only) | fail "no step"))
      first
        | exact hQ _ _ _ _ (by k_asm) (by k_asm) off List.mem_cons_self ⟨rfl, strs_snoc hys hb (by rw [ld, if_pos (by assumption)])⟩
        | exact hQ _ _ _ _ (by k_asm) (by k_asm) off List.mem_cons_self ⟨rfl, strs_snoc hys hb (by rw [ld, if_neg (by assumption)])⟩
    case fin =>
      rintro ys nw ⟨rfl, hys⟩ D h tq F9 N9 o1
      (try dsimp only)
      (repeat' (first | (k_unfold; (try dsimp only)) | (k_end; wrow_close) | (first | ((fail_if_success (with_reducible refine' gd9 (t := eval _ _) ?_)); (first | (with_reducible (((fail_if_success (fail_if_success (with_reducible refine' gd9 (t := execs (_ :: _) _) ?_))); first | k_gentoks | ((with_reducible refine wpAny_execs_cons ?_); (try dsimp only); k_fold)))) | (with_reducible (((fail_if_success (fail_if_success (with_reducible refine' gd9 (t := subscriptTail _ _ (Value.ref _) (Value.int _ _)) ?_))); k_dflt (first | (refine' tup_item (by k_asm) (by k_mem) (by decide) (by decide) (by rfl) (by rfl) ?_) | (refine' lst_item (by k_asm) (by k_mem) (by decide) (by decide) (by rfl) ?_))))) | (with_reducible (((fail_if_success (fail_if_success (with_reducible refine' gd9 (t := subscriptTail (Expr.Name _ _) (Expr.Slice _ _ _ _) (Value.ref _) (Value.ref _)) ?_))); k_dflt (refine' slice_tuple_from (a := 1) (by k_asm) (by k_asm) (News.isTup (by k_asm) (by k_mem)) (by decide) (by exact Nat.le_of_ble_eq_true rfl) ?_ (by with_unfolding_all rfl) (by (intro _; with_unfolding_all rfl)) (by exact Nat.le_of_ble_eq_true rfl)); intro _ _ _; (try dsimp only); (try k_fold)))) )) | walk1) | ((with_reducible show wpAny _ _ _ _ _ _); dsimp only) | (leave1; walk_say "STEP leave1"; try dsimp only) | fail "no step"))
      exact ret _ _ _ _ hys (off1_mem o1.2.2.2) (by k_asm) (cb_drop (by k_asm) (by walk_at "sub")))
end

theorem rs_A4_due : True := by w_top off; trivial
theorem nm_pos {i j k : Int} (hi : In4 i) (hj : In4 j) (hk : In4 k) (h3 : i + j + k = 3) : 1 ≤ (nm i j k).length := by
  have a := len_mul_k1 (x := Str.ofString "a") (n := i) (by decide +kernel)
  have b := len_mul_k1 (x := Str.ofString "b") (n := j) (by decide +kernel)
  have c := len_mul_k1 (x := Str.ofString "c") (n := k) (by decide +kernel)
  obtain ⟨hi, _⟩ := hi; obtain ⟨hj, _⟩ := hj; obtain ⟨hk, _⟩ := hk
  simp only [nm, Str.length_append]
  split at a <;> split at b <;> split at c <;> omega
def due (i j k i' j' k' : Int) : Str := if i = i' ∧ j = j' ∧ k = k' then Txt.item (nm i j k) (-1) else if i' < i then Str.ofString "a" else if k' < k then Str.ofString "c" else Str.ofString "b"
section
variable {w : World} {dp un : Nat} {gd : Option (List Code)} {cn : Str} {cs : Scope} {a : Addr} {ccd : Value} {cl : List (Str × Addr)} {outer : List Env} {A₀ : Around} {base h₀ : Heap} {L : Addr} {m : Str → Option Value} {s : Shared} {Q E : Value → Shared → Prop} {mean : ExcName → Option Value} {mg mb : Str → Option Value} {news : List (Addr × Obj)}

set_option maxRecDepth 100000 in
set_option maxHeartbeats 8000000 in
theorem due_c (B : Below A₀ base outer h₀) (F : Fr h₀ L s.heap m) (X : (Mine.hk.heap_1 w.params).In h₀) (N : News h₀ L s.heap news) (T : Top Mine.V LS mean mg mb h₀) (hk : cs.kind = .function)
    (hdp : dp + 5 < recursionLimit) (hun : un + 100 < cLine) {p g : Addr} {i j k i' j' k' : Int} {ti tj tl ti' tj' tl' : Tok} {n n' : Nat} (hp : (p, tup3 i j k ti tj tl n) ∈ news) (hg : (g, tup3 i' j' k' ti' tj' tl' n') ∈ news)
    (hi : In4 i) (hj : In4 j) (hkk : In4 k) (h3 : i + j + k = 3)
    (ret : ∀ (t : Tok) (h' : Heap) (tk' : Nat), Fr h₀ L h' m → News h₀ L h' news → Q (.str (due i j k i' j' k') t) { s with heap := h', toks := tk' }) :
    wpAny (model PySem.Challenge.rw_wo0081_01.row.prog w) (ktrTop dp un gd cn cs L a ccd cl outer) (call (.ref 344) [.ref p, .ref g]) Q E s := by
  refine wpAny_call ?_
  (first | (k_dflt (refine' code_defC ?k1 ?k2 ?k3 ?k4 ?k5 ?kA ?kF ?kK ?k6 ?k7 ?k8 ?k9 ?kB ?kD ?_ ?c2 ?c3 ?c4; (case kA => exact rfl); (case kF => exact rfl); (case kK => first | exact rfl | assumption); (case k1 => k_asm); (case k2 => k_asm); (case k3 => k_asm); (case k4 => k_asm); (case k5 => k_asm); (case k6 => k_is); (case k7 => k_is); (case k8 => ktr_room); (case k9 => first | exact BindsTo.of_eq rfl | exact binds_K (by k_in) rfl (by k_is) rfl rfl rfl | fail "k_enter: no rule for these arguments"); (case kB => exact rfl); (case kD => decide +kernel); (case c2 => exact rfl); (case c3 => exact rfl); (case c4 => exact rfl); k_whole; intro g L1 h1 tk1 cells9 FG F1 N1 Y1 B1 X1 T1 LT; (try k_lt LT); k_cells Y1; (try simp only [List.cons_append, List.nil_append] at N1); (try dsimp only); (try k_lift B1); (try k_fold))) | (k_dflt cell_enter))
  have hl := nm_len hi.2 hj.2 hkk.2
  have hl1 := nm_pos hi hj hkk h3
  (repeat' (first | (k_unfold; (try dsimp only)) | (k_end; wrow_close) | (first | ((fail_if_success (with_reducible refine' gd9 (t := eval _ _) ?_)); (first | (with_reducible (((fail_if_success (fail_if_success (with_reducible refine' gd9 (t := execs (_ :: _) _) ?_))); first | k_gentoks | ((with_reducible refine wpAny_execs_cons ?_); (try dsimp only); k_fold)))) | (with_reducible (((fail_if_success (fail_if_success (with_reducible refine' gd9 (t := subscriptTail _ _ (Value.ref _) (Value.int _ _)) ?_))); k_dflt (first | (refine' tup_item (by k_asm) (by k_mem) (by decide) (by decide) (by rfl) (by rfl) ?_) | (refine' lst_item (by k_asm) (by k_mem) (by decide) (by decide) (by rfl) ?_))))) | (with_reducible (((fail_if_success (fail_if_success (with_reducible refine' gd9 (t := compareOp CmpOp.Eq (Value.ref _) (Value.ref _)) ?_))); k_dflt (refine eq_dataH (by ked_read) (by ked_read) (by ked_shaped) (by ked_shaped) (by ktr_units) ?_); ked_norm))) | (with_reducible (((fail_if_success (fail_if_success (with_reducible refine' gd9 (t := call (Value.ref 320) _) ?_))); k_dflt (refine' named_c (by k_asm) (by k_asm) (by k_asm) (by k_asm) (by k_asm) (by first | rfl | assumption) (by ktr_room) (by ktr_units) (by k_mem) (by with_reducible assumption) (by with_reducible assumption) (by with_reducible assumption) ?_); intro _ _ _ _ _; (try dsimp only); (try k_fold)))) )) | walk1) | ((with_reducible show wpAny _ _ _ _ _ _); dsimp only) | (leave1; walk_say "STEP leave1"; try dsimp only) | fail "no step"))
  all_goals (
    simp only [Bool.and_eq_true, beq_iff_eq, Bool.and_eq_false_iff, beq_eq_false_iff_ne, ne_eq] at *
    unfold due at ret
    first
      | (rw [if_pos ⟨by omega, by omega, by omega⟩] at ret; exact ret _ _ _ (by k_asm) (by k_asm))
      | (rw [if_neg (by omega), if_pos (by omega)] at ret; exact ret _ _ _ (by k_asm) (by k_asm))
      | (rw [if_neg (by omega), if_neg (by omega), if_pos (by omega)] at ret; exact ret _ _ _ (by k_asm) (by k_asm))
      | (rw [if_neg (by omega), if_neg (by omega), if_neg (by omega)] at ret; exact ret _ _ _ (by k_asm) (by k_asm)))
end

theorem rs_B1_ws : True := by w_top off; trivial
structure WS where
  cnt : List Int
  b : Int
  n : Int
  nt : Int
def wsPad (st : WS) : List Int := if st.b ≥ st.cnt.length then st.cnt ++ List.replicate (st.b - st.cnt.length + 1).toNat 0 else st.cnt
def wsStep (c : Nat) (st : WS) : Option WS :=
  if c = 32 then some { st with n := st.n + 1, b := st.b + 1 }
  else if c = 9 then some { cnt := (wsPad st).set st.b.toNat ((wsPad st).getD st.b.toNat 0 + 1), b := 0, n := st.n + 1, nt := st.nt + 1 }
  else none
def wsRun : List Nat → WS → WS
  | [], st => st
  | c :: r, st => match wsStep c st with
    | some st' => wsRun r st'
    | none => st
theorem ws_next {x : Str} {i ch : Nat} {st st' R : WS} (hch : x.cps[i]? = some ch) (hs : wsStep ch st = some st') (hrun : wsRun (x.cps.toList.drop i) st = R) : wsRun (x.cps.toList.drop (i + 1)) st' = R := by
  obtain ⟨hl, he⟩ := Array.getElem?_eq_some_iff.mp hch
  have hl' : i < x.cps.toList.length := by simpa using hl
  rw [List.drop_eq_getElem_cons hl'] at hrun
  have e : x.cps.toList[i] = ch := by simpa using he
  rw [e, wsRun, hs] at hrun
  exact hrun
theorem ws_stop {x : Str} {i ch : Nat} {st R : WS} (hch : x.cps[i]? = some ch) (hs : wsStep ch st = none) (hrun : wsRun (x.cps.toList.drop i) st = R) : st = R := by
  obtain ⟨hl, he⟩ := Array.getElem?_eq_some_iff.mp hch
  have hl' : i < x.cps.toList.length := by simpa using hl
  rw [List.drop_eq_getElem_cons hl'] at hrun
  have e : x.cps.toList[i] = ch := by simpa using he
  rw [e, wsRun, hs] at hrun
  exact hrun
theorem sp_ne {c : Nat} (h : ((⟨#[c]⟩ : Str) == Str.ofString " ") = false) : c ≠ 32 := by
  rintro rfl; exact absurd h (by decide +kernel)
theorem sp_eq {c : Nat} (h : ((⟨#[c]⟩ : Str) == Str.ofString " ") = true) : c = 32 := by
  have := beq_iff_eq.mp h
  rw [show Str.ofString " " = ⟨#[32]⟩ by decide +kernel] at this
  cases this; rfl
theorem tb_ne {c : Nat} (h : ((⟨#[c]⟩ : Str) == Str.ofString "\t") = false) : c ≠ 9 := by
  rintro rfl; exact absurd h (by decide +kernel)
theorem tb_eq {c : Nat} (h : ((⟨#[c]⟩ : Str) == Str.ofString "\t") = true) : c = 9 := by
  have := beq_iff_eq.mp h
  rw [show Str.ofString "\t" = ⟨#[9]⟩ by decide +kernel] at this
  cases this; rfl
theorem flat_rep (n : Nat) : (List.replicate n ([0] : List Int)).flatten = List.replicate n 0 := by
  induction n with
  | zero => rfl
  | succ n ih => rw [List.replicate_succ, List.flatten_cons, ih, List.replicate_succ]; rfl
def ws0 : WS := ⟨[], 0, 0, 0⟩
structure WsOk (k : Nat) (st : WS) : Prop where
  len : st.cnt.length ≤ k + 1
  b : 0 ≤ st.b ∧ st.b ≤ k
  n : 0 ≤ st.n ∧ st.n ≤ k
  nt : 0 ≤ st.nt ∧ st.nt ≤ k
  cnt : ∀ v ∈ st.cnt, 0 ≤ v ∧ v ≤ k
theorem WsOk.up {k k' : Nat} {st : WS} (h : WsOk k st) (hk : k ≤ k') : WsOk k' st :=
  ⟨by have := h.len; omega, by have := h.b; omega, by have := h.n; omega, by have := h.nt; omega, fun v hv => by have := h.cnt v hv; omega⟩
theorem pad_mem {st : WS} {k : Nat} (h : WsOk k st) : ∀ v ∈ wsPad st, 0 ≤ v ∧ v ≤ k := by
  intro v hv
  unfold wsPad at hv
  split at hv
  · rcases List.mem_append.mp hv with hv | hv
    · exact h.cnt v hv
    · have := (List.mem_replicate.mp hv).2; omega
  · exact h.cnt v hv
theorem step_ok {c k : Nat} {st st' : WS} (h : WsOk k st) (hs : wsStep c st = some st') : WsOk (k + 1) st' := by
  have h1 := h.len; have h2 := h.b; have h3 := h.n; have h4 := h.nt
  unfold wsStep at hs
  split at hs
  · cases hs; exact ⟨by dsimp only; omega, by dsimp only; omega, by dsimp only; omega, by dsimp only; omega, fun v hv => by have := h.cnt v hv; omega⟩
  · split at hs
    · cases hs
      refine ⟨?_, by dsimp only; omega, by dsimp only; omega, by dsimp only; omega, ?_⟩
      · dsimp only; rw [List.length_set]; unfold wsPad; split
        · rw [List.length_append, List.length_replicate]; omega
        · omega
      · intro v hv
        dsimp only at hv
        rcases List.mem_or_eq_of_mem_set hv with hv | hv
        · have := pad_mem h v hv; omega
        · subst hv
          by_cases hlt : st.b.toNat < (wsPad st).length
          · have := pad_mem h _ (List.getElem_mem hlt)
            simp only [List.getD, hlt, List.getElem?_eq_getElem, Option.getD_some]; omega
          · rw [List.getD, List.getElem?_eq_none (by omega)]; simp; omega
    · cases hs
inductive WsJ (w : World) (x dx : Addr) (ws : Str) (t tR : Tok) (i : Nat) (m : Str → Option Value) (nw : List (Addr × Obj)) : Prop
  | mk (st : WS) (l : Addr) (vs : List Value) (c : Nat) (tb tn tt ts tT : Tok) (e0 : wsRun (ws.cps.toList.drop i) st = wsRun ws.cps.toList ws0) (e1 : WsOk i st) (e2 : IntsAre vs st.cnt) (e3 : ((@LT.lt Nat _ x l) ∧ (@LT.lt Nat _ dx l))) (e4 : m (Str.ofString "self") = some (.ref x)) (e5 : m (Str.ofString "S") = some (.str (Str.ofString " ") ts)) (e6 : m (Str.ofString "T") = some (.str (Str.ofString "\t") tT)) (e7 : m (Str.ofString "count") = some (.ref l)) (e8 : m (Str.ofString "b") = some (.int st.b tb)) (e9 : m (Str.ofString "n") = some (.int st.n tn)) (e10 : m (Str.ofString "nt") = some (.int st.nt tt)) (e11 : nw = [(l, listOf vs.toArray c), (x, instObj 100 dx), (dx, dictOf [ent w (Str.ofString "raw") tR (.str ws t)] 1)]) : WsJ w x dx ws t tR i m nw
inductive WsD (w : World) (x dx : Addr) (ws : Str) (t tR : Tok) (m : Str → Option Value) (nw : List (Addr × Obj)) : Prop
  | mk (st : WS) (l : Addr) (vs : List Value) (c : Nat) (tb tn tt : Tok) (e0 : st = wsRun ws.cps.toList ws0) (e1 : WsOk 100 st) (e2 : IntsAre vs st.cnt) (e3 : ((@LT.lt Nat _ x l) ∧ (@LT.lt Nat _ dx l))) (e4 : m (Str.ofString "self") = some (.ref x)) (e5 : m (Str.ofString "count") = some (.ref l)) (e6 : m (Str.ofString "b") = some (.int st.b tb)) (e7 : m (Str.ofString "n") = some (.int st.n tn)) (e8 : m (Str.ofString "nt") = some (.int st.nt tt)) (e9 : nw = [(l, listOf vs.toArray c), (x, instObj 100 dx), (dx, dictOf [ent w (Str.ofString "raw") tR (.str ws t)] 1)]) : WsD w x dx ws t tR m nw
def wsOf (ws : Str) : WS := wsRun ws.cps.toList ws0
/-- a Whitespace as it stands: itself, its dict, its norm, its counts -/
inductive WsIn (w : World) (ws : Str) (x : Addr) (own : List (Addr × Obj)) : Prop
  | mk (dx d1 d2 : Addr) (vs : List Value) (t0 t1 t2 t3 t4 t5 t6 t7 tb : Tok) (e0 : IntsAre vs (wsOf ws).cnt) (e1 : own = [(x, instObj 100 dx), (dx, dictOf [ent w (Str.ofString "raw") t0 (.str ws t1), ent w (Str.ofString "n") t2 (.int (wsOf ws).n t3), ent w (Str.ofString "nt") t4 (.int (wsOf ws).nt t5), ent w (Str.ofString "norm") t6 (.ref d1), ent w (Str.ofString "is_simple") t7 (.bool (decide (((wsOf ws).cnt.length : Int) ≤ 1)))] 5), (d1, ({ cls := .type "tuple", data := .seq #[.ref d2, .int (wsOf ws).b tb] } : Obj)), (d2, ({ cls := .type "tuple", data := .seq vs.toArray } : Obj))]) : WsIn w ws x own
section
variable {w : World} {dp un : Nat} {gd : Option (List Code)} {cn : Str} {cs : Scope} {a : Addr} {ccd : Value} {cl : List (Str × Addr)} {outer : List Env} {A₀ : Around} {base h₀ : Heap} {L : Addr} {m : Str → Option Value} {s : Shared} {Q E : Value → Shared → Prop} {mean : ExcName → Option Value} {mg mb : Str → Option Value} {news : List (Addr × Obj)}

set_option maxRecDepth 100000 in
set_option maxHeartbeats 8000000 in
theorem ws_c (B : Below A₀ base outer h₀) (F : Fr h₀ L s.heap m) (X : (Mine.hk.heap_1 w.params).In h₀) (N : News h₀ L s.heap news) (T : Top Mine.V LS mean mg mb h₀) (hk : cs.kind = .function)
    (hdp : dp + 5 < recursionLimit) (hun : un + 100 < cLine) {ws : Str} {t : Tok} (hws : ws.length ≤ 100)
    (ret : ∀ (x : Addr) (own : List (Addr × Obj)) (h' : Heap) (tk' : Nat), WsIn w ws x own → (∀ q ∈ news, ∀ p ∈ own, q.1 ≠ p.1) → Fr h₀ L h' m → News h₀ L h' (own ++ news) → Q (.ref x) { s with heap := h', toks := tk' }) :
    wpAny (model PySem.Challenge.rw_wo0081_01.row.prog w) (ktrTop dp un gd cn cs L a ccd cl outer) (call (.ref 100) [.str ws t]) Q E s := by
  k_dflt (refine' call_cls ?k1 ?k2 ?k3 ?k4 ?k5 ?k6 ?_; (case k1 => k_asm); (case k2 => k_asm); (case k3 => k_asm); (case k4 => k_is); (case k5 => k_is); (case k6 => k_is); k_whole)
  intro x dx hx Fx Nx lx1 lx2
  (k_dflt (refine' code_defG ?k1 ?k2 ?k3 ?k4 ?k5 ?kA ?kF ?kK ?k6 ?k7 ?k8 ?k9 ?kB ?_ ?c2 ?c3 ?c4 ?c5; (case kA => exact rfl); (case kF => exact rfl); (case kK => first | exact rfl | assumption); (case k1 => k_asm); (case k2 => k_asm); (case k3 => k_asm); (case k5 => k_asm); (case k6 => k_is); (case k7 => k_is); (case k8 => ktr_room); (case k9 => first | exact BindsTo.of_eq rfl | exact binds_K (by k_in) rfl (by k_is) rfl rfl rfl | fail "k_enter: no rule for these arguments"); (case kB => exact locs rfl); (case c2 => exact rfl); (case c3 => exact rfl); (case c4 => exact rfl); (case c5 => decide); k_whole))
  case k4 => exact cb_drop (news := [(x, instObj 100 dx), (dx, dictOf [] 0)]) Nx (by walk_at "sub")
  intro g L1 h1 FG F1 N1 B1 X1 T1 SK LT
  replace lx2 := ltN lx2
  replace LT := allLt_of LT; simp only [AllLt, and_true] at LT
  (try dsimp only); (try k_fold)
  (repeat ((fail_if_success (with_reducible show wpAny _ _ (pyIter _) _ _ _)); (first | (first | ((fail_if_success (with_reducible refine' gd9 (t := eval _ _) ?_)); (first | (with_reducible (((fail_if_success (fail_if_success (with_reducible refine' gd9 (t := execs (_ :: _) _) ?_))); first | k_gentoks | ((with_reducible refine wpAny_execs_cons ?_); (try dsimp only); k_fold)))) | ((fail_if_success (fail_if_success (with_reducible refine' gd9 (t := call _ _ _) ?_))); (first | (with_reducible (((fail_if_success (fail_if_success (with_reducible refine' gd9 (t := call (Value.builtin "len") [Value.ref _]) ?_))); k_dflt (first | (refine' lenL (by k_asm) (by k_mem) (by first | exact ints_size (by with_reducible assumption) | exact strs_size (by with_reducible assumption) | exact rfl) (by first | omega | decide | exact Nat.lt_of_succ_le (Nat.le_of_ble_eq_true rfl)) ?_; k_whole) | (refine' lenT (by k_asm) (by k_mem) (by first | exact ints_size (by with_reducible assumption) | exact strs_size (by with_reducible assumption) | exact rfl) (by first | omega | decide | exact Nat.lt_of_succ_le (Nat.le_of_ble_eq_true rfl)) ?_; k_whole)); (try dsimp only)))) | (with_reducible (((fail_if_success (fail_if_success (with_reducible refine' gd9 (t := call (Value.type _) [Value.ref _]) ?_))); k_dflt (refine' kde_tupleOf (by k_asm) (by k_asm) (by exact News.isList (by k_asm) (by k_mem)) (by (simp only [List.size_toArray]; omega)) (by exact rfl) ?_; k_whole); intro _ _ _ _ l1; (try k_lt l1); revert l1; intro _))) )) )) | walk1) | dsimp only)))
  obtain ⟨m₀, nw₀, tR, hF, hN, hj⟩ : ∃ m₀ nw₀ tR, Fr g L1 _ m₀ ∧ News g L1 _ nw₀ ∧ WsJ w x dx ws t tR 0 m₀ nw₀ := by
    refine ⟨_, [(_, listOf #[] 0), (x, instObj 100 dx), (dx, dictOf [ent w (Str.ofString "raw") _ (.str ws t)] 1)], _, by k_asm, cb_drop (by k_asm) (by walk_at "sub"), ⟨ws0, _, [], _, _, _, _, _, _, rfl, ⟨by decide, by decide, by decide, by decide, fun _ h => nomatch h⟩, .nil, ⟨?_, ?_⟩, rfl, rfl, rfl, rfl, rfl, rfl, rfl, rfl⟩⟩
    · omega
    · omega
  refine for_inv (WsJ w x dx ws t tR) (WsD w x dx ws t tR) (iter_str rfl) hF hN trivial hj (fun _ _ _ _ => trivial) ?fin ?turn ?done
  case fin =>
    rintro m nw ⟨st, l, vs, c, tb, tn, tt, ts, tT, hrun, hbd, hvs, hxl, h1, h2, h3, h4, h5, h6, h7, rfl⟩
    have e : ws.cps.toList.drop ws.cps.size = [] := by simp
    rw [e] at hrun
    have hrun' : st = wsRun ws.cps.toList ws0 := hrun
    have hsz : ws.cps.size ≤ 100 := hws
    exact ⟨st, l, vs, c, tb, tn, tt, hrun', hbd.up hsz, hvs, hxl, h1, h4, h5, h6, h7, rfl⟩
  case turn =>
    rintro i v m₁ nw I oI h tq Kt hi hv ⟨st, l, vs, c, tb, tn, tt, ts, tT, hrun, hbd, hvs, hxl, h1, h2, h3, h4, h5, h6, h7, rfl⟩ off F2 N2 hNx hBk hRt
    obtain ⟨ch, uc, hch, rfl⟩ := hv
    have F3 := fr_known F2 [(Str.ofString "self", .ref x), (Str.ofString "S", .str (Str.ofString " ") ts), (Str.ofString "T", .str (Str.ofString "\t") tT), (Str.ofString "count", .ref l), (Str.ofString "b", .int st.b tb), (Str.ofString "n", .int st.n tn), (Str.ofString "nt", .int st.nt tt), (Str.ofString "ch", .str ⟨#[ch]⟩ uc)] (by ((repeat (refine List.forall_mem_cons.mpr ⟨(by dsimp only; first | exact if_pos rfl | exact (if_neg (by decide +kernel)).trans (by first | with_reducible assumption | assumption) | (with_reducible assumption) | assumption), ?_⟩)); exact List.forall_mem_nil _))
    have hsz : ws.cps.size ≤ 100 := hws
    have hcl : st.cnt.length ≤ 101 := Nat.le_trans hbd.len (by omega)
    have hb1 := hbd.b
    have off' := off
    simp only [List.forall_mem_cons] at off'
    obtain ⟨of1, of2, of3, _⟩ := off'
    clear F2
    (repeat' (first | (k_unfold; (try dsimp only)) | (k_end; wrow_close) | (first | ((fail_if_success (with_reducible refine' gd9 (t := eval _ _) ?_)); (first | (with_reducible (((fail_if_success (fail_if_success (with_reducible refine' gd9 (t := execs (_ :: _) _) ?_))); first | k_gentoks | ((with_reducible refine wpAny_execs_cons ?_); (try dsimp only); k_fold)))) | ((fail_if_success (fail_if_success (with_reducible refine' gd9 (t := call _ _ _) ?_))); (first | (with_reducible (((fail_if_success (fail_if_success (with_reducible refine' gd9 (t := call (Value.builtin "len") [Value.ref _]) ?_))); k_dflt (first | (refine' lenL (by k_asm) (by k_mem) (by first | exact ints_size (by with_reducible assumption) | exact strs_size (by with_reducible assumption) | exact rfl) (by first | omega | decide | exact Nat.lt_of_succ_le (Nat.le_of_ble_eq_true rfl)) ?_; k_whole) | (refine' lenT (by k_asm) (by k_mem) (by first | exact ints_size (by with_reducible assumption) | exact strs_size (by with_reducible assumption) | exact rfl) (by first | omega | decide | exact Nat.lt_of_succ_le (Nat.le_of_ble_eq_true rfl)) ?_; k_whole)); (try dsimp only)))) | (with_reducible (((fail_if_success (fail_if_success (with_reducible refine' gd9 (t := call (Value.type _) [Value.ref _]) ?_))); k_dflt (refine' kde_tupleOf (by k_asm) (by k_asm) (by exact News.isList (by k_asm) (by k_mem)) (by (simp only [List.size_toArray]; omega)) (by exact rfl) ?_; k_whole); intro _ _ _ _ l1; (try k_lt l1); revert l1; intro _))) )) )) | walk1) | ((with_reducible show wpAny _ _ _ _ _ _); dsimp only) | (leave1; walk_say "STEP leave1"; try dsimp only) | fail "no step"))
    · have e := sp_eq (by assumption)
      have hs : wsStep ch st = some { st with n := st.n + 1, b := st.b + 1 } := by rw [wsStep, if_pos e]
      exact hNx _ _ _ _ [(l, listOf vs.toArray c), (x, instObj 100 dx), (dx, dictOf [ent w (Str.ofString "raw") tR (.str ws t)] 1)] (.inl rfl) (by k_asm) (cb_drop (by k_asm) (by walk_at "sub")) off
        ⟨{ st with n := st.n + 1, b := st.b + 1 }, _, vs, _, _, _, _, _, _, ws_next hch hs hrun, step_ok hbd hs, hvs, hxl, rfl, rfl, rfl, rfl, rfl, rfl, rfl, rfl⟩
    · have e := tb_eq (by assumption)
      have e' := sp_ne (by assumption)
      have hs : wsStep ch st = some { cnt := (wsPad st).set st.b.toNat ((wsPad st).getD st.b.toNat 0 + 1), b := 0, n := st.n + 1, nt := st.nt + 1 } := by rw [wsStep, if_neg e', if_pos e]
      have hp : wsPad st = st.cnt ++ (List.replicate (st.b - ↑st.cnt.length + 1).toNat [0]).flatten := by rw [flat_rep]; exact if_pos (by omega)
      refine hNx _ _ _ _ [(_, listOf (List.toArray _) _), (x, instObj 100 dx), (dx, dictOf [ent w (Str.ofString "raw") tR (.str ws t)] 1)] (.inl rfl) (by k_asm) (cb_drop (by k_asm) (by walk_at "sub")) ?_
        ⟨{ cnt := (wsPad st).set st.b.toNat ((wsPad st).getD st.b.toNat 0 + 1), b := 0, n := st.n + 1, nt := st.nt + 1 }, _, _, _, _, _, _, _, _, ws_next hch hs hrun, step_ok hbd hs, by rw [hp]; assumption, ⟨?_, ?_⟩, rfl, rfl, rfl, rfl, rfl, rfl, rfl, rfl⟩
      · simp only [List.forall_mem_cons]; refine ⟨?_, of2, of3, List.forall_mem_nil _⟩; (try dsimp only); omega
      · omega
      · omega
    · have e := tb_eq (by assumption)
      have e' := sp_ne (by assumption)
      have hs : wsStep ch st = some { cnt := (wsPad st).set st.b.toNat ((wsPad st).getD st.b.toNat 0 + 1), b := 0, n := st.n + 1, nt := st.nt + 1 } := by rw [wsStep, if_neg e', if_pos e]
      have hp : wsPad st = st.cnt := if_neg (by omega)
      exact hNx _ _ _ _ [(l, listOf (List.toArray _) c), (x, instObj 100 dx), (dx, dictOf [ent w (Str.ofString "raw") tR (.str ws t)] 1)] (.inl rfl) (by k_asm) (cb_drop (by k_asm) (by walk_at "sub")) (by simp only [List.forall_mem_cons]; exact ⟨of1, of2, of3, List.forall_mem_nil _⟩)
        ⟨{ cnt := (wsPad st).set st.b.toNat ((wsPad st).getD st.b.toNat 0 + 1), b := 0, n := st.n + 1, nt := st.nt + 1 }, _, _, _, _, _, _, _, _, ws_next hch hs hrun, step_ok hbd hs, by rw [hp]; assumption, hxl, rfl, rfl, rfl, rfl, rfl, rfl, rfl, rfl⟩
    · have e := tb_ne (by assumption)
      have e' := sp_ne (by assumption)
      have hR := ws_stop hch (by rw [wsStep, if_neg e', if_neg e]) hrun
      exact hBk _ _ _ [(l, listOf vs.toArray c), (x, instObj 100 dx), (dx, dictOf [ent w (Str.ofString "raw") tR (.str ws t)] 1)] (by k_asm) (cb_drop (by k_asm) (by walk_at "sub"))
        ⟨st, _, vs, _, _, _, _, hR, hbd.up (by omega), hvs, hxl, rfl, rfl, rfl, rfl, rfl, rfl⟩
  case done =>
    rintro m₁ nw h tq ⟨st, l, vs, c, tb, tn, tt, hst, hbd, hvs, hxl, h1, h4, h5, h6, h7, rfl⟩ F2 N2
    have F3 := fr_known F2 [(Str.ofString "self", .ref x), (Str.ofString "count", .ref l), (Str.ofString "b", .int st.b tb), (Str.ofString "n", .int st.n tn), (Str.ofString "nt", .int st.nt tt)] (by ((repeat (refine List.forall_mem_cons.mpr ⟨(by dsimp only; first | exact if_pos rfl | exact (if_neg (by decide +kernel)).trans (by first | with_reducible assumption | assumption) | (with_reducible assumption) | assumption), ?_⟩)); exact List.forall_mem_nil _))
    clear F2
    have hvl : vs.length ≤ 101 := by rw [hvs.length]; exact hbd.len
    have hcl : st.cnt.length ≤ 101 := hbd.len
    have hb1 := hbd.b
    (try dsimp only)
    (repeat' (first | (k_unfold; (try dsimp only)) | (k_end; wrow_close) | (first | ((fail_if_success (with_reducible refine' gd9 (t := eval _ _) ?_)); (first | (with_reducible (((fail_if_success (fail_if_success (with_reducible refine' gd9 (t := execs (_ :: _) _) ?_))); first | k_gentoks | ((with_reducible refine wpAny_execs_cons ?_); (try dsimp only); k_fold)))) | ((fail_if_success (fail_if_success (with_reducible refine' gd9 (t := call _ _ _) ?_))); (first | (with_reducible (((fail_if_success (fail_if_success (with_reducible refine' gd9 (t := call (Value.builtin "len") [Value.ref _]) ?_))); k_dflt (first | (refine' lenL (by k_asm) (by k_mem) (by first | exact ints_size (by with_reducible assumption) | exact strs_size (by with_reducible assumption) | exact rfl) (by first | omega | decide | exact Nat.lt_of_succ_le (Nat.le_of_ble_eq_true rfl)) ?_; k_whole) | (refine' lenT (by k_asm) (by k_mem) (by first | exact ints_size (by with_reducible assumption) | exact strs_size (by with_reducible assumption) | exact rfl) (by first | omega | decide | exact Nat.lt_of_succ_le (Nat.le_of_ble_eq_true rfl)) ?_; k_whole)); (try dsimp only)))) | (with_reducible (((fail_if_success (fail_if_success (with_reducible refine' gd9 (t := call (Value.type _) [Value.ref _]) ?_))); k_dflt (refine' kde_tupleOf (by k_asm) (by k_asm) (by exact News.isList (by k_asm) (by k_mem)) (by (simp only [List.size_toArray]; omega)) (by exact rfl) ?_; k_whole); intro _ _ _ _ l1; (try k_lt l1); revert l1; intro _))) )) )) | walk1) | ((with_reducible show wpAny _ _ _ _ _ _); dsimp only) | (leave1; walk_say "STEP leave1"; try dsimp only) | fail "no step"))
    have hg : ∀ q ∈ news, g.get? q.1 = some q.2 := fun q hq => SK _ _ (Nx q (List.mem_cons_of_mem _ (List.mem_cons_of_mem _ hq))).1 (by
      have h9 := ltN (lx1 q hq)
      simp only [List.map_cons, List.map_nil, List.mem_cons, List.not_mem_nil, or_false, not_or]
      constructor <;> (refine neN ?_; omega))
    (rename Fr g _ _ _ => hF9); (rename News g _ _ _ => hnew)
    have hkeep := hF9.keep
    subst hst
    refine ret x _ _ _ ⟨dx, _, _, vs, _, _, _, _, _, _, _, _, _, hvs, rfl⟩ ?fresh (by k_asm) (news_app (cb_drop (by k_asm) (by walk_at "sub")) fun q hq => ⟨hkeep _ _ (hg q hq), (Nx q (List.mem_cons_of_mem _ (List.mem_cons_of_mem _ hq))).2⟩)
    exact news_off hg (cb_drop hnew (by walk_at "sub"))
end

theorem rs_B2_meth : True := by w_top off; trivial
def wsLong (st : WS) : Int := max ((st.cnt.length : Int) - 1) st.b
section
variable {w : World} {dp un : Nat} {gd : Option (List Code)} {cn : Str} {cs : Scope} {a : Addr} {ccd : Value} {cl : List (Str × Addr)} {outer : List Env} {A₀ : Around} {base h₀ : Heap} {L : Addr} {m : Str → Option Value} {s : Shared} {Q E : Value → Shared → Prop} {mean : ExcName → Option Value} {mg mb : Str → Option Value} {news : List (Addr × Obj)}

set_option maxRecDepth 100000 in
set_option maxHeartbeats 8000000 in
theorem long_c (B : Below A₀ base outer h₀) (F : Fr h₀ L s.heap m) (X : (Mine.hk.heap_1 w.params).In h₀) (N : News h₀ L s.heap news) (T : Top Mine.V LS mean mg mb h₀) (hk : cs.kind = .function)
    (hdp : dp + 5 < recursionLimit) (hun : un + 100 < cLine) {ws : Str} {x : Addr} {own : List (Addr × Obj)} (hx : WsIn w ws x own) (hown : ∀ p ∈ own, p ∈ news)
    (hlen : (wsOf ws).cnt.length ≤ 101) (hb : 0 ≤ (wsOf ws).b ∧ (wsOf ws).b ≤ 100)
    (ret : ∀ (t : Tok) (h' : Heap) (tk' : Nat), Fr h₀ L h' m → News h₀ L h' news → Q (.int (wsLong (wsOf ws)) t) { s with heap := h', toks := tk' }) :
    wpAny (model PySem.Challenge.rw_wo0081_01.row.prog w) (ktrTop dp un gd cn cs L a ccd cl outer) (call (.ref 62) [.ref x]) Q E s := by
  obtain ⟨dx, d1, d2, vs, t0, t1, t2, t3, t4, t5, t6, t7, tb, hvs, rfl⟩ := hx
  have hvl : vs.length ≤ 101 := by rw [hvs.length]; omega
  refine wpAny_call ?_
  (k_dflt (refine' code_defG ?k1 ?k2 ?k3 ?k4 ?k5 ?kA ?kF ?kK ?k6 ?k7 ?k8 ?k9 ?kB ?_ ?c2 ?c3 ?c4 ?c5; (case kA => exact rfl); (case kF => exact rfl); (case kK => first | exact rfl | assumption); (case k1 => k_asm); (case k2 => k_asm); (case k3 => k_asm); (case k5 => k_asm); (case k6 => k_is); (case k7 => k_is); (case k8 => ktr_room); (case k9 => first | exact BindsTo.of_eq rfl | exact binds_K (by k_in) rfl (by k_is) rfl rfl rfl | fail "k_enter: no rule for these arguments"); (case kB => exact locs rfl); (case c2 => exact rfl); (case c3 => exact rfl); (case c4 => exact rfl); (case c5 => decide); k_whole))
  case k4 => exact cb_drop N hown
  intro g L1 h1 FG F1 N1 B1 X1 T1 SK LT
  replace LT := allLt_of LT; simp only [AllLt, and_true] at LT
  (try dsimp only); (try k_fold)
  (repeat' (first | (k_unfold; (try dsimp only)) | (k_end; wrow_close) | (first | ((fail_if_success (with_reducible refine' gd9 (t := eval _ _) ?_)); (first | (with_reducible (((fail_if_success (fail_if_success (with_reducible refine' gd9 (t := execs (_ :: _) _) ?_))); first | k_gentoks | ((with_reducible refine wpAny_execs_cons ?_); (try dsimp only); k_fold)))) | (with_reducible (((fail_if_success (fail_if_success (with_reducible refine' gd9 (t := call (Value.builtin "len") [Value.ref _]) ?_))); k_dflt (first | (refine' lenL (by k_asm) (by k_mem) (by first | exact ints_size (by with_reducible assumption) | exact strs_size (by with_reducible assumption) | exact rfl) (by first | omega | decide | exact Nat.lt_of_succ_le (Nat.le_of_ble_eq_true rfl)) ?_; k_whole) | (refine' lenT (by k_asm) (by k_mem) (by first | exact ints_size (by with_reducible assumption) | exact strs_size (by with_reducible assumption) | exact rfl) (by first | omega | decide | exact Nat.lt_of_succ_le (Nat.le_of_ble_eq_true rfl)) ?_; k_whole)); (try dsimp only)))) )) | walk1) | ((with_reducible show wpAny _ _ _ _ _ _); dsimp only) | (leave1; walk_say "STEP leave1"; try dsimp only) | fail "no step"))
  rw [show (if (wsOf ws).b > ((wsOf ws).cnt.length : Int) - 1 then (wsOf ws).b else ((wsOf ws).cnt.length : Int) - 1) = wsLong (wsOf ws) by unfold wsLong; split <;> omega]
  (rename Fr g _ _ _ => hF9); (rename News g _ _ _ => hnew)
  exact ret _ _ _ (by k_asm) (news_ro N hown SK hF9.keep (cb_drop hnew (by walk_at "sub")))
end

theorem rs_B3_ind : True := by w_top off; trivial
theorem range_sm {a b : Int} (ha : -1000 ≤ a ∧ a ≤ 1000) (hb : -1000 ≤ b ∧ b ≤ 1000) : Builtin.Range.small a b 1 = true := by
  unfold Builtin.Range.small
  rw [range_sz]
  simp only [Builtin.Range.rangeFitsLong, Bool.and_eq_true, Bool.or_eq_true, decide_eq_true_eq, beq_iff_eq]
  simp only [Int.reducePow, Int.reduceNeg, Int.reduceGT, if_true, Int.sub_self, Int.add_zero, decide_eq_true_eq, Bool.and_eq_true]
  refine ⟨⟨⟨⟨⟨?_, ?_⟩, ⟨?_, ?_⟩⟩, by decide⟩, ⟨?_, ?_⟩⟩, Or.inr ⟨?_, ?_⟩⟩ <;> omega
def indSum (ts : Int) (cnt : List Int) : Nat → Int
  | 0 => 0
  | k + 1 => indSum ts cnt k + (ts + (k : Int)).fdiv ts * cnt.getD (ts + (k : Int)).toNat 0
def wsInd (st : WS) (ts : Int) : Int := st.b + ts * (indSum ts st.cnt ((st.cnt.length : Int) - ts).toNat + st.nt)
section
variable {w : World} {dp un : Nat} {gd : Option (List Code)} {cn : Str} {cs : Scope} {a : Addr} {ccd : Value} {cl : List (Str × Addr)} {outer : List Env} {A₀ : Around} {base h₀ : Heap} {L : Addr} {m : Str → Option Value} {s : Shared} {Q E : Value → Shared → Prop} {mean : ExcName → Option Value} {mg mb : Str → Option Value} {news : List (Addr × Obj)}

set_option maxRecDepth 100000 in
set_option maxHeartbeats 8000000 in
theorem ind_c (B : Below A₀ base outer h₀) (F : Fr h₀ L s.heap m) (X : (Mine.hk.heap_1 w.params).In h₀) (N : News h₀ L s.heap news) (T : Top Mine.V LS mean mg mb h₀) (hk : cs.kind = .function)
    (hdp : dp + 5 < recursionLimit) (hun : un + 100 < cLine) {ws : Str} {x : Addr} {own : List (Addr × Obj)} (hx : WsIn w ws x own) (hown : ∀ p ∈ own, p ∈ news)
    (hlen : (wsOf ws).cnt.length ≤ 101) (hb : 0 ≤ (wsOf ws).b ∧ (wsOf ws).b ≤ 100) (hnt : 0 ≤ (wsOf ws).nt ∧ (wsOf ws).nt ≤ 100) (hcnt : ∀ v ∈ (wsOf ws).cnt, 0 ≤ v ∧ v ≤ 100) {ts : Int} {tt : Tok} (hts : 1 ≤ ts ∧ ts ≤ 101)
    (ret : ∀ (t : Tok) (h' : Heap) (tk' : Nat), Fr h₀ L h' m → News h₀ L h' news → Q (.int (wsInd (wsOf ws) ts) t) { s with heap := h', toks := tk' }) :
    wpAny (model PySem.Challenge.rw_wo0081_01.row.prog w) (ktrTop dp un gd cn cs L a ccd cl outer) (call (.ref 69) [.ref x, .int ts tt]) Q E s := by
  obtain ⟨dx, d1, d2, vs, t0, t1, t2, t3, t4, t5, t6, t7, tb, hvs, rfl⟩ := hx
  have hvl : vs.length ≤ 101 := by rw [hvs.length]; omega
  refine wpAny_call ?_
  (k_dflt (refine' code_defG ?k1 ?k2 ?k3 ?k4 ?k5 ?kA ?kF ?kK ?k6 ?k7 ?k8 ?k9 ?kB ?_ ?c2 ?c3 ?c4 ?c5; (case kA => exact rfl); (case kF => exact rfl); (case kK => first | exact rfl | assumption); (case k1 => k_asm); (case k2 => k_asm); (case k3 => k_asm); (case k5 => k_asm); (case k6 => k_is); (case k7 => k_is); (case k8 => ktr_room); (case k9 => first | exact BindsTo.of_eq rfl | exact binds_K (by k_in) rfl (by k_is) rfl rfl rfl | fail "k_enter: no rule for these arguments"); (case kB => exact locs rfl); (case c2 => exact rfl); (case c3 => exact rfl); (case c4 => exact rfl); (case c5 => decide); k_whole))
  case k4 => exact cb_drop N hown
  intro g L1 h1 FG F1 N1 B1 X1 T1 SK LT
  replace LT := allLt_of LT; simp only [AllLt, and_true] at LT
  (try dsimp only); (try k_fold)
  (repeat ((fail_if_success (with_reducible show wpAny _ _ (pyIter _) _ _ _)); (first | (first | ((fail_if_success (with_reducible refine' gd9 (t := eval _ _) ?_)); (first | (with_reducible (((fail_if_success (fail_if_success (with_reducible refine' gd9 (t := execs (_ :: _) _) ?_))); first | k_gentoks | ((with_reducible refine wpAny_execs_cons ?_); (try dsimp only); k_fold)))) | (with_reducible (((fail_if_success (fail_if_success (with_reducible refine' gd9 (t := call (Value.builtin "len") [Value.ref _]) ?_))); k_dflt (first | (refine' lenL (by k_asm) (by k_mem) (by first | exact ints_size (by with_reducible assumption) | exact strs_size (by with_reducible assumption) | exact rfl) (by first | omega | decide | exact Nat.lt_of_succ_le (Nat.le_of_ble_eq_true rfl)) ?_; k_whole) | (refine' lenT (by k_asm) (by k_mem) (by first | exact ints_size (by with_reducible assumption) | exact strs_size (by with_reducible assumption) | exact rfl) (by first | omega | decide | exact Nat.lt_of_succ_le (Nat.le_of_ble_eq_true rfl)) ?_; k_whole)); (try dsimp only)))) | (with_reducible (((fail_if_success (fail_if_success (with_reducible refine' gd9 (t := subscriptTail _ _ (Value.ref _) (Value.int _ _)) ?_))); k_dflt (refine' tup_int (by k_asm) (by k_mem) (by assumption) (by omega) (by omega) (by omega) ?_); intro _))) )) | walk1) | dsimp only)))
  (rename Fr g L1 _ _ => hF); (rename News g L1 _ _ => hN); (rename IsRange _ _ _ _ _ _ _ _ => hR)
  refine for_inv (n := (((wsOf ws).cnt.length : Int) - ts).toNat) (fun k m₁ nw => nw = _ ∧ m₁ (Str.ofString "self") = some (.ref x) ∧ m₁ (Str.ofString "count") = some (.ref d2) ∧ (∃ t, m₁ (Str.ofString "tabsize") = some (.int ts t)) ∧ (∃ t, m₁ (Str.ofString "trailing") = some (.int (wsOf ws).b t)) ∧ ∃ t, m₁ (Str.ofString "il") = some (.int (indSum ts (wsOf ws).cnt k) t)) _
    (iter_range rfl hR (range_sm (by omega) (by omega)) (by exact range_sz)) hF hN trivial ⟨rfl, rfl, rfl, ⟨_, rfl⟩, ⟨_, rfl⟩, ⟨_, rfl⟩⟩ (fun _ _ _ _ => trivial) (fun _ _ h => h) ?turn ?done
  case turn =>
    rintro i v m₁ nw I oI h tq Kt hi hv ⟨rfl, h1, h2, ⟨u1, h3⟩, ⟨u2, h4⟩, ⟨u3, h5⟩⟩ off F2 N2 hNx hBk hRt
    obtain ⟨uc, rfl⟩ := hv
    have F3 := fr_known F2 [(Str.ofString "self", .ref x), (Str.ofString "count", .ref d2), (Str.ofString "tabsize", .int ts u1), (Str.ofString "trailing", .int (wsOf ws).b u2), (Str.ofString "il", .int (indSum ts (wsOf ws).cnt i) u3), (Str.ofString "i", .int (ts + (i : Int)) uc)] (by ((repeat (refine List.forall_mem_cons.mpr ⟨(by dsimp only; first | exact if_pos rfl | exact (if_neg (by decide +kernel)).trans (by first | with_reducible assumption | assumption) | (with_reducible assumption) | assumption), ?_⟩)); exact List.forall_mem_nil _))
    clear F2
    have hc9 : 0 ≤ (wsOf ws).cnt.getD (ts + (i : Int)).toNat 0 ∧ (wsOf ws).cnt.getD (ts + (i : Int)).toNat 0 ≤ 100 := by
      have hlt : (ts + (i : Int)).toNat < (wsOf ws).cnt.length := by omega
      have := hcnt _ (List.getElem_mem hlt)
      simpa [List.getD, hlt] using this
    (repeat' (first | (k_unfold; (try dsimp only)) | (k_end; wrow_close) | (first | ((fail_if_success (with_reducible refine' gd9 (t := eval _ _) ?_)); (first | (with_reducible (((fail_if_success (fail_if_success (with_reducible refine' gd9 (t := execs (_ :: _) _) ?_))); first | k_gentoks | ((with_reducible refine wpAny_execs_cons ?_); (try dsimp only); k_fold)))) | (with_reducible (((fail_if_success (fail_if_success (with_reducible refine' gd9 (t := call (Value.builtin "len") [Value.ref _]) ?_))); k_dflt (first | (refine' lenL (by k_asm) (by k_mem) (by first | exact ints_size (by with_reducible assumption) | exact strs_size (by with_reducible assumption) | exact rfl) (by first | omega | decide | exact Nat.lt_of_succ_le (Nat.le_of_ble_eq_true rfl)) ?_; k_whole) | (refine' lenT (by k_asm) (by k_mem) (by first | exact ints_size (by with_reducible assumption) | exact strs_size (by with_reducible assumption) | exact rfl) (by first | omega | decide | exact Nat.lt_of_succ_le (Nat.le_of_ble_eq_true rfl)) ?_; k_whole)); (try dsimp only)))) | (with_reducible (((fail_if_success (fail_if_success (with_reducible refine' gd9 (t := subscriptTail _ _ (Value.ref _) (Value.int _ _)) ?_))); k_dflt (refine' tup_int (by k_asm) (by k_mem) (by assumption) (by omega) (by omega) (by omega) ?_); intro _))) )) | walk1) | ((with_reducible show wpAny _ _ _ _ _ _); dsimp only) | (leave1; walk_say "STEP leave1"; try dsimp only) | fail "no step"))
    exact hNx _ _ _ _ _ (.inl rfl) (by k_asm) (cb_drop (by k_asm) (by walk_at "sub")) off ⟨rfl, rfl, rfl, ⟨_, rfl⟩, ⟨_, rfl⟩, ⟨_, rfl⟩⟩
  case done =>
    rintro m₁ nw h tq ⟨rfl, h1, h2, ⟨u1, h3⟩, ⟨u2, h4⟩, ⟨u3, h5⟩⟩ F2 N2
    have F3 := fr_known F2 [(Str.ofString "self", .ref x), (Str.ofString "count", .ref d2), (Str.ofString "tabsize", .int ts u1), (Str.ofString "trailing", .int (wsOf ws).b u2), (Str.ofString "il", .int (indSum ts (wsOf ws).cnt (((wsOf ws).cnt.length : Int) - ts).toNat) u3)] (by ((repeat (refine List.forall_mem_cons.mpr ⟨(by dsimp only; first | exact if_pos rfl | exact (if_neg (by decide +kernel)).trans (by first | with_reducible assumption | assumption) | (with_reducible assumption) | assumption), ?_⟩)); exact List.forall_mem_nil _))
    clear F2
    (try dsimp only)
    (repeat' (first | (k_unfold; (try dsimp only)) | (k_end; wrow_close) | (first | ((fail_if_success (with_reducible refine' gd9 (t := eval _ _) ?_)); (first | (with_reducible (((fail_if_success (fail_if_success (with_reducible refine' gd9 (t := execs (_ :: _) _) ?_))); first | k_gentoks | ((with_reducible refine wpAny_execs_cons ?_); (try dsimp only); k_fold)))) | (with_reducible (((fail_if_success (fail_if_success (with_reducible refine' gd9 (t := call (Value.builtin "len") [Value.ref _]) ?_))); k_dflt (first | (refine' lenL (by k_asm) (by k_mem) (by first | exact ints_size (by with_reducible assumption) | exact strs_size (by with_reducible assumption) | exact rfl) (by first | omega | decide | exact Nat.lt_of_succ_le (Nat.le_of_ble_eq_true rfl)) ?_; k_whole) | (refine' lenT (by k_asm) (by k_mem) (by first | exact ints_size (by with_reducible assumption) | exact strs_size (by with_reducible assumption) | exact rfl) (by first | omega | decide | exact Nat.lt_of_succ_le (Nat.le_of_ble_eq_true rfl)) ?_; k_whole)); (try dsimp only)))) | (with_reducible (((fail_if_success (fail_if_success (with_reducible refine' gd9 (t := subscriptTail _ _ (Value.ref _) (Value.int _ _)) ?_))); k_dflt (refine' tup_int (by k_asm) (by k_mem) (by assumption) (by omega) (by omega) (by omega) ?_); intro _))) )) | walk1) | ((with_reducible show wpAny _ _ _ _ _ _); dsimp only) | (leave1; walk_say "STEP leave1"; try dsimp only) | fail "no step"))
    (rename Fr g _ _ _ => hF9); (rename News g _ _ _ => hnew)
    exact ret _ _ _ (by k_asm) (news_ro N hown SK hF9.keep (cb_drop hnew (by walk_at "sub")))
end

theorem rs_B4_eq : True := by w_top off; trivial
theorem ints_reads {h : Heap} : ∀ {vs : List Value} {ns : List Int}, IntsAre vs ns → PySem.ReadsAll h vs (ns.map PyData.int) []
  | _, _, .nil => ReadsAll.nil
  | _, _, .cons _ _ hr => ReadsAll.cons (as := []) (Reads.int _ _) (ints_reads hr)
local macro_rules | `(tactic| ked_reads) => `(tactic| exact ints_reads (by with_reducible assumption))
def wsEq (p q : WS) : Bool := decide (p.cnt = q.cnt) && (p.b == q.b)
section
variable {w : World} {dp un : Nat} {gd : Option (List Code)} {cn : Str} {cs : Scope} {a : Addr} {ccd : Value} {cl : List (Str × Addr)} {outer : List Env} {A₀ : Around} {base h₀ : Heap} {L : Addr} {m : Str → Option Value} {s : Shared} {Q E : Value → Shared → Prop} {mean : ExcName → Option Value} {mg mb : Str → Option Value} {news : List (Addr × Obj)}

set_option maxRecDepth 100000 in
set_option maxHeartbeats 8000000 in
theorem equal_c (B : Below A₀ base outer h₀) (F : Fr h₀ L s.heap m) (X : (Mine.hk.heap_1 w.params).In h₀) (N : News h₀ L s.heap news) (T : Top Mine.V LS mean mg mb h₀) (hk : cs.kind = .function)
    (hdp : dp + 5 < recursionLimit) (hun : un + 100 < cLine) {ws ws' : Str} {x x' : Addr} {own own' : List (Addr × Obj)} (hx : WsIn w ws x own) (hx' : WsIn w ws' x' own') (hown : ∀ p ∈ own ++ own', p ∈ news)
    (ret : ∀ (h' : Heap) (tk' : Nat), Fr h₀ L h' m → News h₀ L h' news → Q (.bool (wsEq (wsOf ws) (wsOf ws'))) { s with heap := h', toks := tk' }) :
    wpAny (model PySem.Challenge.rw_wo0081_01.row.prog w) (ktrTop dp un gd cn cs L a ccd cl outer) (call (.ref 76) [.ref x, .ref x']) Q E s := by
  obtain ⟨dx, d1, d2, vs, t0, t1, t2, t3, t4, t5, t6, t7, tb, hvs, rfl⟩ := hx
  obtain ⟨dx', d1', d2', vs', t0', t1', t2', t3', t4', t5', t6', t7', tb', hvs', rfl⟩ := hx'
  simp only [List.cons_append, List.nil_append] at hown
  refine wpAny_call ?_
  (k_dflt (refine' code_defG ?k1 ?k2 ?k3 ?k4 ?k5 ?kA ?kF ?kK ?k6 ?k7 ?k8 ?k9 ?kB ?_ ?c2 ?c3 ?c4 ?c5; (case kA => exact rfl); (case kF => exact rfl); (case kK => first | exact rfl | assumption); (case k1 => k_asm); (case k2 => k_asm); (case k3 => k_asm); (case k5 => k_asm); (case k6 => k_is); (case k7 => k_is); (case k8 => ktr_room); (case k9 => first | exact BindsTo.of_eq rfl | exact binds_K (by k_in) rfl (by k_is) rfl rfl rfl | fail "k_enter: no rule for these arguments"); (case kB => exact locs rfl); (case c2 => exact rfl); (case c3 => exact rfl); (case c4 => exact rfl); (case c5 => decide); k_whole))
  case k4 => exact cb_drop N hown
  intro g L1 h1 FG F1 N1 B1 X1 T1 SK LT
  replace LT := allLt_of LT; simp only [AllLt, and_true] at LT
  (try dsimp only); (try k_fold)
  (repeat' (first | (k_unfold; (try dsimp only)) | (k_end; wrow_close) | (first | ((fail_if_success (with_reducible refine' gd9 (t := eval _ _) ?_)); (first | (with_reducible (((fail_if_success (fail_if_success (with_reducible refine' gd9 (t := execs (_ :: _) _) ?_))); first | k_gentoks | ((with_reducible refine wpAny_execs_cons ?_); (try dsimp only); k_fold)))) | (with_reducible (((fail_if_success (fail_if_success (with_reducible refine' gd9 (t := compareOp CmpOp.Eq (Value.ref _) (Value.ref _)) ?_))); k_dflt (refine eq_dataH (by ked_read) (by ked_read) (by ked_shaped) (by ked_shaped) (by ktr_units) ?_); ked_norm))) )) | walk1) | ((with_reducible show wpAny _ _ _ _ _ _); dsimp only) | (leave1; walk_say "STEP leave1"; try dsimp only) | fail "no step"))
  exact ret _ _ (by k_asm) (news_ro N hown SK F1.keep N1)
end

theorem rs_B5_less : True := by w_top off; trivial
theorem run_ok : ∀ (l : List Nat) (k : Nat) (st : WS), WsOk k st → WsOk (k + l.length) (wsRun l st)
  | [], _, _, h => h
  | c :: r, k, st, h => by
    unfold wsRun
    cases hs : wsStep c st with
    | none => exact h.up (by simp)
    | some st' => exact (run_ok r (k + 1) st' (step_ok h hs)).up (by simp; omega)
theorem ws_ok {ws : Str} (h : ws.length ≤ 100) : WsOk 100 (wsOf ws) := by
  refine (run_ok ws.cps.toList 0 ws0 ⟨by decide, by decide, by decide, by decide, by intro v hv; cases hv⟩).up ?_
  have : ws.cps.size ≤ 100 := h
  simpa using this
theorem long_ok {k : Nat} {st : WS} (h : WsOk k st) : 0 ≤ wsLong st ∧ wsLong st ≤ k := by
  have h1 := h.len; have h2 := h.b
  unfold wsLong; omega
theorem cut_rest {M : Model} {A : Around} {Q : Flow → Shared → Prop} {E : Value → Shared → Prop} {s : Shared} {c : Sem Flow} {P : Prop} (rest : ∀ tk, P → Q Flow.next { s with toks := tk }) (now : (∀ tk, P → Q Flow.next { s with toks := tk }) → wpAny M A c Q E s) : wpAny M A c Q E s := now rest
def wsTop (p q : WS) : Int := max (wsLong p) (wsLong q) + 1
def wsLess (p q : WS) : Bool := if p.n ≥ q.n then false else if ((p.cnt.length : Int) ≤ 1) ∧ ((q.cnt.length : Int) ≤ 1) then decide (p.nt ≤ q.nt) else (List.range (wsTop p q + 1 - 2).toNat).all fun k => decide (wsInd p (2 + (k : Int)) < wsInd q (2 + (k : Int)))
section
variable {w : World} {dp un : Nat} {gd : Option (List Code)} {cn : Str} {cs : Scope} {a : Addr} {ccd : Value} {cl : List (Str × Addr)} {outer : List Env} {A₀ : Around} {base h₀ : Heap} {L : Addr} {m : Str → Option Value} {s : Shared} {Q E : Value → Shared → Prop} {mean : ExcName → Option Value} {mg mb : Str → Option Value} {news : List (Addr × Obj)}

set_option maxRecDepth 100000 in
set_option maxHeartbeats 8000000 in
theorem less_c (B : Below A₀ base outer h₀) (F : Fr h₀ L s.heap m) (X : (Mine.hk.heap_1 w.params).In h₀) (N : News h₀ L s.heap news) (T : Top Mine.V LS mean mg mb h₀) (hk : cs.kind = .function)
    (hdp : dp + 7 < recursionLimit) (hun : un + 200 < cLine) {ws ws' : Str} {x x' : Addr} {own own' : List (Addr × Obj)} (hx : WsIn w ws x own) (hx' : WsIn w ws' x' own') (hown : ∀ p ∈ own ++ own', p ∈ news)
    (ok : WsOk 100 (wsOf ws)) (ok' : WsOk 100 (wsOf ws'))
    (ret : ∀ (h' : Heap) (tk' : Nat), Fr h₀ L h' m → News h₀ L h' news → Q (.bool (wsLess (wsOf ws) (wsOf ws'))) { s with heap := h', toks := tk' }) :
    wpAny (model PySem.Challenge.rw_wo0081_01.row.prog w) (ktrTop dp un gd cn cs L a ccd cl outer) (call (.ref 90) [.ref x, .ref x']) Q E s := by
  have hx0 := hx
  have hx0' := hx'
  obtain ⟨dx, d1, d2, vs, t0, t1, t2, t3, t4, t5, t6, t7, tb, hvs, rfl⟩ := hx
  obtain ⟨dx', d1', d2', vs', t0', t1', t2', t3', t4', t5', t6', t7', tb', hvs', rfl⟩ := hx'
  simp only [List.cons_append, List.nil_append] at hown
  have hl1 := long_ok ok
  have hl2 := long_ok ok'
  refine wpAny_call ?_
  (k_dflt (refine' code_defG ?k1 ?k2 ?k3 ?k4 ?k5 ?kA ?kF ?kK ?k6 ?k7 ?k8 ?k9 ?kB ?_ ?c2 ?c3 ?c4 ?c5; (case kA => exact rfl); (case kF => exact rfl); (case kK => first | exact rfl | assumption); (case k1 => k_asm); (case k2 => k_asm); (case k3 => k_asm); (case k5 => k_asm); (case k6 => k_is); (case k7 => k_is); (case k8 => ktr_room); (case k9 => first | exact BindsTo.of_eq rfl | exact binds_K (by k_in) rfl (by k_is) rfl rfl rfl | fail "k_enter: no rule for these arguments"); (case kB => exact locs rfl); (case c2 => exact rfl); (case c3 => exact rfl); (case c4 => exact rfl); (case c5 => decide); k_whole))
  case k4 => exact cb_drop N hown
  intro g L1 h1 FG F1 N1 B1 X1 T1 SK LT
  replace LT := allLt_of LT; simp only [AllLt, and_true] at LT
  (try dsimp only); (try k_fold)
  have hq1 : (wsOf ws').n ≤ (wsOf ws).n → wsLess (wsOf ws) (wsOf ws') = false := fun h => if_pos h
  repeat' ((fail_if_success (with_reducible show wpAny _ _ (exec (Stmt.If (Expr.BoolOp _ _ _) _ _ _) _) _ _ _)); (first | (first | ((fail_if_success (with_reducible refine' gd9 (t := eval _ _) ?_)); (first | (with_reducible (((fail_if_success (fail_if_success (with_reducible refine' gd9 (t := execs (_ :: _) _) ?_))); first | k_gentoks | ((with_reducible refine wpAny_execs_cons ?_); (try dsimp only); k_fold)))) | ((fail_if_success (fail_if_success (with_reducible refine' gd9 (t := call _ _ _) ?_))); (first | (with_reducible (((fail_if_success (fail_if_success (with_reducible refine' gd9 (t := call (Value.ref 69) _) ?_))); k_dflt (refine' ind_c (by k_asm) (by k_asm) (by k_asm) (by k_asm) (by k_asm) (by first | rfl | assumption) (by ktr_room) (by ktr_units) (by with_reducible assumption) (by walk_at "sub") (by exact WsOk.len (by assumption)) (by exact WsOk.b (by assumption)) (by exact WsOk.nt (by assumption)) (by exact WsOk.cnt (by assumption)) (by omega) ?_); intro _ _ _ _ _; (try dsimp only); (try k_fold)))) | (with_reducible (((fail_if_success (fail_if_success (with_reducible refine' gd9 (t := call (Value.ref 62) _) ?_))); k_dflt (refine' long_c (by k_asm) (by k_asm) (by k_asm) (by k_asm) (by k_asm) (by first | rfl | assumption) (by ktr_room) (by ktr_units) (by with_reducible assumption) (by walk_at "sub") (by exact WsOk.len (by assumption)) (by exact WsOk.b (by assumption)) ?_); intro _ _ _ _ _; (try dsimp only); (try k_fold)))) )) )) | walk1) | dsimp only))
  case _ => rw [hq1 (by assumption)] at ret; exact ret _ _ (by k_asm) (news_ro N hown SK F1.keep N1)
  refine cut_rest (P := ¬(((wsOf ws).cnt.length : Int) ≤ 1 ∧ ((wsOf ws').cnt.length : Int) ≤ 1)) (fun tk hne => ?rest) (fun rest => ?now)
  case now =>
    repeat' (first | (with_reducible exact rest _ (by omega)) | (first | ((fail_if_success (with_reducible refine' gd9 (t := eval _ _) ?_)); (first | (with_reducible (((fail_if_success (fail_if_success (with_reducible refine' gd9 (t := execs (_ :: _) _) ?_))); first | k_gentoks | ((with_reducible refine wpAny_execs_cons ?_); (try dsimp only); k_fold)))) | ((fail_if_success (fail_if_success (with_reducible refine' gd9 (t := call _ _ _) ?_))); (first | (with_reducible (((fail_if_success (fail_if_success (with_reducible refine' gd9 (t := call (Value.ref 69) _) ?_))); k_dflt (refine' ind_c (by k_asm) (by k_asm) (by k_asm) (by k_asm) (by k_asm) (by first | rfl | assumption) (by ktr_room) (by ktr_units) (by with_reducible assumption) (by walk_at "sub") (by exact WsOk.len (by assumption)) (by exact WsOk.b (by assumption)) (by exact WsOk.nt (by assumption)) (by exact WsOk.cnt (by assumption)) (by omega) ?_); intro _ _ _ _ _; (try dsimp only); (try k_fold)))) | (with_reducible (((fail_if_success (fail_if_success (with_reducible refine' gd9 (t := call (Value.ref 62) _) ?_))); k_dflt (refine' long_c (by k_asm) (by k_asm) (by k_asm) (by k_asm) (by k_asm) (by first | rfl | assumption) (by ktr_room) (by ktr_units) (by with_reducible assumption) (by walk_at "sub") (by exact WsOk.len (by assumption)) (by exact WsOk.b (by assumption)) ?_); intro _ _ _ _ _; (try dsimp only); (try k_fold)))) )) )) | walk1) | dsimp only)
    rw [show wsLess (wsOf ws) (wsOf ws') = decide ((wsOf ws).nt ≤ (wsOf ws').nt) by unfold wsLess; rw [if_neg (by assumption), if_pos ⟨by assumption, by assumption⟩]] at ret; exact ret _ _ (by k_asm) (news_ro N hown SK F1.keep N1)
  case rest =>
    k_unfold
    (try dsimp only)
    (repeat ((fail_if_success (with_reducible show wpAny _ _ (pyIter _) _ _ _)); (first | (first | ((fail_if_success (with_reducible refine' gd9 (t := eval _ _) ?_)); (first | (with_reducible (((fail_if_success (fail_if_success (with_reducible refine' gd9 (t := execs (_ :: _) _) ?_))); first | k_gentoks | ((with_reducible refine wpAny_execs_cons ?_); (try dsimp only); k_fold)))) | ((fail_if_success (fail_if_success (with_reducible refine' gd9 (t := call _ _ _) ?_))); (first | (with_reducible (((fail_if_success (fail_if_success (with_reducible refine' gd9 (t := call (Value.ref 69) _) ?_))); k_dflt (refine' ind_c (by k_asm) (by k_asm) (by k_asm) (by k_asm) (by k_asm) (by first | rfl | assumption) (by ktr_room) (by ktr_units) (by with_reducible assumption) (by walk_at "sub") (by exact WsOk.len (by assumption)) (by exact WsOk.b (by assumption)) (by exact WsOk.nt (by assumption)) (by exact WsOk.cnt (by assumption)) (by omega) ?_); intro _ _ _ _ _; (try dsimp only); (try k_fold)))) | (with_reducible (((fail_if_success (fail_if_success (with_reducible refine' gd9 (t := call (Value.ref 62) _) ?_))); k_dflt (refine' long_c (by k_asm) (by k_asm) (by k_asm) (by k_asm) (by k_asm) (by first | rfl | assumption) (by ktr_room) (by ktr_units) (by with_reducible assumption) (by walk_at "sub") (by exact WsOk.len (by assumption)) (by exact WsOk.b (by assumption)) ?_); intro _ _ _ _ _; (try dsimp only); (try k_fold)))) )) )) | walk1) | dsimp only)))
    have htop : 1 ≤ wsTop (wsOf ws) (wsOf ws') ∧ wsTop (wsOf ws) (wsOf ws') ≤ 101 := by unfold wsTop; omega
    (rename IsRange _ _ 2 _ _ _ _ _ => hR)
    rw [show (if wsLong (wsOf ws') > wsLong (wsOf ws) then wsLong (wsOf ws') else wsLong (wsOf ws)) + 1 + 1 = wsTop (wsOf ws) (wsOf ws') + 1 by unfold wsTop; split <;> omega] at hR
    have hless : wsLess (wsOf ws) (wsOf ws') = (List.range (wsTop (wsOf ws) (wsOf ws') + 1 - 2).toNat).all fun k => decide (wsInd (wsOf ws) (2 + (k : Int)) < wsInd (wsOf ws') (2 + (k : Int))) := by
      unfold wsLess; rw [if_neg (by omega), if_neg (by omega)]
    (rename Fr g L1 _ _ => hF); (rename News g L1 _ _ => hN)
    refine for_inv (n := (wsTop (wsOf ws) (wsOf ws') + 1 - 2).toNat) (fun i m₁ nw => nw = _ ∧ m₁ (Str.ofString "self") = some (.ref x) ∧ m₁ (Str.ofString "other") = some (.ref x') ∧ ∀ k : Nat, k < i → wsInd (wsOf ws) (2 + (k : Int)) < wsInd (wsOf ws') (2 + (k : Int))) _
      (iter_range rfl hR (range_sm (by omega) (by omega)) range_sz) hF hN trivial ⟨rfl, rfl, rfl, fun k hk => absurd hk (Nat.not_lt_zero k)⟩ (fun _ _ _ _ => trivial) (fun _ _ h => h) ?turn ?done
    case turn =>
      rintro i v m₁ nw I oI h tq Kt hi hv ⟨rfl, h1, h2, h3⟩ off F2 N2 hNx hBk hRt
      obtain ⟨uc, rfl⟩ := hv
      have F3 := fr_known F2 [(Str.ofString "self", .ref x), (Str.ofString "other", .ref x'), (Str.ofString "ts", .int (2 + (i : Int)) uc)] (by ((repeat (refine List.forall_mem_cons.mpr ⟨(by dsimp only; first | exact if_pos rfl | exact (if_neg (by decide +kernel)).trans (by first | with_reducible assumption | assumption) | (with_reducible assumption) | assumption), ?_⟩)); exact List.forall_mem_nil _))
      clear F2 hF hN
      (repeat' (first | (k_unfold; (try dsimp only)) | (k_end; wrow_close) | (first | ((fail_if_success (with_reducible refine' gd9 (t := eval _ _) ?_)); (first | (with_reducible (((fail_if_success (fail_if_success (with_reducible refine' gd9 (t := execs (_ :: _) _) ?_))); first | k_gentoks | ((with_reducible refine wpAny_execs_cons ?_); (try dsimp only); k_fold)))) | ((fail_if_success (fail_if_success (with_reducible refine' gd9 (t := call _ _ _) ?_))); (first | (with_reducible (((fail_if_success (fail_if_success (with_reducible refine' gd9 (t := call (Value.ref 69) _) ?_))); k_dflt (refine' ind_c (by k_asm) (by k_asm) (by k_asm) (by k_asm) (by k_asm) (by first | rfl | assumption) (by ktr_room) (by ktr_units) (by with_reducible assumption) (by walk_at "sub") (by exact WsOk.len (by assumption)) (by exact WsOk.b (by assumption)) (by exact WsOk.nt (by assumption)) (by exact WsOk.cnt (by assumption)) (by omega) ?_); intro _ _ _ _ _; (try dsimp only); (try k_fold)))) | (with_reducible (((fail_if_success (fail_if_success (with_reducible refine' gd9 (t := call (Value.ref 62) _) ?_))); k_dflt (refine' long_c (by k_asm) (by k_asm) (by k_asm) (by k_asm) (by k_asm) (by first | rfl | assumption) (by ktr_room) (by ktr_units) (by with_reducible assumption) (by walk_at "sub") (by exact WsOk.len (by assumption)) (by exact WsOk.b (by assumption)) ?_); intro _ _ _ _ _; (try dsimp only); (try k_fold)))) )) )) | walk1) | ((with_reducible show wpAny _ _ _ _ _ _); dsimp only) | (leave1; walk_say "STEP leave1"; try dsimp only) | fail "no step"))
      · refine hRt _ _ ?_
        (try dsimp only)
        (repeat' (first | (k_unfold; (try dsimp only)) | (k_end; wrow_close) | (first | ((fail_if_success (with_reducible refine' gd9 (t := eval _ _) ?_)); (first | (with_reducible (((fail_if_success (fail_if_success (with_reducible refine' gd9 (t := execs (_ :: _) _) ?_))); first | k_gentoks | ((with_reducible refine wpAny_execs_cons ?_); (try dsimp only); k_fold)))) | ((fail_if_success (fail_if_success (with_reducible refine' gd9 (t := call _ _ _) ?_))); (first | (with_reducible (((fail_if_success (fail_if_success (with_reducible refine' gd9 (t := call (Value.ref 69) _) ?_))); k_dflt (refine' ind_c (by k_asm) (by k_asm) (by k_asm) (by k_asm) (by k_asm) (by first | rfl | assumption) (by ktr_room) (by ktr_units) (by with_reducible assumption) (by walk_at "sub") (by exact WsOk.len (by assumption)) (by exact WsOk.b (by assumption)) (by exact WsOk.nt (by assumption)) (by exact WsOk.cnt (by assumption)) (by omega) ?_); intro _ _ _ _ _; (try dsimp only); (try k_fold)))) | (with_reducible (((fail_if_success (fail_if_success (with_reducible refine' gd9 (t := call (Value.ref 62) _) ?_))); k_dflt (refine' long_c (by k_asm) (by k_asm) (by k_asm) (by k_asm) (by k_asm) (by first | rfl | assumption) (by ktr_room) (by ktr_units) (by with_reducible assumption) (by walk_at "sub") (by exact WsOk.len (by assumption)) (by exact WsOk.b (by assumption)) ?_); intro _ _ _ _ _; (try dsimp only); (try k_fold)))) )) )) | walk1) | ((with_reducible show wpAny _ _ _ _ _ _); dsimp only) | (leave1; walk_say "STEP leave1"; try dsimp only) | fail "no step"))
        (rename Fr g _ _ _ => hF9); (rename News g _ _ _ => hnew)
        rw [hless] at ret
        have hfalse : ((List.range (wsTop (wsOf ws) (wsOf ws') + 1 - 2).toNat).all fun k => decide (wsInd (wsOf ws) (2 + (k : Int)) < wsInd (wsOf ws') (2 + (k : Int)))) = false := by
          rw [List.all_eq_false]; exact ⟨i, List.mem_range.mpr hi, by simp only [decide_eq_true_eq]; omega⟩
        rw [hfalse] at ret
        exact ret _ _ (by k_asm) (news_ro N hown SK hF9.keep (cb_drop hnew (by walk_at "sub")))
      · exact hNx _ _ _ _ _ (.inl rfl) (by k_asm) (cb_drop (by k_asm) (by walk_at "sub")) off ⟨rfl, rfl, rfl, fun k hk => by
          by_cases e : k = i
          · subst e; omega
          · exact h3 k (by omega)⟩
    case done =>
      rintro m₁ nw h tq ⟨rfl, h1, h2, h3⟩ F2 N2
      (try dsimp only)
      clear hF hN
      (repeat' (first | (k_unfold; (try dsimp only)) | (k_end; wrow_close) | (first | ((fail_if_success (with_reducible refine' gd9 (t := eval _ _) ?_)); (first | (with_reducible (((fail_if_success (fail_if_success (with_reducible refine' gd9 (t := execs (_ :: _) _) ?_))); first | k_gentoks | ((with_reducible refine wpAny_execs_cons ?_); (try dsimp only); k_fold)))) | ((fail_if_success (fail_if_success (with_reducible refine' gd9 (t := call _ _ _) ?_))); (first | (with_reducible (((fail_if_success (fail_if_success (with_reducible refine' gd9 (t := call (Value.ref 69) _) ?_))); k_dflt (refine' ind_c (by k_asm) (by k_asm) (by k_asm) (by k_asm) (by k_asm) (by first | rfl | assumption) (by ktr_room) (by ktr_units) (by with_reducible assumption) (by walk_at "sub") (by exact WsOk.len (by assumption)) (by exact WsOk.b (by assumption)) (by exact WsOk.nt (by assumption)) (by exact WsOk.cnt (by assumption)) (by omega) ?_); intro _ _ _ _ _; (try dsimp only); (try k_fold)))) | (with_reducible (((fail_if_success (fail_if_success (with_reducible refine' gd9 (t := call (Value.ref 62) _) ?_))); k_dflt (refine' long_c (by k_asm) (by k_asm) (by k_asm) (by k_asm) (by k_asm) (by first | rfl | assumption) (by ktr_room) (by ktr_units) (by with_reducible assumption) (by walk_at "sub") (by exact WsOk.len (by assumption)) (by exact WsOk.b (by assumption)) ?_); intro _ _ _ _ _; (try dsimp only); (try k_fold)))) )) )) | walk1) | ((with_reducible show wpAny _ _ _ _ _ _); dsimp only) | (leave1; walk_say "STEP leave1"; try dsimp only) | fail "no step"))
      (rename Fr g _ _ _ => hF9); (rename News g _ _ _ => hnew)
      rw [hless] at ret
      have htrue : ((List.range (wsTop (wsOf ws) (wsOf ws') + 1 - 2).toNat).all fun k => decide (wsInd (wsOf ws) (2 + (k : Int)) < wsInd (wsOf ws') (2 + (k : Int)))) = true := by
        rw [List.all_eq_true]; intro k hk; exact decide_eq_true (h3 k (List.mem_range.mp hk))
      rw [htrue] at ret
      exact ret _ _ (by k_asm) (news_ro N hown SK hF9.keep (cb_drop hnew (by walk_at "sub")))
end

theorem rs_C0_re : True := by w_top off; trivial
open PySem.Builtin.Re in
def drv : Nat → Sre.M → Option Sre.M
  | 0, _ => none
  | n + 1, m => let m' := m.runFor reTurnSteps; if m'.outcome.isSome then some m' else drv n m'
open PySem.Builtin.Re in
theorem re_drive {M : Model} {A : Around} {E : Value → Shared → Prop} {s : Shared} {Q : Sre.M → Shared → Prop} : ∀ (n turns : Nat) (m m' : Sre.M), n ≤ turns → drv n m = some m' → Q m' s → wpAny M A (reDrive turns m) Q E s
  | 0, _, _, _, _, h, _ => nomatch h
  | n + 1, 0, _, _, h, _, _ => absurd h (by omega)
  | n + 1, turns + 1, m, m', hn, h, hq => by
    unfold drv at h
    unfold reDrive
    dsimp only at h ⊢
    split at h
    · rename_i ho; rw [if_pos ho]; cases h; exact wpAny_pure hq
    · rename_i ho; rw [if_neg ho]
      exact wpAny_bind (wpAny_rule (re_drive n turns _ m' (by omega) h hq))
theorem re_rules {M : Model} {A : Around} {E : Value → Shared → Prop} {s : Shared} (p : Nat → Bool) (f : Nat → String) : ∀ (l : List Nat) {Q : PUnit → Shared → Prop}, Q ⟨⟩ s →
    wpAny M A (forIn l PUnit.unit fun i _ => if p i = true then do rule (f i); pure (ForInStep.yield PUnit.unit) else pure (ForInStep.yield PUnit.unit)) Q E s
  | [], _, h => wpAny_pure h
  | i :: l, Q, h => by
    rw [List.forIn_cons]
    refine wpAny_bind ?_
    split
    · exact wpAny_bind (wpAny_rule (wpAny_pure (re_rules p f l h)))
    · exact wpAny_pure (re_rules p f l h)
namespace ReF
open PySem.F
theorem plainAttrs_pat : PlainAttrs "re.Pattern" :=
  ⟨⟨"object.__getattribute__", by rw [typeLookup_type, builtinLookup_eq_fast]; kernel_rfl, by decide +kernel⟩, by rw [typeLookup_type, builtinLookup_eq_fast]; kernel_rfl⟩
theorem slot_search : Slot "re.Pattern" "search" "re.Pattern.search" :=
  .of (owner := "re.Pattern") (n := "search") (by rw [typeLookup_type, builtinLookup_eq_fast]; kernel_rfl) (by decide +kernel) (by decide +kernel) (by decide +kernel)
    (by first | exact .inl (by decide +kernel) | exact .inr (by decide +kernel)) (by rw [isSubtype_type]; kernel_rfl)
theorem type_search : typeOf (.builtin "re.Pattern.search") = pure (.type "method_descriptor") := by show builtinType _ = _; rw [builtinType_eq_fast]; kernel_rfl
theorem entry_search : entryFor table "re.Pattern.search" = some Builtin.«re.Pattern.search» := entryFor_of_tree (by kernel_rfl)
theorem args_search (a b : Value) : argsOk "re.Pattern.search" ⟨[a, b], []⟩ := by
  unfold argsOk; kernel_rfl
theorem noBool_match : typeLookup (.type "re.Match") "__bool__" = pure none := by rw [typeLookup_type, builtinLookup_eq_fast]; kernel_rfl
theorem noLen_match : typeLookup (.type "re.Match") "__len__" = pure none := by rw [typeLookup_type, builtinLookup_eq_fast]; kernel_rfl
end ReF
open PySem.Builtin PySem.Builtin.Re in
section
variable {prog : Program} {w : World} {A : Around} {E : Value → Shared → Prop} {s : Shared}
theorem re_named {v : Value} : reNamed "re.Pattern.search" "search" ["string", "pos", "endpos"] 1 [v] [] = pure [some v, none, none] := by
  with_unfolding_all rfl
theorem re_items {M : Model} {c : Addr} {o : Obj} {vs : Array Value} {n : Nat} {Q : Array Int → Shared → Prop} (ho : s.heap.get? c = some o) (hd : o.data = .seq vs n) (h : Q (vs.map reRawOf) s) : wpAny M A (reRawItems (.ref c)) Q E s := by
  unfold reRawItems
  exact wpAny_bind (wpAny_seqItems ho hd (wpAny_pure h))
/-- what a search in a text does: the machine's end -/
def reEnd (code : Array Nat) (x : Str) : Option Sre.M := drv 200 (Sre.forSearch code x.cps 0 0 x.cps.size false)
theorem re_target {p c : Addr} {o oc : Obj} {x : Str} {t tp u0 u1 u2 : Tok} {pat : Str} {fl : Int} {vs : Array Value} {n : Nat} {Q : ReTarget → Shared → Prop} (hx : x.length ≤ 1000) (ho : s.heap.get? p = some o) (hd : o.data = .fields #[.str pat tp, .int fl u0, .int 0 u1, .none, .none, .ref c, .int 0 u2])
    (hc : s.heap.get? c = some oc) (hcd : oc.data = .seq vs n)
    (h : Q { pattern := .ref p, string := .str x t, code := (vs.map reRawOf).map (·.toNat), text := x.cps, kind := 0, groups := 0, pos := 0, lim := x.cps.size } s) :
    wpAny (model prog w) A (reTarget "re.Pattern.search" "search" ⟨[.ref p, .str x t], []⟩) Q E s := by
  unfold reTarget
  (try dsimp only)
  rw [re_named]
  refine wpAny_bind (wpAny_pure ?_)
  (try dsimp only)
  refine wpAny_bind (wpAny_pure ?_)
  refine wpAny_bind (wpAny_pure ?_)
  refine wpAny_bind (wpAny_fieldsOf ho hd ?_)
  refine wpAny_bind (wpAny_bind (wpAny_pure (wpAny_pure ?_)))
  (try dsimp only)
  change wpAny _ _ (ite _ _ _) _ _ _
  rw [if_neg (by simp)]
  refine wpAny_bind (wpAny_pure ?_)
  have hx' : x.cps.size ≤ 1000 := hx
  have e1 : Min.min (Int.toNat 0) x.cps.size = 0 := by simp
  have e2 : Min.min (2 ^ 63 - 1 : Int).toNat x.cps.size = x.cps.size := by
    rw [show (2 ^ 63 - 1 : Int).toNat = 9223372036854775807 by decide]; omega
  refine wpAny_bind (re_items hc hcd (wpAny_pure ?_))
  rw [e1, e2]; exact h
theorem re_none {t : ReTarget} {m' : Sre.M} {Q : Fin → Shared → Prop} (hr : drv 200 (Sre.forSearch t.code t.text t.groups t.pos t.lim false) = some m') (ho : m'.outcome = some .failed) (h : Q (.done (.ret .none)) s) :
    wpAny (model prog w) A (reAnswer t (Sre.forSearch t.code t.text t.groups t.pos t.lim false)) Q E s := by
  unfold reAnswer reRunToEnd
  refine wpAny_bind (wpAny_bind (re_drive 200 _ _ _ (by decide) hr ?_))
  refine wpAny_bind (re_rules _ _ _ ?_)
  rw [ho]
  exact wpAny_pure (wpAny_pure h)
theorem re_found {t : ReTarget} {m' : Sre.M} {Q : Fin → Shared → Prop} (hg : t.groups = 0) (hr : drv 200 (Sre.forSearch t.code t.text t.groups t.pos t.lim false) = some m') (ho : m'.outcome = some .matched)
    (h : ∀ r h', (∀ b o, s.heap.get? b = some o → h'.get? b = some o) → (∃ o, h'.get? r = some o ∧ o.cls = .type "re.Match") → Q (.done (.ret (.ref r))) { s with heap := h' }) :
    wpAny (model prog w) A (reAnswer t (Sre.forSearch t.code t.text t.groups t.pos t.lim false)) Q E s := by
  unfold reAnswer reRunToEnd
  refine wpAny_bind (wpAny_bind (re_drive 200 _ _ _ (by decide) hr ?_))
  refine wpAny_bind (re_rules _ _ _ ?_)
  rw [ho]
  refine wpAny_pure ?_
  (try dsimp only)
  rw [hg]
  refine wpAny_bind ?_
  unfold reNewMatch
  (try dsimp only)
  rw [if_neg (by simp)]
  refine wpAny_bind (wpAny_newTuple ?_ (by simp [sizeLine]))
  unfold newFields
  refine wpAny_newObj_type (wpAny_pure ?_) (by first | trivial | size_fits)
  refine h _ _ (fun b o e => ?_) ⟨_, Heap.get?_push_size _ rfl, rfl⟩
  exact Heap.get?_push_of_some _ (Heap.get?_push_of_some _ e)
theorem search_none {p c : Addr} {o oc : Obj} {x : Str} {t tp u0 u1 u2 : Tok} {pat : Str} {fl : Int} {vs : Array Value} {n : Nat} {code : Array Nat} {m' : Sre.M} {Q : Value → Shared → Prop} (hx : x.length ≤ 1000) (ho : s.heap.get? p = some o) (hcl : o.cls = .type "re.Pattern") (hd : o.data = .fields #[.str pat tp, .int fl u0, .int 0 u1, .none, .none, .ref c, .int 0 u2])
    (hc : s.heap.get? c = some oc) (hcd : oc.data = .seq vs n) (hcode : (vs.map reRawOf).map (·.toNat) = code) (hr : reEnd code x = some m') (hf : m'.outcome = some .failed) (h : Q .none s) :
    wpAny (model prog w) A (call (.builtin "re.Pattern.search") [.ref p, .str x t]) Q E s := by
  refine wpAny_call_entry ReF.slot_search ⟨_, ho, hcl⟩ ReF.entry_search ?_ (ReF.args_search _ _)
  unfold «re.Pattern.search»
  refine wpAny_bind (re_target hx ho hd hc hcd ?_)
  refine re_none (m' := m') ?_ hf ⟨_, rfl, h⟩
  dsimp only; rw [hcode]; exact hr
theorem search_found {p c : Addr} {o oc : Obj} {x : Str} {t tp u0 u1 u2 : Tok} {pat : Str} {fl : Int} {vs : Array Value} {n : Nat} {code : Array Nat} {m' : Sre.M} {Q : Value → Shared → Prop} (hx : x.length ≤ 1000) (ho : s.heap.get? p = some o) (hcl : o.cls = .type "re.Pattern") (hd : o.data = .fields #[.str pat tp, .int fl u0, .int 0 u1, .none, .none, .ref c, .int 0 u2])
    (hc : s.heap.get? c = some oc) (hcd : oc.data = .seq vs n) (hcode : (vs.map reRawOf).map (·.toNat) = code) (hr : reEnd code x = some m') (hf : m'.outcome = some .matched)
    (h : ∀ r h', (∀ b o, s.heap.get? b = some o → h'.get? b = some o) → (∃ o, h'.get? r = some o ∧ o.cls = .type "re.Match") → Q (.ref r) { s with heap := h' }) :
    wpAny (model prog w) A (call (.builtin "re.Pattern.search") [.ref p, .str x t]) Q E s := by
  refine wpAny_call_entry ReF.slot_search ⟨_, ho, hcl⟩ ReF.entry_search ?_ (ReF.args_search _ _)
  unfold «re.Pattern.search»
  refine wpAny_bind (re_target hx ho hd hc hcd ?_)
  refine re_found (m' := m') rfl ?_ hf fun r h' k e => ⟨_, rfl, h r h' k e⟩
  dsimp only; rw [hcode]; exact hr
theorem truthy_match {r : Addr} {Q : Bool → Shared → Prop} (hr : ∃ o, s.heap.get? r = some o ∧ o.cls = .type "re.Match") (h : Q true s) : wpAny (model prog w) A (truthy (.ref r)) Q E s := by
  have hT : s.TypeIs (.ref r) "re.Match" := hr
  unfold truthy
  first
    | refine wpAny_bind (wpAny_callSpecial?_none (name := Str.ofString "__bool__") hT ReF.noBool_match ?_)
    | refine wpAny_bind (wpAny_pure (wpAny_bind (wpAny_callSpecial?_none (name := Str.ofString "__bool__") hT ReF.noBool_match ?_)))
  first
    | refine wpAny_bind (wpAny_specialOf (name := Str.ofString "__len__") hT ReF.noLen_match ?_)
    | refine wpAny_bind (wpAny_pure (wpAny_bind (wpAny_specialOf (name := Str.ofString "__len__") hT ReF.noLen_match ?_)))
  exact wpAny_pure h
end

theorem rs_C1_conv : True := by w_top off; trivial
def codeN : Array Nat := #[14, 10, 4, 1, 1, 22, 0, 31, 16, 127, 0, 13, 7, 22, 0, 31, 16, 127, 0, 1]
def codeV : Array Nat := #[14, 14, 4, 1, 1, 9, 4294966783, 0, 0, 2147483648, 0, 0, 0, 0, 0, 13, 11, 9, 4294966783, 0, 0, 2147483648, 0, 0, 0, 0, 0, 1]
def codeOf (b : Bool) : Array Nat := if b then codeN else codeV
/-- a text that a Headers takes: no control signs -/
def Takes (b : Bool) (x : Str) : Prop := ∃ m', reEnd (codeOf b) x = some m' ∧ m'.outcome = some .failed
def Refuses (b : Bool) (x : Str) : Prop := ∃ m', reEnd (codeOf b) x = some m' ∧ m'.outcome = some .matched
def takesB (b : Bool) (x : Str) : Bool := match reEnd (codeOf b) x with | some m' => (match m'.outcome with | some .failed => true | _ => false) | none => false
def refusesB (b : Bool) (x : Str) : Bool := match reEnd (codeOf b) x with | some m' => (match m'.outcome with | some .matched => true | _ => false) | none => false
theorem takes_of {b : Bool} {x : Str} (h : takesB b x = true) : Takes b x := by
  unfold takesB at h
  split at h
  · rename_i m' e; refine ⟨m', e, ?_⟩; split at h
    · assumption
    · cases h
  · cases h
theorem refuses_of {b : Bool} {x : Str} (h : refusesB b x = true) : Refuses b x := by
  unfold refusesB at h
  split at h
  · rename_i m' e; refine ⟨m', e, ?_⟩; split at h
    · assumption
    · cases h
  · cases h
section
variable {prog : Program} {w : World} {A : Around} {E : Value → Shared → Prop} {s : Shared} {K : Frag} {L : Addr} {h₀ : Heap} {m : Str → Option Value}
theorem pat_method {p : Addr} {o : Obj} {pl : Sem Bool} {Q : Value × List Value → Shared → Prop} (X : K.In h₀) (F : Fr h₀ L s.heap m) (hk : K.lookup p = some o) (hcl : o.cls = .type "re.Pattern") (hdd : o.dict = none)
    (h : Q (.builtin "re.Pattern.search", [.ref p]) s) : wpAny (model prog w) A (getMethod (.ref p) (Str.ofString "search") pl) Q E s :=
  have ho := (X.keeps F.keep) _ _ hk
  getMethod_builtin ⟨_, ho, hcl⟩ ReF.plainAttrs_pat ReF.slot_search ReF.type_search (fun a e => by cases e; exact ⟨_, ho, hdd⟩) h
theorem searchN {p c : Addr} {o oc : Obj} {x : Str} {t tp u0 u1 u2 : Tok} {pat : Str} {fl : Int} {vs : Array Value} {n : Nat} {b : Bool} {Q : Value → Shared → Prop} (X : K.In h₀) (F : Fr h₀ L s.heap m) (hx : x.length ≤ 1000) (ho : K.lookup p = some o) (hcl : o.cls = .type "re.Pattern") (hd : o.data = .fields #[.str pat tp, .int fl u0, .int 0 u1, .none, .none, .ref c, .int 0 u2])
    (hc : K.lookup c = some oc) (hcd : oc.data = .seq vs n) (hcode : (vs.map PySem.Builtin.Re.reRawOf).map (·.toNat) = codeOf b) (ht : Takes b x) (h : Q .none s) :
    wpAny (model prog w) A (call (.builtin "re.Pattern.search") [.ref p, .str x t]) Q E s := by
  obtain ⟨m', hr, hf⟩ := ht
  exact search_none hx ((X.keeps F.keep) _ _ ho) hcl hd ((X.keeps F.keep) _ _ hc) hcd hcode hr hf h
theorem searchF {p c : Addr} {o oc : Obj} {x : Str} {t tp u0 u1 u2 : Tok} {pat : Str} {fl : Int} {vs : Array Value} {n : Nat} {b : Bool} {news : List (Addr × Obj)} {Q : Value → Shared → Prop} (X : K.In h₀) (F : Fr h₀ L s.heap m) (N : News h₀ L s.heap news) (hx : x.length ≤ 1000) (ho : K.lookup p = some o) (hcl : o.cls = .type "re.Pattern") (hd : o.data = .fields #[.str pat tp, .int fl u0, .int 0 u1, .none, .none, .ref c, .int 0 u2])
    (hc : K.lookup c = some oc) (hcd : oc.data = .seq vs n) (hcode : (vs.map PySem.Builtin.Re.reRawOf).map (·.toNat) = codeOf b) (ht : Refuses b x) (h : ∀ r h', Fr h₀ L h' m → News h₀ L h' news → (∃ o, h'.get? r = some o ∧ o.cls = .type "re.Match") → Q (.ref r) { s with heap := h' }) :
    wpAny (model prog w) A (call (.builtin "re.Pattern.search") [.ref p, .str x t]) Q E s := by
  obtain ⟨m', hr, hf⟩ := ht
  exact search_found hx ((X.keeps F.keep) _ _ ho) hcl hd ((X.keeps F.keep) _ _ hc) hcd hcode hr hf fun r h' k e => h r h' (F.keeps k) (news_up N k) e
end
section
variable {w : World} {dp un : Nat} {gd : Option (List Code)} {cn : Str} {cs : Scope} {a : Addr} {ccd : Value} {cl : List (Str × Addr)} {outer : List Env} {A₀ : Around} {base h₀ : Heap} {L : Addr} {m : Str → Option Value} {s : Shared} {Q E : Value → Shared → Prop} {mean : ExcName → Option Value} {mg mb : Str → Option Value} {news : List (Addr × Obj)}

set_option maxRecDepth 100000 in
set_option maxHeartbeats 8000000 in
theorem conv_c (B : Below A₀ base outer h₀) (F : Fr h₀ L s.heap m) (X : (Mine.hk.heap_1 w.params).In h₀) (N : News h₀ L s.heap news) (T : Top Mine.V LS mean mg mb h₀) (hk : cs.kind = .function)
    (hdp : dp + 5 < recursionLimit) (hun : un + 100 < cLine) {self : Value} {x : Str} {t : Tok} {b : Bool} (hx : x.length ≤ 1000) (ht : Takes b x)
    (ret : ∀ (h' : Heap) (tk' : Nat), Fr h₀ L h' m → News h₀ L h' news → Q (.str x t) { s with heap := h', toks := tk' }) :
    wpAny (model PySem.Challenge.rw_wo0081_01.row.prog w) (ktrTop dp un gd cn cs L a ccd cl outer) (call (.ref 203) [self, .str x t] [(Str.ofString "name", .bool b)]) Q E s := by
  cases b
  all_goals (
    refine wpAny_call ?_
    (k_dflt (refine' code_defG ?k1 ?k2 ?k3 ?k4 ?k5 ?kA ?kF ?kK ?k6 ?k7 ?k8 ?k9 ?kB ?_ ?c2 ?c3 ?c4 ?c5; (case kA => exact rfl); (case kF => exact rfl); (case kK => first | exact rfl | assumption); (case k1 => k_asm); (case k2 => k_asm); (case k3 => k_asm); (case k5 => k_asm); (case k6 => k_is); (case k7 => k_is); (case k8 => ktr_room); (case k9 => first | exact BindsTo.of_eq rfl | exact binds_K (by k_in) rfl (by k_is) rfl rfl rfl | fail "k_enter: no rule for these arguments"); (case kB => exact locs rfl); (case c2 => exact rfl); (case c3 => exact rfl); (case c4 => exact rfl); (case c5 => decide); k_whole))
    case k4 => exact cb_drop (news := []) N (by walk_at "sub")
    intro g L1 h1 FG F1 N1 B1 X1 T1 SK LT
    (try dsimp only); (try k_fold)
    (repeat' (first | (k_unfold; (try dsimp only)) | (k_end; wrow_close) | (first | ((fail_if_success (with_reducible refine' gd9 (t := eval _ _) ?_)); (first | (with_reducible (((fail_if_success (fail_if_success (with_reducible refine' gd9 (t := execs (_ :: _) _) ?_))); first | k_gentoks | ((with_reducible refine wpAny_execs_cons ?_); (try dsimp only); k_fold)))) | (with_reducible (((fail_if_success (fail_if_success (with_reducible refine' gd9 (t := getMethod (Value.ref _) (PySem.Str.ofString "search") _) ?_))); k_dflt (refine' pat_method (by k_asm) (by k_asm) (by k_is) (by rfl) (by rfl) ?_)))) | (with_reducible (((fail_if_success (fail_if_success (with_reducible refine' gd9 (t := call (Value.builtin "re.Pattern.search") _) ?_))); first | (k_dflt (refine' searchF ?zX9 ?zF9 ?zN9 ?zx9 ?zk9 ?zc9 ?zd9 ?zk29 ?zd29 ?ze9 ?zt9 ?_; (case zX9 => k_asm); (case zF9 => k_asm); (case zN9 => k_asm); (case zx9 => assumption); (case zk9 => k_is); (case zc9 => rfl); (case zd9 => rfl); (case zk29 => k_is); (case zd29 => rfl); (case zt9 => with_reducible assumption); (case ze9 => decide +kernel)); intro _ _ _ _ _; (try dsimp only); (try k_fold)) | (k_dflt (refine' searchN ?zX9 ?zF9 ?zx9 ?zk9 ?zc9 ?zd9 ?zk29 ?zd29 ?ze9 ?zt9 ?_; (case zX9 => k_asm); (case zF9 => k_asm); (case zx9 => assumption); (case zk9 => k_is); (case zc9 => rfl); (case zd9 => rfl); (case zk29 => k_is); (case zd29 => rfl); (case zt9 => with_reducible assumption); (case ze9 => decide +kernel)))))) )) | walk1) | ((with_reducible show wpAny _ _ _ _ _ _); dsimp only) | (leave1; walk_say "STEP leave1"; try dsimp only) | fail "no step"))
    (rename Fr g _ _ _ => hF9)
    exact ret _ _ (by k_asm) (news_up N fun b o e => hF9.keep _ _ (SK b o e (by simp))))
end

theorem rs_C2_getall : True := by w_top off; trivial
theorem allLt_mem {d : Nat} : ∀ {l : List (Addr × Obj)}, AllLt d l → ∀ p ∈ l, @LT.lt Nat _ p.1 d
  | [], _, _, h => nomatch h
  | _ :: _, x, p, h => by
    rcases List.mem_cons.mp h with rfl | h
    · exact x.1
    · exact allLt_mem x.2 p h
local macro_rules | `(tactic| k_all) => `(tactic| first | ((with_reducible refine' List.forall_mem_cons.mpr ⟨?a, ?b⟩); (case a => k_ne); (case b => k_all)) | (exact fun p hp => Nat.ne_of_lt (Nat.lt_of_lt_of_le (allLt_mem (by first | with_reducible assumption | assumption) p hp) (by first | exact Nat.le_refl _ | exact Nat.le_succ _ | omega))))
abbrev pairOf (k v : Str) (tk tv : Tok) (n : Nat) : Obj := { cls := .type "tuple", data := .seq #[.str k tk, .str v tv] n }
inductive PairsAre (P : Str → Tok → Prop) (nw : List (Addr × Obj)) : List Value → List (Str × Str) → Prop
  | nil : PairsAre P nw [] []
  | cons {p : Addr} {k v : Str} {tk tv : Tok} {n : Nat} {ps : List Value} {al : List (Str × Str)} : (p, pairOf k v tk tv n) ∈ nw → P v tv → PairsAre P nw ps al → PairsAre P nw (.ref p :: ps) ((k, v) :: al)
theorem PairsAre.mono {P : Str → Tok → Prop} {nw nw' : List (Addr × Obj)} {ps : List Value} {al : List (Str × Str)} (h : PairsAre P nw ps al) (hs : ∀ p ∈ nw, p ∈ nw') : PairsAre P nw' ps al := by
  induction h with
  | nil => exact .nil
  | cons hm hp _ ih => exact .cons (hs _ hm) hp ih
theorem PairsAre.length {P : Str → Tok → Prop} {nw : List (Addr × Obj)} {ps : List Value} {al : List (Str × Str)} (h : PairsAre P nw ps al) : ps.length = al.length := by
  induction h with
  | nil => rfl
  | cons _ _ _ ih => simp [ih]
theorem PairsAre.app {P : Str → Tok → Prop} {nw : List (Addr × Obj)} {ps qs : List Value} {al bl : List (Str × Str)} (h : PairsAre P nw ps al) (h' : PairsAre P nw qs bl) : PairsAre P nw (ps ++ qs) (al ++ bl) := by
  induction h with
  | nil => exact h'
  | cons hm hp _ ih => exact .cons hm hp ih
theorem PairsAre.weak {P P' : Str → Tok → Prop} {nw : List (Addr × Obj)} {ps : List Value} {al : List (Str × Str)} (h : PairsAre P nw ps al) (hp : ∀ v t, P v t → P' v t) : PairsAre P' nw ps al := by
  induction h with
  | nil => exact .nil
  | cons hm h9 _ ih => exact .cons hm (hp _ _ h9) ih
theorem PairsAre.at {P : Str → Tok → Prop} {nw : List (Addr × Obj)} {ps : List Value} {al : List (Str × Str)} (h : PairsAre P nw ps al) : ∀ {i : Nat} {v : Value}, ps[i]? = some v → ∃ p k x tk tx n, v = .ref p ∧ (p, pairOf k x tk tx n) ∈ nw ∧ al[i]? = some (k, x) ∧ P x tx := by
  induction h with
  | nil => intro i v h; simp at h
  | @cons p k x tk tx n ps al hm h9 hr ih =>
    intro i v h
    cases i with
    | zero => cases h; exact ⟨p, k, x, tk, tx, n, rfl, hm, rfl, h9⟩
    | succ i => exact ih h
/-- what stands of an atlas beside its list -/
def AtIn (P : Str → Tok → Prop) (w : World) (al : List (Str × Str)) (x l : Addr) (ps : List Value) (fix : List (Addr × Obj)) : Prop :=
  ∃ (dA : Addr) (t : Tok) (own : List (Addr × Obj)), fix = (x, instObj 302 dA) :: (dA, dictOf [ent w (Str.ofString "_headers") t (.ref l)] 1) :: own ∧ PairsAre P own ps al
structure AtOk (al : List (Str × Str)) : Prop where
  len : al.length ≤ 100
  key : ∀ p ∈ al, p.1.length ≤ 100
  val : ∀ p ∈ al, p.2.length ≤ 100
theorem AtOk.at {al : List (Str × Str)} (h : AtOk al) {i : Nat} {k x : Str} (e : al[i]? = some (k, x)) : k.length ≤ 100 ∧ x.length ≤ 100 :=
  have m := List.mem_of_getElem? e
  ⟨h.key _ m, h.val _ m⟩
theorem news_mut {h₀ h g h' : Heap} {L L' l : Addr} {o o' : Obj} {rest fix : List (Addr × Obj)} (N : News h₀ L h ((l, o) :: rest)) (hoff : ∀ q ∈ rest, q.1 ≠ l) (hfix : ∀ p ∈ fix, p ∈ rest) (SK : ∀ b q, h.get? b = some q → b ∉ ((l, o) :: fix).map (·.1) → g.get? b = some q)
    (hk : ∀ b o, g.get? b = some o → h'.get? b = some o) (N9 : News g L' h' ((l, o') :: fix)) : News h₀ L h' ((l, o') :: rest) := fun p hp => by
  rcases List.mem_cons.mp hp with rfl | hp
  · exact ⟨(N9 _ List.mem_cons_self).1, (N (l, o) List.mem_cons_self).2⟩
  · refine ⟨?_, (N p (List.mem_cons_of_mem _ hp)).2⟩
    by_cases e : p.1 ∈ fix.map (·.1)
    · obtain ⟨q, hq, hqp⟩ := List.mem_map.mp e
      have a := (N q (List.mem_cons_of_mem _ (hfix q hq))).1
      have b := (N p (List.mem_cons_of_mem _ hp)).1
      rw [hqp, b] at a
      have c := (N9 q (List.mem_cons_of_mem _ hq)).1
      rw [hqp] at c; rw [c]; exact a.symm
    · refine hk _ _ (SK _ _ (N p (List.mem_cons_of_mem _ hp)).1 ?_)
      rw [List.map_cons, List.mem_cons]
      exact fun z => z.elim (hoff p hp) e
def getAll (al : List (Str × Str)) (name : Str) : List Str := (al.filter fun p => Txt.lower p.1 == Txt.lower name).map (·.2)
theorem getAll_hit {al : List (Str × Str)} {name k x : Str} {c : Nat} (h : al[c]? = some (k, x)) (e : (Txt.lower k == Txt.lower name) = true) : getAll (al.take (c + 1)) name = getAll (al.take c) name ++ [x] := by
  unfold getAll
  rw [List.take_add_one, h, List.filter_append, List.map_append]
  simp [e]
theorem getAll_miss {al : List (Str × Str)} {name k x : Str} {c : Nat} (h : al[c]? = some (k, x)) (e : (Txt.lower k == Txt.lower name) = false) : getAll (al.take (c + 1)) name = getAll (al.take c) name := by
  unfold getAll
  rw [List.take_add_one, h, List.filter_append, List.map_append]
  simp [e]
section
variable {w : World} {dp un : Nat} {gd : Option (List Code)} {cn : Str} {cs : Scope} {a : Addr} {ccd : Value} {cl : List (Str × Addr)} {outer : List Env} {A₀ : Around} {base h₀ : Heap} {L : Addr} {m : Str → Option Value} {s : Shared} {Q E : Value → Shared → Prop} {mean : ExcName → Option Value} {mg mb : Str → Option Value} {news : List (Addr × Obj)}

set_option maxRecDepth 100000 in
set_option maxHeartbeats 8000000 in
theorem getall_c (B : Below A₀ base outer h₀) (F : Fr h₀ L s.heap m) (X : (Mine.hk.heap_1 w.params).In h₀) {x l : Addr} {ps : List Value} {c : Nat} {rest fix : List (Addr × Obj)} {al : List (Str × Str)} {P : Str → Tok → Prop} (N : News h₀ L s.heap ((l, listOf ps.toArray c) :: rest)) (T : Top Mine.V LS mean mg mb h₀) (hk : cs.kind = .function)
    (hdp : dp + 7 < recursionLimit) (hun : un + 200 < cLine) (hat : AtIn P w al x l ps fix) (hfix : ∀ p ∈ fix, p ∈ rest) (hoff : ∀ q ∈ rest, q.1 ≠ l) (ok : AtOk al) {name : Str} {t : Tok} (hn : name.length ≤ 100) (hnl : (Txt.lower name).length ≤ 1000) (ht : Takes true (Txt.lower name))
    (ret : ∀ (r : Addr) (ys : List Value) (h' : Heap) (tk' : Nat), StrsAre ys (getAll al name) → (∀ q ∈ (l, listOf ps.toArray c) :: rest, q.1 ≠ r) → Fr h₀ L h' m → News h₀ L h' ((r, LCg.lst ys) :: (l, listOf ps.toArray c) :: rest) → Q (.ref r) { s with heap := h', toks := tk' }) :
    wpAny (model PySem.Challenge.rw_wo0081_01.row.prog w) (ktrTop dp un gd cn cs L a ccd cl outer) (call (.ref 241) [.ref x, .str name t]) Q E s := by
  obtain ⟨dA, t0, own, rfl, hps⟩ := hat
  have hx1 := hfix _ List.mem_cons_self
  have hx2 := hfix _ (List.mem_cons_of_mem _ List.mem_cons_self)
  have hps' := hps.mono fun p hp => hfix _ (List.mem_cons_of_mem _ (List.mem_cons_of_mem _ hp))
  clear hfix hps
  refine wpAny_call ?_
  (first | (k_dflt (refine' code_defC ?k1 ?k2 ?k3 ?k4 ?k5 ?kA ?kF ?kK ?k6 ?k7 ?k8 ?k9 ?kB ?kD ?_ ?c2 ?c3 ?c4; (case kA => exact rfl); (case kF => exact rfl); (case kK => first | exact rfl | assumption); (case k1 => k_asm); (case k2 => k_asm); (case k3 => k_asm); (case k4 => k_asm); (case k5 => k_asm); (case k6 => k_is); (case k7 => k_is); (case k8 => ktr_room); (case k9 => first | exact BindsTo.of_eq rfl | exact binds_K (by k_in) rfl (by k_is) rfl rfl rfl | fail "k_enter: no rule for these arguments"); (case kB => exact rfl); (case kD => decide +kernel); (case c2 => exact rfl); (case c3 => exact rfl); (case c4 => exact rfl); k_whole; intro g L1 h1 tk1 cells9 FG F1 N1 Y1 B1 X1 T1 LT; (try k_lt LT); k_cells Y1; (try simp only [List.cons_append, List.nil_append] at N1); (try dsimp only); (try k_lift B1); (try k_fold))) | (k_dflt cell_enter))
  (rename _ ∧ AllLt _ rest => lR); obtain ⟨lR0, lR⟩ := lR
  repeat' (first | (with_reducible show wpAny _ _ (eval (Expr.ListComp _ _ _ _) _) _ _ _; (k_dflt (refine compT_eval (F₀ := by k_asm) (by with_unfolding_all rfl) (by decide) (by rfl) (by decide) (by rfl) ?_))) | (first | ((fail_if_success (with_reducible refine' gd9 (t := eval _ _) ?_)); (first | (with_reducible (((fail_if_success (fail_if_success (with_reducible refine' gd9 (t := execs (_ :: _) _) ?_))); first | k_gentoks | ((with_reducible refine wpAny_execs_cons ?_); (try dsimp only); k_fold)))) | ((fail_if_success (fail_if_success (with_reducible refine' gd9 (t := call _ _ _) ?_))); (first | (with_reducible (((fail_if_success (fail_if_success (with_reducible refine' gd9 (t := call (Value.builtin "str.lower") [Value.str _ _]) ?_))); (refine SCL.lower (by ((try dsimp only); first | with_reducible assumption | omega | (simp only [Str.length_append]; omega) | fail "slen")) ?_); intro _; (try dsimp only)))) | (with_reducible (((fail_if_success (fail_if_success (with_reducible refine' gd9 (t := call (Value.ref 203) _ _) ?_))); k_dflt (refine' conv_c (by k_asm) (by k_asm) (by k_asm) (by k_asm) (by k_asm) (by first | rfl | assumption) (by ktr_room) (by ktr_units) (by first | with_reducible assumption | omega | exact Nat.le_trans (by assumption) (by decide : 100 ≤ 1000)) (by with_reducible assumption) ?_); intro _ _ _ _; (try dsimp only); (try k_fold)))) )) | (with_reducible (((fail_if_success (fail_if_success (with_reducible refine' gd9 (t := subscriptTail _ _ (Value.ref _) (Value.int _ _)) ?_))); k_dflt (first | (refine' tup_item (by k_asm) (by k_mem) (by decide) (by decide) (by rfl) (by rfl) ?_) | (refine' lst_item (by k_asm) (by k_mem) (by decide) (by decide) (by rfl) ?_))))) )) | walk1) | (dsimp only; (first | ((fail_if_success (with_reducible refine' gd9 (t := eval _ _) ?_)); (first | (with_reducible (((fail_if_success (fail_if_success (with_reducible refine' gd9 (t := execs (_ :: _) _) ?_))); first | k_gentoks | ((with_reducible refine wpAny_execs_cons ?_); (try dsimp only); k_fold)))) | ((fail_if_success (fail_if_success (with_reducible refine' gd9 (t := call _ _ _) ?_))); (first | (with_reducible (((fail_if_success (fail_if_success (with_reducible refine' gd9 (t := call (Value.builtin "str.lower") [Value.str _ _]) ?_))); (refine SCL.lower (by ((try dsimp only); first | with_reducible assumption | omega | (simp only [Str.length_append]; omega) | fail "slen")) ?_); intro _; (try dsimp only)))) | (with_reducible (((fail_if_success (fail_if_success (with_reducible refine' gd9 (t := call (Value.ref 203) _ _) ?_))); k_dflt (refine' conv_c (by k_asm) (by k_asm) (by k_asm) (by k_asm) (by k_asm) (by first | rfl | assumption) (by ktr_room) (by ktr_units) (by first | with_reducible assumption | omega | exact Nat.le_trans (by assumption) (by decide : 100 ≤ 1000)) (by with_reducible assumption) ?_); intro _ _ _ _; (try dsimp only); (try k_fold)))) )) | (with_reducible (((fail_if_success (fail_if_success (with_reducible refine' gd9 (t := subscriptTail _ _ (Value.ref _) (Value.int _ _)) ?_))); k_dflt (first | (refine' tup_item (by k_asm) (by k_mem) (by decide) (by decide) (by rfl) (by rfl) ?_) | (refine' lst_item (by k_asm) (by k_mem) (by decide) (by decide) (by rfl) ?_))))) )) | walk1)))
  (rename Fr _ _ _ _ => F9); (rename News _ _ _ _ => N9)
  have hpl := hps'.length
  have hal := ok.len
  k_dflt (refine CSrcT.of (iter_list rfl N9 (List.mem_cons_of_mem _ List.mem_cons_self)) F9 N9 (List.mem_cons_of_mem _ List.mem_cons_self) (by simp only [List.size_toArray, sizeLine]; omega) fun g => restT_inv (K := ps.toArray.size) (fun c ys nw => nw = _ ∧ StrsAre ys (getAll (al.take c) name)) ?step ?fin _ _ _ _ (Nat.zero_add _) ⟨rfl, StrsAre.nil⟩)
  case step =>
    rintro c v I oI C oC D ys nw m₂ h tq Q' Q₀ E' hc hv ⟨rfl, hys⟩ hC hx F9 N9 off ne hQ hQ0
    obtain ⟨p, k, xx, tK, tX, n, rfl, hp, hal, hPx⟩ := hps'.at (by simpa using hv)
    obtain ⟨hk1, hk2⟩ := ok.at hal
    (repeat' (first | (k_unfold; (try dsimp only)) | (k_end; wrow_close) | (first | ((fail_if_success (with_reducible refine' gd9 (t := eval _ _) ?_)); (first | (with_reducible (((fail_if_success (fail_if_success (with_reducible refine' gd9 (t := execs (_ :: _) _) ?_))); first | k_gentoks | ((with_reducible refine wpAny_execs_cons ?_); (try dsimp only); k_fold)))) | ((fail_if_success (fail_if_success (with_reducible refine' gd9 (t := call _ _ _) ?_))); (first | (with_reducible (((fail_if_success (fail_if_success (with_reducible refine' gd9 (t := call (Value.builtin "str.lower") [Value.str _ _]) ?_))); (refine SCL.lower (by ((try dsimp only); first | with_reducible assumption | omega | (simp only [Str.length_append]; omega) | fail "slen")) ?_); intro _; (try dsimp only)))) | (with_reducible (((fail_if_success (fail_if_success (with_reducible refine' gd9 (t := call (Value.ref 203) _ _) ?_))); k_dflt (refine' conv_c (by k_asm) (by k_asm) (by k_asm) (by k_asm) (by k_asm) (by first | rfl | assumption) (by ktr_room) (by ktr_units) (by first | with_reducible assumption | omega | exact Nat.le_trans (by assumption) (by decide : 100 ≤ 1000)) (by with_reducible assumption) ?_); intro _ _ _ _; (try dsimp only); (try k_fold)))) )) | (with_reducible (((fail_if_success (fail_if_success (with_reducible refine' gd9 (t := subscriptTail _ _ (Value.ref _) (Value.int _ _)) ?_))); k_dflt (first | (refine' tup_item (by k_asm) (by k_mem) (by decide) (by decide) (by rfl) (by rfl) ?_) | (refine' lst_item (by k_asm) (by k_mem) (by decide) (by decide) (by rfl) ?_))))) )) | walk1) | ((with_reducible show wpAny _ _ _ _ _ _); dsimp only) | (leave1; walk_say "STEP leave1"; try dsimp only) | fail "no step"))
    · refine hQ _ _ _ _ (by k_asm) (by k_asm) off (List.mem_cons_of_mem _ List.mem_cons_self) ⟨rfl, ?_⟩
      rw [getAll_hit hal (by assumption)]; exact StrsAre.append' hys (.cons _ _ .nil)
    · refine hQ0 _ _ _ (by k_asm) (by k_asm) off (List.mem_cons_of_mem _ List.mem_cons_self) ⟨rfl, ?_⟩
      rw [getAll_miss hal (by assumption)]; exact hys
  case fin =>
    rintro ys nw ⟨rfl, hys⟩ D h tq F9 N9 o1
    rw [List.take_of_length_le (by simp only [List.size_toArray]; omega)] at hys
    (try dsimp only)
    (repeat' (first | (k_unfold; (try dsimp only)) | (k_end; wrow_close) | (first | ((fail_if_success (with_reducible refine' gd9 (t := eval _ _) ?_)); (first | (with_reducible (((fail_if_success (fail_if_success (with_reducible refine' gd9 (t := execs (_ :: _) _) ?_))); first | k_gentoks | ((with_reducible refine wpAny_execs_cons ?_); (try dsimp only); k_fold)))) | ((fail_if_success (fail_if_success (with_reducible refine' gd9 (t := call _ _ _) ?_))); (first | (with_reducible (((fail_if_success (fail_if_success (with_reducible refine' gd9 (t := call (Value.builtin "str.lower") [Value.str _ _]) ?_))); (refine SCL.lower (by ((try dsimp only); first | with_reducible assumption | omega | (simp only [Str.length_append]; omega) | fail "slen")) ?_); intro _; (try dsimp only)))) | (with_reducible (((fail_if_success (fail_if_success (with_reducible refine' gd9 (t := call (Value.ref 203) _ _) ?_))); k_dflt (refine' conv_c (by k_asm) (by k_asm) (by k_asm) (by k_asm) (by k_asm) (by first | rfl | assumption) (by ktr_room) (by ktr_units) (by first | with_reducible assumption | omega | exact Nat.le_trans (by assumption) (by decide : 100 ≤ 1000)) (by with_reducible assumption) ?_); intro _ _ _ _; (try dsimp only); (try k_fold)))) )) | (with_reducible (((fail_if_success (fail_if_success (with_reducible refine' gd9 (t := subscriptTail _ _ (Value.ref _) (Value.int _ _)) ?_))); k_dflt (first | (refine' tup_item (by k_asm) (by k_mem) (by decide) (by decide) (by rfl) (by rfl) ?_) | (refine' lst_item (by k_asm) (by k_mem) (by decide) (by decide) (by rfl) ?_))))) )) | walk1) | ((with_reducible show wpAny _ _ _ _ _ _); dsimp only) | (leave1; walk_say "STEP leave1"; try dsimp only) | fail "no step"))
    exact ret _ _ _ _ hys (off1_mem o1.2) (by k_asm) (cb_drop (by k_asm) (by walk_at "sub"))
end

theorem rs_C3_loopT : True := by w_top off; trivial
open PyProof.Rows.LCg PyProof.Rows.LCt PySem.Calls in
section
variable {prog : Program} {w : World} {A : Around} {E : Value → Shared → Prop} {s : Shared} {h₀ : Heap} {L : Addr} {m : Str → Option Value} {env : Env} {target : Expr}
/-- a source of turns whose value is taken apart -/
def IterSrcT (prog : Program) (w : World) (A : Around) (h₀ : Heap) (L : Addr) (target : Expr) (xv : Value) (s₁ : Shared) (n : Nat) (P : Nat → Value → Prop) (S : List (Addr × Obj) → Prop) : Prop :=
  ∀ (Q : Value → Shared → Prop) (E : Value → Shared → Prop),
    (∀ (o : Obj) (fp : List Addr) (St : Nat → Heap → Prop), o.isFreed = false → Walks prog w A s₁.heap.objs.size fp [s₁.heap.objs.size] n P St →
      (∀ i v (s : Shared) (Q : Unit → Shared → Prop) (E : Value → Shared → Prop), St i s.heap → Q () s → wpAny (model prog w) A (letOwnedTupleGo target (.ref s₁.heap.objs.size) v) Q E s) → St 0 (s₁.heap.push o) →
      (∀ b ∈ fp, b < s₁.heap.objs.size + 1) → (∀ b ∈ fp, b = s₁.heap.objs.size ∨ (∃ q, h₀.get? b = some q) ∨ (b ≠ L ∧ ∃ q, ∀ nw, S nw → (b, q) ∈ nw)) → (∀ i h, St i h → ∃ o', h.get? s₁.heap.objs.size = some o') →
      (∀ i h h' o' nw, St i h → h.get? s₁.heap.objs.size = some o' → h'.get? s₁.heap.objs.size = some o' → (∀ b o, h₀.get? b = some o → h'.get? b = some o) → News h₀ L h' nw → S nw → St i h') →
      Q (.ref s₁.heap.objs.size) { s₁ with heap := s₁.heap.push o }) → wpAny (model prog w) A (pyIter xv) Q E s₁
theorem iter_listT {ax : Addr} {its : Array Value} {k : Nat} {dd : Option Addr} {sl : Array (Option Value)} {news : List (Addr × Obj)} (hh : A.handled = none) (N : News h₀ L s.heap news) (hm : (ax, (⟨.type "list", dd, .seq its k, sl⟩ : Obj)) ∈ news) :
    IterSrcT prog w A h₀ L target (.ref ax) s its.size (fun i v => its[i]? = some v) (fun nw => (ax, (⟨.type "list", dd, .seq its k, sl⟩ : Obj)) ∈ nw) := by
  intro Q E h
  have z := N _ hm
  have hT : s.heap.IsList ax its := ⟨_, z.1, rfl, _, rfl⟩
  have hlt : ax < s.heap.objs.size := Heap.lt_size z.1
  refine wpAny_pyIter_list hT (h _ _ _ rfl (Walks.list hh _ ax (Nat.ne_of_lt hlt) its) (fun i v s Q E st q => letGo_listiter st.1 q) ⟨⟨_, Heap.get?_push_size _ rfl, rfl, rfl⟩, ⟨_, Heap.get?_push_of_some _ z.1, rfl, _, rfl⟩⟩ ?_ ?_ (fun i h st => by obtain ⟨o, e, _⟩ := st.1; exact ⟨o, e⟩) ?_)
  · intro b hb
    rcases List.mem_cons.mp hb with rfl | hb
    · exact Nat.lt_succ_self _
    · rw [List.mem_singleton.mp hb]; exact Nat.lt_succ_of_lt hlt
  · intro b hb
    rcases List.mem_cons.mp hb with rfl | hb
    · exact .inl rfl
    · rw [List.mem_singleton.mp hb]; exact .inr (.inr ⟨z.2.1, _, fun _ h => h⟩)
  · intro i h h' o' nw st e e' k N' S
    refine ⟨by obtain ⟨o, q, r⟩ := st.1; rw [e] at q; cases q; exact ⟨_, e', r⟩, ⟨_, (N' _ S).1, rfl, _, rfl⟩⟩
end
open PyProof.Rows.LCg PySem.Calls in
theorem for_invT {prog : Program} {w : World} {A : Around} {E : Value → Shared → Prop} {s : Shared} {h₀ : Heap} {env : Env} {target : Expr} {body : List Stmt} {Q : Flow → Shared → Prop}
    {xv : Value} {n : Nat} {P : Nat → Value → Prop} {S : List (Addr × Obj) → Prop} {news : List (Addr × Obj)} {m₀ : Str → Option Value} (J : Nat → (Str → Option Value) → List (Addr × Obj) → Prop) (D : (Str → Option Value) → List (Addr × Obj) → Prop)
    (I : IterSrcT prog w A h₀ env.locals target xv s n P S) (F : Fr h₀ env.locals s.heap m₀) (N : News h₀ env.locals s.heap news) (hS : S news) (hj : J 0 m₀ news) (hJS : ∀ i m nw, J i m nw → S nw) (hD : ∀ m nw, J n m nw → D m nw)
    (turn : ∀ i v m₁ nw I oI h tk (Kt : Flow → Shared → Prop), i < n → P i v → J i m₁ nw → (∀ p ∈ nw, (@Ne Nat p.1 I)) → Fr h₀ env.locals h m₁ → News h₀ env.locals h ((I, oI) :: nw) →
      (∀ f h' tk' m' nw', f = .next ∨ f = .cont → Fr h₀ env.locals h' m' → News h₀ env.locals h' ((I, oI) :: nw') → (∀ p ∈ nw', (@Ne Nat p.1 I)) → J (i + 1) m' nw' → Kt f { s with heap := h', toks := tk' }) →
      (∀ h' tk' m' nw', Fr h₀ env.locals h' m' → News h₀ env.locals h' nw' → D m' nw' → Kt .brk { s with heap := h', toks := tk' }) →
      (∀ v s', Q (.ret v) s' → Kt (.ret v) s') →
      wpAny (model prog w) A (assign target env v) (fun _ s₃ => wpAny (model prog w) A (execs body env) Kt E s₃) E { s with heap := h, toks := tk })
    (done : ∀ m₁ nw h tk, D m₁ nw → Fr h₀ env.locals h m₁ → News h₀ env.locals h nw → Q .next { s with heap := h, toks := tk }) :
    wpAny (model prog w) A (pyIter xv) (fun it s₂ => TurnsAt prog w A h₀ env target body Q E it s₂) E s := by
  refine I _ _ fun o fp St hf W hgo st hlt hfp hIo hSt => ?_
  have up : ∀ b o', s.heap.get? b = some o' → (s.heap.push o).get? b = some o' := fun b o' e => Heap.get?_push_of_some _ e
  have hIf : s.heap.objs.size ∈ fp := W.sub _ (List.mem_singleton.mpr rfl)
  refine ⟨s.heap.objs.size, fp, [s.heap.objs.size], n, _, _, St, m₀, news, J, rfl, KTurns.ofWalks W hgo, ?_, ?_, ?_, st, F.keeps up, N.grown up, hj, ?_, ?_⟩
  · intro hm
    rcases hfp _ hm with e | ⟨q, e⟩ | ⟨e, _⟩
    · exact absurd F.ns.lt (e ▸ Nat.lt_irrefl _)
    · exact absurd (Heap.lt_size e) (Nat.not_lt.mpr F.above)
    · exact e rfl
  · intro b hb
    rw [List.mem_singleton.mp hb]
    exact next_is_new F
  · intro p hp hI
    exact absurd (Heap.lt_size (N p hp).1) ((List.mem_singleton.mp hI) ▸ Nat.lt_irrefl _)
  · rintro i v m₁ nw hh' tk' own hin hP hJ hoff hown holive hall hst' F₁ N₁
    obtain ⟨oI, hoI⟩ := hIo _ _ hst'
    have hI0 : h₀.get? s.heap.objs.size = none := next_is_new F
    have hio : (s.heap.objs.size, oI) ∈ own := hall _ hIf hI0 oI hoI
    have offI : ∀ p ∈ nw, (@Ne Nat p.1 s.heap.objs.size) := fun p hp e => hoff p hp (List.mem_singleton.mpr e)
    have N₂ : News h₀ env.locals hh' ((s.heap.objs.size, oI) :: nw) := fun p hp => by
      rcases List.mem_cons.mp hp with rfl | hp
      · exact N₁ _ (List.mem_append_left _ hio)
      · exact N₁ _ (List.mem_append_right _ hp)
    -- the iterator's own entries stand in any later ledger
    have own_in : ∀ nw', S nw' → ∀ p ∈ own, p ∈ (s.heap.objs.size, oI) :: nw' := by
      intro nw' hS' p hp
      have hg := holive p hp
      rcases hfp p.1 (hown p hp) with e | ⟨q, e⟩ | ⟨_, q, hq⟩
      · have : p.2 = oI := by rw [e, hoI] at hg; exact (Option.some.inj hg).symm
        exact List.mem_cons.mpr (.inl (Prod.ext e this))
      · have := (N₁ p (List.mem_append_left _ hp)).2.2
        rw [e] at this; cases this
      · have h1 := (N₁ _ (List.mem_append_right own (hq nw (hJS _ _ _ hJ)))).1
        have h2 : p.2 = q := by rw [hg] at h1; exact Option.some.inj h1
        exact List.mem_cons.mpr (.inr (by have := hq nw' hS'; rw [← h2] at this; exact this))
    refine turn i v m₁ nw _ oI hh' tk' _ hin hP hJ offI F₁ N₂ ?_ ?_ ?_
    · intro f h' tk m' nw' hfl F' N' off' hJ'
      have fin : LoopStepU h₀ env.locals [s.heap.objs.size] own (J (i + 1)) { s with heap := hh', toks := tk' } .next { s with heap := h', toks := tk } := by
        refine ⟨rfl, h', tk, m', nw', rfl, F', fun p hp => ?_, fun p hp hI => off' p hp (List.mem_singleton.mp hI), hJ'⟩
        rcases List.mem_append.mp hp with hp | hp
        · exact N' p (own_in nw' (hJS _ _ _ hJ') p hp)
        · exact N' p (List.mem_cons_of_mem _ hp)
      rcases hfl with rfl | rfl
      · exact .next fin
      · exact .cont fin
    · intro h' tk m' nw' F' N' hD'
      exact .brk (done m' nw' h' tk hD' F' N')
    · intro v s' h; exact .ret h
  · intro h' tk m' nw' F' N' _ hJ
    exact done m' nw' h' tk (hD _ _ hJ) F' N'

theorem rs_C4_get : True := by w_top off; trivial
def getF (al : List (Str × Str)) (name : Str) : Option Str := (al.find? fun p => Txt.lower p.1 == Txt.lower name).map (·.2)
theorem getF_miss {al : List (Str × Str)} {name k x : Str} {c : Nat} (h : al[c]? = some (k, x)) (hn : getF (al.take c) name = none) (e : (Txt.lower k == Txt.lower name) = false) : getF (al.take (c + 1)) name = none := by
  unfold getF at hn ⊢
  rw [List.take_add_one, h]
  simp only [Option.map_eq_none_iff, List.find?_append, Option.or_eq_none_iff] at hn ⊢
  exact ⟨hn, by simp [e]⟩
theorem getF_hit {al : List (Str × Str)} {name k x : Str} {c : Nat} (h : al[c]? = some (k, x)) (hn : getF (al.take c) name = none) (e : (Txt.lower k == Txt.lower name) = true) : getF al name = some x := by
  unfold getF at hn ⊢
  have e1 : al = al.take c ++ (k, x) :: al.drop (c + 1) := by
    have hl : c < al.length := (List.getElem?_eq_some_iff.mp h).1
    rw [← (List.getElem?_eq_some_iff.mp h).2, List.getElem_cons_drop hl, List.take_append_drop]
  rw [Option.map_eq_none_iff] at hn
  rw [e1, List.find?_append, hn]
  simp [e]
section
variable {w : World} {dp un : Nat} {gd : Option (List Code)} {cn : Str} {cs : Scope} {a : Addr} {ccd : Value} {cl : List (Str × Addr)} {outer : List Env} {A₀ : Around} {base h₀ : Heap} {L : Addr} {m : Str → Option Value} {s : Shared} {Q E : Value → Shared → Prop} {mean : ExcName → Option Value} {mg mb : Str → Option Value} {news : List (Addr × Obj)}

set_option maxRecDepth 100000 in
set_option maxHeartbeats 8000000 in
theorem get_c (B : Below A₀ base outer h₀) (F : Fr h₀ L s.heap m) (X : (Mine.hk.heap_1 w.params).In h₀) {x l : Addr} {ps : List Value} {c : Nat} {rest fix : List (Addr × Obj)} {al : List (Str × Str)} {P : Str → Tok → Prop} (N : News h₀ L s.heap ((l, listOf ps.toArray c) :: rest)) (T : Top Mine.V LS mean mg mb h₀) (hk : cs.kind = .function)
    (hdp : dp + 7 < recursionLimit) (hun : un + 200 < cLine) (hat : AtIn P w al x l ps fix) (hfix : ∀ p ∈ fix, p ∈ rest) (hoff : ∀ q ∈ rest, q.1 ≠ l) (ok : AtOk al) {name : Str} {t : Tok} (hn : name.length ≤ 100) (hnl : (Txt.lower name).length ≤ 1000) (ht : Takes true (Txt.lower name))
    (retN : ∀ (h' : Heap) (tk' : Nat), getF al name = none → Fr h₀ L h' m → News h₀ L h' ((l, listOf ps.toArray c) :: rest) → Q .none { s with heap := h', toks := tk' })
    (retS : ∀ (y : Str) (u : Tok) (h' : Heap) (tk' : Nat), getF al name = some y → P y u → Fr h₀ L h' m → News h₀ L h' ((l, listOf ps.toArray c) :: rest) → Q (.str y u) { s with heap := h', toks := tk' }) :
    wpAny (model PySem.Challenge.rw_wo0081_01.row.prog w) (ktrTop dp un gd cn cs L a ccd cl outer) (call (.ref 249) [.ref x, .str name t]) Q E s := by
  obtain ⟨dA, t0, own, rfl, hps⟩ := hat
  have hx1 := hfix _ List.mem_cons_self
  have hx2 := hfix _ (List.mem_cons_of_mem _ List.mem_cons_self)
  have hps' := hps.mono fun p hp => hfix _ (List.mem_cons_of_mem _ (List.mem_cons_of_mem _ hp))
  clear hfix hps
  refine wpAny_call ?_
  (k_dflt (refine' code_defG ?k1 ?k2 ?k3 ?k4 ?k5 ?kA ?kF ?kK ?k6 ?k7 ?k8 ?k9 ?kB ?_ ?c2 ?c3 ?c4 ?c5; (case kA => exact rfl); (case kF => exact rfl); (case kK => first | exact rfl | assumption); (case k1 => k_asm); (case k2 => k_asm); (case k3 => k_asm); (case k5 => k_asm); (case k6 => k_is); (case k7 => k_is); (case k8 => ktr_room); (case k9 => first | exact BindsTo.of_eq rfl | exact binds_K (by k_in) rfl (by k_is) rfl rfl rfl | fail "k_enter: no rule for these arguments"); (case kB => exact locs rfl); (case c2 => exact rfl); (case c3 => exact rfl); (case c4 => exact rfl); (case c5 => decide); k_whole))
  case k4 => exact N
  intro g L1 h1 FG F1 N1 B1 X1 T1 SK LT
  (try dsimp only); (try k_fold)
  (repeat ((fail_if_success (with_reducible show wpAny _ _ (pyIter _) _ _ _)); (first | (first | ((fail_if_success (with_reducible refine' gd9 (t := eval _ _) ?_)); (first | (with_reducible (((fail_if_success (fail_if_success (with_reducible refine' gd9 (t := execs (_ :: _) _) ?_))); first | k_gentoks | ((with_reducible refine wpAny_execs_cons ?_); (try dsimp only); k_fold)))) | ((fail_if_success (fail_if_success (with_reducible refine' gd9 (t := call _ _ _) ?_))); (first | (with_reducible (((fail_if_success (fail_if_success (with_reducible refine' gd9 (t := call (Value.builtin "str.lower") [Value.str _ _]) ?_))); (refine SCL.lower (by ((try dsimp only); first | with_reducible assumption | omega | (simp only [Str.length_append]; omega) | fail "slen")) ?_); intro _; (try dsimp only)))) | (with_reducible (((fail_if_success (fail_if_success (with_reducible refine' gd9 (t := call (Value.ref 203) _ _) ?_))); k_dflt (refine' conv_c (by k_asm) (by k_asm) (by k_asm) (by k_asm) (by k_asm) (by first | rfl | assumption) (by ktr_room) (by ktr_units) (by first | with_reducible assumption | omega | exact Nat.le_trans (by assumption) (by decide : 100 ≤ 1000)) (by with_reducible assumption) ?_); intro _ _ _ _; (try dsimp only); (try k_fold)))) )) | (with_reducible (((fail_if_success (fail_if_success (with_reducible refine' gd9 (t := exec (Stmt.For _ _ _ _ _) _) ?_))); (rename Fr _ _ _ _ => lF'); (with_unfolding_all refine' For_turns lF' ?_); k_whole))) )) | walk1) | dsimp only)))
  (rename Fr g L1 _ _ => hF); (rename News g L1 _ _ => hN)
  have hpl := hps'.length
  have hal := ok.len
  refine for_invT (fun i m₁ nw => nw = _ ∧ (∃ u, m₁ (Str.ofString "name") = some (.str (Txt.lower name) u)) ∧ m₁ (Str.ofString "default") = some .none ∧ getF (al.take i) name = none) _
    (iter_listT rfl hN List.mem_cons_self) hF hN List.mem_cons_self ⟨rfl, ⟨_, rfl⟩, rfl, rfl⟩ (fun _ _ _ h => h.1 ▸ List.mem_cons_self) (fun _ _ h => h) ?turn ?done
  case turn =>
    rintro i v m₁ nw I oI h tq Kt hi hv ⟨rfl, ⟨u1, h1⟩, h2, h3⟩ off F2 N2 hNx hBk hRt
    obtain ⟨p, k, xx, tK, tX, n, rfl, hp, hal, hPx⟩ := hps'.at (by simpa using hv)
    obtain ⟨hk1, hk2⟩ := ok.at hal
    have F3 := fr_known F2 [(Str.ofString "name", .str (Txt.lower name) u1), (Str.ofString "default", .none)] (by ((repeat (refine List.forall_mem_cons.mpr ⟨(by dsimp only; first | exact if_pos rfl | exact (if_neg (by decide +kernel)).trans (by first | with_reducible assumption | assumption) | (with_reducible assumption) | assumption), ?_⟩)); exact List.forall_mem_nil _))
    clear F2 hF hN
    (repeat' (first | (k_unfold; (try dsimp only)) | (k_end; wrow_close) | (first | ((fail_if_success (with_reducible refine' gd9 (t := eval _ _) ?_)); (first | (with_reducible (((fail_if_success (fail_if_success (with_reducible refine' gd9 (t := execs (_ :: _) _) ?_))); first | k_gentoks | ((with_reducible refine wpAny_execs_cons ?_); (try dsimp only); k_fold)))) | ((fail_if_success (fail_if_success (with_reducible refine' gd9 (t := call _ _ _) ?_))); (first | (with_reducible (((fail_if_success (fail_if_success (with_reducible refine' gd9 (t := call (Value.builtin "str.lower") [Value.str _ _]) ?_))); (refine SCL.lower (by ((try dsimp only); first | with_reducible assumption | omega | (simp only [Str.length_append]; omega) | fail "slen")) ?_); intro _; (try dsimp only)))) | (with_reducible (((fail_if_success (fail_if_success (with_reducible refine' gd9 (t := call (Value.ref 203) _ _) ?_))); k_dflt (refine' conv_c (by k_asm) (by k_asm) (by k_asm) (by k_asm) (by k_asm) (by first | rfl | assumption) (by ktr_room) (by ktr_units) (by first | with_reducible assumption | omega | exact Nat.le_trans (by assumption) (by decide : 100 ≤ 1000)) (by with_reducible assumption) ?_); intro _ _ _ _; (try dsimp only); (try k_fold)))) )) | (with_reducible (((fail_if_success (fail_if_success (with_reducible refine' gd9 (t := exec (Stmt.For _ _ _ _ _) _) ?_))); (rename Fr _ _ _ _ => lF'); (with_unfolding_all refine' For_turns lF' ?_); k_whole))) )) | walk1) | ((with_reducible show wpAny _ _ _ _ _ _); dsimp only) | (leave1; walk_say "STEP leave1"; try dsimp only) | fail "no step"))
    · refine hRt _ _ ?_
      (try dsimp only)
      (repeat' (first | (k_unfold; (try dsimp only)) | (k_end; wrow_close) | (first | ((fail_if_success (with_reducible refine' gd9 (t := eval _ _) ?_)); (first | (with_reducible (((fail_if_success (fail_if_success (with_reducible refine' gd9 (t := execs (_ :: _) _) ?_))); first | k_gentoks | ((with_reducible refine wpAny_execs_cons ?_); (try dsimp only); k_fold)))) | ((fail_if_success (fail_if_success (with_reducible refine' gd9 (t := call _ _ _) ?_))); (first | (with_reducible (((fail_if_success (fail_if_success (with_reducible refine' gd9 (t := call (Value.builtin "str.lower") [Value.str _ _]) ?_))); (refine SCL.lower (by ((try dsimp only); first | with_reducible assumption | omega | (simp only [Str.length_append]; omega) | fail "slen")) ?_); intro _; (try dsimp only)))) | (with_reducible (((fail_if_success (fail_if_success (with_reducible refine' gd9 (t := call (Value.ref 203) _ _) ?_))); k_dflt (refine' conv_c (by k_asm) (by k_asm) (by k_asm) (by k_asm) (by k_asm) (by first | rfl | assumption) (by ktr_room) (by ktr_units) (by first | with_reducible assumption | omega | exact Nat.le_trans (by assumption) (by decide : 100 ≤ 1000)) (by with_reducible assumption) ?_); intro _ _ _ _; (try dsimp only); (try k_fold)))) )) | (with_reducible (((fail_if_success (fail_if_success (with_reducible refine' gd9 (t := exec (Stmt.For _ _ _ _ _) _) ?_))); (rename Fr _ _ _ _ => lF'); (with_unfolding_all refine' For_turns lF' ?_); k_whole))) )) | walk1) | ((with_reducible show wpAny _ _ _ _ _ _); dsimp only) | (leave1; walk_say "STEP leave1"; try dsimp only) | fail "no step"))
      exact retS _ _ _ _ (getF_hit hal h3 (by assumption)) hPx (by k_asm) (cb_drop (by k_asm) (by walk_at "sub"))
    · exact hNx _ _ _ _ _ (.inl rfl) (by k_asm) (cb_drop (by k_asm) (by walk_at "sub")) off ⟨rfl, ⟨_, rfl⟩, rfl, getF_miss hal h3 (by assumption)⟩
  case done =>
    rintro m₁ nw h tq ⟨rfl, ⟨u1, h1⟩, h2, h3⟩ F2 N2
    rw [List.take_of_length_le (by simp only [List.size_toArray]; omega)] at h3
    have F3 := fr_known F2 [(Str.ofString "name", .str (Txt.lower name) u1), (Str.ofString "default", .none)] (by ((repeat (refine List.forall_mem_cons.mpr ⟨(by dsimp only; first | exact if_pos rfl | exact (if_neg (by decide +kernel)).trans (by first | with_reducible assumption | assumption) | (with_reducible assumption) | assumption), ?_⟩)); exact List.forall_mem_nil _))
    clear F2 hF hN
    (try dsimp only)
    (repeat' (first | (k_unfold; (try dsimp only)) | (k_end; wrow_close) | (first | ((fail_if_success (with_reducible refine' gd9 (t := eval _ _) ?_)); (first | (with_reducible (((fail_if_success (fail_if_success (with_reducible refine' gd9 (t := execs (_ :: _) _) ?_))); first | k_gentoks | ((with_reducible refine wpAny_execs_cons ?_); (try dsimp only); k_fold)))) | ((fail_if_success (fail_if_success (with_reducible refine' gd9 (t := call _ _ _) ?_))); (first | (with_reducible (((fail_if_success (fail_if_success (with_reducible refine' gd9 (t := call (Value.builtin "str.lower") [Value.str _ _]) ?_))); (refine SCL.lower (by ((try dsimp only); first | with_reducible assumption | omega | (simp only [Str.length_append]; omega) | fail "slen")) ?_); intro _; (try dsimp only)))) | (with_reducible (((fail_if_success (fail_if_success (with_reducible refine' gd9 (t := call (Value.ref 203) _ _) ?_))); k_dflt (refine' conv_c (by k_asm) (by k_asm) (by k_asm) (by k_asm) (by k_asm) (by first | rfl | assumption) (by ktr_room) (by ktr_units) (by first | with_reducible assumption | omega | exact Nat.le_trans (by assumption) (by decide : 100 ≤ 1000)) (by with_reducible assumption) ?_); intro _ _ _ _; (try dsimp only); (try k_fold)))) )) | (with_reducible (((fail_if_success (fail_if_success (with_reducible refine' gd9 (t := exec (Stmt.For _ _ _ _ _) _) ?_))); (rename Fr _ _ _ _ => lF'); (with_unfolding_all refine' For_turns lF' ?_); k_whole))) )) | walk1) | ((with_reducible show wpAny _ _ _ _ _ _); dsimp only) | (leave1; walk_say "STEP leave1"; try dsimp only) | fail "no step"))
    exact retN _ _ h3 (by k_asm) (by k_asm)
end

theorem rs_C5_ops : True := by w_top off; trivial
section
variable {w : World} {dp un : Nat} {gd : Option (List Code)} {cn : Str} {cs : Scope} {a : Addr} {ccd : Value} {cl : List (Str × Addr)} {outer : List Env} {A₀ : Around} {base h₀ : Heap} {L : Addr} {m : Str → Option Value} {s : Shared} {Q E : Value → Shared → Prop} {mean : ExcName → Option Value} {mg mb : Str → Option Value} {news : List (Addr × Obj)}

set_option maxRecDepth 100000 in
set_option maxHeartbeats 8000000 in
theorem contains_c (B : Below A₀ base outer h₀) (F : Fr h₀ L s.heap m) (X : (Mine.hk.heap_1 w.params).In h₀) {x l : Addr} {ps : List Value} {c : Nat} {rest fix : List (Addr × Obj)} {al : List (Str × Str)} {P : Str → Tok → Prop} (N : News h₀ L s.heap ((l, listOf ps.toArray c) :: rest)) (T : Top Mine.V LS mean mg mb h₀) (hk : cs.kind = .function)
    (hdp : dp + 10 < recursionLimit) (hun : un + 500 < cLine) (hat : AtIn P w al x l ps fix) (hfix : ∀ p ∈ fix, p ∈ rest) (hoff : ∀ q ∈ rest, q.1 ≠ l) (ok : AtOk al) {name : Str} {t : Tok} (hn : name.length ≤ 100) (hnl : (Txt.lower name).length ≤ 1000) (ht : Takes true (Txt.lower name))
    (ret : ∀ (h' : Heap) (tk' : Nat), Fr h₀ L h' m → News h₀ L h' ((l, listOf ps.toArray c) :: rest) → Q (.bool (getF al name).isSome) { s with heap := h', toks := tk' }) :
    wpAny (model PySem.Challenge.rw_wo0081_01.row.prog w) (ktrTop dp un gd cn cs L a ccd cl outer) (call (.ref 150) [.ref x, .str name t]) Q E s := by
  have hat' := hat
  obtain ⟨dA, t0, own, rfl, hps⟩ := hat'
  have hx1 := hfix _ List.mem_cons_self
  have hx2 := hfix _ (List.mem_cons_of_mem _ List.mem_cons_self)
  refine wpAny_call ?_
  (k_dflt (refine' code_defG ?k1 ?k2 ?k3 ?k4 ?k5 ?kA ?kF ?kK ?k6 ?k7 ?k8 ?k9 ?kB ?_ ?c2 ?c3 ?c4 ?c5; (case kA => exact rfl); (case kF => exact rfl); (case kK => first | exact rfl | assumption); (case k1 => k_asm); (case k2 => k_asm); (case k3 => k_asm); (case k5 => k_asm); (case k6 => k_is); (case k7 => k_is); (case k8 => ktr_room); (case k9 => first | exact BindsTo.of_eq rfl | exact binds_K (by k_in) rfl (by k_is) rfl rfl rfl | fail "k_enter: no rule for these arguments"); (case kB => exact locs rfl); (case c2 => exact rfl); (case c3 => exact rfl); (case c4 => exact rfl); (case c5 => decide); k_whole))
  case k4 => exact N
  intro g L1 h1 FG F1 N1 B1 X1 T1 SK LT
  (try dsimp only); (try k_fold)
  (repeat' (first | (k_unfold; (try dsimp only)) | (k_end; wrow_close) | (first | ((fail_if_success (with_reducible refine' gd9 (t := eval _ _) ?_)); (first | (with_reducible (((fail_if_success (fail_if_success (with_reducible refine' gd9 (t := execs (_ :: _) _) ?_))); first | k_gentoks | ((with_reducible refine wpAny_execs_cons ?_); (try dsimp only); k_fold)))) | (with_reducible (((fail_if_success (fail_if_success (with_reducible refine' gd9 (t := call (Value.ref 249) _) ?_))); k_dflt (refine' get_c (by k_asm) (by k_asm) (by k_asm) (by k_asm) (by k_asm) (by first | rfl | assumption) (by ktr_room) (by ktr_units) (by with_reducible assumption) (by first | with_reducible assumption | walk_at "sub") (by with_reducible assumption) (by with_reducible assumption) (by with_reducible assumption) (by with_reducible assumption) (by with_reducible assumption) (fun _ _ _ _ _ => ?_) (fun _ _ _ _ _ _ _ => ?_)); (all_goals ((try dsimp only); (try k_fold)))))) )) | walk1) | ((with_reducible show wpAny _ _ _ _ _ _); dsimp only) | (leave1; walk_say "STEP leave1"; try dsimp only) | fail "no step"))
  · (rename getF al name = none => hg); rw [hg] at ret; exact ret _ _ (by k_asm) (by k_asm)
  · (rename getF al name = some _ => hg); rw [hg] at ret; exact ret _ _ (by k_asm) (by k_asm)
set_option maxRecDepth 100000 in
set_option maxHeartbeats 8000000 in
theorem getitem_c (B : Below A₀ base outer h₀) (F : Fr h₀ L s.heap m) (X : (Mine.hk.heap_1 w.params).In h₀) {x l : Addr} {ps : List Value} {c : Nat} {rest fix : List (Addr × Obj)} {al : List (Str × Str)} {P : Str → Tok → Prop} (N : News h₀ L s.heap ((l, listOf ps.toArray c) :: rest)) (T : Top Mine.V LS mean mg mb h₀) (hk : cs.kind = .function)
    (hdp : dp + 10 < recursionLimit) (hun : un + 500 < cLine) (hat : AtIn P w al x l ps fix) (hfix : ∀ p ∈ fix, p ∈ rest) (hoff : ∀ q ∈ rest, q.1 ≠ l) (ok : AtOk al) {name : Str} {t : Tok} (hn : name.length ≤ 100) (hnl : (Txt.lower name).length ≤ 1000) (ht : Takes true (Txt.lower name)) {y : Str} (hy : getF al name = some y)
    (ret : ∀ (u : Tok) (h' : Heap) (tk' : Nat), P y u → Fr h₀ L h' m → News h₀ L h' ((l, listOf ps.toArray c) :: rest) → Q (.str y u) { s with heap := h', toks := tk' }) :
    wpAny (model PySem.Challenge.rw_wo0081_01.row.prog w) (ktrTop dp un gd cn cs L a ccd cl outer) (call (.ref 164) [.ref x, .str name t]) Q E s := by
  have hat' := hat
  obtain ⟨dA, t0, own, rfl, hps⟩ := hat'
  have hx1 := hfix _ List.mem_cons_self
  have hx2 := hfix _ (List.mem_cons_of_mem _ List.mem_cons_self)
  refine wpAny_call ?_
  (k_dflt (refine' code_defG ?k1 ?k2 ?k3 ?k4 ?k5 ?kA ?kF ?kK ?k6 ?k7 ?k8 ?k9 ?kB ?_ ?c2 ?c3 ?c4 ?c5; (case kA => exact rfl); (case kF => exact rfl); (case kK => first | exact rfl | assumption); (case k1 => k_asm); (case k2 => k_asm); (case k3 => k_asm); (case k5 => k_asm); (case k6 => k_is); (case k7 => k_is); (case k8 => ktr_room); (case k9 => first | exact BindsTo.of_eq rfl | exact binds_K (by k_in) rfl (by k_is) rfl rfl rfl | fail "k_enter: no rule for these arguments"); (case kB => exact locs rfl); (case c2 => exact rfl); (case c3 => exact rfl); (case c4 => exact rfl); (case c5 => decide); k_whole))
  case k4 => exact N
  intro g L1 h1 FG F1 N1 B1 X1 T1 SK LT
  (try dsimp only); (try k_fold)
  (repeat' (first | (k_unfold; (try dsimp only)) | (k_end; wrow_close) | (first | ((fail_if_success (with_reducible refine' gd9 (t := eval _ _) ?_)); (first | (with_reducible (((fail_if_success (fail_if_success (with_reducible refine' gd9 (t := execs (_ :: _) _) ?_))); first | k_gentoks | ((with_reducible refine wpAny_execs_cons ?_); (try dsimp only); k_fold)))) | (with_reducible (((fail_if_success (fail_if_success (with_reducible refine' gd9 (t := call (Value.ref 249) _) ?_))); k_dflt (refine' get_c (by k_asm) (by k_asm) (by k_asm) (by k_asm) (by k_asm) (by first | rfl | assumption) (by ktr_room) (by ktr_units) (by with_reducible assumption) (by first | with_reducible assumption | walk_at "sub") (by with_reducible assumption) (by with_reducible assumption) (by with_reducible assumption) (by with_reducible assumption) (by with_reducible assumption) (fun _ _ _ _ _ => ?_) (fun _ _ _ _ _ _ _ => ?_)); (all_goals ((try dsimp only); (try k_fold)))))) )) | walk1) | ((with_reducible show wpAny _ _ _ _ _ _); dsimp only) | (leave1; walk_say "STEP leave1"; try dsimp only) | fail "no step"))
  · (rename getF al name = none => hg); rw [hy] at hg; cases hg
  · (rename getF al name = some _ => hg); rw [hy] at hg; cases hg; exact ret _ _ _ (by with_reducible assumption) (by k_asm) (by k_asm)
end

theorem rs_C5s_slice : True := by w_top off; trivial
section
variable {prog : Program} {w : World} {A : Around} {E : Value → Shared → Prop} {s : Shared}
/-- xs[:] = ys, both lists -/
theorem setItem_all {l sl D : Addr} {items new : Array Value} {Q : Unit → Shared → Prop} {n : Nat} (ho : s.heap.get? l = some (listOf items n)) (hs : s.heap.IsSliceOf sl .none .none .none) (hD : s.heap.IsList D new) (hne : l ≠ D) (hsz : items.size + new.size ≤ 1000)
    (hQ : ∀ h' n', Heap.SameBut l s.heap h' → h'.get? l = some (listOf new n') → Q () { s with heap := h' }) : wpAny (model prog w) A (setItem (.ref l) (.ref sl) (.ref D)) Q E s := by
  have hl : s.heap.IsList l items := ⟨_, ho, rfl, n, rfl⟩
  have hd : (listOf items n).data = .seq items n := rfl
  obtain ⟨oD, hoD, hcD, neD, hdD⟩ := id hD
  obtain ⟨os, hos, hcs, hds⟩ := id hs
  have hTs : s.TypeIs (.ref sl) "slice" := ⟨os, hos, hcs⟩
  unfold setItem
  try with_reducible refine wpAny_holding ?_
  first | refine wpAny_bind (wpAny_pure ?_) | skip
  refine wpAny_bind (wpAny_sequenceKey hl.typeIs (by decide) ?_)
  refine wpAny_bind (wpAny_callSpecial?_slot (name := Str.ofString "__setitem__") hl.typeIs slot_list_setitem
    (wpAny_call_entry slot_list_setitem hl.typeIs entry_list_setitem ?_ (args_list_setitem _ _ _)))
  show wpAny _ _ (Builtin.List.listSubscript? (.ref sl) >>= _) _ _ s
  refine wpAny_bind ?_
  unfold Builtin.List.listSubscript?
  refine wpAny_bind (wpAny_specialOf hTs slice_no_index ?_)
  simp only [Option.isNone_none, if_true]
  refine wpAny_pure ?_
  show wpAny _ _ (typeOf (.ref sl) >>= _) _ _ s
  refine wpAny_bind (wpAny_typeOf hTs ?_)
  rw [if_neg (by decide)]
  rw [listSliceParts_eq]
  refine wpAny_bind (wpAny_bind (wpAny_field hos hds (x := .none) rfl (wpAny_bind (wpAny_listPart .none ?_))))
  rw [if_neg (by decide)]
  refine wpAny_bind (wpAny_field hos hds (x := .none) rfl (wpAny_bind (wpAny_listPart .none ?_)))
  refine wpAny_bind (wpAny_field hos hds (x := .none) rfl (wpAny_bind (wpAny_listPart .none (wpAny_pure ?_))))
  rw [if_neg (by show ¬ ((l == D) = true); exact fun h => hne (beq_iff_eq.mp h))]
  refine wpAny_bind ?_
  unfold Builtin.List.listAllItems
  refine wpAny_bind (wpAny_typeOf hD.typeIs ?_)
  rw [if_pos (by decide)]
  refine wpAny_bind (wpAny_seqItems hoD hdD (wpAny_pure ?_))
  refine wpAny_bind (listItems_at ho hd ?_)
  refine wpAny_bind (wpAny_of_eq (sliceIndices_raw none none none items.size (by simp)) ?_)
  rw [if_pos (by rfl)]
  refine wpAny_bind (wpAny_rule ?_)
  rw [if_neg (by unfold Builtin.List.listTooLong sizeLine; simp; omega)]
  have hfn : items.extract 0 (sliceBounds none none none items.size).1.toNat ++ new ++ items.extract (max (sliceBounds none none none items.size).1 (sliceBounds none none none items.size).2.1).toNat = new := by
    simp [sliceBounds]
  refine wpAny_bind (listUpdate_at ho hd ?_ (by simp only [sizeLine]; omega) (by rw [hfn]; simp only [sizeLine]; omega))
  refine wpAny_bind (wpAny_letGo ?_)
  obtain ⟨n', e⟩ : ∃ n', Obj.mapSeq (fun xs => xs.extract 0 (sliceBounds none none none items.size).1.toNat ++ new ++ xs.extract (max (sliceBounds none none none items.size).1 (sliceBounds none none none items.size).2.1).toNat) (listOf items n) = listOf (items.extract 0 (sliceBounds none none none items.size).1.toNat ++ new ++ items.extract (max (sliceBounds none none none items.size).1 (sliceBounds none none none items.size).2.1).toNat) n' := ⟨_, rfl⟩
  have hfin := Heap.get?_update_self (Obj.mapSeq (fun xs => xs.extract 0 (sliceBounds none none none items.size).1.toNat ++ new ++ xs.extract (max (sliceBounds none none none items.size).1 (sliceBounds none none none items.size).2.1).toNat)) ho (by rw [e]; rfl)
  rw [e, hfn] at hfin
  first
    | exact wpAny_bind (wpAny_pure (wpAny_pure ⟨.none, rfl, wpAny_pure (hQ _ n' (Heap.SameBut.update ..) hfin)⟩))
    | exact wpAny_pure ⟨.none, rfl, wpAny_pure (hQ _ n' (Heap.SameBut.update ..) hfin)⟩
theorem set_all_K {h₀ : Heap} {L l D : Addr} {m : Str → Option Value} {news : List (Addr × Obj)} {g : Obj → List (Addr × Obj)} {its new : Array Value} {c k : Nat} {dd : Option Addr} {sl : Array (Option Value)} {Q : Unit → Shared → Prop}
    (F : Fr h₀ L s.heap m) (N : News h₀ L s.heap news) (U : UpdF l (listOf its c) news g) (hD : (D, (⟨.type "list", dd, .seq new k, sl⟩ : Obj)) ∈ news) (hne : l ≠ D) (hsz : its.size + new.size ≤ 1000)
    (h : ∀ h' c', Fr h₀ L h' m → News h₀ L h' (g (listOf new c')) → Q () { s with heap := h' }) :
    wpAny (model prog w) A (setItem (.ref l) (.ref s.heap.objs.size) (.ref D)) Q E { s with heap := s.heap.push { cls := .type "slice", data := .fields #[.none, .none, .none] } } := by
  obtain ⟨pre, post, rfl, hg, a, b⟩ := U.split
  have N1 := N.grown fun _ _ e => Heap.get?_push_of_some { cls := .type "slice", data := .fields #[.none, .none, .none] } e
  have F1 := F.push { cls := .type "slice", data := .fields #[.none, .none, .none] }
  have z := N1 (l, listOf its c) (List.mem_append.mpr (.inr (.head _)))
  refine setItem_all (s := { s with heap := s.heap.push { cls := .type "slice", data := .fields #[.none, .none, .none] } }) z.1 (Heap.IsSliceOf.new ..) ⟨_, (N1 _ hD).1, rfl, _, rfl⟩ hne hsz fun h' n' hs ho => ?_
  exact h h' n' (F1.change hs z.2.1 z.2.2) (by rw [hg]; exact news_set N1 a b hs ho)
end
local macro_rules | `(tactic| k_all) => `(tactic| (with_reducible assumption))

theorem rs_C6_set : True := by w_top off; trivial
def delAll (al : List (Str × Str)) (name : Str) : List (Str × Str) := al.filter fun p => Txt.lower p.1 != Txt.lower name
theorem delAll_hit {al : List (Str × Str)} {name k x : Str} {c : Nat} (h : al[c]? = some (k, x)) (e : (Txt.lower k == Txt.lower name) = true) : delAll (al.take (c + 1)) name = delAll (al.take c) name := by
  unfold delAll
  rw [List.take_add_one, h, List.filter_append]
  simp [beq_iff_eq.mp e]
theorem delAll_miss {al : List (Str × Str)} {name k x : Str} {c : Nat} (h : al[c]? = some (k, x)) (e : (Txt.lower k == Txt.lower name) = false) : delAll (al.take (c + 1)) name = delAll (al.take c) name ++ [(k, x)] := by
  unfold delAll
  rw [List.take_add_one, h, List.filter_append]
  simp [beq_eq_false_iff_ne.mp e]
section
variable {w : World} {dp un : Nat} {gd : Option (List Code)} {cn : Str} {cs : Scope} {a : Addr} {ccd : Value} {cl : List (Str × Addr)} {outer : List Env} {A₀ : Around} {base h₀ : Heap} {L : Addr} {m : Str → Option Value} {s : Shared} {Q E : Value → Shared → Prop} {mean : ExcName → Option Value} {mg mb : Str → Option Value} {news : List (Addr × Obj)}

set_option maxRecDepth 100000 in
set_option maxHeartbeats 8000000 in
theorem del_c (B : Below A₀ base outer h₀) (F : Fr h₀ L s.heap m) (X : (Mine.hk.heap_1 w.params).In h₀) {x l : Addr} {ps : List Value} {c : Nat} {rest fix : List (Addr × Obj)} {al : List (Str × Str)} {P : Str → Tok → Prop} (N : News h₀ L s.heap ((l, listOf ps.toArray c) :: rest)) (T : Top Mine.V LS mean mg mb h₀) (hk : cs.kind = .function)
    (hdp : dp + 7 < recursionLimit) (hun : un + 200 < cLine) (hat : AtIn P w al x l ps fix) (hfix : ∀ p ∈ fix, p ∈ rest) (hoff : ∀ q ∈ rest, q.1 ≠ l) (ok : AtOk al) {name : Str} {t : Tok} (hn : name.length ≤ 100) (hnl : (Txt.lower name).length ≤ 1000) (ht : Takes true (Txt.lower name))
    (ret : ∀ (ps' : List Value) (c' : Nat) (h' : Heap) (tk' : Nat), PairsAre P rest ps' (delAll al name) → Fr h₀ L h' m → News h₀ L h' ((l, listOf ps'.toArray c') :: rest) → Q .none { s with heap := h', toks := tk' }) :
    wpAny (model PySem.Challenge.rw_wo0081_01.row.prog w) (ktrTop dp un gd cn cs L a ccd cl outer) (call (.ref 222) [.ref x, .str name t]) Q E s := by
  obtain ⟨dA, t0, own, rfl, hps⟩ := hat
  have hx1 := hfix _ List.mem_cons_self
  have hx2 := hfix _ (List.mem_cons_of_mem _ List.mem_cons_self)
  have hps' := hps.mono fun p hp => hfix _ (List.mem_cons_of_mem _ (List.mem_cons_of_mem _ hp))
  clear hfix hps
  refine wpAny_call ?_
  (first | (k_dflt (refine' code_defC ?k1 ?k2 ?k3 ?k4 ?k5 ?kA ?kF ?kK ?k6 ?k7 ?k8 ?k9 ?kB ?kD ?_ ?c2 ?c3 ?c4; (case kA => exact rfl); (case kF => exact rfl); (case kK => first | exact rfl | assumption); (case k1 => k_asm); (case k2 => k_asm); (case k3 => k_asm); (case k4 => k_asm); (case k5 => k_asm); (case k6 => k_is); (case k7 => k_is); (case k8 => ktr_room); (case k9 => first | exact BindsTo.of_eq rfl | exact binds_K (by k_in) rfl (by k_is) rfl rfl rfl | fail "k_enter: no rule for these arguments"); (case kB => exact rfl); (case kD => decide +kernel); (case c2 => exact rfl); (case c3 => exact rfl); (case c4 => exact rfl); k_whole; intro g L1 h1 tk1 cells9 FG F1 N1 Y1 B1 X1 T1 LT; (try k_lt LT); k_cells Y1; (try simp only [List.cons_append, List.nil_append] at N1); (try dsimp only); (try k_lift B1); (try k_fold))) | (k_dflt cell_enter))
  (rename _ ∧ AllLt _ rest => lR); obtain ⟨lR0, lR⟩ := lR
  repeat' (first | (with_reducible show wpAny _ _ (eval (Expr.ListComp _ _ _ _) _) _ _ _; (k_dflt (refine compT_eval (F₀ := by k_asm) (by with_unfolding_all rfl) (by decide) (by rfl) (by decide) (by rfl) ?_))) | (first | ((fail_if_success (with_reducible refine' gd9 (t := eval _ _) ?_)); (first | (with_reducible (((fail_if_success (fail_if_success (with_reducible refine' gd9 (t := execs (_ :: _) _) ?_))); first | k_gentoks | ((with_reducible refine wpAny_execs_cons ?_); (try dsimp only); k_fold)))) | ((fail_if_success (fail_if_success (with_reducible refine' gd9 (t := call _ _ _) ?_))); (first | (with_reducible (((fail_if_success (fail_if_success (with_reducible refine' gd9 (t := call (Value.builtin "str.lower") [Value.str _ _]) ?_))); (refine SCL.lower (by ((try dsimp only); first | with_reducible assumption | omega | (simp only [Str.length_append]; omega) | fail "slen")) ?_); intro _; (try dsimp only)))) | (with_reducible (((fail_if_success (fail_if_success (with_reducible refine' gd9 (t := call (Value.ref 203) _ _) ?_))); k_dflt (refine' conv_c (by k_asm) (by k_asm) (by k_asm) (by k_asm) (by k_asm) (by first | rfl | assumption) (by ktr_room) (by ktr_units) (by first | with_reducible assumption | omega | exact Nat.le_trans (by assumption) (by decide : 100 ≤ 1000)) (by with_reducible assumption) ?_); intro _ _ _ _; (try dsimp only); (try k_fold)))) )) | (with_reducible (((fail_if_success (fail_if_success (with_reducible refine' gd9 (t := setItem (Value.ref _) (Value.ref _) _) ?_))); k_dflt (refine' set_all_K (by k_asm) (by k_asm) (by k_updF) (by k_mem) (by first | assumption | k_ne) (by (simp only [List.size_toArray]; omega)) ?_); intro _ _ _ N9; (try dsimp only at N9); revert N9; intro _; (try dsimp only); (try k_fold)))) | (with_reducible (((fail_if_success (fail_if_success (with_reducible refine' gd9 (t := subscriptTail _ _ (Value.ref _) (Value.int _ _)) ?_))); k_dflt (first | (refine' tup_item (by k_asm) (by k_mem) (by decide) (by decide) (by rfl) (by rfl) ?_) | (refine' lst_item (by k_asm) (by k_mem) (by decide) (by decide) (by rfl) ?_))))) )) | walk1) | (dsimp only; (first | ((fail_if_success (with_reducible refine' gd9 (t := eval _ _) ?_)); (first | (with_reducible (((fail_if_success (fail_if_success (with_reducible refine' gd9 (t := execs (_ :: _) _) ?_))); first | k_gentoks | ((with_reducible refine wpAny_execs_cons ?_); (try dsimp only); k_fold)))) | ((fail_if_success (fail_if_success (with_reducible refine' gd9 (t := call _ _ _) ?_))); (first | (with_reducible (((fail_if_success (fail_if_success (with_reducible refine' gd9 (t := call (Value.builtin "str.lower") [Value.str _ _]) ?_))); (refine SCL.lower (by ((try dsimp only); first | with_reducible assumption | omega | (simp only [Str.length_append]; omega) | fail "slen")) ?_); intro _; (try dsimp only)))) | (with_reducible (((fail_if_success (fail_if_success (with_reducible refine' gd9 (t := call (Value.ref 203) _ _) ?_))); k_dflt (refine' conv_c (by k_asm) (by k_asm) (by k_asm) (by k_asm) (by k_asm) (by first | rfl | assumption) (by ktr_room) (by ktr_units) (by first | with_reducible assumption | omega | exact Nat.le_trans (by assumption) (by decide : 100 ≤ 1000)) (by with_reducible assumption) ?_); intro _ _ _ _; (try dsimp only); (try k_fold)))) )) | (with_reducible (((fail_if_success (fail_if_success (with_reducible refine' gd9 (t := setItem (Value.ref _) (Value.ref _) _) ?_))); k_dflt (refine' set_all_K (by k_asm) (by k_asm) (by k_updF) (by k_mem) (by first | assumption | k_ne) (by (simp only [List.size_toArray]; omega)) ?_); intro _ _ _ N9; (try dsimp only at N9); revert N9; intro _; (try dsimp only); (try k_fold)))) | (with_reducible (((fail_if_success (fail_if_success (with_reducible refine' gd9 (t := subscriptTail _ _ (Value.ref _) (Value.int _ _)) ?_))); k_dflt (first | (refine' tup_item (by k_asm) (by k_mem) (by decide) (by decide) (by rfl) (by rfl) ?_) | (refine' lst_item (by k_asm) (by k_mem) (by decide) (by decide) (by rfl) ?_))))) )) | walk1)))
  (rename Fr _ _ _ _ => F9); (rename News _ _ _ _ => N9)
  have hpl := hps'.length
  have hal := ok.len
  k_dflt (refine CSrcT.of (iter_list rfl N9 (List.mem_cons_of_mem _ List.mem_cons_self)) F9 N9 (List.mem_cons_of_mem _ List.mem_cons_self) (by simp only [List.size_toArray, sizeLine]; omega) fun g => restT_inv (K := ps.toArray.size) (fun c ys nw => nw = _ ∧ PairsAre P rest ys (delAll (al.take c) name)) ?step ?fin _ _ _ _ (Nat.zero_add _) ⟨rfl, PairsAre.nil⟩)
  case step =>
    rintro c v I oI C oC D ys nw m₂ h tq Q' Q₀ E' hc hv ⟨rfl, hys⟩ hC hx F9 N9 off ne hQ hQ0
    obtain ⟨p, k, xx, tK, tX, n, rfl, hp, hal, hPx⟩ := hps'.at (by simpa using hv)
    obtain ⟨hk1, hk2⟩ := ok.at hal
    (repeat' (first | (k_unfold; (try dsimp only)) | (k_end; wrow_close) | (first | ((fail_if_success (with_reducible refine' gd9 (t := eval _ _) ?_)); (first | (with_reducible (((fail_if_success (fail_if_success (with_reducible refine' gd9 (t := execs (_ :: _) _) ?_))); first | k_gentoks | ((with_reducible refine wpAny_execs_cons ?_); (try dsimp only); k_fold)))) | ((fail_if_success (fail_if_success (with_reducible refine' gd9 (t := call _ _ _) ?_))); (first | (with_reducible (((fail_if_success (fail_if_success (with_reducible refine' gd9 (t := call (Value.builtin "str.lower") [Value.str _ _]) ?_))); (refine SCL.lower (by ((try dsimp only); first | with_reducible assumption | omega | (simp only [Str.length_append]; omega) | fail "slen")) ?_); intro _; (try dsimp only)))) | (with_reducible (((fail_if_success (fail_if_success (with_reducible refine' gd9 (t := call (Value.ref 203) _ _) ?_))); k_dflt (refine' conv_c (by k_asm) (by k_asm) (by k_asm) (by k_asm) (by k_asm) (by first | rfl | assumption) (by ktr_room) (by ktr_units) (by first | with_reducible assumption | omega | exact Nat.le_trans (by assumption) (by decide : 100 ≤ 1000)) (by with_reducible assumption) ?_); intro _ _ _ _; (try dsimp only); (try k_fold)))) )) | (with_reducible (((fail_if_success (fail_if_success (with_reducible refine' gd9 (t := setItem (Value.ref _) (Value.ref _) _) ?_))); k_dflt (refine' set_all_K (by k_asm) (by k_asm) (by k_updF) (by k_mem) (by first | assumption | k_ne) (by (simp only [List.size_toArray]; omega)) ?_); intro _ _ _ N9; (try dsimp only at N9); revert N9; intro _; (try dsimp only); (try k_fold)))) | (with_reducible (((fail_if_success (fail_if_success (with_reducible refine' gd9 (t := subscriptTail _ _ (Value.ref _) (Value.int _ _)) ?_))); k_dflt (first | (refine' tup_item (by k_asm) (by k_mem) (by decide) (by decide) (by rfl) (by rfl) ?_) | (refine' lst_item (by k_asm) (by k_mem) (by decide) (by decide) (by rfl) ?_))))) )) | walk1) | ((with_reducible show wpAny _ _ _ _ _ _); dsimp only) | (leave1; walk_say "STEP leave1"; try dsimp only) | fail "no step"))
    · refine hQ _ _ _ _ (by k_asm) (by k_asm) off (List.mem_cons_of_mem _ List.mem_cons_self) ⟨rfl, ?_⟩
      rw [delAll_miss hal (by simpa using (by assumption : (Txt.lower k != Txt.lower name) = true))]; exact PairsAre.app hys (.cons hp hPx .nil)
    · refine hQ0 _ _ _ (by k_asm) (by k_asm) off (List.mem_cons_of_mem _ List.mem_cons_self) ⟨rfl, ?_⟩
      rw [delAll_hit hal (by simpa using (by assumption : (Txt.lower k != Txt.lower name) = false))]; exact hys
  case fin =>
    rintro ys nw ⟨rfl, hys⟩ D h tq F9 N9 o1
    rw [List.take_of_length_le (by simp only [List.size_toArray]; omega)] at hys
    have hDl : @Ne Nat l D := o1.2.1
    have hyl : ys.length ≤ 100 := by
      rw [hys.length]; exact Nat.le_trans (List.length_filter_le _ _) hal
    (try dsimp only)
    (repeat' (first | (k_unfold; (try dsimp only)) | (k_end; wrow_close) | (first | ((fail_if_success (with_reducible refine' gd9 (t := eval _ _) ?_)); (first | (with_reducible (((fail_if_success (fail_if_success (with_reducible refine' gd9 (t := execs (_ :: _) _) ?_))); first | k_gentoks | ((with_reducible refine wpAny_execs_cons ?_); (try dsimp only); k_fold)))) | ((fail_if_success (fail_if_success (with_reducible refine' gd9 (t := call _ _ _) ?_))); (first | (with_reducible (((fail_if_success (fail_if_success (with_reducible refine' gd9 (t := call (Value.builtin "str.lower") [Value.str _ _]) ?_))); (refine SCL.lower (by ((try dsimp only); first | with_reducible assumption | omega | (simp only [Str.length_append]; omega) | fail "slen")) ?_); intro _; (try dsimp only)))) | (with_reducible (((fail_if_success (fail_if_success (with_reducible refine' gd9 (t := call (Value.ref 203) _ _) ?_))); k_dflt (refine' conv_c (by k_asm) (by k_asm) (by k_asm) (by k_asm) (by k_asm) (by first | rfl | assumption) (by ktr_room) (by ktr_units) (by first | with_reducible assumption | omega | exact Nat.le_trans (by assumption) (by decide : 100 ≤ 1000)) (by with_reducible assumption) ?_); intro _ _ _ _; (try dsimp only); (try k_fold)))) )) | (with_reducible (((fail_if_success (fail_if_success (with_reducible refine' gd9 (t := setItem (Value.ref _) (Value.ref _) _) ?_))); k_dflt (refine' set_all_K (by k_asm) (by k_asm) (by k_updF) (by k_mem) (by first | assumption | k_ne) (by (simp only [List.size_toArray]; omega)) ?_); intro _ _ _ N9; (try dsimp only at N9); revert N9; intro _; (try dsimp only); (try k_fold)))) | (with_reducible (((fail_if_success (fail_if_success (with_reducible refine' gd9 (t := subscriptTail _ _ (Value.ref _) (Value.int _ _)) ?_))); k_dflt (first | (refine' tup_item (by k_asm) (by k_mem) (by decide) (by decide) (by rfl) (by rfl) ?_) | (refine' lst_item (by k_asm) (by k_mem) (by decide) (by decide) (by rfl) ?_))))) )) | walk1) | ((with_reducible show wpAny _ _ _ _ _ _); dsimp only) | (leave1; walk_say "STEP leave1"; try dsimp only) | fail "no step"))
    exact ret _ _ _ _ hys (by k_asm) (cb_drop (by k_asm) (by walk_at "sub"))
end

theorem rs_C7_setitem : True := by w_top off; trivial
theorem append_own {prog : Program} {w : World} {A : Around} {E : Value → Shared → Prop} {s : Shared} {D L : Addr} {h₀ : Heap} {m : Str → Option Value} {news news' : List (Addr × Obj)} {its : List Value} {n : Nat} {x : Value} {Q : Value → Shared → Prop} (F : Fr h₀ L s.heap m) (N : News h₀ L s.heap news) (U : Upd D (listOf its.toArray n) (listOf (its ++ [x]).toArray (n + 1)) news news')
    (hsz : its.length ≤ 1000) (h : ∀ h', Fr h₀ L h' m → News h₀ L h' news' → Q .none { s with heap := h' }) : wpAny (model prog w) A (call (.builtin "list.append") [.ref D, x]) Q E s :=
  append_K F N (its := its.toArray) (by rw [List.push_toArray]; exact U) h (by simp only [List.size_toArray, sizeLine]; omega)
theorem delAll_len {P : Str → Tok → Prop} {nw : List (Addr × Obj)} {ps : List Value} {al : List (Str × Str)} {name : Str} (h : PairsAre P nw ps (delAll al name)) (hal : al.length ≤ 100) : ps.length ≤ 1000 := by
  have : (delAll al name).length ≤ al.length := List.length_filter_le _ _
  have := h.length
  omega
section
variable {M : Model} {A : Around} {E : Value → Shared → Prop} {s : Shared} {K : Frag} {x C L f : Addr} {h₀ : Heap} {m : Str → Option Value} {ox : Obj} {od : Option Obj} {i v : Value}
theorem own_delItem {Q : Unit → Shared → Prop} (F : Fr h₀ L s.heap m) (X₀ : K.In h₀) (I : InstAt s.heap x ox C od) (hq : noSeq K C = true) (hs : findIn K (.ref C) "__delitem__" = some (some (.ref f))) (hf : isFn K (.ref f) = true)
    (h : wpAny M A (call (.ref f) [.ref x, i]) (fun _ s' => Q () s') E s) : wpAny M A (delItem (.ref x) i) Q E s := by
  have X := X₀.keeps F.keep
  unfold delItem sequenceKey
  refine wpAny_holding (wpAny_bind (wpAny_bind (I.type.here ?_)))
  refine wpAny_bind ((anyM_none X hq).here ?_)
  rw [if_pos (show (!false) = true from rfl)]
  exact wpAny_pure (wpAny_bind (special_fn X I hs (beq_iff_eq.mp hf) (wpAny_mono h (fun _ _ z => wpAny_pure z) fun _ _ z => z)))
end
section
variable {w : World} {dp un : Nat} {gd : Option (List Code)} {cn : Str} {cs : Scope} {a : Addr} {ccd : Value} {cl : List (Str × Addr)} {outer : List Env} {A₀ : Around} {base h₀ : Heap} {L : Addr} {m : Str → Option Value} {s : Shared} {Q E : Value → Shared → Prop} {mean : ExcName → Option Value} {mg mb : Str → Option Value} {news : List (Addr × Obj)}

set_option maxRecDepth 100000 in
set_option maxHeartbeats 8000000 in
theorem setitem_c (B : Below A₀ base outer h₀) (F : Fr h₀ L s.heap m) (X : (Mine.hk.heap_1 w.params).In h₀) {x l : Addr} {ps : List Value} {c : Nat} {rest fix : List (Addr × Obj)} {al : List (Str × Str)} {P : Str → Tok → Prop} (N : News h₀ L s.heap ((l, listOf ps.toArray c) :: rest)) (T : Top Mine.V LS mean mg mb h₀) (hk : cs.kind = .function)
    (hdp : dp + 10 < recursionLimit) (hun : un + 500 < cLine) (hat : AtIn P w al x l ps fix) (hfix : ∀ p ∈ fix, p ∈ rest) (hoff : ∀ q ∈ rest, q.1 ≠ l) (ok : AtOk al) {name : Str} {t : Tok} (hn : name.length ≤ 100) (hnl : (Txt.lower name).length ≤ 1000) (ht : Takes true (Txt.lower name))
    (hn2 : name.length ≤ 1000) (ht2 : Takes true name) {val : Str} {tv : Tok} (hv : val.length ≤ 1000) (htv : Takes false val)
    (ret : ∀ (p : Addr) (n : Nat) (ps' : List Value) (c' : Nat) (h' : Heap) (tk' : Nat), s.toks ≤ tk' → PairsAre P rest ps' (delAll al name) → (∀ q ∈ (l, listOf ps.toArray c) :: rest, q.1 ≠ p) → Fr h₀ L h' m → News h₀ L h' ((l, listOf (ps' ++ [Value.ref p]).toArray c') :: (p, pairOf name val t tv n) :: rest) → Q .none { s with heap := h', toks := tk' }) :
    wpAny (model PySem.Challenge.rw_wo0081_01.row.prog w) (ktrTop dp un gd cn cs L a ccd cl outer) (call (.ref 171) [.ref x, .str name t, .str val tv]) Q E s := by
  have hat' := hat
  obtain ⟨dA, t0, own, rfl, hps⟩ := hat'
  have hx1 := hfix _ List.mem_cons_self
  have hx2 := hfix _ (List.mem_cons_of_mem _ List.mem_cons_self)
  have hal := ok.len
  refine wpAny_with_toks (Nat.le_refl s.toks) ?_
  refine wpAny_call ?_
  (k_dflt (refine' code_defG ?k1 ?k2 ?k3 ?k4 ?k5 ?kA ?kF ?kK ?k6 ?k7 ?k8 ?k9 ?kB ?_ ?c2 ?c3 ?c4 ?c5; (case kA => exact rfl); (case kF => exact rfl); (case kK => first | exact rfl | assumption); (case k1 => k_asm); (case k2 => k_asm); (case k3 => k_asm); (case k5 => k_asm); (case k6 => k_is); (case k7 => k_is); (case k8 => ktr_room); (case k9 => first | exact BindsTo.of_eq rfl | exact binds_K (by k_in) rfl (by k_is) rfl rfl rfl | fail "k_enter: no rule for these arguments"); (case kB => exact locs rfl); (case c2 => exact rfl); (case c3 => exact rfl); (case c4 => exact rfl); (case c5 => decide); k_whole))
  case k4 => exact N
  intro g L1 h1 FG F1 N1 B1 X1 T1 SK LT
  (try dsimp only); (try k_fold)
  (repeat' (first | (k_unfold; (try dsimp only)) | (k_end; wrow_close) | (first | ((fail_if_success (with_reducible refine' gd9 (t := eval _ _) ?_)); (first | (with_reducible (((fail_if_success (fail_if_success (with_reducible refine' gd9 (t := execs (_ :: _) _) ?_))); first | k_gentoks | ((with_reducible refine wpAny_execs_cons ?_); (try dsimp only); k_fold)))) | ((fail_if_success (fail_if_success (with_reducible refine' gd9 (t := call _ _ _) ?_))); (first | (with_reducible (((fail_if_success (fail_if_success (with_reducible refine' gd9 (t := call (Value.builtin _) [Value.ref _, _]) ?_))); k_dflt (refine' append_own (by k_asm) (by k_asm) (by k_upd) (by first | exact delAll_len (by with_reducible assumption) (by with_reducible assumption) | omega | exact Nat.le_of_ble_eq_true rfl) ?_); intro _ _ _; (try dsimp only); (try k_fold)))) | (with_reducible (((fail_if_success (fail_if_success (with_reducible refine' gd9 (t := call (Value.ref 222) _) ?_))); k_dflt (refine' del_c (by k_asm) (by k_asm) (by k_asm) (by k_asm) (by k_asm) (by first | rfl | assumption) (by ktr_room) (by ktr_units) (by with_reducible assumption) (by first | with_reducible assumption | walk_at "sub") (by with_reducible assumption) (by with_reducible assumption) (by with_reducible assumption) (by with_reducible assumption) (by with_reducible assumption) ?_); intro _ _ _ _ _ _ _; (try dsimp only); (try k_fold)))) | (with_reducible (((fail_if_success (fail_if_success (with_reducible refine' gd9 (t := call (Value.ref 203) _ _) ?_))); k_dflt (refine' conv_c (by k_asm) (by k_asm) (by k_asm) (by k_asm) (by k_asm) (by first | rfl | assumption) (by ktr_room) (by ktr_units) (by first | with_reducible assumption | omega | exact Nat.le_trans (by assumption) (by decide : 100 ≤ 1000)) (by with_reducible assumption) ?_); intro _ _ _ _; (try dsimp only); (try k_fold)))) )) | (with_reducible (((fail_if_success (fail_if_success (with_reducible refine' gd9 (t := delItem (Value.ref _) _) ?_))); k_dflt (refine' own_delItem ?zF9 ?zX9 ?zI9 ?zhQ9 ?zhS9 ?zhF9 ?_; (case zF9 => k_asm); (case zX9 => k_asm); (case zI9 => k_inst); (case zhS9 => k_is); (case zhF9 => k_is); (case zhQ9 => k_is); k_whole)))) )) | walk1) | ((with_reducible show wpAny _ _ _ _ _ _); dsimp only) | (leave1; walk_say "STEP leave1"; try dsimp only) | fail "no step"))
  (rename PairsAre _ rest _ (delAll al name) => hps9); (rename _ ∧ AllLt _ rest => lR)
  exact ret _ _ _ _ _ _ (by first | with_reducible assumption | assumption | omega) hps9 (List.forall_mem_cons.mpr ⟨Nat.ne_of_lt lR.1, fun q hq => Nat.ne_of_lt (allLt_mem lR.2 q hq)⟩) (by k_asm) (cb_drop (by k_asm) (by walk_at "sub"))
end

theorem rs_C8_make : True := by w_top off; trivial
section
variable {w : World} {dp un : Nat} {gd : Option (List Code)} {cn : Str} {cs : Scope} {a : Addr} {ccd : Value} {cl : List (Str × Addr)} {outer : List Env} {A₀ : Around} {base h₀ : Heap} {L : Addr} {m : Str → Option Value} {s : Shared} {Q E : Value → Shared → Prop} {mean : ExcName → Option Value} {mg mb : Str → Option Value} {news : List (Addr × Obj)}

set_option maxRecDepth 100000 in
set_option maxHeartbeats 8000000 in
theorem items_c (B : Below A₀ base outer h₀) (F : Fr h₀ L s.heap m) (X : (Mine.hk.heap_1 w.params).In h₀) {x l : Addr} {ps : List Value} {c : Nat} {rest fix : List (Addr × Obj)} {al : List (Str × Str)} {P : Str → Tok → Prop} (N : News h₀ L s.heap ((l, listOf ps.toArray c) :: rest)) (T : Top Mine.V LS mean mg mb h₀) (hk : cs.kind = .function)
    (hdp : dp + 7 < recursionLimit) (hun : un + 200 < cLine) (hat : AtIn P w al x l ps fix) (hfix : ∀ p ∈ fix, p ∈ rest) (hoff : ∀ q ∈ rest, q.1 ≠ l) (ok : AtOk al)
    (ret : ∀ (r : Addr) (c' : Nat) (h' : Heap) (tk' : Nat), (∀ q ∈ (l, listOf ps.toArray c) :: rest, q.1 ≠ r) → Fr h₀ L h' m → News h₀ L h' ((r, listOf ps.toArray c') :: (l, listOf ps.toArray c) :: rest) → Q (.ref r) { s with heap := h', toks := tk' }) :
    wpAny (model PySem.Challenge.rw_wo0081_01.row.prog w) (ktrTop dp un gd cn cs L a ccd cl outer) (call (.ref 266) [.ref x]) Q E s := by
  obtain ⟨dA, t0, own, rfl, hps⟩ := hat
  have hx1 := hfix _ List.mem_cons_self
  have hx2 := hfix _ (List.mem_cons_of_mem _ List.mem_cons_self)
  have hpl := hps.length
  have hal := ok.len
  refine wpAny_call ?_
  (k_dflt (refine' code_defG ?k1 ?k2 ?k3 ?k4 ?k5 ?kA ?kF ?kK ?k6 ?k7 ?k8 ?k9 ?kB ?_ ?c2 ?c3 ?c4 ?c5; (case kA => exact rfl); (case kF => exact rfl); (case kK => first | exact rfl | assumption); (case k1 => k_asm); (case k2 => k_asm); (case k3 => k_asm); (case k5 => k_asm); (case k6 => k_is); (case k7 => k_is); (case k8 => ktr_room); (case k9 => first | exact BindsTo.of_eq rfl | exact binds_K (by k_in) rfl (by k_is) rfl rfl rfl | fail "k_enter: no rule for these arguments"); (case kB => exact locs rfl); (case c2 => exact rfl); (case c3 => exact rfl); (case c4 => exact rfl); (case c5 => decide); k_whole))
  case k4 => exact N
  intro g L1 h1 FG F1 N1 B1 X1 T1 SK LT
  (try dsimp only); (try k_fold)
  (repeat' (first | (k_unfold; (try dsimp only)) | (k_end; wrow_close) | (first | ((fail_if_success (with_reducible refine' gd9 (t := eval _ _) ?_)); (first | (with_reducible (((fail_if_success (fail_if_success (with_reducible refine' gd9 (t := execs (_ :: _) _) ?_))); first | k_gentoks | ((with_reducible refine wpAny_execs_cons ?_); (try dsimp only); k_fold)))) | (with_reducible (((fail_if_success (fail_if_success (with_reducible refine' gd9 (t := call (Value.ref 203) _ _) ?_))); k_dflt (refine' conv_c (by k_asm) (by k_asm) (by k_asm) (by k_asm) (by k_asm) (by first | rfl | assumption) (by ktr_room) (by ktr_units) (by first | with_reducible assumption | omega | exact Nat.le_trans (by assumption) (by decide : 100 ≤ 1000)) (by with_reducible assumption) ?_); intro _ _ _ _; (try dsimp only); (try k_fold)))) | (with_reducible (((fail_if_success (fail_if_success (with_reducible refine' gd9 (t := exec (Stmt.For _ _ _ _ _) _) ?_))); (rename Fr _ _ _ _ => lF'); (with_unfolding_all refine' For_turns lF' ?_); k_whole))) )) | walk1) | ((with_reducible show wpAny _ _ _ _ _ _); dsimp only) | (leave1; walk_say "STEP leave1"; try dsimp only) | fail "no step"))
  (rename News h₀ L _ _ => kN9)
  simp only [slicePick_all] at kN9
  exact ret _ _ _ _ (fun q hq => Nat.ne_of_lt (Nat.lt_succ_of_lt (Heap.lt_size (N1 q hq).1))) (by k_asm) kN9

set_option maxRecDepth 100000 in
set_option maxHeartbeats 8000000 in
theorem make_c (B : Below A₀ base outer h₀) (F : Fr h₀ L s.heap m) (X : (Mine.hk.heap_1 w.params).In h₀) {l : Addr} {ps : List Value} {c : Nat} {rest : List (Addr × Obj)} {al : List (Str × Str)} {P : Str → Tok → Prop} (N : News h₀ L s.heap ((l, listOf ps.toArray c) :: rest)) (T : Top Mine.V LS mean mg mb h₀) (hk : cs.kind = .function)
    (hdp : dp + 7 < recursionLimit) (hun : un + 200 < cLine) (hps : PairsAre P rest ps al) (ok : AtOk al) (htk : ∀ p ∈ al, Takes true p.1) (htv : ∀ p ∈ al, Takes false p.2)
    (ret : ∀ (x dA : Addr) (t : Tok) (h' : Heap) (tk' : Nat), (∀ q ∈ (l, listOf ps.toArray c) :: rest, q.1 ≠ x ∧ q.1 ≠ dA) → Fr h₀ L h' m → News h₀ L h' ((x, instObj 302 dA) :: (dA, dictOf [ent w (Str.ofString "_headers") t (.ref l)] 1) :: (l, listOf ps.toArray c) :: rest) → Q (.ref x) { s with heap := h', toks := tk' }) :
    wpAny (model PySem.Challenge.rw_wo0081_01.row.prog w) (ktrTop dp un gd cn cs L a ccd cl outer) (call (.ref 302) [.ref l]) Q E s := by
  k_dflt (refine' call_cls ?k1 ?k2 ?k3 ?k4 ?k5 ?k6 ?_; (case k1 => k_asm); (case k2 => k_asm); (case k3 => k_asm); (case k4 => k_is); (case k5 => k_is); (case k6 => k_is); k_whole)
  intro x dx hx Fx Nx lx1 lx2
  (k_dflt (refine' code_defG ?k1 ?k2 ?k3 ?k4 ?k5 ?kA ?kF ?kK ?k6 ?k7 ?k8 ?k9 ?kB ?_ ?c2 ?c3 ?c4 ?c5; (case kA => exact rfl); (case kF => exact rfl); (case kK => first | exact rfl | assumption); (case k1 => k_asm); (case k2 => k_asm); (case k3 => k_asm); (case k5 => k_asm); (case k6 => k_is); (case k7 => k_is); (case k8 => ktr_room); (case k9 => first | exact BindsTo.of_eq rfl | exact binds_K (by k_in) rfl (by k_is) rfl rfl rfl | fail "k_enter: no rule for these arguments"); (case kB => exact locs rfl); (case c2 => exact rfl); (case c3 => exact rfl); (case c4 => exact rfl); (case c5 => decide); k_whole))
  case k4 => exact Nx
  intro g L1 h1 FG F1 N1 B1 X1 T1 SK LT
  replace lx2 := ltN lx2
  have lR : AllLt dx rest := allLt_of fun q hq => lx1 q (List.mem_cons_of_mem _ hq)
  have lR0 := ltN (show l < dx from lx1 _ List.mem_cons_self)
  replace LT := allLt_of LT; simp only [AllLt] at LT
  (try dsimp only); (try k_fold)
  (repeat ((fail_if_success (with_reducible show wpAny _ _ (pyIter _) _ _ _)); (first | (first | ((fail_if_success (with_reducible refine' gd9 (t := eval _ _) ?_)); (first | (with_reducible (((fail_if_success (fail_if_success (with_reducible refine' gd9 (t := execs (_ :: _) _) ?_))); first | k_gentoks | ((with_reducible refine wpAny_execs_cons ?_); (try dsimp only); k_fold)))) | (with_reducible (((fail_if_success (fail_if_success (with_reducible refine' gd9 (t := call (Value.ref 203) _ _) ?_))); k_dflt (refine' conv_c (by k_asm) (by k_asm) (by k_asm) (by k_asm) (by k_asm) (by first | rfl | assumption) (by ktr_room) (by ktr_units) (by first | with_reducible assumption | omega | exact Nat.le_trans (by assumption) (by decide : 100 ≤ 1000)) (by with_reducible assumption) ?_); intro _ _ _ _; (try dsimp only); (try k_fold)))) | (with_reducible (((fail_if_success (fail_if_success (with_reducible refine' gd9 (t := exec (Stmt.For _ _ _ _ _) _) ?_))); (rename Fr _ _ _ _ => lF'); (with_unfolding_all refine' For_turns lF' ?_); k_whole))) )) | walk1) | dsimp only)))
  (rename Fr g L1 _ _ => hF); (rename News g L1 _ _ => hN)
  have hpl := hps.length
  have hal := ok.len
  have hps' := hps.mono (nw' := rest) fun p hp => hp
  refine for_invT (fun i m₁ nw => nw = _ ∧ m₁ (Str.ofString "self") = some (.ref x)) _
    (iter_listT rfl hN (List.mem_cons_of_mem _ (List.mem_cons_of_mem _ List.mem_cons_self))) hF hN (List.mem_cons_of_mem _ (List.mem_cons_of_mem _ List.mem_cons_self)) ⟨rfl, rfl⟩ (fun _ _ _ h => h.1 ▸ (List.mem_cons_of_mem _ (List.mem_cons_of_mem _ List.mem_cons_self))) (fun _ _ h => h) ?turn ?done
  case turn =>
    rintro i v m₁ nw I oI h tq Kt hi hv ⟨rfl, h1⟩ off F2 N2 hNx hBk hRt
    obtain ⟨p, k, xx, tK, tX, n, rfl, hp, hal, hPx⟩ := hps'.at (by simpa using hv)
    obtain ⟨hk1, hk2⟩ := ok.at hal
    have hkT := htk _ (List.mem_of_getElem? hal)
    have hvT := htv _ (List.mem_of_getElem? hal)
    dsimp only at hkT hvT
    have F3 := fr_known F2 [(Str.ofString "self", .ref x)] (by ((repeat (refine List.forall_mem_cons.mpr ⟨(by dsimp only; first | exact if_pos rfl | exact (if_neg (by decide +kernel)).trans (by first | with_reducible assumption | assumption) | (with_reducible assumption) | assumption), ?_⟩)); exact List.forall_mem_nil _))
    clear F2 hF hN
    (repeat' (first | (k_unfold; (try dsimp only)) | (k_end; wrow_close) | (first | ((fail_if_success (with_reducible refine' gd9 (t := eval _ _) ?_)); (first | (with_reducible (((fail_if_success (fail_if_success (with_reducible refine' gd9 (t := execs (_ :: _) _) ?_))); first | k_gentoks | ((with_reducible refine wpAny_execs_cons ?_); (try dsimp only); k_fold)))) | (with_reducible (((fail_if_success (fail_if_success (with_reducible refine' gd9 (t := call (Value.ref 203) _ _) ?_))); k_dflt (refine' conv_c (by k_asm) (by k_asm) (by k_asm) (by k_asm) (by k_asm) (by first | rfl | assumption) (by ktr_room) (by ktr_units) (by first | with_reducible assumption | omega | exact Nat.le_trans (by assumption) (by decide : 100 ≤ 1000)) (by with_reducible assumption) ?_); intro _ _ _ _; (try dsimp only); (try k_fold)))) | (with_reducible (((fail_if_success (fail_if_success (with_reducible refine' gd9 (t := exec (Stmt.For _ _ _ _ _) _) ?_))); (rename Fr _ _ _ _ => lF'); (with_unfolding_all refine' For_turns lF' ?_); k_whole))) )) | walk1) | ((with_reducible show wpAny _ _ _ _ _ _); dsimp only) | (leave1; walk_say "STEP leave1"; try dsimp only) | fail "no step"))
    exact hNx _ _ _ _ _ (.inl rfl) (by k_asm) (cb_drop (by k_asm) (by walk_at "sub")) off ⟨rfl, rfl⟩
  case done =>
    rintro m₁ nw h tq ⟨rfl, h1⟩ F2 N2
    clear hF hN
    (try dsimp only)
    (repeat' (first | (k_unfold; (try dsimp only)) | (k_end; wrow_close) | (first | ((fail_if_success (with_reducible refine' gd9 (t := eval _ _) ?_)); (first | (with_reducible (((fail_if_success (fail_if_success (with_reducible refine' gd9 (t := execs (_ :: _) _) ?_))); first | k_gentoks | ((with_reducible refine wpAny_execs_cons ?_); (try dsimp only); k_fold)))) | (with_reducible (((fail_if_success (fail_if_success (with_reducible refine' gd9 (t := call (Value.ref 203) _ _) ?_))); k_dflt (refine' conv_c (by k_asm) (by k_asm) (by k_asm) (by k_asm) (by k_asm) (by first | rfl | assumption) (by ktr_room) (by ktr_units) (by first | with_reducible assumption | omega | exact Nat.le_trans (by assumption) (by decide : 100 ≤ 1000)) (by with_reducible assumption) ?_); intro _ _ _ _; (try dsimp only); (try k_fold)))) | (with_reducible (((fail_if_success (fail_if_success (with_reducible refine' gd9 (t := exec (Stmt.For _ _ _ _ _) _) ?_))); (rename Fr _ _ _ _ => lF'); (with_unfolding_all refine' For_turns lF' ?_); k_whole))) )) | walk1) | ((with_reducible show wpAny _ _ _ _ _ _); dsimp only) | (leave1; walk_say "STEP leave1"; try dsimp only) | fail "no step"))
    (rename News h₀ L _ _ => kN9)
    exact ret x _ _ _ _ (List.forall_mem_cons.mpr ⟨⟨Nat.ne_of_lt (Nat.lt_trans lR0 lx2), Nat.ne_of_lt lR0⟩, fun q hq => ⟨Nat.ne_of_lt (Nat.lt_trans (allLt_mem lR q hq) lx2), Nat.ne_of_lt (allLt_mem lR q hq)⟩⟩) (by k_asm) kN9
end

theorem rs_D0b_bound : True := by w_top off; trivial
open PyProof.Rows.LCg PySem.Calls in
/-- a for loop over a list; the invariant sees the machine's counter -/
theorem for_invB {prog : Program} {w : World} {A : Around} {E : Value → Shared → Prop} {s : Shared} {h₀ : Heap} {env : Env} {target : Expr} {body : List Stmt} {Q : Flow → Shared → Prop} {ax : Addr} {its : Array Value} {c : Nat} {dd : Option Addr} {sl : Array (Option Value)}
    {news : List (Addr × Obj)} {m₀ : Str → Option Value} (J : Nat → Nat → (Str → Option Value) → List (Addr × Obj) → Prop) (hh : A.handled = none)
    (F : Fr h₀ env.locals s.heap m₀) (N : News h₀ env.locals s.heap news) (hm : (ax, (⟨.type "list", dd, .seq its c, sl⟩ : Obj)) ∈ news) (hj : J 0 s.toks m₀ news) (hJS : ∀ i t m nw, J i t m nw → (ax, (⟨.type "list", dd, .seq its c, sl⟩ : Obj)) ∈ nw)
    (hE : PassesOwn (model prog w) A env E)
    (turn : ∀ i v m₁ nw I oI h t (Kt : Flow → Shared → Prop), i < its.size → its[i]? = some v → J i t m₁ nw → (∀ p ∈ nw, (@Ne Nat p.1 I)) → Fr h₀ env.locals h m₁ → News h₀ env.locals h ((I, oI) :: nw) →
      (∀ f h' t' m' nw', f = .next ∨ f = .cont → Fr h₀ env.locals h' m' → News h₀ env.locals h' ((I, oI) :: nw') → (∀ p ∈ nw', (@Ne Nat p.1 I)) → (t ≤ t' → J (i + 1) t' m' nw') → Kt f { s with heap := h', toks := t' }) →
      (∀ v s', Q (.ret v) s' → Kt (.ret v) s') →
      wpAny (model prog w) A (assign target env v) (fun _ s₃ => wpAny (model prog w) A (execs body env) Kt E s₃) E { s with heap := h, toks := t })
    (done : ∀ m₁ nw h t, J its.size t m₁ nw → Fr h₀ env.locals h m₁ → News h₀ env.locals h nw → Q .next { s with heap := h, toks := t }) :
    wpAny (model prog w) A (pyIter (.ref ax)) (fun it s₂ => codeAny (model prog w) A (.forLoop target it body [] env) (fun r s' => match r with | .ok f => Q f s' | .error e => cameBackBy (model prog w) A env E e s') s₂) E s := by
  have z := N _ hm
  have hT : s.heap.IsList ax its := ⟨_, z.1, rfl, _, rfl⟩
  have hlt : ax < s.heap.objs.size := Heap.lt_size z.1
  have hne : ax ≠ s.heap.objs.size := Nat.ne_of_lt hlt
  refine wpAny_pyIter_list hT ?_
  have hLI : env.locals ≠ s.heap.objs.size := Nat.ne_of_lt F.ns.lt
  have hI0 : h₀.get? s.heap.objs.size = none := next_is_new F
  refine codeAny_forLoop_any
    (fun k s' => ∃ h' t m' nw' i, s' = { s with heap := h', toks := t } ∧ h'.IsListIter s.heap.objs.size ax i ∧ Fr h₀ env.locals h' m' ∧ News h₀ env.locals h' nw' ∧ (∀ p ∈ nw', (@Ne Nat p.1 s.heap.objs.size)) ∧ J i t m' nw' ∧ i ≤ its.size ∧ k = its.size + 1 - i) ?_ (its.size + 1)
    ⟨_, s.toks, m₀, news, 0, rfl, ⟨_, Heap.get?_push_size _ rfl, rfl, rfl⟩, F.push _, N.grown fun _ _ e => Heap.get?_push_of_some _ e, fun p hp => Nat.ne_of_lt (Heap.lt_size (N p hp).1), hj, Nat.zero_le _, rfl⟩
  rintro k s' ⟨h', t, m', nw', i, rfl, hit, F', N', off', hJ, hi, rfl⟩
  have hls : h'.IsList ax its := ⟨_, (N' _ (hJS _ _ _ _ hJ)).1, rfl, _, rfl⟩
  by_cases hin : i < its.size
  · refine wpAny_pyNext_list_item hit hls (x := its[i]) (by simp [hin]) fun h₁ hit₁ hs₁ => ?_
    refine letGo_listiter hit₁ ?_
    obtain ⟨oI, hoI, hoc, hod⟩ := hit₁
    have hk₁ : ∀ b o, b ∉ [s.heap.objs.size] → h'.get? b = some o → h₁.get? b = some o := fun b o hb e => hs₁.extBut b o (fun q => hb (List.mem_singleton.mpr q)) e
    have F₁ := fr_but F' hk₁ hLI hI0
    have N₁ : News h₀ env.locals h₁ ((s.heap.objs.size, oI) :: nw') := fun p hp => by
      rcases List.mem_cons.mp hp with rfl | hp
      · exact ⟨hoI, Ne.symm hLI, hI0⟩
      · exact news_but N' hk₁ off' p hp
    refine wpAny_mono (wpAny_toks_of (n := t) (Nat.le_refl t) (turn i its[i] m' nw' s.heap.objs.size oI h₁ t (fun f s₃ => t ≤ s₃.toks → (match f with
      | .next | .cont => ∃ m, m < its.size + 1 - i ∧ (∃ h' t m' nw' i, s₃ = { s with heap := h', toks := t } ∧ h'.IsListIter s.heap.objs.size ax i ∧ Fr h₀ env.locals h' m' ∧ News h₀ env.locals h' nw' ∧ (∀ p ∈ nw', (@Ne Nat p.1 s.heap.objs.size)) ∧ J i t m' nw' ∧ i ≤ its.size ∧ m = its.size + 1 - i)
      | .brk => Q .next s₃
      | .ret v => Q (.ret v) s₃)) hin (by simp [hin]) hJ off' F₁ N₁ ?_ ?_)) (fun _ s₃ h₃ => ?_) fun e s₃ h₃ => hE _ _ h₃.2
    · intro f h₂ t₂ m₂ nw₂ hf F₂ N₂ off₂ hJ₂
      have fin : t ≤ t₂ → ∃ m, m < its.size + 1 - i ∧ (∃ h' t m' nw' i, ({ s with heap := h₂, toks := t₂ } : Shared) = { s with heap := h', toks := t } ∧ h'.IsListIter s.heap.objs.size ax i ∧ Fr h₀ env.locals h' m' ∧ News h₀ env.locals h' nw' ∧ (∀ p ∈ nw', (@Ne Nat p.1 s.heap.objs.size)) ∧ J i t m' nw' ∧ i ≤ its.size ∧ m = its.size + 1 - i) := fun ht =>
        ⟨its.size + 1 - (i + 1), by omega, h₂, t₂, m₂, nw₂, i + 1, rfl, ⟨_, (N₂ _ List.mem_cons_self).1, hoc, hod⟩, F₂, fun p hp => N₂ p (List.mem_cons_of_mem _ hp), off₂, hJ₂ ht, hin, rfl⟩
      rcases hf with rfl | rfl
      · exact fin
      · exact fin
    · intro v s' h _; exact h
    · refine wpAny_mono (wpAny_toks_of h₃.1 h₃.2) (fun f s₄ h₄ => ?_) fun e s₄ h₄ => hE _ _ h₄.2
      have h₅ := h₄.2 h₄.1
      cases f with
      | next => exact h₅
      | cont => exact h₅
      | brk => exact h₅
      | ret v => exact h₅
  · obtain rfl : i = its.size := Nat.le_antisymm hi (Nat.not_lt.mp hin)
    refine wpAny_pyNext_list_end hh hit hls (by simp) fun h₁ he₁ => wpAny_execs_nil ?_
    have hk₁ : ∀ b o, b ∉ [s.heap.objs.size] → h'.get? b = some o → h₁.get? b = some o := fun b o hb e => he₁ b o (fun q => hb (List.mem_singleton.mpr q)) e
    exact done m' nw' h₁ t hJ (fr_but F' hk₁ hLI hI0) (news_but N' hk₁ off')
theorem For_B {prog : Program} {w : World} {A : Around} {E : Value → Shared → Prop} {s : Shared} {env : Env} {target iter : Expr} {pos : Pos} {body : List Stmt} {Q : Flow → Shared → Prop}
    (h : wpAny (model prog w) A (eval iter env) (fun xv s₁ => wpAny (model prog w) A (pyIter xv) (fun it s₂ => codeAny (model prog w) A (.forLoop target it body [] env) (fun r s' => match r with | .ok f => Q f s' | .error e => cameBackBy (model prog w) A env E e s') s₂) E s₁) E s)
    (hs : ∀ x, foldedSetIterable iter env x = pure x := by intro _; rfl) :
    wpAny (model prog w) A (exec (.For target iter body [] pos) env) Q E s :=
  wpAny_For (wpAny_mono h (fun xv s₁ h₁ => wpAny_mono h₁ (fun it s₂ h₂ => h₂) fun _ _ e => e) fun _ _ e => e) hs

theorem rs_D0c_compB : True := by w_top off; trivial
open PyProof.Rows.LCg PySem.Calls in
section
variable {prog : Program} {w : World} {A : Around} {E : Value → Shared → Prop} {s : Shared} {h₀ : Heap} {L : Addr} {m : Str → Option Value} {env : Env}
/-- the source of a comprehension: a text -/
def CSrcS (prog : Program) (w : World) (A : Around) (h₀ : Heap) (L : Addr) (m : Str → Option Value) (env : Env) (elt : Expr) (x : Str) (scope : Scope) (cl : List (Str × Addr)) (Q : Value → Shared → Prop) (xv : Value) (s₁ : Shared) : Prop :=
  ∃ (X : Str) (t : Tok) (news : List (Addr × Obj)) (J : Nat → Nat → List Value → List (Addr × Obj) → Prop), xv = .str X t ∧ A.handled = none ∧ X.cps.all (· < 128) = true ∧ X.cps.size ≤ sizeLine ∧ Fr h₀ L s₁.heap m ∧ News h₀ L s₁.heap news ∧ J 0 s₁.toks [] news ∧
      (∀ i ch u t₁ I oI C oC D ys nw m₂ h₁ (Q' E' : Value → Shared → Prop), X.cps[i]? = some ch → J i u ys nw → u < t₁ → NsObj oC m₂ → m₂ x = some (.str ⟨#[ch]⟩ u) → Fr h₀ L h₁ m → News h₀ L h₁ ((I, oI) :: (C, oC) :: (D, lst ys) :: nw) → Off3 I C D nw → ((@Ne Nat I C) ∧ (@Ne Nat I D) ∧ (@Ne Nat C D)) →
        (∀ y h' t' nw', Fr h₀ L h' m → News h₀ L h' ((I, oI) :: (C, oC) :: (D, lst ys) :: nw') → Off3 I C D nw' → (t₁ ≤ t' → J (i + 1) t' (ys ++ [y]) nw') → Q' y { s₁ with heap := h', toks := t' }) →
        wpAny (model prog w) A (eval elt (compEnvC scope cl C env)) Q' E' { s₁ with heap := h₁, toks := t₁ }) ∧
      (∀ t' ys nw D h', J X.cps.size t' ys nw → Fr h₀ L h' m → News h₀ L h' ((D, lst ys) :: nw) → Off1 D nw → Q (.ref D) { s₁ with heap := h', toks := t' })
/-- a comprehension over a text's signs; the invariant sees the machine's counter, and each sign is newer than what it saw -/
theorem compS_eval {elt iter : Expr} {x : Str} {px : Pos} {scope : Scope} {cl : List (Str × Addr)} {pos : Pos} {Q : Value → Shared → Prop} (F₀ : Fr h₀ L s.heap m)
    (hclos : closureFor scope env = pure cl) (hcell : ∀ y ∈ scope.names, y.2 ≠ .cell) (hkind : scope.kind = .function)
    (hnames : ∀ y ∈ scope.names, y.2 = .local → scope.names.lookup y.1 = some .local) (hx : scope.names.lookup x = some .local)
    (h : wpAny (model prog w) A (eval iter env) (CSrcS prog w A h₀ L m env elt x scope cl Q) E s)
    (hs : ∀ x, foldedSetIterable iter env x = pure x := by intro _; rfl) :
    wpAny (model prog w) A (eval (.ListComp elt [⟨.Name x px, iter, [], 0⟩] scope pos) env) Q E s := by
  rw [eval_ListComp]
  refine wpAny_comprehension_free (use := none) rfl hs hclos hkind hnames (wpAny_mono h (fun xv s₁ h₁ => ?_) fun _ _ e => e)
  obtain ⟨X, t, news, J, rfl, hh, hasc, hsz, F, N, hj, step, fin⟩ := h₁
  refine wpAny_pyIter_ascii hasc ?_
  refine wpAny_newObj_type (wpAny_newFunctionEnv hcell (by intro y hy; simp at hy) (fun h₁ hns₁ hsb₁ => ?_) hkind)
  dsimp only at hns₁ hsb₁ ⊢
  -- the three new objects: the iterator, the list, the frame
  have hI : (s₁.heap.push { cls := .type "str_ascii_iterator", data := .fields #[.str X t, .int 0 0] }).objs.size = s₁.heap.objs.size + 1 := Heap.size_push ..
  have e0 : ∀ b o, s₁.heap.get? b = some o → (s₁.heap.push { cls := .type "str_ascii_iterator", data := .fields #[.str X t, .int 0 0] }).get? b = some o := fun b o e => Heap.get?_push_of_some _ e
  generalize hH1 : s₁.heap.push { cls := .type "str_ascii_iterator", data := .fields #[.str X t, .int 0 0] } = H1 at hns₁ hsb₁ hI e0 ⊢
  have hIter1 : H1.get? s₁.heap.objs.size = some { cls := .type "str_ascii_iterator", data := .fields #[.str X t, .int 0 0] } := by rw [← hH1]; exact Heap.get?_push_size _ rfl
  have hD : (H1.push { cls := .type "list", dict := none, data := .seq ([] : List Value).toArray }).objs.size = H1.objs.size + 1 := Heap.size_push ..
  have e1 : ∀ b o, H1.get? b = some o → (H1.push { cls := .type "list", dict := none, data := .seq ([] : List Value).toArray }).get? b = some o := fun b o e => Heap.get?_push_of_some _ e
  have hL1 : (H1.push { cls := .type "list", dict := none, data := .seq ([] : List Value).toArray }).get? H1.objs.size = some (lst []) := Heap.get?_push_size _ rfl
  generalize H1.push { cls := .type "list", dict := none, data := .seq ([] : List Value).toArray } = H2 at hns₁ hsb₁ hD e1 hL1 ⊢
  have old : ∀ b o, H2.get? b = some o → h₁.get? b = some o := fun b o e => hsb₁.extBut b o (Nat.ne_of_lt (Heap.lt_size e)) (Heap.get?_push_of_some _ e)
  have hI1 : H1.objs.size = s₁.heap.objs.size + 1 := hI
  have hC2 : H2.objs.size = s₁.heap.objs.size + 2 := by rw [hD, hI1]
  have up : ∀ b o, s₁.heap.get? b = some o → h₁.get? b = some o := fun b o e => old _ _ (e1 _ _ (e0 _ _ e))
  have fresh₀ : ∀ a, s₁.heap.objs.size ≤ a → h₀.get? a = none := fun a ha => by
    cases e : h₀.get? a with
    | none => rfl
    | some o' => exact absurd (Heap.lt_size (F.keep a o' e)) (Nat.not_lt.mpr ha)
  have hLlt : L < s₁.heap.objs.size := F.ns.lt
  generalize hIe : s₁.heap.objs.size = I at *
  generalize hDe : H1.objs.size = D at *
  generalize hCe : H2.objs.size = C at *
  have nID : I ≠ D := by rw [hI1]; exact Nat.ne_of_lt (Nat.lt_succ_self _)
  have nIC : I ≠ C := by rw [hC2]; exact Nat.ne_of_lt (Nat.lt_add_of_pos_right (by decide))
  have nDC : D ≠ C := by rw [hI1, hC2]; exact Nat.ne_of_lt (Nat.lt_succ_self _)
  have nLI : L ≠ I := Nat.ne_of_lt hLlt
  have nLD : L ≠ D := by rw [hI1]; exact Nat.ne_of_lt (Nat.lt_succ_of_lt hLlt)
  have nLC : L ≠ C := by rw [hC2]; exact Nat.ne_of_lt (Nat.lt_add_right 2 hLlt)
  have zI : h₀.get? I = none := fresh₀ _ (Nat.le_refl _)
  have zD : h₀.get? D = none := fresh₀ _ (by rw [hI1]; exact Nat.le_succ _)
  have zC : h₀.get? C = none := fresh₀ _ (by rw [hC2]; exact Nat.le_add_right _ 2)
  have off₀ : ∀ p ∈ news, p.1 ≠ I ∧ p.1 ≠ C ∧ p.1 ≠ D := fun p hp => by
    have l := Heap.lt_size (N p hp).1
    rw [hIe] at l
    refine ⟨Nat.ne_of_lt l, ?_, ?_⟩
    · rw [hC2]; exact Nat.ne_of_lt (Nat.lt_add_right 2 l)
    · rw [hI1]; exact Nat.ne_of_lt (Nat.lt_succ_of_lt l)
  have loop : ∀ s₃ : Shared, s₃ = { s₁ with heap := h₁, toks := s₁.toks + ([] : List (Str × Value)).length } →
      codeAny (model prog w) A (.compLoop (.ListComp elt [⟨.Name x px, iter, [], 0⟩] scope pos) 0 (.ref I) (.ref D) (compEnvC scope cl C env))
        (compPost (model prog w) A E none Q (.ref D) C) s₃ := by
    rintro s₃ rfl
    refine codeAny_compLoop_tests
      (fun k s' => ∃ h' t' i ys nw m', s' = { s₁ with heap := h', toks := t' } ∧ i ≤ X.cps.size ∧ k = X.cps.size + 1 - i ∧ ys.length = i ∧ h'.IsStrIter I "str_ascii_iterator" X t i ∧ h'.Ns C m' ∧ Fr h₀ L h' m ∧ News h₀ L h' ((D, lst ys) :: nw) ∧
        Off3 I C D nw ∧ J i t' ys nw) ?_ (X.cps.size + 1)
      ⟨h₁, _, 0, [], news, _, rfl, Nat.zero_le _, rfl, rfl, ⟨_, old _ _ (e1 _ _ hIter1), rfl, rfl⟩, hns₁, F.keeps up, fun p hp => ?_, Off3.of off₀, hj⟩
    · rintro k s' ⟨h', t', i, ys, nw, m', rfl, hi, rfl, hyl, hit, hns, F', N', off', hJ⟩
      have off3 := off'.mem
      by_cases hlt : i < X.cps.size
      · refine wpAny_pyNext_ascii_item hit (c := X.cps[i]) (by simp [hlt]) fun h₂ hit₂ hs₂ => ?_
        obtain ⟨oI, heI, hoc, hod⟩ := hit₂
        refine wpAny_assign_Name (wpAny_storeName_local (lookup_relabel_local hx) (hns.sameBut hs₂ (Ne.symm nIC)) (fun h₃ hn₃ hs₃ => ?_) (by simp [compEnvC, relabel, hkind]))
        refine wpAny_tests_nil ?_
        simp only [if_true]
        obtain ⟨oC, heC, hoC⟩ := ns_obj hn₃
        have F₃ : Fr h₀ L h₃ m := (F'.change hs₂ (Ne.symm nLI) zI).change hs₃ (Ne.symm nLC) zC
        have N₃ : News h₀ L h₃ ((I, oI) :: (C, oC) :: (D, lst ys) :: nw) := fun p hp => by
          rcases List.mem_cons.mp hp with rfl | hp
          · exact ⟨hs₃.extBut _ _ nIC heI, Ne.symm nLI, zI⟩
          rcases List.mem_cons.mp hp with rfl | hp
          · exact ⟨heC, Ne.symm nLC, zC⟩
          rcases List.mem_cons.mp hp with rfl | hp
          · exact ⟨hs₃.extBut _ _ nDC (hs₂.extBut _ _ (Ne.symm nID) (N' _ List.mem_cons_self).1), Ne.symm nLD, zD⟩
          · obtain ⟨o1, o2, o3⟩ := off3 p hp
            exact ⟨hs₃.extBut _ _ o2 (hs₂.extBut _ _ o1 (N' _ (List.mem_cons_of_mem _ hp)).1), (N' _ (List.mem_cons_of_mem _ hp)).2⟩
        refine wpAny_mono (wpAny_toks_of (n := t' + 1 + 1) (Nat.le_refl _) (step i X.cps[i] t' (t' + 1 + 1) I oI C oC D ys nw _ h₃ (fun y s₄ => t' + 1 + 1 ≤ s₄.toks → ∃ h' t'' nw', s₄ = { s₁ with heap := h', toks := t'' } ∧ Fr h₀ L h' m ∧ News h₀ L h' ((I, oI) :: (C, oC) :: (D, lst ys) :: nw') ∧ Off3 I C D nw' ∧ J (i + 1) t'' (ys ++ [y]) nw') _ (by simp [hlt]) hJ (Nat.lt_succ_of_lt (Nat.lt_succ_self _)) hoC (by simp) F₃ N₃ off' ⟨nIC, nID, Ne.symm nDC⟩ ?_)) (fun y s₄ h₄ => ?_) fun _ _ e => e.2
        · intro y h₄ t₄ nw₄ F₄ N₄ off₄ hJ₄ ht₄
          exact ⟨h₄, t₄, nw₄, rfl, F₄, N₄, off₄, hJ₄ ht₄⟩
        · obtain ⟨h₅, t₅, nw₅, rfl, F₅, N₅, off₅, hJ₅⟩ := h₄.2 h₄.1
          have zI' := (N₅ (I, oI) List.mem_cons_self).1
          have zC' := (N₅ (C, oC) (List.mem_cons_of_mem _ List.mem_cons_self)).1
          have zD' := (N₅ (D, lst ys) (List.mem_cons_of_mem _ (List.mem_cons_of_mem _ List.mem_cons_self))).1
          refine append_at (hsz := by show ys.toArray.size ≤ sizeLine; rw [List.size_toArray, hyl]; exact Nat.le_trans hi hsz) zD' fun h₆ hs₆ hD₆ => ?_
          refine ⟨X.cps.size + 1 - (i + 1), by omega, h₆, t₅, i + 1, ys ++ [y], nw₅, _, rfl, hlt, rfl, by rw [List.length_append, List.length_singleton, hyl], ⟨oI, hs₆.extBut _ _ nID zI', hoc, hod⟩, (hoC.ns zC').sameBut hs₆ (Ne.symm nDC), F₅.change hs₆ (Ne.symm nLD) zD, fun p hp => ?_, off₅, hJ₅⟩
          rcases List.mem_cons.mp hp with rfl | hp
          · exact ⟨hD₆.trans (congrArg some (lst_snoc ys y)), Ne.symm nLD, zD⟩
          · have q := N₅ p (List.mem_cons_of_mem _ (List.mem_cons_of_mem _ (List.mem_cons_of_mem _ hp)))
            exact ⟨hs₆.extBut _ _ (off₅.mem p hp).2.2 q.1, q.2⟩
      · obtain rfl : i = X.cps.size := Nat.le_antisymm hi (Nat.not_lt.mp hlt)
        refine wpAny_pyNext_ascii_end hh hit (by simp) fun h₂ he₂ => ?_
        have hk₂ : ∀ b o, b ∉ [I] → h'.get? b = some o → h₂.get? b = some o := fun b o hb e => he₂ b o (fun q => hb (List.mem_singleton.mpr q)) e
        have F₂ := fr_but F' hk₂ nLI zI
        refine ⟨m', hns.at' fun o e => hk₂ _ o (by simpa using Ne.symm nIC) e, fun h₃ hs₃ => fin t' ys nw D h₃ hJ (F₂.change hs₃ (Ne.symm nLC) zC) (fun p hp => ?_) off'.one⟩
        have q : h₂.get? p.1 = some p.2 := hk₂ _ _ (by
          rcases List.mem_cons.mp hp with rfl | hp
          · simpa using Ne.symm nID
          · simpa using (off3 p hp).1) (N' p hp).1
        refine ⟨hs₃.extBut _ _ ?_ q, (N' p hp).2⟩
        rcases List.mem_cons.mp hp with rfl | hp
        · exact nDC
        · exact (off3 p hp).2.1
    · rcases List.mem_cons.mp hp with rfl | hp
      · exact ⟨old _ _ hL1, Ne.symm nLD, zD⟩
      · exact ⟨up _ _ (N p hp).1, (N p hp).2⟩
  exact codeAny_compStart_list (loop _ rfl) (wpAny_pyIter_striter_ascii ⟨_, old _ _ (e1 _ _ hIter1), rfl, rfl⟩ (loop _ rfl))
end

theorem rs_D0d_cells : True := by w_top off; trivial
section
variable {prog : Program} {w : World} {A A₀ : Around} {s : Shared} {K : Frag} {L : Addr} {h₀ base : Heap} {m mg mb : Str → Option Value} {muts : List (Addr × Obj)} {p : Program} {loose : List Str} {mean : ExcName → Option Value}
open PySem.Calls in
/-- a def's call whose names are cells; the machine's counter is told, and what stands in the callee's ground -/
theorem code_defCB {env : Env} {outer : List Env} {R : Result → Shared → Prop} {name qual : Str} {params : Arguments} {body : List Stmt} {scope : Scope} {dV kV doc pm cdv ct oc : Value} {an od : Option Addr} {osl : Array (Option Value)} {f : Addr} {args : Args} {binds : List (Str × Value)}
    (B : Below A₀ base outer h₀) (F : Fr h₀ L s.heap m) (X₀ : K.In h₀) (N : News h₀ L s.heap muts) (T : Top p loose mean mg mb h₀) (hA : A.frames = some (env :: outer)) (hf : env.frame = some L) (hke : env.scope.kind = .function)
    (ho : K.lookup f = some ⟨oc, od, .func (fnOf name qual params body scope dV kV doc pm an cdv ct), osl⟩) (hcd : codeIn K cdv qual = true) (hroom : A.depth < recursionLimit)
    (hbind : BindsTo s (fnOf name qual params body scope dV kV doc pm an cdv ct) args binds) (hkind : (binds.all fun y => scope.names.lookup y.1 == some .local || scope.names.lookup y.1 == some .cell) = true)
    (hnd : ((cellsFrom 0 scope.names []).map (·.1)).Nodup)
    (h : ∀ g L' h₁ t₁ cells, s.toks ≤ t₁ → Fr h₀ L g m → Fr g L' h₁ (bindL (envOfC qual scope L' f cdv).kindOf binds fun _ => none) → News g L' h₁ (cells ++ muts) →
      CellsAre (bindC (envOfC qual scope L' f cdv).kindOf binds fun _ => none) (cellsFrom (L' + 1) scope.names []) cells → Below A base (env :: outer) g → K.In g → Top p loose mean mg mb g →
      (∀ b o, s.heap.get? b = some o → b ∉ muts.map (·.1) → g.get? b = some o) → (∀ p ∈ muts, p.1 < L') →
      wpAny (model prog w) (A.deeper (envOfC qual scope L' f cdv)) (execs body (envOfC qual scope L' f cdv))
        (fun fl s' => LeaveK h₀ L m g R (match fl with | .ret v => v | _ => .none) s')
        (fun e s' => wpAny (model prog w) (A.deeper (envOfC qual scope L' f cdv)) (leaving (envOfC qual scope L' f cdv) e) (fun _ s'' => R (.error e) s'') (fun e' s'' => R (.error e') s'') s')
        { s with heap := h₁, toks := t₁ })
    (hco : scope.isCoroutine = false) (hgen : scope.isGenerator = false) (hk : scope.kind = .function) : codeAny (model prog w) A (.call (.ref f) args) R s := by
  obtain ⟨FG, BG, st, lv⟩ := groundX (R := R) B F N hA hf hke
  refine codeAny_call_function hroom ((X₀.keeps F.keep) _ _ ho) rfl hco hgen rfl (codeRec_of (X₀.keeps F.keep) hcd) (hbind _ _ _ _ ?_)
  refine wpAny_with_toks (n := s.toks) (Nat.le_refl _) (wpAny_newFunctionEnv_cells hk (kindsX hkind _) fun env' he s' x => ?_)
  subst he
  intro ht
  refine ⟨(T.nolimit.keeps F.keep).keeps x.toInCall.keep, codeAny_func ?_⟩
  obtain ⟨h₁, t₁, rfl, _⟩ := x.done
  have hk₁ := x.toInCall.keep
  obtain ⟨cells, NC, Y⟩ := Cl.news (h₀ := s.heap) (Nat.le_refl _) fun n c hm => ⟨x.cell n c (lookup_of_mem_nodup (cellsFrom_names scope.names 0 (s.heap.objs.size + 1) [] [] rfl ▸ hnd) hm), x.above n c hm⟩
  refine wpAny_mono (h _ s.heap.objs.size h₁ t₁ cells ht FG ⟨x.toInCall.ns, fun b o e => hk₁ b o (of_hideAll _ e), Nat.le_of_eq (hideAll_size _ _)⟩ ?_ Y BG (X₀.keeps st) (T.keeps st) (fun b o e n => hideAll_get _ e n) (fun p hp => Heap.lt_size (N p hp).1)) (fun fl s' hl => lv _ _ hl) fun _ _ y => y
  intro p hp
  rcases List.mem_append.mp hp with hp | hp
  · refine ⟨(NC p hp).1, (NC p hp).2.1, ?_⟩
    cases q : (hideAll s.heap (muts.map (·.1))).get? p.1 with
    | none => rfl
    | some o => have := of_hideAll _ q; rw [(NC p hp).2.2] at this; cases this
  · exact ⟨hk₁ _ _ (N p hp).1, Nat.ne_of_lt (Heap.lt_size (N p hp).1), hideAll_none _ (List.mem_map_of_mem hp)⟩
end

theorem rs_D1_text : True := by w_top off; trivial
/-- letters whose tokens are older than B -/
inductive LetAre (B : Nat) : List Value → List Str → Prop
  | nil : LetAre B [] []
  | cons {x : Str} {t : Tok} {ys : List Value} {xs : List Str} : t ≠ 0 → @LT.lt Nat _ t B → LetAre B ys xs → LetAre B (.str x t :: ys) (x :: xs)
theorem LetAre.length {B : Nat} {ys : List Value} {xs : List Str} (h : LetAre B ys xs) : ys.length = xs.length := by
  induction h with
  | nil => rfl
  | cons _ _ _ ih => simp [ih]
theorem LetAre.up {B B' : Nat} {ys : List Value} {xs : List Str} (h : LetAre B ys xs) (hb : B ≤ B') : LetAre B' ys xs := by
  induction h with
  | nil => exact .nil
  | cons h0 h1 _ ih => exact .cons h0 (Nat.lt_of_lt_of_le h1 hb) ih
theorem LetAre.snoc {B : Nat} {ys : List Value} {xs : List Str} {x : Str} {t : Tok} (h : LetAre B ys xs) (h0 : t ≠ 0) (h1 : @LT.lt Nat _ t B) : LetAre B (ys ++ [.str x t]) (xs ++ [x]) := by
  induction h with
  | nil => exact .cons h0 h1 .nil
  | cons a b _ ih => exact .cons a b ih
theorem LetAre.at {B : Nat} {ys : List Value} {xs : List Str} (h : LetAre B ys xs) : ∀ {i : Nat} {v : Value}, ys[i]? = some v → ∃ x t, v = .str x t ∧ t ≠ 0 ∧ (@LT.lt Nat _ t B) ∧ xs[i]? = some x := by
  induction h with
  | nil => intro i v h; simp at h
  | @cons x t ys xs h0 h1 _ ih =>
    intro i v h
    cases i with
    | zero => cases h; exact ⟨x, t, rfl, h0, h1, rfl⟩
    | succ i => exact ih h
/-- how many of the letters are y -/
def cnt (y : Str) (xs : List Str) : Nat := (xs.filter (· == y)).length
theorem cnt_hit {y x : Str} {xs : List Str} {i : Nat} (h : xs[i]? = some x) (e : (x == y) = true) : cnt y (xs.take (i + 1)) = cnt y (xs.take i) + 1 := by
  unfold cnt; rw [List.take_add_one, h, List.filter_append]; simp [e]
theorem cnt_miss {y x : Str} {xs : List Str} {i : Nat} (h : xs[i]? = some x) (e : (x == y) = false) : cnt y (xs.take (i + 1)) = cnt y (xs.take i) := by
  unfold cnt; rw [List.take_add_one, h, List.filter_append]; simp [e]
theorem cnt_le (y : Str) (xs : List Str) (i : Nat) : cnt y (xs.take i) ≤ xs.length := by
  unfold cnt
  exact Nat.le_trans (List.length_filter_le _ _) (List.length_take_le' _ _)
theorem is_str {M : Model} {A : Around} {E : Value → Shared → Prop} {s : Shared} {x y : Str} {t u : Tok} {Q : Value → Shared → Prop} (h0 : t ≠ 0) (h1 : u ≠ 0) (h2 : t ≠ u) (hb : NoneBooked s.heap)
    (hT : x = y → Q (.bool true) s) (hF : Q (.bool false) s) : wpAny M A (compareOp .Is (.str x t) (.str y u)) Q E s := by
  show wpAny M A (isSame (.str x t) (.str y u) >>= fun b => pure (.bool b)) Q E s
  refine wpAny_bind ?_
  cases hxy : (x == y)
  · rw [isSame_str_other x y t u (by simp [h0, h1]) (by simp [h2]) hxy]
    exact wpAny_pure (wpAny_pure hF)
  · refine wpAny_isSame_str (by simp [h0, h1]) hb fun b => ?_
    cases b
    · exact wpAny_pure hF
    · exact wpAny_pure (hT (beq_iff_eq.mp hxy))
theorem none_booked {h₀ : Heap} {K : Frag} {p : Program} {loose : List Str} {mean : ExcName → Option Value} {mg mb : Str → Option Value} (X : K.In h₀) (T : Top p loose mean mg mb h₀) (e : nsIn K cStatics sharingNotToldKey = some none) : NoneBooked h₀ :=
  let ⟨mc, hn, _⟩ := T.nolimit
  ⟨mc, hn, ns_none_of X hn e⟩
theorem NoneBooked.keep {g h : Heap} (x : NoneBooked g) (k : ∀ b o, g.get? b = some o → h.get? b = some o) : NoneBooked h :=
  let ⟨mc, hn, e⟩ := x
  ⟨mc, hn.at' fun o q => k _ o q, e⟩
theorem tok_ne {t u : Tok} {b : Nat} (h : @LT.lt Nat _ t b) (k : b ≤ u) : t ≠ u := Nat.ne_of_lt (Nat.lt_of_lt_of_le h k)
theorem tok_pos {t u : Tok} {b : Nat} (h : @LT.lt Nat _ t b) (k : b ≤ u) : u ≠ 0 := Nat.ne_of_gt (Nat.lt_of_le_of_lt (Nat.zero_le _) (Nat.lt_of_lt_of_le h k))
section
variable {w : World} {dp un : Nat} {gd : Option (List Code)} {cn : Str} {cs : Scope} {a : Addr} {ccd : Value} {cl : List (Str × Addr)} {outer : List Env} {A₀ : Around} {base h₀ : Heap} {L : Addr} {m : Str → Option Value} {s : Shared} {Q E : Value → Shared → Prop} {mean : ExcName → Option Value} {mg mb : Str → Option Value} {news : List (Addr × Obj)}

set_option maxRecDepth 100000 in
set_option maxHeartbeats 8000000 in
theorem count_c (B : Below A₀ base outer h₀) (F : Fr h₀ L s.heap m) (X : (Mine.hk.heap_1 w.params).In h₀) (N : News h₀ L s.heap news) (T : Top Mine.V LS mean mg mb h₀) (hk : cs.kind = .function)
    (hdp : dp + 5 < recursionLimit) (hun : un + 100 < cLine) {l : Addr} {ys : List Value} {xs : List Str} {y : Str} {u : Tok} {c b : Nat} (hl : (l, listOf ys.toArray c) ∈ news) (hys : LetAre b ys xs) (hb : b ≤ u) (hlen : xs.length ≤ 100)
    (ret : ∀ (t : Tok) (h' : Heap) (tk' : Nat), Fr h₀ L h' m → News h₀ L h' news → Q (.int ((cnt y xs : Nat) : Int) t) { s with heap := h', toks := tk' }) :
    wpAny (model PySem.Challenge.rw_wo0081_01.row.prog w) (ktrTop dp un gd cn cs L a ccd cl outer) (call (.ref 157) [.ref l, .str y u]) Q E s := by
  refine wpAny_call ?_
  (k_dflt (refine' code_defG ?k1 ?k2 ?k3 ?k4 ?k5 ?kA ?kF ?kK ?k6 ?k7 ?k8 ?k9 ?kB ?_ ?c2 ?c3 ?c4 ?c5; (case kA => exact rfl); (case kF => exact rfl); (case kK => first | exact rfl | assumption); (case k1 => k_asm); (case k2 => k_asm); (case k3 => k_asm); (case k5 => k_asm); (case k6 => k_is); (case k7 => k_is); (case k8 => ktr_room); (case k9 => first | exact BindsTo.of_eq rfl | exact binds_K (by k_in) rfl (by k_is) rfl rfl rfl | fail "k_enter: no rule for these arguments"); (case kB => exact locs rfl); (case c2 => exact rfl); (case c3 => exact rfl); (case c4 => exact rfl); (case c5 => decide); k_whole))
  case k4 => exact N
  intro g L1 h1 FG F1 N1 B1 X1 T1 SK LT
  (try dsimp only); (try k_fold)
  (repeat ((fail_if_success (with_reducible show wpAny _ _ (pyIter _) _ _ _)); (first | (first | ((fail_if_success (with_reducible refine' gd9 (t := eval _ _) ?_)); (first | (with_reducible (((fail_if_success (fail_if_success (with_reducible refine' gd9 (t := execs (_ :: _) _) ?_))); first | k_gentoks | ((with_reducible refine wpAny_execs_cons ?_); (try dsimp only); k_fold)))) | (with_reducible (((fail_if_success (fail_if_success (with_reducible refine' gd9 (t := call (Value.ref 157) _) ?_))); k_dflt (refine' count_c (by k_asm) (by k_asm) (by k_asm) (by k_asm) (by k_asm) (by first | rfl | assumption) (by ktr_room) (by ktr_units) (by k_mem) (by with_reducible assumption) (by with_reducible assumption) (by omega) ?_); intro _ _ _ _ _; (try dsimp only); (try k_fold)))) | (with_reducible (((fail_if_success (fail_if_success (with_reducible refine' gd9 (t := compareOp CmpOp.Is (Value.str _ _) (Value.str _ _)) ?_))); refine' is_str (by assumption) (by exact tok_pos (by assumption) (by assumption)) (by exact tok_ne (by assumption) (by assumption)) (by exact NoneBooked.keep (by assumption) (Fr.keep (by k_asm))) (fun _ => ?_) ?_))) | (with_reducible (((fail_if_success (fail_if_success (with_reducible refine' gd9 (t := exec (Stmt.For _ _ _ _ _) _) ?_))); (rename Fr _ _ _ _ => lF'); (with_unfolding_all refine' For_turns lF' ?_); k_whole))) )) | walk1) | dsimp only)))
  (rename Fr g L1 _ _ => hF); (rename News g L1 _ _ => hN)
  have hbk : NoneBooked g := none_booked X1 T1 (by k_is)
  have hyl := hys.length
  refine for_invT (fun i m₁ nw => nw = _ ∧ m₁ (Str.ofString "b") = some (.str y u) ∧ ∃ t, m₁ (Str.ofString "count") = some (.int ((cnt y (xs.take i) : Nat) : Int) t)) _
    (iter_listT rfl hN hl) hF hN hl ?hj (fun _ _ _ h => h.1 ▸ hl) (fun _ _ h => h) ?turn ?done
  case hj => exact ⟨rfl, rfl, ⟨_, rfl⟩⟩
  case turn =>
    rintro i v m₁ nw I oI h tq Kt hi hv ⟨rfl, h1, ⟨u1, h2⟩⟩ off F2 N2 hNx hBk hRt
    obtain ⟨z, uz, rfl, hz0, hz1, hz⟩ := hys.at (by simpa using hv)
    have hcl := cnt_le y xs i
    have F3 := fr_known F2 [(Str.ofString "b", .str y u), (Str.ofString "count", .int ((cnt y (xs.take i) : Nat) : Int) u1)] (by ((repeat (refine List.forall_mem_cons.mpr ⟨(by dsimp only; first | exact if_pos rfl | exact (if_neg (by decide +kernel)).trans (by first | with_reducible assumption | assumption) | (with_reducible assumption) | assumption), ?_⟩)); exact List.forall_mem_nil _))
    clear F2 hF hN
    (repeat' (first | (k_unfold; (try dsimp only)) | (k_end; wrow_close) | (first | ((fail_if_success (with_reducible refine' gd9 (t := eval _ _) ?_)); (first | (with_reducible (((fail_if_success (fail_if_success (with_reducible refine' gd9 (t := execs (_ :: _) _) ?_))); first | k_gentoks | ((with_reducible refine wpAny_execs_cons ?_); (try dsimp only); k_fold)))) | (with_reducible (((fail_if_success (fail_if_success (with_reducible refine' gd9 (t := call (Value.ref 157) _) ?_))); k_dflt (refine' count_c (by k_asm) (by k_asm) (by k_asm) (by k_asm) (by k_asm) (by first | rfl | assumption) (by ktr_room) (by ktr_units) (by k_mem) (by with_reducible assumption) (by with_reducible assumption) (by omega) ?_); intro _ _ _ _ _; (try dsimp only); (try k_fold)))) | (with_reducible (((fail_if_success (fail_if_success (with_reducible refine' gd9 (t := compareOp CmpOp.Is (Value.str _ _) (Value.str _ _)) ?_))); refine' is_str (by assumption) (by exact tok_pos (by assumption) (by assumption)) (by exact tok_ne (by assumption) (by assumption)) (by exact NoneBooked.keep (by assumption) (Fr.keep (by k_asm))) (fun _ => ?_) ?_))) | (with_reducible (((fail_if_success (fail_if_success (with_reducible refine' gd9 (t := exec (Stmt.For _ _ _ _ _) _) ?_))); (rename Fr _ _ _ _ => lF'); (with_unfolding_all refine' For_turns lF' ?_); k_whole))) )) | walk1) | ((with_reducible show wpAny _ _ _ _ _ _); dsimp only) | (leave1; walk_say "STEP leave1"; try dsimp only) | fail "no step"))
    all_goals first
      | exact hNx _ _ _ _ _ (.inl rfl) (by k_asm) (cb_drop (by k_asm) (by walk_at "sub")) off ⟨rfl, rfl, ⟨_, by rw [cnt_hit hz (beq_iff_eq.mpr (by assumption))]; exact rfl⟩⟩
      | exact hNx _ _ _ _ _ (.inl rfl) (by k_asm) (cb_drop (by k_asm) (by walk_at "sub")) off ⟨rfl, rfl, ⟨_, by rw [cnt_hit hz (by assumption)]; exact rfl⟩⟩
      | exact hNx _ _ _ _ _ (.inl rfl) (by k_asm) (cb_drop (by k_asm) (by walk_at "sub")) off ⟨rfl, rfl, ⟨_, by rw [cnt_miss hz (by assumption)]; exact rfl⟩⟩
  case done =>
    rintro m₁ nw h tq ⟨rfl, h1, ⟨u1, h2⟩⟩ F2 N2
    rw [List.take_of_length_le (by simp only [List.size_toArray]; omega)] at h2
    have F3 := fr_known F2 [(Str.ofString "count", .int ((cnt y xs : Nat) : Int) u1)] (by ((repeat (refine List.forall_mem_cons.mpr ⟨(by dsimp only; first | exact if_pos rfl | exact (if_neg (by decide +kernel)).trans (by first | with_reducible assumption | assumption) | (with_reducible assumption) | assumption), ?_⟩)); exact List.forall_mem_nil _))
    clear F2 hF hN
    (try dsimp only)
    (repeat' (first | (k_unfold; (try dsimp only)) | (k_end; wrow_close) | (first | ((fail_if_success (with_reducible refine' gd9 (t := eval _ _) ?_)); (first | (with_reducible (((fail_if_success (fail_if_success (with_reducible refine' gd9 (t := execs (_ :: _) _) ?_))); first | k_gentoks | ((with_reducible refine wpAny_execs_cons ?_); (try dsimp only); k_fold)))) | (with_reducible (((fail_if_success (fail_if_success (with_reducible refine' gd9 (t := call (Value.ref 157) _) ?_))); k_dflt (refine' count_c (by k_asm) (by k_asm) (by k_asm) (by k_asm) (by k_asm) (by first | rfl | assumption) (by ktr_room) (by ktr_units) (by k_mem) (by with_reducible assumption) (by with_reducible assumption) (by omega) ?_); intro _ _ _ _ _; (try dsimp only); (try k_fold)))) | (with_reducible (((fail_if_success (fail_if_success (with_reducible refine' gd9 (t := compareOp CmpOp.Is (Value.str _ _) (Value.str _ _)) ?_))); refine' is_str (by assumption) (by exact tok_pos (by assumption) (by assumption)) (by exact tok_ne (by assumption) (by assumption)) (by exact NoneBooked.keep (by assumption) (Fr.keep (by k_asm))) (fun _ => ?_) ?_))) | (with_reducible (((fail_if_success (fail_if_success (with_reducible refine' gd9 (t := exec (Stmt.For _ _ _ _ _) _) ?_))); (rename Fr _ _ _ _ => lF'); (with_unfolding_all refine' For_turns lF' ?_); k_whole))) )) | walk1) | ((with_reducible show wpAny _ _ _ _ _ _); dsimp only) | (leave1; walk_say "STEP leave1"; try dsimp only) | fail "no step"))
    (rename Fr g _ _ _ => hF9); (rename News g _ _ _ => hnew)
    exact ret _ _ _ (by k_asm) (news_ro N (fun p hp => hp) SK hF9.keep (cb_drop hnew (by walk_at "sub")))
end
/-- the text of a room -/
def qt : Str := Str.ofString "\""
def abc : List Str := [Str.ofString "a", Str.ofString "b", Str.ofString "c"]
theorem abc_at {i ch : Nat} (h : (Str.ofString "abc").cps[i]? = some ch) : abc[i]? = some (⟨#[ch]⟩ : Str) := by
  have e : ∀ i : Fin 3, abc[i.1]? = ((Str.ofString "abc").cps[i.1]?).map fun c => (⟨#[c]⟩ : Str) := by decide +kernel
  have hs : (Str.ofString "abc").cps.size = 3 := by decide +kernel
  have hi : i < 3 := hs ▸ (Array.getElem?_eq_some_iff.mp h).1
  have := e ⟨i, hi⟩
  rw [h] at this; exact this
theorem abc_len {y : Str} {i : Nat} (h : abc[i]? = some y) : y.length = 1 := by
  have e : ∀ y ∈ abc, y.length = 1 := by decide +kernel
  exact e y (List.mem_of_getElem? h)
theorem qt_mul_len {n : Nat} (h : n ≤ 10) : (Txt.mul qt ((n : Int) + 1)).length ≤ 11 := by
  have := len_mul_k1 (x := qt) (n := (n : Int) + 1) (by decide +kernel)
  split at this <;> omega
def txt1 (y : Str) (xs : List Str) : Str := Txt.mul qt ((cnt y xs : Nat) + 1) ++ y
def txt (xs : List Str) : Str := Txt.join (Str.ofString "") (abc.map fun y => txt1 y xs)
theorem txt1_len {y : Str} {xs : List Str} (hy : y.length = 1) (h : xs.length ≤ 10) : (txt1 y xs).length ≤ 12 := by
  have := qt_mul_len (Nat.le_trans (List.length_filter_le (· == y) xs) h)
  unfold txt1 cnt
  rw [Str.length_append]; omega
section
variable {w : World} {dp un : Nat} {gd : Option (List Code)} {cn : Str} {cs : Scope} {a : Addr} {ccd : Value} {cl : List (Str × Addr)} {outer : List Env} {A₀ : Around} {base h₀ : Heap} {L : Addr} {m : Str → Option Value} {s : Shared} {Q E : Value → Shared → Prop} {mean : ExcName → Option Value} {mg mb : Str → Option Value} {news : List (Addr × Obj)}

set_option maxRecDepth 100000 in
set_option maxHeartbeats 8000000 in
theorem text_c (B : Below A₀ base outer h₀) (F : Fr h₀ L s.heap m) (X : (Mine.hk.heap_1 w.params).In h₀) (N : News h₀ L s.heap news) (T : Top Mine.V LS mean mg mb h₀) (hk : cs.kind = .function)
    (hdp : dp + 7 < recursionLimit) (hun : un + 200 < cLine) {l : Addr} {ys : List Value} {xs : List Str} {c b : Nat} (hl : (l, listOf ys.toArray c) ∈ news) (hys : LetAre b ys xs) (hb : b ≤ s.toks) (hlen : xs.length ≤ 10)
    (ret : ∀ (x : Str) (t : Tok) (h' : Heap) (tk' : Nat), x = txt xs → Fr h₀ L h' m → News h₀ L h' news → Q (.str x t) { s with heap := h', toks := tk' }) :
    wpAny (model PySem.Challenge.rw_wo0081_01.row.prog w) (ktrTop dp un gd cn cs L a ccd cl outer) (call (.ref 356) [.ref l]) Q E s := by
  refine wpAny_call ?_
  (k_dflt (refine' code_defCB ?k1 ?k2 ?k3 ?k4 ?k5 ?kA ?kF ?kK ?k6 ?k7 ?k8 ?k9 ?kB ?kD ?_ ?c2 ?c3 ?c4; (case kA => exact rfl); (case kF => exact rfl); (case kK => first | exact rfl | assumption); (case k1 => k_asm); (case k2 => k_asm); (case k3 => k_asm); (case k4 => k_asm); (case k5 => k_asm); (case k6 => k_is); (case k7 => k_is); (case k8 => ktr_room); (case k9 => first | exact BindsTo.of_eq rfl | exact binds_K (by k_in) rfl (by k_is) rfl rfl rfl | fail "k_enter: no rule for these arguments"); (case kB => exact rfl); (case kD => decide +kernel); (case c2 => exact rfl); (case c3 => exact rfl); (case c4 => exact rfl); k_whole; intro g L1 h1 tk1 cells9 hT9 FG F1 N1 Y1 B1 X1 T1 SK LT; (try k_lt LT); k_cells Y1; (try simp only [List.cons_append, List.nil_append] at N1); (try dsimp only); (try k_lift B1); (try k_fold)))
  repeat' (first | (with_reducible show wpAny _ _ (eval (Expr.ListComp _ _ _ _) _) _ _ _; (k_dflt (refine compS_eval (F₀ := by k_asm) (by with_unfolding_all rfl) (by decide) (by rfl) (by decide) (by rfl) ?_))) | (first | ((fail_if_success (with_reducible refine' gd9 (t := eval _ _) ?_)); (first | (with_reducible (((fail_if_success (fail_if_success (with_reducible refine' gd9 (t := execs (_ :: _) _) ?_))); first | k_gentoks | ((with_reducible refine wpAny_execs_cons ?_); (try dsimp only); k_fold)))) | (with_reducible (((fail_if_success (fail_if_success (with_reducible refine' gd9 (t := call (Value.ref 157) _) ?_))); k_dflt (refine' count_c (by k_asm) (by k_asm) (by k_asm) (by k_asm) (by k_asm) (by first | rfl | assumption) (by ktr_room) (by ktr_units) (by k_mem) (by with_reducible assumption) (by with_reducible assumption) (by omega) ?_); intro _ _ _ _ _; (try dsimp only); (try k_fold)))) | (with_reducible (((fail_if_success (fail_if_success (with_reducible refine' gd9 (t := compareOp CmpOp.Is (Value.str _ _) (Value.str _ _)) ?_))); refine' is_str (by assumption) (by exact tok_pos (by assumption) (by assumption)) (by exact tok_ne (by assumption) (by assumption)) (by exact NoneBooked.keep (by assumption) (Fr.keep (by k_asm))) (fun _ => ?_) ?_))) | (with_reducible (((fail_if_success (fail_if_success (with_reducible refine' gd9 (t := exec (Stmt.For _ _ _ _ _) _) ?_))); (rename Fr _ _ _ _ => lF'); (with_unfolding_all refine' For_turns lF' ?_); k_whole))) )) | walk1) | (dsimp only; (first | ((fail_if_success (with_reducible refine' gd9 (t := eval _ _) ?_)); (first | (with_reducible (((fail_if_success (fail_if_success (with_reducible refine' gd9 (t := execs (_ :: _) _) ?_))); first | k_gentoks | ((with_reducible refine wpAny_execs_cons ?_); (try dsimp only); k_fold)))) | (with_reducible (((fail_if_success (fail_if_success (with_reducible refine' gd9 (t := call (Value.ref 157) _) ?_))); k_dflt (refine' count_c (by k_asm) (by k_asm) (by k_asm) (by k_asm) (by k_asm) (by first | rfl | assumption) (by ktr_room) (by ktr_units) (by k_mem) (by with_reducible assumption) (by with_reducible assumption) (by omega) ?_); intro _ _ _ _ _; (try dsimp only); (try k_fold)))) | (with_reducible (((fail_if_success (fail_if_success (with_reducible refine' gd9 (t := compareOp CmpOp.Is (Value.str _ _) (Value.str _ _)) ?_))); refine' is_str (by assumption) (by exact tok_pos (by assumption) (by assumption)) (by exact tok_ne (by assumption) (by assumption)) (by exact NoneBooked.keep (by assumption) (Fr.keep (by k_asm))) (fun _ => ?_) ?_))) | (with_reducible (((fail_if_success (fail_if_success (with_reducible refine' gd9 (t := exec (Stmt.For _ _ _ _ _) _) ?_))); (rename Fr _ _ _ _ => lF'); (with_unfolding_all refine' For_turns lF' ?_); k_whole))) )) | walk1)))
  (rename Fr _ _ _ _ => F9); (rename News _ _ _ _ => N9); (rename _ ≤ _ => hT9)
  refine ⟨_, _, _, (fun i t₁ zs nw => b ≤ t₁ ∧ nw = _ ∧ StrsAre zs ((abc.take i).map fun y => txt1 y xs)), rfl, rfl, by decide +kernel, by decide +kernel, F9, N9, ⟨?_, rfl, .nil⟩, ?step, ?fin⟩
  · dsimp only; omega
  case step =>
    rintro i ch u t₁ I oI C oC D zs nw m₂ h₁ Q' E' hch ⟨hbu, rfl, hzs⟩ hut hC hx F9 N9 off ne hQ
    have hy := abc_at hch
    generalize (⟨#[ch]⟩ : Str) = y at hy hx
    have hy1 := abc_len hy
    have hcl : cnt y xs ≤ 10 := Nat.le_trans (List.length_filter_le _ _) hlen
    have hml := qt_mul_len hcl
    unfold qt at hml
    (repeat' (first | (k_unfold; (try dsimp only)) | (k_end; wrow_close) | (first | ((fail_if_success (with_reducible refine' gd9 (t := eval _ _) ?_)); (first | (with_reducible (((fail_if_success (fail_if_success (with_reducible refine' gd9 (t := execs (_ :: _) _) ?_))); first | k_gentoks | ((with_reducible refine wpAny_execs_cons ?_); (try dsimp only); k_fold)))) | (with_reducible (((fail_if_success (fail_if_success (with_reducible refine' gd9 (t := call (Value.ref 157) _) ?_))); k_dflt (refine' count_c (by k_asm) (by k_asm) (by k_asm) (by k_asm) (by k_asm) (by first | rfl | assumption) (by ktr_room) (by ktr_units) (by k_mem) (by with_reducible assumption) (by with_reducible assumption) (by omega) ?_); intro _ _ _ _ _; (try dsimp only); (try k_fold)))) | (with_reducible (((fail_if_success (fail_if_success (with_reducible refine' gd9 (t := compareOp CmpOp.Is (Value.str _ _) (Value.str _ _)) ?_))); refine' is_str (by assumption) (by exact tok_pos (by assumption) (by assumption)) (by exact tok_ne (by assumption) (by assumption)) (by exact NoneBooked.keep (by assumption) (Fr.keep (by k_asm))) (fun _ => ?_) ?_))) | (with_reducible (((fail_if_success (fail_if_success (with_reducible refine' gd9 (t := exec (Stmt.For _ _ _ _ _) _) ?_))); (rename Fr _ _ _ _ => lF'); (with_unfolding_all refine' For_turns lF' ?_); k_whole))) )) | walk1) | ((with_reducible show wpAny _ _ _ _ _ _); dsimp only) | (leave1; walk_say "STEP leave1"; try dsimp only) | fail "no step"))
    exact hQ _ _ _ _ (by k_asm) (by k_asm) off fun ht => ⟨by omega, rfl, strs_snoc hzs hy rfl⟩
  case fin =>
    rintro t₁ zs nw D h₁ ⟨hbu, rfl, hzs⟩ F9 N9 o1
    (try dsimp only)
    (repeat' (first | (k_unfold; (try dsimp only)) | (k_end; wrow_close) | (first | ((fail_if_success (with_reducible refine' gd9 (t := eval _ _) ?_)); (first | (with_reducible (((fail_if_success (fail_if_success (with_reducible refine' gd9 (t := execs (_ :: _) _) ?_))); first | k_gentoks | ((with_reducible refine wpAny_execs_cons ?_); (try dsimp only); k_fold)))) | (with_reducible (((fail_if_success (fail_if_success (with_reducible refine' gd9 (t := call (Value.ref 157) _) ?_))); k_dflt (refine' count_c (by k_asm) (by k_asm) (by k_asm) (by k_asm) (by k_asm) (by first | rfl | assumption) (by ktr_room) (by ktr_units) (by k_mem) (by with_reducible assumption) (by with_reducible assumption) (by omega) ?_); intro _ _ _ _ _; (try dsimp only); (try k_fold)))) | (with_reducible (((fail_if_success (fail_if_success (with_reducible refine' gd9 (t := compareOp CmpOp.Is (Value.str _ _) (Value.str _ _)) ?_))); refine' is_str (by assumption) (by exact tok_pos (by assumption) (by assumption)) (by exact tok_ne (by assumption) (by assumption)) (by exact NoneBooked.keep (by assumption) (Fr.keep (by k_asm))) (fun _ => ?_) ?_))) | (with_reducible (((fail_if_success (fail_if_success (with_reducible refine' gd9 (t := exec (Stmt.For _ _ _ _ _) _) ?_))); (rename Fr _ _ _ _ => lF'); (with_unfolding_all refine' For_turns lF' ?_); k_whole))) )) | walk1) | ((with_reducible show wpAny _ _ _ _ _ _); dsimp only) | (leave1; walk_say "STEP leave1"; try dsimp only) | fail "no step"))
    have ha := txt1_len (y := Str.ofString "a") (xs := xs) (by decide +kernel) hlen
    have hb := txt1_len (y := Str.ofString "b") (xs := xs) (by decide +kernel) hlen
    have hc := txt1_len (y := Str.ofString "c") (xs := xs) (by decide +kernel) hlen
    k_dflt (refine join_listW (News.isList (by k_asm) List.mem_cons_self) (ys := abc.map fun y => txt1 y xs) hzs (by decide +kernel) (by simp only [abc, List.map_cons, List.map_nil, List.sum_cons, List.sum_nil, List.length_cons, List.length_nil]; omega) ?_)
    intro t9 k9
    (repeat' (first | (k_unfold; (try dsimp only)) | (k_end; wrow_close) | (first | ((fail_if_success (with_reducible refine' gd9 (t := eval _ _) ?_)); (first | (with_reducible (((fail_if_success (fail_if_success (with_reducible refine' gd9 (t := execs (_ :: _) _) ?_))); first | k_gentoks | ((with_reducible refine wpAny_execs_cons ?_); (try dsimp only); k_fold)))) | (with_reducible (((fail_if_success (fail_if_success (with_reducible refine' gd9 (t := call (Value.ref 157) _) ?_))); k_dflt (refine' count_c (by k_asm) (by k_asm) (by k_asm) (by k_asm) (by k_asm) (by first | rfl | assumption) (by ktr_room) (by ktr_units) (by k_mem) (by with_reducible assumption) (by with_reducible assumption) (by omega) ?_); intro _ _ _ _ _; (try dsimp only); (try k_fold)))) | (with_reducible (((fail_if_success (fail_if_success (with_reducible refine' gd9 (t := compareOp CmpOp.Is (Value.str _ _) (Value.str _ _)) ?_))); refine' is_str (by assumption) (by exact tok_pos (by assumption) (by assumption)) (by exact tok_ne (by assumption) (by assumption)) (by exact NoneBooked.keep (by assumption) (Fr.keep (by k_asm))) (fun _ => ?_) ?_))) | (with_reducible (((fail_if_success (fail_if_success (with_reducible refine' gd9 (t := exec (Stmt.For _ _ _ _ _) _) ?_))); (rename Fr _ _ _ _ => lF'); (with_unfolding_all refine' For_turns lF' ?_); k_whole))) )) | walk1) | ((with_reducible show wpAny _ _ _ _ _ _); dsimp only) | (leave1; walk_say "STEP leave1"; try dsimp only) | fail "no step"))
    exact ret _ _ _ _ rfl (by k_asm) (cb_drop (by k_asm) (by walk_at "sub"))
end

theorem rs_D2_assign : True := by w_top off; trivial
open PyProof.Rows.LCg PyProof.Rows.LCt PySem.Calls in
section
variable {prog : Program} {w : World} {A : Around} {E : Value → Shared → Prop} {s : Shared} {h₀ : Heap} {L : Addr} {m : Str → Option Value} {env : Env}
theorem assign_fin {elt iter : Expr} {x y : Str} {px py : Pos} {scope : Scope} {Q : Flow → Shared → Prop} {s₂ : Shared} (hy : env.kindOf y = some .local) (hp : (env.scope.kind == .class || (env.scope.kind == .module && env.locals != env.globals)) = false) :
    ∀ D C h tk m' ys news', Fr h₀ env.locals h m → News h₀ env.locals h ((D, lst ys) :: news') → Off1 D news' → h.Ns C m' → h₀.get? C = none → h₀.get? D = none → C ≠ env.locals → D ≠ env.locals → C ≠ D → (∀ p ∈ news', p.1 ≠ C) → FinA h₀ env.locals m s₂ y Q ys news' →
      compPost (model prog w) A E (some (assign (.Name y py) env)) (fun _ s' => Q .next s') (.ref D) C (.ok .next) { s₂ with heap := h, toks := tk } := by
  intro D C h tk m' ys news' F' N' o1 hn hC₀ hD₀ hCL hDL hCD offC fin
  show wpAny _ A (assign (.Name y py) env (.ref D)) _ _ _
  refine wpAny_assign_Name (wpAny_storeName_local hy F'.ns (fun h₂ hn₂ hs₂ => ?_) hp)
  have hL₀ : h₀.get? env.locals = none := Heap.get?_none_of_le F'.above
  have F₂ : Fr h₀ env.locals h₂ (fun z => if z = y then some (.ref D) else m z) := F'.set hn₂ hs₂
  refine ⟨m', hn.sameBut hs₂ hCL, fun h₃ hs₃ => fin D h₃ _ (F₂.change hs₃ hCL hC₀) (fun p hp => ?_) o1⟩
  have z : h₂.get? p.1 = some p.2 := hs₂.extBut _ _ (N' p hp).2.1 (N' p hp).1
  refine ⟨hs₃.extBut _ _ ?_ z, (N' p hp).2⟩
  rcases List.mem_cons.mp hp with rfl | hp
  · exact Ne.symm hCD
  · exact offC p hp

theorem comp_assign {elt iter : Expr} {x y : Str} {px py : Pos} {scope : Scope} {cl : List (Str × Addr)} {pos spos : Pos} {Q : Flow → Shared → Prop} (F₀ : Fr h₀ L s.heap m) (hLe : env.locals = L)
    (hsw : swapsWith (.ListComp elt [⟨.Name x px, iter, [], 0⟩] scope pos) (some (.Name y py)) spos.line env = pure true)
    (hclos : closureFor scope env = pure cl) (hcell : ∀ z ∈ scope.names, z.2 ≠ .cell) (hkind : scope.kind = .function)
    (hnames : ∀ z ∈ scope.names, z.2 = .local → scope.names.lookup z.1 = some .local) (hx : scope.names.lookup x = some .local)
    (hy : env.kindOf y = some .local) (hp : (env.scope.kind == .class || (env.scope.kind == .module && env.locals != env.globals)) = false)
    (h : wpAny (model prog w) A (eval iter env) (CSrc prog w A h₀ L m env elt x scope cl (fun s₂ => FinA h₀ L m s₂ y Q)) E s)
    (hs : ∀ x, foldedSetIterable iter env x = pure x := by intro _; rfl) :
    wpAny (model prog w) A (exec (.Assign [.Name y py] (.ListComp elt [⟨.Name x px, iter, [], 0⟩] scope pos) spos) env) Q E s := by
  subst hLe
  rw [exec_Assign_Name_used _ _ _ _ hsw]
  refine wpAny_bind (wpAny_standAt (wpAny_bind ?_))
  show wpAny _ A (do let _ ← comprehension (.ListComp elt [⟨.Name x px, iter, [], 0⟩] scope pos) scope env _ (newList []) false (eval iter env) (some (assign (.Name y py) env))) _ _ s
  refine wpAny_bind (wpAny_mono (wpAny_comprehension_free (use := some (assign (.Name y py) env)) (Q := fun _ s' => Q .next s') rfl hs hclos hkind hnames
    (wpAny_mono h (fun xv s₁ h₁ => ?_) fun _ _ e => e)) (fun _ s' hq => wpAny_pure (wpAny_pure hq)) fun _ _ e => e)
  obtain ⟨n, P, S, news, hsz, F, N, hS, I, R⟩ := h₁
  refine I _ _ fun o fp St hf W st hfp _ hIo hSt => ?_
  refine block_U W hsz hIo hSt hcell hkind hx st (fun b hb => by show b < (s₁.heap.push o).objs.size; rw [Heap.size_push]; exact hfp b hb)
    (F.keeps fun _ _ e => Heap.get?_push_of_some _ e) (N.grown fun _ _ e => Heap.get?_push_of_some _ e) (Nat.ne_of_lt F.ns.lt) (next_is_new F) (fun p hp => Nat.ne_of_lt (Heap.lt_size (N p hp).1)) hS (R _ ⟨_, rfl⟩) ?_
  exact assign_fin (elt := elt) (iter := iter) (x := x) (px := px) (scope := scope) hy hp

theorem compT_assign {ct elt iter : Expr} {x y : Str} {px py : Pos} {scope : Scope} {cl : List (Str × Addr)} {pos spos : Pos} {Q : Flow → Shared → Prop} (F₀ : Fr h₀ L s.heap m) (hLe : env.locals = L)
    (hsw : swapsWith (.ListComp elt [⟨.Name x px, iter, [ct], 0⟩] scope pos) (some (.Name y py)) spos.line env = pure true)
    (hclos : closureFor scope env = pure cl) (hcell : ∀ z ∈ scope.names, z.2 ≠ .cell) (hkind : scope.kind = .function)
    (hnames : ∀ z ∈ scope.names, z.2 = .local → scope.names.lookup z.1 = some .local) (hx : scope.names.lookup x = some .local)
    (hy : env.kindOf y = some .local) (hp : (env.scope.kind == .class || (env.scope.kind == .module && env.locals != env.globals)) = false)
    (h : wpAny (model prog w) A (eval iter env) (CSrcT prog w A h₀ L m env ct elt x scope cl (fun s₂ => FinA h₀ L m s₂ y Q)) E s)
    (hs : ∀ x, foldedSetIterable iter env x = pure x := by intro _; rfl) :
    wpAny (model prog w) A (exec (.Assign [.Name y py] (.ListComp elt [⟨.Name x px, iter, [ct], 0⟩] scope pos) spos) env) Q E s := by
  subst hLe
  rw [exec_Assign_Name_used _ _ _ _ hsw]
  refine wpAny_bind (wpAny_standAt (wpAny_bind ?_))
  show wpAny _ A (do let _ ← comprehension (.ListComp elt [⟨.Name x px, iter, [ct], 0⟩] scope pos) scope env _ (newList []) false (eval iter env) (some (assign (.Name y py) env))) _ _ s
  refine wpAny_bind (wpAny_mono (wpAny_comprehension_free (use := some (assign (.Name y py) env)) (Q := fun _ s' => Q .next s') rfl hs hclos hkind hnames
    (wpAny_mono h (fun xv s₁ h₁ => ?_) fun _ _ e => e)) (fun _ s' hq => wpAny_pure (wpAny_pure hq)) fun _ _ e => e)
  obtain ⟨n, P, S, news, hsz, F, N, hS, I, R⟩ := h₁
  refine I _ _ fun o fp St hf W st hfp _ hIo hSt => ?_
  refine block_T W hsz hIo hSt hcell hkind hx st (fun b hb => by show b < (s₁.heap.push o).objs.size; rw [Heap.size_push]; exact hfp b hb)
    (F.keeps fun _ _ e => Heap.get?_push_of_some _ e) (N.grown fun _ _ e => Heap.get?_push_of_some _ e) (Nat.ne_of_lt F.ns.lt) (next_is_new F) (fun p hp => Nat.ne_of_lt (Heap.lt_size (N p hp).1)) hS (R _ ⟨_, rfl⟩) ?_
  exact assign_fin (elt := elt) (iter := iter) (x := x) (px := px) (scope := scope) hy hp
end

theorem rs_D3_drawn : True := by w_top off; trivial
/-- Whitespaces made one by one upon a ledger -/
inductive WsAre (w : World) (base : List (Addr × Obj)) : List Value → List Str → List (Addr × Obj) → Prop
  | nil : WsAre w base [] [] base
  | snoc {zs : List Value} {xs : List Str} {nw own : List (Addr × Obj)} {x : Str} {a : Addr} : WsAre w base zs xs nw → WsIn w x a own → (∀ q ∈ nw, ∀ p ∈ own, q.1 ≠ p.1) → WsAre w base (zs ++ [.ref a]) (xs ++ [x]) (own ++ nw)
theorem WsAre.length {w : World} {base : List (Addr × Obj)} {zs : List Value} {xs : List Str} {nw : List (Addr × Obj)} (h : WsAre w base zs xs nw) : zs.length = xs.length := by
  induction h with
  | nil => rfl
  | snoc _ _ _ ih => simp [ih]
theorem WsAre.sub {w : World} {base : List (Addr × Obj)} {zs : List Value} {xs : List Str} {nw : List (Addr × Obj)} (h : WsAre w base zs xs nw) : ∀ p ∈ base, p ∈ nw := by
  induction h with
  | nil => exact fun _ h => h
  | snoc _ _ _ ih => exact fun p hp => List.mem_append_right _ (ih p hp)
/-- each Whitespace stands in the ledger, away from the base -/
theorem WsAre.at {w : World} {base : List (Addr × Obj)} {zs : List Value} {xs : List Str} {nw : List (Addr × Obj)} (h : WsAre w base zs xs nw) : ∀ {i : Nat} {x : Str}, xs[i]? = some x → ∃ a own, zs[i]? = some (.ref a) ∧ WsIn w x a own ∧ (∀ p ∈ own, p ∈ nw) ∧ (∀ q ∈ base, ∀ p ∈ own, q.1 ≠ p.1) := by
  induction h with
  | nil => intro i x e; simp at e
  | @snoc zs xs nw own x a h hx hf ih =>
    intro i y e
    have hl := h.length
    by_cases hi : i < xs.length
    · rw [List.getElem?_append_left hi] at e
      obtain ⟨a', own', e', hx', hs, hf'⟩ := ih e
      exact ⟨a', own', by rw [List.getElem?_append_left (hl ▸ hi)]; exact e', hx', fun p hp => List.mem_append_right _ (hs p hp), hf'⟩
    · have hi' : i = xs.length := by
        have := (List.getElem?_eq_some_iff.mp e).1
        simp at this; omega
      subst hi'
      simp at e; subst e
      exact ⟨a, own, by simp [← hl], hx, fun p hp => List.mem_append_left _ hp, fun q hq => hf q (h.sub q hq)⟩
theorem WsIn.facts {w : World} {ws : Str} {x : Addr} {own led : List (Addr × Obj)} (h : WsIn w ws x own) (hs : ∀ p ∈ own, p ∈ led) : ∃ (dx d1 : Addr) (t0 t1 t2 t3 t4 t5 t6 t7 : Tok), (x, instObj 100 dx) ∈ led ∧
    (dx, dictOf [ent w (Str.ofString "raw") t0 (.str ws t1), ent w (Str.ofString "n") t2 (.int (wsOf ws).n t3), ent w (Str.ofString "nt") t4 (.int (wsOf ws).nt t5), ent w (Str.ofString "norm") t6 (.ref d1), ent w (Str.ofString "is_simple") t7 (.bool (decide (((wsOf ws).cnt.length : Int) ≤ 1)))] 5) ∈ led := by
  obtain ⟨dx, d1, d2, vs, t0, t1, t2, t3, t4, t5, t6, t7, tb, hvs, e⟩ := h
  exact ⟨dx, d1, t0, t1, t2, t3, t4, t5, t6, t7, hs _ (e ▸ List.mem_cons_self), hs _ (e ▸ List.mem_cons_of_mem _ List.mem_cons_self)⟩
theorem list2 {zs : List Value} {u v : Value} (h : zs.length = 2) (h0 : zs[0]? = some u) (h1 : zs[1]? = some v) : zs = [u, v] := by
  rcases zs with _ | ⟨a, _ | ⟨b, _ | ⟨c, r⟩⟩⟩
  · cases h
  · cases h
  · cases h0; cases h1; rfl
  · simp at h
/-- the ledger without what lies at l -/
def away (l : Addr) (all : List (Addr × Obj)) : List (Addr × Obj) := all.filter fun q => decide (@Ne Nat q.1 l)
theorem away_off {l : Addr} {all : List (Addr × Obj)} : ∀ q ∈ away l all, q.1 ≠ l := fun _ hq => of_decide_eq_true (List.mem_filter.mp hq).2
theorem mem_away {l : Addr} {all : List (Addr × Obj)} {q : Addr × Obj} (h : q ∈ all) (n : q.1 ≠ l) : q ∈ away l all := List.mem_filter.mpr ⟨h, decide_eq_true n⟩
theorem news_away {h₀ h : Heap} {L l : Addr} {o : Obj} {all : List (Addr × Obj)} (N : News h₀ L h all) (hl : (l, o) ∈ all) : News h₀ L h ((l, o) :: away l all) := fun p hp => by
  rcases List.mem_cons.mp hp with rfl | hp
  · exact N _ hl
  · exact N _ (List.mem_filter.mp hp).1
/-- two Whitespaces made: the ledger anew, the atlas's list first -/
theorem two_ws {w : World} {h₀ h : Heap} {L l D : Addr} {o : Obj} {bs nw rest : List (Addr × Obj)} {zs : List Value} {x1 x2 : Str} (J : WsAre w bs zs [x1, x2] nw) (N : News h₀ L h ((D, LCg.lst zs) :: nw)) (o1 : LCg.Off1 D nw) (hl : (l, o) ∈ bs) (hr : ∀ p ∈ rest, p ∈ bs) (hoff : ∀ q ∈ rest, q.1 ≠ l) :
    ∃ a1 a2 own1 own2 rest2, WsIn w x1 a1 own1 ∧ WsIn w x2 a2 own2 ∧ News h₀ L h ((l, o) :: rest2) ∧ (∀ q ∈ rest2, q.1 ≠ l) ∧ (∀ p ∈ rest, p ∈ rest2) ∧ (D, LCg.lst [.ref a1, .ref a2]) ∈ rest2 ∧ (∀ p ∈ own1, p ∈ rest2) ∧ (∀ p ∈ own2, p ∈ rest2) ∧ zs = [.ref a1, .ref a2] := by
  obtain ⟨a1, own1, e1, w1, s1, f1⟩ := J.at (i := 0) rfl
  obtain ⟨a2, own2, e2, w2, s2, f2⟩ := J.at (i := 1) rfl
  have hz := list2 (J.length.trans rfl) e1 e2
  have hDl : l ≠ D := off1_mem o1 _ (J.sub _ hl)
  refine ⟨a1, a2, own1, own2, away l ((D, LCg.lst zs) :: nw), w1, w2, news_away N (List.mem_cons_of_mem _ (J.sub _ hl)), away_off, fun p hp => mem_away (List.mem_cons_of_mem _ (J.sub _ (hr p hp))) (hoff p hp), ?_, fun p hp => mem_away (List.mem_cons_of_mem _ (s1 p hp)) (Ne.symm (f1 _ hl p hp)), fun p hp => mem_away (List.mem_cons_of_mem _ (s2 p hp)) (Ne.symm (f2 _ hl p hp)), hz⟩
  rw [← hz]; exact mem_away List.mem_cons_self (Ne.symm hDl)
theorem off3_app {I C D : Addr} {own nw : List (Addr × Obj)} (h1 : ∀ p ∈ own, p.1 ≠ I ∧ p.1 ≠ C ∧ p.1 ≠ D) (h2 : LCg.Off3 I C D nw) : LCg.Off3 I C D (own ++ nw) :=
  LCg.Off3.of fun p hp => (List.mem_append.mp hp).elim (h1 p) (h2.mem p)
theorem off3_new {I C D : Addr} {oI oC oD : Obj} {own nw : List (Addr × Obj)} (h : ∀ q ∈ (I, oI) :: (C, oC) :: (D, oD) :: nw, ∀ p ∈ own, q.1 ≠ p.1) (h2 : LCg.Off3 I C D nw) : LCg.Off3 I C D (own ++ nw) :=
  off3_app (fun p hp => ⟨Ne.symm (h (I, oI) List.mem_cons_self p hp), Ne.symm (h (C, oC) (List.mem_cons_of_mem _ List.mem_cons_self) p hp), Ne.symm (h (D, oD) (List.mem_cons_of_mem _ (List.mem_cons_of_mem _ List.mem_cons_self)) p hp)⟩) h2
section
variable {prog : Program} {w : World} {A : Around} {E : Value → Shared → Prop} {s : Shared} {h₀ : Heap} {L : Addr} {news : List (Addr × Obj)} {value slice : Expr} {t : Addr} {c : Nat} {dd : Option Addr} {sl : Array (Option Value)} {u : Tok} {Q : Value → Shared → Prop} {x x0 x1 x2 : Value} {r : List Value}
theorem lst_at0 (N : News h₀ L s.heap news) (hm : (t, (⟨.type "list", dd, .seq (x :: r).toArray c, sl⟩ : Obj)) ∈ news) (h : Q x s) (hs : subscripted slice false (.ref t) (.int 0 u) = operate [.ref t, .int 0 u] (getItem (.ref t) (.int 0 u)) := by with_unfolding_all rfl) :
    wpAny (model prog w) A (subscriptTail value slice (.ref t) (.int 0 u)) Q E s := lst_item N hm (by decide) (by decide) (by simp) h hs
theorem lst_at1 (N : News h₀ L s.heap news) (hm : (t, (⟨.type "list", dd, .seq (x0 :: x :: r).toArray c, sl⟩ : Obj)) ∈ news) (h : Q x s) (hs : subscripted slice false (.ref t) (.int 1 u) = operate [.ref t, .int 1 u] (getItem (.ref t) (.int 1 u)) := by with_unfolding_all rfl) :
    wpAny (model prog w) A (subscriptTail value slice (.ref t) (.int 1 u)) Q E s := lst_item N hm (by decide) (by decide) (by simp) h hs
theorem lst_at2 (N : News h₀ L s.heap news) (hm : (t, (⟨.type "list", dd, .seq (x0 :: x1 :: x :: r).toArray c, sl⟩ : Obj)) ∈ news) (h : Q x s) (hs : subscripted slice false (.ref t) (.int 2 u) = operate [.ref t, .int 2 u] (getItem (.ref t) (.int 2 u)) := by with_unfolding_all rfl) :
    wpAny (model prog w) A (subscriptTail value slice (.ref t) (.int 2 u)) Q E s := lst_item N hm (by decide) (by decide) (by simp) h hs
theorem lst_at3 (N : News h₀ L s.heap news) (hm : (t, (⟨.type "list", dd, .seq (x0 :: x1 :: x2 :: x :: r).toArray c, sl⟩ : Obj)) ∈ news) (h : Q x s) (hs : subscripted slice false (.ref t) (.int 3 u) = operate [.ref t, .int 3 u] (getItem (.ref t) (.int 3 u)) := by with_unfolding_all rfl) :
    wpAny (model prog w) A (subscriptTail value slice (.ref t) (.int 3 u)) Q E s := lst_item N hm (by decide) (by decide) (by simp) h hs
end
/-- two leads, as they lie in the atlas -/
def drw (i j k way : Int) (g1 g2 : Str) : Str :=
  if wsLess (wsOf (ld way i j)) (wsOf g1) = true then Str.ofString "c" else if wsLess (wsOf (ld way i k)) (wsOf g2) = true then Str.ofString "b" else if wsEq (wsOf (ld way i j)) (wsOf g1) = true then Txt.item (nm i j k) (-1) else Str.ofString "a"
local macro_rules | `(tactic| walk_at "sub") => `(tactic| with_reducible assumption)
theorem bb_no {b : Bool} {P : Prop} (h1 : (b != true) = true) (h2 : (b != false) = true) : P := by
  cases b
  · exact absurd h2 (by decide)
  · exact absurd h1 (by decide)
theorem ne_no {a b : Bool} {P : Prop} (e : a = b) (h : (a != b) = true) : P := by
  subst e
  cases a
  · exact absurd h (by decide)
  · exact absurd h (by decide)
section
variable {i j k way : Int} {g1 g2 : Str}
theorem drw_c (h : wsLess (wsOf (ld way i j)) (wsOf g1) = true) : drw i j k way g1 g2 = Str.ofString "c" := if_pos h
theorem drw_b (h : wsLess (wsOf (ld way i j)) (wsOf g1) = false) (h' : wsLess (wsOf (ld way i k)) (wsOf g2) = true) : drw i j k way g1 g2 = Str.ofString "b" := (if_neg (by rw [h]; decide)).trans (if_pos h')
theorem drw_n (h : wsLess (wsOf (ld way i j)) (wsOf g1) = false) (h' : wsLess (wsOf (ld way i k)) (wsOf g2) = false) (e : wsEq (wsOf (ld way i j)) (wsOf g1) = true) : drw i j k way g1 g2 = Txt.item (nm i j k) (-1) :=
  (if_neg (by rw [h]; decide)).trans ((if_neg (by rw [h']; decide)).trans (if_pos e))
theorem drw_a (h : wsLess (wsOf (ld way i j)) (wsOf g1) = false) (h' : wsLess (wsOf (ld way i k)) (wsOf g2) = false) (e : wsEq (wsOf (ld way i j)) (wsOf g1) = false) : drw i j k way g1 g2 = Str.ofString "a" :=
  (if_neg (by rw [h]; decide)).trans ((if_neg (by rw [h']; decide)).trans (if_neg (by rw [e]; decide)))
end
theorem sub_mid {a b c : Addr × Obj} {own nw : List (Addr × Obj)} : ∀ p ∈ a :: b :: c :: (own ++ nw), p ∈ own ++ a :: b :: c :: nw := fun p hp => by
  simp only [List.mem_cons, List.mem_append] at hp ⊢
  rcases hp with h | h | h | h | h
  · exact .inr (.inl h)
  · exact .inr (.inr (.inl h))
  · exact .inr (.inr (.inr (.inl h)))
  · exact .inl h
  · exact .inr (.inr (.inr (.inr h)))
section
variable {w : World} {dp un : Nat} {gd : Option (List Code)} {cn : Str} {cs : Scope} {a : Addr} {ccd : Value} {cl : List (Str × Addr)} {outer : List Env} {A₀ : Around} {base h₀ : Heap} {L : Addr} {m : Str → Option Value} {s : Shared} {Q E : Value → Shared → Prop} {mean : ExcName → Option Value} {mg mb : Str → Option Value} {news : List (Addr × Obj)}

set_option maxRecDepth 100000 in
set_option maxHeartbeats 8000000 in
theorem drawn_c (B : Below A₀ base outer h₀) (F : Fr h₀ L s.heap m) (X : (Mine.hk.heap_1 w.params).In h₀) {x l : Addr} {ps : List Value} {c : Nat} {rest fix : List (Addr × Obj)} {al : List (Str × Str)} {P : Str → Tok → Prop} (N : News h₀ L s.heap ((l, listOf ps.toArray c) :: rest)) (T : Top Mine.V LS mean mg mb h₀) (hk : cs.kind = .function)
    (hdp : dp + 20 < recursionLimit) (hun : un + 1000 < cLine) (hat : AtIn P w al x l ps fix) (hfix : ∀ p ∈ fix, p ∈ rest) (hoff : ∀ q ∈ rest, q.1 ≠ l) (ok : AtOk al) (htk : 2 ≤ s.toks)
    {p : Addr} {i j k : Int} {ti tj tl : Tok} {n : Nat} (hp : (p, tup3 i j k ti tj tl n) ∈ rest) (hi : In4 i) (hj : In4 j) (hkk : In4 k) (h3 : i + j + k = 3) {way : Int} {tw : Tok} (hw : 0 ≤ way ∧ way ≤ 2)
    (hn : (Txt.upper (nm i j k)).length ≤ 100) (hnl : (Txt.lower (Txt.upper (nm i j k))).length ≤ 1000) (ht : Takes true (Txt.lower (Txt.upper (nm i j k)))) (hl1 : (ld way i j).length ≤ 100) (hl2 : (ld way i k).length ≤ 100)
    {g1 g2 : Str} (hga : getAll al (Txt.upper (nm i j k)) = [g1, g2]) (hg1 : g1.length ≤ 100) (hg2 : g2.length ≤ 100) (heq : wsEq (wsOf (ld way i j)) (wsOf g1) = wsEq (wsOf (ld way i k)) (wsOf g2))
    (ret : ∀ (t : Tok) (h' : Heap) (tk' : Nat), t ≠ 0 → (@LT.lt Nat _ t tk') → Fr h₀ L h' m → News h₀ L h' ((l, listOf ps.toArray c) :: rest) → Q (.str (drw i j k way g1 g2) t) { s with heap := h', toks := tk' }) :
    wpAny (model PySem.Challenge.rw_wo0081_01.row.prog w) (ktrTop dp un gd cn cs L a ccd cl outer) (call (.ref 337) [.ref x, .ref p, .int way tw]) Q E s := by
  have ret' : ∀ (y : Str) (t : Tok) (h' : Heap) (tk' : Nat), drw i j k way g1 g2 = y → t ≠ 0 → (@LT.lt Nat _ t tk') → Fr h₀ L h' m → News h₀ L h' ((l, listOf ps.toArray c) :: rest) → Q (.str y t) { s with heap := h', toks := tk' } := fun y t h' tk' e => e ▸ ret t h' tk'
  clear ret
  have hat' := hat
  obtain ⟨dA, t0, own, rfl, hps⟩ := hat'
  have hx1 := hfix _ List.mem_cons_self
  have hx2 := hfix _ (List.mem_cons_of_mem _ List.mem_cons_self)
  have hnl := nm_len hi.2 hj.2 hkk.2
  have hnp := nm_pos hi hj hkk h3
  refine wpAny_with_toks htk ?_
  refine wpAny_call ?_
  (k_dflt (refine' code_defG ?k1 ?k2 ?k3 ?k4 ?k5 ?kA ?kF ?kK ?k6 ?k7 ?k8 ?k9 ?kB ?_ ?c2 ?c3 ?c4 ?c5; (case kA => exact rfl); (case kF => exact rfl); (case kK => first | exact rfl | assumption); (case k1 => k_asm); (case k2 => k_asm); (case k3 => k_asm); (case k5 => k_asm); (case k6 => k_is); (case k7 => k_is); (case k8 => ktr_room); (case k9 => first | exact BindsTo.of_eq rfl | exact binds_K (by k_in) rfl (by k_is) rfl rfl rfl | fail "k_enter: no rule for these arguments"); (case kB => exact locs rfl); (case c2 => exact rfl); (case c3 => exact rfl); (case c4 => exact rfl); (case c5 => decide); k_whole))
  case k4 => exact N
  intro g L1 h1 FG F1 N1 B1 X1 T1 SK LT
  (try dsimp only); (try k_fold)
  (repeat' (first | (k_unfold; (try dsimp only)) | (k_end; wrow_close) | (first | (with_reducible ((first | ((fail_if_success (fail_if_success (with_reducible refine' gd9 (t := eval (Expr.ListComp _ [⟨_, _, [], _⟩] _ _) _) ?_))); k_dflt (refine comp_eval (F₀ := by k_asm) (by with_unfolding_all rfl) (by decide) (by rfl) (by decide) (by rfl) ?_)) | ((fail_if_success (fail_if_success (with_reducible refine' gd9 (t := eval (Expr.ListComp _ [⟨_, _, [_], _⟩] _ _) _) ?_))); k_dflt (refine compT_eval (F₀ := by k_asm) (by with_unfolding_all rfl) (by decide) (by rfl) (by decide) (by rfl) ?_))))) | ((fail_if_success (with_reducible refine' gd9 (t := eval _ _) ?_)); (first | (with_reducible (((fail_if_success (fail_if_success (with_reducible refine' gd9 (t := execs (_ :: _) _) ?_))); first | k_gentoks | ((with_reducible refine wpAny_execs_cons ?_); (try dsimp only); k_fold)))) | ((fail_if_success (fail_if_success (with_reducible refine' gd9 (t := call _ _ _) ?_))); (first | (with_reducible (((fail_if_success (fail_if_success (with_reducible refine' gd9 (t := call (Value.builtin "len") [Value.ref _]) ?_))); k_dflt (first | (refine' lenL (by k_asm) (by k_mem) (by first | exact ints_size (by with_reducible assumption) | exact strs_size (by with_reducible assumption) | exact rfl) (by first | omega | decide | exact Nat.lt_of_succ_le (Nat.le_of_ble_eq_true rfl)) ?_; k_whole) | (refine' lenT (by k_asm) (by k_mem) (by first | exact ints_size (by with_reducible assumption) | exact strs_size (by with_reducible assumption) | exact rfl) (by first | omega | decide | exact Nat.lt_of_succ_le (Nat.le_of_ble_eq_true rfl)) ?_; k_whole)); (try dsimp only)))) | (with_reducible (((fail_if_success (fail_if_success (with_reducible refine' gd9 (t := call (Value.builtin "str.upper") [Value.str _ _]) ?_))); (refine SCL.upper (by ((try dsimp only); first | with_reducible assumption | omega | (simp only [Str.length_append]; omega) | fail "slen")) ?_); intro _; (try dsimp only)))) | (with_reducible (((fail_if_success (fail_if_success (with_reducible refine' gd9 (t := call (Value.ref 90) _) ?_))); k_dflt (refine' less_c (by k_asm) (by k_asm) (by k_asm) (by k_asm) (by k_asm) (by first | rfl | assumption) (by ktr_room) (by ktr_units) (by with_reducible assumption) (by with_reducible assumption) (by walk_at "sub") (by with_reducible assumption) (by with_reducible assumption) ?_); intro _ _ _ _; (try dsimp only); (try k_fold)))) | (with_reducible (((fail_if_success (fail_if_success (with_reducible refine' gd9 (t := call (Value.ref 76) _) ?_))); k_dflt (refine' equal_c (by k_asm) (by k_asm) (by k_asm) (by k_asm) (by k_asm) (by first | rfl | assumption) (by ktr_room) (by ktr_units) (by with_reducible assumption) (by with_reducible assumption) (by walk_at "sub") ?_); intro _ _ _ _; (try dsimp only); (try k_fold)))) | (with_reducible (((fail_if_success (fail_if_success (with_reducible refine' gd9 (t := call (Value.ref 100) _) ?_))); k_dflt (refine' ws_c (by k_asm) (by k_asm) (by k_asm) (by k_asm) (by k_asm) (by first | rfl | assumption) (by ktr_room) (by ktr_units) (by ((try dsimp only); first | with_reducible assumption | omega | (simp only [Str.length_append]; omega) | fail "slen")) ?_); intro _ _ _ _ _ _ _ _; (try dsimp only); (try k_fold)))) | (with_reducible (((fail_if_success (fail_if_success (with_reducible refine' gd9 (t := call (Value.ref 332) _) ?_))); k_dflt (refine' leads_c (by k_asm) (by k_asm) (by k_asm) (by k_asm) (by k_asm) (by first | rfl | assumption) (by ktr_room) (by ktr_units) (by k_mem) (by with_reducible assumption) (by with_reducible assumption) (by with_reducible assumption) (by with_reducible assumption) ?_); intro _ _ _ _ _ _ _ _; (try dsimp only); (try k_fold)))) | (with_reducible (((fail_if_success (fail_if_success (with_reducible refine' gd9 (t := call (Value.ref 320) _) ?_))); k_dflt (refine' named_c (by k_asm) (by k_asm) (by k_asm) (by k_asm) (by k_asm) (by first | rfl | assumption) (by ktr_room) (by ktr_units) (by k_mem) (by with_reducible assumption) (by with_reducible assumption) (by with_reducible assumption) ?_); intro _ _ _ _ _; (try dsimp only); (try k_fold)))) | (with_reducible (((fail_if_success (fail_if_success (with_reducible refine' gd9 (t := call (Value.ref 241) _) ?_))); k_dflt (refine' getall_c (by k_asm) (by k_asm) (by k_asm) (by k_asm) (by k_asm) (by first | rfl | assumption) (by ktr_room) (by ktr_units) (by with_reducible assumption) (by first | with_reducible assumption | walk_at "sub") (by with_reducible assumption) (by with_reducible assumption) (by with_reducible assumption) (by with_reducible assumption) (by with_reducible assumption) ?_); intro _ _ _ _ _ _ _ _; (try dsimp only); (try k_fold)))) )) | (with_reducible (((fail_if_success (fail_if_success (with_reducible refine' gd9 (t := compareOp CmpOp.NotEq (Value.ref _) (Value.ref _)) ?_))); k_dflt (refine ne_dataH (by ked_read) (by ked_read) (by ked_shaped) (by ked_shaped) (by ktr_units) ?_); ked_norm))) | (with_reducible ((first | ((fail_if_success (fail_if_success (with_reducible refine' gd9 (t := exec (Stmt.Assign _ (Expr.ListComp _ [⟨_, _, [], _⟩] _ _) _) _) ?_))); k_dflt (refine comp_assign (F₀ := by k_asm) (by rfl) (by with_unfolding_all rfl) (by with_unfolding_all rfl) (by decide) (by rfl) (by decide) (by rfl) (by rfl) (by rfl) ?_)) | ((fail_if_success (fail_if_success (with_reducible refine' gd9 (t := exec (Stmt.Assign _ (Expr.ListComp _ [⟨_, _, [_], _⟩] _ _) _) _) ?_))); k_dflt (refine compT_assign (F₀ := by k_asm) (by rfl) (by with_unfolding_all rfl) (by with_unfolding_all rfl) (by decide) (by rfl) (by decide) (by rfl) (by rfl) (by rfl) ?_))))) | (with_reducible ((first | ((fail_if_success (fail_if_success (with_reducible refine' gd9 (t := subscriptTail _ _ (Value.ref _) (Value.int 0 _)) ?_))); k_dflt (refine' lst_at0 (by k_asm) (by k_mem) ?_)) | ((fail_if_success (fail_if_success (with_reducible refine' gd9 (t := subscriptTail _ _ (Value.ref _) (Value.int 1 _)) ?_))); k_dflt (refine' lst_at1 (by k_asm) (by k_mem) ?_)) | ((fail_if_success (fail_if_success (with_reducible refine' gd9 (t := subscriptTail _ _ (Value.ref _) (Value.int 2 _)) ?_))); k_dflt (refine' lst_at2 (by k_asm) (by k_mem) ?_)) | ((fail_if_success (fail_if_success (with_reducible refine' gd9 (t := subscriptTail _ _ (Value.ref _) (Value.int 3 _)) ?_))); k_dflt (refine' lst_at3 (by k_asm) (by k_mem) ?_))))) )) | walk1) | ((with_reducible show wpAny _ _ _ _ _ _); dsimp only) | (leave1; walk_say "STEP leave1"; try dsimp only) | fail "no step"))
  rename_i l9 ys9 h9 tk9 hys hl9 F9 N9
  have hyl := StrsAre.length hys
  have hll : ∀ y ∈ [ld way i j, ld way i k], y.length ≤ 100 := by
    intro y hy; rcases List.mem_cons.mp hy with rfl | hy
    · exact hl1
    · rw [List.mem_singleton.mp hy]; exact hl2
  k_dflt (refine CSrc.of (iter_list rfl N9 List.mem_cons_self) F9 N9 List.mem_cons_self (by simp only [List.size_toArray]; rw [hyl]; exact Nat.le_of_ble_eq_true rfl) fun _ => rest_inv (K := Array.size _) (fun c zs nw => WsAre w _ zs (([ld way i j, ld way i k]).take c) nw) ?step ?fin _ _ _ _ (Nat.zero_add _) .nil)
  case step =>
    rintro c v I oI C oC D zs nw m₂ h tq Q' E' hc hv hJ hC hx F9 N9 off ne hQ
    obtain ⟨y, ty, rfl, hy⟩ := StrsAre.item hys c v (by simpa using hv)
    have hyl' := hll y (List.mem_of_getElem? hy)
    (repeat' (first | (k_unfold; (try dsimp only)) | (k_end; wrow_close) | (first | (with_reducible ((first | ((fail_if_success (fail_if_success (with_reducible refine' gd9 (t := eval (Expr.ListComp _ [⟨_, _, [], _⟩] _ _) _) ?_))); k_dflt (refine comp_eval (F₀ := by k_asm) (by with_unfolding_all rfl) (by decide) (by rfl) (by decide) (by rfl) ?_)) | ((fail_if_success (fail_if_success (with_reducible refine' gd9 (t := eval (Expr.ListComp _ [⟨_, _, [_], _⟩] _ _) _) ?_))); k_dflt (refine compT_eval (F₀ := by k_asm) (by with_unfolding_all rfl) (by decide) (by rfl) (by decide) (by rfl) ?_))))) | ((fail_if_success (with_reducible refine' gd9 (t := eval _ _) ?_)); (first | (with_reducible (((fail_if_success (fail_if_success (with_reducible refine' gd9 (t := execs (_ :: _) _) ?_))); first | k_gentoks | ((with_reducible refine wpAny_execs_cons ?_); (try dsimp only); k_fold)))) | ((fail_if_success (fail_if_success (with_reducible refine' gd9 (t := call _ _ _) ?_))); (first | (with_reducible (((fail_if_success (fail_if_success (with_reducible refine' gd9 (t := call (Value.builtin "len") [Value.ref _]) ?_))); k_dflt (first | (refine' lenL (by k_asm) (by k_mem) (by first | exact ints_size (by with_reducible assumption) | exact strs_size (by with_reducible assumption) | exact rfl) (by first | omega | decide | exact Nat.lt_of_succ_le (Nat.le_of_ble_eq_true rfl)) ?_; k_whole) | (refine' lenT (by k_asm) (by k_mem) (by first | exact ints_size (by with_reducible assumption) | exact strs_size (by with_reducible assumption) | exact rfl) (by first | omega | decide | exact Nat.lt_of_succ_le (Nat.le_of_ble_eq_true rfl)) ?_; k_whole)); (try dsimp only)))) | (with_reducible (((fail_if_success (fail_if_success (with_reducible refine' gd9 (t := call (Value.builtin "str.upper") [Value.str _ _]) ?_))); (refine SCL.upper (by ((try dsimp only); first | with_reducible assumption | omega | (simp only [Str.length_append]; omega) | fail "slen")) ?_); intro _; (try dsimp only)))) | (with_reducible (((fail_if_success (fail_if_success (with_reducible refine' gd9 (t := call (Value.ref 90) _) ?_))); k_dflt (refine' less_c (by k_asm) (by k_asm) (by k_asm) (by k_asm) (by k_asm) (by first | rfl | assumption) (by ktr_room) (by ktr_units) (by with_reducible assumption) (by with_reducible assumption) (by walk_at "sub") (by with_reducible assumption) (by with_reducible assumption) ?_); intro _ _ _ _; (try dsimp only); (try k_fold)))) | (with_reducible (((fail_if_success (fail_if_success (with_reducible refine' gd9 (t := call (Value.ref 76) _) ?_))); k_dflt (refine' equal_c (by k_asm) (by k_asm) (by k_asm) (by k_asm) (by k_asm) (by first | rfl | assumption) (by ktr_room) (by ktr_units) (by with_reducible assumption) (by with_reducible assumption) (by walk_at "sub") ?_); intro _ _ _ _; (try dsimp only); (try k_fold)))) | (with_reducible (((fail_if_success (fail_if_success (with_reducible refine' gd9 (t := call (Value.ref 100) _) ?_))); k_dflt (refine' ws_c (by k_asm) (by k_asm) (by k_asm) (by k_asm) (by k_asm) (by first | rfl | assumption) (by ktr_room) (by ktr_units) (by ((try dsimp only); first | with_reducible assumption | omega | (simp only [Str.length_append]; omega) | fail "slen")) ?_); intro _ _ _ _ _ _ _ _; (try dsimp only); (try k_fold)))) | (with_reducible (((fail_if_success (fail_if_success (with_reducible refine' gd9 (t := call (Value.ref 332) _) ?_))); k_dflt (refine' leads_c (by k_asm) (by k_asm) (by k_asm) (by k_asm) (by k_asm) (by first | rfl | assumption) (by ktr_room) (by ktr_units) (by k_mem) (by with_reducible assumption) (by with_reducible assumption) (by with_reducible assumption) (by with_reducible assumption) ?_); intro _ _ _ _ _ _ _ _; (try dsimp only); (try k_fold)))) | (with_reducible (((fail_if_success (fail_if_success (with_reducible refine' gd9 (t := call (Value.ref 320) _) ?_))); k_dflt (refine' named_c (by k_asm) (by k_asm) (by k_asm) (by k_asm) (by k_asm) (by first | rfl | assumption) (by ktr_room) (by ktr_units) (by k_mem) (by with_reducible assumption) (by with_reducible assumption) (by with_reducible assumption) ?_); intro _ _ _ _ _; (try dsimp only); (try k_fold)))) | (with_reducible (((fail_if_success (fail_if_success (with_reducible refine' gd9 (t := call (Value.ref 241) _) ?_))); k_dflt (refine' getall_c (by k_asm) (by k_asm) (by k_asm) (by k_asm) (by k_asm) (by first | rfl | assumption) (by ktr_room) (by ktr_units) (by with_reducible assumption) (by first | with_reducible assumption | walk_at "sub") (by with_reducible assumption) (by with_reducible assumption) (by with_reducible assumption) (by with_reducible assumption) (by with_reducible assumption) ?_); intro _ _ _ _ _ _ _ _; (try dsimp only); (try k_fold)))) )) | (with_reducible (((fail_if_success (fail_if_success (with_reducible refine' gd9 (t := compareOp CmpOp.NotEq (Value.ref _) (Value.ref _)) ?_))); k_dflt (refine ne_dataH (by ked_read) (by ked_read) (by ked_shaped) (by ked_shaped) (by ktr_units) ?_); ked_norm))) | (with_reducible ((first | ((fail_if_success (fail_if_success (with_reducible refine' gd9 (t := exec (Stmt.Assign _ (Expr.ListComp _ [⟨_, _, [], _⟩] _ _) _) _) ?_))); k_dflt (refine comp_assign (F₀ := by k_asm) (by rfl) (by with_unfolding_all rfl) (by with_unfolding_all rfl) (by decide) (by rfl) (by decide) (by rfl) (by rfl) (by rfl) ?_)) | ((fail_if_success (fail_if_success (with_reducible refine' gd9 (t := exec (Stmt.Assign _ (Expr.ListComp _ [⟨_, _, [_], _⟩] _ _) _) _) ?_))); k_dflt (refine compT_assign (F₀ := by k_asm) (by rfl) (by with_unfolding_all rfl) (by with_unfolding_all rfl) (by decide) (by rfl) (by decide) (by rfl) (by rfl) (by rfl) ?_))))) | (with_reducible ((first | ((fail_if_success (fail_if_success (with_reducible refine' gd9 (t := subscriptTail _ _ (Value.ref _) (Value.int 0 _)) ?_))); k_dflt (refine' lst_at0 (by k_asm) (by k_mem) ?_)) | ((fail_if_success (fail_if_success (with_reducible refine' gd9 (t := subscriptTail _ _ (Value.ref _) (Value.int 1 _)) ?_))); k_dflt (refine' lst_at1 (by k_asm) (by k_mem) ?_)) | ((fail_if_success (fail_if_success (with_reducible refine' gd9 (t := subscriptTail _ _ (Value.ref _) (Value.int 2 _)) ?_))); k_dflt (refine' lst_at2 (by k_asm) (by k_mem) ?_)) | ((fail_if_success (fail_if_success (with_reducible refine' gd9 (t := subscriptTail _ _ (Value.ref _) (Value.int 3 _)) ?_))); k_dflt (refine' lst_at3 (by k_asm) (by k_mem) ?_))))) )) | walk1) | ((with_reducible show wpAny _ _ _ _ _ _); dsimp only) | (leave1; walk_say "STEP leave1"; try dsimp only) | fail "no step"))
    rename_i x10 own10 h10 tk10 hw10 hf10 F10 N10
    refine hQ _ _ _ _ (by k_asm) (cb_drop N10 sub_mid) (off3_new hf10 off) (List.mem_append_right _ (hJ.sub _ List.mem_cons_self)) ?_
    rw [List.take_add_one, hy]
    exact .snoc hJ hw10 fun q hq => hf10 q (List.mem_cons_of_mem _ (List.mem_cons_of_mem _ (List.mem_cons_of_mem _ hq)))
  case fin =>
    rintro zs nw hJ D h tq F9 N9 o1
    rw [List.take_of_length_le (by simp only [List.size_toArray]; rw [hyl]; exact Nat.le_refl _)] at hJ
    obtain ⟨a1, a2, own1, own2, rest2, hw1, hw2, N2, hoff2, hr2, hD, hs1, hs2, rfl⟩ := two_ws hJ N9 o1 (List.mem_cons_of_mem _ List.mem_cons_self) (fun p hp => List.mem_cons_of_mem _ (List.mem_cons_of_mem _ hp)) hoff
    replace hp := hr2 _ hp
    replace hx1 := hr2 _ hx1
    replace hx2 := hr2 _ hx2
    have hfix2 := fun p hp => hr2 p (hfix p hp)
    clear N9 hJ o1
    (try dsimp only)
    (repeat' (first | (k_unfold; (try dsimp only)) | (k_end; wrow_close) | (first | (with_reducible ((first | ((fail_if_success (fail_if_success (with_reducible refine' gd9 (t := eval (Expr.ListComp _ [⟨_, _, [], _⟩] _ _) _) ?_))); k_dflt (refine comp_eval (F₀ := by k_asm) (by with_unfolding_all rfl) (by decide) (by rfl) (by decide) (by rfl) ?_)) | ((fail_if_success (fail_if_success (with_reducible refine' gd9 (t := eval (Expr.ListComp _ [⟨_, _, [_], _⟩] _ _) _) ?_))); k_dflt (refine compT_eval (F₀ := by k_asm) (by with_unfolding_all rfl) (by decide) (by rfl) (by decide) (by rfl) ?_))))) | ((fail_if_success (with_reducible refine' gd9 (t := eval _ _) ?_)); (first | (with_reducible (((fail_if_success (fail_if_success (with_reducible refine' gd9 (t := execs (_ :: _) _) ?_))); first | k_gentoks | ((with_reducible refine wpAny_execs_cons ?_); (try dsimp only); k_fold)))) | ((fail_if_success (fail_if_success (with_reducible refine' gd9 (t := call _ _ _) ?_))); (first | (with_reducible (((fail_if_success (fail_if_success (with_reducible refine' gd9 (t := call (Value.builtin "len") [Value.ref _]) ?_))); k_dflt (first | (refine' lenL (by k_asm) (by k_mem) (by first | exact ints_size (by with_reducible assumption) | exact strs_size (by with_reducible assumption) | exact rfl) (by first | omega | decide | exact Nat.lt_of_succ_le (Nat.le_of_ble_eq_true rfl)) ?_; k_whole) | (refine' lenT (by k_asm) (by k_mem) (by first | exact ints_size (by with_reducible assumption) | exact strs_size (by with_reducible assumption) | exact rfl) (by first | omega | decide | exact Nat.lt_of_succ_le (Nat.le_of_ble_eq_true rfl)) ?_; k_whole)); (try dsimp only)))) | (with_reducible (((fail_if_success (fail_if_success (with_reducible refine' gd9 (t := call (Value.builtin "str.upper") [Value.str _ _]) ?_))); (refine SCL.upper (by ((try dsimp only); first | with_reducible assumption | omega | (simp only [Str.length_append]; omega) | fail "slen")) ?_); intro _; (try dsimp only)))) | (with_reducible (((fail_if_success (fail_if_success (with_reducible refine' gd9 (t := call (Value.ref 90) _) ?_))); k_dflt (refine' less_c (by k_asm) (by k_asm) (by k_asm) (by k_asm) (by k_asm) (by first | rfl | assumption) (by ktr_room) (by ktr_units) (by with_reducible assumption) (by with_reducible assumption) (by walk_at "sub") (by with_reducible assumption) (by with_reducible assumption) ?_); intro _ _ _ _; (try dsimp only); (try k_fold)))) | (with_reducible (((fail_if_success (fail_if_success (with_reducible refine' gd9 (t := call (Value.ref 76) _) ?_))); k_dflt (refine' equal_c (by k_asm) (by k_asm) (by k_asm) (by k_asm) (by k_asm) (by first | rfl | assumption) (by ktr_room) (by ktr_units) (by with_reducible assumption) (by with_reducible assumption) (by walk_at "sub") ?_); intro _ _ _ _; (try dsimp only); (try k_fold)))) | (with_reducible (((fail_if_success (fail_if_success (with_reducible refine' gd9 (t := call (Value.ref 100) _) ?_))); k_dflt (refine' ws_c (by k_asm) (by k_asm) (by k_asm) (by k_asm) (by k_asm) (by first | rfl | assumption) (by ktr_room) (by ktr_units) (by ((try dsimp only); first | with_reducible assumption | omega | (simp only [Str.length_append]; omega) | fail "slen")) ?_); intro _ _ _ _ _ _ _ _; (try dsimp only); (try k_fold)))) | (with_reducible (((fail_if_success (fail_if_success (with_reducible refine' gd9 (t := call (Value.ref 332) _) ?_))); k_dflt (refine' leads_c (by k_asm) (by k_asm) (by k_asm) (by k_asm) (by k_asm) (by first | rfl | assumption) (by ktr_room) (by ktr_units) (by k_mem) (by with_reducible assumption) (by with_reducible assumption) (by with_reducible assumption) (by with_reducible assumption) ?_); intro _ _ _ _ _ _ _ _; (try dsimp only); (try k_fold)))) | (with_reducible (((fail_if_success (fail_if_success (with_reducible refine' gd9 (t := call (Value.ref 320) _) ?_))); k_dflt (refine' named_c (by k_asm) (by k_asm) (by k_asm) (by k_asm) (by k_asm) (by first | rfl | assumption) (by ktr_room) (by ktr_units) (by k_mem) (by with_reducible assumption) (by with_reducible assumption) (by with_reducible assumption) ?_); intro _ _ _ _ _; (try dsimp only); (try k_fold)))) | (with_reducible (((fail_if_success (fail_if_success (with_reducible refine' gd9 (t := call (Value.ref 241) _) ?_))); k_dflt (refine' getall_c (by k_asm) (by k_asm) (by k_asm) (by k_asm) (by k_asm) (by first | rfl | assumption) (by ktr_room) (by ktr_units) (by with_reducible assumption) (by first | with_reducible assumption | walk_at "sub") (by with_reducible assumption) (by with_reducible assumption) (by with_reducible assumption) (by with_reducible assumption) (by with_reducible assumption) ?_); intro _ _ _ _ _ _ _ _; (try dsimp only); (try k_fold)))) )) | (with_reducible (((fail_if_success (fail_if_success (with_reducible refine' gd9 (t := compareOp CmpOp.NotEq (Value.ref _) (Value.ref _)) ?_))); k_dflt (refine ne_dataH (by ked_read) (by ked_read) (by ked_shaped) (by ked_shaped) (by ktr_units) ?_); ked_norm))) | (with_reducible ((first | ((fail_if_success (fail_if_success (with_reducible refine' gd9 (t := exec (Stmt.Assign _ (Expr.ListComp _ [⟨_, _, [], _⟩] _ _) _) _) ?_))); k_dflt (refine comp_assign (F₀ := by k_asm) (by rfl) (by with_unfolding_all rfl) (by with_unfolding_all rfl) (by decide) (by rfl) (by decide) (by rfl) (by rfl) (by rfl) ?_)) | ((fail_if_success (fail_if_success (with_reducible refine' gd9 (t := exec (Stmt.Assign _ (Expr.ListComp _ [⟨_, _, [_], _⟩] _ _) _) _) ?_))); k_dflt (refine compT_assign (F₀ := by k_asm) (by rfl) (by with_unfolding_all rfl) (by with_unfolding_all rfl) (by decide) (by rfl) (by decide) (by rfl) (by rfl) (by rfl) ?_))))) | (with_reducible ((first | ((fail_if_success (fail_if_success (with_reducible refine' gd9 (t := subscriptTail _ _ (Value.ref _) (Value.int 0 _)) ?_))); k_dflt (refine' lst_at0 (by k_asm) (by k_mem) ?_)) | ((fail_if_success (fail_if_success (with_reducible refine' gd9 (t := subscriptTail _ _ (Value.ref _) (Value.int 1 _)) ?_))); k_dflt (refine' lst_at1 (by k_asm) (by k_mem) ?_)) | ((fail_if_success (fail_if_success (with_reducible refine' gd9 (t := subscriptTail _ _ (Value.ref _) (Value.int 2 _)) ?_))); k_dflt (refine' lst_at2 (by k_asm) (by k_mem) ?_)) | ((fail_if_success (fail_if_success (with_reducible refine' gd9 (t := subscriptTail _ _ (Value.ref _) (Value.int 3 _)) ?_))); k_dflt (refine' lst_at3 (by k_asm) (by k_mem) ?_))))) )) | walk1) | ((with_reducible show wpAny _ _ _ _ _ _); dsimp only) | (leave1; walk_say "STEP leave1"; try dsimp only) | fail "no step"))
    rename_i r9 ys8 h8 tk8 hys8 hr8 F8 N8
    rw [hga] at hys8
    have hyl8 := StrsAre.length hys8
    have hll8 : ∀ y ∈ [g1, g2], y.length ≤ 100 := by
      intro y hy; rcases List.mem_cons.mp hy with rfl | hy
      · exact hg1
      · rw [List.mem_singleton.mp hy]; exact hg2
    clear F9
    k_dflt (refine CSrc.of (iter_list rfl N8 List.mem_cons_self) F8 N8 List.mem_cons_self (by simp only [List.size_toArray]; rw [hyl8]; exact Nat.le_of_ble_eq_true rfl) fun _ => rest_inv (K := Array.size _) (fun c zs nw => WsAre w _ zs (([g1, g2]).take c) nw) ?step2 ?fin2 _ _ _ _ (Nat.zero_add _) .nil)
    case step2 =>
      rintro c v I oI C oC D zs nw m₂ h tq Q' E' hc hv hJ hC hx F9 N9 off ne hQ
      obtain ⟨y, ty, rfl, hy⟩ := StrsAre.item hys8 c v (by simpa using hv)
      have hyl' := hll8 y (List.mem_of_getElem? hy)
      (repeat' (first | (k_unfold; (try dsimp only)) | (k_end; wrow_close) | (first | (with_reducible ((first | ((fail_if_success (fail_if_success (with_reducible refine' gd9 (t := eval (Expr.ListComp _ [⟨_, _, [], _⟩] _ _) _) ?_))); k_dflt (refine comp_eval (F₀ := by k_asm) (by with_unfolding_all rfl) (by decide) (by rfl) (by decide) (by rfl) ?_)) | ((fail_if_success (fail_if_success (with_reducible refine' gd9 (t := eval (Expr.ListComp _ [⟨_, _, [_], _⟩] _ _) _) ?_))); k_dflt (refine compT_eval (F₀ := by k_asm) (by with_unfolding_all rfl) (by decide) (by rfl) (by decide) (by rfl) ?_))))) | ((fail_if_success (with_reducible refine' gd9 (t := eval _ _) ?_)); (first | (with_reducible (((fail_if_success (fail_if_success (with_reducible refine' gd9 (t := execs (_ :: _) _) ?_))); first | k_gentoks | ((with_reducible refine wpAny_execs_cons ?_); (try dsimp only); k_fold)))) | ((fail_if_success (fail_if_success (with_reducible refine' gd9 (t := call _ _ _) ?_))); (first | (with_reducible (((fail_if_success (fail_if_success (with_reducible refine' gd9 (t := call (Value.builtin "len") [Value.ref _]) ?_))); k_dflt (first | (refine' lenL (by k_asm) (by k_mem) (by first | exact ints_size (by with_reducible assumption) | exact strs_size (by with_reducible assumption) | exact rfl) (by first | omega | decide | exact Nat.lt_of_succ_le (Nat.le_of_ble_eq_true rfl)) ?_; k_whole) | (refine' lenT (by k_asm) (by k_mem) (by first | exact ints_size (by with_reducible assumption) | exact strs_size (by with_reducible assumption) | exact rfl) (by first | omega | decide | exact Nat.lt_of_succ_le (Nat.le_of_ble_eq_true rfl)) ?_; k_whole)); (try dsimp only)))) | (with_reducible (((fail_if_success (fail_if_success (with_reducible refine' gd9 (t := call (Value.builtin "str.upper") [Value.str _ _]) ?_))); (refine SCL.upper (by ((try dsimp only); first | with_reducible assumption | omega | (simp only [Str.length_append]; omega) | fail "slen")) ?_); intro _; (try dsimp only)))) | (with_reducible (((fail_if_success (fail_if_success (with_reducible refine' gd9 (t := call (Value.ref 90) _) ?_))); k_dflt (refine' less_c (by k_asm) (by k_asm) (by k_asm) (by k_asm) (by k_asm) (by first | rfl | assumption) (by ktr_room) (by ktr_units) (by with_reducible assumption) (by with_reducible assumption) (by walk_at "sub") (by with_reducible assumption) (by with_reducible assumption) ?_); intro _ _ _ _; (try dsimp only); (try k_fold)))) | (with_reducible (((fail_if_success (fail_if_success (with_reducible refine' gd9 (t := call (Value.ref 76) _) ?_))); k_dflt (refine' equal_c (by k_asm) (by k_asm) (by k_asm) (by k_asm) (by k_asm) (by first | rfl | assumption) (by ktr_room) (by ktr_units) (by with_reducible assumption) (by with_reducible assumption) (by walk_at "sub") ?_); intro _ _ _ _; (try dsimp only); (try k_fold)))) | (with_reducible (((fail_if_success (fail_if_success (with_reducible refine' gd9 (t := call (Value.ref 100) _) ?_))); k_dflt (refine' ws_c (by k_asm) (by k_asm) (by k_asm) (by k_asm) (by k_asm) (by first | rfl | assumption) (by ktr_room) (by ktr_units) (by ((try dsimp only); first | with_reducible assumption | omega | (simp only [Str.length_append]; omega) | fail "slen")) ?_); intro _ _ _ _ _ _ _ _; (try dsimp only); (try k_fold)))) | (with_reducible (((fail_if_success (fail_if_success (with_reducible refine' gd9 (t := call (Value.ref 332) _) ?_))); k_dflt (refine' leads_c (by k_asm) (by k_asm) (by k_asm) (by k_asm) (by k_asm) (by first | rfl | assumption) (by ktr_room) (by ktr_units) (by k_mem) (by with_reducible assumption) (by with_reducible assumption) (by with_reducible assumption) (by with_reducible assumption) ?_); intro _ _ _ _ _ _ _ _; (try dsimp only); (try k_fold)))) | (with_reducible (((fail_if_success (fail_if_success (with_reducible refine' gd9 (t := call (Value.ref 320) _) ?_))); k_dflt (refine' named_c (by k_asm) (by k_asm) (by k_asm) (by k_asm) (by k_asm) (by first | rfl | assumption) (by ktr_room) (by ktr_units) (by k_mem) (by with_reducible assumption) (by with_reducible assumption) (by with_reducible assumption) ?_); intro _ _ _ _ _; (try dsimp only); (try k_fold)))) | (with_reducible (((fail_if_success (fail_if_success (with_reducible refine' gd9 (t := call (Value.ref 241) _) ?_))); k_dflt (refine' getall_c (by k_asm) (by k_asm) (by k_asm) (by k_asm) (by k_asm) (by first | rfl | assumption) (by ktr_room) (by ktr_units) (by with_reducible assumption) (by first | with_reducible assumption | walk_at "sub") (by with_reducible assumption) (by with_reducible assumption) (by with_reducible assumption) (by with_reducible assumption) (by with_reducible assumption) ?_); intro _ _ _ _ _ _ _ _; (try dsimp only); (try k_fold)))) )) | (with_reducible (((fail_if_success (fail_if_success (with_reducible refine' gd9 (t := compareOp CmpOp.NotEq (Value.ref _) (Value.ref _)) ?_))); k_dflt (refine ne_dataH (by ked_read) (by ked_read) (by ked_shaped) (by ked_shaped) (by ktr_units) ?_); ked_norm))) | (with_reducible ((first | ((fail_if_success (fail_if_success (with_reducible refine' gd9 (t := exec (Stmt.Assign _ (Expr.ListComp _ [⟨_, _, [], _⟩] _ _) _) _) ?_))); k_dflt (refine comp_assign (F₀ := by k_asm) (by rfl) (by with_unfolding_all rfl) (by with_unfolding_all rfl) (by decide) (by rfl) (by decide) (by rfl) (by rfl) (by rfl) ?_)) | ((fail_if_success (fail_if_success (with_reducible refine' gd9 (t := exec (Stmt.Assign _ (Expr.ListComp _ [⟨_, _, [_], _⟩] _ _) _) _) ?_))); k_dflt (refine compT_assign (F₀ := by k_asm) (by rfl) (by with_unfolding_all rfl) (by with_unfolding_all rfl) (by decide) (by rfl) (by decide) (by rfl) (by rfl) (by rfl) ?_))))) | (with_reducible ((first | ((fail_if_success (fail_if_success (with_reducible refine' gd9 (t := subscriptTail _ _ (Value.ref _) (Value.int 0 _)) ?_))); k_dflt (refine' lst_at0 (by k_asm) (by k_mem) ?_)) | ((fail_if_success (fail_if_success (with_reducible refine' gd9 (t := subscriptTail _ _ (Value.ref _) (Value.int 1 _)) ?_))); k_dflt (refine' lst_at1 (by k_asm) (by k_mem) ?_)) | ((fail_if_success (fail_if_success (with_reducible refine' gd9 (t := subscriptTail _ _ (Value.ref _) (Value.int 2 _)) ?_))); k_dflt (refine' lst_at2 (by k_asm) (by k_mem) ?_)) | ((fail_if_success (fail_if_success (with_reducible refine' gd9 (t := subscriptTail _ _ (Value.ref _) (Value.int 3 _)) ?_))); k_dflt (refine' lst_at3 (by k_asm) (by k_mem) ?_))))) )) | walk1) | ((with_reducible show wpAny _ _ _ _ _ _); dsimp only) | (leave1; walk_say "STEP leave1"; try dsimp only) | fail "no step"))
      rename_i x10 own10 h10 tk10 hw10 hf10 F10 N10
      refine hQ _ _ _ _ (by k_asm) (cb_drop N10 sub_mid) (off3_new hf10 off) (List.mem_append_right _ (hJ.sub _ List.mem_cons_self)) ?_
      rw [List.take_add_one, hy]
      exact .snoc hJ hw10 fun q hq => hf10 q (List.mem_cons_of_mem _ (List.mem_cons_of_mem _ (List.mem_cons_of_mem _ hq)))
    case fin2 =>
      rintro zs nw hJ D' h tq F9 N9 o1
      rw [List.take_of_length_le (by simp only [List.size_toArray]; rw [hyl8]; exact Nat.le_refl _)] at hJ
      obtain ⟨b1, b2, own3, own4, rest3, hw3, hw4, N3, hoff3, hr3, hD', hs3, hs4, rfl⟩ := two_ws hJ N9 o1 (List.mem_cons_of_mem _ List.mem_cons_self) (fun p hp => List.mem_cons_of_mem _ (List.mem_cons_of_mem _ hp)) hoff2
      replace hD := hr3 _ hD
      have hs1' := fun p hp => hr3 p (hs1 p hp)
      have hs2' := fun p hp => hr3 p (hs2 p hp)
      replace hp := hr3 _ hp
      replace hx1 := hr3 _ hx1
      replace hx2 := hr3 _ hx2
      clear N9 hJ o1 N8 N2 F8 hs1 hs2
      obtain ⟨led, N4, hl4, hD4, hD4', hp4, i13, i24, hsub4⟩ : ∃ led, News g L1 h led ∧ (l, listOf ps.toArray c) ∈ led ∧ (D, LCg.lst [.ref a1, .ref a2]) ∈ led ∧ (D', LCg.lst [.ref b1, .ref b2]) ∈ led ∧ (p, tup3 i j k ti tj tl n) ∈ led ∧ (∀ q ∈ own1 ++ own3, q ∈ led) ∧ (∀ q ∈ own2 ++ own4, q ∈ led) ∧ (∀ q ∈ rest, q ∈ led) :=
        ⟨_, N3, List.mem_cons_self, List.mem_cons_of_mem _ hD, List.mem_cons_of_mem _ hD', List.mem_cons_of_mem _ hp, fun q hq => List.mem_cons_of_mem _ ((List.mem_append.mp hq).elim (hs1' q) (hs3 q)), fun q hq => List.mem_cons_of_mem _ ((List.mem_append.mp hq).elim (hs2' q) (hs4 q)), fun q hq => List.mem_cons_of_mem _ (hr3 _ (hr2 _ hq))⟩
      have ok1 := ws_ok hl1
      have ok2 := ws_ok hl2
      have ok3 := ws_ok hg1
      have ok4 := ws_ok hg2
      obtain ⟨dx1, d11, u0, u1, u2, u3, u4, u5, u6, u7, me1, md1⟩ := hw1.facts (led := led) fun q hq => i13 _ (List.mem_append_left _ hq)
      obtain ⟨dx2, d21, v0, v1, v2, v3, v4, v5, v6, v7, me2, md2⟩ := hw2.facts (led := led) fun q hq => i24 _ (List.mem_append_left _ hq)
      clear N3 hD hD' hp hx1 hx2 hs1' hs2' hs3 hs4
      (try dsimp only)
      (repeat' (first | (k_unfold; (try dsimp only)) | (k_end; wrow_close) | (first | (with_reducible ((first | ((fail_if_success (fail_if_success (with_reducible refine' gd9 (t := eval (Expr.ListComp _ [⟨_, _, [], _⟩] _ _) _) ?_))); k_dflt (refine comp_eval (F₀ := by k_asm) (by with_unfolding_all rfl) (by decide) (by rfl) (by decide) (by rfl) ?_)) | ((fail_if_success (fail_if_success (with_reducible refine' gd9 (t := eval (Expr.ListComp _ [⟨_, _, [_], _⟩] _ _) _) ?_))); k_dflt (refine compT_eval (F₀ := by k_asm) (by with_unfolding_all rfl) (by decide) (by rfl) (by decide) (by rfl) ?_))))) | ((fail_if_success (with_reducible refine' gd9 (t := eval _ _) ?_)); (first | (with_reducible (((fail_if_success (fail_if_success (with_reducible refine' gd9 (t := execs (_ :: _) _) ?_))); first | k_gentoks | ((with_reducible refine wpAny_execs_cons ?_); (try dsimp only); k_fold)))) | ((fail_if_success (fail_if_success (with_reducible refine' gd9 (t := call _ _ _) ?_))); (first | (with_reducible (((fail_if_success (fail_if_success (with_reducible refine' gd9 (t := call (Value.builtin "len") [Value.ref _]) ?_))); k_dflt (first | (refine' lenL (by k_asm) (by k_mem) (by first | exact ints_size (by with_reducible assumption) | exact strs_size (by with_reducible assumption) | exact rfl) (by first | omega | decide | exact Nat.lt_of_succ_le (Nat.le_of_ble_eq_true rfl)) ?_; k_whole) | (refine' lenT (by k_asm) (by k_mem) (by first | exact ints_size (by with_reducible assumption) | exact strs_size (by with_reducible assumption) | exact rfl) (by first | omega | decide | exact Nat.lt_of_succ_le (Nat.le_of_ble_eq_true rfl)) ?_; k_whole)); (try dsimp only)))) | (with_reducible (((fail_if_success (fail_if_success (with_reducible refine' gd9 (t := call (Value.builtin "str.upper") [Value.str _ _]) ?_))); (refine SCL.upper (by ((try dsimp only); first | with_reducible assumption | omega | (simp only [Str.length_append]; omega) | fail "slen")) ?_); intro _; (try dsimp only)))) | (with_reducible (((fail_if_success (fail_if_success (with_reducible refine' gd9 (t := call (Value.ref 90) _) ?_))); k_dflt (refine' less_c (by k_asm) (by k_asm) (by k_asm) (by k_asm) (by k_asm) (by first | rfl | assumption) (by ktr_room) (by ktr_units) (by with_reducible assumption) (by with_reducible assumption) (by walk_at "sub") (by with_reducible assumption) (by with_reducible assumption) ?_); intro _ _ _ _; (try dsimp only); (try k_fold)))) | (with_reducible (((fail_if_success (fail_if_success (with_reducible refine' gd9 (t := call (Value.ref 76) _) ?_))); k_dflt (refine' equal_c (by k_asm) (by k_asm) (by k_asm) (by k_asm) (by k_asm) (by first | rfl | assumption) (by ktr_room) (by ktr_units) (by with_reducible assumption) (by with_reducible assumption) (by walk_at "sub") ?_); intro _ _ _ _; (try dsimp only); (try k_fold)))) | (with_reducible (((fail_if_success (fail_if_success (with_reducible refine' gd9 (t := call (Value.ref 100) _) ?_))); k_dflt (refine' ws_c (by k_asm) (by k_asm) (by k_asm) (by k_asm) (by k_asm) (by first | rfl | assumption) (by ktr_room) (by ktr_units) (by ((try dsimp only); first | with_reducible assumption | omega | (simp only [Str.length_append]; omega) | fail "slen")) ?_); intro _ _ _ _ _ _ _ _; (try dsimp only); (try k_fold)))) | (with_reducible (((fail_if_success (fail_if_success (with_reducible refine' gd9 (t := call (Value.ref 332) _) ?_))); k_dflt (refine' leads_c (by k_asm) (by k_asm) (by k_asm) (by k_asm) (by k_asm) (by first | rfl | assumption) (by ktr_room) (by ktr_units) (by k_mem) (by with_reducible assumption) (by with_reducible assumption) (by with_reducible assumption) (by with_reducible assumption) ?_); intro _ _ _ _ _ _ _ _; (try dsimp only); (try k_fold)))) | (with_reducible (((fail_if_success (fail_if_success (with_reducible refine' gd9 (t := call (Value.ref 320) _) ?_))); k_dflt (refine' named_c (by k_asm) (by k_asm) (by k_asm) (by k_asm) (by k_asm) (by first | rfl | assumption) (by ktr_room) (by ktr_units) (by k_mem) (by with_reducible assumption) (by with_reducible assumption) (by with_reducible assumption) ?_); intro _ _ _ _ _; (try dsimp only); (try k_fold)))) | (with_reducible (((fail_if_success (fail_if_success (with_reducible refine' gd9 (t := call (Value.ref 241) _) ?_))); k_dflt (refine' getall_c (by k_asm) (by k_asm) (by k_asm) (by k_asm) (by k_asm) (by first | rfl | assumption) (by ktr_room) (by ktr_units) (by with_reducible assumption) (by first | with_reducible assumption | walk_at "sub") (by with_reducible assumption) (by with_reducible assumption) (by with_reducible assumption) (by with_reducible assumption) (by with_reducible assumption) ?_); intro _ _ _ _ _ _ _ _; (try dsimp only); (try k_fold)))) )) | (with_reducible (((fail_if_success (fail_if_success (with_reducible refine' gd9 (t := compareOp CmpOp.NotEq (Value.ref _) (Value.ref _)) ?_))); k_dflt (refine ne_dataH (by ked_read) (by ked_read) (by ked_shaped) (by ked_shaped) (by ktr_units) ?_); ked_norm))) | (with_reducible ((first | ((fail_if_success (fail_if_success (with_reducible refine' gd9 (t := exec (Stmt.Assign _ (Expr.ListComp _ [⟨_, _, [], _⟩] _ _) _) _) ?_))); k_dflt (refine comp_assign (F₀ := by k_asm) (by rfl) (by with_unfolding_all rfl) (by with_unfolding_all rfl) (by decide) (by rfl) (by decide) (by rfl) (by rfl) (by rfl) ?_)) | ((fail_if_success (fail_if_success (with_reducible refine' gd9 (t := exec (Stmt.Assign _ (Expr.ListComp _ [⟨_, _, [_], _⟩] _ _) _) _) ?_))); k_dflt (refine compT_assign (F₀ := by k_asm) (by rfl) (by with_unfolding_all rfl) (by with_unfolding_all rfl) (by decide) (by rfl) (by decide) (by rfl) (by rfl) (by rfl) ?_))))) | (with_reducible ((first | ((fail_if_success (fail_if_success (with_reducible refine' gd9 (t := subscriptTail _ _ (Value.ref _) (Value.int 0 _)) ?_))); k_dflt (refine' lst_at0 (by k_asm) (by k_mem) ?_)) | ((fail_if_success (fail_if_success (with_reducible refine' gd9 (t := subscriptTail _ _ (Value.ref _) (Value.int 1 _)) ?_))); k_dflt (refine' lst_at1 (by k_asm) (by k_mem) ?_)) | ((fail_if_success (fail_if_success (with_reducible refine' gd9 (t := subscriptTail _ _ (Value.ref _) (Value.int 2 _)) ?_))); k_dflt (refine' lst_at2 (by k_asm) (by k_mem) ?_)) | ((fail_if_success (fail_if_success (with_reducible refine' gd9 (t := subscriptTail _ _ (Value.ref _) (Value.int 3 _)) ?_))); k_dflt (refine' lst_at3 (by k_asm) (by k_mem) ?_))))) )) | walk1) | ((with_reducible show wpAny _ _ _ _ _ _); dsimp only) | (leave1; walk_say "STEP leave1"; try dsimp only) | fail "no step"))
      case _ => exact absurd rfl (by assumption)
      rename_i T9 h9 l19 h8 F8 N8
      k_dflt (refine CSrcT.of (iter_list rfl N8 List.mem_cons_self) F8 N8 List.mem_cons_self (by simp only [List.size_toArray]; exact Nat.le_of_ble_eq_true rfl) fun _ => restT_inv (K := Array.size _) (fun c ys nw => nw = _ ∧ ys = []) ?step3 ?fin3 _ _ _ _ (Nat.zero_add _) ⟨rfl, rfl⟩)
      case step3 =>
        rintro c v I oI C oC D ys nw m₂ h tq Q' Q₀ E' hc hv ⟨rfl, rfl⟩ hC hx F9 N9 off ne hQ hQ0
        obtain ⟨bb, rfl⟩ : ∃ bb, v = .bool bb := by
          rcases c with _ | _ | _ | _ | c
          · cases hv; exact ⟨_, rfl⟩
          · cases hv; exact ⟨_, rfl⟩
          · cases hv; exact ⟨_, rfl⟩
          · cases hv; exact ⟨_, rfl⟩
          · cases hv
        (repeat' (first | (k_unfold; (try dsimp only)) | (k_end; wrow_close) | (first | (with_reducible ((first | ((fail_if_success (fail_if_success (with_reducible refine' gd9 (t := eval (Expr.ListComp _ [⟨_, _, [], _⟩] _ _) _) ?_))); k_dflt (refine comp_eval (F₀ := by k_asm) (by with_unfolding_all rfl) (by decide) (by rfl) (by decide) (by rfl) ?_)) | ((fail_if_success (fail_if_success (with_reducible refine' gd9 (t := eval (Expr.ListComp _ [⟨_, _, [_], _⟩] _ _) _) ?_))); k_dflt (refine compT_eval (F₀ := by k_asm) (by with_unfolding_all rfl) (by decide) (by rfl) (by decide) (by rfl) ?_))))) | ((fail_if_success (with_reducible refine' gd9 (t := eval _ _) ?_)); (first | (with_reducible (((fail_if_success (fail_if_success (with_reducible refine' gd9 (t := execs (_ :: _) _) ?_))); first | k_gentoks | ((with_reducible refine wpAny_execs_cons ?_); (try dsimp only); k_fold)))) | ((fail_if_success (fail_if_success (with_reducible refine' gd9 (t := call _ _ _) ?_))); (first | (with_reducible (((fail_if_success (fail_if_success (with_reducible refine' gd9 (t := call (Value.builtin "len") [Value.ref _]) ?_))); k_dflt (first | (refine' lenL (by k_asm) (by k_mem) (by first | exact ints_size (by with_reducible assumption) | exact strs_size (by with_reducible assumption) | exact rfl) (by first | omega | decide | exact Nat.lt_of_succ_le (Nat.le_of_ble_eq_true rfl)) ?_; k_whole) | (refine' lenT (by k_asm) (by k_mem) (by first | exact ints_size (by with_reducible assumption) | exact strs_size (by with_reducible assumption) | exact rfl) (by first | omega | decide | exact Nat.lt_of_succ_le (Nat.le_of_ble_eq_true rfl)) ?_; k_whole)); (try dsimp only)))) | (with_reducible (((fail_if_success (fail_if_success (with_reducible refine' gd9 (t := call (Value.builtin "str.upper") [Value.str _ _]) ?_))); (refine SCL.upper (by ((try dsimp only); first | with_reducible assumption | omega | (simp only [Str.length_append]; omega) | fail "slen")) ?_); intro _; (try dsimp only)))) | (with_reducible (((fail_if_success (fail_if_success (with_reducible refine' gd9 (t := call (Value.ref 90) _) ?_))); k_dflt (refine' less_c (by k_asm) (by k_asm) (by k_asm) (by k_asm) (by k_asm) (by first | rfl | assumption) (by ktr_room) (by ktr_units) (by with_reducible assumption) (by with_reducible assumption) (by walk_at "sub") (by with_reducible assumption) (by with_reducible assumption) ?_); intro _ _ _ _; (try dsimp only); (try k_fold)))) | (with_reducible (((fail_if_success (fail_if_success (with_reducible refine' gd9 (t := call (Value.ref 76) _) ?_))); k_dflt (refine' equal_c (by k_asm) (by k_asm) (by k_asm) (by k_asm) (by k_asm) (by first | rfl | assumption) (by ktr_room) (by ktr_units) (by with_reducible assumption) (by with_reducible assumption) (by walk_at "sub") ?_); intro _ _ _ _; (try dsimp only); (try k_fold)))) | (with_reducible (((fail_if_success (fail_if_success (with_reducible refine' gd9 (t := call (Value.ref 100) _) ?_))); k_dflt (refine' ws_c (by k_asm) (by k_asm) (by k_asm) (by k_asm) (by k_asm) (by first | rfl | assumption) (by ktr_room) (by ktr_units) (by ((try dsimp only); first | with_reducible assumption | omega | (simp only [Str.length_append]; omega) | fail "slen")) ?_); intro _ _ _ _ _ _ _ _; (try dsimp only); (try k_fold)))) | (with_reducible (((fail_if_success (fail_if_success (with_reducible refine' gd9 (t := call (Value.ref 332) _) ?_))); k_dflt (refine' leads_c (by k_asm) (by k_asm) (by k_asm) (by k_asm) (by k_asm) (by first | rfl | assumption) (by ktr_room) (by ktr_units) (by k_mem) (by with_reducible assumption) (by with_reducible assumption) (by with_reducible assumption) (by with_reducible assumption) ?_); intro _ _ _ _ _ _ _ _; (try dsimp only); (try k_fold)))) | (with_reducible (((fail_if_success (fail_if_success (with_reducible refine' gd9 (t := call (Value.ref 320) _) ?_))); k_dflt (refine' named_c (by k_asm) (by k_asm) (by k_asm) (by k_asm) (by k_asm) (by first | rfl | assumption) (by ktr_room) (by ktr_units) (by k_mem) (by with_reducible assumption) (by with_reducible assumption) (by with_reducible assumption) ?_); intro _ _ _ _ _; (try dsimp only); (try k_fold)))) | (with_reducible (((fail_if_success (fail_if_success (with_reducible refine' gd9 (t := call (Value.ref 241) _) ?_))); k_dflt (refine' getall_c (by k_asm) (by k_asm) (by k_asm) (by k_asm) (by k_asm) (by first | rfl | assumption) (by ktr_room) (by ktr_units) (by with_reducible assumption) (by first | with_reducible assumption | walk_at "sub") (by with_reducible assumption) (by with_reducible assumption) (by with_reducible assumption) (by with_reducible assumption) (by with_reducible assumption) ?_); intro _ _ _ _ _ _ _ _; (try dsimp only); (try k_fold)))) )) | (with_reducible (((fail_if_success (fail_if_success (with_reducible refine' gd9 (t := compareOp CmpOp.NotEq (Value.ref _) (Value.ref _)) ?_))); k_dflt (refine ne_dataH (by ked_read) (by ked_read) (by ked_shaped) (by ked_shaped) (by ktr_units) ?_); ked_norm))) | (with_reducible ((first | ((fail_if_success (fail_if_success (with_reducible refine' gd9 (t := exec (Stmt.Assign _ (Expr.ListComp _ [⟨_, _, [], _⟩] _ _) _) _) ?_))); k_dflt (refine comp_assign (F₀ := by k_asm) (by rfl) (by with_unfolding_all rfl) (by with_unfolding_all rfl) (by decide) (by rfl) (by decide) (by rfl) (by rfl) (by rfl) ?_)) | ((fail_if_success (fail_if_success (with_reducible refine' gd9 (t := exec (Stmt.Assign _ (Expr.ListComp _ [⟨_, _, [_], _⟩] _ _) _) _) ?_))); k_dflt (refine compT_assign (F₀ := by k_asm) (by rfl) (by with_unfolding_all rfl) (by with_unfolding_all rfl) (by decide) (by rfl) (by decide) (by rfl) (by rfl) (by rfl) ?_))))) | (with_reducible ((first | ((fail_if_success (fail_if_success (with_reducible refine' gd9 (t := subscriptTail _ _ (Value.ref _) (Value.int 0 _)) ?_))); k_dflt (refine' lst_at0 (by k_asm) (by k_mem) ?_)) | ((fail_if_success (fail_if_success (with_reducible refine' gd9 (t := subscriptTail _ _ (Value.ref _) (Value.int 1 _)) ?_))); k_dflt (refine' lst_at1 (by k_asm) (by k_mem) ?_)) | ((fail_if_success (fail_if_success (with_reducible refine' gd9 (t := subscriptTail _ _ (Value.ref _) (Value.int 2 _)) ?_))); k_dflt (refine' lst_at2 (by k_asm) (by k_mem) ?_)) | ((fail_if_success (fail_if_success (with_reducible refine' gd9 (t := subscriptTail _ _ (Value.ref _) (Value.int 3 _)) ?_))); k_dflt (refine' lst_at3 (by k_asm) (by k_mem) ?_))))) )) | walk1) | ((with_reducible show wpAny _ _ _ _ _ _); dsimp only) | (leave1; walk_say "STEP leave1"; try dsimp only) | fail "no step"))
        case _ => exact bb_no (by with_reducible assumption) (by with_reducible assumption)
        all_goals exact hQ0 _ _ _ (by k_asm) (by k_asm) off List.mem_cons_self ⟨rfl, rfl⟩
      case fin3 =>
        rintro ys nw ⟨rfl, rfl⟩ D h tq F9 N9 o1
        (try dsimp only)
        have hback : ∀ q ∈ (l, listOf ps.toArray c) :: rest, q ∈ led := List.forall_mem_cons.mpr ⟨hl4, hsub4⟩
        (repeat' (first | (k_unfold; (try dsimp only)) | (k_end; wrow_close) | (first | (with_reducible ((first | ((fail_if_success (fail_if_success (with_reducible refine' gd9 (t := eval (Expr.ListComp _ [⟨_, _, [], _⟩] _ _) _) ?_))); k_dflt (refine comp_eval (F₀ := by k_asm) (by with_unfolding_all rfl) (by decide) (by rfl) (by decide) (by rfl) ?_)) | ((fail_if_success (fail_if_success (with_reducible refine' gd9 (t := eval (Expr.ListComp _ [⟨_, _, [_], _⟩] _ _) _) ?_))); k_dflt (refine compT_eval (F₀ := by k_asm) (by with_unfolding_all rfl) (by decide) (by rfl) (by decide) (by rfl) ?_))))) | ((fail_if_success (with_reducible refine' gd9 (t := eval _ _) ?_)); (first | (with_reducible (((fail_if_success (fail_if_success (with_reducible refine' gd9 (t := execs (_ :: _) _) ?_))); first | k_gentoks | ((with_reducible refine wpAny_execs_cons ?_); (try dsimp only); k_fold)))) | ((fail_if_success (fail_if_success (with_reducible refine' gd9 (t := call _ _ _) ?_))); (first | (with_reducible (((fail_if_success (fail_if_success (with_reducible refine' gd9 (t := call (Value.builtin "len") [Value.ref _]) ?_))); k_dflt (first | (refine' lenL (by k_asm) (by k_mem) (by first | exact ints_size (by with_reducible assumption) | exact strs_size (by with_reducible assumption) | exact rfl) (by first | omega | decide | exact Nat.lt_of_succ_le (Nat.le_of_ble_eq_true rfl)) ?_; k_whole) | (refine' lenT (by k_asm) (by k_mem) (by first | exact ints_size (by with_reducible assumption) | exact strs_size (by with_reducible assumption) | exact rfl) (by first | omega | decide | exact Nat.lt_of_succ_le (Nat.le_of_ble_eq_true rfl)) ?_; k_whole)); (try dsimp only)))) | (with_reducible (((fail_if_success (fail_if_success (with_reducible refine' gd9 (t := call (Value.builtin "str.upper") [Value.str _ _]) ?_))); (refine SCL.upper (by ((try dsimp only); first | with_reducible assumption | omega | (simp only [Str.length_append]; omega) | fail "slen")) ?_); intro _; (try dsimp only)))) | (with_reducible (((fail_if_success (fail_if_success (with_reducible refine' gd9 (t := call (Value.ref 90) _) ?_))); k_dflt (refine' less_c (by k_asm) (by k_asm) (by k_asm) (by k_asm) (by k_asm) (by first | rfl | assumption) (by ktr_room) (by ktr_units) (by with_reducible assumption) (by with_reducible assumption) (by walk_at "sub") (by with_reducible assumption) (by with_reducible assumption) ?_); intro _ _ _ _; (try dsimp only); (try k_fold)))) | (with_reducible (((fail_if_success (fail_if_success (with_reducible refine' gd9 (t := call (Value.ref 76) _) ?_))); k_dflt (refine' equal_c (by k_asm) (by k_asm) (by k_asm) (by k_asm) (by k_asm) (by first | rfl | assumption) (by ktr_room) (by ktr_units) (by with_reducible assumption) (by with_reducible assumption) (by walk_at "sub") ?_); intro _ _ _ _; (try dsimp only); (try k_fold)))) | (with_reducible (((fail_if_success (fail_if_success (with_reducible refine' gd9 (t := call (Value.ref 100) _) ?_))); k_dflt (refine' ws_c (by k_asm) (by k_asm) (by k_asm) (by k_asm) (by k_asm) (by first | rfl | assumption) (by ktr_room) (by ktr_units) (by ((try dsimp only); first | with_reducible assumption | omega | (simp only [Str.length_append]; omega) | fail "slen")) ?_); intro _ _ _ _ _ _ _ _; (try dsimp only); (try k_fold)))) | (with_reducible (((fail_if_success (fail_if_success (with_reducible refine' gd9 (t := call (Value.ref 332) _) ?_))); k_dflt (refine' leads_c (by k_asm) (by k_asm) (by k_asm) (by k_asm) (by k_asm) (by first | rfl | assumption) (by ktr_room) (by ktr_units) (by k_mem) (by with_reducible assumption) (by with_reducible assumption) (by with_reducible assumption) (by with_reducible assumption) ?_); intro _ _ _ _ _ _ _ _; (try dsimp only); (try k_fold)))) | (with_reducible (((fail_if_success (fail_if_success (with_reducible refine' gd9 (t := call (Value.ref 320) _) ?_))); k_dflt (refine' named_c (by k_asm) (by k_asm) (by k_asm) (by k_asm) (by k_asm) (by first | rfl | assumption) (by ktr_room) (by ktr_units) (by k_mem) (by with_reducible assumption) (by with_reducible assumption) (by with_reducible assumption) ?_); intro _ _ _ _ _; (try dsimp only); (try k_fold)))) | (with_reducible (((fail_if_success (fail_if_success (with_reducible refine' gd9 (t := call (Value.ref 241) _) ?_))); k_dflt (refine' getall_c (by k_asm) (by k_asm) (by k_asm) (by k_asm) (by k_asm) (by first | rfl | assumption) (by ktr_room) (by ktr_units) (by with_reducible assumption) (by first | with_reducible assumption | walk_at "sub") (by with_reducible assumption) (by with_reducible assumption) (by with_reducible assumption) (by with_reducible assumption) (by with_reducible assumption) ?_); intro _ _ _ _ _ _ _ _; (try dsimp only); (try k_fold)))) )) | (with_reducible (((fail_if_success (fail_if_success (with_reducible refine' gd9 (t := compareOp CmpOp.NotEq (Value.ref _) (Value.ref _)) ?_))); k_dflt (refine ne_dataH (by ked_read) (by ked_read) (by ked_shaped) (by ked_shaped) (by ktr_units) ?_); ked_norm))) | (with_reducible ((first | ((fail_if_success (fail_if_success (with_reducible refine' gd9 (t := exec (Stmt.Assign _ (Expr.ListComp _ [⟨_, _, [], _⟩] _ _) _) _) ?_))); k_dflt (refine comp_assign (F₀ := by k_asm) (by rfl) (by with_unfolding_all rfl) (by with_unfolding_all rfl) (by decide) (by rfl) (by decide) (by rfl) (by rfl) (by rfl) ?_)) | ((fail_if_success (fail_if_success (with_reducible refine' gd9 (t := exec (Stmt.Assign _ (Expr.ListComp _ [⟨_, _, [_], _⟩] _ _) _) _) ?_))); k_dflt (refine compT_assign (F₀ := by k_asm) (by rfl) (by with_unfolding_all rfl) (by with_unfolding_all rfl) (by decide) (by rfl) (by decide) (by rfl) (by rfl) (by rfl) ?_))))) | (with_reducible ((first | ((fail_if_success (fail_if_success (with_reducible refine' gd9 (t := subscriptTail _ _ (Value.ref _) (Value.int 0 _)) ?_))); k_dflt (refine' lst_at0 (by k_asm) (by k_mem) ?_)) | ((fail_if_success (fail_if_success (with_reducible refine' gd9 (t := subscriptTail _ _ (Value.ref _) (Value.int 1 _)) ?_))); k_dflt (refine' lst_at1 (by k_asm) (by k_mem) ?_)) | ((fail_if_success (fail_if_success (with_reducible refine' gd9 (t := subscriptTail _ _ (Value.ref _) (Value.int 2 _)) ?_))); k_dflt (refine' lst_at2 (by k_asm) (by k_mem) ?_)) | ((fail_if_success (fail_if_success (with_reducible refine' gd9 (t := subscriptTail _ _ (Value.ref _) (Value.int 3 _)) ?_))); k_dflt (refine' lst_at3 (by k_asm) (by k_mem) ?_))))) )) | walk1) | ((with_reducible show wpAny _ _ _ _ _ _); dsimp only) | (leave1; walk_say "STEP leave1"; try dsimp only) | fail "no step"))
        case _ => exact ne_no heq (by with_reducible assumption)
        all_goals (
          (rename 2 ≤ _ => ht9)
          refine ret' _ _ _ _ ?_ ?_ ?_ (by k_asm) (cb_drop (by k_asm) (by intro q hq; repeat (first | exact hback q hq | refine List.mem_cons_of_mem _ ?_)))
          · with_reducible first | exact drw_c (by assumption) | exact drw_b (by assumption) (by assumption) | exact drw_n (by assumption) (by assumption) (by assumption) | exact drw_a (by assumption) (by assumption) (by assumption)
          · (try dsimp only at ht9); exact Nat.ne_of_gt (by omega)
          · exact Nat.lt_succ_self _)
end

theorem rs_D4_parse : True := by w_top off; trivial
section
variable {prog : Program} {w : World} {A : Around} {E : Value → Shared → Prop} {Q : Flow → Shared → Prop} {s : Shared} {env : Env} {h₀ : Heap} {L : Addr}
/-- a while loop by what holds of its frame and its ledger between the turns; the number falls -/
theorem while_inv {test : Expr} {body : List Stmt} {pos : Pos} {m : Str → Option Value} {news : List (Addr × Obj)} (J : Nat → (Str → Option Value) → List (Addr × Obj) → Prop) {n₀ : Nat}
    (F : Fr h₀ L s.heap m) (N : News h₀ L s.heap news) (hJ : J n₀ m news)
    (turn : ∀ n m₁ nw h₁ t₁ (Kt : Flow → Shared → Prop), J n m₁ nw → Fr h₀ L h₁ m₁ → News h₀ L h₁ nw →
      (∀ f n' h' t' m' nw', f = .next ∨ f = .cont → n' < n → Fr h₀ L h' m' → News h₀ L h' nw' → J n' m' nw' → Kt f { s with heap := h', toks := t' }) →
      (∀ s', Q .next s' → Kt .brk s') → (∀ v s', Q (.ret v) s' → Kt (.ret v) s') →
      wpAny (model prog w) A (isTrue test env (eval test env)) (fun b s₂ => if b = true then wpAny (model prog w) A (execs body env) Kt E s₂ else Q .next s₂) E { s with heap := h₁, toks := t₁ })
    (hE : PassesOwn (model prog w) A env E := by passes_own) :
    wpAny (model prog w) A (exec (.While test body [] pos) env) Q E s := by
  refine wpAny_While (codeAny_whileLoop (fun n s' => ∃ h₁ t₁ m₁ nw, s' = { s with heap := h₁, toks := t₁ } ∧ Fr h₀ L h₁ m₁ ∧ News h₀ L h₁ nw ∧ J n m₁ nw) ?_ n₀ ⟨s.heap, s.toks, m, news, rfl, F, N, hJ⟩)
  rintro n s' ⟨h₁, t₁, m₁, nw, rfl, F₁, N₁, J₁⟩
  refine wpAny_mono (turn n m₁ nw h₁ t₁ (fun f s₃ => match f with
      | .next | .cont => ∃ k, k < n ∧ ∃ h₁ t₁ m₁ nw, s₃ = { s with heap := h₁, toks := t₁ } ∧ Fr h₀ L h₁ m₁ ∧ News h₀ L h₁ nw ∧ J k m₁ nw
      | .brk => Q .next s₃
      | .ret v => Q (.ret v) s₃) J₁ F₁ N₁ ?_ (fun _ h => h) (fun _ _ h => h)) (fun b s₂ h₂ => ?_) hE
  · intro f n' h' t' m' nw' hf hn F' N' J'
    rcases hf with rfl | rfl
    · exact ⟨n', hn, h', t', m', nw', rfl, F', N', J'⟩
    · exact ⟨n', hn, h', t', m', nw', rfl, F', N', J'⟩
  · cases b with
    | false =>
      simp only [Bool.false_eq_true, if_false] at h₂ ⊢
      exact wpAny_execs_nil h₂
    | true =>
      simp only [if_true] at h₂ ⊢
      refine wpAny_mono h₂ (fun f s₃ h₃ => ?_) hE
      cases f with
      | next => exact h₃
      | cont => exact h₃
      | brk => exact h₃
      | ret v => exact h₃
end
/-- what parse257 reads from i on -/
def pRun (x : Str) : Nat → Int → Str → Str
  | 0, _, d => d
  | f + 1, i, d =>
    if i < (x.length : Int) then
      if Txt.item x i == qt then
        if (x.length : Int) ≤ i + 1 then d else if Txt.item x (i + 1) != qt then d else pRun x f (i + 1 + 1) (d ++ Txt.item x i)
      else pRun x f (i + 1) (d ++ Txt.item x i)
    else d
def prs (x : Str) : Str := if (Txt.slice x (some 3) (some 5) != Str.ofString " \"") = true then Str.ofString "" else pRun x x.length 5 (Str.ofString "")
theorem pRun_out {x : Str} {f : Nat} {i : Int} {d : Str} (h : ¬ i < (x.length : Int)) : pRun x f i d = d := by
  cases f with
  | zero => rfl
  | succ f => rw [pRun, if_neg h]
inductive PsJ (x : Str) (t : Tok) (R : Str) (n : Nat) (m : Str → Option Value) (nw : List (Addr × Obj)) : Prop
  | mk (i : Int) (d : Str) (f : Nat) (ti td tn : Tok) (e0 : pRun x f i d = R) (e1 : 5 ≤ i) (e2 : i ≤ x.length + 5) (e3 : (d.length : Int) ≤ i) (e4 : n = ((x.length : Int) - i).toNat) (e5 : n ≤ f) (e6 : nw = []) (e7 : m (Str.ofString "resp") = some (.str x t)) (e8 : m (Str.ofString "i") = some (.int i ti)) (e9 : m (Str.ofString "dirname") = some (.str d td)) (e10 : m (Str.ofString "n") = some (.int x.length tn)) : PsJ x t R n m nw
section
variable {w : World} {dp un : Nat} {gd : Option (List Code)} {cn : Str} {cs : Scope} {a : Addr} {ccd : Value} {cl : List (Str × Addr)} {outer : List Env} {A₀ : Around} {base h₀ : Heap} {L : Addr} {m : Str → Option Value} {s : Shared} {Q E : Value → Shared → Prop} {mean : ExcName → Option Value} {mg mb : Str → Option Value} {news : List (Addr × Obj)}

set_option maxRecDepth 100000 in
set_option maxHeartbeats 8000000 in
theorem parse_c (B : Below A₀ base outer h₀) (F : Fr h₀ L s.heap m) (X : (Mine.hk.heap_1 w.params).In h₀) (N : News h₀ L s.heap news) (T : Top Mine.V LS mean mg mb h₀) (hk : cs.kind = .function)
    (hdp : dp + 5 < recursionLimit) (hun : un + 100 < cLine) {x : Str} {t : Tok} (hx : x.length ≤ 1000) (h257 : (Txt.slice x none (some 3) != Str.ofString "257") = false)
    (ret : ∀ (u : Tok) (h' : Heap) (tk' : Nat), Fr h₀ L h' m → News h₀ L h' news → Q (.str (prs x) u) { s with heap := h', toks := tk' }) :
    wpAny (model PySem.Challenge.rw_wo0081_01.row.prog w) (ktrTop dp un gd cn cs L a ccd cl outer) (call (.ref 136) [.str x t]) Q E s := by
  refine wpAny_call ?_
  (k_dflt (refine' code_defG ?k1 ?k2 ?k3 ?k4 ?k5 ?kA ?kF ?kK ?k6 ?k7 ?k8 ?k9 ?kB ?_ ?c2 ?c3 ?c4 ?c5; (case kA => exact rfl); (case kF => exact rfl); (case kK => first | exact rfl | assumption); (case k1 => k_asm); (case k2 => k_asm); (case k3 => k_asm); (case k5 => k_asm); (case k6 => k_is); (case k7 => k_is); (case k8 => ktr_room); (case k9 => first | exact BindsTo.of_eq rfl | exact binds_K (by k_in) rfl (by k_is) rfl rfl rfl | fail "k_enter: no rule for these arguments"); (case kB => exact locs rfl); (case c2 => exact rfl); (case c3 => exact rfl); (case c4 => exact rfl); (case c5 => decide); k_whole))
  case k4 => exact cb_drop (news := []) N (by walk_at "sub")
  intro g L1 h1 FG F1 N1 B1 X1 T1 SK LT
  (try dsimp only); (try k_fold)
  have up : ∀ h', Fr h₀ L h' m → (∀ b o, g.get? b = some o → h'.get? b = some o) → News h₀ L h' news := fun h' _ k => news_up N fun b o e => k _ _ (SK b o e (by simp))
  repeat' ((fail_if_success (with_reducible show wpAny _ _ (exec (Stmt.While _ _ _ _) _) _ _ _)); (first | (first | (with_reducible (((fail_if_success (fail_if_success (with_reducible refine' gd9 (t := execs (_ :: _) _) ?_))); first | k_gentoks | ((with_reducible refine wpAny_execs_cons ?_); (try dsimp only); k_fold)))) | walk1) | (dsimp only; (first | (with_reducible (((fail_if_success (fail_if_success (with_reducible refine' gd9 (t := execs (_ :: _) _) ?_))); first | k_gentoks | ((with_reducible refine wpAny_execs_cons ?_); (try dsimp only); k_fold)))) | walk1))))
  case _ =>
    rename Fr h₀ L _ m => kF9; rename (_ != Str.ofString " \"") = true => hq
    rw [show prs x = Str.ofString "" from if_pos hq] at ret
    (rename Fr g _ _ _ => hF9)
    exact ret _ _ _ (by k_asm) (news_up N fun b o e => hF9.keep _ _ (SK b o e (by simp)))
  case _ =>
    rename (_ != Str.ofString " \"") = false => hq
    rename Fr g L1 _ _ => F9; rename News g L1 _ _ => N9
    rw [show prs x = pRun x x.length 5 (Str.ofString "") from if_neg (by rw [hq]; decide)] at ret
    refine while_inv (PsJ x t (pRun x x.length 5 (Str.ofString ""))) F9 N9 (n₀ := ((x.length : Int) - 5).toNat) ⟨5, Str.ofString "", x.length, _, _, _, rfl, by omega, by omega, by decide +kernel, rfl, by omega, rfl, rfl, rfl, rfl, rfl⟩ ?turn
    rintro n m₁ nw h₁ t₁ Kt ⟨i, d, f, ti, td, tn, hR, hi5, hil, hdl, rfl, hnf, rfl, e1, e2, e3, e4⟩ F9 N9 hNx hBk hRt
    have F3 := fr_known F9 [(Str.ofString "resp", .str x t), (Str.ofString "i", .int i ti), (Str.ofString "dirname", .str d td), (Str.ofString "n", .int x.length tn)] (by ((repeat (refine List.forall_mem_cons.mpr ⟨(by dsimp only; first | exact if_pos rfl | exact (if_neg (by decide +kernel)).trans (by first | with_reducible assumption | assumption) | (with_reducible assumption) | assumption), ?_⟩)); exact List.forall_mem_nil _))
    clear F9
    have hfit : (i : Int) ≤ 2000 := by omega
    have out : ∀ y h' t' u, y = pRun x x.length 5 (Str.ofString "") → Fr h₀ L h' m → (∀ b o, g.get? b = some o → h'.get? b = some o) → Q (.str y u) { s with heap := h', toks := t' } := fun y h' t' u e F' k => e ▸ ret u h' t' F' (up h' F' k)
    clear ret
    have hf1 : i < (x.length : Int) → ∃ f', f = f' + 1 := fun h => ⟨f - 1, by omega⟩
    (repeat' (first | (k_unfold; (try dsimp only)) | (k_end; wrow_close) | (first | (with_reducible (((fail_if_success (fail_if_success (with_reducible refine' gd9 (t := execs (_ :: _) _) ?_))); first | k_gentoks | ((with_reducible refine wpAny_execs_cons ?_); (try dsimp only); k_fold)))) | walk1) | ((with_reducible show wpAny _ _ _ _ _ _); dsimp only) | (leave1; walk_say "STEP leave1"; try dsimp only) | fail "no step"))
    case _ =>
      obtain ⟨f', rfl⟩ := hf1 (by assumption)
      clear hf1
      rw [pRun, if_pos (by assumption), if_pos (by assumption), if_pos (by assumption)] at hR
      refine hBk _ ?_
      (try dsimp only)
      (repeat' (first | (k_unfold; (try dsimp only)) | (k_end; wrow_close) | (first | (with_reducible (((fail_if_success (fail_if_success (with_reducible refine' gd9 (t := execs (_ :: _) _) ?_))); first | k_gentoks | ((with_reducible refine wpAny_execs_cons ?_); (try dsimp only); k_fold)))) | walk1) | ((with_reducible show wpAny _ _ _ _ _ _); dsimp only) | (leave1; walk_say "STEP leave1"; try dsimp only) | fail "no step"))
      (rename Fr g _ _ _ => hF9)
      exact out _ _ _ _ hR (by k_asm) hF9.keep
    case _ =>
      obtain ⟨f', rfl⟩ := hf1 (by assumption)
      clear hf1
      rw [pRun, if_pos (by assumption), if_pos (by assumption), if_neg (by assumption), if_pos (by assumption)] at hR
      refine hBk _ ?_
      (try dsimp only)
      (repeat' (first | (k_unfold; (try dsimp only)) | (k_end; wrow_close) | (first | (with_reducible (((fail_if_success (fail_if_success (with_reducible refine' gd9 (t := execs (_ :: _) _) ?_))); first | k_gentoks | ((with_reducible refine wpAny_execs_cons ?_); (try dsimp only); k_fold)))) | walk1) | ((with_reducible show wpAny _ _ _ _ _ _); dsimp only) | (leave1; walk_say "STEP leave1"; try dsimp only) | fail "no step"))
      (rename Fr g _ _ _ => hF9)
      exact out _ _ _ _ hR (by k_asm) hF9.keep
    case _ =>
      obtain ⟨f', rfl⟩ := hf1 (by assumption)
      clear hf1
      rename (Txt.item x (i + 1) != Str.ofString "\"") = false => hq2
      rw [pRun, if_pos (by assumption), if_pos (by assumption), if_neg (by assumption), if_neg (by show ¬(Txt.item x (i + 1) != Str.ofString "\"") = true; rw [hq2]; decide)] at hR
      exact hNx _ _ _ _ _ _ (.inl rfl) (by omega) (by k_asm) (by k_asm) ⟨i + 1 + 1, d ++ Txt.item x i, f', _, _, _, hR, by omega, by omega, by rw [Str.length_append, len_item]; omega, rfl, by omega, rfl, rfl, rfl, rfl, rfl⟩
    case _ =>
      obtain ⟨f', rfl⟩ := hf1 (by assumption)
      clear hf1
      rename (Txt.item x i == Str.ofString "\"") = false => hq2
      rw [pRun, if_pos (by assumption), if_neg (by show ¬(Txt.item x i == Str.ofString "\"") = true; rw [hq2]; decide)] at hR
      exact hNx _ _ _ _ _ _ (.inl rfl) (by omega) (by k_asm) (by k_asm) ⟨i + 1, d ++ Txt.item x i, f', _, _, _, hR, by omega, by omega, by rw [Str.length_append, len_item]; omega, rfl, by omega, rfl, rfl, rfl, rfl, rfl⟩
    case _ =>
      rw [pRun_out (by assumption)] at hR
      (rename Fr g _ _ _ => hF9)
      exact out _ _ _ _ hR (by k_asm) hF9.keep
end
section
variable {w : World} {dp un : Nat} {gd : Option (List Code)} {cn : Str} {cs : Scope} {a : Addr} {ccd : Value} {cl : List (Str × Addr)} {outer : List Env} {A₀ : Around} {base h₀ : Heap} {L : Addr} {m : Str → Option Value} {s : Shared} {Q E : Value → Shared → Prop} {mean : ExcName → Option Value} {mg mb : Str → Option Value} {news : List (Addr × Obj)}
theorem parse_e (B : Below A₀ base outer h₀) (F : Fr h₀ L s.heap m) (X : (Mine.hk.heap_1 w.params).In h₀) (N : News h₀ L s.heap news) (T : Top Mine.V LS mean mg mb h₀) (hk : cs.kind = .function)
    (hdp : dp + 5 < recursionLimit) (hun : un + 100 < cLine) {x y : Str} {t : Tok} (hx : x.length ≤ 1000) (h257 : (Txt.slice x none (some 3) != Str.ofString "257") = false) (hy : prs x = y)
    (ret : ∀ (u : Tok) (h' : Heap) (tk' : Nat), Fr h₀ L h' m → News h₀ L h' news → Q (.str y u) { s with heap := h', toks := tk' }) :
    wpAny (model PySem.Challenge.rw_wo0081_01.row.prog w) (ktrTop dp un gd cn cs L a ccd cl outer) (call (.ref 136) [.str x t]) Q E s :=
  parse_c B F X N T hk hdp hun hx h257 (hy ▸ ret)
end

theorem rs_D5_halves : True := by w_top off; trivial
open PyProof.Rows.LCg PyProof.Rows.LCt PySem.Calls in
theorem iter_strT {prog : Program} {w : World} {A : Around} {s : Shared} {h₀ : Heap} {L : Addr} {y : Str} {px : Pos} {x : Str} {t : Tok} (hh : A.handled = none) (ha : x.cps.all (· < 128) = true) : IterSrcT prog w A h₀ L (.Name y px) (.str x t) s x.cps.size (SignAt x) (fun _ => True) := by
  intro Q E h
  refine wpAny_pyIter_ascii ha (h _ [s.heap.objs.size] _ rfl (Walks.strAscii hh _ x t) (fun i v s Q E st q => wpAny_pure q) ⟨_, Heap.get?_push_size _ rfl, rfl, rfl⟩ ?_ ?_ (fun i h st => by obtain ⟨o, e, _⟩ := st; exact ⟨o, e⟩) ?_)
  · intro b hb; rw [List.mem_singleton.mp hb]; exact Nat.lt_succ_self _
  · intro b hb; exact .inl (List.mem_singleton.mp hb)
  · intro i h h' o' nw st e e' _ _ _; obtain ⟨o, q, r⟩ := st; rw [e] at q; cases q; exact ⟨_, e', r⟩
def hlvGo (xs : List Str) : List Str → Str → Str
  | [], d => d
  | y :: r, d => if (1 + ((cnt y xs : Nat) : Int)).fmod 2 = 1 then d ++ Txt.mul qt ((1 + ((cnt y xs : Nat) : Int)).fdiv 2) else hlvGo xs r (d ++ Txt.mul qt ((1 + ((cnt y xs : Nat) : Int)).fdiv 2) ++ y)
def halves (xs : List Str) : Str := hlvGo xs abc (Str.ofString "")
inductive HlJ (xs : List Str) (l : Addr) (cell : Addr) (rest : List (Addr × Obj)) (i : Nat) (m : Str → Option Value) (nw : List (Addr × Obj)) : Prop
  | mk (d : Str) (td : Tok) (v : Option Value) (o : Obj) (e0 : hlvGo xs (abc.drop i) d = halves xs) (e1 : d.length ≤ 20 * i) (e2 : o.data = .cell v) (e3 : nw = (cell, o) :: rest) (e4 : m (Str.ofString "letters") = some (.ref l)) (e5 : m (Str.ofString "told") = some (.str d td)) : HlJ xs l cell rest i m nw
theorem qt_half_len {n : Nat} (h : n ≤ 10) : (Txt.mul (Str.ofString "\"") ((1 + (n : Int)).fdiv 2)).length ≤ 11 := by
  have := len_mul_k1 (x := Str.ofString "\"") (n := (1 + (n : Int)).fdiv 2) (by decide +kernel)
  rw [Int.fdiv_eq_ediv_of_nonneg _ (by decide)] at this ⊢
  split at this <;> omega
section
variable {w : World} {dp un : Nat} {gd : Option (List Code)} {cn : Str} {cs : Scope} {a : Addr} {ccd : Value} {cl : List (Str × Addr)} {outer : List Env} {A₀ : Around} {base h₀ : Heap} {L : Addr} {m : Str → Option Value} {s : Shared} {Q E : Value → Shared → Prop} {mean : ExcName → Option Value} {mg mb : Str → Option Value} {news : List (Addr × Obj)}

set_option maxRecDepth 100000 in
set_option maxHeartbeats 8000000 in
theorem halves_c (B : Below A₀ base outer h₀) (F : Fr h₀ L s.heap m) (X : (Mine.hk.heap_1 w.params).In h₀) (N : News h₀ L s.heap news) (T : Top Mine.V LS mean mg mb h₀) (hk : cs.kind = .function)
    (hdp : dp + 7 < recursionLimit) (hun : un + 200 < cLine) {l : Addr} {ys : List Value} {xs : List Str} {c : Nat} (hl : (l, listOf ys.toArray c) ∈ news) (hys : StrsAre ys xs) (hlen : xs.length ≤ 10) (hlx : ∀ x ∈ xs, x.length ≤ 10)
    (ret : ∀ (x : Str) (t : Tok) (h' : Heap) (tk' : Nat), x = halves xs → Fr h₀ L h' m → News h₀ L h' news → Q (.str x t) { s with heap := h', toks := tk' }) :
    wpAny (model PySem.Challenge.rw_wo0081_01.row.prog w) (ktrTop dp un gd cn cs L a ccd cl outer) (call (.ref 361) [.ref l]) Q E s := by
  refine wpAny_call ?_
  (k_dflt (refine' code_defCB ?k1 ?k2 ?k3 ?k4 ?k5 ?kA ?kF ?kK ?k6 ?k7 ?k8 ?k9 ?kB ?kD ?_ ?c2 ?c3 ?c4; (case kA => exact rfl); (case kF => exact rfl); (case kK => first | exact rfl | assumption); (case k1 => k_asm); (case k2 => k_asm); (case k3 => k_asm); (case k4 => k_asm); (case k5 => k_asm); (case k6 => k_is); (case k7 => k_is); (case k8 => ktr_room); (case k9 => first | exact BindsTo.of_eq rfl | exact binds_K (by k_in) rfl (by k_is) rfl rfl rfl | fail "k_enter: no rule for these arguments"); (case kB => exact rfl); (case kD => decide +kernel); (case c2 => exact rfl); (case c3 => exact rfl); (case c4 => exact rfl); k_whole; intro g L1 h1 tk1 cells9 hT9 FG F1 N1 Y1 B1 X1 T1 SK LT; (try k_lt LT); k_cells Y1; (try simp only [List.cons_append, List.nil_append] at N1); (try dsimp only); (try k_lift B1); (try k_fold)))
  (repeat ((fail_if_success (with_reducible show wpAny _ _ (pyIter _) _ _ _)); (first | (first | (with_reducible ((first | ((fail_if_success (fail_if_success (with_reducible refine' gd9 (t := eval (Expr.ListComp _ [⟨_, _, [], _⟩] _ _) _) ?_))); k_dflt (refine comp_eval (F₀ := by k_asm) (by with_unfolding_all rfl) (by decide) (by rfl) (by decide) (by rfl) ?_)) | ((fail_if_success (fail_if_success (with_reducible refine' gd9 (t := eval (Expr.ListComp _ [⟨_, _, [_], _⟩] _ _) _) ?_))); k_dflt (refine compT_eval (F₀ := by k_asm) (by with_unfolding_all rfl) (by decide) (by rfl) (by decide) (by rfl) ?_))))) | ((fail_if_success (with_reducible refine' gd9 (t := eval _ _) ?_)); (first | (with_reducible (((fail_if_success (fail_if_success (with_reducible refine' gd9 (t := execs (_ :: _) _) ?_))); first | k_gentoks | ((with_reducible refine wpAny_execs_cons ?_); (try dsimp only); k_fold)))) | (with_reducible (((fail_if_success (fail_if_success (with_reducible refine' gd9 (t := call (Value.builtin "len") [Value.ref _]) ?_))); k_dflt (refine' lenL (by k_asm) (by k_mem) (by with_reducible assumption) (by omega) ?_)))) )) | walk1) | dsimp only)))
  rename_i o1 d1 _ _ h2 F9 N9
  refine For_turns F9 ?_
  (repeat ((fail_if_success (with_reducible show wpAny _ _ (pyIter _) _ _ _)); (first | (first | (with_reducible ((first | ((fail_if_success (fail_if_success (with_reducible refine' gd9 (t := eval (Expr.ListComp _ [⟨_, _, [], _⟩] _ _) _) ?_))); k_dflt (refine comp_eval (F₀ := by k_asm) (by with_unfolding_all rfl) (by decide) (by rfl) (by decide) (by rfl) ?_)) | ((fail_if_success (fail_if_success (with_reducible refine' gd9 (t := eval (Expr.ListComp _ [⟨_, _, [_], _⟩] _ _) _) ?_))); k_dflt (refine compT_eval (F₀ := by k_asm) (by with_unfolding_all rfl) (by decide) (by rfl) (by decide) (by rfl) ?_))))) | ((fail_if_success (with_reducible refine' gd9 (t := eval _ _) ?_)); (first | (with_reducible (((fail_if_success (fail_if_success (with_reducible refine' gd9 (t := execs (_ :: _) _) ?_))); first | k_gentoks | ((with_reducible refine wpAny_execs_cons ?_); (try dsimp only); k_fold)))) | (with_reducible (((fail_if_success (fail_if_success (with_reducible refine' gd9 (t := call (Value.builtin "len") [Value.ref _]) ?_))); k_dflt (refine' lenL (by k_asm) (by k_mem) (by with_reducible assumption) (by omega) ?_)))) )) | walk1) | dsimp only)))
  refine for_invT (HlJ xs l (L1 + 1) news) _ (iter_strT rfl (by decide +kernel)) F9 N9 trivial ⟨_, _, _, _, rfl, by decide +kernel, d1, rfl, rfl, rfl⟩ (fun _ _ _ _ => trivial) (fun _ _ h => h) ?turn ?done
  case turn =>
    rintro i v m₁ nw I oI h tq Kt hi hv ⟨d, td, v0, o, hd, hdl, ho, rfl, e1, e2⟩ off F2 N2 hNx hBk hRt
    obtain ⟨ch, uc, hch, rfl⟩ := hv
    have hy := abc_at hch
    generalize (⟨#[ch]⟩ : Str) = y at hy
    have hy1 := abc_len hy
    have F3 := fr_known F2 [(Str.ofString "letters", .ref l), (Str.ofString "told", .str d td)] (by ((repeat (refine List.forall_mem_cons.mpr ⟨(by dsimp only; first | exact if_pos rfl | exact (if_neg (by decide +kernel)).trans (by first | with_reducible assumption | assumption) | (with_reducible assumption) | assumption), ?_⟩)); exact List.forall_mem_nil _))
    clear F2
    have lR := allLt_of LT
    have off' : ∀ o' : Obj, ∀ p ∈ (L1 + 1, o') :: news, @Ne Nat p.1 I := fun o' p hp => (List.mem_cons.mp hp).elim (fun e => by rw [e]; exact off (L1 + 1, o) List.mem_cons_self) fun h => off p (List.mem_cons_of_mem _ h)
    have of1 : @Ne Nat (L1 + 1) I := off _ List.mem_cons_self
    (repeat' (first | (k_unfold; (try dsimp only)) | (k_end; wrow_close) | (first | (with_reducible ((first | ((fail_if_success (fail_if_success (with_reducible refine' gd9 (t := eval (Expr.ListComp _ [⟨_, _, [], _⟩] _ _) _) ?_))); k_dflt (refine comp_eval (F₀ := by k_asm) (by with_unfolding_all rfl) (by decide) (by rfl) (by decide) (by rfl) ?_)) | ((fail_if_success (fail_if_success (with_reducible refine' gd9 (t := eval (Expr.ListComp _ [⟨_, _, [_], _⟩] _ _) _) ?_))); k_dflt (refine compT_eval (F₀ := by k_asm) (by with_unfolding_all rfl) (by decide) (by rfl) (by decide) (by rfl) ?_))))) | ((fail_if_success (with_reducible refine' gd9 (t := eval _ _) ?_)); (first | (with_reducible (((fail_if_success (fail_if_success (with_reducible refine' gd9 (t := execs (_ :: _) _) ?_))); first | k_gentoks | ((with_reducible refine wpAny_execs_cons ?_); (try dsimp only); k_fold)))) | (with_reducible (((fail_if_success (fail_if_success (with_reducible refine' gd9 (t := call (Value.builtin "len") [Value.ref _]) ?_))); k_dflt (refine' lenL (by k_asm) (by k_mem) (by with_reducible assumption) (by omega) ?_)))) )) | walk1) | ((with_reducible show wpAny _ _ _ _ _ _); dsimp only) | (leave1; walk_say "STEP leave1"; try dsimp only) | fail "no step"))
    rename_i h7 o7 F7 N7 d7
    have hi3 : i < 3 := by have e : abc.length = 3 := rfl; exact e ▸ (List.getElem?_eq_some_iff.mp hy).1
    have hyl := StrsAre.length hys
    have hcl : cnt y xs ≤ 10 := Nat.le_trans (List.length_filter_le _ _) hlen
    k_dflt (refine CSrcT.of (iter_list rfl N7 (List.mem_cons_of_mem _ (List.mem_cons_of_mem _ hl))) F7 N7 (List.mem_cons_of_mem _ (List.mem_cons_of_mem _ hl)) (by simp only [List.size_toArray, sizeLine]; omega) fun _ => restT_inv (K := Array.size _) (fun c zs nw => nw = _ ∧ StrsAre zs ((xs.take c).filter (· == y))) ?step ?fin _ _ _ _ (Nat.zero_add _) ⟨rfl, .nil⟩)
    case step =>
      rintro c v I' oI' C oC D zs nw m₂ h tq Q' Q₀ E' hc hv ⟨rfl, hzs⟩ hC hx F9 N9 off ne hQ hQ0
      obtain ⟨z, tz, rfl, hz⟩ := StrsAre.item hys c v (by simpa using hv)
      have hzl := hlx z (List.mem_of_getElem? hz)
      (repeat' (first | (k_unfold; (try dsimp only)) | (k_end; wrow_close) | (first | (with_reducible ((first | ((fail_if_success (fail_if_success (with_reducible refine' gd9 (t := eval (Expr.ListComp _ [⟨_, _, [], _⟩] _ _) _) ?_))); k_dflt (refine comp_eval (F₀ := by k_asm) (by with_unfolding_all rfl) (by decide) (by rfl) (by decide) (by rfl) ?_)) | ((fail_if_success (fail_if_success (with_reducible refine' gd9 (t := eval (Expr.ListComp _ [⟨_, _, [_], _⟩] _ _) _) ?_))); k_dflt (refine compT_eval (F₀ := by k_asm) (by with_unfolding_all rfl) (by decide) (by rfl) (by decide) (by rfl) ?_))))) | ((fail_if_success (with_reducible refine' gd9 (t := eval _ _) ?_)); (first | (with_reducible (((fail_if_success (fail_if_success (with_reducible refine' gd9 (t := execs (_ :: _) _) ?_))); first | k_gentoks | ((with_reducible refine wpAny_execs_cons ?_); (try dsimp only); k_fold)))) | (with_reducible (((fail_if_success (fail_if_success (with_reducible refine' gd9 (t := call (Value.builtin "len") [Value.ref _]) ?_))); k_dflt (refine' lenL (by k_asm) (by k_mem) (by with_reducible assumption) (by omega) ?_)))) )) | walk1) | ((with_reducible show wpAny _ _ _ _ _ _); dsimp only) | (leave1; walk_say "STEP leave1"; try dsimp only) | fail "no step"))
      case _ =>
        refine hQ _ _ _ _ (by k_asm) (by k_asm) off (List.mem_cons_of_mem _ (List.mem_cons_of_mem _ hl)) ⟨rfl, ?_⟩
        rw [List.take_add_one, hz, List.filter_append]
        simp only [Option.toList_some, List.filter_cons, (by assumption : (z == y) = true), if_true, List.filter_nil]
        exact StrsAre.append' hzs (.cons _ _ .nil)
      case _ =>
        refine hQ0 _ _ _ (by k_asm) (by k_asm) off (List.mem_cons_of_mem _ (List.mem_cons_of_mem _ hl)) ⟨rfl, ?_⟩
        rw [List.take_add_one, hz, List.filter_append]
        simp only [Option.toList_some, List.filter_cons, (by assumption : (z == y) = false), Bool.false_eq_true, if_false, List.filter_nil, List.append_nil]
        exact hzs
    case fin =>
      rintro zs nw ⟨rfl, hzs⟩ D h tq F9 N9 o1
      rw [List.take_of_length_le (by simp only [List.size_toArray]; omega)] at hzs
      have hzl : zs.toArray.size = cnt y xs := by rw [List.size_toArray, StrsAre.length hzs]; rfl
      have hml := qt_half_len hcl
      have hml' : (Txt.mul qt ((1 + ((cnt y xs : Nat) : Int)).fdiv 2)).length ≤ 11 := hml
      have hdl60 : d.length ≤ 60 := by omega
      (try dsimp only)
      (repeat' (first | (k_unfold; (try dsimp only)) | (k_end; wrow_close) | (first | (with_reducible ((first | ((fail_if_success (fail_if_success (with_reducible refine' gd9 (t := eval (Expr.ListComp _ [⟨_, _, [], _⟩] _ _) _) ?_))); k_dflt (refine comp_eval (F₀ := by k_asm) (by with_unfolding_all rfl) (by decide) (by rfl) (by decide) (by rfl) ?_)) | ((fail_if_success (fail_if_success (with_reducible refine' gd9 (t := eval (Expr.ListComp _ [⟨_, _, [_], _⟩] _ _) _) ?_))); k_dflt (refine compT_eval (F₀ := by k_asm) (by with_unfolding_all rfl) (by decide) (by rfl) (by decide) (by rfl) ?_))))) | ((fail_if_success (with_reducible refine' gd9 (t := eval _ _) ?_)); (first | (with_reducible (((fail_if_success (fail_if_success (with_reducible refine' gd9 (t := execs (_ :: _) _) ?_))); first | k_gentoks | ((with_reducible refine wpAny_execs_cons ?_); (try dsimp only); k_fold)))) | (with_reducible (((fail_if_success (fail_if_success (with_reducible refine' gd9 (t := call (Value.builtin "len") [Value.ref _]) ?_))); k_dflt (refine' lenL (by k_asm) (by k_mem) (by with_reducible assumption) (by omega) ?_)))) )) | walk1) | ((with_reducible show wpAny _ _ _ _ _ _); dsimp only) | (leave1; walk_say "STEP leave1"; try dsimp only) | fail "no step"))
      case _ =>
        have hdrop : abc.drop i = y :: abc.drop (i + 1) := by
          obtain ⟨hl', he⟩ := List.getElem?_eq_some_iff.mp hy
          rw [List.drop_eq_getElem_cons hl', he]
        rw [hdrop, hlvGo, if_pos (by assumption)] at hd
        refine hRt _ _ ?_
        (try dsimp only)
        (repeat' (first | (k_unfold; (try dsimp only)) | (k_end; wrow_close) | (first | (with_reducible ((first | ((fail_if_success (fail_if_success (with_reducible refine' gd9 (t := eval (Expr.ListComp _ [⟨_, _, [], _⟩] _ _) _) ?_))); k_dflt (refine comp_eval (F₀ := by k_asm) (by with_unfolding_all rfl) (by decide) (by rfl) (by decide) (by rfl) ?_)) | ((fail_if_success (fail_if_success (with_reducible refine' gd9 (t := eval (Expr.ListComp _ [⟨_, _, [_], _⟩] _ _) _) ?_))); k_dflt (refine compT_eval (F₀ := by k_asm) (by with_unfolding_all rfl) (by decide) (by rfl) (by decide) (by rfl) ?_))))) | ((fail_if_success (with_reducible refine' gd9 (t := eval _ _) ?_)); (first | (with_reducible (((fail_if_success (fail_if_success (with_reducible refine' gd9 (t := execs (_ :: _) _) ?_))); first | k_gentoks | ((with_reducible refine wpAny_execs_cons ?_); (try dsimp only); k_fold)))) | (with_reducible (((fail_if_success (fail_if_success (with_reducible refine' gd9 (t := call (Value.builtin "len") [Value.ref _]) ?_))); k_dflt (refine' lenL (by k_asm) (by k_mem) (by with_reducible assumption) (by omega) ?_)))) )) | walk1) | ((with_reducible show wpAny _ _ _ _ _ _); dsimp only) | (leave1; walk_say "STEP leave1"; try dsimp only) | fail "no step"))
        exact ret _ _ _ _ hd (by k_asm) (cb_drop (by k_asm) (by walk_at "sub"))
      case _ =>
        have hdrop : abc.drop i = y :: abc.drop (i + 1) := by
          obtain ⟨hl', he⟩ := List.getElem?_eq_some_iff.mp hy
          rw [List.drop_eq_getElem_cons hl', he]
        rw [hdrop, hlvGo, if_neg (by assumption)] at hd
        exact hNx _ _ _ _ _ (.inl rfl) (by k_asm) (cb_drop (by k_asm) (by walk_at "sub")) (off' _) ⟨_, _, _, o7, hd, by simp only [Str.length_append]; omega, d7, rfl, rfl, rfl⟩
  case done =>
    rintro m₁ nw h tq ⟨d, td, v0, o, hd, hdl, ho, rfl, e1, e2⟩ F2 N2
    have F3 := fr_known F2 [(Str.ofString "letters", .ref l), (Str.ofString "told", .str d td)] (by ((repeat (refine List.forall_mem_cons.mpr ⟨(by dsimp only; first | exact if_pos rfl | exact (if_neg (by decide +kernel)).trans (by first | with_reducible assumption | assumption) | (with_reducible assumption) | assumption), ?_⟩)); exact List.forall_mem_nil _))
    clear F2
    have hd' : d = halves xs := hd
    (try dsimp only)
    (repeat' (first | (k_unfold; (try dsimp only)) | (k_end; wrow_close) | (first | (with_reducible ((first | ((fail_if_success (fail_if_success (with_reducible refine' gd9 (t := eval (Expr.ListComp _ [⟨_, _, [], _⟩] _ _) _) ?_))); k_dflt (refine comp_eval (F₀ := by k_asm) (by with_unfolding_all rfl) (by decide) (by rfl) (by decide) (by rfl) ?_)) | ((fail_if_success (fail_if_success (with_reducible refine' gd9 (t := eval (Expr.ListComp _ [⟨_, _, [_], _⟩] _ _) _) ?_))); k_dflt (refine compT_eval (F₀ := by k_asm) (by with_unfolding_all rfl) (by decide) (by rfl) (by decide) (by rfl) ?_))))) | ((fail_if_success (with_reducible refine' gd9 (t := eval _ _) ?_)); (first | (with_reducible (((fail_if_success (fail_if_success (with_reducible refine' gd9 (t := execs (_ :: _) _) ?_))); first | k_gentoks | ((with_reducible refine wpAny_execs_cons ?_); (try dsimp only); k_fold)))) | (with_reducible (((fail_if_success (fail_if_success (with_reducible refine' gd9 (t := call (Value.builtin "len") [Value.ref _]) ?_))); k_dflt (refine' lenL (by k_asm) (by k_mem) (by with_reducible assumption) (by omega) ?_)))) )) | walk1) | ((with_reducible show wpAny _ _ _ _ _ _); dsimp only) | (leave1; walk_say "STEP leave1"; try dsimp only) | fail "no step"))
    exact ret _ _ _ _ hd' (by k_asm) (cb_drop (by k_asm) (by walk_at "sub"))
end

theorem rs_D6_rooms : True := by w_top off; trivial
abbrev T3 := Int × Int × Int
inductive TupAre (nw : List (Addr × Obj)) : List Value → List T3 → Prop
  | nil : TupAre nw [] []
  | cons {p : Addr} {i j k : Int} {ti tj tl : Tok} {n : Nat} {vs : List Value} {ts : List T3} : (p, tup3 i j k ti tj tl n) ∈ nw → TupAre nw vs ts → TupAre nw (.ref p :: vs) ((i, j, k) :: ts)
inductive RoomsAre (nw : List (Addr × Obj)) : List Value → List (List T3) → Prop
  | nil : RoomsAre nw [] []
  | cons {r : Addr} {c : Nat} {vs tv : List Value} {t : List T3} {ts : List (List T3)} : (r, listOf tv.toArray c) ∈ nw → TupAre nw tv t → RoomsAre nw vs ts → RoomsAre nw (.ref r :: vs) (t :: ts)
theorem TupAre.mono {nw nw' : List (Addr × Obj)} {vs : List Value} {ts : List T3} (h : TupAre nw vs ts) (hs : ∀ p ∈ nw, p ∈ nw') : TupAre nw' vs ts := by
  induction h with
  | nil => exact .nil
  | cons hm _ ih => exact .cons (hs _ hm) ih
theorem TupAre.length {nw : List (Addr × Obj)} {vs : List Value} {ts : List T3} (h : TupAre nw vs ts) : vs.length = ts.length := by
  induction h with
  | nil => rfl
  | cons _ _ ih => simp [ih]
theorem TupAre.at {nw : List (Addr × Obj)} {vs : List Value} {ts : List T3} (h : TupAre nw vs ts) : ∀ {i : Nat} {v : Value}, vs[i]? = some v → ∃ p a b c ta tb tc n, v = .ref p ∧ (p, tup3 a b c ta tb tc n) ∈ nw ∧ ts[i]? = some (a, b, c) := by
  induction h with
  | nil => intro i v h; simp at h
  | @cons p a b c ta tb tc n vs ts hm _ ih =>
    intro i v h
    cases i with
    | zero => cases h; exact ⟨p, a, b, c, ta, tb, tc, n, rfl, hm, rfl⟩
    | succ i => exact ih h
theorem RoomsAre.mono {nw nw' : List (Addr × Obj)} {vs : List Value} {ts : List (List T3)} (h : RoomsAre nw vs ts) (hs : ∀ p ∈ nw, p ∈ nw') : RoomsAre nw' vs ts := by
  induction h with
  | nil => exact .nil
  | cons hm ht _ ih => exact .cons (hs _ hm) (ht.mono hs) ih
theorem RoomsAre.length {nw : List (Addr × Obj)} {vs : List Value} {ts : List (List T3)} (h : RoomsAre nw vs ts) : vs.length = ts.length := by
  induction h with
  | nil => rfl
  | cons _ _ _ ih => simp [ih]
theorem RoomsAre.app {nw : List (Addr × Obj)} {vs us : List Value} {ts rs : List (List T3)} (h : RoomsAre nw vs ts) (h' : RoomsAre nw us rs) : RoomsAre nw (vs ++ us) (ts ++ rs) := by
  induction h with
  | nil => exact h'
  | cons hm ht _ ih => exact .cons hm ht ih
theorem RoomsAre.at {nw : List (Addr × Obj)} {vs : List Value} {ts : List (List T3)} (h : RoomsAre nw vs ts) : ∀ {i : Nat} {v : Value}, vs[i]? = some v → ∃ r tv t c, v = .ref r ∧ (r, listOf tv.toArray c) ∈ nw ∧ TupAre nw tv t ∧ ts[i]? = some t := by
  induction h with
  | nil => intro i v h; simp at h
  | @cons r c vs tv t ts hm ht _ ih =>
    intro i v h
    cases i with
    | zero => cases h; exact ⟨r, tv, t, c, rfl, hm, ht, rfl⟩
    | succ i => exact ih h
theorem RoomsAre.push {own own' : List (Addr × Obj)} {vs : List Value} {ts : List (List T3)} {p1 p2 p3 r : Addr} {a1 b1 c1 a2 b2 c2 a3 b3 c3 : Int} {u1 v1 w1 u2 v2 w2 u3 v3 w3 : Tok} {n1 n2 n3 c : Nat} (h : RoomsAre own vs ts) (hs : ∀ p ∈ own, p ∈ own')
    (mr : (r, listOf #[.ref p1, .ref p2, .ref p3] c) ∈ own') (m1 : (p1, tup3 a1 b1 c1 u1 v1 w1 n1) ∈ own') (m2 : (p2, tup3 a2 b2 c2 u2 v2 w2 n2) ∈ own') (m3 : (p3, tup3 a3 b3 c3 u3 v3 w3 n3) ∈ own') :
    RoomsAre own' (vs ++ [.ref r]) (ts ++ [[(a1, b1, c1), (a2, b2, c2), (a3, b3, c3)]]) :=
  (h.mono hs).app (.cons (tv := [.ref p1, .ref p2, .ref p3]) mr (.cons m1 (.cons m2 (.cons m3 .nil))) .nil)
def rm1 (i j : Int) : List T3 := [(i + 1, j, 2 - i - j), (i, j + 1, 2 - i - j), (i, j, 3 - i - j)]
def rm2 (i j : Int) : List T3 := [(i, j + 1, 2 - i - j), (i + 1, j, 2 - i - j), (i + 1, j + 1, 1 - i - j)]
def rmIn (i : Int) : Nat → List (List T3)
  | 0 => []
  | k + 1 => rmIn i k ++ (rm1 i (k : Int) :: if i + (k : Int) < 2 then [rm2 i (k : Int)] else [])
def rmOut : Nat → List (List T3)
  | 0 => []
  | k + 1 => rmOut k ++ rmIn (k : Int) (3 - k)
def rooms : List (List T3) := rmOut 3
theorem rmIn_len (i : Int) (k : Nat) : (rmIn i k).length ≤ 2 * k := by
  induction k with
  | zero => exact Nat.le_refl _
  | succ k ih =>
    rw [rmIn, List.length_append, List.length_cons]
    split
    · simp only [List.length_cons, List.length_nil]; omega
    · simp only [List.length_nil]; omega
theorem rmOut_len (i : Nat) (h : i < 4) : (rmOut i).length ≤ 9 := by
  have : ∀ i : Fin 4, (rmOut i.1).length ≤ 9 := by decide
  exact this ⟨i, h⟩
/-- the list of rooms as it grows -/
inductive RmJ (pre : List (Addr × Obj)) (l : Addr) (ts : List (List T3)) (m : Str → Option Value) (nw : List (Addr × Obj)) : Prop
  | mk (vs : List Value) (c : Nat) (own : List (Addr × Obj)) (e0 : nw = pre ++ (l, listOf vs.toArray c) :: own) (e1 : RoomsAre own vs ts) (e2 : (∀ q ∈ own, @Ne Nat q.1 l)) (e3 : (∀ q ∈ own, ∀ p ∈ pre, @Ne Nat q.1 p.1)) (e4 : m (Str.ofString "rooms") = some (.ref l)) : RmJ pre l ts m nw
local macro_rules | `(tactic| k_all) => `(tactic| with_reducible assumption)
theorem pre_of {I : Addr} {oI : Obj} {own : List (Addr × Obj)} (h : ∀ q ∈ own, @Ne Nat q.1 I) : ∀ q ∈ own, ∀ p ∈ [(I, oI)], @Ne Nat q.1 p.1 := fun q hq p hp => by rw [List.mem_singleton.mp hp]; exact h q hq
section
variable {w : World} {dp un : Nat} {gd : Option (List Code)} {cn : Str} {cs : Scope} {a : Addr} {ccd : Value} {cl : List (Str × Addr)} {outer : List Env} {A₀ : Around} {base h₀ : Heap} {L : Addr} {m : Str → Option Value} {s : Shared} {Q E : Value → Shared → Prop} {mean : ExcName → Option Value} {mg mb : Str → Option Value} {news : List (Addr × Obj)}

set_option maxRecDepth 100000 in
set_option maxHeartbeats 8000000 in
theorem rooms_c (B : Below A₀ base outer h₀) (F : Fr h₀ L s.heap m) (X : (Mine.hk.heap_1 w.params).In h₀) (N : News h₀ L s.heap news) (T : Top Mine.V LS mean mg mb h₀) (hk : cs.kind = .function)
    (hdp : dp + 5 < recursionLimit) (hun : un + 100 < cLine)
    (ret : ∀ (l : Addr) (vs : List Value) (c : Nat) (own : List (Addr × Obj)) (h' : Heap) (tk' : Nat), RoomsAre own vs rooms → (∀ q ∈ own, @Ne Nat q.1 l) → (∀ q ∈ news, ∀ p ∈ (l, listOf vs.toArray c) :: own, q.1 ≠ p.1) → Fr h₀ L h' m → News h₀ L h' ((l, listOf vs.toArray c) :: own ++ news) → Q (.ref l) { s with heap := h', toks := tk' }) :
    wpAny (model PySem.Challenge.rw_wo0081_01.row.prog w) (ktrTop dp un gd cn cs L a ccd cl outer) (call (.ref 351) []) Q E s := by
  refine wpAny_call ?_
  (k_dflt (refine' code_defG ?k1 ?k2 ?k3 ?k4 ?k5 ?kA ?kF ?kK ?k6 ?k7 ?k8 ?k9 ?kB ?_ ?c2 ?c3 ?c4 ?c5; (case kA => exact rfl); (case kF => exact rfl); (case kK => first | exact rfl | assumption); (case k1 => k_asm); (case k2 => k_asm); (case k3 => k_asm); (case k5 => k_asm); (case k6 => k_is); (case k7 => k_is); (case k8 => ktr_room); (case k9 => first | exact BindsTo.of_eq rfl | exact binds_K (by k_in) rfl (by k_is) rfl rfl rfl | fail "k_enter: no rule for these arguments"); (case kB => exact locs rfl); (case c2 => exact rfl); (case c3 => exact rfl); (case c4 => exact rfl); (case c5 => decide); k_whole))
  case k4 => exact cb_drop (news := []) N (by walk_at "sub")
  intro g L1 h1 FG F1 N1 B1 X1 T1 SK LT
  (try dsimp only); (try k_fold)
  (repeat ((fail_if_success (with_reducible show wpAny _ _ (pyIter _) _ _ _)); (first | (first | ((fail_if_success (with_reducible refine' gd9 (t := eval _ _) ?_)); (first | (with_reducible (((fail_if_success (fail_if_success (with_reducible refine' gd9 (t := execs (_ :: _) _) ?_))); first | k_gentoks | ((with_reducible refine wpAny_execs_cons ?_); (try dsimp only))))) | (with_reducible (((fail_if_success (fail_if_success (with_reducible refine' gd9 (t := call (Value.builtin _) [Value.ref _, _]) ?_))); k_dflt (refine' append_own (by k_asm) (by k_asm) (by k_upd) (by first | exact delAll_len (by with_reducible assumption) (by with_reducible assumption) | omega | exact Nat.le_of_ble_eq_true rfl) ?_); intro _ _ _; (try dsimp only); (try k_fold)))) )) | walk1) | dsimp only)))
  rename_i l9 _ _ _ F8 N8 _ _ t1 u1 v1 hR F9 N9 hk9
  refine for_inv (n := 3) (fun k m₁ nw => RmJ [] l9 (rmOut k) m₁ nw) _ (iter_range rfl hR (range_sm (by omega) (by omega)) rfl) F9 N9 trivial ⟨[], 0, [], rfl, .nil, fun _ h => (nomatch h), fun _ h => (nomatch h), rfl⟩ (fun _ _ _ _ => trivial) (fun _ _ h => h) ?turn ?done
  case turn =>
    rintro i v m₁ nw I oI h tq Kt hi hv ⟨vs, c, own, rfl, hvs, hoff, _, e1⟩ off F2 N2 hNx hBk hRt
    obtain ⟨uc, rfl⟩ := hv
    rw [Int.zero_add] at F2
    have F3 := fr_known F2 [(Str.ofString "rooms", .ref l9), (Str.ofString "i", .int (i : Int) uc)] (by ((repeat (refine List.forall_mem_cons.mpr ⟨(by dsimp only; first | exact if_pos rfl | exact (if_neg (by decide +kernel)).trans (by first | with_reducible assumption | assumption) | (with_reducible assumption) | assumption), ?_⟩)); exact List.forall_mem_nil _))
    clear F2 F9 N9 hR hk9 F8 N8
    have ofl0 : @Ne Nat l9 I := off _ List.mem_cons_self
    (repeat ((fail_if_success (with_reducible show wpAny _ _ (pyIter _) _ _ _)); (first | (first | ((fail_if_success (with_reducible refine' gd9 (t := eval _ _) ?_)); (first | (with_reducible (((fail_if_success (fail_if_success (with_reducible refine' gd9 (t := execs (_ :: _) _) ?_))); first | k_gentoks | ((with_reducible refine wpAny_execs_cons ?_); (try dsimp only))))) | ((fail_if_success (fail_if_success (with_reducible refine' gd9 (t := call _ _ _) ?_))); (first | (with_reducible (((fail_if_success (fail_if_success (with_reducible refine' gd9 (t := call (Value.builtin _) [Value.ref _, _]) ?_))); k_dflt (refine' append_own (by k_asm) (by k_asm) (by k_upd) (by first | exact delAll_len (by with_reducible assumption) (by with_reducible assumption) | omega | exact Nat.le_of_ble_eq_true rfl) ?_); intro _ _ _; (try dsimp only); (try k_fold)))) | (with_reducible (((fail_if_success (fail_if_success (with_reducible refine' gd9 (t := call (Value.type _) [Value.int _ _]) ?_))); (rename Fr _ _ _ _ => F'); (rename News _ _ _ _ => N'); (with_unfolding_all refine range1_rows F' N' ?_; intro _ _ _ _ _ _ _ _ _)))) )) )) | walk1) | dsimp only)))
    clear F' N'
    (rename IsRange _ _ 0 _ _ _ _ _ => hR2); (rename Fr g L1 _ _ => F9); (rename News g L1 _ _ => N9)
    refine for_inv (n := 3 - i) (fun k m₁ nw => (∃ u, m₁ (Str.ofString "i") = some (.int (i : Int) u)) ∧ RmJ [(I, oI)] l9 (rmOut i ++ rmIn (i : Int) k) m₁ nw) _ (iter_range rfl hR2 (range_sm (by omega) (by omega)) (by rw [range_sz]; omega)) F9 N9 trivial ⟨⟨_, rfl⟩, vs, c, own, rfl, by rw [rmIn, List.append_nil]; exact hvs, hoff, fun q hq p hp => by rw [List.mem_singleton.mp hp]; exact off q (List.mem_cons_of_mem _ hq), rfl⟩ (fun _ _ _ _ => trivial) (fun _ _ h => h) ?_ ?_
    · clear F9 N9
      rintro k v m₁ nw I2 oI2 h tq Kt hi2 hv ⟨⟨ui, e0⟩, vs, c, own, rfl, hvs, hoff, hoff2, e1⟩ off2 F2 N2 hNx hBk hRt
      obtain ⟨uj, rfl⟩ := hv
      rw [Int.zero_add] at F2
      have F3 := fr_known F2 [(Str.ofString "rooms", .ref l9), (Str.ofString "i", .int (i : Int) ui), (Str.ofString "j", .int (k : Int) uj)] (by ((repeat (refine List.forall_mem_cons.mpr ⟨(by dsimp only; first | exact if_pos rfl | exact (if_neg (by decide +kernel)).trans (by first | with_reducible assumption | assumption) | (with_reducible assumption) | assumption), ?_⟩)); exact List.forall_mem_nil _))
      clear F2
      have hvl : vs.length ≤ 100 := by
        rw [hvs.length, List.length_append]
        have a := rmIn_len (i : Int) k
        have b := rmOut_len i (by omega)
        omega
      simp only [List.cons_append, List.nil_append] at N2
      have ofl : @Ne Nat l9 I := off _ List.mem_cons_self
      have of2 : @Ne Nat l9 I2 := off2 _ (List.mem_cons_of_mem _ List.mem_cons_self)
      have oI2I : @Ne Nat I I2 := off2 (I, oI) List.mem_cons_self
      have hofI : ∀ q ∈ own, @Ne Nat q.1 I := fun q hq => hoff2 q hq _ (List.mem_singleton.mpr rfl)
      have hofI2 : ∀ q ∈ own, @Ne Nat q.1 I2 := fun q hq => off2 q (List.mem_cons_of_mem _ (List.mem_cons_of_mem _ hq))
      (repeat' (first | (k_unfold; (try dsimp only)) | (k_end; wrow_close) | (first | ((fail_if_success (with_reducible refine' gd9 (t := eval _ _) ?_)); (first | (with_reducible (((fail_if_success (fail_if_success (with_reducible refine' gd9 (t := execs (_ :: _) _) ?_))); first | k_gentoks | ((with_reducible refine wpAny_execs_cons ?_); (try dsimp only))))) | ((fail_if_success (fail_if_success (with_reducible refine' gd9 (t := call _ _ _) ?_))); (first | (with_reducible (((fail_if_success (fail_if_success (with_reducible refine' gd9 (t := call (Value.builtin _) [Value.ref _, _]) ?_))); k_dflt (refine' append_own (by k_asm) (by k_asm) (by k_upd) (by first | exact delAll_len (by with_reducible assumption) (by with_reducible assumption) | omega | exact Nat.le_of_ble_eq_true rfl) ?_); intro _ _ _; (try dsimp only); (try k_fold)))) | (with_reducible (((fail_if_success (fail_if_success (with_reducible refine' gd9 (t := call (Value.type _) [Value.int _ _]) ?_))); (rename Fr _ _ _ _ => F'); (rename News _ _ _ _ => N'); (with_unfolding_all refine range1_rows F' N' ?_; intro _ _ _ _ _ _ _ _ _)))) )) )) | walk1) | ((with_reducible show wpAny _ _ _ _ _ _); dsimp only) | (leave1; walk_say "STEP leave1"; try dsimp only) | fail "no step"))
      all_goals first
        | (rename_i p1 _ l1 p2 _ l2 p3 _ l3 r1 _ l4 h9 _ hlt _ p4 _ l5 p5 _ l6 p6 _ l7 r2 _ l8 h10 F10 N10
           rw [List.push_toArray] at N10
           refine hNx _ _ _ _ ((I, oI) :: (l9, listOf (vs ++ [Value.ref r1] ++ [Value.ref r2]).toArray _) :: (r2, _) :: (p6, _) :: (p5, _) :: (p4, _) :: (r1, _) :: (p3, _) :: (p2, _) :: (p1, _) :: own) (.inl rfl) F10 (cb_drop N10 (by walk_at "sub")) ?_ ⟨⟨_, rfl⟩, _, _, _, rfl, ?_, ?_, ?_, rfl⟩
           · ((repeat ((fail_if_success (with_reducible assumption)); refine List.forall_mem_cons.mpr ⟨by k_ne, ?_⟩)); with_reducible assumption)
           · rw [show rmOut i ++ rmIn (i : Int) (k + 1) = ((rmOut i ++ rmIn (i : Int) k) ++ [rm1 (i : Int) (k : Int)]) ++ [rm2 (i : Int) (k : Int)] by rw [rmIn, if_pos hlt]; simp]
             exact (hvs.push (by walk_at "sub") (by k_mem) (by k_mem) (by k_mem) (by k_mem)).push (fun _ h => h) (by k_mem) (by k_mem) (by k_mem) (by k_mem)
           · ((repeat ((fail_if_success (with_reducible assumption)); refine List.forall_mem_cons.mpr ⟨by k_ne, ?_⟩)); with_reducible assumption)
           · exact pre_of (by ((repeat ((fail_if_success (with_reducible assumption)); refine List.forall_mem_cons.mpr ⟨by k_ne, ?_⟩)); with_reducible assumption)))
        | (rename_i p1 _ l1 p2 _ l2 p3 _ l3 r1 _ _ _ l4 h9 F10 N10 _ hlt
           (try rw [List.push_toArray] at N10)
           refine hNx _ _ _ _ ((I, oI) :: (l9, listOf (vs ++ [Value.ref r1]).toArray _) :: (r1, _) :: (p3, _) :: (p2, _) :: (p1, _) :: own) (.inl rfl) F10 (cb_drop N10 (by walk_at "sub")) ?_ ⟨⟨_, rfl⟩, _, _, _, rfl, ?_, ?_, ?_, rfl⟩
           · ((repeat ((fail_if_success (with_reducible assumption)); refine List.forall_mem_cons.mpr ⟨by k_ne, ?_⟩)); with_reducible assumption)
           · rw [show rmOut i ++ rmIn (i : Int) (k + 1) = (rmOut i ++ rmIn (i : Int) k) ++ [rm1 (i : Int) (k : Int)] by rw [rmIn, if_neg hlt]; simp]
             exact hvs.push (by walk_at "sub") (by k_mem) (by k_mem) (by k_mem) (by k_mem)
           · ((repeat ((fail_if_success (with_reducible assumption)); refine List.forall_mem_cons.mpr ⟨by k_ne, ?_⟩)); with_reducible assumption)
           · exact pre_of (by ((repeat ((fail_if_success (with_reducible assumption)); refine List.forall_mem_cons.mpr ⟨by k_ne, ?_⟩)); with_reducible assumption)))
    · clear F9 N9
      rintro m₁ nw h tq ⟨⟨ui, e0⟩, vs, c, own, rfl, hvs, hoff, hoff2, e1⟩ F2 N2
      have F3 := fr_known F2 [(Str.ofString "rooms", .ref l9), (Str.ofString "i", .int (i : Int) ui)] (by ((repeat (refine List.forall_mem_cons.mpr ⟨(by dsimp only; first | exact if_pos rfl | exact (if_neg (by decide +kernel)).trans (by first | with_reducible assumption | assumption) | (with_reducible assumption) | assumption), ?_⟩)); exact List.forall_mem_nil _))
      clear F2
      (try dsimp only)
      (repeat' (first | (k_unfold; (try dsimp only)) | (k_end; wrow_close) | (first | ((fail_if_success (with_reducible refine' gd9 (t := eval _ _) ?_)); (first | (with_reducible (((fail_if_success (fail_if_success (with_reducible refine' gd9 (t := execs (_ :: _) _) ?_))); first | k_gentoks | ((with_reducible refine wpAny_execs_cons ?_); (try dsimp only))))) | ((fail_if_success (fail_if_success (with_reducible refine' gd9 (t := call _ _ _) ?_))); (first | (with_reducible (((fail_if_success (fail_if_success (with_reducible refine' gd9 (t := call (Value.builtin _) [Value.ref _, _]) ?_))); k_dflt (refine' append_own (by k_asm) (by k_asm) (by k_upd) (by first | exact delAll_len (by with_reducible assumption) (by with_reducible assumption) | omega | exact Nat.le_of_ble_eq_true rfl) ?_); intro _ _ _; (try dsimp only); (try k_fold)))) | (with_reducible (((fail_if_success (fail_if_success (with_reducible refine' gd9 (t := call (Value.type _) [Value.int _ _]) ?_))); (rename Fr _ _ _ _ => F'); (rename News _ _ _ _ => N'); (with_unfolding_all refine range1_rows F' N' ?_; intro _ _ _ _ _ _ _ _ _)))) )) )) | walk1) | ((with_reducible show wpAny _ _ _ _ _ _); dsimp only) | (leave1; walk_say "STEP leave1"; try dsimp only) | fail "no step"))
      exact hNx _ _ _ _ ((l9, listOf vs.toArray c) :: own) (.inl rfl) (by k_asm) (cb_drop N2 (by walk_at "sub")) (List.forall_mem_cons.mpr ⟨ofl0, fun q hq => hoff2 q hq _ (List.mem_singleton.mpr rfl)⟩) ⟨vs, c, own, rfl, hvs, hoff, fun _ _ _ h => (nomatch h), rfl⟩
  case done =>
    clear F9 N9 F8 N8
    rintro m₁ nw h tq ⟨vs, c, own, rfl, hvs, hoff, hoff2, e1⟩ F2 N2
    have F3 := fr_known F2 [(Str.ofString "rooms", .ref l9)] (by ((repeat (refine List.forall_mem_cons.mpr ⟨(by dsimp only; first | exact if_pos rfl | exact (if_neg (by decide +kernel)).trans (by first | with_reducible assumption | assumption) | (with_reducible assumption) | assumption), ?_⟩)); exact List.forall_mem_nil _))
    clear F2
    simp only [List.nil_append] at N2
    have hg : ∀ q ∈ news, g.get? q.1 = some q.2 := fun q hq => SK _ _ (N q hq).1 (by simp)
    (try dsimp only)
    (repeat' (first | (k_unfold; (try dsimp only)) | (k_end; wrow_close) | (first | ((fail_if_success (with_reducible refine' gd9 (t := eval _ _) ?_)); (first | (with_reducible (((fail_if_success (fail_if_success (with_reducible refine' gd9 (t := execs (_ :: _) _) ?_))); first | k_gentoks | ((with_reducible refine wpAny_execs_cons ?_); (try dsimp only))))) | (with_reducible (((fail_if_success (fail_if_success (with_reducible refine' gd9 (t := call (Value.builtin _) [Value.ref _, _]) ?_))); k_dflt (refine' append_own (by k_asm) (by k_asm) (by k_upd) (by first | exact delAll_len (by with_reducible assumption) (by with_reducible assumption) | omega | exact Nat.le_of_ble_eq_true rfl) ?_); intro _ _ _; (try dsimp only); (try k_fold)))) )) | walk1) | ((with_reducible show wpAny _ _ _ _ _ _); dsimp only) | (leave1; walk_say "STEP leave1"; try dsimp only) | fail "no step"))
    exact ret l9 vs c own _ _ hvs hoff (news_off hg N2) (by k_asm) (news_app (by k_asm) fun q hq => ⟨F3.keep _ _ (hg q hq), (N q hq).2⟩)
end

theorem rs_D6b_toks : True := by w_top off; trivial
/-- a mark: keep this bound under the machine's counter at every statement -/
structure TokB (b : Nat) : Prop where
  h : True
section
variable {M : Model} {A : Around} {E : Value → Shared → Prop} {s : Shared} {env : Env} {n : Nat}
theorem execs_B {st : Stmt} {r : List Stmt} {Q : Flow → Shared → Prop} (_ : TokB n) (hn : n ≤ s.toks)
    (h : wpAny M A (exec st env) (fun f s' => n ≤ s'.toks → match f with | .next => wpAny M A (execs r env) Q E s' | f => Q f s') E s) : wpAny M A (execs (st :: r) env) Q E s :=
  wpAny_execs_cons (wpAny_mono (wpAny_toks_of hn h) (fun _ _ x => x.2 x.1) fun _ _ x => x.2)
end
theorem For_BT {prog : Program} {w : World} {A : Around} {E : Value → Shared → Prop} {s : Shared} {env : Env} {n : Nat} {target iter : Expr} {pos : Pos} {body : List Stmt} {Q : Flow → Shared → Prop} (_ : TokB n) (hn : n ≤ s.toks)
    (h : wpAny (model prog w) A (eval iter env) (fun xv s₁ => n ≤ s₁.toks → wpAny (model prog w) A (pyIter xv) (fun it s₂ => codeAny (model prog w) A (.forLoop target it body [] env) (fun r s' => match r with | .ok f => Q f s' | .error e => cameBackBy (model prog w) A env E e s') s₂) E s₁) E s)
    (hs : ∀ x, foldedSetIterable iter env x = pure x := by intro _; rfl) :
    wpAny (model prog w) A (exec (.For target iter body [] pos) env) Q E s :=
  For_B (wpAny_mono (wpAny_toks_of hn h) (fun _ _ x => x.2 x.1) fun _ _ x => x.2) hs

theorem rs_D7_counted : True := by w_top off; trivial
/-- a room's reply -/
def rsp (xs : List Str) : Str := Str.ofString "257 \"" ++ txt xs ++ Str.ofString "\" \""
def c3 (col : T3 → Str) (t : List T3) : List Str := t.map col
structure RoomOk (al : List (Str × Str)) (col : T3 → Str) (t : List T3) : Prop where
  corner : ∀ p ∈ t, In4 p.1 ∧ In4 p.2.1 ∧ In4 p.2.2 ∧ getF al (nm p.1 p.2.1 p.2.2) = some (col p) ∧ (Txt.lower (nm p.1 p.2.1 p.2.2)).length ≤ 1000 ∧ Takes true (Txt.lower (nm p.1 p.2.1 p.2.2))
  short : ∀ x ∈ c3 col t, x.length ≤ 10
  len : t.length ≤ 10
  pre : (Txt.slice (rsp (c3 col t)) none (some 3) != Str.ofString "257") = false
  rlen : (txt (c3 col t)).length ≤ 100
  eq : prs (rsp (c3 col t)) = halves (c3 col t)
  hlen : (halves (c3 col t)).length ≤ 100
def isIn (y : Str) : Bool := !(Builtin.Str.occurrences (Str.ofString "abcab") y 0 (Str.ofString "abcab").length 1).isEmpty
def cntStep (st : Int × Int) (xs : List Str) : Int × Int :=
  if (Txt.slice (halves xs) (some (-1)) none == Str.ofString "c") = true then ((if (isIn (Txt.join (Str.ofString "") xs) == true) = true then 1 else -1) + st.1, st.2 + 1) else st
def counted (col : T3 → Str) (ts : List (List T3)) : Int × Int := ts.foldl (fun st t => cntStep st (c3 col t)) (0, 0)
abbrev tup2 (i j : Int) (ti tj : Tok) (n : Nat) : Obj := { cls := .type "tuple", data := .seq #[.int i ti, .int j tj] n }
theorem LetAre.strs {B : Nat} {ys : List Value} {xs : List Str} (h : LetAre B ys xs) : StrsAre ys xs := by
  induction h with
  | nil => exact .nil
  | cons _ _ _ ih => exact .cons _ _ ih
theorem sum_short : ∀ {xs : List Str}, xs.length ≤ 10 → (∀ x ∈ xs, x.length ≤ 10) → (xs.map (·.length)).sum + xs.length ≤ 1048576 := by
  have key : ∀ {xs : List Str}, (∀ x ∈ xs, x.length ≤ 10) → (xs.map (·.length)).sum ≤ 10 * xs.length := by
    intro xs
    induction xs with
    | nil => intro _; exact Nat.zero_le _
    | cons x r ih =>
      intro h
      have a := h x List.mem_cons_self
      have b := ih fun y hy => h y (List.mem_cons_of_mem _ hy)
      simp only [List.map_cons, List.sum_cons, List.length_cons]; omega
  intro xs hl h
  have := key h
  omega
section
variable {w : World} {dp un : Nat} {gd : Option (List Code)} {cn : Str} {cs : Scope} {a : Addr} {ccd : Value} {cl : List (Str × Addr)} {outer : List Env} {A₀ : Around} {base h₀ : Heap} {L : Addr} {m : Str → Option Value} {s : Shared} {Q E : Value → Shared → Prop} {mean : ExcName → Option Value} {mg mb : Str → Option Value} {news : List (Addr × Obj)}

set_option maxRecDepth 100000 in
set_option maxHeartbeats 8000000 in
theorem counted_c (B : Below A₀ base outer h₀) (F : Fr h₀ L s.heap m) (X : (Mine.hk.heap_1 w.params).In h₀) {x l : Addr} {ps : List Value} {c : Nat} {rest fix : List (Addr × Obj)} {al : List (Str × Str)} {b : Nat} (N : News h₀ L s.heap ((l, listOf ps.toArray c) :: rest)) (T : Top Mine.V LS mean mg mb h₀) (hk : cs.kind = .function)
    (hdp : dp + 20 < recursionLimit) (hun : un + 1000 < cLine) (hat : AtIn (fun _ t => t ≠ 0 ∧ @LT.lt Nat _ t b) w al x l ps fix) (hfix : ∀ p ∈ fix, p ∈ rest) (hoff : ∀ q ∈ rest, q.1 ≠ l) (ok : AtOk al) (htk : b ≤ s.toks)
    {col : T3 → Str} (hro : ∀ t ∈ rooms, RoomOk al col t)
    (ret : ∀ (r : Addr) (t1 t2 : Tok) (n : Nat) (h' : Heap) (tk' : Nat), (∀ q ∈ (l, listOf ps.toArray c) :: rest, q.1 ≠ r) → Fr h₀ L h' m → News h₀ L h' ((r, tup2 (counted col rooms).1 (counted col rooms).2 t1 t2 n) :: (l, listOf ps.toArray c) :: rest) → Q (.ref r) { s with heap := h', toks := tk' }) :
    wpAny (model PySem.Challenge.rw_wo0081_01.row.prog w) (ktrTop dp un gd cn cs L a ccd cl outer) (call (.ref 366) [.ref x]) Q E s := by
  have hat' := hat
  obtain ⟨dA, t0, own, rfl, hps⟩ := hat'
  refine wpAny_call ?_
  have mark : TokB b := ⟨trivial⟩
  (k_dflt (refine' code_defCB ?k1 ?k2 ?k3 ?k4 ?k5 ?kA ?kF ?kK ?k6 ?k7 ?k8 ?k9 ?kB ?kD ?_ ?c2 ?c3 ?c4; (case kA => exact rfl); (case kF => exact rfl); (case kK => first | exact rfl | assumption); (case k1 => k_asm); (case k2 => k_asm); (case k3 => k_asm); (case k4 => k_asm); (case k5 => k_asm); (case k6 => k_is); (case k7 => k_is); (case k8 => ktr_room); (case k9 => first | exact BindsTo.of_eq rfl | exact binds_K (by k_in) rfl (by k_is) rfl rfl rfl | fail "k_enter: no rule for these arguments"); (case kB => exact rfl); (case kD => decide +kernel); (case c2 => exact rfl); (case c3 => exact rfl); (case c4 => exact rfl); k_whole; intro g L1 h1 tk1 cells9 hT9 FG F1 N1 Y1 B1 X1 T1 SK LT; (try k_lt LT); k_cells Y1; (try simp only [List.cons_append, List.nil_append] at N1); (try dsimp only); (try k_lift B1); (try k_fold)))
  rename_i o1 d1
  obtain ⟨LTl, LTr⟩ := LT
  (repeat ((fail_if_success (with_reducible show wpAny _ _ (pyIter _) _ _ _)); (first | (first | ((fail_if_success (with_reducible refine' gd9 (t := eval _ _) ?_)); (first | (with_reducible (((fail_if_success (fail_if_success (with_reducible refine' gd9 (t := execs (_ :: _) _) ?_))); k_dflt (refine' execs_B ?zm9 ?zn9 ?_; (case zm9 => with_reducible assumption); (case zn9 => (try dsimp only); omega)); (try dsimp only)))) | (with_reducible (((fail_if_success (fail_if_success (with_reducible refine' gd9 (t := execs (_ :: _) _) ?_))); first | k_gentoks | ((with_reducible refine wpAny_execs_cons ?_); (try dsimp only))))) | (with_reducible (((fail_if_success (fail_if_success (with_reducible refine' gd9 (t := exec (Stmt.For _ _ _ _ _) _) ?_))); k_dflt (refine' For_BT ?zm9 ?zn9 ?_; (case zm9 => with_reducible assumption); (case zn9 => (try dsimp only); omega))))) | ((fail_if_success (fail_if_success (with_reducible refine' gd9 (t := call _ _ _) ?_))); (first | (with_reducible (((fail_if_success (fail_if_success (with_reducible refine' gd9 (t := call (Value.builtin "str.join") [Value.str _ _, Value.ref _]) ?_))); k_dflt (refine' join_listW (News.isList (by k_asm) (by k_mem)) (by with_reducible assumption) (by decide +kernel) (by with_reducible assumption) ?_); intro _ _))) | (with_reducible (((fail_if_success (fail_if_success (with_reducible refine' gd9 (t := call (Value.ref 356) _) ?_))); k_dflt (refine' text_c (by k_asm) (by k_asm) (by k_asm) (by k_asm) (by k_asm) (by first | rfl | assumption) (by ktr_room) (by ktr_units) (by k_mem) (by with_reducible assumption) (by (try dsimp only); omega) (by with_reducible assumption) ?_); intro _ _ _ _ hx9 _ _; subst hx9; (try dsimp only); (try k_fold)))) | (with_reducible (((fail_if_success (fail_if_success (with_reducible refine' gd9 (t := call (Value.ref 351) _) ?_))); k_dflt (refine' rooms_c (by k_asm) (by k_asm) (by k_asm) (by k_asm) (by k_asm) (by first | rfl | assumption) (by ktr_room) (by ktr_units) ?_); intro _ _ _ _ _ _ _ _ _ _ _; (try dsimp only); (try k_fold)))) | (with_reducible (((fail_if_success (fail_if_success (with_reducible refine' gd9 (t := call (Value.ref 361) _) ?_))); k_dflt (refine' halves_c (by k_asm) (by k_asm) (by k_asm) (by k_asm) (by k_asm) (by first | rfl | assumption) (by ktr_room) (by ktr_units) (by k_mem) (by with_reducible assumption) (by with_reducible assumption) (by with_reducible assumption) ?_); intro _ _ _ _ hx9 _ _; subst hx9; (try dsimp only); (try k_fold)))) | (with_reducible (((fail_if_success (fail_if_success (with_reducible refine' gd9 (t := call (Value.ref 136) _) ?_))); k_dflt (refine' parse_e (by k_asm) (by k_asm) (by k_asm) (by k_asm) (by k_asm) (by first | rfl | assumption) (by ktr_room) (by ktr_units) (by first | with_reducible assumption | omega) (by with_reducible assumption) (by with_reducible assumption) ?_); intro _ _ _ _ _; (try dsimp only); (try k_fold)))) | (with_reducible (((fail_if_success (fail_if_success (with_reducible refine' gd9 (t := call (Value.ref 164) _) ?_))); k_dflt (refine' getitem_c (by k_asm) (by k_asm) (by k_asm) (by k_asm) (by k_asm) (by first | rfl | assumption) (by ktr_room) (by ktr_units) (by with_reducible assumption) (by first | with_reducible assumption | walk_at "sub") (by with_reducible assumption) (by with_reducible assumption) (by with_reducible assumption) (by with_reducible assumption) (by with_reducible assumption) (by with_reducible assumption) ?_); intro _ _ _ _ _ _; (try dsimp only); (try k_fold)))) | (with_reducible (((fail_if_success (fail_if_success (with_reducible refine' gd9 (t := call (Value.ref 320) _) ?_))); k_dflt (refine' named_c (by k_asm) (by k_asm) (by k_asm) (by k_asm) (by k_asm) (by first | rfl | assumption) (by ktr_room) (by ktr_units) (by k_mem) (by with_reducible assumption) (by with_reducible assumption) (by with_reducible assumption) ?_); intro _ _ _ _ _; (try dsimp only); (try k_fold)))) )) | (with_reducible ((first | ((fail_if_success (fail_if_success (with_reducible refine' gd9 (t := exec (Stmt.Assign _ (Expr.ListComp _ [⟨_, _, [], _⟩] _ _) _) _) ?_))); k_dflt (refine comp_assign (F₀ := by k_asm) (by rfl) (by with_unfolding_all rfl) (by with_unfolding_all rfl) (by decide) (by rfl) (by decide) (by rfl) (by rfl) (by rfl) ?_)) | ((fail_if_success (fail_if_success (with_reducible refine' gd9 (t := exec (Stmt.Assign _ (Expr.ListComp _ [⟨_, _, [_], _⟩] _ _) _) _) ?_))); k_dflt (refine compT_assign (F₀ := by k_asm) (by rfl) (by with_unfolding_all rfl) (by with_unfolding_all rfl) (by decide) (by rfl) (by decide) (by rfl) (by rfl) (by rfl) ?_))))) )) | walk1) | dsimp only)))
  rename_i l9 vs c9 own9 h9 tk9 hvs hoff9 hnew9 F9 N9 hb9
  -- the ledger anew
  have hl9 : @Ne Nat l9 l := Ne.symm (hnew9 _ (List.mem_cons_of_mem _ List.mem_cons_self) _ List.mem_cons_self)
  have hcl : @Ne Nat (L1 + 1) l := fun e => absurd LTl (by omega)
  obtain ⟨tl, Ntl, htl, hl9tl, hcell, hown, hrest⟩ : ∃ tl, News g L1 h9 ((l, listOf ps.toArray c) :: tl) ∧ (∀ q ∈ tl, q.1 ≠ l) ∧ (l9, listOf vs.toArray c9) ∈ tl ∧ (L1 + 1, o1) ∈ tl ∧ (∀ q ∈ own9, q ∈ tl) ∧ (∀ q ∈ rest, q ∈ tl) :=
    ⟨away l _, news_away N9 (by simp), away_off, mem_away (by simp) hl9, mem_away (by simp) hcl, fun q hq => mem_away (by simp [hq]) (Ne.symm (hnew9 _ (List.mem_cons_of_mem _ List.mem_cons_self) _ (List.mem_cons_of_mem _ hq))), fun q hq => mem_away (by simp [hq]) (hoff q hq)⟩
  have hrm := hvs.mono hown
  have hfx := fun q hq => hrest q (hfix q hq)
  refine for_invB (fun k t m₁ nw => b ≤ t ∧ nw = (l, listOf ps.toArray c) :: tl ∧ (∃ u, m₁ (Str.ofString "surplus") = some (.int (counted col (rooms.take k)).1 u)) ∧ (∃ u, m₁ (Str.ofString "found") = some (.int (counted col (rooms.take k)).2 u))) rfl F9 Ntl (List.mem_cons_of_mem _ hl9tl) ⟨hb9, rfl, ⟨_, rfl⟩, ⟨_, rfl⟩⟩ (fun _ _ _ _ h => h.2.1 ▸ List.mem_cons_of_mem _ hl9tl) (by passes_own) ?turn ?done
  case turn =>
    clear F9 N9 Ntl
    rintro k v m₁ nw I oI h tq Kt hk9 hv ⟨hbt, rfl, ⟨u1, e1⟩, ⟨u2, e2⟩⟩ off F2 N2 hNx hRt
    obtain ⟨r, tv, t, cr, rfl, hr, htv, ht⟩ := hrm.at (by simpa using hv)
    have hk := hro t (List.mem_of_getElem? ht)
    have hkst : counted col (rooms.take (k + 1)) = cntStep (counted col (rooms.take k)) (c3 col t) := by
      unfold counted; rw [List.take_add_one, ht, List.foldl_append]; rfl
    have F3 := fr_known F2 [(Str.ofString "surplus", .int (counted col (rooms.take k)).1 u1), (Str.ofString "found", .int (counted col (rooms.take k)).2 u2)] (by ((repeat (refine List.forall_mem_cons.mpr ⟨(by dsimp only; first | exact if_pos rfl | exact (if_neg (by decide +kernel)).trans (by first | with_reducible assumption | assumption) | (with_reducible assumption) | assumption), ?_⟩)); exact List.forall_mem_nil _))
    clear F2
    have hIl : @Ne Nat l I := off _ List.mem_cons_self
    obtain ⟨tj, Ntj, htj, hIj, htltj⟩ : ∃ tj, News g L1 h ((l, listOf ps.toArray c) :: tj) ∧ (∀ q ∈ tj, q.1 ≠ l) ∧ (I, oI) ∈ tj ∧ (∀ q ∈ tl, q ∈ tj) :=
      ⟨(I, oI) :: tl, cb_drop N2 (by walk_at "sub"), List.forall_mem_cons.mpr ⟨Ne.symm hIl, htl⟩, List.mem_cons_self, fun q hq => List.mem_cons_of_mem _ hq⟩
    have hrj := htltj _ hr
    have hcj := htltj _ hcell
    have htvj := htv.mono htltj
    have hfj := fun q hq => htltj q (hfx q hq)
    clear N2
    (repeat' (first | (k_unfold; (try dsimp only)) | (k_end; wrow_close) | (first | ((fail_if_success (with_reducible refine' gd9 (t := eval _ _) ?_)); (first | (with_reducible (((fail_if_success (fail_if_success (with_reducible refine' gd9 (t := execs (_ :: _) _) ?_))); k_dflt (refine' execs_B ?zm9 ?zn9 ?_; (case zm9 => with_reducible assumption); (case zn9 => (try dsimp only); omega)); (try dsimp only)))) | (with_reducible (((fail_if_success (fail_if_success (with_reducible refine' gd9 (t := execs (_ :: _) _) ?_))); first | k_gentoks | ((with_reducible refine wpAny_execs_cons ?_); (try dsimp only))))) | (with_reducible (((fail_if_success (fail_if_success (with_reducible refine' gd9 (t := exec (Stmt.For _ _ _ _ _) _) ?_))); k_dflt (refine' For_BT ?zm9 ?zn9 ?_; (case zm9 => with_reducible assumption); (case zn9 => (try dsimp only); omega))))) | ((fail_if_success (fail_if_success (with_reducible refine' gd9 (t := call _ _ _) ?_))); (first | (with_reducible (((fail_if_success (fail_if_success (with_reducible refine' gd9 (t := call (Value.builtin "str.join") [Value.str _ _, Value.ref _]) ?_))); k_dflt (refine' join_listW (News.isList (by k_asm) (by k_mem)) (by with_reducible assumption) (by decide +kernel) (by with_reducible assumption) ?_); intro _ _))) | (with_reducible (((fail_if_success (fail_if_success (with_reducible refine' gd9 (t := call (Value.ref 356) _) ?_))); k_dflt (refine' text_c (by k_asm) (by k_asm) (by k_asm) (by k_asm) (by k_asm) (by first | rfl | assumption) (by ktr_room) (by ktr_units) (by k_mem) (by with_reducible assumption) (by (try dsimp only); omega) (by with_reducible assumption) ?_); intro _ _ _ _ hx9 _ _; subst hx9; (try dsimp only); (try k_fold)))) | (with_reducible (((fail_if_success (fail_if_success (with_reducible refine' gd9 (t := call (Value.ref 351) _) ?_))); k_dflt (refine' rooms_c (by k_asm) (by k_asm) (by k_asm) (by k_asm) (by k_asm) (by first | rfl | assumption) (by ktr_room) (by ktr_units) ?_); intro _ _ _ _ _ _ _ _ _ _ _; (try dsimp only); (try k_fold)))) | (with_reducible (((fail_if_success (fail_if_success (with_reducible refine' gd9 (t := call (Value.ref 361) _) ?_))); k_dflt (refine' halves_c (by k_asm) (by k_asm) (by k_asm) (by k_asm) (by k_asm) (by first | rfl | assumption) (by ktr_room) (by ktr_units) (by k_mem) (by with_reducible assumption) (by with_reducible assumption) (by with_reducible assumption) ?_); intro _ _ _ _ hx9 _ _; subst hx9; (try dsimp only); (try k_fold)))) | (with_reducible (((fail_if_success (fail_if_success (with_reducible refine' gd9 (t := call (Value.ref 136) _) ?_))); k_dflt (refine' parse_e (by k_asm) (by k_asm) (by k_asm) (by k_asm) (by k_asm) (by first | rfl | assumption) (by ktr_room) (by ktr_units) (by first | with_reducible assumption | omega) (by with_reducible assumption) (by with_reducible assumption) ?_); intro _ _ _ _ _; (try dsimp only); (try k_fold)))) | (with_reducible (((fail_if_success (fail_if_success (with_reducible refine' gd9 (t := call (Value.ref 164) _) ?_))); k_dflt (refine' getitem_c (by k_asm) (by k_asm) (by k_asm) (by k_asm) (by k_asm) (by first | rfl | assumption) (by ktr_room) (by ktr_units) (by with_reducible assumption) (by first | with_reducible assumption | walk_at "sub") (by with_reducible assumption) (by with_reducible assumption) (by with_reducible assumption) (by with_reducible assumption) (by with_reducible assumption) (by with_reducible assumption) ?_); intro _ _ _ _ _ _; (try dsimp only); (try k_fold)))) | (with_reducible (((fail_if_success (fail_if_success (with_reducible refine' gd9 (t := call (Value.ref 320) _) ?_))); k_dflt (refine' named_c (by k_asm) (by k_asm) (by k_asm) (by k_asm) (by k_asm) (by first | rfl | assumption) (by ktr_room) (by ktr_units) (by k_mem) (by with_reducible assumption) (by with_reducible assumption) (by with_reducible assumption) ?_); intro _ _ _ _ _; (try dsimp only); (try k_fold)))) )) | (with_reducible ((first | ((fail_if_success (fail_if_success (with_reducible refine' gd9 (t := exec (Stmt.Assign _ (Expr.ListComp _ [⟨_, _, [], _⟩] _ _) _) _) ?_))); k_dflt (refine comp_assign (F₀ := by k_asm) (by rfl) (by with_unfolding_all rfl) (by with_unfolding_all rfl) (by decide) (by rfl) (by decide) (by rfl) (by rfl) (by rfl) ?_)) | ((fail_if_success (fail_if_success (with_reducible refine' gd9 (t := exec (Stmt.Assign _ (Expr.ListComp _ [⟨_, _, [_], _⟩] _ _) _) _) ?_))); k_dflt (refine compT_assign (F₀ := by k_asm) (by rfl) (by with_unfolding_all rfl) (by with_unfolding_all rfl) (by decide) (by rfl) (by decide) (by rfl) (by rfl) (by rfl) ?_))))) )) | walk1) | ((with_reducible show wpAny _ _ _ _ _ _); dsimp only) | (leave1; walk_say "STEP leave1"; try dsimp only) | fail "no step"))
    rename_i h8 F8 N8
    have htl' := htvj.length
    have htlen := hk.len
    k_dflt (refine CSrc.of (iter_list rfl N8 (List.mem_cons_of_mem _ hrj)) F8 N8 (List.mem_cons_of_mem _ hrj) (by simp only [List.size_toArray, sizeLine]; omega) fun _ => rest_inv (K := Array.size _) (fun e zs nw => nw = (l, listOf ps.toArray c) :: tj ∧ LetAre b zs ((c3 col t).take e)) ?step ?fin _ _ _ _ (Nat.zero_add _) ⟨rfl, .nil⟩)
    case step =>
      rintro e v I' oI' C oC D zs nw m₂ h tq Q' E' he hv ⟨rfl, hzs⟩ hC hx F9 N9 off' ne hQ
      obtain ⟨p, i, j, k', ti, tj', tk', n, rfl, hp, ht'⟩ := htvj.at (by simpa using hv)
      obtain ⟨hi, hj, hkk, hgf, hnl, htk2⟩ := hk.corner _ (List.mem_of_getElem? ht')
      dsimp only at hi hj hkk hgf hnl htk2
      have hn100 : (nm i j k').length ≤ 100 := Nat.le_trans (nm_len hi.2 hj.2 hkk.2) (by decide)
      have o3 := off'.mem _ List.mem_cons_self
      obtain ⟨tq', Nq, htq, m1, m2, m3, hjq⟩ : ∃ tq', News g L1 h ((l, listOf ps.toArray c) :: tq') ∧ (∀ q ∈ tq', q.1 ≠ l) ∧ (I', oI') ∈ tq' ∧ (C, oC) ∈ tq' ∧ (D, LCg.lst zs) ∈ tq' ∧ (∀ q ∈ tj, q ∈ tq') :=
        ⟨(I', oI') :: (C, oC) :: (D, LCg.lst zs) :: tj, cb_drop N9 (by walk_at "sub"), List.forall_mem_cons.mpr ⟨Ne.symm o3.1, List.forall_mem_cons.mpr ⟨Ne.symm o3.2.1, List.forall_mem_cons.mpr ⟨Ne.symm o3.2.2, htj⟩⟩⟩, by simp, by simp, by simp, fun q hq => List.mem_cons_of_mem _ (List.mem_cons_of_mem _ (List.mem_cons_of_mem _ hq))⟩
      have hpq := hjq _ hp
      have hcq := hjq _ hcj
      have hfq := fun q hq => hjq q (hfj q hq)
      clear N9
      (repeat' (first | (k_unfold; (try dsimp only)) | (k_end; wrow_close) | (first | ((fail_if_success (with_reducible refine' gd9 (t := eval _ _) ?_)); (first | (with_reducible (((fail_if_success (fail_if_success (with_reducible refine' gd9 (t := execs (_ :: _) _) ?_))); k_dflt (refine' execs_B ?zm9 ?zn9 ?_; (case zm9 => with_reducible assumption); (case zn9 => (try dsimp only); omega)); (try dsimp only)))) | (with_reducible (((fail_if_success (fail_if_success (with_reducible refine' gd9 (t := execs (_ :: _) _) ?_))); first | k_gentoks | ((with_reducible refine wpAny_execs_cons ?_); (try dsimp only))))) | (with_reducible (((fail_if_success (fail_if_success (with_reducible refine' gd9 (t := exec (Stmt.For _ _ _ _ _) _) ?_))); k_dflt (refine' For_BT ?zm9 ?zn9 ?_; (case zm9 => with_reducible assumption); (case zn9 => (try dsimp only); omega))))) | ((fail_if_success (fail_if_success (with_reducible refine' gd9 (t := call _ _ _) ?_))); (first | (with_reducible (((fail_if_success (fail_if_success (with_reducible refine' gd9 (t := call (Value.builtin "str.join") [Value.str _ _, Value.ref _]) ?_))); k_dflt (refine' join_listW (News.isList (by k_asm) (by k_mem)) (by with_reducible assumption) (by decide +kernel) (by with_reducible assumption) ?_); intro _ _))) | (with_reducible (((fail_if_success (fail_if_success (with_reducible refine' gd9 (t := call (Value.ref 356) _) ?_))); k_dflt (refine' text_c (by k_asm) (by k_asm) (by k_asm) (by k_asm) (by k_asm) (by first | rfl | assumption) (by ktr_room) (by ktr_units) (by k_mem) (by with_reducible assumption) (by (try dsimp only); omega) (by with_reducible assumption) ?_); intro _ _ _ _ hx9 _ _; subst hx9; (try dsimp only); (try k_fold)))) | (with_reducible (((fail_if_success (fail_if_success (with_reducible refine' gd9 (t := call (Value.ref 351) _) ?_))); k_dflt (refine' rooms_c (by k_asm) (by k_asm) (by k_asm) (by k_asm) (by k_asm) (by first | rfl | assumption) (by ktr_room) (by ktr_units) ?_); intro _ _ _ _ _ _ _ _ _ _ _; (try dsimp only); (try k_fold)))) | (with_reducible (((fail_if_success (fail_if_success (with_reducible refine' gd9 (t := call (Value.ref 361) _) ?_))); k_dflt (refine' halves_c (by k_asm) (by k_asm) (by k_asm) (by k_asm) (by k_asm) (by first | rfl | assumption) (by ktr_room) (by ktr_units) (by k_mem) (by with_reducible assumption) (by with_reducible assumption) (by with_reducible assumption) ?_); intro _ _ _ _ hx9 _ _; subst hx9; (try dsimp only); (try k_fold)))) | (with_reducible (((fail_if_success (fail_if_success (with_reducible refine' gd9 (t := call (Value.ref 136) _) ?_))); k_dflt (refine' parse_e (by k_asm) (by k_asm) (by k_asm) (by k_asm) (by k_asm) (by first | rfl | assumption) (by ktr_room) (by ktr_units) (by first | with_reducible assumption | omega) (by with_reducible assumption) (by with_reducible assumption) ?_); intro _ _ _ _ _; (try dsimp only); (try k_fold)))) | (with_reducible (((fail_if_success (fail_if_success (with_reducible refine' gd9 (t := call (Value.ref 164) _) ?_))); k_dflt (refine' getitem_c (by k_asm) (by k_asm) (by k_asm) (by k_asm) (by k_asm) (by first | rfl | assumption) (by ktr_room) (by ktr_units) (by with_reducible assumption) (by first | with_reducible assumption | walk_at "sub") (by with_reducible assumption) (by with_reducible assumption) (by with_reducible assumption) (by with_reducible assumption) (by with_reducible assumption) (by with_reducible assumption) ?_); intro _ _ _ _ _ _; (try dsimp only); (try k_fold)))) | (with_reducible (((fail_if_success (fail_if_success (with_reducible refine' gd9 (t := call (Value.ref 320) _) ?_))); k_dflt (refine' named_c (by k_asm) (by k_asm) (by k_asm) (by k_asm) (by k_asm) (by first | rfl | assumption) (by ktr_room) (by ktr_units) (by k_mem) (by with_reducible assumption) (by with_reducible assumption) (by with_reducible assumption) ?_); intro _ _ _ _ _; (try dsimp only); (try k_fold)))) )) | (with_reducible ((first | ((fail_if_success (fail_if_success (with_reducible refine' gd9 (t := exec (Stmt.Assign _ (Expr.ListComp _ [⟨_, _, [], _⟩] _ _) _) _) ?_))); k_dflt (refine comp_assign (F₀ := by k_asm) (by rfl) (by with_unfolding_all rfl) (by with_unfolding_all rfl) (by decide) (by rfl) (by decide) (by rfl) (by rfl) (by rfl) ?_)) | ((fail_if_success (fail_if_success (with_reducible refine' gd9 (t := exec (Stmt.Assign _ (Expr.ListComp _ [⟨_, _, [_], _⟩] _ _) _) _) ?_))); k_dflt (refine compT_assign (F₀ := by k_asm) (by rfl) (by with_unfolding_all rfl) (by with_unfolding_all rfl) (by decide) (by rfl) (by decide) (by rfl) (by rfl) (by rfl) ?_))))) )) | walk1) | ((with_reducible show wpAny _ _ _ _ _ _); dsimp only) | (leave1; walk_say "STEP leave1"; try dsimp only) | fail "no step"))
      rename_i u9 h9 tk9 hP9 F9 N9
      refine hQ _ _ _ _ F9 (cb_drop N9 ?_) off' (List.mem_cons_of_mem _ hrj) ⟨rfl, ?_⟩
      · intro q hq
        simp only [List.mem_cons] at hq
        rcases hq with rfl | rfl | rfl | rfl | hq
        · exact List.mem_cons_of_mem _ m1
        · exact List.mem_cons_of_mem _ m2
        · exact List.mem_cons_of_mem _ m3
        · exact List.mem_cons_self
        · exact List.mem_cons_of_mem _ (hjq _ hq)
      · rw [List.take_add_one, show (c3 col t)[e]? = some (col (i, j, k')) by unfold c3; rw [List.getElem?_map, ht']; rfl]
        exact hzs.snoc hP9.1 hP9.2
    case fin =>
      rintro zs nw ⟨rfl, hzs⟩ D h tq F9 N9 o1
      rw [List.take_of_length_le (by simp only [List.size_toArray, c3, List.length_map]; omega)] at hzs
      have hzS := hzs.strs
      have hzl : (c3 col t).length ≤ 10 := by simp only [c3, List.length_map]; omega
      have hshort := hk.short
      have hrl := hk.rlen
      have hhl := hk.hlen
      have hpre : (Txt.slice (Str.ofString "257 \"" ++ txt (c3 col t) ++ Str.ofString "\" \"") none (some 3) != Str.ofString "257") = false := hk.pre
      have hpe : prs (Str.ofString "257 \"" ++ txt (c3 col t) ++ Str.ofString "\" \"") = halves (c3 col t) := hk.eq
      have hne : (prs (Str.ofString "257 \"" ++ txt (c3 col t) ++ Str.ofString "\" \"") != halves (c3 col t)) = false := by rw [hpe]; simp
      have hsum : ((c3 col t).map (·.length)).sum + (c3 col t).length ≤ 1048576 := sum_short hzl hshort
      have hrR : (Str.ofString "257 \"" ++ txt (c3 col t) ++ Str.ofString "\" \"").length ≤ 1000 := by
        rw [Str.length_append, Str.length_append, show (Str.ofString "257 \"").length = 5 by decide +kernel, show (Str.ofString "\" \"").length = 3 by decide +kernel]; omega
      obtain ⟨hv, hhv⟩ : ∃ hv, halves (c3 col t) = hv := ⟨_, rfl⟩
      rw [hhv] at hpe hhl
      rw [hpe] at hne
      generalize c3 col t = xs at *
      (try dsimp only)
      (repeat' (first | (k_unfold; (try dsimp only)) | (k_end; wrow_close) | (first | ((fail_if_success (with_reducible refine' gd9 (t := eval _ _) ?_)); (first | (with_reducible (((fail_if_success (fail_if_success (with_reducible refine' gd9 (t := execs (_ :: _) _) ?_))); k_dflt (refine' execs_B ?zm9 ?zn9 ?_; (case zm9 => with_reducible assumption); (case zn9 => (try dsimp only); omega)); (try dsimp only)))) | (with_reducible (((fail_if_success (fail_if_success (with_reducible refine' gd9 (t := execs (_ :: _) _) ?_))); first | k_gentoks | ((with_reducible refine wpAny_execs_cons ?_); (try dsimp only))))) | (with_reducible (((fail_if_success (fail_if_success (with_reducible refine' gd9 (t := exec (Stmt.For _ _ _ _ _) _) ?_))); k_dflt (refine' For_BT ?zm9 ?zn9 ?_; (case zm9 => with_reducible assumption); (case zn9 => (try dsimp only); omega))))) | ((fail_if_success (fail_if_success (with_reducible refine' gd9 (t := call _ _ _) ?_))); (first | (with_reducible (((fail_if_success (fail_if_success (with_reducible refine' gd9 (t := call (Value.builtin "str.join") [Value.str _ _, Value.ref _]) ?_))); k_dflt (refine' join_listW (News.isList (by k_asm) (by k_mem)) (by with_reducible assumption) (by decide +kernel) (by with_reducible assumption) ?_); intro _ _))) | (with_reducible (((fail_if_success (fail_if_success (with_reducible refine' gd9 (t := call (Value.ref 356) _) ?_))); k_dflt (refine' text_c (by k_asm) (by k_asm) (by k_asm) (by k_asm) (by k_asm) (by first | rfl | assumption) (by ktr_room) (by ktr_units) (by k_mem) (by with_reducible assumption) (by (try dsimp only); omega) (by with_reducible assumption) ?_); intro _ _ _ _ hx9 _ _; subst hx9; (try dsimp only); (try k_fold)))) | (with_reducible (((fail_if_success (fail_if_success (with_reducible refine' gd9 (t := call (Value.ref 351) _) ?_))); k_dflt (refine' rooms_c (by k_asm) (by k_asm) (by k_asm) (by k_asm) (by k_asm) (by first | rfl | assumption) (by ktr_room) (by ktr_units) ?_); intro _ _ _ _ _ _ _ _ _ _ _; (try dsimp only); (try k_fold)))) | (with_reducible (((fail_if_success (fail_if_success (with_reducible refine' gd9 (t := call (Value.ref 361) _) ?_))); k_dflt (refine' halves_c (by k_asm) (by k_asm) (by k_asm) (by k_asm) (by k_asm) (by first | rfl | assumption) (by ktr_room) (by ktr_units) (by k_mem) (by with_reducible assumption) (by with_reducible assumption) (by with_reducible assumption) ?_); intro _ _ _ _ hx9 _ _; subst hx9; (try dsimp only); (try k_fold)))) | (with_reducible (((fail_if_success (fail_if_success (with_reducible refine' gd9 (t := call (Value.ref 136) _) ?_))); k_dflt (refine' parse_e (by k_asm) (by k_asm) (by k_asm) (by k_asm) (by k_asm) (by first | rfl | assumption) (by ktr_room) (by ktr_units) (by first | with_reducible assumption | omega) (by with_reducible assumption) (by with_reducible assumption) ?_); intro _ _ _ _ _; (try dsimp only); (try k_fold)))) | (with_reducible (((fail_if_success (fail_if_success (with_reducible refine' gd9 (t := call (Value.ref 164) _) ?_))); k_dflt (refine' getitem_c (by k_asm) (by k_asm) (by k_asm) (by k_asm) (by k_asm) (by first | rfl | assumption) (by ktr_room) (by ktr_units) (by with_reducible assumption) (by first | with_reducible assumption | walk_at "sub") (by with_reducible assumption) (by with_reducible assumption) (by with_reducible assumption) (by with_reducible assumption) (by with_reducible assumption) (by with_reducible assumption) ?_); intro _ _ _ _ _ _; (try dsimp only); (try k_fold)))) | (with_reducible (((fail_if_success (fail_if_success (with_reducible refine' gd9 (t := call (Value.ref 320) _) ?_))); k_dflt (refine' named_c (by k_asm) (by k_asm) (by k_asm) (by k_asm) (by k_asm) (by first | rfl | assumption) (by ktr_room) (by ktr_units) (by k_mem) (by with_reducible assumption) (by with_reducible assumption) (by with_reducible assumption) ?_); intro _ _ _ _ _; (try dsimp only); (try k_fold)))) )) | (with_reducible ((first | ((fail_if_success (fail_if_success (with_reducible refine' gd9 (t := exec (Stmt.Assign _ (Expr.ListComp _ [⟨_, _, [], _⟩] _ _) _) _) ?_))); k_dflt (refine comp_assign (F₀ := by k_asm) (by rfl) (by with_unfolding_all rfl) (by with_unfolding_all rfl) (by decide) (by rfl) (by decide) (by rfl) (by rfl) (by rfl) ?_)) | ((fail_if_success (fail_if_success (with_reducible refine' gd9 (t := exec (Stmt.Assign _ (Expr.ListComp _ [⟨_, _, [_], _⟩] _ _) _) _) ?_))); k_dflt (refine compT_assign (F₀ := by k_asm) (by rfl) (by with_unfolding_all rfl) (by with_unfolding_all rfl) (by decide) (by rfl) (by decide) (by rfl) (by rfl) (by rfl) ?_))))) )) | walk1) | ((with_reducible show wpAny _ _ _ _ _ _); dsimp only) | (leave1; walk_say "STEP leave1"; try dsimp only) | fail "no step"))
      all_goals (
        have fin9 : ∀ st : Int × Int, cntStep (counted col (rooms.take k)) xs = st → ∀ (h' : Heap) (t' : Nat) (m' : Str → Option Value), Fr g L1 h' m' → News g L1 h' ((D, LCg.lst zs) :: (l, listOf ps.toArray c) :: tj) →
            (∃ u, m' (Str.ofString "surplus") = some (.int st.1 u)) → (∃ u, m' (Str.ofString "found") = some (.int st.2 u)) → Kt .next { s with heap := h', toks := t' } := fun st hst h' t' m' F' N' s1 s2 =>
          hNx _ _ _ _ ((l, listOf ps.toArray c) :: tl) (.inl rfl) F' (cb_drop N' (List.forall_mem_cons.mpr ⟨List.mem_cons_of_mem _ (List.mem_cons_of_mem _ hIj), List.forall_mem_cons.mpr ⟨List.mem_cons_of_mem _ List.mem_cons_self, fun q hq => List.mem_cons_of_mem _ (List.mem_cons_of_mem _ (htltj q hq))⟩⟩)) off fun ht => ⟨Nat.le_trans hbt ht, rfl, by rw [hkst, hst]; exact s1, by rw [hkst, hst]; exact s2⟩
        first
          | exact fin9 _ (by unfold cntStep isIn; rw [hhv, if_pos (by with_reducible assumption), if_pos (by with_reducible assumption)]) _ _ _ (by k_asm) (by k_asm) ⟨_, rfl⟩ ⟨_, rfl⟩
          | exact fin9 _ (by unfold cntStep isIn; rw [hhv, if_pos (by with_reducible assumption), if_neg (ne_true_of_eq_false (by with_reducible assumption))]) _ _ _ (by k_asm) (by k_asm) ⟨_, rfl⟩ ⟨_, rfl⟩
          | exact fin9 _ (by unfold cntStep; rw [hhv, if_neg (ne_true_of_eq_false (by with_reducible assumption))]) _ _ _ (by k_asm) (by k_asm) ⟨_, rfl⟩ ⟨_, rfl⟩)
  case done =>
    clear F9 N9
    rintro m₁ nw h tq ⟨hbt, rfl, ⟨u1, e1⟩, ⟨u2, e2⟩⟩ F2 N2
    have hrl := hrm.length
    rw [List.take_of_length_le (by simp only [List.size_toArray]; omega)] at e1 e2
    have F3 := fr_known F2 [(Str.ofString "surplus", .int (counted col rooms).1 u1), (Str.ofString "found", .int (counted col rooms).2 u2)] (by ((repeat (refine List.forall_mem_cons.mpr ⟨(by dsimp only; first | exact if_pos rfl | exact (if_neg (by decide +kernel)).trans (by first | with_reducible assumption | assumption) | (with_reducible assumption) | assumption), ?_⟩)); exact List.forall_mem_nil _))
    clear F2
    (try dsimp only)
    (repeat' (first | (k_unfold; (try dsimp only)) | (k_end; wrow_close) | (first | ((fail_if_success (with_reducible refine' gd9 (t := eval _ _) ?_)); (first | (with_reducible (((fail_if_success (fail_if_success (with_reducible refine' gd9 (t := execs (_ :: _) _) ?_))); k_dflt (refine' execs_B ?zm9 ?zn9 ?_; (case zm9 => with_reducible assumption); (case zn9 => (try dsimp only); omega)); (try dsimp only)))) | (with_reducible (((fail_if_success (fail_if_success (with_reducible refine' gd9 (t := execs (_ :: _) _) ?_))); first | k_gentoks | ((with_reducible refine wpAny_execs_cons ?_); (try dsimp only))))) | (with_reducible (((fail_if_success (fail_if_success (with_reducible refine' gd9 (t := exec (Stmt.For _ _ _ _ _) _) ?_))); k_dflt (refine' For_BT ?zm9 ?zn9 ?_; (case zm9 => with_reducible assumption); (case zn9 => (try dsimp only); omega))))) | ((fail_if_success (fail_if_success (with_reducible refine' gd9 (t := call _ _ _) ?_))); (first | (with_reducible (((fail_if_success (fail_if_success (with_reducible refine' gd9 (t := call (Value.builtin "str.join") [Value.str _ _, Value.ref _]) ?_))); k_dflt (refine' join_listW (News.isList (by k_asm) (by k_mem)) (by with_reducible assumption) (by decide +kernel) (by with_reducible assumption) ?_); intro _ _))) | (with_reducible (((fail_if_success (fail_if_success (with_reducible refine' gd9 (t := call (Value.ref 356) _) ?_))); k_dflt (refine' text_c (by k_asm) (by k_asm) (by k_asm) (by k_asm) (by k_asm) (by first | rfl | assumption) (by ktr_room) (by ktr_units) (by k_mem) (by with_reducible assumption) (by (try dsimp only); omega) (by with_reducible assumption) ?_); intro _ _ _ _ hx9 _ _; subst hx9; (try dsimp only); (try k_fold)))) | (with_reducible (((fail_if_success (fail_if_success (with_reducible refine' gd9 (t := call (Value.ref 351) _) ?_))); k_dflt (refine' rooms_c (by k_asm) (by k_asm) (by k_asm) (by k_asm) (by k_asm) (by first | rfl | assumption) (by ktr_room) (by ktr_units) ?_); intro _ _ _ _ _ _ _ _ _ _ _; (try dsimp only); (try k_fold)))) | (with_reducible (((fail_if_success (fail_if_success (with_reducible refine' gd9 (t := call (Value.ref 361) _) ?_))); k_dflt (refine' halves_c (by k_asm) (by k_asm) (by k_asm) (by k_asm) (by k_asm) (by first | rfl | assumption) (by ktr_room) (by ktr_units) (by k_mem) (by with_reducible assumption) (by with_reducible assumption) (by with_reducible assumption) ?_); intro _ _ _ _ hx9 _ _; subst hx9; (try dsimp only); (try k_fold)))) | (with_reducible (((fail_if_success (fail_if_success (with_reducible refine' gd9 (t := call (Value.ref 136) _) ?_))); k_dflt (refine' parse_e (by k_asm) (by k_asm) (by k_asm) (by k_asm) (by k_asm) (by first | rfl | assumption) (by ktr_room) (by ktr_units) (by first | with_reducible assumption | omega) (by with_reducible assumption) (by with_reducible assumption) ?_); intro _ _ _ _ _; (try dsimp only); (try k_fold)))) | (with_reducible (((fail_if_success (fail_if_success (with_reducible refine' gd9 (t := call (Value.ref 164) _) ?_))); k_dflt (refine' getitem_c (by k_asm) (by k_asm) (by k_asm) (by k_asm) (by k_asm) (by first | rfl | assumption) (by ktr_room) (by ktr_units) (by with_reducible assumption) (by first | with_reducible assumption | walk_at "sub") (by with_reducible assumption) (by with_reducible assumption) (by with_reducible assumption) (by with_reducible assumption) (by with_reducible assumption) (by with_reducible assumption) ?_); intro _ _ _ _ _ _; (try dsimp only); (try k_fold)))) | (with_reducible (((fail_if_success (fail_if_success (with_reducible refine' gd9 (t := call (Value.ref 320) _) ?_))); k_dflt (refine' named_c (by k_asm) (by k_asm) (by k_asm) (by k_asm) (by k_asm) (by first | rfl | assumption) (by ktr_room) (by ktr_units) (by k_mem) (by with_reducible assumption) (by with_reducible assumption) (by with_reducible assumption) ?_); intro _ _ _ _ _; (try dsimp only); (try k_fold)))) )) | (with_reducible ((first | ((fail_if_success (fail_if_success (with_reducible refine' gd9 (t := exec (Stmt.Assign _ (Expr.ListComp _ [⟨_, _, [], _⟩] _ _) _) _) ?_))); k_dflt (refine comp_assign (F₀ := by k_asm) (by rfl) (by with_unfolding_all rfl) (by with_unfolding_all rfl) (by decide) (by rfl) (by decide) (by rfl) (by rfl) (by rfl) ?_)) | ((fail_if_success (fail_if_success (with_reducible refine' gd9 (t := exec (Stmt.Assign _ (Expr.ListComp _ [⟨_, _, [_], _⟩] _ _) _) _) ?_))); k_dflt (refine compT_assign (F₀ := by k_asm) (by rfl) (by with_unfolding_all rfl) (by with_unfolding_all rfl) (by decide) (by rfl) (by decide) (by rfl) (by rfl) (by rfl) ?_))))) )) | walk1) | ((with_reducible show wpAny _ _ _ _ _ _); dsimp only) | (leave1; walk_say "STEP leave1"; try dsimp only) | fail "no step"))
    rename_i D9 h9' F9' N9' l19 _ _ kN9 _ _
    exact ret _ _ _ _ _ _ (List.forall_mem_cons.mpr ⟨Nat.ne_of_lt l19.1, fun q hq => Nat.ne_of_lt (allLt_mem l19.2 q (hrest q hq))⟩) (by k_asm) (cb_drop kN9 (List.forall_mem_cons.mpr ⟨List.mem_cons_self, List.forall_mem_cons.mpr ⟨List.mem_cons_of_mem _ List.mem_cons_self, fun q hq => List.mem_cons_of_mem _ (List.mem_cons_of_mem _ (hrest q hq))⟩⟩))
end

theorem rs_D8_cells : True := by w_top off; trivial
section
variable {w : World} {dp un : Nat} {gd : Option (List Code)} {cn : Str} {cs : Scope} {a : Addr} {ccd : Value} {cl : List (Str × Addr)} {outer : List Env} {A₀ : Around} {base h₀ : Heap} {L : Addr} {m : Str → Option Value} {s : Shared} {Q E : Value → Shared → Prop} {mean : ExcName → Option Value} {mg mb : Str → Option Value} {news : List (Addr × Obj)}

set_option maxRecDepth 100000 in
set_option maxHeartbeats 8000000 in
theorem cells_c (B : Below A₀ base outer h₀) (F : Fr h₀ L s.heap m) (X : (Mine.hk.heap_1 w.params).In h₀) (N : News h₀ L s.heap news) (T : Top Mine.V LS mean mg mb h₀) (hk : cs.kind = .function)
    (hdp : dp + 5 < recursionLimit) (hun : un + 100 < cLine) {sc : Addr} {vs : List Value} {ns : List Int} (hsc : h₀.IsList sc vs.toArray) (hns : IntsAre vs ns) (hl : ns.length ≤ 63)
    (ret : ∀ (l : Addr) (ys : List Value) (ms : List Int) (c : Nat) (h' : Heap) (tk' : Nat), IntsAre ys ms → ms.length = 11 → (∀ q ∈ news, (@Ne Nat q.1 l)) → Fr h₀ L h' m → News h₀ L h' ((l, listOf ys.toArray c) :: news) → Q (.ref l) { s with heap := h', toks := tk' }) :
    wpAny (model PySem.Challenge.rw_wo0081_01.row.prog w) (ktrTop dp un gd cn cs L a ccd cl outer) (call (.ref 313) [.ref sc]) Q E s := by
  refine wpAny_call ?_
  (k_dflt (refine' code_defG ?k1 ?k2 ?k3 ?k4 ?k5 ?kA ?kF ?kK ?k6 ?k7 ?k8 ?k9 ?kB ?_ ?c2 ?c3 ?c4 ?c5; (case kA => exact rfl); (case kF => exact rfl); (case kK => first | exact rfl | assumption); (case k1 => k_asm); (case k2 => k_asm); (case k3 => k_asm); (case k5 => k_asm); (case k6 => k_is); (case k7 => k_is); (case k8 => ktr_room); (case k9 => first | exact BindsTo.of_eq rfl | exact binds_K (by k_in) rfl (by k_is) rfl rfl rfl | fail "k_enter: no rule for these arguments"); (case kB => exact locs rfl); (case c2 => exact rfl); (case c3 => exact rfl); (case c4 => exact rfl); (case c5 => decide); k_whole))
  case k4 => exact cb_drop (news := []) N (by walk_at "sub")
  intro g L1 h1 FG F1 N1 B1 X1 T1 SK LT
  (try dsimp only); (try k_fold)
  have hsg : g.IsList sc vs.toArray := hsc.at fun o e => FG.keep _ _ e
  have hvl := hns.length
  (repeat ((fail_if_success (with_reducible show wpAny _ _ (pyIter _) _ _ _)); (first | (first | (with_reducible (((fail_if_success (fail_if_success (with_reducible refine' gd9 (t := execs (_ :: _) _) ?_))); first | k_gentoks | ((with_reducible refine wpAny_execs_cons ?_); (try dsimp only))))) | walk1) | dsimp only)))
  rename_i l9 _ _ _ F8 N8 _ _ t1 u1 v1 hR F9 N9 hk9
  refine for_inv (n := ns.length) (fun k m₁ nw => ∃ ys ms c, nw = [(l9, listOf (List.toArray ys) c)] ∧ IntsAre ys ms ∧ ms.length = 11 ∧ m₁ (Str.ofString "script") = some (.ref sc) ∧ m₁ (Str.ofString "cells") = some (.ref l9)) _
    (iter_range rfl hR (range_sm (by omega) (by omega)) (by rw [range_sz]; omega)) F9 N9 trivial ⟨_, [5, 4, 7, 2, 9, 5, 0, 3, 6, 1, 2], _, rfl, ?hj, rfl, rfl, rfl⟩ (fun _ _ _ _ => trivial) (fun _ _ h => h) ?turn ?done
  case hj => repeat (first | exact .nil | refine .cons _ _ ?_)
  case turn =>
    clear F9 N9 F8 N8 hR hk9
    rintro i v m₁ nw I oI h tq Kt hi hv ⟨ys, ms, c, rfl, hys, hms, e1, e2⟩ off F2 N2 hNx hBk hRt
    obtain ⟨uc, rfl⟩ := hv
    rw [Int.zero_add] at F2
    have F3 := fr_known F2 [(Str.ofString "script", .ref sc), (Str.ofString "cells", .ref l9), (Str.ofString "place", .int (i : Int) uc)] (by ((repeat (refine List.forall_mem_cons.mpr ⟨(by dsimp only; first | exact if_pos rfl | exact (if_neg (by decide +kernel)).trans (by first | with_reducible assumption | assumption) | (with_reducible assumption) | assumption), ?_⟩)); exact List.forall_mem_nil _))
    clear F2
    have hyl := hys.length
    have ofl : @Ne Nat l9 I := off _ List.mem_cons_self
    (repeat' (first | (k_unfold; (try dsimp only)) | (k_end; wrow_close) | (first | (with_reducible (((fail_if_success (fail_if_success (with_reducible refine' gd9 (t := execs (_ :: _) _) ?_))); first | k_gentoks | ((with_reducible refine wpAny_execs_cons ?_); (try dsimp only))))) | walk1) | ((with_reducible show wpAny _ _ _ _ _ _); dsimp only) | (leave1; walk_say "STEP leave1"; try dsimp only) | fail "no step"))
    rename_i t8 t9 h9 F9 N9 hi9 hl9 hs9
    exact hNx _ _ _ _ [(l9, listOf (List.toArray _) _)] (.inl rfl) F9 (cb_drop N9 (by walk_at "sub")) (fun p hp => by rw [List.mem_singleton.mp hp]; exact ofl) ⟨_, _, _, rfl, hi9, by rw [hl9]; exact hms, rfl, rfl⟩
  case done =>
    clear F9 N9 F8 N8 hR hk9
    rintro m₁ nw h tq ⟨ys, ms, c, rfl, hys, hms, e1, e2⟩ F2 N2
    have F3 := fr_known F2 [(Str.ofString "cells", .ref l9)] (by ((repeat (refine List.forall_mem_cons.mpr ⟨(by dsimp only; first | exact if_pos rfl | exact (if_neg (by decide +kernel)).trans (by first | with_reducible assumption | assumption) | (with_reducible assumption) | assumption), ?_⟩)); exact List.forall_mem_nil _))
    clear F2
    (try dsimp only)
    have hg : ∀ q ∈ news, g.get? q.1 = some q.2 := fun q hq => SK _ _ (N q hq).1 (by simp)
    (repeat' (first | (k_unfold; (try dsimp only)) | (k_end; wrow_close) | (first | (with_reducible (((fail_if_success (fail_if_success (with_reducible refine' gd9 (t := execs (_ :: _) _) ?_))); first | k_gentoks | ((with_reducible refine wpAny_execs_cons ?_); (try dsimp only))))) | walk1) | ((with_reducible show wpAny _ _ _ _ _ _); dsimp only) | (leave1; walk_say "STEP leave1"; try dsimp only) | fail "no step"))
    exact ret l9 ys ms c _ _ hys hms (fun q hq e => by have h1 := hg q hq; rw [show q.1 = l9 from e, (N2 _ List.mem_cons_self).2.2] at h1; cases h1) (by k_asm) (news_app (a := [(l9, listOf ys.toArray c)]) (by k_asm) fun q hq => ⟨F3.keep _ _ (hg q hq), (N q hq).2⟩)
end

theorem rs_D9_columns : True := by w_top off; trivial
theorem IterSrc.toT {prog : Program} {w : World} {A : Around} {h₀ : Heap} {L : Addr} {y : Str} {px : Pos} {xv : Value} {s : Shared} {n : Nat} {P : Nat → Value → Prop} {S : List (Addr × Obj) → Prop} (I : IterSrc prog w A h₀ L xv s n P S) : IterSrcT prog w A h₀ L (.Name y px) xv s n P S :=
  fun Q E h => I Q E fun o fp St hf W st hlt hfp hIo hSt => h o fp St hf W (fun i v s Q E st q => wpAny_pure q) st hlt hfp hIo hSt
theorem pick_but_last (ys : List Value) : slicePick ys.toArray none (some (-1)) none = (ys.take (ys.length - 1)).toArray := by
  rw [slicePick_plain]
  have e : clipAt ys.toArray.size (-1) = ys.length - 1 := by
    simp only [clipAt, List.size_toArray]
    split <;> omega
  show ((List.drop 0 ys.toArray.toList).take (clipAt ys.toArray.size (-1) - 0)).toArray = _
  rw [e, List.drop_zero, Nat.sub_zero]
/-- the runs of blanks ahead of each tab -/
def parts (x : Str) : List Str := Txt.split (Txt.slice x none (some (Txt.find x (Str.ofString ".")))) (Str.ofString "\t")
def runs (x : Str) : List Int := ((parts x).take ((parts x).length - 1)).map fun r => (r.length : Int)
structure ColOk (x : Str) : Prop where
  len : x.length ≤ 100
  find : 0 ≤ Txt.find x (Str.ofString ".") ∧ Txt.find x (Str.ofString ".") ≤ 100
  nrun : (runs x).length ≤ 100
  run : ∀ r ∈ runs x, 0 ≤ r ∧ r ≤ 100
  col : ∀ k : Nat, k < 5 → wsInd (wsOf x) (1 + (k : Int)) = Txt.find x (Str.ofString ".") + (1 + (k : Int) - 1) * ((runs x).length : Int) - ((runs x).map fun r => r.fmod (1 + (k : Int))).sum
  n : (wsOf x).n = Txt.find x (Str.ofString ".")
  nt : (wsOf x).nt = ((runs x).length : Int)
theorem ints_snoc {α : Type} {ys : List Value} {f : α → Int} {l : List α} {c : Nat} {b : α} {t : Tok} {x : Int} (h : IntsAre ys ((l.take c).map f)) (hb : l[c]? = some b) (e : x = f b) : IntsAre (ys ++ [.int x t]) ((l.take (c + 1)).map f) := by
  subst e
  rw [List.take_add_one, hb, List.map_append]
  exact IntsAre.append h (.cons _ _ .nil)
theorem sub1 {a : Addr × Obj} {own tl : List (Addr × Obj)} (h : ∀ p ∈ own, p ∈ tl) : ∀ p ∈ own, p ∈ a :: tl := fun p hp => List.mem_cons_of_mem _ (h p hp)
theorem sub2 {a b : Addr × Obj} {own tl : List (Addr × Obj)} (h : ∀ p ∈ own, p ∈ tl) : ∀ p ∈ own, p ∈ a :: b :: tl := sub1 (sub1 h)
theorem sub3 {a b c : Addr × Obj} {own tl : List (Addr × Obj)} (h : ∀ p ∈ own, p ∈ tl) : ∀ p ∈ own, p ∈ a :: b :: c :: tl := sub1 (sub2 h)
local macro_rules | `(tactic| walk_at "sub") => `(tactic| first | with_reducible assumption | exact sub1 (by with_reducible assumption) | exact sub2 (by with_reducible assumption) | exact sub3 (by with_reducible assumption) | fail "sub")
theorem ints_item : ∀ {vs : List Value} {ns : List Int}, IntsAre vs ns → ∀ (i : Nat) (v : Value), vs[i]? = some v → ∃ y t, v = .int y t ∧ ns[i]? = some y
  | _, _, .nil, i, v, h => by simp at h
  | _, _, .cons y t hr, i, v, h => by
    cases i with
    | zero => cases h; exact ⟨_, _, rfl, rfl⟩
    | succ i => exact ints_item hr i v h
section
variable {w : World} {dp un : Nat} {gd : Option (List Code)} {cn : Str} {cs : Scope} {a : Addr} {ccd : Value} {cl : List (Str × Addr)} {outer : List Env} {A₀ : Around} {base h₀ : Heap} {L : Addr} {m : Str → Option Value} {s : Shared} {Q E : Value → Shared → Prop} {mean : ExcName → Option Value} {mg mb : Str → Option Value} {news : List (Addr × Obj)}

set_option maxRecDepth 100000 in
set_option maxHeartbeats 8000000 in
theorem columns_c (B : Below A₀ base outer h₀) (F : Fr h₀ L s.heap m) (X : (Mine.hk.heap_1 w.params).In h₀) (N : News h₀ L s.heap news) (T : Top Mine.V LS mean mg mb h₀) (hk : cs.kind = .function)
    (hdp : dp + 10 < recursionLimit) (hun : un + 500 < cLine) {x : Str} {t : Tok} (hx : ColOk x)
    (ret : ∀ (h' : Heap) (tk' : Nat), Fr h₀ L h' m → News h₀ L h' news → Q (.bool true) { s with heap := h', toks := tk' }) :
    wpAny (model PySem.Challenge.rw_wo0081_01.row.prog w) (ktrTop dp un gd cn cs L a ccd cl outer) (call (.ref 371) [.str x t]) Q E s := by
  have hlen := hx.len
  refine wpAny_call ?_
  (k_dflt (refine' code_defCB ?k1 ?k2 ?k3 ?k4 ?k5 ?kA ?kF ?kK ?k6 ?k7 ?k8 ?k9 ?kB ?kD ?_ ?c2 ?c3 ?c4; (case kA => exact rfl); (case kF => exact rfl); (case kK => first | exact rfl | assumption); (case k1 => k_asm); (case k2 => k_asm); (case k3 => k_asm); (case k4 => k_asm); (case k5 => k_asm); (case k6 => k_is); (case k7 => k_is); (case k8 => ktr_room); (case k9 => first | exact BindsTo.of_eq rfl | exact binds_K (by k_in) rfl (by k_is) rfl rfl rfl | fail "k_enter: no rule for these arguments"); (case kB => exact rfl); (case kD => decide +kernel); (case c2 => exact rfl); (case c3 => exact rfl); (case c4 => exact rfl); k_whole; intro g L1 h1 tk1 cells9 hT9 FG F1 N1 Y1 B1 X1 T1 SK LT; (try k_lt LT); k_cells Y1; (try simp only [List.cons_append, List.nil_append] at N1); (try dsimp only); (try k_lift B1); (try k_fold)))
  rename_i o1 d1
  (repeat' (first | (k_unfold; (try dsimp only)) | (k_end; wrow_close) | (first | (with_reducible ((first | ((fail_if_success (fail_if_success (with_reducible refine' gd9 (t := eval (Expr.ListComp _ [⟨_, _, [], _⟩] _ _) _) ?_))); k_dflt (refine comp_eval (F₀ := by k_asm) (by with_unfolding_all rfl) (by decide) (by rfl) (by decide) (by rfl) ?_)) | ((fail_if_success (fail_if_success (with_reducible refine' gd9 (t := eval (Expr.ListComp _ [⟨_, _, [_], _⟩] _ _) _) ?_))); k_dflt (refine compT_eval (F₀ := by k_asm) (by with_unfolding_all rfl) (by decide) (by rfl) (by decide) (by rfl) ?_))))) | ((fail_if_success (with_reducible refine' gd9 (t := eval _ _) ?_)); (first | (with_reducible (((fail_if_success (fail_if_success (with_reducible refine' gd9 (t := execs (_ :: _) _) ?_))); first | k_gentoks | ((with_reducible refine wpAny_execs_cons ?_); (try dsimp only))))) | ((fail_if_success (fail_if_success (with_reducible refine' gd9 (t := call _ _ _) ?_))); (first | (with_reducible (((fail_if_success (fail_if_success (with_reducible refine' gd9 (t := call (Value.builtin "len") [Value.ref _]) ?_))); k_dflt (refine' lenL (by k_asm) (by k_mem) (by with_reducible assumption) (by omega) ?_)))) | (with_reducible (((fail_if_success (fail_if_success (with_reducible refine' gd9 (t := call (Value.ref 69) _) ?_))); k_dflt (refine' ind_c (by k_asm) (by k_asm) (by k_asm) (by k_asm) (by k_asm) (by first | rfl | assumption) (by ktr_room) (by ktr_units) (by with_reducible assumption) (by walk_at "sub") (by exact WsOk.len (by assumption)) (by exact WsOk.b (by assumption)) (by exact WsOk.nt (by assumption)) (by exact WsOk.cnt (by assumption)) (by omega) ?_); intro _ _ _ _ _; (try dsimp only); (try k_fold)))) | (with_reducible (((fail_if_success (fail_if_success (with_reducible refine' gd9 (t := call (Value.ref 100) _) ?_))); k_dflt (refine' ws_c (by k_asm) (by k_asm) (by k_asm) (by k_asm) (by k_asm) (by first | rfl | assumption) (by ktr_room) (by ktr_units) (by ((try dsimp only); first | with_reducible assumption | omega | (simp only [Str.length_append]; omega) | fail "slen")) ?_); intro _ _ _ _ _ _ _ _; (try dsimp only); (try k_fold)))) )) | (with_reducible (((fail_if_success (fail_if_success (with_reducible refine' gd9 (t := compareOp CmpOp.Eq (Value.ref _) (Value.ref _)) ?_))); k_dflt (refine eq_dataH (by ked_read) (by ked_read) (by ked_shaped) (by ked_shaped) (by ktr_units) ?_); ked_norm))) | (with_reducible ((first | ((fail_if_success (fail_if_success (with_reducible refine' gd9 (t := exec (Stmt.Assign _ (Expr.ListComp _ [⟨_, _, [], _⟩] _ _) _) _) ?_))); k_dflt (refine comp_assign (F₀ := by k_asm) (by rfl) (by with_unfolding_all rfl) (by with_unfolding_all rfl) (by decide) (by rfl) (by decide) (by rfl) (by rfl) (by rfl) ?_)) | ((fail_if_success (fail_if_success (with_reducible refine' gd9 (t := exec (Stmt.Assign _ (Expr.ListComp _ [⟨_, _, [_], _⟩] _ _) _) _) ?_))); k_dflt (refine compT_assign (F₀ := by k_asm) (by rfl) (by with_unfolding_all rfl) (by with_unfolding_all rfl) (by decide) (by rfl) (by decide) (by rfl) (by rfl) (by rfl) ?_))))) )) | walk1) | ((with_reducible show wpAny _ _ _ _ _ _); dsimp only) | (leave1; walk_say "STEP leave1"; try dsimp only) | fail "no step"))
  rename_i x9 own9 h9 tk9 hw9 hf9 _ _ _ _ _ h8 t8 k8 _ _ hsl lq h7 k7 hlq hSq hlenq hLq Fq Nq h6 F6 N6
  dsimp only at N6
  rw [pick_but_last] at N6
  have hSr : StrsAre ((strValues lq).take ((strValues lq).length - 1)) ((parts x).take ((parts x).length - 1)) := by
    have e : (strValues lq).length = (parts x).length := by rw [StrsAre.length hSq, hlq]; rfl
    rw [e, show parts x = lq.map (·.1) from hlq.symm]
    exact StrsAre.take' hSq _
  have hnr := hx.nrun
  have hrl : ((parts x).take ((parts x).length - 1)).length = (runs x).length := by rw [runs, List.length_map]
  have hrs : runs x = (((parts x).take ((parts x).length - 1)).map fun r => (r.length : Int)) := rfl
  have hrb := hx.run
  generalize (parts x).take ((parts x).length - 1) = rs at hSr hrl hrs
  generalize (strValues lq).take ((strValues lq).length - 1) = zq at hSr N6
  have hzq := StrsAre.length hSr
  have hrsb : ∀ r ∈ rs, r.length ≤ 100 := fun r hr => by
    have := hrb (r.length : Int) (by rw [hrs]; exact List.mem_map_of_mem hr); omega
  k_dflt (refine CSrc.of (iter_list rfl N6 List.mem_cons_self) F6 N6 List.mem_cons_self (by simp only [List.size_toArray, sizeLine]; omega) fun _ => rest_inv (K := Array.size _) (fun e zs nw => nw = _ ∧ IntsAre zs ((rs.take e).map fun r => (r.length : Int))) ?step ?fin _ _ _ _ (Nat.zero_add _) ⟨rfl, .nil⟩)
  case step =>
    rintro e v I oI C oC D zs nw m₂ h tq Q' E' he hv ⟨rfl, hzs⟩ hC hxx F9 N9 off ne hQ
    obtain ⟨y, ty, rfl, hy⟩ := StrsAre.item hSr e v (by simpa using hv)
    have hyl := hrsb y (List.mem_of_getElem? hy)
    (repeat' (first | (k_unfold; (try dsimp only)) | (k_end; wrow_close) | (first | (with_reducible ((first | ((fail_if_success (fail_if_success (with_reducible refine' gd9 (t := eval (Expr.ListComp _ [⟨_, _, [], _⟩] _ _) _) ?_))); k_dflt (refine comp_eval (F₀ := by k_asm) (by with_unfolding_all rfl) (by decide) (by rfl) (by decide) (by rfl) ?_)) | ((fail_if_success (fail_if_success (with_reducible refine' gd9 (t := eval (Expr.ListComp _ [⟨_, _, [_], _⟩] _ _) _) ?_))); k_dflt (refine compT_eval (F₀ := by k_asm) (by with_unfolding_all rfl) (by decide) (by rfl) (by decide) (by rfl) ?_))))) | ((fail_if_success (with_reducible refine' gd9 (t := eval _ _) ?_)); (first | (with_reducible (((fail_if_success (fail_if_success (with_reducible refine' gd9 (t := execs (_ :: _) _) ?_))); first | k_gentoks | ((with_reducible refine wpAny_execs_cons ?_); (try dsimp only))))) | ((fail_if_success (fail_if_success (with_reducible refine' gd9 (t := call _ _ _) ?_))); (first | (with_reducible (((fail_if_success (fail_if_success (with_reducible refine' gd9 (t := call (Value.builtin "len") [Value.ref _]) ?_))); k_dflt (refine' lenL (by k_asm) (by k_mem) (by with_reducible assumption) (by omega) ?_)))) | (with_reducible (((fail_if_success (fail_if_success (with_reducible refine' gd9 (t := call (Value.ref 69) _) ?_))); k_dflt (refine' ind_c (by k_asm) (by k_asm) (by k_asm) (by k_asm) (by k_asm) (by first | rfl | assumption) (by ktr_room) (by ktr_units) (by with_reducible assumption) (by walk_at "sub") (by exact WsOk.len (by assumption)) (by exact WsOk.b (by assumption)) (by exact WsOk.nt (by assumption)) (by exact WsOk.cnt (by assumption)) (by omega) ?_); intro _ _ _ _ _; (try dsimp only); (try k_fold)))) | (with_reducible (((fail_if_success (fail_if_success (with_reducible refine' gd9 (t := call (Value.ref 100) _) ?_))); k_dflt (refine' ws_c (by k_asm) (by k_asm) (by k_asm) (by k_asm) (by k_asm) (by first | rfl | assumption) (by ktr_room) (by ktr_units) (by ((try dsimp only); first | with_reducible assumption | omega | (simp only [Str.length_append]; omega) | fail "slen")) ?_); intro _ _ _ _ _ _ _ _; (try dsimp only); (try k_fold)))) )) | (with_reducible (((fail_if_success (fail_if_success (with_reducible refine' gd9 (t := compareOp CmpOp.Eq (Value.ref _) (Value.ref _)) ?_))); k_dflt (refine eq_dataH (by ked_read) (by ked_read) (by ked_shaped) (by ked_shaped) (by ktr_units) ?_); ked_norm))) | (with_reducible ((first | ((fail_if_success (fail_if_success (with_reducible refine' gd9 (t := exec (Stmt.Assign _ (Expr.ListComp _ [⟨_, _, [], _⟩] _ _) _) _) ?_))); k_dflt (refine comp_assign (F₀ := by k_asm) (by rfl) (by with_unfolding_all rfl) (by with_unfolding_all rfl) (by decide) (by rfl) (by decide) (by rfl) (by rfl) (by rfl) ?_)) | ((fail_if_success (fail_if_success (with_reducible refine' gd9 (t := exec (Stmt.Assign _ (Expr.ListComp _ [⟨_, _, [_], _⟩] _ _) _) _) ?_))); k_dflt (refine compT_assign (F₀ := by k_asm) (by rfl) (by with_unfolding_all rfl) (by with_unfolding_all rfl) (by decide) (by rfl) (by decide) (by rfl) (by rfl) (by rfl) ?_))))) )) | walk1) | ((with_reducible show wpAny _ _ _ _ _ _); dsimp only) | (leave1; walk_say "STEP leave1"; try dsimp only) | fail "no step"))
    exact hQ _ _ _ _ (by k_asm) (by k_asm) off List.mem_cons_self ⟨rfl, ints_snoc hzs hy rfl⟩
  case fin =>
    rintro zs nw ⟨rfl, hzs⟩ D h tq F9 N9 o1'
    rw [List.take_of_length_le (by simp only [List.size_toArray]; omega), ← hrs] at hzs
    have hDc : @Ne Nat D (L1 + 1) := fun e => off1_mem o1' (L1 + 1, o1) (by simp) e.symm
    obtain ⟨tl, Nt, htl, hDt, hownt, hnewt⟩ : ∃ tl, News g L1 h ((L1 + 1, o1) :: tl) ∧ (∀ q ∈ tl, @Ne Nat q.1 (L1 + 1)) ∧ (D, LCg.lst zs) ∈ tl ∧ (∀ q ∈ own9, q ∈ tl) ∧ (∀ q ∈ news, q ∈ tl) :=
      ⟨away (L1 + 1) _, news_away N9 (by simp), away_off, mem_away (by simp) hDc, fun q hq => mem_away (by simp [hq]) (Ne.symm (hf9 _ List.mem_cons_self _ hq)), fun q hq => mem_away (by simp [hq]) (fun e => absurd (LT q hq) (by rw [e]; exact Nat.not_lt.mpr (Nat.le_succ _)))⟩
    obtain ⟨dx, d11, u0, u1, u2, u3, u4, u5, u6, u7, me1, md1⟩ := hw9.facts (led := tl) hownt
    clear N9 o1' N6 F6 Nq Fq hLq hlenq hSq hlq
    have okw := ws_ok hlen
    (try dsimp only)
    (repeat' (first | (k_unfold; (try dsimp only)) | (k_end; wrow_close) | (first | (with_reducible ((first | ((fail_if_success (fail_if_success (with_reducible refine' gd9 (t := eval (Expr.ListComp _ [⟨_, _, [], _⟩] _ _) _) ?_))); k_dflt (refine comp_eval (F₀ := by k_asm) (by with_unfolding_all rfl) (by decide) (by rfl) (by decide) (by rfl) ?_)) | ((fail_if_success (fail_if_success (with_reducible refine' gd9 (t := eval (Expr.ListComp _ [⟨_, _, [_], _⟩] _ _) _) ?_))); k_dflt (refine compT_eval (F₀ := by k_asm) (by with_unfolding_all rfl) (by decide) (by rfl) (by decide) (by rfl) ?_))))) | ((fail_if_success (with_reducible refine' gd9 (t := eval _ _) ?_)); (first | (with_reducible (((fail_if_success (fail_if_success (with_reducible refine' gd9 (t := execs (_ :: _) _) ?_))); first | k_gentoks | ((with_reducible refine wpAny_execs_cons ?_); (try dsimp only))))) | ((fail_if_success (fail_if_success (with_reducible refine' gd9 (t := call _ _ _) ?_))); (first | (with_reducible (((fail_if_success (fail_if_success (with_reducible refine' gd9 (t := call (Value.builtin "len") [Value.ref _]) ?_))); k_dflt (refine' lenL (by k_asm) (by k_mem) (by with_reducible assumption) (by omega) ?_)))) | (with_reducible (((fail_if_success (fail_if_success (with_reducible refine' gd9 (t := call (Value.ref 69) _) ?_))); k_dflt (refine' ind_c (by k_asm) (by k_asm) (by k_asm) (by k_asm) (by k_asm) (by first | rfl | assumption) (by ktr_room) (by ktr_units) (by with_reducible assumption) (by walk_at "sub") (by exact WsOk.len (by assumption)) (by exact WsOk.b (by assumption)) (by exact WsOk.nt (by assumption)) (by exact WsOk.cnt (by assumption)) (by omega) ?_); intro _ _ _ _ _; (try dsimp only); (try k_fold)))) | (with_reducible (((fail_if_success (fail_if_success (with_reducible refine' gd9 (t := call (Value.ref 100) _) ?_))); k_dflt (refine' ws_c (by k_asm) (by k_asm) (by k_asm) (by k_asm) (by k_asm) (by first | rfl | assumption) (by ktr_room) (by ktr_units) (by ((try dsimp only); first | with_reducible assumption | omega | (simp only [Str.length_append]; omega) | fail "slen")) ?_); intro _ _ _ _ _ _ _ _; (try dsimp only); (try k_fold)))) )) | (with_reducible (((fail_if_success (fail_if_success (with_reducible refine' gd9 (t := compareOp CmpOp.Eq (Value.ref _) (Value.ref _)) ?_))); k_dflt (refine eq_dataH (by ked_read) (by ked_read) (by ked_shaped) (by ked_shaped) (by ktr_units) ?_); ked_norm))) | (with_reducible ((first | ((fail_if_success (fail_if_success (with_reducible refine' gd9 (t := exec (Stmt.Assign _ (Expr.ListComp _ [⟨_, _, [], _⟩] _ _) _) _) ?_))); k_dflt (refine comp_assign (F₀ := by k_asm) (by rfl) (by with_unfolding_all rfl) (by with_unfolding_all rfl) (by decide) (by rfl) (by decide) (by rfl) (by rfl) (by rfl) ?_)) | ((fail_if_success (fail_if_success (with_reducible refine' gd9 (t := exec (Stmt.Assign _ (Expr.ListComp _ [⟨_, _, [_], _⟩] _ _) _) _) ?_))); k_dflt (refine compT_assign (F₀ := by k_asm) (by rfl) (by with_unfolding_all rfl) (by with_unfolding_all rfl) (by decide) (by rfl) (by decide) (by rfl) (by rfl) (by rfl) ?_))))) )) | walk1) | ((with_reducible show wpAny _ _ _ _ _ _); dsimp only) | (leave1; walk_say "STEP leave1"; try dsimp only) | fail "no step"))
    (rename Fr g L1 _ _ => F7)
    refine For_turns F7 ?_
    (repeat ((fail_if_success (with_reducible show wpAny _ _ (pyIter _) _ _ _)); (first | (first | (with_reducible ((first | ((fail_if_success (fail_if_success (with_reducible refine' gd9 (t := eval (Expr.ListComp _ [⟨_, _, [], _⟩] _ _) _) ?_))); k_dflt (refine comp_eval (F₀ := by k_asm) (by with_unfolding_all rfl) (by decide) (by rfl) (by decide) (by rfl) ?_)) | ((fail_if_success (fail_if_success (with_reducible refine' gd9 (t := eval (Expr.ListComp _ [⟨_, _, [_], _⟩] _ _) _) ?_))); k_dflt (refine compT_eval (F₀ := by k_asm) (by with_unfolding_all rfl) (by decide) (by rfl) (by decide) (by rfl) ?_))))) | ((fail_if_success (with_reducible refine' gd9 (t := eval _ _) ?_)); (first | (with_reducible (((fail_if_success (fail_if_success (with_reducible refine' gd9 (t := execs (_ :: _) _) ?_))); first | k_gentoks | ((with_reducible refine wpAny_execs_cons ?_); (try dsimp only))))) | ((fail_if_success (fail_if_success (with_reducible refine' gd9 (t := call _ _ _) ?_))); (first | (with_reducible (((fail_if_success (fail_if_success (with_reducible refine' gd9 (t := call (Value.builtin "len") [Value.ref _]) ?_))); k_dflt (refine' lenL (by k_asm) (by k_mem) (by with_reducible assumption) (by omega) ?_)))) | (with_reducible (((fail_if_success (fail_if_success (with_reducible refine' gd9 (t := call (Value.ref 69) _) ?_))); k_dflt (refine' ind_c (by k_asm) (by k_asm) (by k_asm) (by k_asm) (by k_asm) (by first | rfl | assumption) (by ktr_room) (by ktr_units) (by with_reducible assumption) (by walk_at "sub") (by exact WsOk.len (by assumption)) (by exact WsOk.b (by assumption)) (by exact WsOk.nt (by assumption)) (by exact WsOk.cnt (by assumption)) (by omega) ?_); intro _ _ _ _ _; (try dsimp only); (try k_fold)))) | (with_reducible (((fail_if_success (fail_if_success (with_reducible refine' gd9 (t := call (Value.ref 100) _) ?_))); k_dflt (refine' ws_c (by k_asm) (by k_asm) (by k_asm) (by k_asm) (by k_asm) (by first | rfl | assumption) (by ktr_room) (by ktr_units) (by ((try dsimp only); first | with_reducible assumption | omega | (simp only [Str.length_append]; omega) | fail "slen")) ?_); intro _ _ _ _ _ _ _ _; (try dsimp only); (try k_fold)))) )) | (with_reducible (((fail_if_success (fail_if_success (with_reducible refine' gd9 (t := compareOp CmpOp.Eq (Value.ref _) (Value.ref _)) ?_))); k_dflt (refine eq_dataH (by ked_read) (by ked_read) (by ked_shaped) (by ked_shaped) (by ktr_units) ?_); ked_norm))) | (with_reducible ((first | ((fail_if_success (fail_if_success (with_reducible refine' gd9 (t := exec (Stmt.Assign _ (Expr.ListComp _ [⟨_, _, [], _⟩] _ _) _) _) ?_))); k_dflt (refine comp_assign (F₀ := by k_asm) (by rfl) (by with_unfolding_all rfl) (by with_unfolding_all rfl) (by decide) (by rfl) (by decide) (by rfl) (by rfl) (by rfl) ?_)) | ((fail_if_success (fail_if_success (with_reducible refine' gd9 (t := exec (Stmt.Assign _ (Expr.ListComp _ [⟨_, _, [_], _⟩] _ _) _) _) ?_))); k_dflt (refine compT_assign (F₀ := by k_asm) (by rfl) (by with_unfolding_all rfl) (by with_unfolding_all rfl) (by decide) (by rfl) (by decide) (by rfl) (by rfl) (by rfl) ?_))))) )) | walk1) | dsimp only)))
    (rename IsRange _ _ 1 _ _ _ _ _ => hR); (rename Fr g L1 _ _ => F8); (rename News g L1 _ _ => N8)
    have hcl := hx.col
    have hfd := hx.find
    generalize hfx : Txt.find x (Str.ofString ".") = sg at *
    refine for_invT (fun _ m₁ nw => (∃ (v : Option Value) (o : Obj), o.data = .cell v ∧ nw = (L1 + 1, o) :: tl) ∧ m₁ (Str.ofString "lead") = some (.ref x9) ∧ (∃ u, m₁ (Str.ofString "signs") = some (.int sg u)) ∧ m₁ (Str.ofString "runs") = some (.ref D)) _
      (IterSrc.toT (iter_range rfl hR (range_sm (by omega) (by omega)) (n := 5) (by rw [range_sz]; rfl))) F8 N8 trivial ⟨⟨_, _, d1, rfl⟩, rfl, ⟨_, rfl⟩, rfl⟩ (fun _ _ _ _ => trivial) (fun _ _ h => h) ?turn ?done
    case turn =>
      rintro i v m₁ nw I oI h tq Kt hi hv ⟨⟨v0, o, ho, rfl⟩, e1, ⟨ug, e2⟩, e3⟩ off F2 N2 hNx hBk hRt
      obtain ⟨uc, rfl⟩ := hv
      have F3 := fr_known F2 [(Str.ofString "lead", .ref x9), (Str.ofString "signs", .int sg ug), (Str.ofString "runs", .ref D)] (by ((repeat (refine List.forall_mem_cons.mpr ⟨(by dsimp only; first | exact if_pos rfl | exact (if_neg (by decide +kernel)).trans (by first | with_reducible assumption | assumption) | (with_reducible assumption) | assumption), ?_⟩)); exact List.forall_mem_nil _))
      clear F2 F8 N8 hR; (try clear F7); (try clear Nt)
      have of1 : @Ne Nat (L1 + 1) I := off _ List.mem_cons_self
      have hci := hcl i hi
      have hlz : zs.toArray.size = (runs x).length := by rw [List.size_toArray, hzs.length]
      (repeat' (first | (k_unfold; (try dsimp only)) | (k_end; wrow_close) | (first | (with_reducible ((first | ((fail_if_success (fail_if_success (with_reducible refine' gd9 (t := eval (Expr.ListComp _ [⟨_, _, [], _⟩] _ _) _) ?_))); k_dflt (refine comp_eval (F₀ := by k_asm) (by with_unfolding_all rfl) (by decide) (by rfl) (by decide) (by rfl) ?_)) | ((fail_if_success (fail_if_success (with_reducible refine' gd9 (t := eval (Expr.ListComp _ [⟨_, _, [_], _⟩] _ _) _) ?_))); k_dflt (refine compT_eval (F₀ := by k_asm) (by with_unfolding_all rfl) (by decide) (by rfl) (by decide) (by rfl) ?_))))) | ((fail_if_success (with_reducible refine' gd9 (t := eval _ _) ?_)); (first | (with_reducible (((fail_if_success (fail_if_success (with_reducible refine' gd9 (t := execs (_ :: _) _) ?_))); first | k_gentoks | ((with_reducible refine wpAny_execs_cons ?_); (try dsimp only))))) | ((fail_if_success (fail_if_success (with_reducible refine' gd9 (t := call _ _ _) ?_))); (first | (with_reducible (((fail_if_success (fail_if_success (with_reducible refine' gd9 (t := call (Value.builtin "len") [Value.ref _]) ?_))); k_dflt (refine' lenL (by k_asm) (by k_mem) (by with_reducible assumption) (by omega) ?_)))) | (with_reducible (((fail_if_success (fail_if_success (with_reducible refine' gd9 (t := call (Value.ref 69) _) ?_))); k_dflt (refine' ind_c (by k_asm) (by k_asm) (by k_asm) (by k_asm) (by k_asm) (by first | rfl | assumption) (by ktr_room) (by ktr_units) (by with_reducible assumption) (by walk_at "sub") (by exact WsOk.len (by assumption)) (by exact WsOk.b (by assumption)) (by exact WsOk.nt (by assumption)) (by exact WsOk.cnt (by assumption)) (by omega) ?_); intro _ _ _ _ _; (try dsimp only); (try k_fold)))) | (with_reducible (((fail_if_success (fail_if_success (with_reducible refine' gd9 (t := call (Value.ref 100) _) ?_))); k_dflt (refine' ws_c (by k_asm) (by k_asm) (by k_asm) (by k_asm) (by k_asm) (by first | rfl | assumption) (by ktr_room) (by ktr_units) (by ((try dsimp only); first | with_reducible assumption | omega | (simp only [Str.length_append]; omega) | fail "slen")) ?_); intro _ _ _ _ _ _ _ _; (try dsimp only); (try k_fold)))) )) | (with_reducible (((fail_if_success (fail_if_success (with_reducible refine' gd9 (t := compareOp CmpOp.Eq (Value.ref _) (Value.ref _)) ?_))); k_dflt (refine eq_dataH (by ked_read) (by ked_read) (by ked_shaped) (by ked_shaped) (by ktr_units) ?_); ked_norm))) | (with_reducible ((first | ((fail_if_success (fail_if_success (with_reducible refine' gd9 (t := exec (Stmt.Assign _ (Expr.ListComp _ [⟨_, _, [], _⟩] _ _) _) _) ?_))); k_dflt (refine comp_assign (F₀ := by k_asm) (by rfl) (by with_unfolding_all rfl) (by with_unfolding_all rfl) (by decide) (by rfl) (by decide) (by rfl) (by rfl) (by rfl) ?_)) | ((fail_if_success (fail_if_success (with_reducible refine' gd9 (t := exec (Stmt.Assign _ (Expr.ListComp _ [⟨_, _, [_], _⟩] _ _) _) _) ?_))); k_dflt (refine compT_assign (F₀ := by k_asm) (by rfl) (by with_unfolding_all rfl) (by with_unfolding_all rfl) (by decide) (by rfl) (by decide) (by rfl) (by rfl) (by rfl) ?_))))) )) | walk1) | ((with_reducible show wpAny _ _ _ _ _ _); dsimp only) | (leave1; walk_say "STEP leave1"; try dsimp only) | fail "no step"))
      rename_i h5 o5 F5 N5 d5 t6 h6 k6 F6 N6
      clear F5 N5
      k_dflt (refine CSrc.of (iter_list rfl N6 (List.mem_cons_of_mem _ (List.mem_cons_of_mem _ hDt))) F6 N6 (List.mem_cons_of_mem _ (List.mem_cons_of_mem _ hDt)) (by simp only [List.size_toArray, sizeLine]; rw [hzs.length]; omega) fun _ => rest_inv (K := Array.size _) (fun e us nw => nw = _ ∧ IntsAre us (((runs x).take e).map fun r => r.fmod (1 + (i : Int)))) ?step2 ?fin2 _ _ _ _ (Nat.zero_add _) ⟨rfl, .nil⟩)
      case step2 =>
        rintro e v I' oI' C oC D' us nw m₂ h tq Q' E' he hv ⟨rfl, hus⟩ hC hxx F9 N9 off' ne hQ
        obtain ⟨y, ty, rfl, hy⟩ := ints_item hzs e v (by simpa using hv)
        obtain ⟨hyl, hyu⟩ := hrb y (List.mem_of_getElem? hy)
        (repeat' (first | (k_unfold; (try dsimp only)) | (k_end; wrow_close) | (first | (with_reducible ((first | ((fail_if_success (fail_if_success (with_reducible refine' gd9 (t := eval (Expr.ListComp _ [⟨_, _, [], _⟩] _ _) _) ?_))); k_dflt (refine comp_eval (F₀ := by k_asm) (by with_unfolding_all rfl) (by decide) (by rfl) (by decide) (by rfl) ?_)) | ((fail_if_success (fail_if_success (with_reducible refine' gd9 (t := eval (Expr.ListComp _ [⟨_, _, [_], _⟩] _ _) _) ?_))); k_dflt (refine compT_eval (F₀ := by k_asm) (by with_unfolding_all rfl) (by decide) (by rfl) (by decide) (by rfl) ?_))))) | ((fail_if_success (with_reducible refine' gd9 (t := eval _ _) ?_)); (first | (with_reducible (((fail_if_success (fail_if_success (with_reducible refine' gd9 (t := execs (_ :: _) _) ?_))); first | k_gentoks | ((with_reducible refine wpAny_execs_cons ?_); (try dsimp only))))) | ((fail_if_success (fail_if_success (with_reducible refine' gd9 (t := call _ _ _) ?_))); (first | (with_reducible (((fail_if_success (fail_if_success (with_reducible refine' gd9 (t := call (Value.builtin "len") [Value.ref _]) ?_))); k_dflt (refine' lenL (by k_asm) (by k_mem) (by with_reducible assumption) (by omega) ?_)))) | (with_reducible (((fail_if_success (fail_if_success (with_reducible refine' gd9 (t := call (Value.ref 69) _) ?_))); k_dflt (refine' ind_c (by k_asm) (by k_asm) (by k_asm) (by k_asm) (by k_asm) (by first | rfl | assumption) (by ktr_room) (by ktr_units) (by with_reducible assumption) (by walk_at "sub") (by exact WsOk.len (by assumption)) (by exact WsOk.b (by assumption)) (by exact WsOk.nt (by assumption)) (by exact WsOk.cnt (by assumption)) (by omega) ?_); intro _ _ _ _ _; (try dsimp only); (try k_fold)))) | (with_reducible (((fail_if_success (fail_if_success (with_reducible refine' gd9 (t := call (Value.ref 100) _) ?_))); k_dflt (refine' ws_c (by k_asm) (by k_asm) (by k_asm) (by k_asm) (by k_asm) (by first | rfl | assumption) (by ktr_room) (by ktr_units) (by ((try dsimp only); first | with_reducible assumption | omega | (simp only [Str.length_append]; omega) | fail "slen")) ?_); intro _ _ _ _ _ _ _ _; (try dsimp only); (try k_fold)))) )) | (with_reducible (((fail_if_success (fail_if_success (with_reducible refine' gd9 (t := compareOp CmpOp.Eq (Value.ref _) (Value.ref _)) ?_))); k_dflt (refine eq_dataH (by ked_read) (by ked_read) (by ked_shaped) (by ked_shaped) (by ktr_units) ?_); ked_norm))) | (with_reducible ((first | ((fail_if_success (fail_if_success (with_reducible refine' gd9 (t := exec (Stmt.Assign _ (Expr.ListComp _ [⟨_, _, [], _⟩] _ _) _) _) ?_))); k_dflt (refine comp_assign (F₀ := by k_asm) (by rfl) (by with_unfolding_all rfl) (by with_unfolding_all rfl) (by decide) (by rfl) (by decide) (by rfl) (by rfl) (by rfl) ?_)) | ((fail_if_success (fail_if_success (with_reducible refine' gd9 (t := exec (Stmt.Assign _ (Expr.ListComp _ [⟨_, _, [_], _⟩] _ _) _) _) ?_))); k_dflt (refine compT_assign (F₀ := by k_asm) (by rfl) (by with_unfolding_all rfl) (by with_unfolding_all rfl) (by decide) (by rfl) (by decide) (by rfl) (by rfl) (by rfl) ?_))))) )) | walk1) | ((with_reducible show wpAny _ _ _ _ _ _); dsimp only) | (leave1; walk_say "STEP leave1"; try dsimp only) | fail "no step"))
        exact hQ _ _ _ _ (by k_asm) (by k_asm) off' (List.mem_cons_of_mem _ (List.mem_cons_of_mem _ hDt)) ⟨rfl, ints_snoc hus hy rfl⟩
      case fin2 =>
        rintro us nw ⟨rfl, hus⟩ D' h tq F9 N9 o1'
        rw [List.take_of_length_le (by rw [hlz]; exact Nat.le_refl _)] at hus
        (try dsimp only)
        (repeat' (first | (k_unfold; (try dsimp only)) | (k_end; wrow_close) | (first | (with_reducible ((first | ((fail_if_success (fail_if_success (with_reducible refine' gd9 (t := eval (Expr.ListComp _ [⟨_, _, [], _⟩] _ _) _) ?_))); k_dflt (refine comp_eval (F₀ := by k_asm) (by with_unfolding_all rfl) (by decide) (by rfl) (by decide) (by rfl) ?_)) | ((fail_if_success (fail_if_success (with_reducible refine' gd9 (t := eval (Expr.ListComp _ [⟨_, _, [_], _⟩] _ _) _) ?_))); k_dflt (refine compT_eval (F₀ := by k_asm) (by with_unfolding_all rfl) (by decide) (by rfl) (by decide) (by rfl) ?_))))) | ((fail_if_success (with_reducible refine' gd9 (t := eval _ _) ?_)); (first | (with_reducible (((fail_if_success (fail_if_success (with_reducible refine' gd9 (t := execs (_ :: _) _) ?_))); first | k_gentoks | ((with_reducible refine wpAny_execs_cons ?_); (try dsimp only))))) | ((fail_if_success (fail_if_success (with_reducible refine' gd9 (t := call _ _ _) ?_))); (first | (with_reducible (((fail_if_success (fail_if_success (with_reducible refine' gd9 (t := call (Value.builtin "len") [Value.ref _]) ?_))); k_dflt (refine' lenL (by k_asm) (by k_mem) (by with_reducible assumption) (by omega) ?_)))) | (with_reducible (((fail_if_success (fail_if_success (with_reducible refine' gd9 (t := call (Value.ref 69) _) ?_))); k_dflt (refine' ind_c (by k_asm) (by k_asm) (by k_asm) (by k_asm) (by k_asm) (by first | rfl | assumption) (by ktr_room) (by ktr_units) (by with_reducible assumption) (by walk_at "sub") (by exact WsOk.len (by assumption)) (by exact WsOk.b (by assumption)) (by exact WsOk.nt (by assumption)) (by exact WsOk.cnt (by assumption)) (by omega) ?_); intro _ _ _ _ _; (try dsimp only); (try k_fold)))) | (with_reducible (((fail_if_success (fail_if_success (with_reducible refine' gd9 (t := call (Value.ref 100) _) ?_))); k_dflt (refine' ws_c (by k_asm) (by k_asm) (by k_asm) (by k_asm) (by k_asm) (by first | rfl | assumption) (by ktr_room) (by ktr_units) (by ((try dsimp only); first | with_reducible assumption | omega | (simp only [Str.length_append]; omega) | fail "slen")) ?_); intro _ _ _ _ _ _ _ _; (try dsimp only); (try k_fold)))) )) | (with_reducible (((fail_if_success (fail_if_success (with_reducible refine' gd9 (t := compareOp CmpOp.Eq (Value.ref _) (Value.ref _)) ?_))); k_dflt (refine eq_dataH (by ked_read) (by ked_read) (by ked_shaped) (by ked_shaped) (by ktr_units) ?_); ked_norm))) | (with_reducible ((first | ((fail_if_success (fail_if_success (with_reducible refine' gd9 (t := exec (Stmt.Assign _ (Expr.ListComp _ [⟨_, _, [], _⟩] _ _) _) _) ?_))); k_dflt (refine comp_assign (F₀ := by k_asm) (by rfl) (by with_unfolding_all rfl) (by with_unfolding_all rfl) (by decide) (by rfl) (by decide) (by rfl) (by rfl) (by rfl) ?_)) | ((fail_if_success (fail_if_success (with_reducible refine' gd9 (t := exec (Stmt.Assign _ (Expr.ListComp _ [⟨_, _, [_], _⟩] _ _) _) _) ?_))); k_dflt (refine compT_assign (F₀ := by k_asm) (by rfl) (by with_unfolding_all rfl) (by with_unfolding_all rfl) (by decide) (by rfl) (by decide) (by rfl) (by rfl) (by rfl) ?_))))) )) | walk1) | ((with_reducible show wpAny _ _ _ _ _ _); dsimp only) | (leave1; walk_say "STEP leave1"; try dsimp only) | fail "no step"))
        case _ => exact absurd hci (by assumption)
        case _ =>
          exact hNx _ _ _ _ ((L1 + 1, o5) :: tl) (.inl rfl) (by k_asm) (cb_drop (by k_asm) (by walk_at "sub")) (List.forall_mem_cons.mpr ⟨of1, fun q hq => off q (List.mem_cons_of_mem _ hq)⟩) ⟨⟨_, o5, d5, rfl⟩, rfl, ⟨_, rfl⟩, rfl⟩
    case done =>
      rintro m₁ nw h tq ⟨⟨v0, o, ho, rfl⟩, e1, ⟨ug, e2⟩, e3⟩ F2 N2
      have F3 := fr_known F2 [(Str.ofString "lead", .ref x9), (Str.ofString "signs", .int sg ug), (Str.ofString "runs", .ref D)] (by ((repeat (refine List.forall_mem_cons.mpr ⟨(by dsimp only; first | exact if_pos rfl | exact (if_neg (by decide +kernel)).trans (by first | with_reducible assumption | assumption) | (with_reducible assumption) | assumption), ?_⟩)); exact List.forall_mem_nil _))
      clear F2 F8 N8 hR; (try clear F7); (try clear Nt)
      have hlz : zs.toArray.size = (runs x).length := by rw [List.size_toArray, hzs.length]
      have hn1 := hx.n
      have hn2 := hx.nt
      (try dsimp only)
      (repeat' (first | (k_unfold; (try dsimp only)) | (k_end; wrow_close) | (first | (with_reducible ((first | ((fail_if_success (fail_if_success (with_reducible refine' gd9 (t := eval (Expr.ListComp _ [⟨_, _, [], _⟩] _ _) _) ?_))); k_dflt (refine comp_eval (F₀ := by k_asm) (by with_unfolding_all rfl) (by decide) (by rfl) (by decide) (by rfl) ?_)) | ((fail_if_success (fail_if_success (with_reducible refine' gd9 (t := eval (Expr.ListComp _ [⟨_, _, [_], _⟩] _ _) _) ?_))); k_dflt (refine compT_eval (F₀ := by k_asm) (by with_unfolding_all rfl) (by decide) (by rfl) (by decide) (by rfl) ?_))))) | ((fail_if_success (with_reducible refine' gd9 (t := eval _ _) ?_)); (first | (with_reducible (((fail_if_success (fail_if_success (with_reducible refine' gd9 (t := execs (_ :: _) _) ?_))); first | k_gentoks | ((with_reducible refine wpAny_execs_cons ?_); (try dsimp only))))) | ((fail_if_success (fail_if_success (with_reducible refine' gd9 (t := call _ _ _) ?_))); (first | (with_reducible (((fail_if_success (fail_if_success (with_reducible refine' gd9 (t := call (Value.builtin "len") [Value.ref _]) ?_))); k_dflt (refine' lenL (by k_asm) (by k_mem) (by with_reducible assumption) (by omega) ?_)))) | (with_reducible (((fail_if_success (fail_if_success (with_reducible refine' gd9 (t := call (Value.ref 69) _) ?_))); k_dflt (refine' ind_c (by k_asm) (by k_asm) (by k_asm) (by k_asm) (by k_asm) (by first | rfl | assumption) (by ktr_room) (by ktr_units) (by with_reducible assumption) (by walk_at "sub") (by exact WsOk.len (by assumption)) (by exact WsOk.b (by assumption)) (by exact WsOk.nt (by assumption)) (by exact WsOk.cnt (by assumption)) (by omega) ?_); intro _ _ _ _ _; (try dsimp only); (try k_fold)))) | (with_reducible (((fail_if_success (fail_if_success (with_reducible refine' gd9 (t := call (Value.ref 100) _) ?_))); k_dflt (refine' ws_c (by k_asm) (by k_asm) (by k_asm) (by k_asm) (by k_asm) (by first | rfl | assumption) (by ktr_room) (by ktr_units) (by ((try dsimp only); first | with_reducible assumption | omega | (simp only [Str.length_append]; omega) | fail "slen")) ?_); intro _ _ _ _ _ _ _ _; (try dsimp only); (try k_fold)))) )) | (with_reducible (((fail_if_success (fail_if_success (with_reducible refine' gd9 (t := compareOp CmpOp.Eq (Value.ref _) (Value.ref _)) ?_))); k_dflt (refine eq_dataH (by ked_read) (by ked_read) (by ked_shaped) (by ked_shaped) (by ktr_units) ?_); ked_norm))) | (with_reducible ((first | ((fail_if_success (fail_if_success (with_reducible refine' gd9 (t := exec (Stmt.Assign _ (Expr.ListComp _ [⟨_, _, [], _⟩] _ _) _) _) ?_))); k_dflt (refine comp_assign (F₀ := by k_asm) (by rfl) (by with_unfolding_all rfl) (by with_unfolding_all rfl) (by decide) (by rfl) (by decide) (by rfl) (by rfl) (by rfl) ?_)) | ((fail_if_success (fail_if_success (with_reducible refine' gd9 (t := exec (Stmt.Assign _ (Expr.ListComp _ [⟨_, _, [_], _⟩] _ _) _) _) ?_))); k_dflt (refine compT_assign (F₀ := by k_asm) (by rfl) (by with_unfolding_all rfl) (by with_unfolding_all rfl) (by decide) (by rfl) (by decide) (by rfl) (by rfl) (by rfl) ?_))))) )) | walk1) | ((with_reducible show wpAny _ _ _ _ _ _); dsimp only) | (leave1; walk_say "STEP leave1"; try dsimp only) | fail "no step"))
      have e9 : ((wsOf x).n == sg && (wsOf x).nt == ((runs x).length : Int)) = true := by rw [hn1, hn2, hfx]; simp
      rw [e9]
      exact ret _ _ (by k_asm) (cb_drop (by k_asm) (by intro q hq; repeat (first | exact hnewt q hq | refine List.mem_cons_of_mem _ ?_)))
end

theorem rs_E0_deep : True := by w_top off; trivial
section
variable {prog : Program} {w : World} {A A₀ : Around} {s : Shared} {K : Frag} {L : Addr} {h₀ base : Heap} {m mg mb : Str → Option Value} {news : List (Addr × Obj)} {p : Program} {loose : List Str} {mean : ExcName → Option Value}
open PySem.Calls in
/-- the call of a def that catches, from the law's own frame, whose names may be cells -/
theorem code_defS0X {env : Env} {R : Result → Shared → Prop} {name qual : Str} {params : Arguments} {body : List Stmt} {scope : Scope} {dV kV doc pm cdv ct oc : Value} {an od : Option Addr} {osl : Array (Option Value)} {f : Addr} {args : Args} {binds : List (Str × Value)}
    (B : Below A₀ base [] h₀) (F : Fr h₀ L s.heap m) (X₀ : K.In h₀) (N : News h₀ L s.heap news) (T : Top p loose mean mg mb h₀) (hA : A.frames = some [env]) (hf : env.frame = some L) (hke : env.scope.kind = .function)
    (ho : K.lookup f = some ⟨oc, od, .func (fnOf name qual params body scope dV kV doc pm an cdv ct), osl⟩) (hcd : codeIn K cdv qual = true) (hroom : A.depth < recursionLimit)
    (hbind : BindsTo s (fnOf name qual params body scope dV kV doc pm an cdv ct) args binds) (hloc : ∀ y ∈ binds, scope.names.lookup y.1 = some .local)
    (h : ∀ g L' h₁, Fr h₀ L g m → Fr g L' h₁ (fun y => binds.reverse.lookup y) → News g L' h₁ news → Below A base [env] g → K.In g → Top p loose mean mg mb g → KtsDicts ([env].filterMap (·.frame)) g →
      (∀ b o, s.heap.get? b = some o → b ∉ news.map (·.1) → g.get? b = some o) → (∀ p ∈ news, p.1 < L') →
      wpAny (model prog w) (A.deeper (envOf qual scope L' f cdv)) (execs body (envOf qual scope L' f cdv))
        (fun fl s' => LeaveS0 ([env].filterMap (·.frame)) h₀ L m g R (match fl with | .ret v => v | _ => .none) s')
        (fun e s' => wpAny (model prog w) (A.deeper (envOf qual scope L' f cdv)) (leaving (envOf qual scope L' f cdv) e) (fun _ s'' => R (.error e) s'') (fun e' s'' => R (.error e') s'') s')
        { s with heap := h₁, toks := s.toks + binds.length })
    (hco : scope.isCoroutine = false) (hgen : scope.isGenerator = false) (hk : scope.kind = .function)
    (hcell : ∀ x ∈ scope.names, x.2 ≠ .cell) : codeAny (model prog w) A (.call (.ref f) args) R s := by
  obtain ⟨FG, BG, st, lv⟩ := groundX (R := R) B F N hA hf hke
  have X := X₀.keeps F.keep
  have hin : ∀ b, b ∈ [env].filterMap (·.frame) → b = L := fun b hb => by
    obtain ⟨env', he, hf'⟩ := List.mem_filterMap.mp hb
    rw [List.mem_singleton.mp he, hf] at hf'
    exact (Option.some.inj hf').symm
  obtain ⟨oL, es, ep, hLg, hLd, hLk, hLf⟩ := id FG.ns
  refine codeAny_call_def (fd := fnOf name qual params body scope dV kV doc pm an cdv ct) (body := body) (binds := binds) hroom (X _ _ ho) rfl (T.nolimit.keeps F.keep) (codeRec_of X hcd) rfl hbind hcell hloc (fun h₁ hns hk₁ => ?_) hco hgen hk
  refine wpAny_mono (h _ s.heap.objs.size h₁ FG ⟨hns, fun b o e => hk₁ b o (of_hideAll _ e), Nat.le_of_eq (hideAll_size _ _)⟩
    (fun p hp => ⟨hk₁ _ _ (N p hp).1, Nat.ne_of_lt (Heap.lt_size (N p hp).1), hideAll_none _ (List.mem_map_of_mem hp)⟩) BG (X₀.keeps st) (T.keeps st) (fun b hb => by rw [hin b hb]; exact ⟨oL, es, ep, hLg, hLd⟩)
    (fun b o e n => hideAll_get _ e n) (fun p hp => Heap.lt_size (N p hp).1)) (fun fl s' hl => ?_) fun _ _ y => y
  obtain ⟨g', L', m', news', T', F', N', k⟩ := hl
  have nL₀ : h₀.get? L = none := kts_self F
  obtain ⟨sl, hs⟩ := T'.up hLg
  refine k ⟨⟨_, es, ep, F'.keep _ _ hs, hLd, hLk, hLf⟩, fun b o e => F'.keep b o (T'.other b o (st b o e) fun q => ?_), F.above⟩ fun p hp => ⟨(N' p hp).1, fun q => ?_, ?_⟩
  · rw [hin b q, nL₀] at e; cases e
  · have := (N' p hp).2.2; rw [q, hs] at this; cases this
  · cases q : h₀.get? p.1 with
    | none => rfl
    | some o =>
      obtain ⟨sl', hs'⟩ := T'.up (st _ _ q)
      have := (N' p hp).2.2
      rw [hs'] at this; cases this
end

theorem rs_E0b_str : True := by w_top off; trivial
open PySem.Builtin PySem.Builtin.Str PySem.Builtin.BaseException PySem.Builtin.Exceptions PySem.Spec in
section
variable {prog : Program} {w : World} {A : Around} {E : Value → Shared → Prop} {s : Shared} {K : Frag} {e t C : Addr} {oe : Obj} {ws : Array Value} {m : Str} {u : Tok}
theorem own_inst {M : Model} {h : Heap} (X : K.In h) (he : h.get? e = some oe) (hc : oe.cls = .ref C) (hs : subIn K (.ref C) (.type "BaseException") = some true) : Looks M h (isInstance (.ref e) (.type "BaseException")) true := by
  unfold isInstance
  exact Looks.andThen (a := .ref C) (hc ▸ (Looks.ld he).andThen .now) (looks_subIn X hs)
theorem own_check (X : K.In s.heap) (he : s.heap.get? e = some oe) (hc : oe.cls = .ref C) (hs : subIn K (.ref C) (.type "BaseException") = some true) {M : Model} {Q : Unit → Shared → Prop} (hq : Q () s) :
    wpAny M A (checkBuiltinCall "BaseException.__str__" ⟨[.ref e], []⟩) Q E s := by
  have hsplit : splitId "BaseException.__str__" = some ("BaseException", "__str__") := by decide +kernel
  have h : (Manifest.find? "BaseException").bind (·.attrs.lookup "__str__") = some .slot := by decide +kernel
  have hk : builtinKind "BaseException.__str__" = (Manifest.find? "BaseException").bind (·.attrs.lookup "__str__") := by simp only [builtinKind, hsplit]
  have ha := F.args_bexc_str (.ref e)
  simp only [checkBuiltinCall, hk, h, hsplit]
  refine wpAny_bind ((own_inst X he hc hs).here ?_)
  simp only [Bool.not_true, Bool.false_eq_true, if_false]
  cases hsig : Manifest.signature? "BaseException.__str__" with
  | none => exact wpAny_pure hq
  | some sig =>
    simp only [argsOk, hsig] at ha
    have h2 : Bind.checkArgs "BaseException.__str__" sig ⟨[.ref e], []⟩ = pure () := ha
    show wpAny M A (Bind.checkArgs "BaseException.__str__" sig ⟨[.ref e], []⟩) Q E s
    rw [h2]; exact wpAny_pure hq
theorem own_args {M : Model} {items : List Value} {Q : Value × List Value → Shared → Prop} (he : s.heap.get? e = some oe) (hd : oe.data = .fields ws) (h0 : ws[0]? = some (.ref t)) (ht : s.heap.TupAt t items) (hq : Q (.ref t, items) s) :
    wpAny M A (bexcArgs (.ref e)) Q E s := by
  obtain ⟨ot, k, hto, _, htd⟩ := ht
  unfold bexcArgs
  refine wpAny_bind (wpAny_field he hd h0 (wpAny_bind (wpAny_seqItems hto htd ?_)))
  have : items.toArray.toList = items := by simp
  show wpAny M A (pure (Value.ref t, items.toArray.toList)) Q E s
  rw [this]; exact wpAny_pure hq
theorem own_entry {Q : Fin → Shared → Prop} (he : s.heap.get? e = some oe) (hd : oe.data = .fields ws) (h0 : ws[0]? = some (.ref t)) (ht : s.heap.TupAt t [.str m u]) (hq : Q (.done (.ret (.str m u))) s) :
    wpAny (model prog w) A (PySem.Builtin.«BaseException.__str__» ⟨[.ref e], []⟩) Q E s := by
  unfold PySem.Builtin.«BaseException.__str__»
  repeat (first | with_reducible refine own_args he hd h0 ht ?_ | wp_step)
  exact hq
theorem own_call {Q : Value → Shared → Prop} (X : K.In s.heap) (he : s.heap.get? e = some oe) (hc : oe.cls = .ref C) (hd : oe.data = .fields ws) (h0 : ws[0]? = some (.ref t)) (ht : s.heap.TupAt t [.str m u]) (hs : subIn K (.ref C) (.type "BaseException") = some true)
    (hq : Q (.str m u) s) : wpAny (model prog w) A (call (.builtin "BaseException.__str__") [.ref e]) Q E s :=
  wpAny_call (codeAny_call_builtin PySem.F.excStr_Exception.str.plain F.entry_bexc_str (own_check X he hc hs (own_entry he hd h0 ht hq)))
theorem own_strOf (hu : A.units < cLine) {Q : Value → Shared → Prop} (X : K.In s.heap) (he : s.heap.get? e = some oe) (hc : oe.cls = .ref C) (hd : oe.data = .fields ws) (h0 : ws[0]? = some (.ref t)) (ht : s.heap.TupAt t [.str m u]) (hs : subIn K (.ref C) (.type "BaseException") = some true)
    (hf : findIn K (.ref C) "__str__" = some (some (.builtin "BaseException.__str__"))) (hq : Q (.str m u) s) : wpAny (model prog w) A (PySem.Builtin.Str.strOf (.ref e)) Q E s := by
  unfold PySem.Builtin.Str.strOf
  rw [show isExactStr (.ref e) = false from rfl]
  refine wpAny_bind (m := cRoomFor _ _) (wpAny_cRoomFor hu ?_)
  refine wpAny_bind (m := callSpecial? (.ref e) (Str.ofString "__str__")) ?_
  have hty : Looks (model prog w) s.heap (typeOf (.ref e)) (.ref C) := hc ▸ (Looks.ld he).andThen .now
  refine wpAny_bind (wpAny_bind (hty.here ((looks_findIn X hf).here (wpAny_holding (wpAny_bind (wpAny_of_eq (PySem.F.excStr_Exception.str.bind _) (wpAny_bind (own_call X he hc hd h0 ht hs (wpAny_pure ?_)))))))))
  exact wpAny_pure hq
theorem own_str {h₀ : Heap} {L : Addr} {news : List (Addr × Obj)} (hu : A.units + 2 < cLine) {Q : Value → Shared → Prop} (X : K.In s.heap) (N : News h₀ L s.heap news) (G : Got news e t (.ref C) [.str m u]) (hs : subIn K (.ref C) (.type "BaseException") = some true)
    (hf : findIn K (.ref C) "__str__" = some (some (.builtin "BaseException.__str__"))) (hq : Q (.str m u) s) : wpAny (model prog w) A (call (.type "str") [.ref e]) Q E s := by
  obtain ⟨oe, ot, ws, nt, h1, h2, hc, hd, h0, htc, htd⟩ := G
  exact callType_new F.called_str (by decide) (F.typeCall_str_1 _) (F.newCall_str_1 _) (fun obj => F.args_object_init_2 obj _) F.entry_str_new
    (meets_str_new (S := fun A' R s' => A'.units + 1 < cLine ∧ K.In s'.heap ∧ s'.heap.get? e = some oe ∧ s'.heap.TupAt t [.str m u] ∧ R (.ok (.ret (.str m u))) s')
      fun _ _ A' _ _ hq => own_strOf (A := A'.in1) hq.1 hq.2.1 hq.2.2.1 hc hd h0 hq.2.2.2.1 hs hf hq.2.2.2.2)
    ⟨(show A.units + 1 + 1 < cLine from hu), X, N.get h1, ⟨ot, nt, N.get h2, htc, htd⟩, typeIs_str _ _ _, hq⟩
end

theorem rs_E0c_forG : True := by w_top off; trivial
open PyProof.Rows.LCg PySem.Calls in
/-- a for loop over a list whose turns may turn the ground -/
theorem for_invG {prog : Program} {w : World} {A : Around} {E : Value → Shared → Prop} {s : Shared} {g₀ : Heap} {env : Env} {target : Expr} {body : List Stmt} {Q : Flow → Shared → Prop} {ax : Addr} {its : Array Value} {c : Nat} {dd : Option Addr} {sl : Array (Option Value)}
    {news : List (Addr × Obj)} {m₀ : Str → Option Value} (J : Nat → Heap → (Str → Option Value) → List (Addr × Obj) → Prop) (hh : A.handled = none)
    (F : Fr g₀ env.locals s.heap m₀) (N : News g₀ env.locals s.heap news) (hm : (ax, (⟨.type "list", dd, .seq its c, sl⟩ : Obj)) ∈ news) (hj : J 0 g₀ m₀ news) (hJS : ∀ i g m nw, J i g m nw → (ax, (⟨.type "list", dd, .seq its c, sl⟩ : Obj)) ∈ nw)
    (hE : PassesOwn (model prog w) A env E)
    (turn : ∀ i v g m₁ nw I oI h t (Kt : Flow → Shared → Prop), i < its.size → its[i]? = some v → J i g m₁ nw → (∀ p ∈ nw, (@Ne Nat p.1 I)) → Fr g env.locals h m₁ → News g env.locals h ((I, oI) :: nw) →
      (∀ f g' h' t' m' nw', f = .next ∨ f = .cont → (∀ b, g.get? b = none → g'.get? b = none) → Fr g' env.locals h' m' → News g' env.locals h' ((I, oI) :: nw') → (∀ p ∈ nw', (@Ne Nat p.1 I)) → J (i + 1) g' m' nw' → Kt f { s with heap := h', toks := t' }) →
      (∀ v s', Q (.ret v) s' → Kt (.ret v) s') →
      wpAny (model prog w) A (assign target env v) (fun _ s₃ => wpAny (model prog w) A (execs body env) Kt E s₃) E { s with heap := h, toks := t })
    (done : ∀ g m₁ nw h t, J its.size g m₁ nw → Fr g env.locals h m₁ → News g env.locals h nw → Q .next { s with heap := h, toks := t }) :
    wpAny (model prog w) A (pyIter (.ref ax)) (fun it s₂ => codeAny (model prog w) A (.forLoop target it body [] env) (fun r s' => match r with | .ok f => Q f s' | .error e => cameBackBy (model prog w) A env E e s') s₂) E s := by
  have z := N _ hm
  have hT : s.heap.IsList ax its := ⟨_, z.1, rfl, _, rfl⟩
  refine wpAny_pyIter_list hT ?_
  have hLI : env.locals ≠ s.heap.objs.size := Nat.ne_of_lt F.ns.lt
  have hI0 : g₀.get? s.heap.objs.size = none := next_is_new F
  refine codeAny_forLoop_any
    (fun k s' => ∃ h' t g' m' nw' i, s' = { s with heap := h', toks := t } ∧ h'.IsListIter s.heap.objs.size ax i ∧ g'.get? s.heap.objs.size = none ∧ Fr g' env.locals h' m' ∧ News g' env.locals h' nw' ∧ (∀ p ∈ nw', (@Ne Nat p.1 s.heap.objs.size)) ∧ J i g' m' nw' ∧ i ≤ its.size ∧ k = its.size + 1 - i) ?_ (its.size + 1)
    ⟨_, s.toks, g₀, m₀, news, 0, rfl, ⟨_, Heap.get?_push_size _ rfl, rfl, rfl⟩, hI0, F.push _, N.grown fun _ _ e => Heap.get?_push_of_some _ e, fun p hp => Nat.ne_of_lt (Heap.lt_size (N p hp).1), hj, Nat.zero_le _, rfl⟩
  rintro k s' ⟨h', t, g', m', nw', i, rfl, hit, hI', F', N', off', hJ, hi, rfl⟩
  have hls : h'.IsList ax its := ⟨_, (N' _ (hJS _ _ _ _ hJ)).1, rfl, _, rfl⟩
  by_cases hin : i < its.size
  · refine wpAny_pyNext_list_item hit hls (x := its[i]) (by simp [hin]) fun h₁ hit₁ hs₁ => ?_
    refine letGo_listiter hit₁ ?_
    obtain ⟨oI, hoI, hoc, hod⟩ := hit₁
    have hk₁ : ∀ b o, b ∉ [s.heap.objs.size] → h'.get? b = some o → h₁.get? b = some o := fun b o hb e => hs₁.extBut b o (fun q => hb (List.mem_singleton.mpr q)) e
    have F₁ := fr_but F' hk₁ hLI hI'
    have N₁ : News g' env.locals h₁ ((s.heap.objs.size, oI) :: nw') := fun p hp => by
      rcases List.mem_cons.mp hp with rfl | hp
      · exact ⟨hoI, Ne.symm hLI, hI'⟩
      · exact news_but N' hk₁ off' p hp
    refine wpAny_mono (turn i its[i] g' m' nw' s.heap.objs.size oI h₁ t (fun f s₃ => (match f with
      | .next | .cont => ∃ m, m < its.size + 1 - i ∧ (∃ h' t g' m' nw' i, s₃ = { s with heap := h', toks := t } ∧ h'.IsListIter s.heap.objs.size ax i ∧ g'.get? s.heap.objs.size = none ∧ Fr g' env.locals h' m' ∧ News g' env.locals h' nw' ∧ (∀ p ∈ nw', (@Ne Nat p.1 s.heap.objs.size)) ∧ J i g' m' nw' ∧ i ≤ its.size ∧ m = its.size + 1 - i)
      | .brk => Q .next s₃
      | .ret v => Q (.ret v) s₃)) hin (by simp [hin]) hJ off' F₁ N₁ ?_ ?_) (fun _ s₃ h₃ => ?_) hE
    · intro f g₂ h₂ t₂ m₂ nw₂ hf hgn F₂ N₂ off₂ hJ₂
      have fin : ∃ m, m < its.size + 1 - i ∧ (∃ h' t g' m' nw' i, ({ s with heap := h₂, toks := t₂ } : Shared) = { s with heap := h', toks := t } ∧ h'.IsListIter s.heap.objs.size ax i ∧ g'.get? s.heap.objs.size = none ∧ Fr g' env.locals h' m' ∧ News g' env.locals h' nw' ∧ (∀ p ∈ nw', (@Ne Nat p.1 s.heap.objs.size)) ∧ J i g' m' nw' ∧ i ≤ its.size ∧ m = its.size + 1 - i) :=
        ⟨its.size + 1 - (i + 1), by omega, h₂, t₂, g₂, m₂, nw₂, i + 1, rfl, ⟨_, (N₂ _ List.mem_cons_self).1, hoc, hod⟩, hgn _ hI', F₂, fun p hp => N₂ p (List.mem_cons_of_mem _ hp), off₂, hJ₂, hin, rfl⟩
      rcases hf with rfl | rfl
      · exact fin
      · exact fin
    · intro v s' h; exact h
    · refine wpAny_mono h₃ (fun f s₄ h₄ => ?_) hE
      cases f with
      | next => exact h₄
      | cont => exact h₄
      | brk => exact h₄
      | ret v => exact h₄
  · obtain rfl : i = its.size := Nat.le_antisymm hi (Nat.not_lt.mp hin)
    refine wpAny_pyNext_list_end hh hit hls (by simp) fun h₁ he₁ => wpAny_execs_nil ?_
    have hk₁ : ∀ b o, b ∉ [s.heap.objs.size] → h'.get? b = some o → h₁.get? b = some o := fun b o hb e => he₁ b o (fun q => hb (List.mem_singleton.mpr q)) e
    exact done g' m' nw' h₁ t hJ (fr_but F' hk₁ hLI hI') (news_but N' hk₁ off')

theorem rs_E0d_leave : True := by w_top off; trivial
section
variable {M : Model} {A : Around} {E : Value → Shared → Prop} {s' : Shared} {base g g₂ : Heap} {outer : List Env} {L a e t : Addr} {m : Str → Option Value} {name : Str} {scope : Scope} {cd : Value} {cl : List (Str × Addr)} {Q : Unit → Shared → Prop} {news : List (Addr × Obj)}
theorem mem_framesX {b : Addr} (hm : b ∈ (envX name scope L a cd cl :: outer).filterMap (·.frame)) : b = L ∨ b ∈ outer.filterMap (·.frame) := by
  obtain ⟨env, he, hf⟩ := List.mem_filterMap.mp hm
  rcases List.mem_cons.mp he with rfl | he
  · exact .inl (Option.some.inj hf).symm
  · exact .inr (List.mem_filterMap.mpr ⟨env, he, hf⟩)
/-- an exception passes a frame whose names are cells -/
theorem leave_onSX {cls : Value} {vs : List Value} (K : Below A base outer g) (F : Fr g L g₂ m) (R : RaisedS base g₂ (envX name scope L a cd cl :: outer) e cls t vs news s'.heap) (hsm : g₂.UpToSlots s'.heap)
    (hQ : ∀ h', RaisedS base g outer e cls t vs news h' → RaisedK base outer e cls t vs news h' → g.UpToSlots h' → Q () { s' with heap := h' }) :
    wpAny M (A.deeper (envX name scope L a cd cl)) (leaving (envX name scope L a cd cl) (.ref e)) Q E s' := by
  obtain ⟨⟨B, hB, hBG, hl, hfl, hnew⟩, htup⟩ := R
  exact wpAny_leaves_onW (Around.frames_deeper K.stack) rfl hfl fun h' x1 x2 =>
    have R : RaisedS base g outer e cls t vs news h' := ⟨⟨B, hB, fun b o q nm => hBG b o (F.keep b o q) (fun hm => by
      rcases mem_framesX hm with z | z
      · rw [z, kts_self F] at q; cases q
      · exact nm z), fun q hq => ⟨(hl q hq).1, kts_none F.keep (hl q hq).2.1, (hl q hq).2.2⟩, x1, hnew⟩, htup.of_slots x2⟩
    hQ h' R R.toK ((Heap.UpToSlots.of_keeps F.keep).trans (hsm.trans x2))
end

theorem rs_E1_refused : True := by w_top off; trivial
theorem turn_none {fs : List Addr} {g g1 g' : Heap} (T : KtsTurn fs g g1) (T' : KtsTurn fs g g') : ∀ b, g1.get? b = none → g'.get? b = none := fun b e => T'.none_ b (by
  cases q : g.get? b with
  | none => rfl
  | some o => obtain ⟨sl, hs⟩ := T.up q; rw [e] at hs; cases hs)
def rtext : Str := Str.ofString " \"\"\"a\"\"b\"\"c\""
def reps : List Str := [Str.ofString "257" ++ Str.ofString " \"\"\"a\"\"b\"\"c\"", Str.ofString "257" ++ Txt.slice (Str.ofString " \"\"\"a\"\"b\"\"c\"") none (some (-1)), Str.ofString "257-" ++ Txt.slice (Str.ofString " \"\"\"a\"\"b\"\"c\"") (some 1) none, Str.ofString "257 '" ++ Txt.slice (Str.ofString " \"\"\"a\"\"b\"\"c\"") (some 2) none]
theorem reps_ok : ∀ y ∈ reps, (Txt.slice y none (some 3) != Str.ofString "257") = false ∧ y.length ≤ 1000 := by decide +kernel
theorem reps_told : reps.map prs = [Str.ofString "\"a\"b\"c", Str.ofString "\"a\"b\"c", Str.ofString "", Str.ofString ""] := by decide +kernel
local macro_rules | `(tactic| ked_reads) => `(tactic| first | exact StrsAre.reads _ (by with_reducible assumption) | exact ints_reads (by with_reducible assumption) | fail "ked_reads")
section
variable {w : World} {dp un : Nat} {gd : Option (List Code)} {cn : Str} {cs : Scope} {a : Addr} {ccd : Value} {cl : List (Str × Addr)} {A₀ : Around} {base h₀ : Heap} {L : Addr} {m : Str → Option Value} {s : Shared} {Q E : Value → Shared → Prop} {mean : ExcName → Option Value} {mg mb : Str → Option Value} {news : List (Addr × Obj)}

set_option maxRecDepth 100000 in
set_option maxHeartbeats 8000000 in
theorem refused_c (B : Below A₀ base [] h₀) (F : Fr h₀ L s.heap m) (X : (Mine.hk.heap_1 w.params).In h₀) (N : News h₀ L s.heap news) (T : Top Mine.V LS mean mg mb h₀) (hk : cs.kind = .function)
    (XB : (Mine.hk.heap_1 w.params).In base) (TB : Top Mine.V LS mean mg mb base) (hdp : dp + 20 < recursionLimit) (hun : un + 1000 < cLine) {t : Tok}
    (ret : ∀ (h' : Heap) (tk' : Nat), Fr h₀ L h' m → News h₀ L h' news → Q (.bool true) { s with heap := h', toks := tk' }) :
    wpAny (model PySem.Challenge.rw_wo0081_01.row.prog w) (ktrTop dp un gd cn cs L a ccd cl []) (call (.ref 383) [.str (Str.ofString " \"\"\"a\"\"b\"\"c\"") t]) Q E s := by
  refine wpAny_call ?_
  (k_dflt (refine' code_defS0X ?k1 ?k2 ?k3 ?k4 ?k5 ?kA ?kF ?kK ?k6 ?k7 ?k8 ?k9 ?kB ?_ ?c2 ?c3 ?c4 ?c5; (case kA => exact rfl); (case kF => exact rfl); (case kK => first | exact rfl | assumption); (case k1 => k_asm); (case k2 => k_asm); (case k3 => k_asm); (case k5 => k_asm); (case k6 => k_is); (case k7 => k_is); (case k8 => ktr_room); (case k9 => first | exact BindsTo.of_eq rfl | exact binds_K (by k_in) rfl (by k_is) rfl rfl rfl | fail "k_enter: no rule for these arguments"); (case kB => exact locs rfl); (case c2 => exact rfl); (case c3 => exact rfl); (case c4 => exact rfl); (case c5 => decide); k_whole))
  case k4 => exact cb_drop (news := []) N (by walk_at "sub")
  intro g L1 h1 FG F1 N1 B1 X1 T1 D1 SK LT
  (try dsimp only); (try k_fold)
  repeat' ((fail_if_success (with_reducible show wpAny _ _ (exec (Stmt.For _ _ _ _ _) _) _ _ _)); (first | (first | (with_reducible ((first | ((fail_if_success (fail_if_success (with_reducible refine' gd9 (t := eval (Expr.ListComp _ [⟨_, _, [], _⟩] _ _) _) ?_))); k_dflt (refine comp_eval (F₀ := by k_asm) (by with_unfolding_all rfl) (by decide) (by rfl) (by decide) (by rfl) ?_)) | ((fail_if_success (fail_if_success (with_reducible refine' gd9 (t := eval (Expr.ListComp _ [⟨_, _, [_], _⟩] _ _) _) ?_))); k_dflt (refine compT_eval (F₀ := by k_asm) (by with_unfolding_all rfl) (by decide) (by rfl) (by decide) (by rfl) ?_))))) | ((fail_if_success (with_reducible refine' gd9 (t := eval _ _) ?_)); (first | (with_reducible (((fail_if_success (fail_if_success (with_reducible refine' gd9 (t := execs (_ :: _) _) ?_))); first | k_gentoks | ((with_reducible refine wpAny_execs_cons ?_); (try dsimp only); k_fold)))) | ((fail_if_success (fail_if_success (with_reducible refine' gd9 (t := call _ _ _) ?_))); (first | (with_reducible (((fail_if_success (fail_if_success (with_reducible refine' gd9 (t := call (Value.ref 136) _) ?_))); k_dflt (refine' parse_e (by k_asm) (by k_asm) (by k_asm) (by k_asm) (by k_asm) (by first | rfl | assumption) (by ktr_room) (by ktr_units) (by first | with_reducible assumption | omega) (by with_reducible assumption) (by with_reducible assumption) ?_); intro _ _ _ _ _; (try dsimp only); (try k_fold)))) | (with_reducible (((fail_if_success (fail_if_success (with_reducible refine' gd9 (t := call (Value.type "str") [Value.ref _]) ?_))); k_dflt (refine' own_str ?zu9 ?zX9 ?zN9 ?zG9 ?zs9 ?zf9 ?_; (case zG9 => with_reducible assumption); (case zN9 => with_reducible assumption); (case zX9 => exact Frag.In.keeps (by with_reducible assumption) (Fr.keep (by with_reducible assumption))); (case zs9 => k_is); (case zf9 => k_is); (case zu9 => ktr_units))))) )) )) | walk1) | (dsimp only; (first | (with_reducible ((first | ((fail_if_success (fail_if_success (with_reducible refine' gd9 (t := eval (Expr.ListComp _ [⟨_, _, [], _⟩] _ _) _) ?_))); k_dflt (refine comp_eval (F₀ := by k_asm) (by with_unfolding_all rfl) (by decide) (by rfl) (by decide) (by rfl) ?_)) | ((fail_if_success (fail_if_success (with_reducible refine' gd9 (t := eval (Expr.ListComp _ [⟨_, _, [_], _⟩] _ _) _) ?_))); k_dflt (refine compT_eval (F₀ := by k_asm) (by with_unfolding_all rfl) (by decide) (by rfl) (by decide) (by rfl) ?_))))) | ((fail_if_success (with_reducible refine' gd9 (t := eval _ _) ?_)); (first | (with_reducible (((fail_if_success (fail_if_success (with_reducible refine' gd9 (t := execs (_ :: _) _) ?_))); first | k_gentoks | ((with_reducible refine wpAny_execs_cons ?_); (try dsimp only); k_fold)))) | ((fail_if_success (fail_if_success (with_reducible refine' gd9 (t := call _ _ _) ?_))); (first | (with_reducible (((fail_if_success (fail_if_success (with_reducible refine' gd9 (t := call (Value.ref 136) _) ?_))); k_dflt (refine' parse_e (by k_asm) (by k_asm) (by k_asm) (by k_asm) (by k_asm) (by first | rfl | assumption) (by ktr_room) (by ktr_units) (by first | with_reducible assumption | omega) (by with_reducible assumption) (by with_reducible assumption) ?_); intro _ _ _ _ _; (try dsimp only); (try k_fold)))) | (with_reducible (((fail_if_success (fail_if_success (with_reducible refine' gd9 (t := call (Value.type "str") [Value.ref _]) ?_))); k_dflt (refine' own_str ?zu9 ?zX9 ?zN9 ?zG9 ?zs9 ?zf9 ?_; (case zG9 => with_reducible assumption); (case zN9 => with_reducible assumption); (case zX9 => exact Frag.In.keeps (by with_reducible assumption) (Fr.keep (by with_reducible assumption))); (case zs9 => k_is); (case zf9 => k_is); (case zu9 => ktr_units))))) )) )) | walk1))))
  refine For_B ?_
  repeat' ((fail_if_success (with_reducible show wpAny _ _ (pyIter _) _ _ _)); (first | (first | (with_reducible ((first | ((fail_if_success (fail_if_success (with_reducible refine' gd9 (t := eval (Expr.ListComp _ [⟨_, _, [], _⟩] _ _) _) ?_))); k_dflt (refine comp_eval (F₀ := by k_asm) (by with_unfolding_all rfl) (by decide) (by rfl) (by decide) (by rfl) ?_)) | ((fail_if_success (fail_if_success (with_reducible refine' gd9 (t := eval (Expr.ListComp _ [⟨_, _, [_], _⟩] _ _) _) ?_))); k_dflt (refine compT_eval (F₀ := by k_asm) (by with_unfolding_all rfl) (by decide) (by rfl) (by decide) (by rfl) ?_))))) | ((fail_if_success (with_reducible refine' gd9 (t := eval _ _) ?_)); (first | (with_reducible (((fail_if_success (fail_if_success (with_reducible refine' gd9 (t := execs (_ :: _) _) ?_))); first | k_gentoks | ((with_reducible refine wpAny_execs_cons ?_); (try dsimp only); k_fold)))) | ((fail_if_success (fail_if_success (with_reducible refine' gd9 (t := call _ _ _) ?_))); (first | (with_reducible (((fail_if_success (fail_if_success (with_reducible refine' gd9 (t := call (Value.ref 136) _) ?_))); k_dflt (refine' parse_e (by k_asm) (by k_asm) (by k_asm) (by k_asm) (by k_asm) (by first | rfl | assumption) (by ktr_room) (by ktr_units) (by first | with_reducible assumption | omega) (by with_reducible assumption) (by with_reducible assumption) ?_); intro _ _ _ _ _; (try dsimp only); (try k_fold)))) | (with_reducible (((fail_if_success (fail_if_success (with_reducible refine' gd9 (t := call (Value.type "str") [Value.ref _]) ?_))); k_dflt (refine' own_str ?zu9 ?zX9 ?zN9 ?zG9 ?zs9 ?zf9 ?_; (case zG9 => with_reducible assumption); (case zN9 => with_reducible assumption); (case zX9 => exact Frag.In.keeps (by with_reducible assumption) (Fr.keep (by with_reducible assumption))); (case zs9 => k_is); (case zf9 => k_is); (case zu9 => ktr_units))))) )) )) | walk1) | (dsimp only; (first | (with_reducible ((first | ((fail_if_success (fail_if_success (with_reducible refine' gd9 (t := eval (Expr.ListComp _ [⟨_, _, [], _⟩] _ _) _) ?_))); k_dflt (refine comp_eval (F₀ := by k_asm) (by with_unfolding_all rfl) (by decide) (by rfl) (by decide) (by rfl) ?_)) | ((fail_if_success (fail_if_success (with_reducible refine' gd9 (t := eval (Expr.ListComp _ [⟨_, _, [_], _⟩] _ _) _) ?_))); k_dflt (refine compT_eval (F₀ := by k_asm) (by with_unfolding_all rfl) (by decide) (by rfl) (by decide) (by rfl) ?_))))) | ((fail_if_success (with_reducible refine' gd9 (t := eval _ _) ?_)); (first | (with_reducible (((fail_if_success (fail_if_success (with_reducible refine' gd9 (t := execs (_ :: _) _) ?_))); first | k_gentoks | ((with_reducible refine wpAny_execs_cons ?_); (try dsimp only); k_fold)))) | ((fail_if_success (fail_if_success (with_reducible refine' gd9 (t := call _ _ _) ?_))); (first | (with_reducible (((fail_if_success (fail_if_success (with_reducible refine' gd9 (t := call (Value.ref 136) _) ?_))); k_dflt (refine' parse_e (by k_asm) (by k_asm) (by k_asm) (by k_asm) (by k_asm) (by first | rfl | assumption) (by ktr_room) (by ktr_units) (by first | with_reducible assumption | omega) (by with_reducible assumption) (by with_reducible assumption) ?_); intro _ _ _ _ _; (try dsimp only); (try k_fold)))) | (with_reducible (((fail_if_success (fail_if_success (with_reducible refine' gd9 (t := call (Value.type "str") [Value.ref _]) ?_))); k_dflt (refine' own_str ?zu9 ?zX9 ?zN9 ?zG9 ?zs9 ?zf9 ?_; (case zG9 => with_reducible assumption); (case zN9 => with_reducible assumption); (case zX9 => exact Frag.In.keeps (by with_reducible assumption) (Fr.keep (by with_reducible assumption))); (case zs9 => k_is); (case zf9 => k_is); (case zu9 => ktr_units))))) )) )) | walk1))))
  rename_i l9 h9 F9 N9 l19
  refine for_invG (fun i g' m₁ nw => KtsTurn ([envX cn cs L a ccd cl].filterMap (·.frame)) g g' ∧ Below (ktrTop dp un gd cn cs L a ccd cl []) base [envX cn cs L a ccd cl] g' ∧ (Mine.hk.heap_1 w.params).In g' ∧ Top Mine.V LS mean mg mb g' ∧ KtsDicts ([envX cn cs L a ccd cl].filterMap (·.frame)) g' ∧ nw = _ ∧ ∃ u, m₁ (Str.ofString "text") = some (.str (Str.ofString " \"\"\"a\"\"b\"\"c\"") u)) rfl F9 N9 List.mem_cons_self ⟨KtsTurn.refl, B1, X1, T1, D1, rfl, _, rfl⟩ (fun _ _ _ _ h => h.2.2.2.2.2.1 ▸ List.mem_cons_self) (by passes_own) ?turn ?done
  case turn =>
    clear F9 N9
    rintro i v g1 m₁ nw I oI h tq Kt hi hv ⟨TT, B2, X2, T2, D2, rfl, u, e1⟩ off F2 N2 hNx hRt
    obtain ⟨cd, ct, rfl, hcl, hcq⟩ : ∃ cd ct, v = .str cd ct ∧ cd.length = 3 ∧ (Txt.slice (cd ++ Str.ofString " \"\"\"a\"\"b\"\"c\"") none (some 3) != Str.ofString "257") = true := by
      rcases i with _ | _ | _ | i
      · cases hv; exact ⟨_, _, rfl, by decide +kernel, by decide +kernel⟩
      · cases hv; exact ⟨_, _, rfl, by decide +kernel, by decide +kernel⟩
      · cases hv; exact ⟨_, _, rfl, by decide +kernel, by decide +kernel⟩
      · cases hv
    clear hv
    have F3 := fr_known F2 [(Str.ofString "text", .str (Str.ofString " \"\"\"a\"\"b\"\"c\"") u)] (by ((repeat (refine List.forall_mem_cons.mpr ⟨(by dsimp only; first | exact if_pos rfl | exact (if_neg (by decide +kernel)).trans (by first | with_reducible assumption | assumption) | (with_reducible assumption) | assumption), ?_⟩)); exact List.forall_mem_nil _))
    clear F2
    clear B1 X1 T1 D1
    (repeat' (first | (k_unfold; (try dsimp only)) | (k_end; wrow_close) | (first | (with_reducible ((first | ((fail_if_success (fail_if_success (with_reducible refine' gd9 (t := eval (Expr.ListComp _ [⟨_, _, [], _⟩] _ _) _) ?_))); k_dflt (refine comp_eval (F₀ := by k_asm) (by with_unfolding_all rfl) (by decide) (by rfl) (by decide) (by rfl) ?_)) | ((fail_if_success (fail_if_success (with_reducible refine' gd9 (t := eval (Expr.ListComp _ [⟨_, _, [_], _⟩] _ _) _) ?_))); k_dflt (refine compT_eval (F₀ := by k_asm) (by with_unfolding_all rfl) (by decide) (by rfl) (by decide) (by rfl) ?_))))) | ((fail_if_success (with_reducible refine' gd9 (t := eval _ _) ?_)); (first | (with_reducible (((fail_if_success (fail_if_success (with_reducible refine' gd9 (t := execs (_ :: _) _) ?_))); first | k_gentoks | ((with_reducible refine wpAny_execs_cons ?_); (try dsimp only); k_fold)))) | ((fail_if_success (fail_if_success (with_reducible refine' gd9 (t := call _ _ _) ?_))); (first | (with_reducible (((fail_if_success (fail_if_success (with_reducible refine' gd9 (t := call (Value.ref 136) _) ?_))); k_dflt (refine' parse_e (by k_asm) (by k_asm) (by k_asm) (by k_asm) (by k_asm) (by first | rfl | assumption) (by ktr_room) (by ktr_units) (by first | with_reducible assumption | omega) (by with_reducible assumption) (by with_reducible assumption) ?_); intro _ _ _ _ _; (try dsimp only); (try k_fold)))) | (with_reducible (((fail_if_success (fail_if_success (with_reducible refine' gd9 (t := call (Value.type "str") [Value.ref _]) ?_))); k_dflt (refine' own_str ?zu9 ?zX9 ?zN9 ?zG9 ?zs9 ?zf9 ?_; (case zG9 => with_reducible assumption); (case zN9 => with_reducible assumption); (case zX9 => exact Frag.In.keeps (by with_reducible assumption) (Fr.keep (by with_reducible assumption))); (case zs9 => k_is); (case zf9 => k_is); (case zu9 => ktr_units))))) )) )) | walk1) | ((with_reducible show wpAny _ _ _ _ _ _); dsimp only) | (leave1; walk_say "STEP leave1"; try dsimp only) | fail "no step"))
    case _ => exact absurd (by with_reducible assumption : (cd ++ Str.ofString " \"\"\"a\"\"b\"\"c\"" != cd ++ Str.ofString " \"\"\"a\"\"b\"\"c\"") = true) (by simp)
    case _ =>
      (rename Fr _ _ _ _ => F9); (rename News _ _ _ [(I, oI), _] => N9)
      exact hNx _ _ _ _ _ _ (.inl rfl) (turn_none TT (by with_reducible assumption)) F9 N9 off ⟨by with_reducible assumption, by with_reducible assumption, by with_reducible assumption, by with_reducible assumption, by with_reducible assumption, rfl, _, rfl⟩
  case done =>
    clear F9 N9
    rintro g2 m₁ nw h t2 ⟨TT, B2, X2, T2, D2, rfl, u, e1⟩ F2 N2
    have F3 := fr_known F2 [(Str.ofString "text", .str (Str.ofString " \"\"\"a\"\"b\"\"c\"") u)] (by ((repeat (refine List.forall_mem_cons.mpr ⟨(by dsimp only; first | exact if_pos rfl | exact (if_neg (by decide +kernel)).trans (by first | with_reducible assumption | assumption) | (with_reducible assumption) | assumption), ?_⟩)); exact List.forall_mem_nil _))
    clear F2
    clear B1 X1 T1 D1
    (try dsimp only)
    (repeat' (first | (k_unfold; (try dsimp only)) | (k_end; wrow_close) | (first | (with_reducible ((first | ((fail_if_success (fail_if_success (with_reducible refine' gd9 (t := eval (Expr.ListComp _ [⟨_, _, [], _⟩] _ _) _) ?_))); k_dflt (refine comp_eval (F₀ := by k_asm) (by with_unfolding_all rfl) (by decide) (by rfl) (by decide) (by rfl) ?_)) | ((fail_if_success (fail_if_success (with_reducible refine' gd9 (t := eval (Expr.ListComp _ [⟨_, _, [_], _⟩] _ _) _) ?_))); k_dflt (refine compT_eval (F₀ := by k_asm) (by with_unfolding_all rfl) (by decide) (by rfl) (by decide) (by rfl) ?_))))) | ((fail_if_success (with_reducible refine' gd9 (t := eval _ _) ?_)); (first | (with_reducible (((fail_if_success (fail_if_success (with_reducible refine' gd9 (t := execs (_ :: _) _) ?_))); first | k_gentoks | ((with_reducible refine wpAny_execs_cons ?_); (try dsimp only); k_fold)))) | ((fail_if_success (fail_if_success (with_reducible refine' gd9 (t := call _ _ _) ?_))); (first | (with_reducible (((fail_if_success (fail_if_success (with_reducible refine' gd9 (t := call (Value.ref 136) _) ?_))); k_dflt (refine' parse_e (by k_asm) (by k_asm) (by k_asm) (by k_asm) (by k_asm) (by first | rfl | assumption) (by ktr_room) (by ktr_units) (by first | with_reducible assumption | omega) (by with_reducible assumption) (by with_reducible assumption) ?_); intro _ _ _ _ _; (try dsimp only); (try k_fold)))) | (with_reducible (((fail_if_success (fail_if_success (with_reducible refine' gd9 (t := call (Value.type "str") [Value.ref _]) ?_))); k_dflt (refine' own_str ?zu9 ?zX9 ?zN9 ?zG9 ?zs9 ?zf9 ?_; (case zG9 => with_reducible assumption); (case zN9 => with_reducible assumption); (case zX9 => exact Frag.In.keeps (by with_reducible assumption) (Fr.keep (by with_reducible assumption))); (case zs9 => k_is); (case zf9 => k_is); (case zu9 => ktr_units))))) )) )) | walk1) | ((with_reducible show wpAny _ _ _ _ _ _); dsimp only) | (leave1; walk_say "STEP leave1"; try dsimp only) | fail "no step"))
    (rename Fr g2 L1 _ _ => F7); (rename News g2 L1 _ _ => N7)
    k_dflt (refine CSrc.of (iter_list rfl N7 List.mem_cons_self) F7 N7 List.mem_cons_self (Nat.le_of_ble_eq_true rfl) fun _ => rest_inv (K := 4) (fun c zs nw => nw = _ ∧ StrsAre zs ((reps.take c).map prs)) ?step ?fin _ _ _ _ (Nat.zero_add _) ⟨rfl, .nil⟩)
    case step =>
      rintro c v I oI C oC D zs nw m₂ h tq Q' E' hc hv ⟨rfl, hzs⟩ hC hx F9 N9 off ne hQ
      obtain ⟨y, ty, rfl, hy⟩ : ∃ y ty, v = .str y ty ∧ reps[c]? = some y := by
        rcases c with _ | _ | _ | _ | c
        · cases hv; exact ⟨_, _, rfl, rfl⟩
        · cases hv; exact ⟨_, _, rfl, rfl⟩
        · cases hv; exact ⟨_, _, rfl, rfl⟩
        · cases hv; exact ⟨_, _, rfl, rfl⟩
        · cases hv
      clear hv
      obtain ⟨hy1, hy2⟩ := reps_ok y (List.mem_of_getElem? hy)
      obtain ⟨py, hpy⟩ : ∃ py, prs y = py := ⟨_, rfl⟩
      (repeat' (first | (k_unfold; (try dsimp only)) | (k_end; wrow_close) | (first | (with_reducible ((first | ((fail_if_success (fail_if_success (with_reducible refine' gd9 (t := eval (Expr.ListComp _ [⟨_, _, [], _⟩] _ _) _) ?_))); k_dflt (refine comp_eval (F₀ := by k_asm) (by with_unfolding_all rfl) (by decide) (by rfl) (by decide) (by rfl) ?_)) | ((fail_if_success (fail_if_success (with_reducible refine' gd9 (t := eval (Expr.ListComp _ [⟨_, _, [_], _⟩] _ _) _) ?_))); k_dflt (refine compT_eval (F₀ := by k_asm) (by with_unfolding_all rfl) (by decide) (by rfl) (by decide) (by rfl) ?_))))) | ((fail_if_success (with_reducible refine' gd9 (t := eval _ _) ?_)); (first | (with_reducible (((fail_if_success (fail_if_success (with_reducible refine' gd9 (t := execs (_ :: _) _) ?_))); first | k_gentoks | ((with_reducible refine wpAny_execs_cons ?_); (try dsimp only); k_fold)))) | ((fail_if_success (fail_if_success (with_reducible refine' gd9 (t := call _ _ _) ?_))); (first | (with_reducible (((fail_if_success (fail_if_success (with_reducible refine' gd9 (t := call (Value.ref 136) _) ?_))); k_dflt (refine' parse_e (by k_asm) (by k_asm) (by k_asm) (by k_asm) (by k_asm) (by first | rfl | assumption) (by ktr_room) (by ktr_units) (by first | with_reducible assumption | omega) (by with_reducible assumption) (by with_reducible assumption) ?_); intro _ _ _ _ _; (try dsimp only); (try k_fold)))) | (with_reducible (((fail_if_success (fail_if_success (with_reducible refine' gd9 (t := call (Value.type "str") [Value.ref _]) ?_))); k_dflt (refine' own_str ?zu9 ?zX9 ?zN9 ?zG9 ?zs9 ?zf9 ?_; (case zG9 => with_reducible assumption); (case zN9 => with_reducible assumption); (case zX9 => exact Frag.In.keeps (by with_reducible assumption) (Fr.keep (by with_reducible assumption))); (case zs9 => k_is); (case zf9 => k_is); (case zu9 => ktr_units))))) )) )) | walk1) | ((with_reducible show wpAny _ _ _ _ _ _); dsimp only) | (leave1; walk_say "STEP leave1"; try dsimp only) | fail "no step"))
      exact hQ _ _ _ _ (by k_asm) (by k_asm) off List.mem_cons_self ⟨rfl, strs_snoc hzs hy hpy.symm⟩
    case fin =>
      rintro zs nw ⟨rfl, hzs⟩ D h tq F9 N9 o1
      rw [show reps.take 4 = reps from rfl, reps_told] at hzs
      obtain ⟨w1, z1, rfl, hz1⟩ := StrsAre.cons_inv hzs
      obtain ⟨w2, z2, rfl, hz2⟩ := StrsAre.cons_inv hz1
      obtain ⟨w3, z3, rfl, hz3⟩ := StrsAre.cons_inv hz2
      obtain ⟨w4, z4, rfl, hz4⟩ := StrsAre.cons_inv hz3
      obtain rfl := StrsAre.nil_inv hz4
      clear F7 N7
      (try dsimp only)
      (repeat' (first | (k_unfold; (try dsimp only)) | (k_end; wrow_close) | (first | (with_reducible ((first | ((fail_if_success (fail_if_success (with_reducible refine' gd9 (t := eval (Expr.ListComp _ [⟨_, _, [], _⟩] _ _) _) ?_))); k_dflt (refine comp_eval (F₀ := by k_asm) (by with_unfolding_all rfl) (by decide) (by rfl) (by decide) (by rfl) ?_)) | ((fail_if_success (fail_if_success (with_reducible refine' gd9 (t := eval (Expr.ListComp _ [⟨_, _, [_], _⟩] _ _) _) ?_))); k_dflt (refine compT_eval (F₀ := by k_asm) (by with_unfolding_all rfl) (by decide) (by rfl) (by decide) (by rfl) ?_))))) | ((fail_if_success (with_reducible refine' gd9 (t := eval _ _) ?_)); (first | (with_reducible (((fail_if_success (fail_if_success (with_reducible refine' gd9 (t := execs (_ :: _) _) ?_))); first | k_gentoks | ((with_reducible refine wpAny_execs_cons ?_); (try dsimp only); k_fold)))) | ((fail_if_success (fail_if_success (with_reducible refine' gd9 (t := call _ _ _) ?_))); (first | (with_reducible (((fail_if_success (fail_if_success (with_reducible refine' gd9 (t := call (Value.ref 136) _) ?_))); k_dflt (refine' parse_e (by k_asm) (by k_asm) (by k_asm) (by k_asm) (by k_asm) (by first | rfl | assumption) (by ktr_room) (by ktr_units) (by first | with_reducible assumption | omega) (by with_reducible assumption) (by with_reducible assumption) ?_); intro _ _ _ _ _; (try dsimp only); (try k_fold)))) | (with_reducible (((fail_if_success (fail_if_success (with_reducible refine' gd9 (t := call (Value.type "str") [Value.ref _]) ?_))); k_dflt (refine' own_str ?zu9 ?zX9 ?zN9 ?zG9 ?zs9 ?zf9 ?_; (case zG9 => with_reducible assumption); (case zN9 => with_reducible assumption); (case zX9 => exact Frag.In.keeps (by with_reducible assumption) (Fr.keep (by with_reducible assumption))); (case zs9 => k_is); (case zf9 => k_is); (case zu9 => ktr_units))))) )) )) | walk1) | ((with_reducible show wpAny _ _ _ _ _ _); dsimp only) | (leave1; walk_say "STEP leave1"; try dsimp only) | fail "no step"))
      (rename Fr g2 L1 _ _ => F9)
      exact ret _ _ (by k_asm) fun q hq => ⟨F9.keep _ _ (TT.other _ _ (SK _ _ (N q hq).1 (by simp)) fun hm => (N q hq).2.1 (by simpa using hm)), (N q hq).2⟩
end

theorem rs_E2_kept : True := by w_top off; trivial
section
variable {prog : Program} {w : World} {A : Around} {E : Value → Shared → Prop} {s : Shared} {h₀ : Heap} {L a b : Addr} {news : List (Addr × Obj)} {xs ys : Array Value} {ka kb : Nat} {Q : Value → Shared → Prop} {x : Str} {t1 t2 t3 t4 : Tok}
open Classical in
theorem two_eq (N : News h₀ L s.heap news) (ma : (a, listOf xs ka) ∈ news) (mb : (b, listOf ys kb) ∈ news) (hx : xs = #[.str x t1, .str x t2]) (hy : ys = #[.str x t3, .str x t4]) (ok : PyData.strOk x = true) (hu : A.units + 64 < cLine) (h : Q (.bool true) s) :
    wpAny (model prog w) A (compareOp .Eq (.ref a) (.ref b)) Q E s := by
  subst hx hy
  have hd : ∀ u v : Tok, DatAll news [Value.str x u, Value.str x v] [Dat.str x, Dat.str x] := fun u v => .cons (.str _ _) (.cons (.str _ _) .nil)
  have ho : ∀ d ∈ [Dat.str x, Dat.str x], kqdOk 8 d = true := fun d hd => by
    simp only [List.mem_cons, List.not_mem_nil, or_false, or_self] at hd
    subst hd
    simp [kqdOk, ok]
  exact kqd_eq N ma rfl rfl (hd t1 t2) (fun _ h => h) mb rfl rfl (hd t3 t4) (fun _ h => h) ho ho hu (by rw [decide_eq_true (rfl : [Dat.str x, Dat.str x] = _)]; exact h)
end
section
variable {w : World} {dp un : Nat} {gd : Option (List Code)} {cn : Str} {cs : Scope} {a : Addr} {ccd : Value} {cl : List (Str × Addr)} {A₀ : Around} {base h₀ : Heap} {L : Addr} {m : Str → Option Value} {s : Shared} {Q E : Value → Shared → Prop} {mean : ExcName → Option Value} {mg mb : Str → Option Value} {news : List (Addr × Obj)}

set_option maxRecDepth 100000 in
set_option maxHeartbeats 8000000 in
theorem kept_c (B : Below A₀ base [] h₀) (F : Fr h₀ L s.heap m) (X : (Mine.hk.heap_1 w.params).In h₀) {x l : Addr} {ps : List Value} {c : Nat} {rest fix : List (Addr × Obj)} {al : List (Str × Str)} {P : Str → Tok → Prop} (N : News h₀ L s.heap ((l, listOf ps.toArray c) :: rest)) (T : Top Mine.V LS mean mg mb h₀) (hk : cs.kind = .function)
    (XB : (Mine.hk.heap_1 w.params).In base) (TB : Top Mine.V LS mean mg mb base) (hdp : dp + 20 < recursionLimit) (hun : un + 1000 < cLine) (hat : AtIn P w al x l ps fix) (hfix : ∀ p ∈ fix, p ∈ rest) (hoff : ∀ q ∈ rest, q.1 ≠ l) (ok : AtOk al) {ld : Str} {t : Tok} (hn : ld.length ≤ 100) (hnl : (Txt.lower ld).length ≤ 1000) (ht : Refuses true (Txt.lower ld)) (ht2 : Refuses true ld)
    (ret : ∀ (h' : Heap) (tk' : Nat), Fr h₀ L h' m → News h₀ L h' ((l, listOf ps.toArray c) :: rest) → Q (.bool true) { s with heap := h', toks := tk' }) :
    wpAny (model PySem.Challenge.rw_wo0081_01.row.prog w) (ktrTop dp un gd cn cs L a ccd cl []) (call (.ref 378) [.ref x, .str ld t]) Q E s := by
  obtain ⟨dA, t0, own, rfl, hps⟩ := hat
  have hx1 := hfix _ List.mem_cons_self
  have hx2 := hfix _ (List.mem_cons_of_mem _ List.mem_cons_self)
  have hn1000 : ld.length ≤ 1000 := Nat.le_trans hn (by decide)
  refine wpAny_call ?_
  (k_dflt (refine' code_defS0X ?k1 ?k2 ?k3 ?k4 ?k5 ?kA ?kF ?kK ?k6 ?k7 ?k8 ?k9 ?kB ?_ ?c2 ?c3 ?c4 ?c5; (case kA => exact rfl); (case kF => exact rfl); (case kK => first | exact rfl | assumption); (case k1 => k_asm); (case k2 => k_asm); (case k3 => k_asm); (case k5 => k_asm); (case k6 => k_is); (case k7 => k_is); (case k8 => ktr_room); (case k9 => first | exact BindsTo.of_eq rfl | exact binds_K (by k_in) rfl (by k_is) rfl rfl rfl | fail "k_enter: no rule for these arguments"); (case kB => exact locs rfl); (case c2 => exact rfl); (case c3 => exact rfl); (case c4 => exact rfl); (case c5 => decide); k_whole))
  case k4 => exact N
  intro g L1 h1 FG F1 N1 B1 X1 T1 D1 SK LT
  (try dsimp only); (try k_fold)
  (repeat' (first | (k_unfold; (try dsimp only)) | (k_end; wrow_close) | (first | ((fail_if_success (with_reducible refine' gd9 (t := eval _ _) ?_)); (first | (with_reducible (((fail_if_success (fail_if_success (with_reducible refine' gd9 (t := execs (_ :: _) _) ?_))); first | k_gentoks | ((with_reducible refine wpAny_execs_cons ?_); (try dsimp only); k_fold)))) | (with_reducible (((fail_if_success (fail_if_success (with_reducible refine' gd9 (t := binaryOp Operator.Mult (Value.ref _) (Value.int 2 _)) ?_))); k_dflt (refine' KMa.mul (vs := [Value.str _ _]) (by k_asm) (by k_asm) (by (refine' News.isList ?zN29 ?zm9; (case zN29 => k_asm); (case zm9 => exact List.mem_cons_self))) (by decide) (by decide) (by (show 1 * Int.toNat 2 ≤ 256; decide)) rfl ?_; k_whole); intro _ _ _ _ l1; (try k_lt l1); revert l1; intro _; (try k_sweep)))) | ((fail_if_success (fail_if_success (with_reducible refine' gd9 (t := call _ _ _) ?_))); (first | (with_reducible (((fail_if_success (fail_if_success (with_reducible refine' gd9 (t := call (Value.builtin _) [Value.ref _, _]) ?_))); k_dflt (refine' append_own (by k_asm) (by k_asm) (by k_upd) (by first | exact delAll_len (by with_reducible assumption) (by with_reducible assumption) | omega | exact Nat.le_of_ble_eq_true rfl) ?_); intro _ _ _; (try dsimp only); (try k_fold)))) | (with_reducible (((fail_if_success (fail_if_success (with_reducible refine' gd9 (t := call (Value.builtin "re.Pattern.search") _) ?_))); first | (k_dflt (refine' searchF ?zX9 ?zF9 ?zN9 ?zx9 ?zk9 ?zc9 ?zd9 ?zk29 ?zd29 ?ze9 ?zt9 ?_; (case zX9 => k_asm); (case zF9 => k_asm); (case zN9 => k_asm); (case zx9 => assumption); (case zk9 => k_is); (case zc9 => rfl); (case zd9 => rfl); (case zk29 => k_is); (case zd29 => rfl); (case zt9 => with_reducible assumption); (case ze9 => decide +kernel)); intro _ _ _ _ _; (try dsimp only); (try k_fold)) | (k_dflt (refine' searchN ?zX9 ?zF9 ?zx9 ?zk9 ?zc9 ?zd9 ?zk29 ?zd29 ?ze9 ?zt9 ?_; (case zX9 => k_asm); (case zF9 => k_asm); (case zx9 => assumption); (case zk9 => k_is); (case zc9 => rfl); (case zd9 => rfl); (case zk29 => k_is); (case zd29 => rfl); (case zt9 => with_reducible assumption); (case ze9 => decide +kernel)))))) | (with_reducible (((fail_if_success (fail_if_success (with_reducible refine' gd9 (t := call (Value.builtin "str.lower") [Value.str _ _]) ?_))); (refine SCL.lower (by ((try dsimp only); first | with_reducible assumption | omega | (simp only [Str.length_append]; omega) | fail "slen")) ?_); intro _; (try dsimp only)))) )) | (with_reducible (((fail_if_success (fail_if_success (with_reducible refine' gd9 (t := compareOp CmpOp.Eq (Value.ref _) (Value.ref _)) ?_))); k_dflt (refine' two_eq (by k_asm) (by k_mem) (by k_mem) (by exact rfl) (by exact rfl) (by decide +kernel) (by ktr_units) ?_); (try dsimp only)))) | (with_reducible (((fail_if_success (fail_if_success (with_reducible refine' gd9 (t := delItem (Value.ref _) _) ?_))); k_dflt (refine' own_delItem ?zF9 ?zX9 ?zI9 ?zhQ9 ?zhS9 ?zhF9 ?_; (case zF9 => k_asm); (case zX9 => k_asm); (case zI9 => k_inst); (case zhS9 => k_is); (case zhF9 => k_is); (case zhQ9 => k_is); k_whole)))) | (with_reducible (((fail_if_success (fail_if_success (with_reducible refine' gd9 (t := exec (Stmt.For _ _ _ _ _) _) ?_))); (rename Fr _ _ _ _ => lF'); (with_unfolding_all refine' For_turns lF' ?_); k_whole))) | (with_reducible (((fail_if_success (fail_if_success (with_reducible refine' gd9 (t := getMethod (Value.ref _) (PySem.Str.ofString "search") _) ?_))); k_dflt (refine' pat_method (by k_asm) (by k_asm) (by k_is) (by rfl) (by rfl) ?_)))) | (with_reducible (((fail_if_success (fail_if_success (with_reducible refine' gd9 (t := leaving _ (Value.ref _)) ?_))); k_dflt (refine' leave_onSX ?zk19 ?zk29 ?zk39 ?zk49 ?_; (case zk39 => assumption); (case zk29 => assumption); (case zk19 => assumption); (case zk49 => assumption); k_whole); intro _ S' R' U'; (try dsimp only at S' R' U' ⊢); revert S' R' U'; intro _ _ _))) | (with_reducible (((fail_if_success (fail_if_success (with_reducible refine' gd9 (t := truthy (Value.ref _)) ?_))); k_dflt (refine truthy_match (by with_reducible assumption) ?_)))) )) | walk1) | ((with_reducible show wpAny _ _ _ _ _ _); dsimp only) | (leave1; walk_say "STEP leave1"; try dsimp only) | fail "no step"))
  (rename Fr _ _ _ _ => F7); (rename News _ _ _ _ => N7)
  refine for_invT (fun i m₁ nw => i = 0 ∧ nw = _ ∧ m₁ (Str.ofString "self") = some (.ref _)) _
    (iter_listT rfl N7 (List.mem_cons_of_mem _ (List.mem_cons_of_mem _ List.mem_cons_self))) F7 N7 (List.mem_cons_of_mem _ (List.mem_cons_of_mem _ List.mem_cons_self)) ⟨rfl, rfl, rfl⟩ (fun _ _ _ h => h.2.1 ▸ (List.mem_cons_of_mem _ (List.mem_cons_of_mem _ List.mem_cons_self))) (fun _ _ h => h) ?turn ?done
  case turn =>
    rintro i v m₁ nw I oI h tq Kt hi hv ⟨_, rfl, e1⟩ off F2 N2 hNx hBk hRt
    obtain rfl : i = 0 := Nat.lt_one_iff.mp (by simpa using hi)
    simp at hv
    subst hv
    have F3 := fr_known F2 [(Str.ofString "self", .ref _)] (by ((repeat (refine List.forall_mem_cons.mpr ⟨(by dsimp only; first | exact if_pos rfl | exact (if_neg (by decide +kernel)).trans (by first | with_reducible assumption | assumption) | (with_reducible assumption) | assumption), ?_⟩)); exact List.forall_mem_nil _))
    clear F2 F7 N7
    have off' := off
    simp only [List.forall_mem_cons] at off'
    obtain ⟨of1, of2, of3, of4, of5, of6, of7, of8⟩ := off'
    (repeat' (first | (k_unfold; (try dsimp only)) | (k_end; wrow_close) | (first | ((fail_if_success (with_reducible refine' gd9 (t := eval _ _) ?_)); (first | (with_reducible (((fail_if_success (fail_if_success (with_reducible refine' gd9 (t := execs (_ :: _) _) ?_))); first | k_gentoks | ((with_reducible refine wpAny_execs_cons ?_); (try dsimp only); k_fold)))) | (with_reducible (((fail_if_success (fail_if_success (with_reducible refine' gd9 (t := binaryOp Operator.Mult (Value.ref _) (Value.int 2 _)) ?_))); k_dflt (refine' KMa.mul (vs := [Value.str _ _]) (by k_asm) (by k_asm) (by (refine' News.isList ?zN29 ?zm9; (case zN29 => k_asm); (case zm9 => exact List.mem_cons_self))) (by decide) (by decide) (by (show 1 * Int.toNat 2 ≤ 256; decide)) rfl ?_; k_whole); intro _ _ _ _ l1; (try k_lt l1); revert l1; intro _; (try k_sweep)))) | ((fail_if_success (fail_if_success (with_reducible refine' gd9 (t := call _ _ _) ?_))); (first | (with_reducible (((fail_if_success (fail_if_success (with_reducible refine' gd9 (t := call (Value.builtin _) [Value.ref _, _]) ?_))); k_dflt (refine' append_own (by k_asm) (by k_asm) (by k_upd) (by first | exact delAll_len (by with_reducible assumption) (by with_reducible assumption) | omega | exact Nat.le_of_ble_eq_true rfl) ?_); intro _ _ _; (try dsimp only); (try k_fold)))) | (with_reducible (((fail_if_success (fail_if_success (with_reducible refine' gd9 (t := call (Value.builtin "re.Pattern.search") _) ?_))); first | (k_dflt (refine' searchF ?zX9 ?zF9 ?zN9 ?zx9 ?zk9 ?zc9 ?zd9 ?zk29 ?zd29 ?ze9 ?zt9 ?_; (case zX9 => k_asm); (case zF9 => k_asm); (case zN9 => k_asm); (case zx9 => assumption); (case zk9 => k_is); (case zc9 => rfl); (case zd9 => rfl); (case zk29 => k_is); (case zd29 => rfl); (case zt9 => with_reducible assumption); (case ze9 => decide +kernel)); intro _ _ _ _ _; (try dsimp only); (try k_fold)) | (k_dflt (refine' searchN ?zX9 ?zF9 ?zx9 ?zk9 ?zc9 ?zd9 ?zk29 ?zd29 ?ze9 ?zt9 ?_; (case zX9 => k_asm); (case zF9 => k_asm); (case zx9 => assumption); (case zk9 => k_is); (case zc9 => rfl); (case zd9 => rfl); (case zk29 => k_is); (case zd29 => rfl); (case zt9 => with_reducible assumption); (case ze9 => decide +kernel)))))) | (with_reducible (((fail_if_success (fail_if_success (with_reducible refine' gd9 (t := call (Value.builtin "str.lower") [Value.str _ _]) ?_))); (refine SCL.lower (by ((try dsimp only); first | with_reducible assumption | omega | (simp only [Str.length_append]; omega) | fail "slen")) ?_); intro _; (try dsimp only)))) )) | (with_reducible (((fail_if_success (fail_if_success (with_reducible refine' gd9 (t := compareOp CmpOp.Eq (Value.ref _) (Value.ref _)) ?_))); k_dflt (refine' two_eq (by k_asm) (by k_mem) (by k_mem) (by exact rfl) (by exact rfl) (by decide +kernel) (by ktr_units) ?_); (try dsimp only)))) | (with_reducible (((fail_if_success (fail_if_success (with_reducible refine' gd9 (t := delItem (Value.ref _) _) ?_))); k_dflt (refine' own_delItem ?zF9 ?zX9 ?zI9 ?zhQ9 ?zhS9 ?zhF9 ?_; (case zF9 => k_asm); (case zX9 => k_asm); (case zI9 => k_inst); (case zhS9 => k_is); (case zhF9 => k_is); (case zhQ9 => k_is); k_whole)))) | (with_reducible (((fail_if_success (fail_if_success (with_reducible refine' gd9 (t := exec (Stmt.For _ _ _ _ _) _) ?_))); (rename Fr _ _ _ _ => lF'); (with_unfolding_all refine' For_turns lF' ?_); k_whole))) | (with_reducible (((fail_if_success (fail_if_success (with_reducible refine' gd9 (t := getMethod (Value.ref _) (PySem.Str.ofString "search") _) ?_))); k_dflt (refine' pat_method (by k_asm) (by k_asm) (by k_is) (by rfl) (by rfl) ?_)))) | (with_reducible (((fail_if_success (fail_if_success (with_reducible refine' gd9 (t := leaving _ (Value.ref _)) ?_))); k_dflt (refine' leave_onSX ?zk19 ?zk29 ?zk39 ?zk49 ?_; (case zk39 => assumption); (case zk29 => assumption); (case zk19 => assumption); (case zk49 => assumption); k_whole); intro _ S' R' U'; (try dsimp only at S' R' U' ⊢); revert S' R' U'; intro _ _ _))) | (with_reducible (((fail_if_success (fail_if_success (with_reducible refine' gd9 (t := truthy (Value.ref _)) ?_))); k_dflt (refine truthy_match (by with_reducible assumption) ?_)))) )) | walk1) | ((with_reducible show wpAny _ _ _ _ _ _); dsimp only) | (leave1; walk_say "STEP leave1"; try dsimp only) | fail "no step"))
    dsimp only [InitBack]
    (repeat' (first | (k_unfold; (try dsimp only)) | (k_end; wrow_close) | (first | ((fail_if_success (with_reducible refine' gd9 (t := eval _ _) ?_)); (first | (with_reducible (((fail_if_success (fail_if_success (with_reducible refine' gd9 (t := execs (_ :: _) _) ?_))); first | k_gentoks | ((with_reducible refine wpAny_execs_cons ?_); (try dsimp only); k_fold)))) | (with_reducible (((fail_if_success (fail_if_success (with_reducible refine' gd9 (t := binaryOp Operator.Mult (Value.ref _) (Value.int 2 _)) ?_))); k_dflt (refine' KMa.mul (vs := [Value.str _ _]) (by k_asm) (by k_asm) (by (refine' News.isList ?zN29 ?zm9; (case zN29 => k_asm); (case zm9 => exact List.mem_cons_self))) (by decide) (by decide) (by (show 1 * Int.toNat 2 ≤ 256; decide)) rfl ?_; k_whole); intro _ _ _ _ l1; (try k_lt l1); revert l1; intro _; (try k_sweep)))) | ((fail_if_success (fail_if_success (with_reducible refine' gd9 (t := call _ _ _) ?_))); (first | (with_reducible (((fail_if_success (fail_if_success (with_reducible refine' gd9 (t := call (Value.builtin _) [Value.ref _, _]) ?_))); k_dflt (refine' append_own (by k_asm) (by k_asm) (by k_upd) (by first | exact delAll_len (by with_reducible assumption) (by with_reducible assumption) | omega | exact Nat.le_of_ble_eq_true rfl) ?_); intro _ _ _; (try dsimp only); (try k_fold)))) | (with_reducible (((fail_if_success (fail_if_success (with_reducible refine' gd9 (t := call (Value.builtin "re.Pattern.search") _) ?_))); first | (k_dflt (refine' searchF ?zX9 ?zF9 ?zN9 ?zx9 ?zk9 ?zc9 ?zd9 ?zk29 ?zd29 ?ze9 ?zt9 ?_; (case zX9 => k_asm); (case zF9 => k_asm); (case zN9 => k_asm); (case zx9 => assumption); (case zk9 => k_is); (case zc9 => rfl); (case zd9 => rfl); (case zk29 => k_is); (case zd29 => rfl); (case zt9 => with_reducible assumption); (case ze9 => decide +kernel)); intro _ _ _ _ _; (try dsimp only); (try k_fold)) | (k_dflt (refine' searchN ?zX9 ?zF9 ?zx9 ?zk9 ?zc9 ?zd9 ?zk29 ?zd29 ?ze9 ?zt9 ?_; (case zX9 => k_asm); (case zF9 => k_asm); (case zx9 => assumption); (case zk9 => k_is); (case zc9 => rfl); (case zd9 => rfl); (case zk29 => k_is); (case zd29 => rfl); (case zt9 => with_reducible assumption); (case ze9 => decide +kernel)))))) | (with_reducible (((fail_if_success (fail_if_success (with_reducible refine' gd9 (t := call (Value.builtin "str.lower") [Value.str _ _]) ?_))); (refine SCL.lower (by ((try dsimp only); first | with_reducible assumption | omega | (simp only [Str.length_append]; omega) | fail "slen")) ?_); intro _; (try dsimp only)))) )) | (with_reducible (((fail_if_success (fail_if_success (with_reducible refine' gd9 (t := compareOp CmpOp.Eq (Value.ref _) (Value.ref _)) ?_))); k_dflt (refine' two_eq (by k_asm) (by k_mem) (by k_mem) (by exact rfl) (by exact rfl) (by decide +kernel) (by ktr_units) ?_); (try dsimp only)))) | (with_reducible (((fail_if_success (fail_if_success (with_reducible refine' gd9 (t := delItem (Value.ref _) _) ?_))); k_dflt (refine' own_delItem ?zF9 ?zX9 ?zI9 ?zhQ9 ?zhS9 ?zhF9 ?_; (case zF9 => k_asm); (case zX9 => k_asm); (case zI9 => k_inst); (case zhS9 => k_is); (case zhF9 => k_is); (case zhQ9 => k_is); k_whole)))) | (with_reducible (((fail_if_success (fail_if_success (with_reducible refine' gd9 (t := exec (Stmt.For _ _ _ _ _) _) ?_))); (rename Fr _ _ _ _ => lF'); (with_unfolding_all refine' For_turns lF' ?_); k_whole))) | (with_reducible (((fail_if_success (fail_if_success (with_reducible refine' gd9 (t := getMethod (Value.ref _) (PySem.Str.ofString "search") _) ?_))); k_dflt (refine' pat_method (by k_asm) (by k_asm) (by k_is) (by rfl) (by rfl) ?_)))) | (with_reducible (((fail_if_success (fail_if_success (with_reducible refine' gd9 (t := leaving _ (Value.ref _)) ?_))); k_dflt (refine' leave_onSX ?zk19 ?zk29 ?zk39 ?zk49 ?_; (case zk39 => assumption); (case zk29 => assumption); (case zk19 => assumption); (case zk49 => assumption); k_whole); intro _ S' R' U'; (try dsimp only at S' R' U' ⊢); revert S' R' U'; intro _ _ _))) | (with_reducible (((fail_if_success (fail_if_success (with_reducible refine' gd9 (t := truthy (Value.ref _)) ?_))); k_dflt (refine truthy_match (by with_reducible assumption) ?_)))) )) | walk1) | ((with_reducible show wpAny _ _ _ _ _ _); dsimp only) | (leave1; walk_say "STEP leave1"; try dsimp only) | fail "no step"))
    all_goals exact ret _ _ (by k_asm) (cb_drop (by k_asm) (by walk_at "sub"))
  case done =>
    rintro m₁ nw h t2 ⟨h0, _⟩
    exact absurd h0 (Nat.succ_ne_zero 0)
end

theorem rs_E3_comp2 : True := by w_top off; trivial
theorem turn2_0 (elt ta ia tb ib : Expr) (scope : Scope) (pos : Pos) (it acc : Value) (env : Env) : compTurn (.ListComp elt [⟨ta, ia, [], 0⟩, ⟨tb, ib, [], 0⟩] scope pos) 0 it acc env = (standAt ia.pos >>= fun _ => pyNext it >>= fun r => match r with
  | none => pure (.done .next)
  | some v => letOwnedTupleGo ta it v >>= fun _ => assign ta env v >>= fun _ =>
     eval ib env >>= fun x => standAt ib.pos >>= fun _ => foldedSetIterable ib env x >>= fun x => (holding [x] (pyIter x)) >>= fun j => runOwn (.compStart (.ListComp elt [⟨ta, ia, [], 0⟩, ⟨tb, ib, [], 0⟩] scope pos) 1 j acc env) env >>= fun _ =>
       again (.compLoop (.ListComp elt [⟨ta, ia, [], 0⟩, ⟨tb, ib, [], 0⟩] scope pos) 0 it acc env)) := by rfl
theorem turn2_1 (elt ta ia tb ib : Expr) (scope : Scope) (pos : Pos) (it acc : Value) (env : Env) : compTurn (.ListComp elt [⟨ta, ia, [], 0⟩, ⟨tb, ib, [], 0⟩] scope pos) 1 it acc env = (standAt ib.pos >>= fun _ => pyNext it >>= fun r => match r with
  | none => pure (.done .next)
  | some v => letOwnedTupleGo tb it v >>= fun _ => assign tb env v >>= fun _ =>
     (eval elt env >>= fun x => call (.builtin "list.append") [acc, x] >>= fun _ => pure ()) >>= fun _ =>
       again (.compLoop (.ListComp elt [⟨ta, ia, [], 0⟩, ⟨tb, ib, [], 0⟩] scope pos) 1 it acc env)) := by rfl
section
open PySem.Calls
variable {prog : Program} {w : World} {A : Around} {R : Result → Shared → Prop} {s : Shared}
theorem loop2_0 {elt ta ia tb ib : Expr} {scope : Scope} {pos : Pos} {it acc : Value} {env : Env} (I : Nat → Shared → Prop)
    (turn : ∀ n s, I n s → wpAny (model prog w) A (pyNext it) (fun r s₁ => match r with
      | none => R (.ok .next) s₁
      | some v => wpAny (model prog w) A (assign ta env v) (fun _ s₂ => wpAny (model prog w) A (eval ib env) (fun x s₃ => wpAny (model prog w) A (pyIter x) (fun j s₄ =>
          codeAny (model prog w) A (.compStart (.ListComp elt [⟨ta, ia, [], 0⟩, ⟨tb, ib, [], 0⟩] scope pos) 1 j acc env) (fun r s₅ => match r with
            | .ok _ => ∃ m, m < n ∧ I m s₅
            | .error e => cameBackBy (model prog w) A env (notedBy (model prog w) A env fun e s' => R (.error e) s') e s₅) s₄)
          (notedBy (model prog w) A env fun e s' => R (.error e) s') s₃) (notedBy (model prog w) A env fun e s' => R (.error e) s') s₂) (notedBy (model prog w) A env fun e s' => R (.error e) s') s₁) (notedBy (model prog w) A env fun e s' => R (.error e) s') s)
    (n : Nat) (h : I n s) (ht : ∀ v, letOwnedTupleGo ta it v = pure () := by intro _; rfl) (hs : ∀ x, foldedSetIterable ib env x = pure x := by intro _; rfl) :
    codeAny (model prog w) A (.compLoop (.ListComp elt [⟨ta, ia, [], 0⟩, ⟨tb, ib, [], 0⟩] scope pos) 0 it acc env) R s := by
  refine codeAny_loop rfl I (fun n s hI => ?_) n h
  show wpAny _ A ((compTurn (.ListComp elt [⟨ta, ia, [], 0⟩, ⟨tb, ib, [], 0⟩] scope pos) 0 it acc env).onRaise (fun x => do noteFrame x env; theTreesLotGoes x)) _ _ s
  refine wpAny_noted ?_
  rw [turn2_0]
  refine wpAny_bind (wpAny_standAt (wpAny_bind (wpAny_mono (turn n s hI) (fun r s₁ h₁ => ?_) fun _ _ h' => h')))
  cases r with
  | none => exact wpAny_pure h₁
  | some v =>
    refine wpAny_bind (wpAny_of_eq (ht v) ?_)
    refine wpAny_bind (wpAny_mono h₁ (fun _ s₂ h₂ => ?_) fun _ _ h' => h')
    refine wpAny_bind (wpAny_mono h₂ (fun x s₃ h₃ => ?_) fun _ _ h' => h')
    refine wpAny_bind (wpAny_standAt (wpAny_bind (wpAny_of_eq (hs x) ?_)))
    refine wpAny_bind (wpAny_holding (wpAny_mono h₃ (fun j s₄ h₄ => ?_) fun _ _ h' => h'))
    refine wpAny_bind (wpAny_runOwn (h := none) (codeAny_mono (A := A) h₄ ?_))
    intro r s₅ h₅
    cases r with
    | ok f => exact wpAny_pure ⟨rfl, h₅⟩
    | error e => exact h₅
theorem loop2_1 {elt ta ia tb ib : Expr} {scope : Scope} {pos : Pos} {it acc : Value} {env : Env} (I : Nat → Shared → Prop)
    (turn : ∀ n s, I n s → wpAny (model prog w) A (pyNext it) (fun r s₁ => match r with
      | none => R (.ok .next) s₁
      | some v => wpAny (model prog w) A (assign tb env v) (fun _ s₂ => wpAny (model prog w) A (eval elt env) (fun x s₃ =>
          wpAny (model prog w) A (call (.builtin "list.append") [acc, x]) (fun _ s₄ => ∃ m, m < n ∧ I m s₄) (notedBy (model prog w) A env fun e s' => R (.error e) s') s₃)
          (notedBy (model prog w) A env fun e s' => R (.error e) s') s₂) (notedBy (model prog w) A env fun e s' => R (.error e) s') s₁) (notedBy (model prog w) A env fun e s' => R (.error e) s') s)
    (n : Nat) (h : I n s) (ht : ∀ v, letOwnedTupleGo tb it v = pure () := by intro _; rfl) :
    codeAny (model prog w) A (.compLoop (.ListComp elt [⟨ta, ia, [], 0⟩, ⟨tb, ib, [], 0⟩] scope pos) 1 it acc env) R s := by
  refine codeAny_loop rfl I (fun n s hI => ?_) n h
  show wpAny _ A ((compTurn (.ListComp elt [⟨ta, ia, [], 0⟩, ⟨tb, ib, [], 0⟩] scope pos) 1 it acc env).onRaise (fun x => do noteFrame x env; theTreesLotGoes x)) _ _ s
  refine wpAny_noted ?_
  rw [turn2_1]
  refine wpAny_bind (wpAny_standAt (wpAny_bind (wpAny_mono (turn n s hI) (fun r s₁ h₁ => ?_) fun _ _ h' => h')))
  cases r with
  | none => exact wpAny_pure h₁
  | some v =>
    refine wpAny_bind (wpAny_of_eq (ht v) ?_)
    exact wpAny_bind (wpAny_mono h₁ (fun _ s₂ h₂ => wpAny_bind (wpAny_bind (wpAny_mono h₂ (fun x s₃ h₃ => wpAny_bind (wpAny_mono h₃
      (fun _ s₄ h₄ => wpAny_pure (wpAny_pure ⟨rfl, h₄⟩)) fun _ _ h' => h')) fun _ _ h' => h'))) fun _ _ h' => h')
theorem start2_1 {elt ta ia tb ib : Expr} {scope : Scope} {pos : Pos} {it acc : Value} {env : Env}
    (h0 : codeAny (model prog w) A (.compLoop (.ListComp elt [⟨ta, ia, [], 0⟩, ⟨tb, ib, [], 0⟩] scope pos) 1 it acc env) R s)
    (h : wpAny (model prog w) A (pyIter it) (fun it' s' => codeAny (model prog w) A (.compLoop (.ListComp elt [⟨ta, ia, [], 0⟩, ⟨tb, ib, [], 0⟩] scope pos) 1 it' acc env) R s')
      (notedBy (model prog w) A env fun x s' => R (.error x) s') s) :
    codeAny (model prog w) A (.compStart (.ListComp elt [⟨ta, ia, [], 0⟩, ⟨tb, ib, [], 0⟩] scope pos) 1 it acc env) R s := by
  refine codeAny_of_tree ?_
  show wpAny _ _ ((compStart (.ListComp elt [⟨ta, ia, [], 0⟩, ⟨tb, ib, [], 0⟩] scope pos) 1 it acc env).onRaise (fun x => do noteFrame x env; standAt theWindowsPlace)) _ _ s
  refine wpAny_notedAt ?_
  unfold compStart
  show wpAny _ _ (ask >>= _) _ _ s
  refine wpAny_bind (wpAny_askSetting (wpAny_ite ?_))
  split
  · first
      | exact wpAny_bind (wpAny_pure (wpAny_pure (And.intro rfl h0)))
      | exact wpAny_pure (And.intro rfl h0)
  · first
      | exact wpAny_bind (wpAny_rule (wpAny_bind (wpAny_standAt (wpAny_bind (wpAny_mono h (fun it' s' h' => wpAny_pure (And.intro rfl h')) fun _ _ x => x)))))
      | (refine wpAny_bind (wpAny_rule ?_); show wpAny _ _ (standAt ib.pos >>= _) _ _ s; exact wpAny_bind (wpAny_standAt (wpAny_bind (wpAny_mono h (fun it' s' h' => wpAny_pure (And.intro rfl h')) fun _ _ x => x))))
end
open PyProof.Rows.LCg PySem.Calls in
section
variable {prog : Program} {w : World} {A : Around} {E : Value → Shared → Prop} {s : Shared} {h₀ : Heap} {L : Addr} {m : Str → Option Value} {env : Env}
/-- the inner source of a comprehension of two clauses, where it has been evaluated -/
inductive Inner2 (prog : Program) (w : World) (A : Around) (h₀ : Heap) (L : Addr) (m : Str → Option Value) (env : Env) (elt : Expr) (a b : Str) (scope : Scope) (cl : List (Str × Addr)) (S : List (Addr × Obj) → Prop) (J : List Value → List (Addr × Obj) → Prop) (v : Value) (I : Addr) (oI : Obj) (C D : Addr) (ys : List Value) (sz : Shared) (xv : Value) (s₃ : Shared) : Prop
  | mk (n : Nat) (P : Nat → Value → Prop) (S₂ : List (Addr × Obj) → Prop) (oC : Obj) (m₂ : Str → Option Value) (news : List (Addr × Obj)) (J₂ : Nat → List Value → List (Addr × Obj) → Prop) (h' : Heap) (tk : Nat) (e0 : s₃ = { sz with heap := h', toks := tk }) (e1 : NsObj oC m₂) (e2 : m₂ a = some v) (e3 : Fr h₀ L h' m) (e4 : News h₀ L h' ((I, oI) :: (C, oC) :: (D, lst ys) :: news)) (e5 : Off3 I C D news) (e6 : IterSrc prog w A h₀ L xv s₃ n P S₂) (e7 : J₂ 0 ys news) (e8 : (∀ j ys nw, J₂ j ys nw → ys.length ≤ sizeLine ∧ S nw ∧ S₂ nw)) (e9 : (∀ ys nw, J₂ n ys nw → J ys nw)) (e10 : ∀ j v₂ I₂ oI₂ oC' ys nw m₃ h tk (Q' E' : Value → Shared → Prop), j < n → P j v₂ → J₂ j ys nw → NsObj oC' m₃ → m₃ a = some v → m₃ b = some v₂ → Fr h₀ L h m → News h₀ L h ((I₂, oI₂) :: (C, oC') :: (D, lst ys) :: (I, oI) :: nw) → Off3 I₂ C D ((I, oI) :: nw) → (∀ p ∈ nw, @Ne Nat p.1 I) → ((@Ne Nat I₂ C) ∧ (@Ne Nat I₂ D) ∧ (@Ne Nat C D)) → (∀ y h' tk' nw', Fr h₀ L h' m → News h₀ L h' ((I₂, oI₂) :: (C, oC') :: (D, lst ys) :: (I, oI) :: nw') → Off3 I₂ C D ((I, oI) :: nw') → (∀ p ∈ nw', @Ne Nat p.1 I) → J₂ (j + 1) (ys ++ [y]) nw' → Q' y { sz with heap := h', toks := tk' }) → wpAny (model prog w) A (eval elt (compEnvC scope cl C env)) Q' E' { sz with heap := h, toks := tk }) : Inner2 prog w A h₀ L m env elt a b scope cl S J v I oI C D ys sz xv s₃
theorem inner2 {elt ia ib : Expr} {a b : Str} {pa pb : Pos} {scope : Scope} {cl : List (Str × Addr)} {pos : Pos} {S : List (Addr × Obj) → Prop} {J : List Value → List (Addr × Obj) → Prop} {v : Value} {I : Addr} {oI : Obj} {C D : Addr} {ys : List Value} {xv : Value} {s₃ : Shared} {R : Result → Shared → Prop}
    (hkind : scope.kind = .function) (hxb : scope.names.lookup b = some .local) (hab : ¬ a = b) (ne : (@Ne Nat I C) ∧ (@Ne Nat I D) ∧ (@Ne Nat C D))
    (hIn : Inner2 prog w A h₀ L m env elt a b scope cl S J v I oI C D ys s xv s₃)
    (hR : ∀ h' tk ys' nw m', Fr h₀ L h' m → h'.Ns C m' → News h₀ L h' ((I, oI) :: (D, lst ys') :: nw) → Off3 I C D nw → J ys' nw → S nw → R (.ok .next) { s with heap := h', toks := tk }) :
    wpAny (model prog w) A (pyIter xv) (fun j s₄ => codeAny (model prog w) A (.compStart (.ListComp elt [⟨.Name a pa, ia, [], 0⟩, ⟨.Name b pb, ib, [], 0⟩] scope pos) 1 j (.ref D) (compEnvC scope cl C env)) R s₄) E s₃ := by
  obtain ⟨n, P, S₂, oC, m₂, news, J₂, h', tk, rfl, hoC, hma, F, N, off, hsrc, hJ, hJS, hJE, step⟩ := hIn
  obtain ⟨neIC, neID, neCD⟩ := ne
  refine hsrc _ _ fun o fp St hf W st hlt hfp hIo hSt => ?_
  dsimp only at hlt hSt W hIo ⊢
  have zI := N (I, oI) List.mem_cons_self
  have zC := N (C, oC) (List.mem_cons_of_mem _ List.mem_cons_self)
  have zD := N (D, lst ys) (List.mem_cons_of_mem _ (List.mem_cons_of_mem _ List.mem_cons_self))
  have ltI := Heap.lt_size zI.1
  have ltC := Heap.lt_size zC.1
  have ltD := Heap.lt_size zD.1
  have ltL : L < h'.objs.size := F.ns.lt
  have n0 : h₀.get? h'.objs.size = none := next_is_new F
  have up : ∀ b o', h'.get? b = some o' → (h'.push o).get? b = some o' := fun b o' e => Heap.get?_push_of_some _ e
  have offN : ∀ p ∈ news, p.1 ≠ h'.objs.size := fun p hp => Nat.ne_of_lt (Heap.lt_size (N p (List.mem_cons_of_mem _ (List.mem_cons_of_mem _ (List.mem_cons_of_mem _ hp)))).1)
  generalize h'.objs.size = I₂ at *
  have nI : I ≠ I₂ := Nat.ne_of_lt ltI
  have nC : C ≠ I₂ := Nat.ne_of_lt ltC
  have nD : D ≠ I₂ := Nat.ne_of_lt ltD
  have nL : L ≠ I₂ := Nat.ne_of_lt ltL
  have hIL : I ≠ L := zI.2.1
  have hI₀ : h₀.get? I = none := zI.2.2
  have hCL : C ≠ L := zC.2.1
  have hC₀ : h₀.get? C = none := zC.2.2
  have hDL : D ≠ L := zD.2.1
  have hD₀ : h₀.get? D = none := zD.2.2
  have loop : ∀ s₄ : Shared, s₄ = { s with heap := h'.push o, toks := tk } →
      codeAny (model prog w) A (.compLoop (.ListComp elt [⟨.Name a pa, ia, [], 0⟩, ⟨.Name b pb, ib, [], 0⟩] scope pos) 1 (.ref I₂) (.ref D) (compEnvC scope cl C env)) R s₄ := by
    rintro s₄ rfl
    refine loop2_1 (fun k s' => ∃ h₁ tk₁ j ys m' nw, s' = { s with heap := h₁, toks := tk₁ } ∧ j ≤ n ∧ k = n + 1 - j ∧ St j h₁ ∧ Fr h₀ L h₁ m ∧ h₁.Ns C m' ∧ m' a = some v ∧ News h₀ L h₁ ((I, oI) :: (D, lst ys) :: nw) ∧ Off3 I C D nw ∧ (∀ p ∈ nw, p.1 ≠ I₂) ∧ J₂ j ys nw) ?_ (n + 1)
      ⟨_, _, 0, ys, m₂, news, rfl, Nat.zero_le _, rfl, st, F.keeps up, hoC.ns (up _ _ zC.1), hma, fun p hp => ?_, off, offN, hJ⟩
    · rintro k s' ⟨h₁, tk₁, j, ys, m', nw, rfl, hj, rfl, hst, F', hn', hma', N', off', off₂, hJ'⟩
      have off3 := off'.mem
      by_cases hltj : j < n
      · refine W.item j _ _ _ hltj hst fun v₂ h₂ tk₂ hPv hst₂ hk₂ => ?_
        refine wpAny_assign_Name (wpAny_storeName_local (lookup_relabel_local hxb) (hn'.at' fun o e => hk₂ _ o (by simpa using nC) e) (fun h₃ hn₃ hs₃ => ?_) (by simp [compEnvC, relabel, hkind]))
        obtain ⟨oI₂, heI₂⟩ := hIo _ _ hst₂
        obtain ⟨oC', heC, hoC'⟩ := ns_obj hn₃
        have heI₃ : h₃.get? I₂ = some oI₂ := hs₃.extBut _ _ (Ne.symm nC) heI₂
        have F₃ : Fr h₀ L h₃ m := (fr_but F' hk₂ nL n0).change hs₃ hCL hC₀
        have N₂ : News h₀ L h₂ ((I, oI) :: (D, lst ys) :: nw) := news_but N' hk₂ fun p hp => by
          rcases List.mem_cons.mp hp with rfl | hp
          · exact nI
          rcases List.mem_cons.mp hp with rfl | hp
          · exact nD
          · exact off₂ p hp
        have N₃' : News h₀ L h₃ ((I, oI) :: (D, lst ys) :: nw) := fun p hp => ⟨hs₃.extBut _ _ (by
          rcases List.mem_cons.mp hp with rfl | hp
          · exact neIC
          rcases List.mem_cons.mp hp with rfl | hp
          · exact Ne.symm neCD
          · exact (off3 p hp).2.1) (N₂ p hp).1, (N₂ p hp).2⟩
        have N₃ : News h₀ L h₃ ((I₂, oI₂) :: (C, oC') :: (D, lst ys) :: (I, oI) :: nw) := fun p hp => by
          rcases List.mem_cons.mp hp with rfl | hp
          · exact ⟨heI₃, Ne.symm nL, n0⟩
          rcases List.mem_cons.mp hp with rfl | hp
          · exact ⟨heC, hCL, hC₀⟩
          rcases List.mem_cons.mp hp with rfl | hp
          · exact N₃' _ (List.mem_cons_of_mem _ List.mem_cons_self)
          rcases List.mem_cons.mp hp with rfl | hp
          · exact N₃' _ List.mem_cons_self
          · exact N₃' _ (List.mem_cons_of_mem _ (List.mem_cons_of_mem _ hp))
        have hst₃ : St (j + 1) h₃ := hSt _ _ _ _ nw hst₂ heI₂ heI₃ F₃.keep (fun p hp => N₃' p (List.mem_cons_of_mem _ (List.mem_cons_of_mem _ hp))) (hJS _ _ _ hJ').2.2
        have offI : ∀ p ∈ nw, @Ne Nat p.1 I := fun p hp => (off3 p hp).1
        refine wpAny_mono (step j v₂ I₂ oI₂ oC' ys nw _ h₃ _ (fun y s₄ => ∃ h' tk' nw', s₄ = { s with heap := h', toks := tk' } ∧ Fr h₀ L h' m ∧ News h₀ L h' ((I₂, oI₂) :: (C, oC') :: (D, lst ys) :: (I, oI) :: nw') ∧ Off3 I₂ C D ((I, oI) :: nw') ∧ (∀ p ∈ nw', @Ne Nat p.1 I) ∧ J₂ (j + 1) (ys ++ [y]) nw') _ hltj hPv hJ' hoC' (by simp [hab, hma']) (by simp) F₃ N₃
          (Off3.of fun p hp => by
            rcases List.mem_cons.mp hp with rfl | hp
            · exact ⟨nI, neIC, neID⟩
            · exact ⟨off₂ p hp, (off3 p hp).2.1, (off3 p hp).2.2⟩) offI ⟨Ne.symm nC, Ne.symm nD, neCD⟩ fun y h' tk' nw' F4 N4 o4 oI4 hJ4 => ⟨h', tk', nw', rfl, F4, N4, o4, oI4, hJ4⟩) (fun y s₄ h₄ => ?_) fun _ _ e => e
        obtain ⟨h₄, tk₄, nw₄, rfl, F₄, N₄, off₄, offI₄, hJ₄⟩ := h₄
        have yI₂ := (N₄ (I₂, oI₂) List.mem_cons_self).1
        have yC := (N₄ (C, oC') (List.mem_cons_of_mem _ List.mem_cons_self)).1
        have yD := (N₄ (D, lst ys) (List.mem_cons_of_mem _ (List.mem_cons_of_mem _ List.mem_cons_self))).1
        have N₄' : News h₀ L h₄ ((I, oI) :: nw₄) := fun p hp => N₄ p (List.mem_cons_of_mem _ (List.mem_cons_of_mem _ (List.mem_cons_of_mem _ hp)))
        have hst₄ : St (j + 1) h₄ := hSt _ _ _ _ nw₄ hst₃ heI₃ yI₂ F₄.keep (fun p hp => N₄' p (List.mem_cons_of_mem _ hp)) (hJS _ _ _ hJ₄).2.2
        refine append_at (hsz := by show ys.toArray.size ≤ sizeLine; rw [List.size_toArray]; exact (hJS _ _ _ hJ').1) yD fun h₅ hs₅ hD₅ => ?_
        have off4 := off₄.mem
        have N₅' : News h₀ L h₅ ((I, oI) :: nw₄) := fun p hp => ⟨hs₅.extBut _ _ (off4 p hp).2.2 (N₄' p hp).1, (N₄' p hp).2⟩
        have yI₅ : h₅.get? I₂ = some oI₂ := hs₅.extBut _ _ (Ne.symm nD) yI₂
        have F₅ := F₄.change hs₅ hDL hD₀
        refine ⟨n + 1 - (j + 1), by omega, h₅, tk₄, j + 1, ys ++ [y], _, nw₄, rfl, hltj, rfl, hSt _ _ _ _ nw₄ hst₄ yI₂ yI₅ F₅.keep (fun p hp => N₅' p (List.mem_cons_of_mem _ hp)) (hJS _ _ _ hJ₄).2.2, F₅, (hoC'.ns yC).sameBut hs₅ neCD, by simp [hab, hma'], fun p hp => ?_,
          Off3.of fun p hp => ⟨offI₄ p hp, (off4 p (List.mem_cons_of_mem _ hp)).2⟩, fun p hp => (off4 p (List.mem_cons_of_mem _ hp)).1, hJ₄⟩
        rcases List.mem_cons.mp hp with rfl | hp
        · exact N₅' _ List.mem_cons_self
        rcases List.mem_cons.mp hp with rfl | hp
        · exact ⟨hD₅.trans (congrArg some (lst_snoc ys y)), hDL, hD₀⟩
        · exact N₅' _ (List.mem_cons_of_mem _ hp)
      · obtain rfl : j = n := Nat.le_antisymm hj (Nat.not_lt.mp hltj)
        refine W.done _ _ _ hst fun h₂ tk₂ hk₂ => ?_
        exact hR h₂ tk₂ ys nw m' (fr_but F' hk₂ nL n0) (hn'.at' fun o e => hk₂ _ o (by simpa using nC) e) (news_but N' hk₂ fun p hp => by
          rcases List.mem_cons.mp hp with rfl | hp
          · exact nI
          rcases List.mem_cons.mp hp with rfl | hp
          · exact nD
          · exact off₂ p hp) off' (hJE _ _ hJ') (hJS _ _ _ hJ').2.1
    · rcases List.mem_cons.mp hp with rfl | hp
      · exact ⟨up _ _ zI.1, zI.2⟩
      rcases List.mem_cons.mp hp with rfl | hp
      · exact ⟨up _ _ zD.1, zD.2⟩
      · have z := N p (List.mem_cons_of_mem _ (List.mem_cons_of_mem _ (List.mem_cons_of_mem _ hp)))
        exact ⟨up _ _ z.1, z.2⟩
  exact start2_1 (loop _ rfl) (W.self 0 _ _ _ st (loop _ rfl))

/-- the outer source of a comprehension of two clauses -/
inductive CSrc2 (prog : Program) (w : World) (A : Around) (h₀ : Heap) (L : Addr) (m : Str → Option Value) (env : Env) (elt ib : Expr) (a b : Str) (scope : Scope) (cl : List (Str × Addr)) (Fin : Shared → List Value → List (Addr × Obj) → Prop) (xv : Value) (s₁ : Shared) : Prop
  | mk (n : Nat) (P : Nat → Value → Prop) (S : List (Addr × Obj) → Prop) (news : List (Addr × Obj)) (J : Nat → List Value → List (Addr × Obj) → Prop) (e0 : Fr h₀ L s₁.heap m) (e1 : News h₀ L s₁.heap news) (e2 : IterSrc prog w A h₀ L xv s₁ n P S) (e3 : J 0 [] news) (e4 : S news) (e5 : (∀ ys nw, J n ys nw → Fin s₁ ys nw)) (e6 : ∀ i v I oI oC C D ys nw m₂ h tk (Q' E' : Value → Shared → Prop), i < n → P i v → J i ys nw → S nw → NsObj oC m₂ → m₂ a = some v → Fr h₀ L h m → News h₀ L h ((I, oI) :: (C, oC) :: (D, lst ys) :: nw) → Off3 I C D nw → ((@Ne Nat I C) ∧ (@Ne Nat I D) ∧ (@Ne Nat C D)) → (∀ xv₂ s₃, Inner2 prog w A h₀ L m env elt a b scope cl S (J (i + 1)) v I oI C D ys s₁ xv₂ s₃ → Q' xv₂ s₃) → wpAny (model prog w) A (eval ib (compEnvC scope cl C env)) Q' E' { s₁ with heap := h, toks := tk }) : CSrc2 prog w A h₀ L m env elt ib a b scope cl Fin xv s₁
theorem block_2 {elt ia ib : Expr} {a b : Str} {pa pb : Pos} {scope : Scope} {cl : List (Str × Addr)} {pos : Pos} {Fin : Shared → List Value → List (Addr × Obj) → Prop} {RR : Value → Addr → Result → Shared → Prop} {xv : Value} {s₁ : Shared}
    (hcell : ∀ y ∈ scope.names, y.2 ≠ .cell) (hkind : scope.kind = .function) (hxa : scope.names.lookup a = some .local) (hxb : scope.names.lookup b = some .local) (hab : ¬ a = b)
    (hsrc : CSrc2 prog w A h₀ L m env elt ib a b scope cl Fin xv s₁)
    (hRR : ∀ D C h tk m' ys news', Fr h₀ L h m → News h₀ L h ((D, lst ys) :: news') → Off1 D news' → h.Ns C m' → h₀.get? C = none → h₀.get? D = none → C ≠ L → D ≠ L → C ≠ D → (∀ p ∈ news', p.1 ≠ C) → Fin s₁ ys news' → RR (.ref D) C (.ok .next) { s₁ with heap := h, toks := tk })
    (hs : ∀ x env', foldedSetIterable ib env' x = pure x := by intro _ _; rfl) :
    wpAny (model prog w) A (pyIter xv) (fun it s₂ => wpAny (model prog w) A (newList []) (fun acc s₃ => wpAny (model prog w) A (newFunctionEnv scope env.globals cl [] env.qual none .none (some env)) (fun cenv s₄ =>
      codeAny (model prog w) A (.compStart (.ListComp elt [⟨.Name a pa, ia, [], 0⟩, ⟨.Name b pb, ib, [], 0⟩] scope pos) 0 it acc { cenv with scope := relabel scope env }) (RR acc cenv.locals) s₄) E s₃) E s₂) E s₁ := by
  obtain ⟨n, P, S, news, J, F, N, I', hJ, hS, hfin, step⟩ := hsrc
  refine I' _ _ fun o fp St hf W st hlt hfp hIo hSt => ?_
  refine wpAny_newObj_type (wpAny_newFunctionEnv hcell (by intro y hy; simp at hy) (fun h₁ hns₁ hsb₁ => ?_) hkind)
  dsimp only at hns₁ hsb₁ ⊢
  have hI : (s₁.heap.push o).objs.size = s₁.heap.objs.size + 1 := Heap.size_push ..
  have e0 : ∀ b o', s₁.heap.get? b = some o' → (s₁.heap.push o).get? b = some o' := fun b o' e => Heap.get?_push_of_some _ e
  generalize s₁.heap.push o = H1 at hns₁ hsb₁ hI e0 st ⊢
  have hD : (H1.push { cls := .type "list", dict := none, data := .seq ([] : List Value).toArray }).objs.size = H1.objs.size + 1 := Heap.size_push ..
  have e1 : ∀ b o, H1.get? b = some o → (H1.push { cls := .type "list", dict := none, data := .seq ([] : List Value).toArray }).get? b = some o := fun b o e => Heap.get?_push_of_some _ e
  have hL1 : (H1.push { cls := .type "list", dict := none, data := .seq ([] : List Value).toArray }).get? H1.objs.size = some (lst []) := Heap.get?_push_size _ rfl
  generalize H1.push { cls := .type "list", dict := none, data := .seq ([] : List Value).toArray } = H2 at hns₁ hsb₁ hD e1 hL1 ⊢
  have old : ∀ b o, H2.get? b = some o → h₁.get? b = some o := fun b o e => hsb₁.extBut b o (Nat.ne_of_lt (Heap.lt_size e)) (Heap.get?_push_of_some _ e)
  have hI1 : H1.objs.size = s₁.heap.objs.size + 1 := hI
  have hC2 : H2.objs.size = s₁.heap.objs.size + 2 := by rw [hD, hI1]
  have up : ∀ b o, s₁.heap.get? b = some o → h₁.get? b = some o := fun b o e => old _ _ (e1 _ _ (e0 _ _ e))
  have fresh₀ : ∀ a, s₁.heap.objs.size ≤ a → h₀.get? a = none := fun a ha => by
    cases e : h₀.get? a with
    | none => rfl
    | some o' => exact absurd (Heap.lt_size (F.keep a o' e)) (Nat.not_lt.mpr ha)
  have hLlt : L < s₁.heap.objs.size := F.ns.lt
  have hst₁ : St 0 h₁ := by
    obtain ⟨oI, heI⟩ := hIo _ _ st
    exact hSt _ _ _ _ news st heI (old _ _ (e1 _ _ heI)) (F.keeps up).keep (fun p hp => ⟨up _ _ (N p hp).1, (N p hp).2⟩) hS
  generalize hIe : s₁.heap.objs.size = I at *
  generalize hDe : H1.objs.size = D at *
  generalize hCe : H2.objs.size = C at *
  have nID : I ≠ D := by rw [hI1]; exact Nat.ne_of_lt (Nat.lt_succ_self _)
  have nIC : I ≠ C := by rw [hC2]; exact Nat.ne_of_lt (Nat.lt_add_of_pos_right (by decide))
  have nDC : D ≠ C := by rw [hI1, hC2]; exact Nat.ne_of_lt (Nat.lt_succ_self _)
  have nLI : L ≠ I := Nat.ne_of_lt hLlt
  have nLD : L ≠ D := by rw [hI1]; exact Nat.ne_of_lt (Nat.lt_succ_of_lt hLlt)
  have nLC : L ≠ C := by rw [hC2]; exact Nat.ne_of_lt (Nat.lt_add_right 2 hLlt)
  have zI : h₀.get? I = none := fresh₀ _ (Nat.le_refl _)
  have zD : h₀.get? D = none := fresh₀ _ (by rw [hI1]; exact Nat.le_succ _)
  have zC : h₀.get? C = none := fresh₀ _ (by rw [hC2]; exact Nat.le_add_right _ 2)
  have off₀ : ∀ p ∈ news, p.1 ≠ I ∧ p.1 ≠ C ∧ p.1 ≠ D := fun p hp => by
    have l := Heap.lt_size (N p hp).1
    rw [hIe] at l
    refine ⟨Nat.ne_of_lt l, ?_, ?_⟩
    · rw [hC2]; exact Nat.ne_of_lt (Nat.lt_add_right 2 l)
    · rw [hI1]; exact Nat.ne_of_lt (Nat.lt_succ_of_lt l)
  have loop : ∀ s₃ : Shared, s₃ = { s₁ with heap := h₁, toks := s₁.toks + ([] : List (Str × Value)).length } →
      codeAny (model prog w) A (.compLoop (.ListComp elt [⟨.Name a pa, ia, [], 0⟩, ⟨.Name b pb, ib, [], 0⟩] scope pos) 0 (.ref I) (.ref D) (compEnvC scope cl C env)) (RR (.ref D) C) s₃ := by
    rintro s₃ rfl
    refine loop2_0 (fun k s' => ∃ h' tk i ys m' nw, s' = { s₁ with heap := h', toks := tk } ∧ i ≤ n ∧ k = n + 1 - i ∧ St i h' ∧ Fr h₀ L h' m ∧ h'.Ns C m' ∧ News h₀ L h' ((D, lst ys) :: nw) ∧ Off3 I C D nw ∧ J i ys nw ∧ S nw) ?_ (n + 1)
      ⟨h₁, _, 0, [], _, news, rfl, Nat.zero_le _, rfl, hst₁, F.keeps up, hns₁, fun p hp => ?_, Off3.of off₀, hJ, hS⟩ (by intro _; rfl) (fun x => hs x _)
    · rintro k s' ⟨h', tk, i, ys, m', nw, rfl, hi, rfl, hst, F', hn', N', off', hJ', hS'⟩
      have off3 := off'.mem
      by_cases hlti : i < n
      · refine W.item i _ _ _ hlti hst fun v h₂ tk₂ hPv hst₂ hk₂ => ?_
        refine wpAny_assign_Name (wpAny_storeName_local (lookup_relabel_local hxa) (hn'.at' fun o e => hk₂ _ o (by simpa using Ne.symm nIC) e) (fun h₃ hn₃ hs₃ => ?_) (by simp [compEnvC, relabel, hkind]))
        obtain ⟨oI, heI⟩ := hIo _ _ hst₂
        obtain ⟨oC, heC, hoC⟩ := ns_obj hn₃
        have heI₃ : h₃.get? I = some oI := hs₃.extBut _ _ nIC heI
        have F₃ : Fr h₀ L h₃ m := (fr_but F' hk₂ nLI zI).change hs₃ (Ne.symm nLC) zC
        have N₂ : News h₀ L h₂ ((D, lst ys) :: nw) := news_but N' hk₂ fun p hp => by
          rcases List.mem_cons.mp hp with rfl | hp
          · exact Ne.symm nID
          · exact (off3 p hp).1
        have N₃' : News h₀ L h₃ ((D, lst ys) :: nw) := fun p hp => ⟨hs₃.extBut _ _ (by
          rcases List.mem_cons.mp hp with rfl | hp
          · exact nDC
          · exact (off3 p hp).2.1) (N₂ p hp).1, (N₂ p hp).2⟩
        have N₃ : News h₀ L h₃ ((I, oI) :: (C, oC) :: (D, lst ys) :: nw) := fun p hp => by
          rcases List.mem_cons.mp hp with rfl | hp
          · exact ⟨heI₃, Ne.symm nLI, zI⟩
          rcases List.mem_cons.mp hp with rfl | hp
          · exact ⟨heC, Ne.symm nLC, zC⟩
          · exact N₃' p hp
        have hst₃ : St (i + 1) h₃ := hSt _ _ _ _ nw hst₂ heI heI₃ F₃.keep (fun p hp => N₃' p (List.mem_cons_of_mem _ hp)) hS'
        refine step i v I oI oC C D ys nw _ h₃ _ _ _ hlti hPv hJ' hS' hoC (by simp) F₃ N₃ off' ⟨nIC, nID, Ne.symm nDC⟩ fun xv₂ s₃ hIn => ?_
        refine inner2 (s := s₁) hkind hxb hab ⟨nIC, nID, Ne.symm nDC⟩ hIn fun h₄ tk₄ ys₄ nw₄ m₄ F₄ hn₄ N₄ off₄ hJ₄ hS₄ => ?_
        have yI := (N₄ (I, oI) List.mem_cons_self).1
        have N₄' : News h₀ L h₄ ((D, lst ys₄) :: nw₄) := fun p hp => N₄ p (List.mem_cons_of_mem _ hp)
        exact ⟨n + 1 - (i + 1), by omega, h₄, tk₄, i + 1, ys₄, m₄, nw₄, rfl, hlti, rfl, hSt _ _ _ _ nw₄ hst₃ heI₃ yI F₄.keep (fun p hp => N₄' p (List.mem_cons_of_mem _ hp)) hS₄, F₄, hn₄, N₄', off₄, hJ₄, hS₄⟩
      · obtain rfl : i = n := Nat.le_antisymm hi (Nat.not_lt.mp hlti)
        refine W.done _ _ _ hst fun h₂ tk₂ hk₂ => ?_
        exact hRR D C h₂ tk₂ m' ys nw (fr_but F' hk₂ nLI zI) (news_but N' hk₂ fun p hp => by
          rcases List.mem_cons.mp hp with rfl | hp
          · exact Ne.symm nID
          · exact (off3 p hp).1) off'.one (hn'.at' fun o e => hk₂ _ o (by simpa using Ne.symm nIC) e) zC zD (Ne.symm nLC) (Ne.symm nLD) (Ne.symm nDC) (fun p hp => (off3 p hp).2.1) (hfin _ _ hJ')
    · rcases List.mem_cons.mp hp with rfl | hp
      · exact ⟨old _ _ hL1, Ne.symm nLD, zD⟩
      · exact ⟨up _ _ (N p hp).1, (N p hp).2⟩
  exact codeAny_compStart_list (loop _ rfl) (W.self 0 _ _ _ hst₁ (loop _ rfl))

theorem comp2_eval {elt ia ib : Expr} {a b : Str} {pa pb : Pos} {scope : Scope} {cl : List (Str × Addr)} {pos : Pos} {Q : Value → Shared → Prop} (F₀ : Fr h₀ L s.heap m)
    (hclos : closureFor scope env = pure cl) (hcell : ∀ y ∈ scope.names, y.2 ≠ .cell) (hkind : scope.kind = .function)
    (hnames : ∀ y ∈ scope.names, y.2 = .local → scope.names.lookup y.1 = some .local) (hxa : scope.names.lookup a = some .local) (hxb : scope.names.lookup b = some .local) (hab : ¬ a = b)
    (h : wpAny (model prog w) A (eval ia env) (CSrc2 prog w A h₀ L m env elt ib a b scope cl (fun s₂ => FinE h₀ L m s₂ Q)) E s)
    (hs : ∀ x, foldedSetIterable ia env x = pure x := by intro _; rfl) (hs2 : ∀ x env', foldedSetIterable ib env' x = pure x := by intro _ _; rfl) :
    wpAny (model prog w) A (eval (.ListComp elt [⟨.Name a pa, ia, [], 0⟩, ⟨.Name b pb, ib, [], 0⟩] scope pos) env) Q E s := by
  rw [eval_ListComp]
  refine wpAny_comprehension_free (use := none) rfl hs hclos hkind hnames (wpAny_mono h (fun xv s₁ h₁ => ?_) fun _ _ e => e)
  exact block_2 hcell hkind hxa hxb hab h₁ (comp_fin (elt := elt) (x := a) (scope := scope) (e := ia)) hs2
theorem comp2_assign {elt ia ib : Expr} {a b y : Str} {pa pb py : Pos} {scope : Scope} {cl : List (Str × Addr)} {pos spos : Pos} {Q : Flow → Shared → Prop} (F₀ : Fr h₀ L s.heap m) (hLe : env.locals = L)
    (hsw : swapsWith (.ListComp elt [⟨.Name a pa, ia, [], 0⟩, ⟨.Name b pb, ib, [], 0⟩] scope pos) (some (.Name y py)) spos.line env = pure true)
    (hclos : closureFor scope env = pure cl) (hcell : ∀ y ∈ scope.names, y.2 ≠ .cell) (hkind : scope.kind = .function)
    (hnames : ∀ y ∈ scope.names, y.2 = .local → scope.names.lookup y.1 = some .local) (hxa : scope.names.lookup a = some .local) (hxb : scope.names.lookup b = some .local) (hab : ¬ a = b)
    (hy : env.kindOf y = some .local) (hp : (env.scope.kind == .class || (env.scope.kind == .module && env.locals != env.globals)) = false)
    (h : wpAny (model prog w) A (eval ia env) (CSrc2 prog w A h₀ L m env elt ib a b scope cl (fun s₂ => FinA h₀ L m s₂ y Q)) E s)
    (hs : ∀ x, foldedSetIterable ia env x = pure x := by intro _; rfl) (hs2 : ∀ x env', foldedSetIterable ib env' x = pure x := by intro _ _; rfl) :
    wpAny (model prog w) A (exec (.Assign [.Name y py] (.ListComp elt [⟨.Name a pa, ia, [], 0⟩, ⟨.Name b pb, ib, [], 0⟩] scope pos) spos) env) Q E s := by
  subst hLe
  rw [exec_Assign_Name_used _ _ _ _ hsw]
  refine wpAny_bind (wpAny_standAt (wpAny_bind ?_))
  show wpAny _ A (do let _ ← comprehension (.ListComp elt [⟨.Name a pa, ia, [], 0⟩, ⟨.Name b pb, ib, [], 0⟩] scope pos) scope env _ (newList []) false (eval ia env) (some (assign (.Name y py) env))) _ _ s
  refine wpAny_bind (wpAny_mono (wpAny_comprehension_free (use := some (assign (.Name y py) env)) (Q := fun _ s' => Q .next s') rfl hs hclos hkind hnames
    (wpAny_mono h (fun xv s₁ h₁ => ?_) fun _ _ e => e)) (fun _ s' hq => wpAny_pure (wpAny_pure hq)) fun _ _ e => e)
  exact block_2 hcell hkind hxa hxb hab h₁ (assign_fin (elt := elt) (iter := ia) (x := a) (px := pa) (scope := scope) hy hp) hs2
end

theorem rs_G0_plain : True := by w_top off; trivial
def plc : List T3 := [(0, 0, 3), (0, 1, 2), (0, 2, 1), (0, 3, 0), (1, 0, 2), (1, 1, 1), (1, 2, 0), (2, 0, 1), (2, 1, 0), (3, 0, 0)]
def pl (t : Nat) : T3 := plc.getD t (0, 0, 0)
def nmN (t : Nat) : Str := nm (pl t).1 (pl t).2.1 (pl t).2.2
def spN (t : Nat) : Str := spl (pl t).1 (pl t).2.1 (pl t).2.2 (t : Int)
def swN (t : Nat) : Str := Txt.swapcase (spN t)
def l1 (way : Int) (g : T3) : Str := ld way g.1 g.2.1
def l2 (way : Int) (g : T3) : Str := ld way g.1 g.2.2
def dueN (g : Nat → T3) (t : Nat) : Str := due (pl t).1 (pl t).2.1 (pl t).2.2 (g t).1 (g t).2.1 (g t).2.2
def alPre (way : Int) (g : Nat → T3) : Nat → List (Str × Str)
  | 0 => []
  | k + 1 => alPre way g k ++ [(spN k, l1 way (g k)), (spN k, l2 way (g k))]
def alN (way : Int) (g : Nat → T3) (ds : List Nat) : List (Str × Str) := ((alPre way g 10).filter fun p => !(ds.any fun t => Txt.lower p.1 == nmN t)) ++ ds.map fun t => (swN t, dueN g t)
theorem low_sp : ∀ t : Nat, t < 10 → Txt.lower (spN t) = nmN t := by
  have : ∀ t : Fin 10, Txt.lower (spN t.1) = nmN t.1 := by decide +kernel
  exact fun t h => this ⟨t, h⟩
theorem low_sw : ∀ t : Nat, t < 10 → Txt.lower (swN t) = nmN t := by
  have : ∀ t : Fin 10, Txt.lower (swN t.1) = nmN t.1 := by decide +kernel
  exact fun t h => this ⟨t, h⟩
theorem low_up : ∀ t : Nat, t < 10 → Txt.lower (Txt.upper (nmN t)) = nmN t := by
  have : ∀ t : Fin 10, Txt.lower (Txt.upper (nmN t.1)) = nmN t.1 := by decide +kernel
  exact fun t h => this ⟨t, h⟩
theorem nm_inj : ∀ t u : Nat, t < 10 → u < 10 → nmN t = nmN u → t = u := by
  have : ∀ t u : Fin 10, nmN t.1 = nmN u.1 → t = u := by decide +kernel
  exact fun t u h k e => congrArg Fin.val (this ⟨t, h⟩ ⟨u, k⟩ e)
theorem nm_beq {t u : Nat} (h : t < 10) (k : u < 10) (e : t ≠ u) : (nmN t == nmN u) = false := beq_eq_false_iff_ne.mpr fun q => e (nm_inj t u h k q)
theorem alPre_mem {way : Int} {g : Nat → T3} : ∀ {k : Nat} {p : Str × Str}, p ∈ alPre way g k → ∃ t, t < k ∧ p.1 = spN t ∧ (p.2 = l1 way (g t) ∨ p.2 = l2 way (g t))
  | 0, _, h => nomatch h
  | k + 1, p, h => by
    rw [alPre] at h
    rcases List.mem_append.mp h with h | h
    · obtain ⟨t, ht, r⟩ := alPre_mem h; exact ⟨t, Nat.lt_succ_of_lt ht, r⟩
    · rcases List.mem_cons.mp h with rfl | h
      · exact ⟨k, Nat.lt_succ_self _, rfl, .inl rfl⟩
      · rw [List.mem_singleton] at h; subst h; exact ⟨k, Nat.lt_succ_self _, rfl, .inr rfl⟩
theorem alPre_len {way : Int} {g : Nat → T3} : ∀ k : Nat, (alPre way g k).length = 2 * k
  | 0 => rfl
  | k + 1 => by rw [alPre, List.length_append, alPre_len k]; simp; omega
theorem alN_nil {way : Int} {g : Nat → T3} : alN way g [] = alPre way g 10 := by simp [alN]
theorem alN_del {way : Int} {g : Nat → T3} {ds : List Nat} {t : Nat} (ht : t < 10) (hd : ∀ u ∈ ds, u < 10) (hn : t ∉ ds) : delAll (alN way g ds) (swN t) ++ [(swN t, dueN g t)] = alN way g (ds ++ [t]) := by
  unfold alN delAll
  rw [List.filter_append, List.filter_filter, low_sw t ht, List.map_append, List.append_assoc]
  congr 1
  · refine List.filter_congr fun p _ => ?_
    simp only [List.any_append, List.any_cons, List.any_nil, Bool.or_false, Bool.not_or, bne]
    exact Bool.and_comm _ _
  · congr 1
    refine List.filter_eq_self.mpr fun p hp => ?_
    obtain ⟨u, hu, rfl⟩ := List.mem_map.mp hp
    (try dsimp only)
    rw [low_sw u (hd u hu), bne, nm_beq (hd u hu) ht (fun e => hn (e ▸ hu))]; rfl
theorem pre_filter {way : Int} {g : Nat → T3} {t : Nat} : ∀ {k : Nat}, k ≤ 10 → t < 10 → (alPre way g k).filter (fun p => Txt.lower p.1 == nmN t) = if t < k then [(spN t, l1 way (g t)), (spN t, l2 way (g t))] else []
  | 0, _, _ => by simp [alPre]
  | k + 1, hk, ht => by
    rw [alPre, List.filter_append, pre_filter (Nat.le_of_succ_le hk) ht]
    have e : List.filter (fun p => Txt.lower p.1 == nmN t) [(spN k, l1 way (g k)), (spN k, l2 way (g k))] = if k = t then [(spN k, l1 way (g k)), (spN k, l2 way (g k))] else [] := by
      by_cases e : k = t
      · subst e; simp [low_sp k hk]
      · rw [if_neg e]; simp [low_sp k hk, beq_eq_false_iff_ne.mp (nm_beq hk ht e)]
    rw [e]
    by_cases h1 : t < k
    · rw [if_pos h1, if_neg (by omega), if_pos (by omega), List.append_nil]
    · by_cases h2 : k = t
      · subst h2; rw [if_neg h1, if_pos rfl, if_pos (by omega), List.nil_append]
      · rw [if_neg h1, if_neg h2, if_neg (by omega), List.nil_append]
theorem alN_get {way : Int} {g : Nat → T3} {ds : List Nat} {t : Nat} (ht : t < 10) (hd : ∀ u ∈ ds, u < 10) (hn : t ∉ ds) : getAll (alN way g ds) (Txt.upper (nmN t)) = [l1 way (g t), l2 way (g t)] := by
  unfold alN getAll
  rw [low_up t ht, List.filter_append, List.filter_filter]
  have e1 : (List.filter (fun p => (Txt.lower p.1 == nmN t && !(ds.any fun t => Txt.lower p.1 == nmN t))) (alPre way g 10)) = (alPre way g 10).filter fun p => Txt.lower p.1 == nmN t := by
    refine List.filter_congr fun p _ => ?_
    cases q : Txt.lower p.1 == nmN t with
    | false => rfl
    | true =>
      have q' := beq_iff_eq.mp q
      have : (ds.any fun t => Txt.lower p.1 == nmN t) = false := by
        rw [List.any_eq_false]
        intro u hu
        rw [q', nm_beq ht (hd u hu) (fun e => hn (e ▸ hu))]; exact Bool.false_ne_true
      rw [this]; rfl
  have e2 : (List.filter (fun p => Txt.lower p.1 == nmN t) (ds.map fun t => (swN t, dueN g t))) = [] := by
    rw [List.filter_eq_nil_iff]
    intro p hp
    obtain ⟨u, hu, rfl⟩ := List.mem_map.mp hp
    (try dsimp only)
    rw [low_sw u (hd u hu), nm_beq (hd u hu) ht (fun e => hn (e ▸ hu))]; exact Bool.false_ne_true
  rw [e1, e2, pre_filter (Nat.le_refl _) ht, if_pos ht]; rfl
/-- the turns' order -/
def ordN (q : Int) (k : Nat) : Nat := ((q + (k : Int)).fmod 10).toNat
def ordL (q : Int) : List Nat := (List.range 10).map (ordN q)
theorem ord_lt (q : Int) (k : Nat) : ordN q k < 10 := by
  unfold ordN
  have := Int.fmod_nonneg_of_pos (q + (k : Int)) (by decide : (0 : Int) < 10)
  have := Int.fmod_lt_of_pos (q + (k : Int)) (by decide : (0 : Int) < 10)
  omega
theorem ord_ne {q : Int} {j k : Nat} (hj : j < k) (hk : k < 10) : ordN q j ≠ ordN q k := by
  unfold ordN
  have a := Int.fmod_nonneg_of_pos (q + (k : Int)) (by decide : (0 : Int) < 10)
  have b := Int.fmod_nonneg_of_pos (q + (j : Int)) (by decide : (0 : Int) < 10)
  rw [Int.fmod_eq_emod_of_nonneg _ (by decide)] at *
  rw [Int.fmod_eq_emod_of_nonneg _ (by decide)] at *
  omega
theorem ord_all (q : Int) (t : Nat) (ht : t < 10) : t ∈ ordL q := by
  refine List.mem_map.mpr ⟨(((t : Int) - q) % 10).toNat, List.mem_range.mpr (by omega), ?_⟩
  unfold ordN
  rw [Int.fmod_eq_emod_of_nonneg _ (by decide)]
  omega
theorem ordL_at {q : Int} {k t : Nat} (h : (ordL q)[k]? = some t) : k < 10 ∧ t = ordN q k := by
  unfold ordL at h
  rw [List.getElem?_map] at h
  by_cases hk : k < 10
  · rw [List.getElem?_range hk] at h; exact ⟨hk, (Option.some.inj h).symm⟩
  · rw [List.getElem?_eq_none (by simp; omega)] at h; cases h
theorem ordL_lt {q : Int} : ∀ u ∈ ordL q, u < 10 := fun u hu => by
  obtain ⟨k, _, rfl⟩ := List.mem_map.mp hu; exact ord_lt q k
theorem ordL_new {q : Int} {k : Nat} (hk : k < 10) : ordN q k ∉ (ordL q).take k := by
  intro h
  obtain ⟨j, hj⟩ := List.mem_iff_getElem?.mp h
  rw [List.getElem?_take] at hj
  split at hj
  · obtain ⟨hj10, e⟩ := ordL_at hj
    exact ord_ne (by assumption) hk e.symm
  · cases hj
theorem alN_all {way : Int} {g : Nat → T3} {q : Int} : alN way g (ordL q) = (ordL q).map fun t => (swN t, dueN g t) := by
  unfold alN
  have : ((alPre way g 10).filter fun p => !((ordL q).any fun t => Txt.lower p.1 == nmN t)) = [] := by
    rw [List.filter_eq_nil_iff]
    intro p hp
    obtain ⟨t, ht, e, _⟩ := alPre_mem hp
    rw [e, low_sp t ht, Bool.not_eq_true, Bool.not_eq_false', List.any_eq_true]
    exact ⟨t, ord_all q t ht, beq_self_eq_true _⟩
  rw [this, List.nil_append]
theorem getF_hitN {g : Nat → T3} {name : Str} {t : Nat} (ht : t < 10) (hn : Txt.lower name = nmN t) : ∀ {ds : List Nat}, (∀ u ∈ ds, u < 10) → t ∈ ds → getF (ds.map fun t => (swN t, dueN g t)) name = some (dueN g t)
  | [], _, h => nomatch h
  | u :: r, hd, h => by
    have hu := hd u List.mem_cons_self
    unfold getF
    rw [List.map_cons, List.find?_cons]
    (try dsimp only)
    rw [low_sw u hu, hn]
    by_cases e : u = t
    · subst e; simp
    · rw [nm_beq hu ht e]
      have ih := getF_hitN (g := g) ht hn (fun v hv => hd v (List.mem_cons_of_mem _ hv)) ((List.mem_cons.mp h).resolve_left (Ne.symm e))
      unfold getF at ih
      rw [hn] at ih
      exact ih
theorem getF_missN {g : Nat → T3} {name : Str} (hn : ∀ t, t < 10 → nmN t ≠ Txt.lower name) {ds : List Nat} (hd : ∀ u ∈ ds, u < 10) : getF (ds.map fun t => (swN t, dueN g t)) name = none := by
  unfold getF
  rw [Option.map_eq_none_iff, List.find?_eq_none]
  intro p hp
  obtain ⟨u, hu, rfl⟩ := List.mem_map.mp hp
  (try dsimp only)
  rw [low_sw u (hd u hu), beq_iff_eq]
  exact hn u (hd u hu)

def plB : List T3 := plc
/-- what a turn asks: its place alone -/
def turnB (t : Nat) : Bool :=
  let p := pl t
  decide (0 ≤ p.1 ∧ p.1 ≤ 4) && decide (0 ≤ p.2.1 ∧ p.2.1 ≤ 4) && decide (0 ≤ p.2.2 ∧ p.2.2 ≤ 4) && decide (p.1 + p.2.1 + p.2.2 = 3) &&
  decide ((Txt.upper (nmN t)).length ≤ 100) && decide ((Txt.lower (Txt.upper (nmN t))).length ≤ 1000) && takesB true (Txt.lower (Txt.upper (nmN t))) &&
  decide ((swN t).length ≤ 100) && decide ((Txt.lower (swN t)).length ≤ 1000) && takesB true (Txt.lower (swN t)) && takesB true (swN t) && decide ((spN t).length ≤ 100) && takesB true (spN t)
theorem turnB_all : ∀ t : Fin 10, turnB t.1 = true := by decide +kernel
structure TurnOk (t : Nat) : Prop where
  i : In4 (pl t).1
  j : In4 (pl t).2.1
  k : In4 (pl t).2.2
  s : (pl t).1 + (pl t).2.1 + (pl t).2.2 = 3
  ul : (Txt.upper (nmN t)).length ≤ 100
  ull : (Txt.lower (Txt.upper (nmN t))).length ≤ 1000
  ut : Takes true (Txt.lower (Txt.upper (nmN t)))
  wl : (swN t).length ≤ 100
  wll : (Txt.lower (swN t)).length ≤ 1000
  wt : Takes true (Txt.lower (swN t))
  wt2 : Takes true (swN t)
  pl : (spN t).length ≤ 100
  pt : Takes true (spN t)
theorem turn_ok {t : Nat} (ht : t < 10) : TurnOk t := by
  have h := turnB_all ⟨t, ht⟩
  simp only [turnB, Bool.and_eq_true, decide_eq_true_eq] at h
  obtain ⟨⟨⟨⟨⟨⟨⟨⟨⟨⟨⟨⟨h1, h2⟩, h3⟩, h4⟩, h5⟩, h6⟩, h7⟩, h8⟩, h9⟩, h10⟩, h11⟩, h12⟩, h13⟩ := h
  exact ⟨h1, h2, h3, h4, h5, h6, takes_of h7, h8, h9, takes_of h10, takes_of h11, h12, takes_of h13⟩
/-- a goal and a manner -/
def goalB (way : Int) (g : T3) : Bool :=
  decide (0 ≤ g.1 ∧ g.1 ≤ 4) && decide (0 ≤ g.2.1 ∧ g.2.1 ≤ 4) && decide (0 ≤ g.2.2 ∧ g.2.2 ≤ 4) && decide ((l1 way g).length ≤ 100) && decide ((l2 way g).length ≤ 100) && takesB false (l1 way g) && takesB false (l2 way g) &&
  decide ((Txt.lower (l1 way g)).length ≤ 1000) && refusesB true (Txt.lower (l1 way g)) && refusesB true (l1 way g) && decide (1 < (l1 way g).length) && decide (1 < (l2 way g).length)
theorem goalB_all : ∀ way : Fin 3, ∀ u : Fin 10, goalB (way.1 : Int) (pl u.1) = true := by decide +kernel
structure GoalOk (way : Int) (g : T3) : Prop where
  i : In4 g.1
  j : In4 g.2.1
  k : In4 g.2.2
  l1 : (l1 way g).length ≤ 100
  l2 : (l2 way g).length ≤ 100
  t1 : Takes false (Mine.l1 way g)
  t2 : Takes false (Mine.l2 way g)
  ll : (Txt.lower (Mine.l1 way g)).length ≤ 1000
  r1 : Refuses true (Txt.lower (Mine.l1 way g))
  r2 : Refuses true (Mine.l1 way g)
  g1 : 1 < (Mine.l1 way g).length
  g2 : 1 < (Mine.l2 way g).length
theorem pl_of {g : T3} (h : g ∈ plc) : ∃ u, u < 10 ∧ g = pl u := by
  obtain ⟨u, hu, e⟩ := List.mem_iff_getElem.mp h
  refine ⟨u, hu, ?_⟩
  unfold pl
  rw [List.getD, List.getElem?_eq_getElem hu, e]; rfl
theorem way_of {way : Int} (h : 0 ≤ way ∧ way ≤ 2) : ∃ v : Fin 3, way = (v.1 : Int) := ⟨⟨way.toNat, by omega⟩, by dsimp only; omega⟩
theorem goal_ok {way : Int} {g : T3} (hw : 0 ≤ way ∧ way ≤ 2) (hg : g ∈ plc) : GoalOk way g := by
  obtain ⟨u, hu, rfl⟩ := pl_of hg
  obtain ⟨v, rfl⟩ := way_of hw
  have h := goalB_all v ⟨u, hu⟩
  simp only [goalB, Bool.and_eq_true, decide_eq_true_eq] at h
  obtain ⟨⟨⟨⟨⟨⟨⟨⟨⟨⟨⟨h1, h2⟩, h3⟩, h4⟩, h5⟩, h6⟩, h7⟩, h8⟩, h9⟩, h10⟩, h11⟩, h12⟩ := h
  exact ⟨h1, h2, h3, h4, h5, takes_of h6, takes_of h7, h8, refuses_of h9, refuses_of h10, h11, h12⟩
/-- a place and a goal -/
def dueB (t : Nat) (g : T3) : Bool := [Str.ofString "a", Str.ofString "b", Str.ofString "c"].contains (due (pl t).1 (pl t).2.1 (pl t).2.2 g.1 g.2.1 g.2.2)
def bothB (way : Int) (t : Nat) (g : T3) : Bool :=
  decide (wsEq (wsOf (l1 way (pl t))) (wsOf (l1 way g)) = wsEq (wsOf (l2 way (pl t))) (wsOf (l2 way g))) && (drw (pl t).1 (pl t).2.1 (pl t).2.2 way (l1 way g) (l2 way g) == due (pl t).1 (pl t).2.1 (pl t).2.2 g.1 g.2.1 g.2.2)
theorem bothB_all : ∀ way : Fin 3, ∀ t u : Fin 10, bothB (way.1 : Int) t.1 (pl u.1) = true := by decide +kernel
theorem both_ok {way : Int} {t : Nat} {g : T3} (hw : 0 ≤ way ∧ way ≤ 2) (ht : t < 10) (hg : g ∈ plc) :
    wsEq (wsOf (l1 way (pl t))) (wsOf (l1 way g)) = wsEq (wsOf (l2 way (pl t))) (wsOf (l2 way g)) ∧ drw (pl t).1 (pl t).2.1 (pl t).2.2 way (l1 way g) (l2 way g) = due (pl t).1 (pl t).2.1 (pl t).2.2 g.1 g.2.1 g.2.2 := by
  obtain ⟨u, hu, rfl⟩ := pl_of hg
  obtain ⟨v, rfl⟩ := way_of hw
  have h := bothB_all v ⟨t, ht⟩ ⟨u, hu⟩
  simp only [bothB, Bool.and_eq_true, decide_eq_true_eq, beq_iff_eq] at h
  exact h

theorem rs_G1_rooms : True := by w_top off; trivial
/-- a letter by its number -/
def L3 (c : Nat) : Str := if c = 0 then Str.ofString "a" else if c = 1 then Str.ofString "b" else Str.ofString "c"
/-- the letters that a place's way may take -/
def lets (t : Nat) : List Nat := (if 0 < (pl t).1 then [0] else []) ++ (if 0 < (pl t).2.1 then [1] else []) ++ (if 0 < (pl t).2.2 then [2] else [])
theorem due_lets : ∀ t u : Fin 10, ∃ c ∈ lets t.1, due (pl t.1).1 (pl t.1).2.1 (pl t.1).2.2 (pl u.1).1 (pl u.1).2.1 (pl u.1).2.2 = L3 c := by decide +kernel
theorem lets_lt : ∀ t : Fin 10, ∀ c ∈ lets t.1, c < 3 := by decide
/-- what is told of three letters -/
def tripB (x y z : Nat) : Bool :=
  let xs := [L3 x, L3 y, L3 z]
  (!(Txt.slice (rsp xs) none (some 3) != Str.ofString "257")) && decide ((txt xs).length ≤ 100) && (prs (rsp xs) == halves xs) && decide ((halves xs).length ≤ 100) &&
  ((Txt.slice (halves xs) (some (-1)) none == Str.ofString "c") == (x != y && y != z && x != z)) && ((isIn (Txt.join (Str.ofString "") xs)) == ((x, y, z) == (0, 1, 2) || (x, y, z) == (1, 2, 0) || (x, y, z) == (2, 0, 1)) || !(x != y && y != z && x != z))
theorem tripB_all : ∀ x y z : Fin 3, tripB x.1 y.1 z.1 = true := by decide +kernel
def step3 (st : Int × Int) (x y z : Nat) : Int × Int :=
  if (x != y && y != z && x != z) = true then ((if ((x, y, z) == (0, 1, 2) || (x, y, z) == (1, 2, 0) || (x, y, z) == (2, 0, 1)) = true then 1 else -1) + st.1, st.2 + 1) else st
theorem step3_eq {x y z : Nat} (hx : x < 3) (hy : y < 3) (hz : z < 3) (st : Int × Int) : cntStep st [L3 x, L3 y, L3 z] = step3 st x y z := by
  have h := tripB_all ⟨x, hx⟩ ⟨y, hy⟩ ⟨z, hz⟩
  simp only [tripB, Bool.and_eq_true, Bool.or_eq_true, beq_iff_eq] at h
  obtain ⟨⟨_, h5⟩, h6⟩ := h
  unfold cntStep step3
  rw [h5]
  by_cases hd : (x != y && y != z && x != z) = true
  · rw [if_pos hd, if_pos hd]
    rcases h6 with h6 | h6
    · rw [h6]
      simp only [beq_iff_eq]
    · rw [hd] at h6; cases h6
  · rw [if_neg hd, if_neg hd]
/-- the place of a corner -/
def idx (p : T3) : Nat := plc.findIdx (· == p)
def colN (g : Nat → T3) (p : T3) : Str := dueN g (idx p)
def roomB (t : List T3) : Bool := decide (t.length = 3) && t.all fun p => decide (idx p < 10) && (pl (idx p) == p)
theorem roomB_all : ∀ t ∈ rooms, roomB t = true := by decide
def fold3 (c : Nat → Nat) : Int × Int := rooms.foldl (fun st t => step3 st (c (idx (t.getD 0 (0, 0, 0)))) (c (idx (t.getD 1 (0, 0, 0)))) (c (idx (t.getD 2 (0, 0, 0))))) (0, 0)
def cOf (l : List Nat) (t : Nat) : Nat := l.getD t 0
/-- all that the end asks of the count -/
def endB (r : Int × Int) : Bool := r.1 == 1 && decide (0 ≤ r.2 ∧ r.2 ≤ 9) && r.2 % 2 == 1
theorem sperner : ∀ c0 ∈ lets 0, ∀ c1 ∈ lets 1, ∀ c2 ∈ lets 2, ∀ c3 ∈ lets 3, ∀ c4 ∈ lets 4, ∀ c5 ∈ lets 5, ∀ c6 ∈ lets 6, ∀ c7 ∈ lets 7, ∀ c8 ∈ lets 8, ∀ c9 ∈ lets 9, endB (fold3 (cOf [c0, c1, c2, c3, c4, c5, c6, c7, c8, c9])) = true := by decide +kernel
theorem foundB : ∀ f : Fin 10, f.1 % 2 = 1 → ((Txt.slice (Str.ofString "257 \"" ++ Txt.mul (Str.ofString "\"") (f.1 : Int) ++ Str.ofString "z\"") none (some 3) != Str.ofString "257") = false ∧ prs (Str.ofString "257 \"" ++ Txt.mul (Str.ofString "\"") (f.1 : Int) ++ Str.ofString "z\"") = Txt.mul (Str.ofString "\"") (Int.fdiv (f.1 : Int) 2)) := by decide +kernel
theorem goal_letter {g : Nat → T3} (hg : ∀ t, t < 10 → g t ∈ plc) (t : Nat) (ht : t < 10) : ∃ c ∈ lets t, dueN g t = L3 c := by
  obtain ⟨u, hu, e⟩ := pl_of (hg t ht)
  have := due_lets ⟨t, ht⟩ ⟨u, hu⟩
  unfold dueN
  rw [e]; exact this
theorem len3 {t : List T3} (h : t.length = 3) : ∃ p q s, t = [p, q, s] := by
  rcases t with _ | ⟨p, _ | ⟨q, _ | ⟨s, _ | ⟨_, _⟩⟩⟩⟩
  · cases h
  · cases h
  · cases h
  · exact ⟨p, q, s, rfl⟩
  · cases h
theorem counted_ok {g : Nat → T3} (hg : ∀ t, t < 10 → g t ∈ plc) : endB (counted (colN g) rooms) = true := by
  obtain ⟨c0, m0, e0⟩ := goal_letter hg 0 (by decide)
  obtain ⟨c1, m1, e1⟩ := goal_letter hg 1 (by decide)
  obtain ⟨c2, m2, e2⟩ := goal_letter hg 2 (by decide)
  obtain ⟨c3', m3, e3⟩ := goal_letter hg 3 (by decide)
  obtain ⟨c4, m4, e4⟩ := goal_letter hg 4 (by decide)
  obtain ⟨c5, m5, e5⟩ := goal_letter hg 5 (by decide)
  obtain ⟨c6, m6, e6⟩ := goal_letter hg 6 (by decide)
  obtain ⟨c7, m7, e7⟩ := goal_letter hg 7 (by decide)
  obtain ⟨c8, m8, e8⟩ := goal_letter hg 8 (by decide)
  obtain ⟨c9, m9, e9⟩ := goal_letter hg 9 (by decide)
  have h := sperner c0 m0 c1 m1 c2 m2 c3' m3 c4 m4 c5 m5 c6 m6 c7 m7 c8 m8 c9 m9
  have hc : ∀ t, t < 10 → dueN g t = L3 (cOf [c0, c1, c2, c3', c4, c5, c6, c7, c8, c9] t) ∧ cOf [c0, c1, c2, c3', c4, c5, c6, c7, c8, c9] t < 3 := by
    intro t ht
    have l := lets_lt ⟨t, ht⟩
    rcases t with _ | _ | _ | _ | _ | _ | _ | _ | _ | _ | t
    · exact ⟨e0, l _ m0⟩
    · exact ⟨e1, l _ m1⟩
    · exact ⟨e2, l _ m2⟩
    · exact ⟨e3, l _ m3⟩
    · exact ⟨e4, l _ m4⟩
    · exact ⟨e5, l _ m5⟩
    · exact ⟨e6, l _ m6⟩
    · exact ⟨e7, l _ m7⟩
    · exact ⟨e8, l _ m8⟩
    · exact ⟨e9, l _ m9⟩
    · omega
  generalize cOf [c0, c1, c2, c3', c4, c5, c6, c7, c8, c9] = c at h hc
  have key : ∀ (ts : List (List T3)), (∀ t ∈ ts, roomB t = true) → ∀ st, ts.foldl (fun st t => cntStep st (c3 (colN g) t)) st = ts.foldl (fun st t => step3 st (c (idx (t.getD 0 (0, 0, 0)))) (c (idx (t.getD 1 (0, 0, 0)))) (c (idx (t.getD 2 (0, 0, 0))))) st := by
    intro ts
    induction ts with
    | nil => intro _ _; rfl
    | cons t r ih =>
      intro hr st
      rw [List.foldl_cons, List.foldl_cons, ih fun u hu => hr u (List.mem_cons_of_mem _ hu)]
      refine congrArg (fun z => List.foldl (fun st t => step3 st (c (idx (t.getD 0 (0, 0, 0)))) (c (idx (t.getD 1 (0, 0, 0)))) (c (idx (t.getD 2 (0, 0, 0))))) z r) ?_
      have hb := hr t List.mem_cons_self
      simp only [roomB, Bool.and_eq_true, decide_eq_true_eq, List.all_eq_true] at hb
      obtain ⟨hl, hp⟩ := hb
      obtain ⟨p, q, s, rfl⟩ := len3 hl
      · have i1 := (hp p (by simp)).1
        have i2 := (hp q (by simp)).1
        have i3 := (hp s (by simp)).1
        have e : c3 (colN g) [p, q, s] = [L3 (c (idx p)), L3 (c (idx q)), L3 (c (idx s))] := by
          simp only [c3, List.map_cons, List.map_nil, colN, (hc _ i1).1, (hc _ i2).1, (hc _ i3).1]
        rw [e, step3_eq (hc _ i1).2 (hc _ i2).2 (hc _ i3).2]; rfl
  unfold counted
  rw [key rooms roomB_all]
  exact h
theorem low_low : ∀ t : Nat, t < 10 → Txt.lower (nmN t) = nmN t := by
  have : ∀ t : Fin 10, Txt.lower (nmN t.1) = nmN t.1 := by decide +kernel
  exact fun t h => this ⟨t, h⟩
theorem rooms_ok {g : Nat → T3} (hg : ∀ t, t < 10 → g t ∈ plc) {q : Int} : ∀ t ∈ rooms, RoomOk ((ordL q).map fun t => (swN t, dueN g t)) (colN g) t := by
  intro t ht
  have hb := roomB_all t ht
  simp only [roomB, Bool.and_eq_true, decide_eq_true_eq, List.all_eq_true] at hb
  obtain ⟨hl, hp⟩ := hb
  have hlet : ∀ p ∈ t, ∃ c, c < 3 ∧ colN g p = L3 c := fun p hm => by
    have hi := (hp p hm).1
    obtain ⟨c, hc, e⟩ := goal_letter hg (idx p) hi
    exact ⟨c, lets_lt ⟨_, hi⟩ c hc, e⟩
  have corner : ∀ p ∈ t, In4 p.1 ∧ In4 p.2.1 ∧ In4 p.2.2 ∧ getF ((ordL q).map fun t => (swN t, dueN g t)) (nm p.1 p.2.1 p.2.2) = some (colN g p) ∧ (Txt.lower (nm p.1 p.2.1 p.2.2)).length ≤ 1000 ∧ Takes true (Txt.lower (nm p.1 p.2.1 p.2.2)) := fun p hm => by
    obtain ⟨hi, he⟩ := hp p hm
    rw [beq_iff_eq] at he
    have ok := turn_ok hi
    have hn : nm p.1 p.2.1 p.2.2 = nmN (idx p) := by unfold nmN; rw [he]
    have hw : Txt.lower (nmN (idx p)) = Txt.lower (Txt.upper (nmN (idx p))) := (low_low _ hi).trans (low_up _ hi).symm
    rw [hn]
    refine ⟨he ▸ ok.i, he ▸ ok.j, he ▸ ok.k, getF_hitN hi (hw.trans (low_up _ hi)) ordL_lt (ord_all q _ hi), ?_, ?_⟩
    · rw [hw]; exact ok.ull
    · rw [hw]; exact ok.ut
  obtain ⟨p, q', s, rfl⟩ := len3 hl
  · obtain ⟨x, hx, ex⟩ := hlet p (by simp)
    obtain ⟨y, hy, ey⟩ := hlet q' (by simp)
    obtain ⟨z, hz, ez⟩ := hlet s (by simp)
    have h := tripB_all ⟨x, hx⟩ ⟨y, hy⟩ ⟨z, hz⟩
    simp only [tripB, Bool.and_eq_true, decide_eq_true_eq, beq_iff_eq] at h
    obtain ⟨⟨⟨⟨⟨h1, h2⟩, h3⟩, h4⟩, _⟩, _⟩ := h
    have e : c3 (colN g) [p, q', s] = [L3 x, L3 y, L3 z] := by simp only [c3, List.map_cons, List.map_nil, ex, ey, ez]
    refine ⟨corner, ?_, by simp, ?_, ?_, ?_, ?_⟩
    · rw [e]
      have : ∀ c : Fin 3, (L3 c.1).length ≤ 10 := by decide +kernel
      intro y' hy'
      simp only [List.mem_cons, List.not_mem_nil, or_false] at hy'
      rcases hy' with rfl | rfl | rfl
      · exact this ⟨x, hx⟩
      · exact this ⟨y, hy⟩
      · exact this ⟨z, hz⟩
    · rw [e]; simpa using h1
    · rw [e]; exact h2
    · rw [e]; exact h3
    · rw [e]; exact h4

theorem rs_G2_col : True := by w_top off; trivial
def colB (x : Str) : Bool :=
  decide (x.length ≤ 100) && decide (0 ≤ Txt.find x (Str.ofString ".") ∧ Txt.find x (Str.ofString ".") ≤ 100) && decide ((runs x).length ≤ 100) && (runs x).all (fun r => decide (0 ≤ r ∧ r ≤ 100)) &&
  (List.range 5).all (fun k => wsInd (wsOf x) (1 + (k : Int)) == Txt.find x (Str.ofString ".") + (1 + (k : Int) - 1) * ((runs x).length : Int) - ((runs x).map fun r => r.fmod (1 + (k : Int))).sum) &&
  ((wsOf x).n == Txt.find x (Str.ofString ".")) && ((wsOf x).nt == ((runs x).length : Int))
theorem colB_all : ∀ way : Fin 3, ∀ u : Fin 10, colB (l1 (way.1 : Int) (pl u.1)) = true := by decide +kernel
theorem col_ok {way : Int} {g : T3} (hw : 0 ≤ way ∧ way ≤ 2) (hg : g ∈ plc) : ColOk (l1 way g) := by
  obtain ⟨u, hu, rfl⟩ := pl_of hg
  obtain ⟨v, rfl⟩ := way_of hw
  have h := colB_all v ⟨u, hu⟩
  simp only [colB, Bool.and_eq_true, decide_eq_true_eq, List.all_eq_true, beq_iff_eq, List.mem_range] at h
  obtain ⟨⟨⟨⟨⟨⟨h1, h2⟩, h3⟩, h4⟩, h5⟩, h6⟩, h7⟩ := h
  exact ⟨h1, h2, h3, h4, h5, h6, h7⟩

theorem rs_E4_law : True := by w_top off; trivial
section
variable {prog : Program} {w : World} {A : Around} {E : Value → Shared → Prop} {s : Shared} {h₀ : Heap} {L : Addr} {news nw : List (Addr × Obj)} {value slice : Expr} {r : Addr} {c : Nat} {u : Tok} {Q : Value → Shared → Prop}
/-- an item of a list of places -/
theorem tup_pick {ps : List Value} {n : Nat} {f : Nat → T3} {k : Int} {t : Nat} (N : News h₀ L s.heap news) (hm : (r, listOf ps.toArray c) ∈ news) (hps : TupAre nw ps ((List.range n).map f)) (hk : k = (t : Int)) (ht : t < n) (hn : n ≤ 1000)
    (h : ∀ p ta tb tc c', (p, tup3 (f t).1 (f t).2.1 (f t).2.2 ta tb tc c') ∈ nw → Q (.ref p) s)
    (hs : subscripted slice false (.ref r) (.int k u) = operate [.ref r, .int k u] (getItem (.ref r) (.int k u)) := by with_unfolding_all rfl) :
    wpAny (model prog w) A (subscriptTail value slice (.ref r) (.int k u)) Q E s := by
  subst hk
  have hl := hps.length
  rw [List.length_map, List.length_range] at hl
  have hlt : t < ps.length := by omega
  obtain ⟨p, a, b, d, ta, tb, tc, c', hv, hp, hq⟩ := hps.at (List.getElem?_eq_getElem hlt)
  rw [List.getElem?_map, List.getElem?_range ht] at hq
  have hq' : f t = (a, b, d) := Option.some.inj hq
  have := h p ta tb tc c' (by rw [hq']; exact hp)
  exact lst_item N hm (by omega) (by omega) (by rw [List.getElem?_toArray, Int.toNat_natCast, List.getElem?_eq_getElem hlt, hv]) this hs
end
theorem plc_map : plc = (List.range 10).map pl := by decide
theorem fr_some {h₀ h : Heap} {L : Addr} {m : Str → Option Value} (F : Fr h₀ L h m) : ∃ m₀, Fr h₀ L h m₀ := ⟨m, F⟩
def prow (i j : Nat) : List T3 := (List.range j).map fun k : Nat => ((i : Int), (k : Int), 3 - (i : Int) - (k : Int))
def ppre : Nat → List T3
  | 0 => []
  | i + 1 => ppre i ++ prow i (4 - i)
theorem ppre4 : ppre 4 = (List.range 10).map pl := by decide
theorem prow_snoc {nw : List (Addr × Obj)} {ys : List Value} {ts : List T3} {i j : Nat} {p : Addr} {ti tj tk' : Tok} {n : Nat} {a b c : Int} (h : TupAre nw ys (ts ++ prow i j)) (ha : a = (i : Int)) (hb : b = (j : Int)) (hc : c = 3 - (i : Int) - (j : Int)) :
    TupAre ((p, tup3 a b c ti tj tk' n) :: nw) (ys ++ [.ref p]) (ts ++ prow i (j + 1)) := by
  subst ha; subst hb; subst hc
  have e : prow i (j + 1) = prow i j ++ [((i : Int), (j : Int), 3 - (i : Int) - (j : Int))] := by unfold prow; rw [List.range_succ, List.map_append]; rfl
  rw [e, ← List.append_assoc]
  have app : ∀ {nw : List (Addr × Obj)} {vs us : List Value} {ts rs : List T3}, TupAre nw vs ts → TupAre nw us rs → TupAre nw (vs ++ us) (ts ++ rs) := by
    intro nw vs us ts rs h h'
    induction h with
    | nil => exact h'
    | cons hm _ ih => exact .cons hm ih
  exact app (h.mono fun q hq => List.mem_cons_of_mem _ hq) (.cons List.mem_cons_self .nil)
theorem ppre_len {i : Nat} (h : i ≤ 4) : (ppre i).length ≤ 10 := by
  have : ∀ i : Fin 5, (ppre i.1).length ≤ 10 := by decide
  exact this ⟨i, by omega⟩
theorem prow_len {i j : Nat} : (prow i j).length = j := by unfold prow; rw [List.length_map, List.length_range]
theorem tup_len {nw : List (Addr × Obj)} {ys : List Value} {i j : Nat} (h : TupAre nw ys (ppre i ++ prow i j)) (hi : i ≤ 4) (hj : j ≤ 4) : ys.length ≤ sizeLine := by
  rw [h.length, List.length_append, prow_len]
  have := ppre_len hi
  unfold sizeLine; omega
/-- what lies apart from the law's own cells -/
def Off5 (L : Addr) (tl : List (Addr × Obj)) : Prop := ∀ q ∈ tl, (@Ne Nat q.1 (L + 1 + 1 + 1 + 1 + 1)) ∧ (@Ne Nat q.1 (L + 1 + 1 + 1 + 1)) ∧ (@Ne Nat q.1 (L + 1 + 1 + 1)) ∧ (@Ne Nat q.1 (L + 1 + 1)) ∧ (@Ne Nat q.1 (L + 1))
theorem Off5.cons {L a : Addr} {o : Obj} {tl : List (Addr × Obj)} (h : Off5 L tl) (e5 : @Ne Nat (L + 1 + 1 + 1 + 1 + 1) a) (e4 : @Ne Nat (L + 1 + 1 + 1 + 1) a) (e3 : @Ne Nat (L + 1 + 1 + 1) a) (e2 : @Ne Nat (L + 1 + 1) a) (e1 : @Ne Nat (L + 1) a) : Off5 L ((a, o) :: tl) :=
  List.forall_mem_cons.mpr ⟨⟨Ne.symm e5, Ne.symm e4, Ne.symm e3, Ne.symm e2, Ne.symm e1⟩, h⟩
theorem Off5.n3 {L : Addr} {tl : List (Addr × Obj)} (h : Off5 L tl) : ∀ q ∈ tl, @Ne Nat q.1 (L + 1 + 1 + 1) := fun q hq => (h q hq).2.2.1
theorem Off5.n4 {L : Addr} {tl : List (Addr × Obj)} (h : Off5 L tl) : ∀ q ∈ tl, @Ne Nat q.1 (L + 1 + 1 + 1 + 1) := fun q hq => (h q hq).2.1
theorem Off5.n5 {L : Addr} {tl : List (Addr × Obj)} (h : Off5 L tl) : ∀ q ∈ tl, @Ne Nat q.1 (L + 1 + 1 + 1 + 1 + 1) := fun q hq => (h q hq).1
theorem law_ledger {base h : Heap} {L l9 : Addr} {w5 w4 w3 o2 o1 : Obj} {d5 d4 d3 : Option Value} {v1 : Value} {ys9 : List Value} {c9 : Nat} {k : Int} {t : Tok} (N : News base L h [(l9, listOf ys9.toArray c9), (L + 1 + 1 + 1 + 1 + 1, w5), (L + 1 + 1 + 1 + 1, w4), (L + 1 + 1 + 1, w3), (L + 1 + 1, o2), (L + 1, o1)])
    (e5 : w5.data = .cell d5) (e4 : w4.data = .cell d4) (e3 : w3.data = .cell d3) (e2 : o2.data = .cell (some (.int (k.fmod 3) t))) (e1 : o1.data = .cell (some v1))
    (off : (@Ne Nat (L + 1 + 1 + 1 + 1 + 1) l9) ∧ (@Ne Nat (L + 1 + 1 + 1 + 1) l9) ∧ (@Ne Nat (L + 1 + 1 + 1) l9) ∧ (@Ne Nat (L + 1 + 1) l9) ∧ (@Ne Nat (L + 1) l9) ∧ ∀ (x : Addr × Obj), x ∈ [] → x.1 ≠ l9) :
    ∃ (o5 o4 o3 o2' o1' : Obj) (way : Int) (tl : List (Addr × Obj)), News base L h ((L + 1 + 1 + 1 + 1 + 1, o5) :: (L + 1 + 1 + 1 + 1, o4) :: (L + 1 + 1 + 1, o3) :: (L + 1 + 1, o2') :: (L + 1, o1') :: tl) ∧ Off5 L tl ∧ (l9, listOf ys9.toArray c9) ∈ tl ∧ (0 ≤ way ∧ way ≤ 2) ∧
      (∃ d, o5.data = .cell d) ∧ (∃ d, o4.data = .cell d) ∧ (∃ d, o3.data = .cell d) ∧ (∃ t', o2'.data = .cell (some (.int way t'))) ∧ o1'.data = .cell (some v1) := by
  refine ⟨w5, w4, w3, o2, o1, k.fmod 3, [(l9, listOf ys9.toArray c9)], fun p hp => N p ?_, ?_, List.mem_cons_self, ?_, ⟨_, e5⟩, ⟨_, e4⟩, ⟨_, e3⟩, ⟨_, e2⟩, e1⟩
  · simp only [List.mem_cons, List.not_mem_nil, or_false] at hp ⊢
    rcases hp with h | h | h | h | h | h <;> simp [h]
  · exact Off5.cons (fun _ h => nomatch h) off.1 off.2.1 off.2.2.1 off.2.2.2.1 off.2.2.2.2.1
  · have := Int.fmod_nonneg_of_pos k (by decide : (0 : Int) < 3)
    have := Int.fmod_lt_of_pos k (by decide : (0 : Int) < 3)
    omega
/-- the goals that the cells tell -/
def gof (ms : List Int) (i : Nat) : T3 := pl ((ms.getD i 0).fmod 10).toNat
theorem gof_mem (ms : List Int) (i : Nat) : gof ms i ∈ plc := by
  unfold gof
  have a := Int.fmod_nonneg_of_pos (ms.getD i 0) (by decide : (0 : Int) < 10)
  have b := Int.fmod_lt_of_pos (ms.getD i 0) (by decide : (0 : Int) < 10)
  have : ∀ t : Fin 10, pl t.1 ∈ plc := by decide
  exact this ⟨((ms.getD i 0).fmod 10).toNat, by omega⟩
theorem gof_snoc {nw : List (Addr × Obj)} {zs : List Value} {ms : List Int} {e : Nat} {y : Int} {p : Addr} {ta tb tc : Tok} {c : Nat} (h : TupAre nw zs ((List.range e).map (gof ms))) (hy : (ms.take 10)[e]? = some y)
    (hp : (p, tup3 (pl (y.fmod 10).toNat).1 (pl (y.fmod 10).toNat).2.1 (pl (y.fmod 10).toNat).2.2 ta tb tc c) ∈ nw) : TupAre nw (zs ++ [.ref p]) ((List.range (e + 1)).map (gof ms)) := by
  have e1 : gof ms e = pl (y.fmod 10).toNat := by
    unfold gof
    rw [List.getElem?_take] at hy
    split at hy
    · rw [List.getD, hy]; rfl
    · cases hy
  have app : ∀ {nw : List (Addr × Obj)} {vs us : List Value} {ts rs : List T3}, TupAre nw vs ts → TupAre nw us rs → TupAre nw (vs ++ us) (ts ++ rs) := by
    intro nw vs us ts rs h h'
    induction h with
    | nil => exact h'
    | cons hm _ ih => exact .cons hm ih
  rw [List.range_succ, List.map_append]
  refine app h ?_
  show TupAre nw [.ref p] [gof ms e]
  rw [e1]
  exact .cons hp .nil
/-- a letter's token lies between 0 and b -/
def Lt1 (b : Nat) (v : Str) (t : Tok) : Prop := v.length = 1 → t ≠ 0 ∧ @LT.lt Nat _ t b
theorem Lt1.long {b : Nat} {v : Str} {t : Tok} (h : 1 < v.length) : Lt1 b v t := fun e => by omega
theorem Lt1.up {b b' : Nat} {v : Str} {t : Tok} (h : Lt1 b v t) (hb : b ≤ b') : Lt1 b' v t := fun e => ⟨(h e).1, Nat.lt_of_lt_of_le (h e).2 hb⟩
theorem pre_snoc {nw : List (Addr × Obj)} {ys : List Value} {way : Int} {g : Nat → T3} {i j : Nat} {p : Addr} {y : Str} {tk' ty : Tok} {n b : Nat} (h : PairsAre (Lt1 b) nw ys (alPre way g i ++ ([(spN i, l1 way (g i)), (spN i, l2 way (g i))].take j)))
    (hy : [l1 way (g i), l2 way (g i)][j]? = some y) (h1 : 1 < (l1 way (g i)).length) (h2 : 1 < (l2 way (g i)).length) :
    PairsAre (Lt1 b) ((p, pairOf (spN i) y tk' ty n) :: nw) (ys ++ [.ref p]) (alPre way g i ++ ([(spN i, l1 way (g i)), (spN i, l2 way (g i))].take (j + 1))) := by
  have e : [(spN i, l1 way (g i)), (spN i, l2 way (g i))].take (j + 1) = [(spN i, l1 way (g i)), (spN i, l2 way (g i))].take j ++ [(spN i, y)] ∧ 1 < y.length := by
    rcases j with _ | _ | j
    · cases hy; exact ⟨rfl, h1⟩
    · cases hy; exact ⟨rfl, h2⟩
    · simp at hy
  rw [e.1, ← List.append_assoc]
  exact PairsAre.app (h.mono fun q hq => List.mem_cons_of_mem _ hq) (.cons List.mem_cons_self (Lt1.long e.2) .nil)
theorem pre_len {nw : List (Addr × Obj)} {ys : List Value} {way : Int} {g : Nat → T3} {i j b : Nat} (h : PairsAre (Lt1 b) nw ys (alPre way g i ++ ([(spN i, l1 way (g i)), (spN i, l2 way (g i))].take j))) (hi : i ≤ 10) : ys.length ≤ sizeLine := by
  rw [h.length, List.length_append, alPre_len, List.length_take]
  simp only [List.length_cons, List.length_nil]
  unfold sizeLine; omega
theorem pre_ok {way : Int} {ms : List Int} (hw : 0 ≤ way ∧ way ≤ 2) : AtOk (alPre way (gof ms) 10) ∧ (∀ p ∈ alPre way (gof ms) 10, Takes true p.1) ∧ (∀ p ∈ alPre way (gof ms) 10, Takes false p.2) := by
  refine ⟨⟨by rw [alPre_len]; decide, fun p hp => ?_, fun p hp => ?_⟩, fun p hp => ?_, fun p hp => ?_⟩ <;> obtain ⟨t, ht, e, e2⟩ := alPre_mem hp
  · rw [e]; exact (turn_ok ht).pl
  · have := goal_ok hw (gof_mem ms t)
    rcases e2 with e2 | e2
    · rw [e2]; exact this.l1
    · rw [e2]; exact this.l2
  · rw [e]; exact (turn_ok ht).pt
  · have := goal_ok hw (gof_mem ms t)
    rcases e2 with e2 | e2
    · rw [e2]; exact this.t1
    · rw [e2]; exact this.t2
def ordI (q : Int) (k : Nat) : Int := (q + (k : Int)).fmod 10
theorem ordI_nat (q : Int) (k : Nat) : ordI q k = ((ordN q k : Nat) : Int) := by
  unfold ordI ordN
  have := Int.fmod_nonneg_of_pos (q + (k : Int)) (by decide : (0 : Int) < 10)
  omega
theorem ord_snoc {zs : List Value} {q x : Int} {e : Nat} {t : Tok} (h : IntsAre zs ((List.range e).map (ordI q))) (hx : x = ordI q e) : IntsAre (zs ++ [.int x t]) ((List.range (e + 1)).map (ordI q)) := by
  subst hx
  rw [List.range_succ, List.map_append]
  exact IntsAre.append h (.cons _ _ .nil)
theorem tokB_of {t b : Nat} (h : t < b) : TokB (t + 1) := ⟨trivial⟩
theorem alN_ok {way : Int} {ms : List Int} (hw : 0 ≤ way ∧ way ≤ 2) {ds : List Nat} (hd : ∀ u ∈ ds, u < 10) (hl : ds.length ≤ 10) : AtOk (alN way (gof ms) ds) := by
  obtain ⟨ok, _, _⟩ := pre_ok (ms := ms) hw
  have due1 : ∀ t : Nat, t < 10 → (dueN (gof ms) t).length ≤ 100 := fun t ht => by
    obtain ⟨c, hc, e⟩ := goal_letter (g := gof ms) (fun t _ => gof_mem ms t) t ht
    rw [e]
    have : ∀ c : Fin 3, (L3 c.1).length ≤ 100 := by decide +kernel
    exact this ⟨c, lets_lt ⟨t, ht⟩ c hc⟩
  unfold alN
  refine ⟨?_, fun p hp => ?_, fun p hp => ?_⟩
  · rw [List.length_append, List.length_map]
    have := List.length_filter_le (fun p : Str × Str => !(ds.any fun t => Txt.lower p.1 == nmN t)) (alPre way (gof ms) 10)
    rw [alPre_len] at this
    omega
  · rcases List.mem_append.mp hp with hp | hp
    · exact ok.key p (List.mem_filter.mp hp).1
    · obtain ⟨u, hu, rfl⟩ := List.mem_map.mp hp; exact (turn_ok (hd u hu)).wl
  · rcases List.mem_append.mp hp with hp | hp
    · exact ok.val p (List.mem_filter.mp hp).1
    · obtain ⟨u, hu, rfl⟩ := List.mem_map.mp hp; exact due1 u (hd u hu)
theorem due_facts {ms : List Int} {t : Nat} (ht : t < 10) : (dueN (gof ms) t).length ≤ 1000 ∧ Takes false (dueN (gof ms) t) ∧ (dueN (gof ms) t).length = 1 := by
  obtain ⟨c, hc, e⟩ := goal_letter (g := gof ms) (fun t _ => gof_mem ms t) t ht
  rw [e]
  have h1 : ∀ c : Fin 3, (L3 c.1).length ≤ 1000 ∧ takesB false (L3 c.1) = true ∧ (L3 c.1).length = 1 := by decide +kernel
  obtain ⟨a, b, d⟩ := h1 ⟨c, lets_lt ⟨t, ht⟩ c hc⟩
  exact ⟨a, takes_of b, d⟩
theorem take_lt {q : Int} {k : Nat} : ∀ u ∈ (ordL q).take k, u < 10 := fun u hu => ordL_lt u (List.mem_of_mem_take hu)
theorem take_len {q : Int} {k : Nat} : ((ordL q).take k).length ≤ 10 := by
  rw [List.length_take]; unfold ordL; rw [List.length_map, List.length_range]; omega
theorem take_snoc {q : Int} {k : Nat} (hk : k < 10) : (ordL q).take (k + 1) = (ordL q).take k ++ [ordN q k] := by
  have : (ordL q)[k]? = some (ordN q k) := by unfold ordL; rw [List.getElem?_map, List.getElem?_range hk]; rfl
  rw [List.take_add_one, this]; rfl
theorem ord_at {us : List Value} {q : Int} {k : Nat} {v : Value} (h : IntsAre us ((List.range 10).map (ordI q))) (hv : us.toArray[k]? = some v) (hk : k < 10) : ∃ u, v = .int ((ordN q k : Nat) : Int) u := by
  obtain ⟨y, u, rfl, hy⟩ := ints_item h k v (by simpa using hv)
  rw [List.getElem?_map, List.getElem?_range hk] at hy
  have := Option.some.inj hy
  exact ⟨u, by rw [← this, ordI_nat]⟩
/-- the state between the turns of the law's loop -/
inductive LawJ (way : Int) (ms : List Int) (q : Int) (D3 l : Addr) (tl6 : List (Addr × Obj)) (k t : Nat) (m : Str → Option Value) (nw : List (Addr × Obj)) : Prop
  | mk (e : 3 ≤ t) (ps ds : List Value) (c c' : Nat) (tl : List (Addr × Obj)) (e0 : nw = (D3, listOf ps.toArray c) :: (l, listOf ds.toArray c') :: tl) (e1 : (∀ q ∈ tl6, q ∈ tl)) (e2 : (∀ q ∈ tl, q.1 ≠ D3)) (e3 : (∀ q ∈ tl, q.1 ≠ l)) (e4 : PairsAre (Lt1 t) tl ps (alN way (gof ms) ((ordL q).take k))) (e5 : PairsAre (fun _ _ => True) tl ds (((ordL q).take k).map fun t => (swN t, dueN (gof ms) t))) (e6 : m (Str.ofString "due") = some (.ref l)) (e7 : m (Str.ofString "given") = some (.ref D3)) : LawJ way ms q D3 l tl6 k t m nw
open PyProof.Rows.LCg PySem.Calls in
/-- a for loop over a list; the invariant sees the machine's counter; the turns raise nothing -/
theorem for_invE {prog : Program} {w : World} {A : Around} {E : Value → Shared → Prop} {s : Shared} {h₀ : Heap} {env : Env} {target : Expr} {body : List Stmt} {Q : Flow → Shared → Prop} {ax : Addr} {its : Array Value} {c : Nat} {dd : Option Addr} {sl : Array (Option Value)}
    {news : List (Addr × Obj)} {m₀ : Str → Option Value} (J : Nat → Nat → (Str → Option Value) → List (Addr × Obj) → Prop) (hh : A.handled = none)
    (F : Fr h₀ env.locals s.heap m₀) (N : News h₀ env.locals s.heap news) (hm : (ax, (⟨.type "list", dd, .seq its c, sl⟩ : Obj)) ∈ news) (hj : J 0 s.toks m₀ news) (hJS : ∀ i t m nw, J i t m nw → (ax, (⟨.type "list", dd, .seq its c, sl⟩ : Obj)) ∈ nw)
    (turn : ∀ i v m₁ nw I oI h t (Kt : Flow → Shared → Prop) (E' : Value → Shared → Prop), i < its.size → its[i]? = some v → oI.cls ≠ Value.type "tuple" → J i t m₁ nw → (∀ p ∈ nw, (@Ne Nat p.1 I)) → Fr h₀ env.locals h m₁ → News h₀ env.locals h ((I, oI) :: nw) →
      (∀ f h' t' m' nw', f = .next ∨ f = .cont → Fr h₀ env.locals h' m' → News h₀ env.locals h' ((I, oI) :: nw') → (∀ p ∈ nw', (@Ne Nat p.1 I)) → (t ≤ t' → J (i + 1) t' m' nw') → Kt f { s with heap := h', toks := t' }) →
      (∀ v s', Q (.ret v) s' → Kt (.ret v) s') →
      wpAny (model prog w) A (assign target env v) (fun _ s₃ => wpAny (model prog w) A (execs body env) Kt E' s₃) E' { s with heap := h, toks := t })
    (done : ∀ m₁ nw h t, J its.size t m₁ nw → Fr h₀ env.locals h m₁ → News h₀ env.locals h nw → Q .next { s with heap := h, toks := t }) :
    wpAny (model prog w) A (pyIter (.ref ax)) (fun it s₂ => codeAny (model prog w) A (.forLoop target it body [] env) (fun r s' => match r with | .ok f => Q f s' | .error e => cameBackBy (model prog w) A env E e s') s₂) E s := by
  have z := N _ hm
  have hT : s.heap.IsList ax its := ⟨_, z.1, rfl, _, rfl⟩
  have hlt : ax < s.heap.objs.size := Heap.lt_size z.1
  have hne : ax ≠ s.heap.objs.size := Nat.ne_of_lt hlt
  refine wpAny_pyIter_list hT ?_
  have hLI : env.locals ≠ s.heap.objs.size := Nat.ne_of_lt F.ns.lt
  have hI0 : h₀.get? s.heap.objs.size = none := next_is_new F
  refine codeAny_forLoop_any
    (fun k s' => ∃ h' t m' nw' i, s' = { s with heap := h', toks := t } ∧ h'.IsListIter s.heap.objs.size ax i ∧ Fr h₀ env.locals h' m' ∧ News h₀ env.locals h' nw' ∧ (∀ p ∈ nw', (@Ne Nat p.1 s.heap.objs.size)) ∧ J i t m' nw' ∧ i ≤ its.size ∧ k = its.size + 1 - i) ?_ (its.size + 1)
    ⟨_, s.toks, m₀, news, 0, rfl, ⟨_, Heap.get?_push_size _ rfl, rfl, rfl⟩, F.push _, N.grown fun _ _ e => Heap.get?_push_of_some _ e, fun p hp => Nat.ne_of_lt (Heap.lt_size (N p hp).1), hj, Nat.zero_le _, rfl⟩
  rintro k s' ⟨h', t, m', nw', i, rfl, hit, F', N', off', hJ, hi, rfl⟩
  have hls : h'.IsList ax its := ⟨_, (N' _ (hJS _ _ _ _ hJ)).1, rfl, _, rfl⟩
  by_cases hin : i < its.size
  · refine wpAny_pyNext_list_item hit hls (x := its[i]) (by simp [hin]) fun h₁ hit₁ hs₁ => ?_
    refine letGo_listiter hit₁ ?_
    obtain ⟨oI, hoI, hoc, hod⟩ := hit₁
    have hk₁ : ∀ b o, b ∉ [s.heap.objs.size] → h'.get? b = some o → h₁.get? b = some o := fun b o hb e => hs₁.extBut b o (fun q => hb (List.mem_singleton.mpr q)) e
    have F₁ := fr_but F' hk₁ hLI hI0
    have N₁ : News h₀ env.locals h₁ ((s.heap.objs.size, oI) :: nw') := fun p hp => by
      rcases List.mem_cons.mp hp with rfl | hp
      · exact ⟨hoI, Ne.symm hLI, hI0⟩
      · exact news_but N' hk₁ off' p hp
    refine wpAny_mono (wpAny_toks_of (n := t) (Nat.le_refl t) (turn i its[i] m' nw' s.heap.objs.size oI h₁ t (fun f s₃ => t ≤ s₃.toks → (match f with
      | .next | .cont => ∃ m, m < its.size + 1 - i ∧ (∃ h' t m' nw' i, s₃ = { s with heap := h', toks := t } ∧ h'.IsListIter s.heap.objs.size ax i ∧ Fr h₀ env.locals h' m' ∧ News h₀ env.locals h' nw' ∧ (∀ p ∈ nw', (@Ne Nat p.1 s.heap.objs.size)) ∧ J i t m' nw' ∧ i ≤ its.size ∧ m = its.size + 1 - i)
      | .brk => Q .next s₃
      | .ret v => Q (.ret v) s₃)) (notedBy (model prog w) A env fun e s' => cameBackBy (model prog w) A env E e s') hin (by simp [hin]) (by rw [hoc]; decide) hJ off' F₁ N₁ ?_ ?_)) (fun _ s₃ h₃ => ?_) fun e s₃ h₃ => h₃.2
    · intro f h₂ t₂ m₂ nw₂ hf F₂ N₂ off₂ hJ₂
      have fin : t ≤ t₂ → ∃ m, m < its.size + 1 - i ∧ (∃ h' t m' nw' i, ({ s with heap := h₂, toks := t₂ } : Shared) = { s with heap := h', toks := t } ∧ h'.IsListIter s.heap.objs.size ax i ∧ Fr h₀ env.locals h' m' ∧ News h₀ env.locals h' nw' ∧ (∀ p ∈ nw', (@Ne Nat p.1 s.heap.objs.size)) ∧ J i t m' nw' ∧ i ≤ its.size ∧ m = its.size + 1 - i) := fun ht =>
        ⟨its.size + 1 - (i + 1), by omega, h₂, t₂, m₂, nw₂, i + 1, rfl, ⟨_, (N₂ _ List.mem_cons_self).1, hoc, hod⟩, F₂, fun p hp => N₂ p (List.mem_cons_of_mem _ hp), off₂, hJ₂ ht, hin, rfl⟩
      rcases hf with rfl | rfl
      · exact fin
      · exact fin
    · intro v s' h _; exact h
    · refine wpAny_mono (wpAny_toks_of h₃.1 h₃.2) (fun f s₄ h₄ => ?_) fun e s₄ h₄ => h₄.2
      have h₅ := h₄.2 h₄.1
      cases f with
      | next => exact h₅
      | cont => exact h₅
      | brk => exact h₅
      | ret v => exact h₅
  · obtain rfl : i = its.size := Nat.le_antisymm hi (Nat.not_lt.mp hin)
    refine wpAny_pyNext_list_end hh hit hls (by simp) fun h₁ he₁ => wpAny_execs_nil ?_
    have hk₁ : ∀ b o, b ∉ [s.heap.objs.size] → h'.get? b = some o → h₁.get? b = some o := fun b o hb e => he₁ b o (fun q => hb (List.mem_singleton.mpr q)) e
    exact done m' nw' h₁ t hJ (fr_but F' hk₁ hLI hI0) (news_but N' hk₁ off')
theorem PairsAre.drop {P : Str → Tok → Prop} {nw : List (Addr × Obj)} {a : Addr × Obj} {ps : List Value} {al : List (Str × Str)} (h : PairsAre P (a :: nw) ps al) (ha : a.2.cls ≠ Value.type "tuple") : PairsAre P nw ps al := by
  induction h with
  | nil => exact .nil
  | cons hm hp _ ih =>
    rcases List.mem_cons.mp hm with e | hm
    · subst e; exact absurd rfl ha
    · exact .cons hm hp ih
section
variable {prog : Program} {w : World} {A : Around} {E : Value → Shared → Prop} {s : Shared} {h₀ : Heap} {L a b : Addr} {news n1 n2 : List (Addr × Obj)} {xs ys : List Value} {ka kb : Nat} {al : List (Str × Str)} {P P' : Str → Tok → Prop} {Q : Value → Shared → Prop} {value slice : Expr} {c : Nat} {u : Tok}
def datOf (p : Str × Str) : Dat := .tuple [.str p.1, .str p.2]
theorem PairsAre.dat (h : PairsAre P n1 xs al) : DatAll n1 xs (al.map datOf) := by
  induction h with
  | nil => exact .nil
  | @cons p k v tk tv n ps al hm _ _ ih => exact .cons (.tuple (vs := [.str k tk, .str v tv]) hm (.cons (.str _ _) (.cons (.str _ _) .nil))) ih
def StrOks (al : List (Str × Str)) : Prop := ∀ p ∈ al, PyData.strOk p.1 = true ∧ PyData.strOk p.2 = true
theorem StrOks.dat (h : StrOks al) : ∀ d ∈ al.map datOf, kqdOk 8 d = true := fun d hd => by
  obtain ⟨p, hp, rfl⟩ := List.mem_map.mp hd
  obtain ⟨h1, h2⟩ := h p hp
  simp [datOf, kqdOk, h1, h2]
open Classical in
theorem pairs_ne (N : News h₀ L s.heap news) (ma : (a, listOf xs.toArray ka) ∈ news) (mb : (b, listOf ys.toArray kb) ∈ news) (pa : PairsAre P n1 xs al) (pb : PairsAre P' n2 ys al) (sa : ∀ p ∈ n1, p ∈ news) (sb : ∀ p ∈ n2, p ∈ news) (ok : StrOks al)
    (hu : A.units + 64 < cLine) (h : Q (.bool false) s) : wpAny (model prog w) A (compareOp .NotEq (.ref a) (.ref b)) Q E s :=
  kqd_ne N ma rfl rfl pa.dat sa mb rfl rfl pb.dat sb ok.dat ok.dat hu (by rw [decide_eq_true (rfl : al.map datOf = al.map datOf)]; exact h)
theorem strs_at0 {x : Str} {r : List Str} {t : Addr} (N : News h₀ L s.heap news) (hm : (t, listOf ys.toArray c) ∈ news) (hys : StrsAre ys (x :: r)) (h : ∀ t, Q (.str x t) s) (hs : subscripted slice false (.ref t) (.int 0 u) = operate [.ref t, .int 0 u] (getItem (.ref t) (.int 0 u)) := by with_unfolding_all rfl) :
    wpAny (model prog w) A (subscriptTail value slice (.ref t) (.int 0 u)) Q E s := by
  obtain ⟨t', z, rfl, _⟩ := StrsAre.cons_inv hys
  exact lst_item N hm (x := Value.str x t') (by decide) (by decide) (by simp) (h _) hs
end
theorem PairsAre.letters {nw : List (Addr × Obj)} {b : Nat} {ps : List Value} {al : List (Str × Str)} (h : PairsAre (Lt1 b) nw ps al) (hl : ∀ p ∈ al, p.2.length = 1) : PairsAre (fun _ t => t ≠ 0 ∧ @LT.lt Nat _ t b) nw ps al := by
  induction h with
  | nil => exact .nil
  | cons hm hp _ ih => exact .cons hm (hp (hl _ List.mem_cons_self)) (ih fun p hq => hl p (List.mem_cons_of_mem _ hq))
theorem last_facts {ms : List Int} {q : Int} {way : Int} (hw : 0 ≤ way ∧ way ≤ 2) : AtOk ((ordL q).map fun t => (swN t, dueN (gof ms) t)) ∧ StrOks ((ordL q).map fun t => (swN t, dueN (gof ms) t)) ∧ ∀ p ∈ (ordL q).map fun t => (swN t, dueN (gof ms) t), p.2.length = 1 := by
  refine ⟨?_, fun p hp => ?_, fun p hp => ?_⟩
  · have := alN_ok (ms := ms) (ds := ordL q) hw ordL_lt (by unfold ordL; simp)
    rw [alN_all] at this; exact this
  · obtain ⟨u, hu, rfl⟩ := List.mem_map.mp hp
    have hu := ordL_lt u hu
    have h1 : ∀ t : Fin 10, PyData.strOk (swN t.1) = true := by decide +kernel
    have h2 : ∀ c : Fin 3, PyData.strOk (L3 c.1) = true := by decide +kernel
    obtain ⟨c, hc, e⟩ := goal_letter (g := gof ms) (fun t _ => gof_mem ms t) u hu
    (try dsimp only)
    rw [e]
    exact ⟨h1 ⟨u, hu⟩, h2 ⟨c, lets_lt ⟨u, hu⟩ c hc⟩⟩
  · obtain ⟨u, hu, rfl⟩ := List.mem_map.mp hp
    exact (due_facts (ordL_lt u hu)).2.2
def oddNames : List Str := [Str.ofString "", Str.ofString "ab", Str.ofString "abcc"]
theorem odd_facts {g : Nat → T3} {q : Int} : ∀ x ∈ oddNames, x.length ≤ 100 ∧ (Txt.lower x).length ≤ 1000 ∧ Takes true (Txt.lower x) ∧ getF ((ordL q).map fun t => (swN t, dueN g t)) x = none := by
  intro x hx
  have h1 : ∀ x ∈ oddNames, x.length ≤ 100 ∧ (Txt.lower x).length ≤ 1000 ∧ takesB true (Txt.lower x) = true := by decide +kernel
  have h2 : ∀ x ∈ oddNames, ∀ t : Fin 10, nmN t.1 ≠ Txt.lower x := by decide +kernel
  obtain ⟨a, b, c⟩ := h1 x hx
  exact ⟨a, b, takes_of c, getF_missN (fun t ht => h2 x hx ⟨t, ht⟩) ordL_lt⟩
theorem abc_facts {g : Nat → T3} {q : Int} : (Str.ofString "aBc").length ≤ 100 ∧ (Txt.lower (Str.ofString "aBc")).length ≤ 1000 ∧ Takes true (Txt.lower (Str.ofString "aBc")) ∧ getF ((ordL q).map fun t => (swN t, dueN g t)) (Str.ofString "aBc") = some (dueN g 5) := by
  have h1 : (Str.ofString "aBc").length ≤ 100 ∧ (Txt.lower (Str.ofString "aBc")).length ≤ 1000 ∧ takesB true (Txt.lower (Str.ofString "aBc")) = true := by decide +kernel
  exact ⟨h1.1, h1.2.1, takes_of h1.2.2, getF_hitN (t := 5) (by decide) (by decide +kernel) ordL_lt (ord_all q 5 (by decide))⟩
theorem news_at {h₀ h : Heap} {L l : Addr} {o : Obj} {all : List (Addr × Obj)} (N : News h₀ L h all) (hl : (l, o) ∈ all) : ∃ tr : List (Addr × Obj), News h₀ L h ((l, o) :: tr) ∧ (∀ q ∈ tr, q.1 ≠ l) ∧ ∀ q ∈ all, q.1 ≠ l → q ∈ tr :=
  ⟨away l all, news_away N hl, away_off, fun _ hq hn => mem_away hq hn⟩
section
variable {w : World} {dp un : Nat} {gd : Option (List Code)} {cn : Str} {cs : Scope} {a : Addr} {ccd : Value} {cl : List (Str × Addr)} {outer : List Env} {A₀ : Around} {base h₀ : Heap} {L : Addr} {m : Str → Option Value} {s : Shared} {Q E : Value → Shared → Prop} {mean : ExcName → Option Value} {mg mb : Str → Option Value} {news : List (Addr × Obj)}
theorem contains_b (B : Below A₀ base outer h₀) (F : Fr h₀ L s.heap m) (X : (Mine.hk.heap_1 w.params).In h₀) {x l : Addr} {ps : List Value} {c : Nat} {rest fix : List (Addr × Obj)} {al : List (Str × Str)} {P : Str → Tok → Prop} (N : News h₀ L s.heap ((l, listOf ps.toArray c) :: rest)) (T : Top Mine.V LS mean mg mb h₀) (hk : cs.kind = .function)
    (hdp : dp + 10 < recursionLimit) (hun : un + 500 < cLine) (hat : AtIn P w al x l ps fix) (hfix : ∀ p ∈ fix, p ∈ rest) (hoff : ∀ q ∈ rest, q.1 ≠ l) (ok : AtOk al) {name : Str} {t : Tok} (hn : name.length ≤ 100) (hnl : (Txt.lower name).length ≤ 1000) (ht : Takes true (Txt.lower name)) {z : Bool} (hz : (getF al name).isSome = z)
    (ret : ∀ (h' : Heap) (tk' : Nat), Fr h₀ L h' m → News h₀ L h' ((l, listOf ps.toArray c) :: rest) → Q (.bool z) { s with heap := h', toks := tk' }) :
    wpAny (model PySem.Challenge.rw_wo0081_01.row.prog w) (ktrTop dp un gd cn cs L a ccd cl outer) (call (.ref 150) [.ref x, .str name t]) Q E s :=
  contains_c B F X N T hk hdp hun hat hfix hoff ok hn hnl ht fun h' tk' F' N' => hz ▸ ret h' tk' F' N'
end
theorem end_facts {ms : List Int} : ∃ f : Nat, counted (colN (gof ms)) rooms = (1, (f : Int)) ∧ f ≤ 9 ∧ (Txt.slice (Str.ofString "257 \"" ++ Txt.mul (Str.ofString "\"") (f : Int) ++ Str.ofString "z\"") none (some 3) != Str.ofString "257") = false ∧ prs (Str.ofString "257 \"" ++ Txt.mul (Str.ofString "\"") (f : Int) ++ Str.ofString "z\"") = Txt.mul (Str.ofString "\"") (Int.fdiv (f : Int) 2) := by
  have h := counted_ok (g := gof ms) fun t _ => gof_mem ms t
  generalize counted (colN (gof ms)) rooms = r at h ⊢
  obtain ⟨a, b⟩ := r
  simp only [endB, Bool.and_eq_true, beq_iff_eq, decide_eq_true_eq] at h
  obtain ⟨⟨h1, h2⟩, h3⟩ := h
  subst h1
  obtain ⟨f, rfl⟩ : ∃ f : Nat, b = (f : Int) := ⟨b.toNat, by omega⟩
  have hf := foundB ⟨f, by omega⟩ (by dsimp only; omega)
  exact ⟨f, rfl, by omega, hf.1, hf.2⟩
theorem found_len {f : Nat} (h : f ≤ 9) : (Str.ofString "257 \"" ++ Txt.mul (Str.ofString "\"") (f : Int) ++ Str.ofString "z\"").length ≤ 1000 ∧ (Txt.mul (Str.ofString "\"") (f : Int)).length ≤ 10 ∧ (Txt.mul (Str.ofString "\"") ((f : Int).fdiv 2)).length ≤ 10 := by
  have : ∀ f : Fin 10, (Str.ofString "257 \"" ++ Txt.mul (Str.ofString "\"") (f.1 : Int) ++ Str.ofString "z\"").length ≤ 1000 ∧ (Txt.mul (Str.ofString "\"") (f.1 : Int)).length ≤ 10 ∧ (Txt.mul (Str.ofString "\"") ((f.1 : Int).fdiv 2)).length ≤ 10 := by decide +kernel
  exact this ⟨f, by omega⟩

set_option maxRecDepth 100000 in
set_option maxHeartbeats 0 in
theorem law_walk : ∀ d kwd, defOf V PySem.Challenge.rw_wo0081_01.row.name = some (d, kwd) → LawWalks d kwd := walk_of rfl (by
  w_top off
  ((show WalkO Mine.V _ _ (InK Mine.hk.heap_1) PySem.Challenge.rw_wo0081_01.row.toRowW _ _ _); k_fill; intro w s₀ s₁ mg mb G Y fa o pm cd doc dV kV ho hd hcd hD hmg hg args vals as hpre hlay hrd hwl hlo; (have KX : (Mine.hk.heap_1 w.params).In _ := Y); k_behind G ho hd hcd hD hmg hpre hlay hrd hwl hlo cd)
  (all_goals try k_fold)
  rename Below _ _ _ _ => K0
  (try dsimp only [Top.heap] at K0)
  have mark : TokB 3 := ⟨trivial⟩
  (repeat ((fail_if_success (with_reducible show wpAny _ _ (exec (Stmt.Assign _ (Expr.ListComp _ _ _ _) _) _) _ _ _)); (first | (k_unfold; (try dsimp only)) | (k_end; wrow_close) | (first | ((fail_if_success (with_reducible refine' gd9 (t := eval _ _) ?_)); (first | (with_reducible (((fail_if_success (fail_if_success (with_reducible refine' gd9 (t := execs (_ :: _) _) ?_))); k_dflt (refine' execs_B ?zm9 ?zn9 ?_; (case zm9 => with_reducible assumption); (case zn9 => (try dsimp only); first | omega | assumption)); (try dsimp only)))) | (with_reducible (((fail_if_success (fail_if_success (with_reducible refine' gd9 (t := execs (_ :: _) _) ?_))); first | k_gentoks | ((with_reducible refine wpAny_execs_cons ?_); (try dsimp only))))) | (with_reducible (((with_reducible show (@LE.le Nat _ _ _) → _); intro hB9; (try dsimp only at hB9); revert hB9; intro _))) | (with_reducible (((fail_if_success (fail_if_success (with_reducible refine' gd9 (t := call (Value.ref 313) _) ?_))); k_dflt (refine' cells_c (by k_asm) (by k_asm) (by k_asm) (by k_asm) (by k_asm) (by first | rfl | assumption) (by ktr_room) (by ktr_units) (by with_reducible assumption) (by with_reducible assumption) (by first | with_reducible assumption | omega) ?_); intro _ _ _ _ _ _ _ _ off9 _ _; (try simp only [List.forall_mem_cons] at off9); revert off9; intro _; (try dsimp only); (try k_fold)))) )) | walk1) | ((with_reducible show wpAny _ _ _ _ _ _); dsimp only) | (leave1; walk_say "STEP leave1"; try dsimp only) | fail "no step")))
  w_top off
  (rename Fr _ _ _ _ => F9); (rename News _ _ _ _ => N9)
  obtain ⟨m₀, F8⟩ := fr_some F9
  clear F9
  rename Shared => s1
  generalize hL : s1.heap.objs.size = L at *
  obtain ⟨o5, o4, o3, o2, o1, way, tl, N8, hoff, hl9, hw, ⟨d5, hd5⟩, ⟨d4, hd4⟩, ⟨d3, hd3⟩, ⟨t2, hd2⟩, hd1⟩ := law_ledger N9 (by assumption) (by assumption) (by assumption) (by assumption) (by assumption) (by assumption)
  clear N9
  refine wpAny_Assign_Name ?_
  k_dflt (refine comp2_eval (F₀ := F8) (by with_unfolding_all rfl) (by decide) (by rfl) (by decide) (by rfl) (by rfl) (by decide) ?_)
  (repeat' (first | (k_unfold; (try dsimp only)) | (k_end; wrow_close) | (first | ((fail_if_success (with_reducible refine' gd9 (t := eval _ _) ?_)); (first | (with_reducible (((fail_if_success (fail_if_success (with_reducible refine' gd9 (t := execs (_ :: _) _) ?_))); k_dflt (refine' execs_B ?zm9 ?zn9 ?_; (case zm9 => with_reducible assumption); (case zn9 => (try dsimp only); first | omega | assumption)); (try dsimp only)))) | (with_reducible (((fail_if_success (fail_if_success (with_reducible refine' gd9 (t := execs (_ :: _) _) ?_))); first | k_gentoks | ((with_reducible refine wpAny_execs_cons ?_); (try dsimp only))))) | (with_reducible (((with_reducible show (@LE.le Nat _ _ _) → _); intro hB9; (try dsimp only at hB9); revert hB9; intro _))) | (with_reducible (((fail_if_success (fail_if_success (with_reducible refine' gd9 (t := call (Value.ref 313) _) ?_))); k_dflt (refine' cells_c (by k_asm) (by k_asm) (by k_asm) (by k_asm) (by k_asm) (by first | rfl | assumption) (by ktr_room) (by ktr_units) (by with_reducible assumption) (by with_reducible assumption) (by first | with_reducible assumption | omega) ?_); intro _ _ _ _ _ _ _ _ off9 _ _; (try simp only [List.forall_mem_cons] at off9); revert off9; intro _; (try dsimp only); (try k_fold)))) )) | walk1) | ((with_reducible show wpAny _ _ _ _ _ _); dsimp only) | (leave1; walk_say "STEP leave1"; try dsimp only) | fail "no step"))
  (rename Fr _ _ _ m₀ => F7); (rename News _ _ _ _ => N7); (rename IsRange _ _ 0 4 1 _ _ _ => hR)
  k_dflt (refine ⟨4, _, _, _, fun i ys nw => ∃ tl', nw = (_, o5) :: (_, o4) :: (_, o3) :: (_, o2) :: (_, o1) :: tl' ∧ (∀ q ∈ tl, q ∈ tl') ∧ Off5 L tl' ∧ TupAre tl' ys (ppre i), F7, N7, iter_range rfl hR (range_sm (by omega) (by omega)) (by rw [range_sz]; rfl), ⟨tl, rfl, fun _ h => h, hoff, .nil⟩, trivial, ?fin, ?step⟩)
  case step =>
    rintro i v I oI oC C D ys nw m₂ h tq Q' E' hi hv ⟨tl', rfl, hsub, hoff', hys⟩ hS hC hma F9 N9 off ne hQ
    obtain ⟨uc, rfl⟩ := hv
    (repeat' (first | (k_unfold; (try dsimp only)) | (k_end; wrow_close) | (first | ((fail_if_success (with_reducible refine' gd9 (t := eval _ _) ?_)); (first | (with_reducible (((fail_if_success (fail_if_success (with_reducible refine' gd9 (t := execs (_ :: _) _) ?_))); k_dflt (refine' execs_B ?zm9 ?zn9 ?_; (case zm9 => with_reducible assumption); (case zn9 => (try dsimp only); first | omega | assumption)); (try dsimp only)))) | (with_reducible (((fail_if_success (fail_if_success (with_reducible refine' gd9 (t := execs (_ :: _) _) ?_))); first | k_gentoks | ((with_reducible refine wpAny_execs_cons ?_); (try dsimp only))))) | (with_reducible (((with_reducible show (@LE.le Nat _ _ _) → _); intro hB9; (try dsimp only at hB9); revert hB9; intro _))) | (with_reducible (((fail_if_success (fail_if_success (with_reducible refine' gd9 (t := call (Value.ref 313) _) ?_))); k_dflt (refine' cells_c (by k_asm) (by k_asm) (by k_asm) (by k_asm) (by k_asm) (by first | rfl | assumption) (by ktr_room) (by ktr_units) (by with_reducible assumption) (by with_reducible assumption) (by first | with_reducible assumption | omega) ?_); intro _ _ _ _ _ _ _ _ off9 _ _; (try simp only [List.forall_mem_cons] at off9); revert off9; intro _; (try dsimp only); (try k_fold)))) )) | walk1) | ((with_reducible show wpAny _ _ _ _ _ _); dsimp only) | (leave1; walk_say "STEP leave1"; try dsimp only) | fail "no step"))
    (rename Fr _ _ _ m₀ => F6); (rename News _ _ _ ((I, _) :: _) => N6); (rename IsRange _ _ 0 _ 1 _ _ _ => hR2)
    k_dflt (refine hQ _ _ ⟨4 - i, _, _, oC, m₂, _, fun j ys nw => ∃ tl', nw = (_, o5) :: (_, o4) :: (_, o3) :: (_, o2) :: (_, o1) :: tl' ∧ (∀ q ∈ tl, q ∈ tl') ∧ Off5 L tl' ∧ TupAre tl' ys (ppre i ++ prow i j) ∧ j ≤ 4, _, _, rfl, hC, hma, F6, N6, off, iter_range rfl hR2 (range_sm (by omega) (by omega)) (by rw [range_sz]; omega), ⟨tl', rfl, hsub, hoff', by rw [show prow i 0 = [] from rfl, List.append_nil]; exact hys, by decide⟩, ?js, ?je, ?step2⟩)
    case js => rintro j ys nw ⟨tl', h0, h1, h4, h2, h3⟩; exact ⟨tup_len h2 (by omega) h3, trivial, trivial⟩
    case je => rintro ys nw ⟨tl', h0, h1, h4, h2, h3⟩; exact ⟨tl', h0, h1, h4, h2⟩
    case step2 =>
      clear F6 N6 hR2 hQ hys hsub hC hma off hoff'
      rintro j v₂ I₂ oI₂ oC' ys' nw' m₃ h3 tk3 Q3 E3 hj hv₂ ⟨tl', rfl, hsub, hoff', hys, hj4⟩ hC hma hmb F6 N6 off offI ne2 hQ
      obtain ⟨ud, rfl⟩ := hv₂
      rw [Int.zero_add] at hmb
      (repeat' (first | (k_unfold; (try dsimp only)) | (k_end; wrow_close) | (first | ((fail_if_success (with_reducible refine' gd9 (t := eval _ _) ?_)); (first | (with_reducible (((fail_if_success (fail_if_success (with_reducible refine' gd9 (t := execs (_ :: _) _) ?_))); k_dflt (refine' execs_B ?zm9 ?zn9 ?_; (case zm9 => with_reducible assumption); (case zn9 => (try dsimp only); first | omega | assumption)); (try dsimp only)))) | (with_reducible (((fail_if_success (fail_if_success (with_reducible refine' gd9 (t := execs (_ :: _) _) ?_))); first | k_gentoks | ((with_reducible refine wpAny_execs_cons ?_); (try dsimp only))))) | (with_reducible (((with_reducible show (@LE.le Nat _ _ _) → _); intro hB9; (try dsimp only at hB9); revert hB9; intro _))) | (with_reducible (((fail_if_success (fail_if_success (with_reducible refine' gd9 (t := call (Value.ref 313) _) ?_))); k_dflt (refine' cells_c (by k_asm) (by k_asm) (by k_asm) (by k_asm) (by k_asm) (by first | rfl | assumption) (by ktr_room) (by ktr_units) (by with_reducible assumption) (by with_reducible assumption) (by first | with_reducible assumption | omega) ?_); intro _ _ _ _ _ _ _ _ off9 _ _; (try simp only [List.forall_mem_cons] at off9); revert off9; intro _; (try dsimp only); (try k_fold)))) )) | walk1) | ((with_reducible show wpAny _ _ _ _ _ _); dsimp only) | (leave1; walk_say "STEP leave1"; try dsimp only) | fail "no step"))
      (rename Fr _ _ _ m₀ => F5); (rename News _ _ _ _ => N5); (rename _ ∧ _ ∧ _ ∧ _ ∧ _ ∧ _ ∧ _ ∧ _ ∧ _ ∧ AllLt _ tl' => l5)
      obtain ⟨l51, l52, l53, l54, c5, c4, c3, c2, c1, l55⟩ := l5
      simp only [List.forall_mem_cons] at offI
      obtain ⟨i5, i4, i3, i2, i1, offI⟩ := offI
      exact hQ _ _ _ ((_, o5) :: (_, o4) :: (_, o3) :: (_, o2) :: (_, o1) :: (_, tup3 (0 + (i : Int)) (j : Int) (3 - (0 + (i : Int)) - (j : Int)) _ _ _ _) :: tl') F5 (cb_drop N5 (by walk_at "sub"))
        ⟨off.1, off.2.1, off.2.2.1, off.2.2.2.1, off.2.2.2.2.1, off.2.2.2.2.2.1, ⟨Nat.ne_of_gt l51, Nat.ne_of_gt l52, Nat.ne_of_gt l53⟩, off.2.2.2.2.2.2⟩
        (List.forall_mem_cons.mpr ⟨i5, List.forall_mem_cons.mpr ⟨i4, List.forall_mem_cons.mpr ⟨i3, List.forall_mem_cons.mpr ⟨i2, List.forall_mem_cons.mpr ⟨i1, List.forall_mem_cons.mpr ⟨Nat.ne_of_gt l54, offI⟩⟩⟩⟩⟩⟩)
        ⟨_, rfl, fun q hq => List.mem_cons_of_mem _ (hsub q hq), hoff'.cons (Nat.ne_of_lt c5) (Nat.ne_of_lt c4) (Nat.ne_of_lt c3) (Nat.ne_of_lt c2) (Nat.ne_of_lt c1), prow_snoc hys (by omega) rfl (by omega), by omega⟩
  case fin =>
    rintro ys nw ⟨tl', rfl, hsub, hoff', hys⟩ D h tq F9 N9 ⟨e5, e4, e3, e2, e1, oD⟩
    rw [ppre4] at hys
    have hDo := hoff'.cons (o := LCg.lst ys) e5 e4 e3 e2 e1
    have hDm : (D, LCg.lst ys) ∈ (D, LCg.lst ys) :: tl' := List.mem_cons_self
    have hl9' := List.mem_cons_of_mem (D, LCg.lst ys) (hsub _ hl9)
    replace hys := hys.mono fun q hq => List.mem_cons_of_mem (D, LCg.lst ys) hq
    have N8' : News _ _ _ ((L + 1 + 1 + 1 + 1 + 1, o5) :: (L + 1 + 1 + 1 + 1, o4) :: (L + 1 + 1 + 1, o3) :: (L + 1 + 1, o2) :: (L + 1, o1) :: (D, LCg.lst ys) :: tl') := cb_drop N9 (by walk_at "sub")
    clear N9 N7 hR F7 hoff hl9 hsub hoff' oD; (try clear N8); (try clear F8)
    generalize (D, LCg.lst ys) :: tl' = tl1 at *
    have hn3 := hDo.n3
    (repeat ((fail_if_success (with_reducible show wpAny _ _ (exec (Stmt.Assign _ (Expr.ListComp _ _ _ _) _) _) _ _ _)); (first | (k_unfold; (try dsimp only)) | (k_end; wrow_close) | (first | ((fail_if_success (with_reducible refine' gd9 (t := eval _ _) ?_)); (first | (with_reducible (((fail_if_success (fail_if_success (with_reducible refine' gd9 (t := execs (_ :: _) _) ?_))); k_dflt (refine' execs_B ?zm9 ?zn9 ?_; (case zm9 => with_reducible assumption); (case zn9 => (try dsimp only); first | omega | assumption)); (try dsimp only)))) | (with_reducible (((fail_if_success (fail_if_success (with_reducible refine' gd9 (t := execs (_ :: _) _) ?_))); first | k_gentoks | ((with_reducible refine wpAny_execs_cons ?_); (try dsimp only))))) | (with_reducible (((with_reducible show (@LE.le Nat _ _ _) → _); intro hB9; (try dsimp only at hB9); revert hB9; intro _))) | (with_reducible (((fail_if_success (fail_if_success (with_reducible refine' gd9 (t := call (Value.ref 313) _) ?_))); k_dflt (refine' cells_c (by k_asm) (by k_asm) (by k_asm) (by k_asm) (by k_asm) (by first | rfl | assumption) (by ktr_room) (by ktr_units) (by with_reducible assumption) (by with_reducible assumption) (by first | with_reducible assumption | omega) ?_); intro _ _ _ _ _ _ _ _ off9 _ _; (try simp only [List.forall_mem_cons] at off9); revert off9; intro _; (try dsimp only); (try k_fold)))) )) | walk1) | ((with_reducible show wpAny _ _ _ _ _ _); dsimp only) | (leave1; walk_say "STEP leave1"; try dsimp only) | fail "no step")))
    w_top off
    rename List Int => ms
    rename Obj => o3'
    (rename Fr _ _ _ _ => F9); (rename News _ _ _ _ => N9)
    (rename _ = Data.cell (some (Value.ref D)) => hd3'); clear hd3
    refine wpAny_Assign_Name ?_
    k_dflt (refine comp_eval (F₀ := F9) (by with_unfolding_all rfl) (by decide) (by rfl) (by decide) (by rfl) ?_)
    (repeat' (first | (k_unfold; (try dsimp only)) | (k_end; wrow_close) | (first | ((fail_if_success (with_reducible refine' gd9 (t := eval _ _) ?_)); (first | (with_reducible (((fail_if_success (fail_if_success (with_reducible refine' gd9 (t := execs (_ :: _) _) ?_))); k_dflt (refine' execs_B ?zm9 ?zn9 ?_; (case zm9 => with_reducible assumption); (case zn9 => (try dsimp only); first | omega | assumption)); (try dsimp only)))) | (with_reducible (((fail_if_success (fail_if_success (with_reducible refine' gd9 (t := execs (_ :: _) _) ?_))); first | k_gentoks | ((with_reducible refine wpAny_execs_cons ?_); (try dsimp only))))) | (with_reducible (((with_reducible show (@LE.le Nat _ _ _) → _); intro hB9; (try dsimp only at hB9); revert hB9; intro _))) )) | walk1) | ((with_reducible show wpAny _ _ _ _ _ _); dsimp only) | (leave1; walk_say "STEP leave1"; try dsimp only) | fail "no step"))
    (rename Fr _ _ _ m₀ => F7); (rename News _ _ _ _ => N7); (rename IntsAre _ (List.take 10 _) => hI); (rename List.length _ = 11 => hms); (rename _ ∧ _ ∧ _ ∧ _ ∧ _ ∧ AllLt _ tl1 => l5)
    have hIl : _ = 10 := hI.length.trans (by rw [List.length_take, hms]; rfl)
    k_dflt (refine CSrc.of (iter_list rfl N7 List.mem_cons_self) F7 N7 List.mem_cons_self (by simp only [List.size_toArray, sizeLine]; omega) fun _ => rest_inv (K := 10) (fun e zs nw => nw = _ ∧ TupAre tl1 zs ((List.range e).map (gof ms))) ?step ?fin _ _ _ _ ((Nat.zero_add _).trans (by rw [List.size_toArray]; exact hIl)) ⟨rfl, .nil⟩)
    case step =>
      rintro e v I oI C oC D' zs nw m₂ h tq Q' E' he hv ⟨rfl, hzs⟩ hC hx F9 N9 off ne hQ
      obtain ⟨y, ty, rfl, hy⟩ := ints_item hI e v (by simpa using hv)
      (repeat ((fail_if_success (with_reducible show wpAny _ _ (subscriptTail _ _ _ _) _ _ _)); (first | (first | ((fail_if_success (with_reducible refine' gd9 (t := eval _ _) ?_)); (first | (with_reducible (((fail_if_success (fail_if_success (with_reducible refine' gd9 (t := execs (_ :: _) _) ?_))); k_dflt (refine' execs_B ?zm9 ?zn9 ?_; (case zm9 => with_reducible assumption); (case zn9 => (try dsimp only); first | omega | assumption)); (try dsimp only)))) | (with_reducible (((fail_if_success (fail_if_success (with_reducible refine' gd9 (t := execs (_ :: _) _) ?_))); first | k_gentoks | ((with_reducible refine wpAny_execs_cons ?_); (try dsimp only))))) | (with_reducible (((with_reducible show (@LE.le Nat _ _ _) → _); intro hB9; (try dsimp only at hB9); revert hB9; intro _))) )) | walk1) | dsimp only)))
      have hy0 := Int.fmod_nonneg_of_pos y (by decide : (0 : Int) < 10)
      have hy1 := Int.fmod_lt_of_pos y (by decide : (0 : Int) < 10)
      k_dflt (refine tup_pick (t := (y.fmod 10).toNat) N9 (by k_mem) hys (by omega) (by omega) (by decide) ?_)
      intro p ta tb tc c' hp
      exact hQ _ _ _ _ F9 N9 off List.mem_cons_self ⟨rfl, gof_snoc hzs hy hp⟩
    case fin =>
      rintro zs nw ⟨rfl, hzs⟩ D2 h tq F9 N9 ⟨_, e5, e4, e3, e2, e1, oD⟩
      have hDo2 := hDo.cons (o := LCg.lst zs) e5 e4 e3 e2 e1
      have hDm2 : (D2, LCg.lst zs) ∈ (D2, LCg.lst zs) :: tl1 := List.mem_cons_self
      have hl92 := List.mem_cons_of_mem (D2, LCg.lst zs) hl9'
      replace hDm := List.mem_cons_of_mem (D2, LCg.lst zs) hDm
      replace hys := hys.mono fun q hq => List.mem_cons_of_mem (D2, LCg.lst zs) hq
      replace hzs := hzs.mono fun q hq => List.mem_cons_of_mem (D2, LCg.lst zs) hq
      have N8' : News _ _ _ ((L + 1 + 1 + 1 + 1 + 1, o5) :: (L + 1 + 1 + 1 + 1, o4) :: (L + 1 + 1 + 1, o3') :: (L + 1 + 1, o2) :: (L + 1, o1) :: (D2, LCg.lst zs) :: tl1) := cb_drop N9 (by walk_at "sub")
      clear N9 N7 F7 hDo hl9' oD hn3 l5
      generalize (D2, LCg.lst zs) :: tl1 = tl2 at *
      have hn4 := hDo2.n4
      (repeat ((fail_if_success (with_reducible show wpAny _ _ (exec (Stmt.Assign _ (Expr.ListComp _ _ _ _) _) _) _ _ _)); (first | (k_unfold; (try dsimp only)) | (k_end; wrow_close) | (first | ((fail_if_success (with_reducible refine' gd9 (t := eval _ _) ?_)); (first | (with_reducible (((fail_if_success (fail_if_success (with_reducible refine' gd9 (t := execs (_ :: _) _) ?_))); k_dflt (refine' execs_B ?zm9 ?zn9 ?_; (case zm9 => with_reducible assumption); (case zn9 => (try dsimp only); first | omega | assumption)); (try dsimp only)))) | (with_reducible (((fail_if_success (fail_if_success (with_reducible refine' gd9 (t := execs (_ :: _) _) ?_))); first | k_gentoks | ((with_reducible refine wpAny_execs_cons ?_); (try dsimp only))))) | (with_reducible (((with_reducible show (@LE.le Nat _ _ _) → _); intro hB9; (try dsimp only at hB9); revert hB9; intro _))) )) | walk1) | ((with_reducible show wpAny _ _ _ _ _ _); dsimp only) | (leave1; walk_say "STEP leave1"; try dsimp only) | fail "no step")))
      w_top off
      rename Obj => o4'
      (rename Fr _ _ _ _ => F9); (rename News _ _ _ _ => N9); (rename _ = Data.cell (some (Value.ref D2)) => hd4'); clear hd4
      k_dflt (refine comp2_assign (F₀ := F9) (by rfl) (by with_unfolding_all rfl) (by with_unfolding_all rfl) (by decide) (by rfl) (by decide) (by rfl) (by rfl) (by decide) (by rfl) (by rfl) ?_)
      (repeat' (first | (k_unfold; (try dsimp only)) | (k_end; wrow_close) | (first | ((fail_if_success (with_reducible refine' gd9 (t := eval _ _) ?_)); (first | (with_reducible (((fail_if_success (fail_if_success (with_reducible refine' gd9 (t := execs (_ :: _) _) ?_))); k_dflt (refine' execs_B ?zm9 ?zn9 ?_; (case zm9 => with_reducible assumption); (case zn9 => (try dsimp only); first | omega | assumption)); (try dsimp only)))) | (with_reducible (((fail_if_success (fail_if_success (with_reducible refine' gd9 (t := execs (_ :: _) _) ?_))); first | k_gentoks | ((with_reducible refine wpAny_execs_cons ?_); (try dsimp only))))) | (with_reducible (((with_reducible show (@LE.le Nat _ _ _) → _); intro hB9; (try dsimp only at hB9); revert hB9; intro _))) | (with_reducible (((fail_if_success (fail_if_success (with_reducible refine' gd9 (t := subscriptTail _ _ (Value.ref _) (Value.int (Nat.cast _) _)) ?_))); k_dflt (refine' tup_pick (by k_asm) (by k_mem) (by with_reducible assumption) (by exact rfl) (by omega) (by decide) ?_); intro _ _ _ _ _))) | ((fail_if_success (fail_if_success (with_reducible refine' gd9 (t := call _ _ _) ?_))); (first | (with_reducible (((fail_if_success (fail_if_success (with_reducible refine' gd9 (t := call (Value.ref 332) _) ?_))); k_dflt (refine' leads_c (by k_asm) (by k_asm) (by k_asm) (by k_asm) (by k_asm) (by first | rfl | assumption) (by ktr_room) (by ktr_units) (by k_mem) (by with_reducible assumption) (by with_reducible assumption) (by with_reducible assumption) (by with_reducible assumption) ?_); intro _ _ _ _ _ _ _ _; (try dsimp only); (try k_fold)))) | (with_reducible (((fail_if_success (fail_if_success (with_reducible refine' gd9 (t := call (Value.ref 327) _) ?_))); k_dflt (refine' spelled_c (by k_asm) (by k_asm) (by k_asm) (by k_asm) (by k_asm) (by first | rfl | assumption) (by ktr_room) (by ktr_units) (by k_mem) (by with_reducible assumption) (by with_reducible assumption) (by with_reducible assumption) ?_); intro _ _ _ _ _; (try dsimp only); (try k_fold)))) | (with_reducible (((fail_if_success (fail_if_success (with_reducible refine' gd9 (t := call (Value.ref 302) _) ?_))); k_dflt (refine' make_c (by k_asm) (by k_asm) (by k_asm) (by k_asm) (by k_asm) (by first | rfl | assumption) (by ktr_room) (by ktr_units) (by with_reducible assumption) (by with_reducible assumption) (by with_reducible assumption) (by with_reducible assumption) ?_); intro _ _ _ _ _ _ _ _; (try dsimp only); (try k_fold)))) )) )) | walk1) | ((with_reducible show wpAny _ _ _ _ _ _); dsimp only) | (leave1; walk_say "STEP leave1"; try dsimp only) | fail "no step"))
      (rename Fr _ _ _ m₀ => F7); (rename News _ _ _ _ => N7); (rename IsRange _ _ 0 10 1 _ _ _ => hR)
      k_dflt (refine ⟨10, _, _, _, fun i ys nw => ∃ tl', nw = (_, o5) :: (_, o4') :: (_, o3') :: (_, o2) :: (_, o1) :: tl' ∧ (∀ q ∈ tl2, q ∈ tl') ∧ Off5 L tl' ∧ PairsAre (Lt1 0) tl' ys (alPre way (gof ms) i), F7, N7, iter_range rfl hR (range_sm (by omega) (by omega)) (by rw [range_sz]; rfl), ⟨tl2, rfl, fun _ h => h, hDo2, .nil⟩, trivial, ?fin, ?step⟩)
      case step =>
        rintro i v I oI oC C Da ps nw m₂ h tq Q' E' hi hv ⟨tl', rfl, hsub, hoff', hps⟩ hS hC hma F9 N9 off ne hQ
        obtain ⟨uc, hvv⟩ := hv
        rw [Int.zero_add] at hvv
        subst hvv
        have hDm' := hsub _ hDm
        have hDm2' := hsub _ hDm2
        have hys' := hys.mono hsub
        have hzs' := hzs.mono hsub
        have gok := goal_ok hw (gof_mem ms i)
        have gi := gok.i
        have gj := gok.j
        have gk := gok.k
        (repeat' (first | (k_unfold; (try dsimp only)) | (k_end; wrow_close) | (first | ((fail_if_success (with_reducible refine' gd9 (t := eval _ _) ?_)); (first | (with_reducible (((fail_if_success (fail_if_success (with_reducible refine' gd9 (t := execs (_ :: _) _) ?_))); k_dflt (refine' execs_B ?zm9 ?zn9 ?_; (case zm9 => with_reducible assumption); (case zn9 => (try dsimp only); first | omega | assumption)); (try dsimp only)))) | (with_reducible (((fail_if_success (fail_if_success (with_reducible refine' gd9 (t := execs (_ :: _) _) ?_))); first | k_gentoks | ((with_reducible refine wpAny_execs_cons ?_); (try dsimp only))))) | (with_reducible (((with_reducible show (@LE.le Nat _ _ _) → _); intro hB9; (try dsimp only at hB9); revert hB9; intro _))) | (with_reducible (((fail_if_success (fail_if_success (with_reducible refine' gd9 (t := subscriptTail _ _ (Value.ref _) (Value.int (Nat.cast _) _)) ?_))); k_dflt (refine' tup_pick (by k_asm) (by k_mem) (by with_reducible assumption) (by exact rfl) (by omega) (by decide) ?_); intro _ _ _ _ _))) | ((fail_if_success (fail_if_success (with_reducible refine' gd9 (t := call _ _ _) ?_))); (first | (with_reducible (((fail_if_success (fail_if_success (with_reducible refine' gd9 (t := call (Value.ref 332) _) ?_))); k_dflt (refine' leads_c (by k_asm) (by k_asm) (by k_asm) (by k_asm) (by k_asm) (by first | rfl | assumption) (by ktr_room) (by ktr_units) (by k_mem) (by with_reducible assumption) (by with_reducible assumption) (by with_reducible assumption) (by with_reducible assumption) ?_); intro _ _ _ _ _ _ _ _; (try dsimp only); (try k_fold)))) | (with_reducible (((fail_if_success (fail_if_success (with_reducible refine' gd9 (t := call (Value.ref 327) _) ?_))); k_dflt (refine' spelled_c (by k_asm) (by k_asm) (by k_asm) (by k_asm) (by k_asm) (by first | rfl | assumption) (by ktr_room) (by ktr_units) (by k_mem) (by with_reducible assumption) (by with_reducible assumption) (by with_reducible assumption) ?_); intro _ _ _ _ _; (try dsimp only); (try k_fold)))) | (with_reducible (((fail_if_success (fail_if_success (with_reducible refine' gd9 (t := call (Value.ref 302) _) ?_))); k_dflt (refine' make_c (by k_asm) (by k_asm) (by k_asm) (by k_asm) (by k_asm) (by first | rfl | assumption) (by ktr_room) (by ktr_units) (by with_reducible assumption) (by with_reducible assumption) (by with_reducible assumption) (by with_reducible assumption) ?_); intro _ _ _ _ _ _ _ _; (try dsimp only); (try k_fold)))) )) )) | walk1) | ((with_reducible show wpAny _ _ _ _ _ _); dsimp only) | (leave1; walk_say "STEP leave1"; try dsimp only) | fail "no step"))
        rename_i l9 ys9 h9 tk9 hys9 hl9 F6 N6
        simp only [List.forall_mem_cons] at hl9
        obtain ⟨n1, n2, n3, c5, c4, c3, c2, c1, nt⟩ := hl9
        have hys9l : ys9.length = 2 := StrsAre.length hys9
        have N6' : News _ _ _ ((I, oI) :: (C, oC) :: (Da, LCg.lst ps) :: (L + 1 + 1 + 1 + 1 + 1, o5) :: (L + 1 + 1 + 1 + 1, o4') :: (L + 1 + 1 + 1, o3') :: (L + 1 + 1, o2) :: (L + 1, o1) :: (l9, LCg.lst ys9) :: tl') := cb_drop N6 (by walk_at "sub")
        k_dflt (refine hQ _ _ ⟨ys9.toArray.size, _, _, oC, m₂, _, fun j ys nw => ∃ tl', nw = (_, o5) :: (_, o4') :: (_, o3') :: (_, o2) :: (_, o1) :: tl' ∧ (∀ q ∈ tl2, q ∈ tl') ∧ (l9, LCg.lst ys9) ∈ tl' ∧ Off5 L tl' ∧ PairsAre (Lt1 0) tl' ys (alPre way (gof ms) i ++ ([(spN i, l1 way (gof ms i)), (spN i, l2 way (gof ms i))].take j)), _, _, rfl, hC, hma, F6, N6',
          ⟨off.1, off.2.1, off.2.2.1, off.2.2.2.1, off.2.2.2.2.1, ⟨Ne.symm n1, Ne.symm n2, Ne.symm n3⟩, off.2.2.2.2.2⟩, iter_list rfl N6' (by k_mem), ⟨_, rfl, fun q hq => List.mem_cons_of_mem _ (hsub q hq), List.mem_cons_self, hoff'.cons c5 c4 c3 c2 c1, by rw [List.take_zero, List.append_nil]; exact hps.mono fun q hq => List.mem_cons_of_mem _ hq⟩, ?js, ?je, ?step2⟩)
        case js => rintro j ys nw ⟨tl', rfl, h1, h2, h3, h4⟩; exact ⟨pre_len h4 (by omega), trivial, by k_mem⟩
        case je =>
          rintro ys nw ⟨tl', h0, h1, h2, h3, h4⟩
          rw [List.size_toArray, hys9l] at h4
          exact ⟨tl', h0, h1, h3, h4⟩
        case step2 =>
          clear F6 N6 N6' hQ hps hsub hC off hoff' hDm' hDm2' hys' hzs'
          rintro j v₂ I₂ oI₂ oC' ps' nw' m₃ h3 tk3 Q3 E3 hj hv₂ ⟨tl', rfl, hsub, hl, hoff', hps⟩ hC hma hmb F6 N6 off offI ne2 hQ
          obtain ⟨y, ty, rfl, hy⟩ := StrsAre.item hys9 j v₂ (by simpa using hv₂)
          have hDm' := hsub _ hDm
          have hys' := hys.mono hsub
          have tok := turn_ok hi
          have ti := tok.i
          have tj := tok.j
          have tk9 := tok.k
          (repeat' (first | (k_unfold; (try dsimp only)) | (k_end; wrow_close) | (first | ((fail_if_success (with_reducible refine' gd9 (t := eval _ _) ?_)); (first | (with_reducible (((fail_if_success (fail_if_success (with_reducible refine' gd9 (t := execs (_ :: _) _) ?_))); k_dflt (refine' execs_B ?zm9 ?zn9 ?_; (case zm9 => with_reducible assumption); (case zn9 => (try dsimp only); first | omega | assumption)); (try dsimp only)))) | (with_reducible (((fail_if_success (fail_if_success (with_reducible refine' gd9 (t := execs (_ :: _) _) ?_))); first | k_gentoks | ((with_reducible refine wpAny_execs_cons ?_); (try dsimp only))))) | (with_reducible (((with_reducible show (@LE.le Nat _ _ _) → _); intro hB9; (try dsimp only at hB9); revert hB9; intro _))) | (with_reducible (((fail_if_success (fail_if_success (with_reducible refine' gd9 (t := subscriptTail _ _ (Value.ref _) (Value.int (Nat.cast _) _)) ?_))); k_dflt (refine' tup_pick (by k_asm) (by k_mem) (by with_reducible assumption) (by exact rfl) (by omega) (by decide) ?_); intro _ _ _ _ _))) | ((fail_if_success (fail_if_success (with_reducible refine' gd9 (t := call _ _ _) ?_))); (first | (with_reducible (((fail_if_success (fail_if_success (with_reducible refine' gd9 (t := call (Value.ref 332) _) ?_))); k_dflt (refine' leads_c (by k_asm) (by k_asm) (by k_asm) (by k_asm) (by k_asm) (by first | rfl | assumption) (by ktr_room) (by ktr_units) (by k_mem) (by with_reducible assumption) (by with_reducible assumption) (by with_reducible assumption) (by with_reducible assumption) ?_); intro _ _ _ _ _ _ _ _; (try dsimp only); (try k_fold)))) | (with_reducible (((fail_if_success (fail_if_success (with_reducible refine' gd9 (t := call (Value.ref 327) _) ?_))); k_dflt (refine' spelled_c (by k_asm) (by k_asm) (by k_asm) (by k_asm) (by k_asm) (by first | rfl | assumption) (by ktr_room) (by ktr_units) (by k_mem) (by with_reducible assumption) (by with_reducible assumption) (by with_reducible assumption) ?_); intro _ _ _ _ _; (try dsimp only); (try k_fold)))) | (with_reducible (((fail_if_success (fail_if_success (with_reducible refine' gd9 (t := call (Value.ref 302) _) ?_))); k_dflt (refine' make_c (by k_asm) (by k_asm) (by k_asm) (by k_asm) (by k_asm) (by first | rfl | assumption) (by ktr_room) (by ktr_units) (by with_reducible assumption) (by with_reducible assumption) (by with_reducible assumption) (by with_reducible assumption) ?_); intro _ _ _ _ _ _ _ _; (try dsimp only); (try k_fold)))) )) )) | walk1) | ((with_reducible show wpAny _ _ _ _ _ _); dsimp only) | (leave1; walk_say "STEP leave1"; try dsimp only) | fail "no step"))
          (rename Fr _ _ _ m₀ => F5); (rename News _ _ _ _ => N5); (rename _ ∧ _ ∧ _ ∧ _ ∧ _ ∧ _ ∧ _ ∧ _ ∧ _ ∧ AllLt _ tl' => l5)
          obtain ⟨l51, l52, l53, l54, c5, c4, c3, c2, c1, l55⟩ := l5
          simp only [List.forall_mem_cons] at offI
          obtain ⟨i5, i4, i3, i2, i1, offI⟩ := offI
          exact hQ _ _ _ ((_, o5) :: (_, o4') :: (_, o3') :: (_, o2) :: (_, o1) :: (_, pairOf (spN i) y _ _ _) :: tl') F5 (cb_drop N5 (by walk_at "sub"))
            ⟨off.1, off.2.1, off.2.2.1, off.2.2.2.1, off.2.2.2.2.1, off.2.2.2.2.2.1, ⟨Nat.ne_of_gt l51, Nat.ne_of_gt l52, Nat.ne_of_gt l53⟩, off.2.2.2.2.2.2⟩
            (List.forall_mem_cons.mpr ⟨i5, List.forall_mem_cons.mpr ⟨i4, List.forall_mem_cons.mpr ⟨i3, List.forall_mem_cons.mpr ⟨i2, List.forall_mem_cons.mpr ⟨i1, List.forall_mem_cons.mpr ⟨Nat.ne_of_gt l54, offI⟩⟩⟩⟩⟩⟩)
            ⟨_, rfl, fun q hq => List.mem_cons_of_mem _ (hsub q hq), List.mem_cons_of_mem _ hl, hoff'.cons (Nat.ne_of_lt c5) (Nat.ne_of_lt c4) (Nat.ne_of_lt c3) (Nat.ne_of_lt c2) (Nat.ne_of_lt c1), pre_snoc hps hy gok.g1 gok.g2⟩
      case fin =>
        rintro ps nw ⟨tl', rfl, hsub, hoff', hps⟩ D3 h tq F9 N9 ⟨e5, e4, e3, e2, e1, oD⟩
        replace hDm := hsub _ hDm
        replace hDm2 := hsub _ hDm2
        replace hys := hys.mono hsub
        replace hzs := hzs.mono hsub
        replace hl92 := hsub _ hl92
        obtain ⟨ok0, ok1, ok2⟩ := pre_ok (ms := ms) hw
        have oD' := off1_mem oD
        have hps' : PairsAre (Lt1 0) ((_, o5) :: (_, o4') :: (_, o3') :: (_, o2) :: (_, o1) :: tl') ps (alPre way (gof ms) 10) := hps.mono (nw' := (L + 1 + 1 + 1 + 1 + 1, o5) :: (L + 1 + 1 + 1 + 1, o4') :: (L + 1 + 1 + 1, o3') :: (L + 1 + 1, o2) :: (L + 1, o1) :: tl') fun q hq => by repeat (first | exact hq | refine List.mem_cons_of_mem _ ?_)
        have N8' : News _ _ _ ((D3, listOf ps.toArray ps.length) :: (L + 1 + 1 + 1 + 1 + 1, o5) :: (L + 1 + 1 + 1 + 1, o4') :: (L + 1 + 1 + 1, o3') :: (L + 1 + 1, o2) :: (L + 1, o1) :: tl') := N9
        clear N9 N7 hR F7 hsub oD hDo2
        (repeat ((fail_if_success (with_reducible show wpAny _ _ (storeName _ _ _) _ _ _)); (first | (k_unfold; (try dsimp only)) | (k_end; wrow_close) | (first | ((fail_if_success (with_reducible refine' gd9 (t := eval _ _) ?_)); (first | (with_reducible (((fail_if_success (fail_if_success (with_reducible refine' gd9 (t := execs (_ :: _) _) ?_))); k_dflt (refine' execs_B ?zm9 ?zn9 ?_; (case zm9 => with_reducible assumption); (case zn9 => (try dsimp only); first | omega | assumption)); (try dsimp only)))) | (with_reducible (((fail_if_success (fail_if_success (with_reducible refine' gd9 (t := execs (_ :: _) _) ?_))); first | k_gentoks | ((with_reducible refine wpAny_execs_cons ?_); (try dsimp only))))) | (with_reducible (((with_reducible show (@LE.le Nat _ _ _) → _); intro hB9; (try dsimp only at hB9); revert hB9; intro _))) | (with_reducible (((fail_if_success (fail_if_success (with_reducible refine' gd9 (t := subscriptTail _ _ (Value.ref _) (Value.int (Nat.cast _) _)) ?_))); k_dflt (refine' tup_pick (by k_asm) (by k_mem) (by with_reducible assumption) (by exact rfl) (by omega) (by decide) ?_); intro _ _ _ _ _))) | ((fail_if_success (fail_if_success (with_reducible refine' gd9 (t := call _ _ _) ?_))); (first | (with_reducible (((fail_if_success (fail_if_success (with_reducible refine' gd9 (t := call (Value.ref 332) _) ?_))); k_dflt (refine' leads_c (by k_asm) (by k_asm) (by k_asm) (by k_asm) (by k_asm) (by first | rfl | assumption) (by ktr_room) (by ktr_units) (by k_mem) (by with_reducible assumption) (by with_reducible assumption) (by with_reducible assumption) (by with_reducible assumption) ?_); intro _ _ _ _ _ _ _ _; (try dsimp only); (try k_fold)))) | (with_reducible (((fail_if_success (fail_if_success (with_reducible refine' gd9 (t := call (Value.ref 327) _) ?_))); k_dflt (refine' spelled_c (by k_asm) (by k_asm) (by k_asm) (by k_asm) (by k_asm) (by first | rfl | assumption) (by ktr_room) (by ktr_units) (by k_mem) (by with_reducible assumption) (by with_reducible assumption) (by with_reducible assumption) ?_); intro _ _ _ _ _; (try dsimp only); (try k_fold)))) | (with_reducible (((fail_if_success (fail_if_success (with_reducible refine' gd9 (t := call (Value.ref 302) _) ?_))); k_dflt (refine' make_c (by k_asm) (by k_asm) (by k_asm) (by k_asm) (by k_asm) (by first | rfl | assumption) (by ktr_room) (by ktr_units) (by with_reducible assumption) (by with_reducible assumption) (by with_reducible assumption) (by with_reducible assumption) ?_); intro _ _ _ _ _ _ _ _; (try dsimp only); (try k_fold)))) )) )) | walk1) | ((with_reducible show wpAny _ _ _ _ _ _); dsimp only) | (leave1; walk_say "STEP leave1"; try dsimp only) | fail "no step")))
        w_top off
        rename World => w
        rename_i x9 d9 t9 h9 tk9 hx9 F6 N6
        simp only [List.forall_mem_cons] at hx9
        obtain ⟨⟨x0, d0⟩, ⟨x5, d5'⟩, ⟨x4, d4'⟩, ⟨x3, d3'⟩, ⟨x2, d2'⟩, ⟨x1, d1'⟩, hxt⟩ := hx9
        dsimp only at e5 e4 e3 e2 e1
        obtain ⟨tl4, htl4⟩ : ∃ tl4 : List (Addr × Obj), (x9, instObj 302 d9) :: (d9, dictOf [ent w (Str.ofString "_headers") t9 (.ref D3)] 1) :: tl' = tl4 := ⟨_, rfl⟩
        have hat : AtIn (Lt1 0) w (alPre way (gof ms) 10) x9 D3 ps tl4 := ⟨d9, t9, tl', htl4.symm, hps⟩
        have hup : ∀ q ∈ tl', q ∈ tl4 := fun q hq => htl4 ▸ List.mem_cons_of_mem _ (List.mem_cons_of_mem _ hq)
        have hoff4 : Off5 L tl4 := htl4 ▸ (hoff'.cons d5' d4' d3' d2' d1').cons x5 x4 x3 x2 x1
        have hD3 : ∀ q ∈ tl4, q.1 ≠ D3 := htl4 ▸ List.forall_mem_cons.mpr ⟨Ne.symm x0, List.forall_mem_cons.mpr ⟨Ne.symm d0, oD'⟩⟩
        have N7 : News _ _ _ ((D3, listOf ps.toArray ps.length) :: (L + 1 + 1 + 1 + 1 + 1, o5) :: (L + 1 + 1 + 1 + 1, o4') :: (L + 1 + 1 + 1, o3') :: (L + 1 + 1, o2) :: (L + 1, o1) :: tl4) := cb_drop N6 (by rw [← htl4]; walk_at "sub")
        clear N6 N8' hps hps' oD' hoff'
        replace hDm := hup _ hDm
        replace hDm2 := hup _ hDm2
        replace hys := hys.mono hup
        replace hzs := hzs.mono hup
        replace hl92 := hup _ hl92
        have hn5 := hoff4.n5
        have e5s := Ne.symm e5
        (repeat ((fail_if_success (with_reducible show wpAny _ _ (exec (Stmt.Assign _ (Expr.ListComp _ _ _ _) _) _) _ _ _)); (first | (k_unfold; (try dsimp only)) | (k_end; wrow_close) | (first | ((fail_if_success (with_reducible refine' gd9 (t := eval _ _) ?_)); (first | (with_reducible (((fail_if_success (fail_if_success (with_reducible refine' gd9 (t := execs (_ :: _) _) ?_))); k_dflt (refine' execs_B ?zm9 ?zn9 ?_; (case zm9 => with_reducible assumption); (case zn9 => (try dsimp only); first | omega | assumption)); (try dsimp only)))) | (with_reducible (((fail_if_success (fail_if_success (with_reducible refine' gd9 (t := execs (_ :: _) _) ?_))); first | k_gentoks | ((with_reducible refine wpAny_execs_cons ?_); (try dsimp only))))) | (with_reducible (((with_reducible show (@LE.le Nat _ _ _) → _); intro hB9; (try dsimp only at hB9); revert hB9; intro _))) | (with_reducible (((fail_if_success (fail_if_success (with_reducible refine' gd9 (t := call (Value.ref 302) _) ?_))); k_dflt (refine' make_c (by k_asm) (by k_asm) (by k_asm) (by k_asm) (by k_asm) (by first | rfl | assumption) (by ktr_room) (by ktr_units) (by with_reducible assumption) (by with_reducible assumption) (by with_reducible assumption) (by with_reducible assumption) ?_); intro _ _ _ _ _ _ _ _; (try dsimp only); (try k_fold)))) )) | walk1) | ((with_reducible show wpAny _ _ _ _ _ _); dsimp only) | (leave1; walk_say "STEP leave1"; try dsimp only) | fail "no step")))
        w_top off
        rename Obj => o5'
        (rename Fr _ _ _ _ => F9); (rename News _ _ _ _ => N9); (rename _ = Data.cell (some (Value.ref x9)) => hd5'); clear hd5
        obtain ⟨tl5, htl5⟩ : ∃ tl5 : List (Addr × Obj), (L + 1 + 1 + 1 + 1 + 1, o5') :: (L + 1 + 1 + 1 + 1, o4') :: (L + 1 + 1 + 1, o3') :: (L + 1 + 1, o2) :: (L + 1, o1) :: tl4 = tl5 := ⟨_, rfl⟩
        have hc5 : (L + 1 + 1 + 1 + 1 + 1, o5') ∈ tl5 := by rw [← htl5]; simp
        have hc4 : (L + 1 + 1 + 1 + 1, o4') ∈ tl5 := by rw [← htl5]; simp
        have hc3 : (L + 1 + 1 + 1, o3') ∈ tl5 := by rw [← htl5]; simp
        have hc2 : (L + 1 + 1, o2) ∈ tl5 := by rw [← htl5]; simp
        have hc1 : (L + 1, o1) ∈ tl5 := by rw [← htl5]; simp
        have hfix : ∀ q ∈ tl4, q ∈ tl5 := fun q hq => by rw [← htl5]; simp [hq]
        have hD5 : ∀ q ∈ tl5, q.1 ≠ D3 := by
          rw [← htl5]
          exact List.forall_mem_cons.mpr ⟨e5, List.forall_mem_cons.mpr ⟨e4, List.forall_mem_cons.mpr ⟨e3, List.forall_mem_cons.mpr ⟨e2, List.forall_mem_cons.mpr ⟨e1, hD3⟩⟩⟩⟩⟩
        rw [htl5] at N9
        replace hDm := hfix _ hDm
        replace hDm2 := hfix _ hDm2
        replace hys := hys.mono hfix
        replace hzs := hzs.mono hfix
        replace hl92 := hfix _ hl92
        clear hoff4 hD3 hn5 e5s
        rename List Value => ps0
        k_dflt (refine comp_assign (F₀ := F9) (by rfl) (by with_unfolding_all rfl) (by with_unfolding_all rfl) (by decide) (by rfl) (by decide) (by rfl) (by rfl) (by rfl) ?_)
        (repeat' (first | (k_unfold; (try dsimp only)) | (k_end; wrow_close) | (first | ((fail_if_success (with_reducible refine' gd9 (t := eval _ _) ?_)); (first | (with_reducible (((fail_if_success (fail_if_success (with_reducible refine' gd9 (t := execs (_ :: _) _) ?_))); k_dflt (refine' execs_B ?zm9 ?zn9 ?_; (case zm9 => with_reducible assumption); (case zn9 => (try dsimp only); first | omega | assumption)); (try dsimp only)))) | (with_reducible (((fail_if_success (fail_if_success (with_reducible refine' gd9 (t := execs (_ :: _) _) ?_))); first | k_gentoks | ((with_reducible refine wpAny_execs_cons ?_); (try dsimp only))))) | (with_reducible (((with_reducible show (@LE.le Nat _ _ _) → _); intro hB9; (try dsimp only at hB9); revert hB9; intro _))) )) | walk1) | ((with_reducible show wpAny _ _ _ _ _ _); dsimp only) | (leave1; walk_say "STEP leave1"; try dsimp only) | fail "no step"))
        (rename Fr _ _ _ _ => F7); (rename News _ _ _ _ => N7); (rename IsRange _ _ 0 10 1 _ _ _ => hR)
        k_dflt (refine CSrc.of (iter_range rfl hR (range_sm (by omega) (by omega)) (n := 10) (by rw [range_sz]; rfl)) F7 N7 trivial (Nat.le_of_ble_eq_true rfl) fun _ => rest_inv (K := 10) (fun e zs nw => nw = _ ∧ IntsAre zs ((List.range e).map (ordI ((ms.getD (Int.toNat 10) 0).fdiv 3)))) ?step ?fin _ _ _ _ (Nat.zero_add _) ⟨rfl, .nil⟩)
        case step =>
          rintro e v I oI C oC D' us nw m₂ h tq Q' E' he hv ⟨rfl, hus⟩ hC hx F9 N9 off ne hQ
          obtain ⟨uc, hvv⟩ := hv
          rw [Int.zero_add] at hvv
          subst hvv
          (repeat' (first | (k_unfold; (try dsimp only)) | (k_end; wrow_close) | (first | ((fail_if_success (with_reducible refine' gd9 (t := eval _ _) ?_)); (first | (with_reducible (((fail_if_success (fail_if_success (with_reducible refine' gd9 (t := execs (_ :: _) _) ?_))); k_dflt (refine' execs_B ?zm9 ?zn9 ?_; (case zm9 => with_reducible assumption); (case zn9 => (try dsimp only); first | omega | assumption)); (try dsimp only)))) | (with_reducible (((fail_if_success (fail_if_success (with_reducible refine' gd9 (t := execs (_ :: _) _) ?_))); first | k_gentoks | ((with_reducible refine wpAny_execs_cons ?_); (try dsimp only))))) | (with_reducible (((with_reducible show (@LE.le Nat _ _ _) → _); intro hB9; (try dsimp only at hB9); revert hB9; intro _))) )) | walk1) | ((with_reducible show wpAny _ _ _ _ _ _); dsimp only) | (leave1; walk_say "STEP leave1"; try dsimp only) | fail "no step"))
          exact hQ _ _ _ _ (by k_asm) (by k_asm) off trivial ⟨rfl, ord_snoc hus rfl⟩
        case fin =>
          rintro us nw ⟨rfl, hus⟩ D4 h tq F9 N9 ⟨o43, o4⟩
          have o4' := off1_mem o4
          have N8' : News _ _ _ ((D3, listOf ps0.toArray ps0.length) :: (D4, LCg.lst us) :: tl5) := cb_drop N9 (by walk_at "sub")
          clear N9 N7 F7 hR o4
          repeat ((fail_if_success (with_reducible show wpAny _ _ (exec (Stmt.For _ _ _ _ _) _) _ _ _)); (first | (k_unfold; (try dsimp only)) | (k_end; wrow_close) | (first | ((fail_if_success (with_reducible refine' gd9 (t := eval _ _) ?_)); (first | (with_reducible (((fail_if_success (fail_if_success (with_reducible refine' gd9 (t := execs (_ :: _) _) ?_))); k_dflt (refine' execs_B ?zm9 ?zn9 ?_; (case zm9 => with_reducible assumption); (case zn9 => (try dsimp only); first | omega | assumption)); (try dsimp only)))) | (with_reducible (((fail_if_success (fail_if_success (with_reducible refine' gd9 (t := execs (_ :: _) _) ?_))); first | k_gentoks | ((with_reducible refine wpAny_execs_cons ?_); (try dsimp only))))) | (with_reducible (((with_reducible show (@LE.le Nat _ _ _) → _); intro hB9; (try dsimp only at hB9); revert hB9; intro _))) )) | walk1) | ((with_reducible show wpAny _ _ _ _ _ _); dsimp only) | (leave1; walk_say "STEP leave1"; try dsimp only) | fail "no step"))
          w_top off
          (repeat ((fail_if_success (with_reducible show wpAny _ _ (pyIter _) _ _ _)); (first | (first | ((fail_if_success (with_reducible refine' gd9 (t := eval _ _) ?_)); (first | (with_reducible (((fail_if_success (fail_if_success (with_reducible refine' gd9 (t := execs (_ :: _) _) ?_))); k_dflt (refine' execs_B ?zm9 ?zn9 ?_; (case zm9 => with_reducible assumption); (case zn9 => (try dsimp only); first | omega | assumption)); (try dsimp only)))) | (with_reducible (((fail_if_success (fail_if_success (with_reducible refine' gd9 (t := execs (_ :: _) _) ?_))); first | k_gentoks | ((with_reducible refine wpAny_execs_cons ?_); (try dsimp only))))) | (with_reducible (((with_reducible show (@LE.le Nat _ _ _) → _); intro hB9; (try dsimp only at hB9); revert hB9; intro _))) | (with_reducible (((fail_if_success (fail_if_success (with_reducible refine' gd9 (t := exec (Stmt.For _ _ _ _ _) _) ?_))); k_dflt (refine' For_BT ?zm9 ?zn9 ?_; (case zm9 => with_reducible assumption); (case zn9 => (try dsimp only); omega))))) )) | walk1) | dsimp only)))
          rename Addr => l9
          (rename Fr _ _ _ _ => F9); (rename News _ _ _ _ => N9); (rename 3 ≤ _ => ht3); (rename _ ∧ _ ∧ AllLt _ tl5 => l59)
          obtain ⟨l59a, l59b, l59c⟩ := l59
          have l59t := allLt_mem l59c
          dsimp only at o43
          obtain ⟨tl6, htl6⟩ : ∃ tl6 : List (Addr × Obj), (D4, LCg.lst us) :: tl5 = tl6 := ⟨_, rfl⟩
          have hup6 : ∀ q ∈ tl5, q ∈ tl6 := fun q hq => by rw [← htl6]; simp [hq]
          have hD6 : ∀ q ∈ tl6, q.1 ≠ D3 := by rw [← htl6]; exact List.forall_mem_cons.mpr ⟨Ne.symm o43, hD5⟩
          have hl6 : ∀ q ∈ tl6, q.1 ≠ l9 := by rw [← htl6]; exact List.forall_mem_cons.mpr ⟨Nat.ne_of_lt l59b, fun q hq => Nat.ne_of_lt (l59t q hq)⟩
          have hDl : @Ne Nat l9 D3 := Nat.ne_of_gt l59a
          have N8' : News _ _ _ ((D3, listOf ps0.toArray ps0.length) :: (l9, listOf ([] : List Value).toArray 0) :: tl6) := cb_drop N9 (by rw [← htl6]; walk_at "sub")
          have hus6 : (D4, LCg.lst us) ∈ tl6 := by rw [← htl6]; exact List.mem_cons_self
          have hx6 : (x9, instObj 302 d9) ∈ tl6 := hup6 _ (hfix _ (by rw [← htl4]; simp))
          have hd6 : (d9, dictOf [ent w (Str.ofString "_headers") t9 (.ref D3)] 1) ∈ tl6 := hup6 _ (hfix _ (by rw [← htl4]; simp))
          have hps6 : PairsAre (Lt1 0) tl6 ps0 (alPre way (gof ms) 10) := by
            obtain ⟨_, _, own, e, hp⟩ := hat
            exact hp.mono fun q hq => hup6 _ (hfix _ (by rw [e]; simp [hq]))
          replace hc5 := hup6 _ hc5
          replace hc4 := hup6 _ hc4
          replace hc3 := hup6 _ hc3
          replace hc2 := hup6 _ hc2
          replace hc1 := hup6 _ hc1
          replace hDm := hup6 _ hDm
          replace hDm2 := hup6 _ hDm2
          replace hys := hys.mono hup6
          replace hzs := hzs.mono hup6
          clear N9 hat hfix hup htl4 htl5 htl6 hup6 hD5 l59c l59t hl92 o4' ok0 ok1 ok2
          have husl : us.toArray.size = 10 := by rw [List.size_toArray, hus.length]; simp
          generalize hq9 : (ms.getD (Int.toNat 10) 0).fdiv 3 = q9 at *
          refine for_invE (LawJ way ms q9 D3 l9 tl6) rfl F9 N8' (List.mem_cons_of_mem _ (List.mem_cons_of_mem _ hus6)) ⟨ht3, ps0, [], _, _, tl6, rfl, fun _ h => h, hD6, hl6, ?j1, .nil, rfl, rfl⟩ ?j2 ?turn ?done
          case j1 => rw [List.take_zero, alN_nil]; exact hps6.weak fun _ _ h => h.up (Nat.zero_le _)
          case j2 => rintro i t m nw ⟨_, ps, ds, c, c', tl, rfl, hsub, _⟩; exact List.mem_cons_of_mem _ (List.mem_cons_of_mem _ (hsub _ hus6))
          case turn =>
            rintro i v m₁ nw I oI h1 tq1 Kt E1 hi hv hoI ⟨h3t, ps, ds, c, c', tl, rfl, hsub, hoD, hol, hps, hds, e1, e2⟩ off F2 N2 hNx hRt
            w_top off
            obtain ⟨uT, rfl⟩ := ord_at hus hv (by omega)
            have hi10 : i < 10 := by omega
            have hT := ord_lt q9 i
            have hnew := ordL_new (q := q9) hi10
            have htk := take_snoc (q := q9) hi10
            have hlt9 := take_lt (q := q9) (k := i)
            have hln9 := take_len (q := q9) (k := i)
            generalize ordN q9 i = T at *
            generalize (ordL q9).take i = ds9 at *
            have F3 := fr_known F2 [(Str.ofString "due", .ref l9), (Str.ofString "given", .ref D3)] (by ((repeat (refine List.forall_mem_cons.mpr ⟨(by dsimp only; first | exact if_pos rfl | exact (if_neg (by decide +kernel)).trans (by first | with_reducible assumption | assumption) | (with_reducible assumption) | assumption), ?_⟩)); exact List.forall_mem_nil _))
            clear F2 hv
            have hdsl := hds.length
            rw [List.length_map] at hdsl
            have oI3 : @Ne Nat D3 I := off _ List.mem_cons_self
            have oI9 : @Ne Nat l9 I := off _ (List.mem_cons_of_mem _ List.mem_cons_self)
            have oIt : ∀ q ∈ tl, @Ne Nat q.1 I := fun q hq => off q (List.mem_cons_of_mem _ (List.mem_cons_of_mem _ hq))
            have N3 : News _ _ _ ((D3, listOf ps.toArray c) :: (l9, listOf ds.toArray c') :: (I, oI) :: tl) := cb_drop N2 (by walk_at "sub")
            clear N2
            have k5 := hsub _ hc5
            have k4 := hsub _ hc4
            have k3 := hsub _ hc3
            have k2 := hsub _ hc2
            have kD := hsub _ hDm
            have kD2 := hsub _ hDm2
            have kys := hys.mono hsub
            have kzs := hzs.mono hsub
            have kx := hsub _ hx6
            have kd := hsub _ hd6
            have hat : AtIn (Lt1 tq1) w (alN way (gof ms) ds9) x9 D3 ps ((x9, instObj 302 d9) :: (d9, dictOf [ent w (Str.ofString "_headers") t9 (.ref D3)] 1) :: tl) := ⟨d9, t9, tl, rfl, hps⟩
            have hfix : ∀ q ∈ (x9, instObj 302 d9) :: (d9, dictOf [ent w (Str.ofString "_headers") t9 (.ref D3)] 1) :: tl, q ∈ (l9, listOf ds.toArray c') :: (I, oI) :: tl :=
              List.forall_mem_cons.mpr ⟨List.mem_cons_of_mem _ (List.mem_cons_of_mem _ kx), List.forall_mem_cons.mpr ⟨List.mem_cons_of_mem _ (List.mem_cons_of_mem _ kd), fun q hq => List.mem_cons_of_mem _ (List.mem_cons_of_mem _ hq)⟩⟩
            have hoff : ∀ q ∈ (l9, listOf ds.toArray c') :: (I, oI) :: tl, q.1 ≠ D3 := List.forall_mem_cons.mpr ⟨hDl, List.forall_mem_cons.mpr ⟨Ne.symm oI3, hoD⟩⟩
            have aok := alN_ok (ms := ms) hw hlt9 hln9
            have tok := turn_ok hT
            have ti := tok.i
            have tj := tok.j
            have tk := tok.k
            have ts := tok.s
            have w0 : (spl (pl T).1 (pl T).2.1 (pl T).2.2 (T : Int)).length ≤ 100 := tok.pl
            have u1 : (Txt.upper (nm (pl T).1 (pl T).2.1 (pl T).2.2)).length ≤ 100 := tok.ul
            have u2 : (Txt.lower (Txt.upper (nm (pl T).1 (pl T).2.1 (pl T).2.2))).length ≤ 1000 := tok.ull
            have u3 : Takes true (Txt.lower (Txt.upper (nm (pl T).1 (pl T).2.1 (pl T).2.2))) := tok.ut
            have w1 : (Txt.swapcase (spl (pl T).1 (pl T).2.1 (pl T).2.2 (T : Int))).length ≤ 100 := tok.wl
            have w2 : (Txt.lower (Txt.swapcase (spl (pl T).1 (pl T).2.1 (pl T).2.2 (T : Int)))).length ≤ 1000 := tok.wll
            have w3 : Takes true (Txt.lower (Txt.swapcase (spl (pl T).1 (pl T).2.1 (pl T).2.2 (T : Int)))) := tok.wt
            have w4 : Takes true (Txt.swapcase (spl (pl T).1 (pl T).2.1 (pl T).2.2 (T : Int))) := tok.wt2
            have w5 : (Txt.swapcase (spl (pl T).1 (pl T).2.1 (pl T).2.2 (T : Int))).length ≤ 1000 := Nat.le_trans w1 (by decide)
            have plm : pl T ∈ plc := by
              have : ∀ t : Fin 10, pl t.1 ∈ plc := by decide
              exact this ⟨T, hT⟩
            have own := goal_ok hw plm
            have v1 : (ld way (pl T).1 (pl T).2.1).length ≤ 100 := own.l1
            have v2 : (ld way (pl T).1 (pl T).2.2).length ≤ 100 := own.l2
            have gok := goal_ok hw (gof_mem ms T)
            have g1 := gok.l1
            have g2 := gok.l2
            have hga : getAll (alN way (gof ms) ds9) (Txt.upper (nm (pl T).1 (pl T).2.1 (pl T).2.2)) = [l1 way (gof ms T), l2 way (gof ms T)] := alN_get hT hlt9 hnew
            obtain ⟨beq, bdr⟩ := both_ok hw hT (gof_mem ms T)
            have beq' : wsEq (wsOf (ld way (pl T).1 (pl T).2.1)) (wsOf (l1 way (gof ms T))) = wsEq (wsOf (ld way (pl T).1 (pl T).2.2)) (wsOf (l2 way (gof ms T))) := beq
            have bdr' : drw (pl T).1 (pl T).2.1 (pl T).2.2 way (l1 way (gof ms T)) (l2 way (gof ms T)) = dueN (gof ms) T := bdr
            obtain ⟨f1, f2, f3⟩ := due_facts (ms := ms) hT
            clear own gok tok beq bdr
            generalize l1 way (gof ms T) = G1 at *
            generalize l2 way (gof ms T) = G2 at *
            rw [← bdr'] at f1 f2
            repeat ((fail_if_success (with_reducible show wpAny _ _ (call (Value.ref 171) _) _ _ _)); (first | (k_unfold; (try dsimp only)) | (k_end; wrow_close) | (first | ((fail_if_success (with_reducible refine' gd9 (t := eval _ _) ?_)); (first | (with_reducible (((fail_if_success (fail_if_success (with_reducible refine' gd9 (t := execs (_ :: _) _) ?_))); k_dflt (refine' execs_B ?zm9 ?zn9 ?_; (case zm9 => with_reducible assumption); (case zn9 => (try dsimp only); first | omega | assumption)); (try dsimp only)))) | (with_reducible (((fail_if_success (fail_if_success (with_reducible refine' gd9 (t := execs (_ :: _) _) ?_))); first | k_gentoks | ((with_reducible refine wpAny_execs_cons ?_); (try dsimp only))))) | (with_reducible (((with_reducible show (@LE.le Nat _ _ _) → _); intro hB9; (try dsimp only at hB9); revert hB9; intro _))) | (with_reducible (((fail_if_success (fail_if_success (with_reducible refine' gd9 (t := subscriptTail _ _ (Value.ref _) (Value.int (Nat.cast _) _)) ?_))); k_dflt (refine' tup_pick (by k_asm) (by k_mem) (by with_reducible assumption) (by exact rfl) (by omega) (by decide) ?_); intro _ _ _ _ _))) | ((fail_if_success (fail_if_success (with_reducible refine' gd9 (t := call _ _ _) ?_))); (first | (with_reducible (((fail_if_success (fail_if_success (with_reducible refine' gd9 (t := call (Value.ref 327) _) ?_))); k_dflt (refine' spelled_c (by k_asm) (by k_asm) (by k_asm) (by k_asm) (by k_asm) (by first | rfl | assumption) (by ktr_room) (by ktr_units) (by k_mem) (by with_reducible assumption) (by with_reducible assumption) (by with_reducible assumption) ?_); intro _ _ _ _ _; (try dsimp only); (try k_fold)))) | (with_reducible (((fail_if_success (fail_if_success (with_reducible refine' gd9 (t := call (Value.builtin "str.swapcase") [Value.str _ _]) ?_))); (refine SCL.swapcase (by ((try dsimp only); first | with_reducible assumption | omega | (simp only [Str.length_append]; omega) | fail "slen")) ?_); intro _; (try dsimp only)))) | (with_reducible (((fail_if_success (fail_if_success (with_reducible refine' gd9 (t := call (Value.ref 337) _) ?_))); k_dflt (refine' drawn_c (by k_asm) (by k_asm) (by k_asm) (by k_asm) (by k_asm) (by first | rfl | assumption) (by ktr_room) (by ktr_units) (by with_reducible assumption) (by first | with_reducible assumption | walk_at "sub") (by with_reducible assumption) (by with_reducible assumption) (by (try dsimp only); omega) (by k_mem) (by with_reducible assumption) (by with_reducible assumption) (by with_reducible assumption) (by with_reducible assumption) (by with_reducible assumption) (by with_reducible assumption) (by with_reducible assumption) (by with_reducible assumption) (by with_reducible assumption) (by with_reducible assumption) (by with_reducible assumption) (by with_reducible assumption) (by with_reducible assumption) (by with_reducible assumption) ?_); intro _ _ _ _ _ _ _; (try dsimp only); (try k_fold)))) )) )) | walk1) | ((with_reducible show wpAny _ _ _ _ _ _); dsimp only) | (leave1; walk_say "STEP leave1"; try dsimp only) | fail "no step"))
            w_top off
            (rename _ ≠ 0 => ht0); (rename _ < _ => ht1)
            have mark2 := tokB_of ht1
            (first | (k_unfold; (try dsimp only)) | (k_end; wrow_close) | (first | ((fail_if_success (with_reducible refine' gd9 (t := eval _ _) ?_)); (first | (with_reducible (((fail_if_success (fail_if_success (with_reducible refine' gd9 (t := execs (_ :: _) _) ?_))); k_dflt (refine' execs_B ?zm9 ?zn9 ?_; (case zm9 => with_reducible assumption); (case zn9 => (try dsimp only); first | omega | assumption)); (try dsimp only)))) | (with_reducible (((fail_if_success (fail_if_success (with_reducible refine' gd9 (t := execs (_ :: _) _) ?_))); first | k_gentoks | ((with_reducible refine wpAny_execs_cons ?_); (try dsimp only))))) | (with_reducible (((with_reducible show (@LE.le Nat _ _ _) → _); intro hB9; (try dsimp only at hB9); revert hB9; intro _))) | ((fail_if_success (fail_if_success (with_reducible refine' gd9 (t := call _ _ _) ?_))); (first | (with_reducible (((fail_if_success (fail_if_success (with_reducible refine' gd9 (t := call (Value.builtin _) [Value.ref _, _]) ?_))); k_dflt (refine' append_own (by k_asm) (by k_asm) (by k_upd) (by first | exact delAll_len (by with_reducible assumption) (by with_reducible assumption) | omega | exact Nat.le_of_ble_eq_true rfl) ?_); intro _ _ _; (try dsimp only); (try k_fold)))) | (with_reducible (((fail_if_success (fail_if_success (with_reducible refine' gd9 (t := call (Value.ref 171) _) ?_))); k_dflt (refine' setitem_c (by k_asm) (by k_asm) (by k_asm) (by k_asm) (by k_asm) (by first | rfl | assumption) (by ktr_room) (by ktr_units) (by with_reducible assumption) (by first | with_reducible assumption | walk_at "sub") (by with_reducible assumption) (by with_reducible assumption) (by with_reducible assumption) (by with_reducible assumption) (by with_reducible assumption) (by with_reducible assumption) (by with_reducible assumption) (by with_reducible assumption) (by with_reducible assumption) ?_); intro _ _ _ _ _ _ _ _ _ _ _; (try dsimp only); (try k_fold)))) | (with_reducible (((fail_if_success (fail_if_success (with_reducible refine' gd9 (t := call (Value.ref 344) _) ?_))); k_dflt (refine' due_c (by k_asm) (by k_asm) (by k_asm) (by k_asm) (by k_asm) (by first | rfl | assumption) (by ktr_room) (by ktr_units) (by k_mem) (by k_mem) (by with_reducible assumption) (by with_reducible assumption) (by with_reducible assumption) (by with_reducible assumption) ?_); intro _ _ _ _ _; (try dsimp only); (try k_fold)))) )) | (with_reducible (((fail_if_success (fail_if_success (with_reducible refine' gd9 (t := subscriptTail _ _ (Value.ref _) (Value.int (Nat.cast _) _)) ?_))); k_dflt (refine' tup_pick (by k_asm) (by k_mem) (by with_reducible assumption) (by exact rfl) (by omega) (by decide) ?_); intro _ _ _ _ _))) )) | walk1) | ((with_reducible show wpAny _ _ _ _ _ _); dsimp only) | (leave1; walk_say "STEP leave1"; try dsimp only) | fail "no step")
            rename_i p10 n10 ps10 c10 h10 tk10 ht10 hps10 hp10 F10 N10
            simp only [List.forall_mem_cons] at hp10
            obtain ⟨q1, q2, q3, q4⟩ := hp10
            have q1' : @Ne Nat D3 p10 := q1
            have q2' : @Ne Nat l9 p10 := q2
            have q3' : @Ne Nat I p10 := q3
            dsimp only at ht10
            have hll : ds.length ≤ 10 := by omega
            (repeat' (first | (k_unfold; (try dsimp only)) | (k_end; wrow_close) | (first | ((fail_if_success (with_reducible refine' gd9 (t := eval _ _) ?_)); (first | (with_reducible (((fail_if_success (fail_if_success (with_reducible refine' gd9 (t := execs (_ :: _) _) ?_))); k_dflt (refine' execs_B ?zm9 ?zn9 ?_; (case zm9 => with_reducible assumption); (case zn9 => (try dsimp only); first | omega | assumption)); (try dsimp only)))) | (with_reducible (((fail_if_success (fail_if_success (with_reducible refine' gd9 (t := execs (_ :: _) _) ?_))); first | k_gentoks | ((with_reducible refine wpAny_execs_cons ?_); (try dsimp only))))) | (with_reducible (((with_reducible show (@LE.le Nat _ _ _) → _); intro hB9; (try dsimp only at hB9); revert hB9; intro _))) | ((fail_if_success (fail_if_success (with_reducible refine' gd9 (t := call _ _ _) ?_))); (first | (with_reducible (((fail_if_success (fail_if_success (with_reducible refine' gd9 (t := call (Value.builtin _) [Value.ref _, _]) ?_))); k_dflt (refine' append_own (by k_asm) (by k_asm) (by k_upd) (by first | exact delAll_len (by with_reducible assumption) (by with_reducible assumption) | omega | exact Nat.le_of_ble_eq_true rfl) ?_); intro _ _ _; (try dsimp only); (try k_fold)))) | (with_reducible (((fail_if_success (fail_if_success (with_reducible refine' gd9 (t := call (Value.ref 171) _) ?_))); k_dflt (refine' setitem_c (by k_asm) (by k_asm) (by k_asm) (by k_asm) (by k_asm) (by first | rfl | assumption) (by ktr_room) (by ktr_units) (by with_reducible assumption) (by first | with_reducible assumption | walk_at "sub") (by with_reducible assumption) (by with_reducible assumption) (by with_reducible assumption) (by with_reducible assumption) (by with_reducible assumption) (by with_reducible assumption) (by with_reducible assumption) (by with_reducible assumption) (by with_reducible assumption) ?_); intro _ _ _ _ _ _ _ _ _ _ _; (try dsimp only); (try k_fold)))) | (with_reducible (((fail_if_success (fail_if_success (with_reducible refine' gd9 (t := call (Value.ref 344) _) ?_))); k_dflt (refine' due_c (by k_asm) (by k_asm) (by k_asm) (by k_asm) (by k_asm) (by first | rfl | assumption) (by ktr_room) (by ktr_units) (by k_mem) (by k_mem) (by with_reducible assumption) (by with_reducible assumption) (by with_reducible assumption) (by with_reducible assumption) ?_); intro _ _ _ _ _; (try dsimp only); (try k_fold)))) )) | (with_reducible (((fail_if_success (fail_if_success (with_reducible refine' gd9 (t := subscriptTail _ _ (Value.ref _) (Value.int (Nat.cast _) _)) ?_))); k_dflt (refine' tup_pick (by k_asm) (by k_mem) (by with_reducible assumption) (by exact rfl) (by omega) (by decide) ?_); intro _ _ _ _ _))) )) | walk1) | ((with_reducible show wpAny _ _ _ _ _ _); dsimp only) | (leave1; walk_say "STEP leave1"; try dsimp only) | fail "no step"))
            (rename Fr _ _ _ _ => F9); (rename News _ _ _ _ => N9)
            (rename _ ∧ _ ∧ _ ∧ _ ∧ AllLt _ tl => l58); (rename _ + 1 ≤ _ => hB)
            obtain ⟨l581, l582, l583, l584, l585⟩ := l58
            have l58t := allLt_mem l585
            replace hps10 := (hps10.drop (show Value.type "list" ≠ Value.type "tuple" by decide)).drop hoI
            have hal : delAll (alN way (gof ms) ds9) (Txt.swapcase (spl (pl T).1 (pl T).2.1 (pl T).2.2 (T : Int))) ++ [(swN T, dueN (gof ms) T)] = alN way (gof ms) (ds9 ++ [T]) := alN_del hT hlt9 hnew
            have N9' : News _ _ _ ((I, oI) :: (D3, listOf (ps10 ++ [Value.ref p10]).toArray c10) :: (l9, listOf (ds ++ [Value.ref _]).toArray (c' + 1)) :: (_, pairOf (swN T) (dueN (gof ms) T) _ _ _) :: (p10, pairOf (swN T) (drw (pl T).1 (pl T).2.1 (pl T).2.2 way G1 G2) _ _ n10) :: tl) := cb_drop N9 (by walk_at "sub")
            refine hNx .next _ _ _ _ (.inl rfl) F9 N9' (List.forall_mem_cons.mpr ⟨oI3, List.forall_mem_cons.mpr ⟨oI9, List.forall_mem_cons.mpr ⟨Nat.ne_of_gt l584, List.forall_mem_cons.mpr ⟨Ne.symm q3', oIt⟩⟩⟩⟩) fun ht => ⟨Nat.le_trans h3t ht, _, _, _, _, _, rfl, fun q hq => List.mem_cons_of_mem _ (List.mem_cons_of_mem _ (hsub q hq)), ?a1, ?a2, ?a3, ?a4, rfl, rfl⟩
            case a1 => exact List.forall_mem_cons.mpr ⟨Nat.ne_of_gt l581, List.forall_mem_cons.mpr ⟨Ne.symm q1', hoD⟩⟩
            case a2 => exact List.forall_mem_cons.mpr ⟨Nat.ne_of_gt l583, List.forall_mem_cons.mpr ⟨Ne.symm q2', hol⟩⟩
            case a3 =>
              rw [htk, ← hal, ← bdr']
              exact PairsAre.app ((hps10.weak fun _ _ h => h.up ht).mono fun q hq => List.mem_cons_of_mem _ (List.mem_cons_of_mem _ hq)) (.cons (List.mem_cons_of_mem _ List.mem_cons_self) (fun _ => ⟨ht0, Nat.lt_of_succ_le hB⟩) .nil)
            case a4 =>
              rw [htk, List.map_append]
              exact PairsAre.app (hds.mono fun q hq => List.mem_cons_of_mem _ (List.mem_cons_of_mem _ hq)) (.cons List.mem_cons_self trivial .nil)
          case done =>
            rintro m₁ nw h1 tq1 ⟨h3t, ps, ds, c, c', tl, rfl, hsub, hoD, hol, hps, hds, e1, e2⟩ F2 N2
            w_top off
            have e10 : (ordL q9).take us.toArray.size = ordL q9 := by rw [husl]; exact List.take_of_length_le (by unfold ordL; simp)
            rw [e10] at hps hds
            rw [alN_all] at hps
            obtain ⟨aok, sok, hlet⟩ := last_facts (ms := ms) (q := q9) hw
            have F3 := fr_known F2 [(Str.ofString "due", .ref l9), (Str.ofString "given", .ref D3)] (by ((repeat (refine List.forall_mem_cons.mpr ⟨(by dsimp only; first | exact if_pos rfl | exact (if_neg (by decide +kernel)).trans (by first | with_reducible assumption | assumption) | (with_reducible assumption) | assumption), ?_⟩)); exact List.forall_mem_nil _))
            have hps1 := hps.letters hlet
            have kx := hsub _ hx6
            have kd := hsub _ hd6
            have hat : AtIn (fun _ t => t ≠ 0 ∧ @LT.lt Nat _ t tq1) w ((ordL q9).map fun t => (swN t, dueN (gof ms) t)) x9 D3 ps ((x9, instObj 302 d9) :: (d9, dictOf [ent w (Str.ofString "_headers") t9 (.ref D3)] 1) :: tl) := ⟨d9, t9, tl, rfl, hps1⟩
            have hfix : ∀ q ∈ (x9, instObj 302 d9) :: (d9, dictOf [ent w (Str.ofString "_headers") t9 (.ref D3)] 1) :: tl, q ∈ (l9, listOf ds.toArray c') :: tl :=
              List.forall_mem_cons.mpr ⟨List.mem_cons_of_mem _ kx, List.forall_mem_cons.mpr ⟨List.mem_cons_of_mem _ kd, fun q hq => List.mem_cons_of_mem _ hq⟩⟩
            have hoff : ∀ q ∈ (l9, listOf ds.toArray c') :: tl, q.1 ≠ D3 := List.forall_mem_cons.mpr ⟨hDl, hoD⟩
            generalize hAL : (ordL q9).map (fun t => (swN t, dueN (gof ms) t)) = AL at *
            clear F2 hps e10
            replace hc5 := hsub _ hc5
            replace hc4 := hsub _ hc4
            replace hc2 := hsub _ hc2
            replace hDm2 := hsub _ hDm2
            replace hzs := hzs.mono hsub
            have mark2 : TokB tq1 := ⟨trivial⟩
            have gok := goal_ok hw (gof_mem ms 0)
            have gi := gok.i
            have gj := gok.j
            have gk := gok.k
            have hcol : ColOk (ld way (gof ms 0).1 (gof ms 0).2.1) := col_ok hw (gof_mem ms 0)
            have y1 : (ld way (gof ms 0).1 (gof ms 0).2.1).length ≤ 100 := gok.l1
            have y2 : (Txt.lower (ld way (gof ms 0).1 (gof ms 0).2.1)).length ≤ 1000 := gok.ll
            have y3 : Refuses true (Txt.lower (ld way (gof ms 0).1 (gof ms 0).2.1)) := gok.r1
            have y4 : Refuses true (ld way (gof ms 0).1 (gof ms 0).2.1) := gok.r2
            (try dsimp only)
            repeat ((fail_if_success (with_reducible show wpAny _ _ (exec (Stmt.If _ _ _ _) _) _ _ _)); (first | (k_unfold; (try dsimp only)) | (k_end; wrow_close) | (first | ((fail_if_success (with_reducible refine' gd9 (t := eval _ _) ?_)); (first | (with_reducible (((fail_if_success (fail_if_success (with_reducible refine' gd9 (t := execs (_ :: _) _) ?_))); k_dflt (refine' execs_B ?zm9 ?zn9 ?_; (case zm9 => with_reducible assumption); (case zn9 => (try dsimp only); first | omega | assumption)); (try dsimp only)))) | (with_reducible (((fail_if_success (fail_if_success (with_reducible refine' gd9 (t := execs (_ :: _) _) ?_))); first | k_gentoks | ((with_reducible refine wpAny_execs_cons ?_); (try dsimp only))))) | (with_reducible (((with_reducible show (@LE.le Nat _ _ _) → _); intro hB9; (try dsimp only at hB9); revert hB9; intro _))) | (with_reducible (((fail_if_success (fail_if_success (with_reducible refine' gd9 (t := subscriptTail _ _ (Value.ref _) (Value.int 0 _)) ?_))); k_dflt (refine' tup_pick (t := 0) (by k_asm) (by k_mem) (by with_reducible assumption) (by exact rfl) (by decide) (by decide) ?_); intro _ _ _ _ _))) | (with_reducible (((fail_if_success (fail_if_success (with_reducible refine' gd9 (t := call (Value.ref 332) _) ?_))); k_dflt (refine' leads_c (by k_asm) (by k_asm) (by k_asm) (by k_asm) (by k_asm) (by first | rfl | assumption) (by ktr_room) (by ktr_units) (by k_mem) (by with_reducible assumption) (by with_reducible assumption) (by with_reducible assumption) (by with_reducible assumption) ?_); intro _ _ _ _ _ _ _ _; (try dsimp only); (try k_fold)))) )) | walk1) | ((with_reducible show wpAny _ _ _ _ _ _); dsimp only) | (leave1; walk_say "STEP leave1"; try dsimp only) | fail "no step"))
            w_top off
            (rename Fr _ _ _ _ => F9); (rename News _ _ _ _ => N9)
            have N4 : News _ _ _ ((D3, listOf ps.toArray c) :: (l9, listOf ds.toArray c') :: tl) := cb_drop N9 (by walk_at "sub")
            clear N9 N2
            have e0 : ([ld way (gof ms 0).1 (gof ms 0).2.1, ld way (gof ms 0).1 (gof ms 0).2.2].getD (Int.toNat 0) Str.empty) = ld way (gof ms 0).1 (gof ms 0).2.1 := rfl
            rw [e0] at F9
            clear e0
            repeat ((fail_if_success (with_reducible show wpAny _ _ (exec (Stmt.Assign _ _ _) _) _ _ _)); (first | (k_unfold; (try dsimp only)) | (k_end; wrow_close) | (first | ((fail_if_success (with_reducible refine' gd9 (t := eval _ _) ?_)); (first | (with_reducible (((fail_if_success (fail_if_success (with_reducible refine' gd9 (t := execs (_ :: _) _) ?_))); k_dflt (refine' execs_B ?zm9 ?zn9 ?_; (case zm9 => with_reducible assumption); (case zn9 => (try dsimp only); first | omega | assumption)); (try dsimp only)))) | (with_reducible (((fail_if_success (fail_if_success (with_reducible refine' gd9 (t := execs (_ :: _) _) ?_))); first | k_gentoks | ((with_reducible refine wpAny_execs_cons ?_); (try dsimp only))))) | (with_reducible (((with_reducible show (@LE.le Nat _ _ _) → _); intro hB9; (try dsimp only at hB9); revert hB9; intro _))) | ((fail_if_success (fail_if_success (with_reducible refine' gd9 (t := call _ _ _) ?_))); (first | (with_reducible (((fail_if_success (fail_if_success (with_reducible refine' gd9 (t := call (Value.ref 371) _) ?_))); k_dflt (refine' columns_c (by k_asm) (by k_asm) (by k_asm) (by k_asm) (by k_asm) (by first | rfl | assumption) (by ktr_room) (by ktr_units) (by with_reducible assumption) ?_); intro _ _ _ _; (try dsimp only); (try k_fold)))) | (with_reducible (((fail_if_success (fail_if_success (with_reducible refine' gd9 (t := call (Value.ref 378) _) ?_))); k_dflt (refine' kept_c (by k_asm) (by k_asm) (by k_asm) (by k_asm) (by k_asm) (by first | rfl | assumption) (by with_reducible assumption) (by with_reducible assumption) (by ktr_room) (by ktr_units) (by with_reducible assumption) (by first | with_reducible assumption | walk_at "sub") (by with_reducible assumption) (by with_reducible assumption) (by with_reducible assumption) (by with_reducible assumption) (by with_reducible assumption) (by with_reducible assumption) ?_); intro _ _ _ _; (try dsimp only); (try k_fold)))) | (with_reducible (((fail_if_success (fail_if_success (with_reducible refine' gd9 (t := call (Value.ref 266) _) ?_))); k_dflt (refine' items_c (by k_asm) (by k_asm) (by k_asm) (by k_asm) (by k_asm) (by first | rfl | assumption) (by ktr_room) (by ktr_units) (by with_reducible assumption) (by first | with_reducible assumption | walk_at "sub") (by with_reducible assumption) (by with_reducible assumption) ?_); intro _ _ _ _ _ _ _; (try dsimp only); (try k_fold)))) )) | (with_reducible (((fail_if_success (fail_if_success (with_reducible refine' gd9 (t := compareOp CmpOp.NotEq (Value.ref _) (Value.ref _)) ?_))); k_dflt (refine' pairs_ne (by k_asm) (by k_mem) (by k_mem) (by with_reducible assumption) (by with_reducible assumption) (by walk_at "sub") (by walk_at "sub") (by with_reducible assumption) (by ktr_units) ?_); (try dsimp only)))) )) | walk1) | ((with_reducible show wpAny _ _ _ _ _ _); dsimp only) | (leave1; walk_say "STEP leave1"; try dsimp only) | fail "no step"))
            w_top off
            (rename Fr _ _ _ _ => F9); (rename News _ _ _ _ => N9)
            have N5 : News _ _ _ ((D3, listOf ps.toArray c) :: (l9, listOf ds.toArray c') :: tl) := cb_drop N9 (by walk_at "sub")
            clear N9
            k_dflt (refine compT_assign (F₀ := F9) (by rfl) (by with_unfolding_all rfl) (by with_unfolding_all rfl) (by decide) (by rfl) (by decide) (by rfl) (by rfl) (by rfl) ?_)
            (repeat' (first | (k_unfold; (try dsimp only)) | (k_end; wrow_close) | (first | ((fail_if_success (with_reducible refine' gd9 (t := eval _ _) ?_)); (first | (with_reducible (((fail_if_success (fail_if_success (with_reducible refine' gd9 (t := execs (_ :: _) _) ?_))); k_dflt (refine' execs_B ?zm9 ?zn9 ?_; (case zm9 => with_reducible assumption); (case zn9 => (try dsimp only); first | omega | assumption)); (try dsimp only)))) | (with_reducible (((fail_if_success (fail_if_success (with_reducible refine' gd9 (t := execs (_ :: _) _) ?_))); first | k_gentoks | ((with_reducible refine wpAny_execs_cons ?_); (try dsimp only))))) | (with_reducible (((with_reducible show (@LE.le Nat _ _ _) → _); intro hB9; (try dsimp only at hB9); revert hB9; intro _))) | (with_reducible (((fail_if_success (fail_if_success (with_reducible refine' gd9 (t := compareOp CmpOp.NotEq (Value.ref _) (Value.ref _)) ?_))); k_dflt (refine' pairs_ne (by k_asm) (by k_mem) (by k_mem) (by with_reducible assumption) (by with_reducible assumption) (by walk_at "sub") (by walk_at "sub") (by with_reducible assumption) (by ktr_units) ?_); (try dsimp only)))) | (with_reducible (((fail_if_success (fail_if_success (with_reducible refine' gd9 (t := compareOp CmpOp.NotEq (Value.ref _) (Value.ref _)) ?_))); k_dflt (refine ne_dataH (by ked_read) (by ked_read) (by ked_shaped) (by ked_shaped) (by ktr_units) ?_); ked_norm))) | (with_reducible (((fail_if_success (fail_if_success (with_reducible refine' gd9 (t := call (Value.ref 150) _) ?_))); k_dflt (refine' contains_b (by k_asm) (by k_asm) (by k_asm) (by k_asm) (by k_asm) (by first | rfl | assumption) (by ktr_room) (by ktr_units) (by with_reducible assumption) (by first | with_reducible assumption | walk_at "sub") (by with_reducible assumption) (by with_reducible assumption) (by with_reducible assumption) (by with_reducible assumption) (by with_reducible assumption) (by with_reducible assumption) ?_); intro _ _ _ _; (try dsimp only); (try k_fold)))) )) | walk1) | ((with_reducible show wpAny _ _ _ _ _ _); dsimp only) | (leave1; walk_say "STEP leave1"; try dsimp only) | fail "no step"))
            rename Addr => ln
            (rename Fr _ _ _ _ => F7); (rename News _ _ _ _ => N7); (rename _ ∧ _ ∧ AllLt _ tl => l57)
            obtain ⟨l571, l572, l573⟩ := l57
            have l57t := allLt_mem l573
            k_dflt (refine CSrcT.of (iter_list rfl N7 List.mem_cons_self) F7 N7 List.mem_cons_self (by simp only [List.size_toArray]; exact Nat.le_of_ble_eq_true rfl) fun _ => restT_inv (K := Array.size _) (fun c ys nw => nw = _ ∧ ys = []) ?step ?fin _ _ _ _ (Nat.zero_add _) ⟨rfl, rfl⟩)
            case step =>
              rintro e v I oI C oC D' ys' nw m₂ h tq Q' Q₀ E' he hv ⟨rfl, rfl⟩ hC hx F6 N6 off ne hQ hQ0
              obtain ⟨nx, ux, rfl, hnx⟩ : ∃ nx ux, v = .str nx ux ∧ nx ∈ oddNames := by
                rcases e with _ | _ | _ | e
                · cases hv; exact ⟨_, _, rfl, by simp [oddNames]⟩
                · cases hv; exact ⟨_, _, rfl, by simp [oddNames]⟩
                · cases hv; exact ⟨_, _, rfl, by simp [oddNames]⟩
                · cases hv
              clear hv
              obtain ⟨z1, z2, z3, z4⟩ := odd_facts (g := gof ms) (q := q9) nx hnx
              rw [hAL] at z4
              have z5 : (getF AL nx).isSome = false := by rw [z4]; rfl
              obtain ⟨o1, o2, o3⟩ := off.mem _ (List.mem_cons_of_mem _ List.mem_cons_self)
              obtain ⟨tr, N3, htr, hr⟩ := news_at N6 (l := D3) (o := listOf ps.toArray c) (by simp)
              simp only [List.forall_mem_cons] at hr
              obtain ⟨r1, r2, r3, r4, _, r5, r6⟩ := hr
              replace r1 := r1 (Ne.symm o1)
              replace r2 := r2 (Ne.symm o2)
              replace r3 := r3 (Ne.symm o3)
              replace r4 := r4 (Nat.ne_of_gt l571)
              replace r5 := r5 hDl
              replace r6 := fun q hq => r6 q hq (hoD q hq)
              have hfix3 : ∀ q ∈ (x9, instObj 302 d9) :: (d9, dictOf [ent w (Str.ofString "_headers") t9 (.ref D3)] 1) :: tl, q ∈ tr := List.forall_mem_cons.mpr ⟨r6 _ kx, List.forall_mem_cons.mpr ⟨r6 _ kd, r6⟩⟩
              have hc53 := r6 _ hc5
              clear N6
              clear z4
              (repeat' (first | (k_unfold; (try dsimp only)) | (k_end; wrow_close) | (first | ((fail_if_success (with_reducible refine' gd9 (t := eval _ _) ?_)); (first | (with_reducible (((fail_if_success (fail_if_success (with_reducible refine' gd9 (t := execs (_ :: _) _) ?_))); k_dflt (refine' execs_B ?zm9 ?zn9 ?_; (case zm9 => with_reducible assumption); (case zn9 => (try dsimp only); first | omega | assumption)); (try dsimp only)))) | (with_reducible (((fail_if_success (fail_if_success (with_reducible refine' gd9 (t := execs (_ :: _) _) ?_))); first | k_gentoks | ((with_reducible refine wpAny_execs_cons ?_); (try dsimp only))))) | (with_reducible (((with_reducible show (@LE.le Nat _ _ _) → _); intro hB9; (try dsimp only at hB9); revert hB9; intro _))) | (with_reducible (((fail_if_success (fail_if_success (with_reducible refine' gd9 (t := compareOp CmpOp.NotEq (Value.ref _) (Value.ref _)) ?_))); k_dflt (refine' pairs_ne (by k_asm) (by k_mem) (by k_mem) (by with_reducible assumption) (by with_reducible assumption) (by walk_at "sub") (by walk_at "sub") (by with_reducible assumption) (by ktr_units) ?_); (try dsimp only)))) | (with_reducible (((fail_if_success (fail_if_success (with_reducible refine' gd9 (t := compareOp CmpOp.NotEq (Value.ref _) (Value.ref _)) ?_))); k_dflt (refine ne_dataH (by ked_read) (by ked_read) (by ked_shaped) (by ked_shaped) (by ktr_units) ?_); ked_norm))) | (with_reducible (((fail_if_success (fail_if_success (with_reducible refine' gd9 (t := call (Value.ref 150) _) ?_))); k_dflt (refine' contains_b (by k_asm) (by k_asm) (by k_asm) (by k_asm) (by k_asm) (by first | rfl | assumption) (by ktr_room) (by ktr_units) (by with_reducible assumption) (by first | with_reducible assumption | walk_at "sub") (by with_reducible assumption) (by with_reducible assumption) (by with_reducible assumption) (by with_reducible assumption) (by with_reducible assumption) (by with_reducible assumption) ?_); intro _ _ _ _; (try dsimp only); (try k_fold)))) )) | walk1) | ((with_reducible show wpAny _ _ _ _ _ _); dsimp only) | (leave1; walk_say "STEP leave1"; try dsimp only) | fail "no step"))
              (rename Fr _ _ _ _ => F5); (rename News _ _ _ _ => N5')
              exact hQ0 _ _ _ F5 (cb_drop N5' (List.forall_mem_cons.mpr ⟨List.mem_cons_of_mem _ r1, List.forall_mem_cons.mpr ⟨List.mem_cons_of_mem _ r2, List.forall_mem_cons.mpr ⟨List.mem_cons_of_mem _ r3, List.forall_mem_cons.mpr ⟨List.mem_cons_of_mem _ r4, List.forall_mem_cons.mpr ⟨List.mem_cons_self, List.forall_mem_cons.mpr ⟨List.mem_cons_of_mem _ r5, fun q hq => List.mem_cons_of_mem _ (r6 q hq)⟩⟩⟩⟩⟩⟩)) off List.mem_cons_self ⟨rfl, rfl⟩
            case fin =>
              rintro ys' nw ⟨rfl, rfl⟩ Ds h tq F6 N6 ⟨_, oD, _⟩
              have hDs : @Ne Nat D3 Ds := oD
              clear N7
              have N5' : News _ _ _ ((D3, listOf ps.toArray c) :: (Ds, LCg.lst []) :: (l9, listOf ds.toArray c') :: tl) := cb_drop N6 (by walk_at "sub")
              clear N6
              (try dsimp only)
              repeat ((fail_if_success (with_reducible show wpAny _ _ (call (Value.ref 150) _) _ _ _)); (first | (k_unfold; (try dsimp only)) | (k_end; wrow_close) | (first | ((fail_if_success (with_reducible refine' gd9 (t := eval _ _) ?_)); (first | (with_reducible (((fail_if_success (fail_if_success (with_reducible refine' gd9 (t := execs (_ :: _) _) ?_))); k_dflt (refine' execs_B ?zm9 ?zn9 ?_; (case zm9 => with_reducible assumption); (case zn9 => (try dsimp only); first | omega | assumption)); (try dsimp only)))) | (with_reducible (((fail_if_success (fail_if_success (with_reducible refine' gd9 (t := execs (_ :: _) _) ?_))); first | k_gentoks | ((with_reducible refine wpAny_execs_cons ?_); (try dsimp only))))) | (with_reducible (((with_reducible show (@LE.le Nat _ _ _) → _); intro hB9; (try dsimp only at hB9); revert hB9; intro _))) | (with_reducible (((fail_if_success (fail_if_success (with_reducible refine' gd9 (t := compareOp CmpOp.NotEq (Value.ref _) (Value.ref _)) ?_))); k_dflt (refine' pairs_ne (by k_asm) (by k_mem) (by k_mem) (by with_reducible assumption) (by with_reducible assumption) (by walk_at "sub") (by walk_at "sub") (by with_reducible assumption) (by ktr_units) ?_); (try dsimp only)))) | (with_reducible (((fail_if_success (fail_if_success (with_reducible refine' gd9 (t := compareOp CmpOp.NotEq (Value.ref _) (Value.ref _)) ?_))); k_dflt (refine ne_dataH (by ked_read) (by ked_read) (by ked_shaped) (by ked_shaped) (by ktr_units) ?_); ked_norm))) | (with_reducible (((fail_if_success (fail_if_success (with_reducible refine' gd9 (t := call (Value.ref 150) _) ?_))); k_dflt (refine' contains_b (by k_asm) (by k_asm) (by k_asm) (by k_asm) (by k_asm) (by first | rfl | assumption) (by ktr_room) (by ktr_units) (by with_reducible assumption) (by first | with_reducible assumption | walk_at "sub") (by with_reducible assumption) (by with_reducible assumption) (by with_reducible assumption) (by with_reducible assumption) (by with_reducible assumption) (by with_reducible assumption) ?_); intro _ _ _ _; (try dsimp only); (try k_fold)))) )) | walk1) | ((with_reducible show wpAny _ _ _ _ _ _); dsimp only) | (leave1; walk_say "STEP leave1"; try dsimp only) | fail "no step"))
              w_top off
              (rename Fr _ _ _ _ => F9); (rename News _ _ _ _ => N9)
              have N6 : News _ _ _ ((D3, listOf ps.toArray c) :: (l9, listOf ds.toArray c') :: tl) := cb_drop N9 (by walk_at "sub")
              clear N9
              obtain ⟨z1, z2, z3, z4⟩ := abc_facts (g := gof ms) (q := q9)
              rw [hAL] at z4
              have z5 : (getF AL (Str.ofString "aBc")).isSome = true := by rw [z4]; rfl
              clear z4
              have hro := rooms_ok (g := gof ms) (fun t _ => gof_mem ms t) (q := q9)
              rw [hAL] at hro
              obtain ⟨f, hcnt, hf9, hfs, hfp⟩ := end_facts (ms := ms)
              repeat ((fail_if_success (with_reducible show wpAny _ _ (call (Value.ref 366) _) _ _ _)); (first | (k_unfold; (try dsimp only)) | (k_end; wrow_close) | (first | ((fail_if_success (with_reducible refine' gd9 (t := eval _ _) ?_)); (first | (with_reducible (((fail_if_success (fail_if_success (with_reducible refine' gd9 (t := execs (_ :: _) _) ?_))); k_dflt (refine' execs_B ?zm9 ?zn9 ?_; (case zm9 => with_reducible assumption); (case zn9 => (try dsimp only); first | omega | assumption)); (try dsimp only)))) | (with_reducible (((fail_if_success (fail_if_success (with_reducible refine' gd9 (t := execs (_ :: _) _) ?_))); first | k_gentoks | ((with_reducible refine wpAny_execs_cons ?_); (try dsimp only))))) | (with_reducible (((with_reducible show (@LE.le Nat _ _ _) → _); intro hB9; (try dsimp only at hB9); revert hB9; intro _))) | (with_reducible (((fail_if_success (fail_if_success (with_reducible refine' gd9 (t := compareOp CmpOp.NotEq (Value.ref _) (Value.ref _)) ?_))); k_dflt (refine ne_dataH (by ked_read) (by ked_read) (by ked_shaped) (by ked_shaped) (by ktr_units) ?_); ked_norm))) | ((fail_if_success (fail_if_success (with_reducible refine' gd9 (t := call _ _ _) ?_))); (first | (with_reducible (((fail_if_success (fail_if_success (with_reducible refine' gd9 (t := call (Value.ref 150) _) ?_))); k_dflt (refine' contains_b (by k_asm) (by k_asm) (by k_asm) (by k_asm) (by k_asm) (by first | rfl | assumption) (by ktr_room) (by ktr_units) (by with_reducible assumption) (by first | with_reducible assumption | walk_at "sub") (by with_reducible assumption) (by with_reducible assumption) (by with_reducible assumption) (by with_reducible assumption) (by with_reducible assumption) (by with_reducible assumption) ?_); intro _ _ _ _; (try dsimp only); (try k_fold)))) | (with_reducible (((fail_if_success (fail_if_success (with_reducible refine' gd9 (t := call (Value.ref 366) _) ?_))); k_dflt (refine' counted_c (by k_asm) (by k_asm) (by k_asm) (by k_asm) (by k_asm) (by first | rfl | assumption) (by ktr_room) (by ktr_units) (by with_reducible assumption) (by first | with_reducible assumption | walk_at "sub") (by with_reducible assumption) (by with_reducible assumption) (by (try dsimp only); omega) (by with_reducible assumption) ?_); intro _ _ _ _ _ _ _ _ _; (try dsimp only); (try k_fold)))) )) )) | walk1) | ((with_reducible show wpAny _ _ _ _ _ _); dsimp only) | (leave1; walk_say "STEP leave1"; try dsimp only) | fail "no step"))
              (first | (k_unfold; (try dsimp only)) | (k_end; wrow_close) | (first | ((fail_if_success (with_reducible refine' gd9 (t := eval _ _) ?_)); (first | (with_reducible (((fail_if_success (fail_if_success (with_reducible refine' gd9 (t := execs (_ :: _) _) ?_))); k_dflt (refine' execs_B ?zm9 ?zn9 ?_; (case zm9 => with_reducible assumption); (case zn9 => (try dsimp only); first | omega | assumption)); (try dsimp only)))) | (with_reducible (((fail_if_success (fail_if_success (with_reducible refine' gd9 (t := execs (_ :: _) _) ?_))); first | k_gentoks | ((with_reducible refine wpAny_execs_cons ?_); (try dsimp only))))) | (with_reducible (((with_reducible show (@LE.le Nat _ _ _) → _); intro hB9; (try dsimp only at hB9); revert hB9; intro _))) | (with_reducible (((fail_if_success (fail_if_success (with_reducible refine' gd9 (t := compareOp CmpOp.NotEq (Value.ref _) (Value.ref _)) ?_))); k_dflt (refine ne_dataH (by ked_read) (by ked_read) (by ked_shaped) (by ked_shaped) (by ktr_units) ?_); ked_norm))) | ((fail_if_success (fail_if_success (with_reducible refine' gd9 (t := call _ _ _) ?_))); (first | (with_reducible (((fail_if_success (fail_if_success (with_reducible refine' gd9 (t := call (Value.ref 150) _) ?_))); k_dflt (refine' contains_b (by k_asm) (by k_asm) (by k_asm) (by k_asm) (by k_asm) (by first | rfl | assumption) (by ktr_room) (by ktr_units) (by with_reducible assumption) (by first | with_reducible assumption | walk_at "sub") (by with_reducible assumption) (by with_reducible assumption) (by with_reducible assumption) (by with_reducible assumption) (by with_reducible assumption) (by with_reducible assumption) ?_); intro _ _ _ _; (try dsimp only); (try k_fold)))) | (with_reducible (((fail_if_success (fail_if_success (with_reducible refine' gd9 (t := call (Value.ref 366) _) ?_))); k_dflt (refine' counted_c (by k_asm) (by k_asm) (by k_asm) (by k_asm) (by k_asm) (by first | rfl | assumption) (by ktr_room) (by ktr_units) (by with_reducible assumption) (by first | with_reducible assumption | walk_at "sub") (by with_reducible assumption) (by with_reducible assumption) (by (try dsimp only); omega) (by with_reducible assumption) ?_); intro _ _ _ _ _ _ _ _ _; (try dsimp only); (try k_fold)))) )) )) | walk1) | ((with_reducible show wpAny _ _ _ _ _ _); dsimp only) | (leave1; walk_say "STEP leave1"; try dsimp only) | fail "no step")
              (rename Fr _ _ _ _ => F8); (rename News _ _ _ _ => N8)
              rw [hcnt] at N8
              dsimp only at N8
              clear hro hcnt
              repeat ((fail_if_success (with_reducible show wpAny _ _ (exec (Stmt.If _ _ _ _) _) _ _ _)); (first | (k_unfold; (try dsimp only)) | (k_end; wrow_close) | (first | ((fail_if_success (with_reducible refine' gd9 (t := eval _ _) ?_)); (first | (with_reducible (((fail_if_success (fail_if_success (with_reducible refine' gd9 (t := execs (_ :: _) _) ?_))); k_dflt (refine' execs_B ?zm9 ?zn9 ?_; (case zm9 => with_reducible assumption); (case zn9 => (try dsimp only); first | omega | assumption)); (try dsimp only)))) | (with_reducible (((fail_if_success (fail_if_success (with_reducible refine' gd9 (t := execs (_ :: _) _) ?_))); first | k_gentoks | ((with_reducible refine wpAny_execs_cons ?_); (try dsimp only))))) | (with_reducible (((with_reducible show (@LE.le Nat _ _ _) → _); intro hB9; (try dsimp only at hB9); revert hB9; intro _))) | (with_reducible (((fail_if_success (fail_if_success (with_reducible refine' gd9 (t := compareOp CmpOp.NotEq (Value.ref _) (Value.ref _)) ?_))); k_dflt (refine ne_dataH (by ked_read) (by ked_read) (by ked_shaped) (by ked_shaped) (by ktr_units) ?_); ked_norm))) | ((fail_if_success (fail_if_success (with_reducible refine' gd9 (t := call _ _ _) ?_))); (first | (with_reducible (((fail_if_success (fail_if_success (with_reducible refine' gd9 (t := call (Value.ref 150) _) ?_))); k_dflt (refine' contains_b (by k_asm) (by k_asm) (by k_asm) (by k_asm) (by k_asm) (by first | rfl | assumption) (by ktr_room) (by ktr_units) (by with_reducible assumption) (by first | with_reducible assumption | walk_at "sub") (by with_reducible assumption) (by with_reducible assumption) (by with_reducible assumption) (by with_reducible assumption) (by with_reducible assumption) (by with_reducible assumption) ?_); intro _ _ _ _; (try dsimp only); (try k_fold)))) | (with_reducible (((fail_if_success (fail_if_success (with_reducible refine' gd9 (t := call (Value.ref 366) _) ?_))); k_dflt (refine' counted_c (by k_asm) (by k_asm) (by k_asm) (by k_asm) (by k_asm) (by first | rfl | assumption) (by ktr_room) (by ktr_units) (by with_reducible assumption) (by first | with_reducible assumption | walk_at "sub") (by with_reducible assumption) (by with_reducible assumption) (by (try dsimp only); omega) (by with_reducible assumption) ?_); intro _ _ _ _ _ _ _ _ _; (try dsimp only); (try k_fold)))) )) )) | walk1) | ((with_reducible show wpAny _ _ _ _ _ _); dsimp only) | (leave1; walk_say "STEP leave1"; try dsimp only) | fail "no step"))
              w_top off
              obtain ⟨fl1, fl2, fl3⟩ := found_len hf9
              have hne : (Txt.mul (Str.ofString "\"") ((f : Int).fdiv 2) != Txt.mul (Str.ofString "\"") ((f : Int).fdiv 2)) = false := by simp
              have hf0 : (0 : Int) ≤ (f : Int) ∧ (f : Int) ≤ 9 := by omega
              repeat ((fail_if_success (with_reducible show wpAny _ _ (exec (Stmt.Return _ _) _) _ _ _)); (first | (k_unfold; (try dsimp only)) | (k_end; wrow_close) | (first | ((fail_if_success (with_reducible refine' gd9 (t := eval _ _) ?_)); (first | (with_reducible (((fail_if_success (fail_if_success (with_reducible refine' gd9 (t := execs (_ :: _) _) ?_))); k_dflt (refine' execs_B ?zm9 ?zn9 ?_; (case zm9 => with_reducible assumption); (case zn9 => (try dsimp only); first | omega | assumption)); (try dsimp only)))) | (with_reducible (((fail_if_success (fail_if_success (with_reducible refine' gd9 (t := execs (_ :: _) _) ?_))); first | k_gentoks | ((with_reducible refine wpAny_execs_cons ?_); (try dsimp only))))) | (with_reducible (((with_reducible show (@LE.le Nat _ _ _) → _); intro hB9; (try dsimp only at hB9); revert hB9; intro _))) | (with_reducible (((fail_if_success (fail_if_success (with_reducible refine' gd9 (t := call (Value.ref 136) _) ?_))); k_dflt (refine' parse_e (by k_asm) (by k_asm) (by k_asm) (by k_asm) (by k_asm) (by first | rfl | assumption) (by ktr_room) (by ktr_units) (by first | with_reducible assumption | omega) (by with_reducible assumption) (by with_reducible assumption) ?_); intro _ _ _ _ _; (try dsimp only); (try k_fold)))) )) | walk1) | ((with_reducible show wpAny _ _ _ _ _ _); dsimp only) | (leave1; walk_say "STEP leave1"; try dsimp only) | fail "no step"))
              w_top off
              clear fl1 fl2 fl3 hne hf0 hfs hfp hf9
              repeat (rename ((_ : Int) < 0 → _ = 0) => cA; clear cA)
              repeat (rename (0 ≤ _ → _ = _ * _) => cB; clear cB)
              repeat (rename (_ + _ ≤ _ ∧ _) => cC; clear cC)
              repeat ((fail_if_success (with_reducible show wpAny _ _ (call (Value.ref 356) _) _ _ _)); (first | (k_unfold; (try dsimp only)) | (k_end; wrow_close) | (first | ((fail_if_success (with_reducible refine' gd9 (t := eval _ _) ?_)); (first | (with_reducible (((fail_if_success (fail_if_success (with_reducible refine' gd9 (t := execs (_ :: _) _) ?_))); k_dflt (refine' execs_B ?zm9 ?zn9 ?_; (case zm9 => with_reducible assumption); (case zn9 => (try dsimp only); first | omega | assumption)); (try dsimp only)))) | (with_reducible (((fail_if_success (fail_if_success (with_reducible refine' gd9 (t := execs (_ :: _) _) ?_))); first | k_gentoks | ((with_reducible refine wpAny_execs_cons ?_); (try dsimp only))))) | (with_reducible (((with_reducible show (@LE.le Nat _ _ _) → _); intro hB9; (try dsimp only at hB9); revert hB9; intro _))) | ((fail_if_success (fail_if_success (with_reducible refine' gd9 (t := call _ _ _) ?_))); (first | (with_reducible (((fail_if_success (fail_if_success (with_reducible refine' gd9 (t := call (Value.ref 136) _) ?_))); k_dflt (refine' parse_e (by k_asm) (by k_asm) (by k_asm) (by k_asm) (by k_asm) (by first | rfl | assumption) (by ktr_room) (by ktr_units) (by first | with_reducible assumption | omega) (by with_reducible assumption) (by with_reducible assumption) ?_); intro _ _ _ _ _; (try dsimp only); (try k_fold)))) | (with_reducible (((fail_if_success (fail_if_success (with_reducible refine' gd9 (t := call (Value.ref 383) _) ?_))); k_dflt (refine' refused_c (by k_asm) (by k_asm) (by k_asm) (by k_asm) (by k_asm) (by first | rfl | assumption) (by with_reducible assumption) (by with_reducible assumption) (by ktr_room) (by ktr_units) ?_); intro _ _ _ _; (try dsimp only); (try k_fold)))) )) )) | walk1) | ((with_reducible show wpAny _ _ _ _ _ _); dsimp only) | (leave1; walk_say "STEP leave1"; try dsimp only) | fail "no step"))
              k_dflt (refine' text_c (xs := [Str.ofString "a", Str.ofString "b", Str.ofString "c"]) ?h5b ?h5f ?h5x ?h5n ?h5t ?h5k ?h5d ?h5u ?h5l ?h5h (Nat.le_refl _) (by decide) ?_; (case h5b => k_asm); (case h5f => k_asm); (case h5x => k_asm); (case h5n => k_asm); (case h5t => k_asm); (case h5k => first | rfl | assumption); (case h5d => ktr_room); (case h5u => ktr_units); (case h5l => exact List.mem_cons_self); (case h5h => exact .cons (Nat.succ_ne_zero _) (by dsimp only; omega) (.cons (Nat.succ_ne_zero _) (by dsimp only; omega) (.cons (Nat.succ_ne_zero _) (by dsimp only; omega) .nil))))
              intro x10 t10 h10 tk10 hx10 F10 N10
              obtain rfl : x10 = Str.ofString "\"\"a\"\"b\"\"c" := hx10.trans (by decide +kernel)
              clear hx10
              (try dsimp only)
              repeat ((fail_if_success (with_reducible show wpAny _ _ (call (Value.ref 383) _) _ _ _)); (first | (k_unfold; (try dsimp only)) | (k_end; wrow_close) | (first | ((fail_if_success (with_reducible refine' gd9 (t := eval _ _) ?_)); (first | (with_reducible (((fail_if_success (fail_if_success (with_reducible refine' gd9 (t := execs (_ :: _) _) ?_))); k_dflt (refine' execs_B ?zm9 ?zn9 ?_; (case zm9 => with_reducible assumption); (case zn9 => (try dsimp only); first | omega | assumption)); (try dsimp only)))) | (with_reducible (((fail_if_success (fail_if_success (with_reducible refine' gd9 (t := execs (_ :: _) _) ?_))); first | k_gentoks | ((with_reducible refine wpAny_execs_cons ?_); (try dsimp only))))) | (with_reducible (((with_reducible show (@LE.le Nat _ _ _) → _); intro hB9; (try dsimp only at hB9); revert hB9; intro _))) | ((fail_if_success (fail_if_success (with_reducible refine' gd9 (t := call _ _ _) ?_))); (first | (with_reducible (((fail_if_success (fail_if_success (with_reducible refine' gd9 (t := call (Value.ref 136) _) ?_))); k_dflt (refine' parse_e (by k_asm) (by k_asm) (by k_asm) (by k_asm) (by k_asm) (by first | rfl | assumption) (by ktr_room) (by ktr_units) (by first | with_reducible assumption | omega) (by with_reducible assumption) (by with_reducible assumption) ?_); intro _ _ _ _ _; (try dsimp only); (try k_fold)))) | (with_reducible (((fail_if_success (fail_if_success (with_reducible refine' gd9 (t := call (Value.ref 383) _) ?_))); k_dflt (refine' refused_c (by k_asm) (by k_asm) (by k_asm) (by k_asm) (by k_asm) (by first | rfl | assumption) (by with_reducible assumption) (by with_reducible assumption) (by ktr_room) (by ktr_units) ?_); intro _ _ _ _; (try dsimp only); (try k_fold)))) )) )) | walk1) | ((with_reducible show wpAny _ _ _ _ _ _); dsimp only) | (leave1; walk_say "STEP leave1"; try dsimp only) | fail "no step"))
              rw [show Str.ofString " \"" ++ Str.ofString "\"\"a\"\"b\"\"c" ++ Str.ofString "\"" = Str.ofString " \"\"\"a\"\"b\"\"c\"" by decide +kernel]
              (repeat' (first | (k_unfold; (try dsimp only)) | (k_end; wrow_close) | (first | ((fail_if_success (with_reducible refine' gd9 (t := eval _ _) ?_)); (first | (with_reducible (((fail_if_success (fail_if_success (with_reducible refine' gd9 (t := execs (_ :: _) _) ?_))); k_dflt (refine' execs_B ?zm9 ?zn9 ?_; (case zm9 => with_reducible assumption); (case zn9 => (try dsimp only); first | omega | assumption)); (try dsimp only)))) | (with_reducible (((fail_if_success (fail_if_success (with_reducible refine' gd9 (t := execs (_ :: _) _) ?_))); first | k_gentoks | ((with_reducible refine wpAny_execs_cons ?_); (try dsimp only))))) | (with_reducible (((with_reducible show (@LE.le Nat _ _ _) → _); intro hB9; (try dsimp only at hB9); revert hB9; intro _))) | ((fail_if_success (fail_if_success (with_reducible refine' gd9 (t := call _ _ _) ?_))); (first | (with_reducible (((fail_if_success (fail_if_success (with_reducible refine' gd9 (t := call (Value.ref 136) _) ?_))); k_dflt (refine' parse_e (by k_asm) (by k_asm) (by k_asm) (by k_asm) (by k_asm) (by first | rfl | assumption) (by ktr_room) (by ktr_units) (by first | with_reducible assumption | omega) (by with_reducible assumption) (by with_reducible assumption) ?_); intro _ _ _ _ _; (try dsimp only); (try k_fold)))) | (with_reducible (((fail_if_success (fail_if_success (with_reducible refine' gd9 (t := call (Value.ref 383) _) ?_))); k_dflt (refine' refused_c (by k_asm) (by k_asm) (by k_asm) (by k_asm) (by k_asm) (by first | rfl | assumption) (by with_reducible assumption) (by with_reducible assumption) (by ktr_room) (by ktr_units) ?_); intro _ _ _ _; (try dsimp only); (try k_fold)))) )) )) | walk1) | ((with_reducible show wpAny _ _ _ _ _ _); dsimp only) | (leave1; walk_say "STEP leave1"; try dsimp only) | fail "no step"))
  )
theorem law_top.tw3325022684642668259 : True := trivial
theorem law_top.tw12102968378589485275 : True := trivial
theorem law_top.tw16015210577307217410 : True := trivial
theorem law_top.tw17350786945397538961 : True := trivial
theorem law_top.tw2377461937612088731 : True := trivial
theorem law_top.tw16530149456418654567 : True := trivial
theorem law_top.tw2551026806068903253 : True := trivial
theorem law_top.tw6471040826943041920 : True := trivial
theorem law_top.tw15845697462293055849 : True := trivial
theorem law_top.tw13855963668613252733 : True := trivial
theorem law_top.tw14553373822291071444 : True := trivial
theorem law_top.tw8050698341149000260 : True := trivial
theorem law_top.tw2134200140244523075 : True := trivial
theorem law_top.tw16284115496067102983 : True := trivial
theorem law_top.tw11059356322159349947 : True := trivial
theorem law_top.tw9839062428633673302 : True := trivial
theorem law_top.tw13659147128540729726 : True := trivial
theorem law_top.tw15589665210797234449 : True := trivial
theorem law_top.tw1455111503312827053 : True := trivial
theorem law_top.tw4585584035230390258 : True := trivial
theorem law_top.tw10475294146692090002 : True := trivial
theorem law_top.tw17046178271613295710 : True := trivial
theorem law_top.tw16476508229721588471 : True := trivial
theorem law_top.tw10719036561571329166 : True := trivial
theorem law_top.tw1323582397888939860 : True := trivial
theorem law_top.tw634574818028919588 : True := trivial
theorem law_top.tw1592732566562449324 : True := trivial
theorem law_top.tw3009278289460092084 : True := trivial
theorem law_top.tw16011385337504957265 : True := trivial
theorem law_top.tw9557719340717056711 : True := trivial
theorem law_top.tw2308107572024282938 : True := trivial
theorem law_top.tw8516433308118453871 : True := trivial
theorem law_top.tw685561681934666333 : True := trivial
theorem law_top.tw9957003816286509604 : True := trivial
theorem law_top.tw4606098849824373401 : True := trivial
theorem law_top.tw14829795233225338502 : True := trivial
theorem law_top.tw17502340256454306594 : True := trivial
theorem law_top.tw15702380943630261627 : True := trivial
theorem law_top.tw2633882365610104606 : True := trivial
theorem law_top.tw12602365290385799353 : True := trivial
theorem law_top.tw15388842215610564110 : True := trivial
theorem law_top.tw14647935385283234780 : True := trivial
theorem law_top.tw5514729965730758136 : True := trivial
theorem law_top.tw12776723702932448968 : True := trivial
theorem law_top.tw2547710054892780505 : True := trivial
theorem law_top.tw5240726151193950201 : True := trivial
theorem law_top.tw16516210430033194362 : True := trivial
theorem law_top.tw14001335554848197737 : True := trivial
theorem law_top.tw10469815395109855235 : True := trivial
theorem law_top.tw17329697038813146518 : True := trivial
theorem law_top.tw7002399741392485577 : True := trivial
theorem law_top.tw17988802224992368673 : True := trivial
theorem law_top.tw17731666127163966278 : True := trivial
theorem law_top.tw9342262709159301780 : True := trivial
theorem law_top.tw16709850901856870852 : True := trivial
theorem law_top.tw10765115190881971295 : True := trivial
theorem law_top.tw6571784266805931033 : True := trivial
theorem law_top.tw13582340437607092811 : True := trivial
theorem law_top.tw16081548734244299714 : True := trivial
theorem law_top.tw15105108717362300603 : True := trivial
theorem law_top.tw6724316741307009197 : True := trivial
theorem law_top.tw6384960801885577542 : True := trivial
theorem law_top.tw6070017487487633747 : True := trivial
theorem law_top.tw9468661570276474469 : True := trivial
theorem law_top.tw9943684967944149986 : True := trivial
theorem law_top.tw10489098864946930052 : True := trivial
theorem law_top.tw14189308399692197150 : True := trivial
theorem law_top.tw13228342259113395580 : True := trivial
theorem law_top.tw11809977876830235757 : True := trivial
theorem law_top.tw3976942689657049767 : True := trivial
theorem law_top.tw13629386109417009619 : True := trivial
theorem law_top.tw5578350666513661633 : True := trivial
theorem law_top.tw5153948613133810507 : True := trivial
theorem law_top.tw9219720148880281623 : True := trivial
theorem law_top.tw18334738134178366897 : True := trivial
theorem law_top.tw9991892417851650432 : True := trivial
theorem law_top.tw15005321464861163767 : True := trivial
theorem law_top.tw5628761587620526709 : True := trivial
theorem law_top.tw15492615572399663618 : True := trivial
theorem law_top.tw12411813103585969329 : True := trivial
theorem law_top.tw17723232719832820481 : True := trivial
theorem law_top.tw17003074713247922975 : True := trivial
theorem law_top.tw7874791000614325088 : True := trivial
theorem law_top.tw12447778965006487748 : True := trivial
theorem law_top.tw16553861155213864276 : True := trivial
theorem law_top.tw7095074958208945845 : True := trivial
theorem law_top.tw11373745439413166461 : True := trivial
theorem law_top.tw14745367035689650665 : True := trivial
theorem law_top.tw8026669278042552223 : True := trivial
theorem law_top.tw16186080108808698446 : True := trivial
theorem law_top.tw78286356675630153 : True := trivial
theorem law_top.tw1895727531488842075 : True := trivial
theorem law_top.tw16468279939695287459 : True := trivial
theorem law_top.tw611417037901936444 : True := trivial
theorem law_top.tw9479591481907552113 : True := trivial
theorem law_top.tw15535248682450126177 : True := trivial
theorem law_top.tw6254922196821523131 : True := trivial
theorem law_top.tw1750347731730345955 : True := trivial
theorem law_top.tw394342335994243347 : True := trivial
theorem law_top.tw12123228272840091106 : True := trivial
theorem law_top.tw6372235248112133079 : True := trivial
theorem law_top.tw4463889121179344938 : True := trivial
theorem law_top.tw13140125095574829839 : True := trivial
theorem law_top.tw9810515920586876256 : True := trivial
theorem law_top.tw6166205955853680551 : True := trivial
theorem law_top.tw14646716445039642807 : True := trivial
theorem law_top.tw15420268735952510728 : True := trivial
theorem law_top.tw1595441842632389692 : True := trivial
theorem law_top.tw14737034922974115152 : True := trivial
theorem law_top.tw5722437671388841266 : True := trivial
theorem law_top.tw13264726661616138972 : True := trivial
theorem law_top.tw47996030005219648 : True := trivial
theorem law_top.tw2846467686224793835 : True := trivial
theorem law_top.tw14094308479182845342 : True := trivial
theorem law_top.tw13224409641867221464 : True := trivial
theorem law_top.tw3800927884770713385 : True := trivial
theorem law_top.tw3008536824079082492 : True := trivial
theorem law_top.tw283912018379147730 : True := trivial
theorem law_top.tw7424991271761715064 : True := trivial
theorem law_top.tw7349541569454197759 : True := trivial
theorem law_top.tw294319520078723631 : True := trivial
theorem law_top.tw18434853320432841520 : True := trivial
theorem law_top.tw16873283546002115460 : True := trivial
theorem law_top.tw13581828176298456477 : True := trivial
theorem law_top.tw8312668786517202314 : True := trivial
theorem law_top.tw16073956372676763063 : True := trivial
theorem law_top.tw11480147539602603376 : True := trivial
theorem law_top.tw7984631417796537045 : True := trivial
theorem law_top.tw9172863912365401550 : True := trivial
theorem law_top.tw1647307200919579588 : True := trivial
theorem law_top.tw14538551479329587425 : True := trivial
theorem law_top.tw8724397498656394257 : True := trivial
theorem law_top.tw1429159628828082862 : True := trivial
theorem law_top.tw528710026287818374 : True := trivial
theorem law_top.tw6831606427184621790 : True := trivial
theorem law_top.tw86993288252840343 : True := trivial
theorem law_top.tw16227487660197021416 : True := trivial
theorem law_top.tw4798445806603298367 : True := trivial
theorem law_top.tw1990622699647866281 : True := trivial
theorem law_top.tw5227989748810768967 : True := trivial
theorem law_top.tw4992426918137171378 : True := trivial
theorem law_top.tw7442410216495771646 : True := trivial
theorem law_top.tw7867358898346820270 : True := trivial
theorem law_top.tw9720332815514988549 : True := trivial
theorem law_top.tw15617428138985327059 : True := trivial
theorem law_top.tw16993272655198608842 : True := trivial
theorem law_top.tw16260934594167950604 : True := trivial
theorem law_top.tw18192626600819709127 : True := trivial
theorem law_top.tw702364760294200891 : True := trivial
theorem law_top.tw3037431944011832105 : True := trivial
theorem law_top.tw14354878143330663600 : True := trivial
theorem law_top.tw1672473405038974386 : True := trivial
theorem law_top.tw9814682492029402796 : True := trivial
theorem law_top.tw9122278143557935932 : True := trivial
theorem law_top.tw1721154339482203434 : True := trivial
theorem law_top.tw6504812517432830988 : True := trivial
theorem law_top.tw15993617471376355965 : True := trivial
theorem law_top.tw8273722994505101859 : True := trivial
theorem law_top.tw16086137715970823455 : True := trivial
theorem law_top.tw2185754109554870518 : True := trivial
theorem law_top.tw6231661171454773142 : True := trivial
theorem law_top.tw2782996163467332843 : True := trivial
theorem law_top.tw9430112890641097522 : True := trivial
theorem law_top.tw7212168959848166152 : True := trivial
theorem law_top.tw3651440707554267873 : True := trivial
theorem law_top.tw18276736662183687224 : True := trivial
theorem law_top.tw2492899991669957969 : True := trivial
theorem law_top.tw2779505321668998331 : True := trivial
theorem law_top.tw18229694076986752883 : True := trivial
theorem law_top.tw14139451231886455591 : True := trivial
theorem law_top.tw17826498178445789105 : True := trivial
theorem law_top.tw13617616100846008015 : True := trivial
theorem law_top.tw13614607559452128130 : True := trivial
theorem law_top.tw9594317797690140654 : True := trivial
theorem law_top.tw2387479435186344434 : True := trivial
theorem law_top.tw7095899991932815437 : True := trivial
theorem law_top.tw8595125893235944113 : True := trivial
theorem law_top.tw11118050172241831894 : True := trivial
theorem law_top.tw12198372457563177005 : True := trivial
theorem law_top.tw303994377079663448 : True := trivial
theorem law_top.tw10206742096110717375 : True := trivial
theorem law_top.tw746700049945509401 : True := trivial
theorem law_top.tw9842381823582271717 : True := trivial
theorem law_top.tw16210224661363390743 : True := trivial
theorem law_top.tw1949957074159577291 : True := trivial
theorem law_top.tw18274889958599479172 : True := trivial
theorem law_top.tw17241472212612190410 : True := trivial
theorem law_top.tw11062551087092351263 : True := trivial
theorem law_top.tw15932765189171877065 : True := trivial
theorem law_top.tw15065541324447448767 : True := trivial
theorem law_top.tw5327052470748379237 : True := trivial
theorem law_top.tw11563288924861390882 : True := trivial
theorem law_top.tw5598529008883746898 : True := trivial
theorem law_top.tw1605508646816531313 : True := trivial
theorem law_top.tw12227274726651627724 : True := trivial
theorem law_top.tw524847444842218799 : True := trivial
theorem law_top.tw5696014349719992219 : True := trivial
theorem law_top.tw261174184727972929 : True := trivial
theorem law_top.tw17418414475645254054 : True := trivial
theorem law_top.tw11952766272208900384 : True := trivial
theorem law_top.tw17547721387774139074 : True := trivial
theorem law_top.tw4911236418727988180 : True := trivial
theorem law_top.tw9498171460264321590 : True := trivial
theorem law_top.tw18167358108316011401 : True := trivial
theorem law_top.tw4402356946540952802 : True := trivial
theorem law_top.tw17378729710159251053 : True := trivial
theorem law_top.tw12042035602236470551 : True := trivial
theorem law_top.tw7192916113724826976 : True := trivial
theorem law_top.tw15437651174255455370 : True := trivial
theorem law_top.tw7650289414224885034 : True := trivial
theorem law_top.tw732477868198714308 : True := trivial
theorem law_top.tw10371041920847623128 : True := trivial
theorem law_top.tw4249865936682550968 : True := trivial
theorem law_top.tw10996880340528980882 : True := trivial
theorem law_top.tw12604121970984318403 : True := trivial
theorem law_top.tw9810018367102170708 : True := trivial
theorem law_top.tw12115752338295069076 : True := trivial
theorem law_top.tw7108336986501517790 : True := trivial
theorem law_top.tw4216818783724148357 : True := trivial
theorem law_top.tw14149293753504563448 : True := trivial
theorem law_top.tw13675598469355164612 : True := trivial
theorem law_top.tw5993675090774452096 : True := trivial
theorem law_top.tw12762569153326127666 : True := trivial
theorem law_top.tw17797101385414909114 : True := trivial
theorem law_top.tw10286201357013005377 : True := trivial
theorem law_top.tw3045735675050468237 : True := trivial
theorem law_top.tw6107954633774935487 : True := trivial
theorem law_top.tw3085136680822881444 : True := trivial
theorem law_top.tw15348294645224088440 : True := trivial
theorem law_top.tw12560186574310603107 : True := trivial
theorem law_top.tw10022954398334786472 : True := trivial
theorem law_top.tw6460542776136476554 : True := trivial
theorem law_top.tw5666000718650403997 : True := trivial
theorem law_top.tw8768208715636173199 : True := trivial
theorem law_top.tw9946041245449700821 : True := trivial
theorem law_top.tw14999239729166345916 : True := trivial
theorem law_top.tw18084192688096564613 : True := trivial
theorem law_top.tw17749012049736168678 : True := trivial
theorem law_top.tw1011527645680398249 : True := trivial
theorem law_top.tw17921774857773601741 : True := trivial
theorem law_top.tw8112942207976914859 : True := trivial
theorem law_top.tw6807996680332344581 : True := trivial
theorem law_top.tw18203238465984659628 : True := trivial
theorem law_top.tw8290622515634760966 : True := trivial
theorem law_top.tw12309582046343287246 : True := trivial
theorem law_top.tw4455000644231593392 : True := trivial
theorem law_top.tw5643620551880373795 : True := trivial
theorem law_top.tw4528043732762482249 : True := trivial
theorem law_top.tw13742230622561484924 : True := trivial
theorem law_top.tw11768769927125411566 : True := trivial
theorem law_top.tw5311581334581689625 : True := trivial
theorem law_top.tw10848634640194320503 : True := trivial
theorem law_top.tw2439332126336150533 : True := trivial
theorem law_top.tw1604786806370103709 : True := trivial
theorem law_top.tw10540510947330121806 : True := trivial
theorem law_top.tw12399806926795291952 : True := trivial
theorem law_top.tw9064951770252628880 : True := trivial
theorem law_top.tw16370387802112053076 : True := trivial
theorem law_top.tw10826588322695934928 : True := trivial
theorem law_top.tw13424227128346166037 : True := trivial
theorem law_top.tw6906202865061970149 : True := trivial
theorem law_top.tw14780399261912653854 : True := trivial
theorem law_top.tw12026654070091552410 : True := trivial
theorem law_top.tw8042084948607185405 : True := trivial
theorem law_top.tw12999860489936701064 : True := trivial
theorem law_top.tw7709056981799277829 : True := trivial
theorem law_top.tw6264520644713374246 : True := trivial
theorem law_top.tw7961211647153113775 : True := trivial
theorem law_top.tw16675728860335231827 : True := trivial
theorem law_top.tw472602839834215217 : True := trivial
theorem law_top.tw16551211697155646508 : True := trivial
theorem law_top.tw11318167591190911378 : True := trivial
theorem law_top.tw10835696925530496528 : True := trivial
theorem law_top.tw9279260555856322444 : True := trivial
theorem law_top.tw1560720249812581514 : True := trivial
theorem law_top.tw13536622145382484277 : True := trivial
theorem law_top.tw5138602590909013273 : True := trivial
theorem law_top.tw18272230019521340845 : True := trivial
theorem law_top.tw7509158980958588020 : True := trivial
theorem law_top.tw1288960877571448154 : True := trivial
theorem law_top.tw11109962648497783193 : True := trivial
theorem law_top.tw17523836398541587722 : True := trivial
theorem law_top.tw11207669224365933885 : True := trivial
theorem law_top.tw11153753719859638668 : True := trivial
theorem law_top.tw5427493960770380056 : True := trivial
theorem law_top.tw17799067327809810602 : True := trivial
theorem law_top.tw4081377120236623103 : True := trivial
theorem law_top.tw17056988726136124743 : True := trivial
theorem law_top.tw9353894778045770699 : True := trivial
theorem law_top.tw11447950881053986945 : True := trivial
theorem law_top.tw6715644534668516160 : True := trivial
theorem law_top.tw11697292256806892455 : True := trivial
theorem law_top.tw12410780593926092251 : True := trivial
theorem law_top.tw4988363707026695406 : True := trivial
theorem law_top.tw2056653274364870593 : True := trivial
theorem law_top.tw8288077472134889997 : True := trivial
theorem law_top.tw14944627252004380249 : True := trivial
theorem law_top.tw8725115696603336624 : True := trivial
theorem law_top.tw157372793722717571 : True := trivial
theorem law_top.tw9405547519062578036 : True := trivial
theorem law_top.tw10643894103495724296 : True := trivial
theorem law_top.tw16034593955152035039 : True := trivial
theorem law_top.tw7901011372787885319 : True := trivial
theorem law_top.tw5205636598411918471 : True := trivial
theorem law_top.tw8298743579792071279 : True := trivial
theorem law_top.tw13569769787879642480 : True := trivial
theorem law_top.tw10857934954520947303 : True := trivial
theorem law_top.tw13484117458179278936 : True := trivial
theorem law_top.tw12702882166513552608 : True := trivial
theorem law_top.tw12549551741260687917 : True := trivial
theorem law_top.tw6309970318383979159 : True := trivial
theorem law_top.tw7398938723275199099 : True := trivial
theorem law_top.tw16404726318318808291 : True := trivial
theorem law_top.tw1023444396693922510 : True := trivial
theorem law_top.tw6588372341165026658 : True := trivial
theorem law_top.tw18308898082861124899 : True := trivial
theorem law_top.tw13363760621088886325 : True := trivial
theorem law_top.tw18249325978800452257 : True := trivial
theorem law_top.tw17122903829229300871 : True := trivial
theorem law_top.tw10312902306739710145 : True := trivial
theorem law_top.tw4752553660275263152 : True := trivial
theorem law_top.tw15775079376732303269 : True := trivial
theorem law_top.tw8537840781554845856 : True := trivial
theorem law_top.tw6455669631191945550 : True := trivial
theorem law_top.tw5275388887275059251 : True := trivial
theorem law_top.tw16702770828249561126 : True := trivial
theorem law_top.tw679551125872724394 : True := trivial
theorem law_top.tw14045353349613869895 : True := trivial
theorem law_top.tw9450407298689094659 : True := trivial
theorem law_top.tw11308803257360059616 : True := trivial
theorem law_top.tw8639321965787187340 : True := trivial
theorem law_top.tw14070076989867029030 : True := trivial
theorem law_top.tw15357213287092951604 : True := trivial
theorem law_top.tw1914564268808401517 : True := trivial
theorem law_top.tw11467734939437845060 : True := trivial
theorem law_top.tw7118351449508974344 : True := trivial
theorem law_top.tw17713047863018520157 : True := trivial
theorem law_top.tw8020521010272921470 : True := trivial
theorem law_top.tw2166749999438415952 : True := trivial
theorem law_top.tw10489179705248868120 : True := trivial
theorem law_top.tw16947678838707292344 : True := trivial
theorem law_top.tw15345962893737537633 : True := trivial
theorem law_top.tw12146472871408646809 : True := trivial
theorem law_top.tw14432413217562308668 : True := trivial
theorem law_top.tw11405093170078220 : True := trivial
theorem law_top.tw11530352111672384032 : True := trivial
theorem law_top.tw14194106376383353029 : True := trivial
theorem law_top.tw3763564240471595955 : True := trivial
theorem law_top.tw6702296689421629000 : True := trivial
theorem law_top.tw14427177951809244936 : True := trivial
theorem law_top.tw16826014940505295439 : True := trivial
theorem law_top.tw14657218770554414550 : True := trivial
theorem law_top.tw7051957363214788392 : True := trivial
theorem law_top.tw10829458318319243656 : True := trivial
theorem law_top.tw2931800135006948302 : True := trivial
theorem law_top.tw12008222178047542364 : True := trivial
theorem law_top.tw15054528889983576359 : True := trivial
theorem law_top.tw3693082340888614605 : True := trivial
theorem law_top.tw6200633000750292626 : True := trivial
theorem law_top.tw10579700704692840592 : True := trivial
theorem law_top.tw15979612222624531754 : True := trivial
theorem law_top.tw1091123251261150752 : True := trivial
theorem law_top.tw363188069846206536 : True := trivial
theorem law_top.tw233516121181799265 : True := trivial
theorem law_top.tw3718461323301673781 : True := trivial
theorem law_top.tw7681635342971351187 : True := trivial
theorem law_top.tw6980922811597085436 : True := trivial
theorem law_top.tw2302899222408781742 : True := trivial
theorem law_top.tw4028458234066435853 : True := trivial
theorem law_top.tw7997751710175968671 : True := trivial
theorem law_top.tw12642894733483524384 : True := trivial

set_option Elab.async true
set_option maxRecDepth 100000 in
set_option maxHeartbeats 0 in
theorem law_top : PySem.Challenge.rw_wo0081_01.Holds := by
  w_on
  o_law
  k_head
  (case hw => w_witness2)
  exact law_walk _ _ rfl
set_option Elab.async false
end Mine
theorem PySem.Challenge.cw_wo0081_01_holds : PySem.Challenge.rw_wo0081_01.Holds := by
  exact Mine.law_top
