/-
The law of _is_leap: the head by open_top; a contract of each of the four defs (k_call_by's claim, proved apart); the plain law (grows, dim_table ..) with no program in sight;
then one walk of law: the years' list is forgotten but for its length, the two loops are searches that store nothing.
-/
import PyProof.Rows.All
import Wide.All
import OpenK.AllK
import Wide.FinOn
import PySem.Challenge.RW_dw0043_01
open PySem PySem.W PyProof.Rows
set_option Elab.async false
namespace Mine

/-! The head. -/
set_option maxRecDepth 100000 in
set_option maxHeartbeats 8000000 in
open_top hd for PySem.Challenge.rw_dw0043_01

/-! The plain law. -/
/-- a leap year, as _is_leap says it -/
def leap (y : Int) : Bool := decide (y.fmod 4 = 0) && (!decide (y.fmod 100 = 0) || decide (y.fmod 400 = 0))
/-- the days ahead of a year, as _days_before_year says it -/
def dby (y : Int) : Int := (y - 1) * 365 + (y - 1).fdiv 4 - (y - 1).fdiv 100 + (y - 1).fdiv 400
/-- a month's days, as the law says it -/
def dim (y m : Int) : Int := if m = 2 then (if leap y then 29 else 28) else 30 + (m + m.fdiv 8).fmod 2
theorem grows (y : Int) : dby (y + 1) - dby y = if leap y then 366 else 365 := by
  simp only [dby, leap]
  simp only [Int.fdiv_eq_ediv_of_nonneg _ (show (0 : Int) ≤ 4 by decide), Int.fdiv_eq_ediv_of_nonneg _ (show (0 : Int) ≤ 100 by decide), Int.fdiv_eq_ediv_of_nonneg _ (show (0 : Int) ≤ 400 by decide), Int.fmod_eq_emod_of_nonneg _ (show (0 : Int) ≤ 4 by decide), Int.fmod_eq_emod_of_nonneg _ (show (0 : Int) ≤ 100 by decide), Int.fmod_eq_emod_of_nonneg _ (show (0 : Int) ≤ 400 by decide)]
  split
  · rename_i h
    simp only [Bool.and_eq_true, Bool.or_eq_true, Bool.not_eq_true', decide_eq_true_eq, decide_eq_false_iff_not] at h
    omega
  · rename_i h
    simp only [Bool.and_eq_true, Bool.or_eq_true, Bool.not_eq_true', decide_eq_true_eq, decide_eq_false_iff_not, Classical.not_and_iff_not_or_not, not_or, Classical.not_not] at h
    omega
theorem leap_join (y : Int) : (if y.fmod 4 = 0 ∧ ¬y.fmod 100 = 0 then y.fmod 100 != 0 else if y.fmod 4 = 0 ∧ y.fmod 100 = 0 then y.fmod 400 == 0 else y.fmod 4 == 0) = leap y := by
  unfold leap
  by_cases h1 : y.fmod 4 = 0 <;> by_cases h2 : y.fmod 100 = 0 <;> by_cases h3 : y.fmod 400 = 0 <;> simp [h1, h2, h3]
theorem months (m : Int) (h1 : 1 ≤ m) (h2 : m ≤ 12) : m = 1 ∨ m = 2 ∨ m = 3 ∨ m = 4 ∨ m = 5 ∨ m = 6 ∨ m = 7 ∨ m = 8 ∨ m = 9 ∨ m = 10 ∨ m = 11 ∨ m = 12 := by omega
theorem dim_table {y m : Int} (h : 1 ≤ m ∧ m ≤ 12) (hn : m ≠ 2) : ([-1, 31, 28, 31, 30, 31, 30, 31, 31, 30, 31, 30, 31] : List Int).getD m.toNat 0 = dim y m := by
  rcases months m h.1 h.2 with e | e | e | e | e | e | e | e | e | e | e | e <;> subst e <;> first | exact absurd rfl hn | (rw [dim, if_neg hn]; decide)
theorem dim_leap {y m : Int} (e : m = 2) (h : leap y = true) : 29 = dim y m := by simp [dim, e, h]
theorem dim_plain {y m : Int} (_h : 1 ≤ m ∧ m ≤ 12) (e : m = 2) (hl : leap y = false) : ([-1, 31, 28, 31, 30, 31, 30, 31, 31, 30, 31, 30, 31] : List Int).getD m.toNat 0 = dim y m := by subst e; simp [dim, hl]
theorem dim_two {y m : Int} (e : m = 2) : dim y m = if leap y then 29 else 28 := by rw [dim, if_pos e]
theorem dim_else {y m : Int} (e : ¬m = 2) : dim y m = 30 + (m + m.fdiv 8).fmod 2 := by rw [dim, if_neg e]
theorem len_years (f : Int → Int) (ns : List Int) : (List.map f (List.map (fun a => a) (rangeInts 0 1 (24 - 0 : Int).toNat) ++ [100, 200, 300]) ++ List.take (min 63 ns.length - 1) (List.drop 1 ns)).length ≤ 90 := by
  have e : (rangeInts 0 1 (24 - 0 : Int).toNat).length = 24 := rangeInts_length _ _ _
  simp only [List.length_append, List.length_map, e, List.length_cons, List.length_nil, List.length_take, List.length_drop]
  omega

/-! Steps that the library has no line for. -/
section
variable {prog : Program} {w : World} {A : Around} {E : Value → Shared → Prop} {s : Shared} {h₀ : Heap} {L a b : Addr} {m : Str → Option Value}
/-- two lists of ints joined: the new list's ints are forgotten but for their number, and so is all else that the call has made -/
theorem add_years {news : List (Addr × Obj)} {vs ws : List Value} {ns ms : List Int} {Q : Value → Shared → Prop} (F : Fr h₀ L s.heap m) (N : News h₀ L s.heap news) (ha : s.heap.IsList a vs.toArray) (hb : s.heap.IsList b ws.toArray) (hi : IntsAre vs ns) (hj : IntsAre ws ms)
    (hz : (ns ++ ms).length ≤ 90)
    (h : ∀ D us yrs h', Fr h₀ L h' m → News h₀ L h' [(D, listOf (List.toArray us) 0)] → IntsAre us yrs → yrs.length ≤ 90 → Q (.ref D) { s with heap := h' }) :
    wpAny (model prog w) A (binaryOp .Add (.ref a) (.ref b)) Q E s := by
  have hz' : ns.length + ms.length ≤ sizeLine := by rw [List.length_append] at hz; rw [sizeLine_eq]; omega
  exact add_lists_ints (hsz := hz') F N ha hb hi hj fun h' F' N' hk => h _ _ _ h' F' (fun p hp => N' p (by rcases List.mem_singleton.mp hp with rfl; exact List.mem_cons_self)) hk hz
/-- an item of a list that the top has written, at a place in bounds -/
theorem table_item {K : Frag} {n : Nat} {value slice : PySem.Expr} {l : List Value} {ns : List Int} {dd : Option Addr} {sl : Array (Option Value)} {k : Int} {u : Tok} {Q : Value → Shared → Prop} (F : Fr h₀ L s.heap m) (X₀ : K.In h₀)
    (hl : K.lookup a = some ⟨.type "list", dd, .seq l.toArray n, sl⟩) (hi : IntsAre l ns) (h0 : 0 ≤ k) (h1 : k < ns.length) (hfit : k < 2 ^ 63) (h : ∀ t, Q (.int (ns.getD k.toNat 0) t) s)
    (hs : subscripted slice false (.ref a) (.int k u) = operate [.ref a, .int k u] (getItem (.ref a) (.int k u)) := by with_unfolding_all rfl) :
    wpAny (model prog w) A (subscriptTail value slice (.ref a) (.int k u)) Q E s := item_anyK (lstK (X₀.keeps F.keep) hl) hi h0 h1 hfit h hs
end
/-- an int came back, and nothing but the count of tokens has turned -/
def IsInt (s : Shared) (v : Value) (s' : Shared) : Prop := ∃ f u k, v = .int f u ∧ s' = { s with toks := k }
theorem isInt_mk {s : Shared} {f : Int} {u : Tok} {k : Nat} : IsInt s (.int f u) { s with toks := k } := ⟨f, u, k, rfl, rfl⟩
theorem via_int {M : Model} {A : Around} {a b : PySem.Expr} {p q : Pos} {env : Env} {Q : Value → Shared → Prop} {E : Value → Shared → Prop} {s : Shared}
    (h : wpAny M A (eval (.IfExp (.Name (Str.ofString "script") p) a b q) env) (fun v s' => IsInt s v s') E s) (h' : ∀ f u k, Q (.int f u) { s with toks := k }) :
    wpAny M A (eval (.IfExp (.Name (Str.ofString "script") p) a b q) env) Q E s :=
  wpAny_mono h (fun v s' ⟨f, u, k, e1, e2⟩ => by subst e1 e2; exact h' f u k) fun _ _ x => x
/-- the one int or the other, by a bool of the frame's: one way, not two -/
def IsPick (b : Bool) (x y : Int) (s : Shared) (v : Value) (s' : Shared) : Prop := ∃ u k, v = .int (if b then x else y) u ∧ s' = { s with toks := k }
theorem isPick_tt {s : Shared} {b : Bool} {x y : Int} {u : Tok} {k : Nat} (h : b = true) : IsPick b x y s (.int x u) { s with toks := k } := ⟨u, k, by rw [h]; rfl, rfl⟩
theorem isPick_ff {s : Shared} {b : Bool} {x y : Int} {u : Tok} {k : Nat} (h : b = false) : IsPick b x y s (.int y u) { s with toks := k } := ⟨u, k, by rw [h]; rfl, rfl⟩
theorem via_pick {M : Model} {A : Around} {x y : Int} {i j : Nat} {p q r v : Pos} {env : Env} {Q : Value → Shared → Prop} {E : Value → Shared → Prop} {s : Shared} {h₀ : Heap} {L : Addr} {m : Str → Option Value} {b : Bool}
    (_F : Fr h₀ L s.heap m) (_hb : m (Str.ofString "told") = some (.bool b))
    (h : wpAny M A (eval (.IfExp (.Name (Str.ofString "told") p) (.Constant (.int x) i q) (.Constant (.int y) j r) v) env) (fun v s' => IsPick b x y s v s') E s)
    (h' : ∀ u k, Q (.int (if b then x else y) u) { s with toks := k }) :
    wpAny M A (eval (.IfExp (.Name (Str.ofString "told") p) (.Constant (.int x) i q) (.Constant (.int y) j r) v) env) Q E s :=
  wpAny_mono h (fun v s' ⟨u, k, e1, e2⟩ => by subst e1 e2; exact h' u k) fun _ _ x => x
theorem one_int {h₀ h : Heap} {L D : Addr} {x : Int} {u : Tok} {n : Nat} {rest : List (Addr × Obj)} (_N : News h₀ L h ((D, listOf #[Value.int x u] n) :: rest)) : IntsAre [Value.int x u] [x] := .cons _ _ .nil
/-- stands in the context while an IfExp is walked for its value alone -/
structure OnceMark : Prop where

/-! The four defs' contracts. -/
abbrev Cl (w : World) (mean : ExcName → Option Value) (mg mb : Str → Option Value) (f : Addr) (news : List (Addr × Obj)) (pre : Prop) (vs : List Value) (R : Tok → Value) : Prop :=
  CbClaim PySem.Challenge.rw_dw0043_01.row.prog w (hd.heap_39 w.params) hd.view_39 (looseW hd.view_39 [Str.ofString "_DAYS_IN_MONTH"]) mean mg mb f news [] pre vs R
set_option maxRecDepth 100000 in
set_option maxHeartbeats 4000000 in
theorem leapC {w : World} {mean : ExcName → Option Value} {mg mb : Str → Option Value} : CbC 22 0 (∀ (cbNews : CbLed) (cbV0 : Int) (cbT0 : CbTok), Cl w mean mg mb 22 cbNews True [Value.int cbV0 cbT0] (fun _ => Value.bool (leap cbV0))) := by
  (k_with "tree" => simp only [leap])
  w_on
  w_strict (
    unfold CbC
    dsimp only [Cl, CbClaim, CbLists, CbRet]
    k_fill
    intros
    rename_i hret
    have cbI : CbIn 22 := CbIn.mk
    refine wpAny_call ?_
    k_dflt cell_enter
    k_steps
    all_goals cb_end hret)
  k_with_none
set_option maxRecDepth 100000 in
set_option maxHeartbeats 4000000 in
theorem fourC {w : World} {mean : ExcName → Option Value} {mg mb : Str → Option Value} : CbC 43 0 (∀ (cbNews : CbLed) (cbV0 : Int) (cbT0 : CbTok), Cl w mean mg mb 43 cbNews True [Value.int cbV0 cbT0] (fun _ => Value.bool (leap cbV0))) := by
  (k_with "tree" => simp only [leap])
  w_on
  w_strict (
    unfold CbC
    dsimp only [Cl, CbClaim, CbLists, CbRet]
    k_fill
    intros
    rename_i hret
    have cbI : CbIn 43 := CbIn.mk
    refine wpAny_call ?_
    k_dflt cell_enter
    k_steps
    all_goals cb_end hret)
  k_with_none
set_option maxRecDepth 100000 in
set_option maxHeartbeats 4000000 in
theorem dbyC {w : World} {mean : ExcName → Option Value} {mg mb : Str → Option Value} : CbC 29 0 (∀ (cbNews : CbLed) (cbV0 : Int) (cbT0 : CbTok), Cl w mean mg mb 29 cbNews True [Value.int cbV0 cbT0] (fun t => Value.int (dby cbV0) t)) := by
  (k_with "tree" => simp only [dby])
  w_on
  w_strict (
    unfold CbC
    dsimp only [Cl, CbClaim, CbLists, CbRet]
    k_fill
    intros
    rename_i hret
    have cbI : CbIn 29 := CbIn.mk
    refine wpAny_call ?_
    k_dflt cell_enter
    k_steps
    all_goals cb_end hret)
  k_with_none
section
local macro_rules | `(tactic| walk_at "call ref") => `(tactic| (k_here; k_dflt (refine wpAny_call ?_; cell_enter)))
local macro_rules | `(tactic| walk_at "subscriptTail Name Name ref int") => `(tactic| (
  k_here; (with_reducible show wpAny _ _ (subscriptTail (Expr.Name (Str.ofString "_DAYS_IN_MONTH") _) _ (Value.ref _) (Value.int _ _)) _ _ _);
  k_dflt (refine' table_item ?F ?X ?l ?i ?a ?b ?c ?_; (case F => k_asm); (case X => k_asm); (case l => k_is); (case i => l_ints); (case a => l_idx); (case b => l_idx); (case c => l_idx)); intro _))
set_option maxRecDepth 100000 in
set_option maxHeartbeats 4000000 in
theorem dimC {w : World} {mean : ExcName → Option Value} {mg mb : Str → Option Value} : CbC 36 0 (∀ (cbNews : CbLed) (cbV0 : Int) (cbT0 : CbTok) (cbV1 : Int) (cbT1 : CbTok), Cl w mean mg mb 36 cbNews (1 ≤ cbV1 ∧ cbV1 ≤ 12) [Value.int cbV0 cbT0, Value.int cbV1 cbT1] (fun t => Value.int (dim cbV0 cbV1) t)) := by
  (k_with "tree" => first | exact dim_table (by assumption) (by assumption) | exact dim_leap (by assumption) ((leap_join _).symm.trans (by assumption)) | exact dim_plain (by assumption) (by assumption) ((leap_join _).symm.trans (by assumption)))
  w_on
  w_strict (
    unfold CbC
    dsimp only [Cl, CbClaim, CbLists, CbRet]
    k_fill
    intros
    rename_i hmo _ _ hret
    have hfn : ScopeKind.function = ScopeKind.function := rfl
    have hmo1 := hmo.1
    have hmo2 := hmo.2
    have cbI : CbIn 36 := CbIn.mk
    refine wpAny_call ?_
    k_dflt cell_enter
    k_steps
    all_goals cb_end hret)
  k_with_none
end
theorem useC {w : World} {mean : ExcName → Option Value} {mg mb : Str → Option Value} {h : Heap} (_T : Top hd.view_39 (looseW hd.view_39 [Str.ofString "_DAYS_IN_MONTH"]) mean mg mb h) (_X : (hd.heap_39 w.params).In h) :
    CbC 22 0 (∀ (cbNews : CbLed) (cbV0 : Int) (cbT0 : CbTok), CbClaim PySem.Challenge.rw_dw0043_01.row.prog w (hd.heap_39 w.params) hd.view_39 (looseW hd.view_39 [Str.ofString "_DAYS_IN_MONTH"]) mean mg mb 22 cbNews [] True [Value.int cbV0 cbT0] (fun _ => Value.bool (leap cbV0))) ∧
    CbC 43 0 (∀ (cbNews : CbLed) (cbV0 : Int) (cbT0 : CbTok), CbClaim PySem.Challenge.rw_dw0043_01.row.prog w (hd.heap_39 w.params) hd.view_39 (looseW hd.view_39 [Str.ofString "_DAYS_IN_MONTH"]) mean mg mb 43 cbNews [] True [Value.int cbV0 cbT0] (fun _ => Value.bool (leap cbV0))) ∧
    CbC 29 0 (∀ (cbNews : CbLed) (cbV0 : Int) (cbT0 : CbTok), CbClaim PySem.Challenge.rw_dw0043_01.row.prog w (hd.heap_39 w.params) hd.view_39 (looseW hd.view_39 [Str.ofString "_DAYS_IN_MONTH"]) mean mg mb 29 cbNews [] True [Value.int cbV0 cbT0] (fun t => Value.int (dby cbV0) t)) ∧
    CbC 36 0 (∀ (cbNews : CbLed) (cbV0 : Int) (cbT0 : CbTok) (cbV1 : Int) (cbT1 : CbTok), CbClaim PySem.Challenge.rw_dw0043_01.row.prog w (hd.heap_39 w.params) hd.view_39 (looseW hd.view_39 [Str.ofString "_DAYS_IN_MONTH"]) mean mg mb 36 cbNews [] (1 ≤ cbV1 ∧ cbV1 ≤ 12) [Value.int cbV0 cbT0, Value.int cbV1 cbT1] (fun t => Value.int (dim cbV0 cbV1) t)) :=
  ⟨leapC, fourC, dbyC, dimC⟩
end Mine

/-! The walk. -/
open Mine
local macro_rules | `(tactic| walk_at "binaryOp Add ref ref") => `(tactic| (
  k_here; (with_reducible rename (News _ _ _ (_ :: _ :: _ :: _ :: _ :: _)) => n5);
  k_dflt (refine' add_years ?F ?N ?a ?b ?i ?j ?z ?_; (case F => k_asm); (case N => k_asm); (case a => kmk_list); (case b => kmk_list); (case i => assumption); (case j => assumption); (case z => exact len_years _ _));
  (repeat (with_reducible rename (IntsAre _ (_ ++ _)) => hx; clear hx));
  (repeat (with_reducible rename (IntsAre _ (List.map _ _)) => hx; clear hx));
  (repeat (with_reducible rename (IntsAre _ (List.take _ _)) => hx; clear hx));
  (repeat (with_reducible rename (CarriedAll _ _) => hx; clear hx));
  (repeat (with_reducible rename (List.length _ = List.length _) => hx; clear hx));
  (repeat (with_reducible rename (List.length (List.take _ _) = _) => hx; clear hx));
  (repeat (with_reducible rename (List.length (List.take _ _) ≤ _) => hx; clear hx));
  (repeat (with_reducible rename (_ ∧ _) => hx; clear hx));
  intro D' ws' yrs' h' F' N' hI' hlen';
  (try k_sweep)))
local macro_rules | `(tactic| walk_at "pyIter ref") => `(tactic| (k_of "place" "month" => k_search (fun _ => True)))
local macro_rules | `(tactic| walk_at "pyIter ref") => `(tactic| (k_of "month" => ((have hI2 := one_int (by assumption)); k_search (fun _ => True); (all_goals try ((rename _ ∈ [_] => hm2); (have hm3 := List.mem_singleton.mp hm2); subst hm3)))))
local macro_rules | `(tactic| walk_at "InvEndN") => `(tactic| k_dflt (
  (rename News _ _ _ _ => nE'); (rename Fr _ _ _ _ => fE');
  refine' kst_end () fE' nE' ?a ?b rfl True.intro (List.forall_mem_nil _) ?c True.intro;
  (case a => ((try dsimp only); (try simp only [List.nil_append, List.cons_append]); kst_anyIn));
  (case b => (intro p hp; kst_mem));
  (case c => kst_same)))
local macro_rules | `(tactic| walk_at "InvPostN") => `(tactic| first | exact absurd (grows _) (by assumption) | exact absurd (dim_two (by assumption)) (by assumption) | exact absurd (dim_else (by assumption)) (by assumption) | exact absurd (dim_two rfl) (by assumption))
local macro_rules | `(tactic| walk_at "call ref") => `(tactic| ((rename KstMark => hMk9); first | k_call_by "_is_leap" leap | k_call_by "_law_four" leap | k_call_by "_days_before_year" dby | k_call_by "_days_in_month" dim))
local macro_rules | `(tactic| walk_at "eval Call") => `(tactic| (
  (rename KstMark => hMk9);
  (first
    | (with_reducible show wpAny _ _ (eval (Expr.Call (Expr.Name (Str.ofString "_is_leap") _) _ [] _) _) _ _ _)
    | (with_reducible show wpAny _ _ (eval (Expr.Call (Expr.Name (Str.ofString "_law_four") _) _ [] _) _) _ _ _)
    | (with_reducible show wpAny _ _ (eval (Expr.Call (Expr.Name (Str.ofString "_days_in_month") _) _ [] _) _) _ _ _));
  k_dflt (refine Call_ ?_)))
local macro_rules | `(tactic| walk_at "eval IfExp") => `(tactic| (
  k_here; (fail_if_success (rename OnceMark => hM1));
  (with_reducible show wpAny _ _ (eval (Expr.IfExp (Expr.Name (Str.ofString "script") _) _ _ _) _) _ _ _);
  refine' via_int ?h ?_;
  (case h => k_dflt (have hOnce := OnceMark.mk; repeat' (first | ((with_reducible show IsInt _ _ _); exact isInt_mk) | walk1 | (dsimp only; walk1))));
  intro f' u' k'))
local macro_rules | `(tactic| walk_at "eval IfExp") => `(tactic| (
  k_here; (fail_if_success (rename OnceMark => hM1));
  (with_reducible show wpAny _ _ (eval (Expr.IfExp (Expr.Name (Str.ofString "told") _) _ _ _) _) _ _ _);
  k_dflt (refine' via_pick ?F ?b ?h ?_; (case F => k_asm); (case b => rfl));
  (case h => k_dflt (have hOnce := OnceMark.mk; repeat' (first | ((with_reducible show IsPick _ _ _ _ _ _); first | exact isPick_tt (by assumption) | exact isPick_ff (by assumption)) | walk1 | (dsimp only; walk1))));
  intro u' k'))
set_option maxRecDepth 100000 in
set_option maxHeartbeats 8000000 in
theorem PySem.Challenge.cw_dw0043_01_holds : PySem.Challenge.rw_dw0043_01.Holds := by
  refine hd ?_
  w_on
  w_strict (
    k_go0
    obtain ⟨cbA, cbB, cbC, cbD⟩ := useC (by assumption) (by assumption)
    all_goals try k_fold
    k_steps
    all_goals w_report)
#print axioms PySem.Challenge.cw_dw0043_01_holds
