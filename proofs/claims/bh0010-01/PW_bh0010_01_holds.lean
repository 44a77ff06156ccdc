import PyProof.Rows.All
import Wide.All
import OpenK.AllK
import Wide.FinOn
import PySem.Challenge.RW_bh0010_01
set_option Elab.async false
namespace Mine
open PySem PySem.W PyProof.Rows
set_option maxRecDepth 100000
set_option maxRecDepth 100000 in
set_option maxHeartbeats 8000000 in
open_top hd for PySem.Challenge.rw_bh0010_01
end Mine
namespace Mine
open PySem PySem.Spec PySem.Calls PySem.W PyProof.Rows
set_option maxRecDepth 100000
noncomputable abbrev lo : List Str := looseW hd.view_39 [Str.ofString "legal_date_gregorian", Str.ofString "to_jd_gregorian", Str.ofString "month_length_gregorian", Str.ofString "month_length_julian", Str.ofString "legal_date_julian", Str.ofString "to_jd_julian"]

/-- what a call of a def of the text's own does that makes nothing and hands back `R`: for any frame it is called from -/
def Cl (w : World) (f : Addr) (d : Nat) (pre : Prop) (vs : List Value) (R : Tok → Value) : Prop :=
  ∀ (mean : ExcName → Option Value) (mg mb : Str → Option Value) (dp un : Nat) (gd : Option (List Code)) (cn : Str) (cs : Scope) (a : Addr) (ccd : Value) (cl : List (Str × Addr)) (outer : List Env) (A₀ : Around) (base h₀ : Heap) (L : Addr) (m : Str → Option Value) (s : Shared) (Q E : Value → Shared → Prop) (news : List (Addr × Obj)),
    Below A₀ base outer h₀ → Fr h₀ L s.heap m → (hd.heap_39 w.params).In h₀ → News h₀ L s.heap news → Top hd.view_39 lo mean mg mb h₀ → cs.kind = .function →
    pre → dp + d < recursionLimit → un + 4 * d < cLine →
    (∀ (t : Tok) (h' : Heap) (tk' : Nat), Fr h₀ L h' m → News h₀ L h' news → Q (R t) { s with heap := h', toks := tk' }) →
    wpAny (model PySem.Challenge.rw_bh0010_01.row.prog w) (ktrTop dp un gd cn cs L a ccd cl outer) (call (.ref f) vs) Q E s

theorem Cl.use {w : World} {f : Addr} {d : Nat} {pre : Prop} {vs : List Value} {R : Tok → Value} (C : Cl w f d pre vs R)
    {mean : ExcName → Option Value} {mg mb : Str → Option Value} {dp un : Nat} {gd : Option (List Code)} {cn : Str} {cs : Scope} {a : Addr} {ccd : Value} {cl : List (Str × Addr)} {outer : List Env} {A₀ : Around} {base h₀ : Heap} {L : Addr} {m : Str → Option Value} {s : Shared} {Q E : Value → Shared → Prop} {news : List (Addr × Obj)}
    (B : Below A₀ base outer h₀) (F : Fr h₀ L s.heap m) (X : (hd.heap_39 w.params).In h₀) (N : News h₀ L s.heap news) (T : Top hd.view_39 lo mean mg mb h₀) (hk : cs.kind = .function)
    (hp : pre) (hd' : dp + d < recursionLimit) (hu : un + 4 * d < cLine)
    (ret : ∀ (t : Tok) (h' : Heap) (tk' : Nat), Fr h₀ L h' m → News h₀ L h' news → Q (R t) { s with heap := h', toks := tk' }) :
    wpAny (model PySem.Challenge.rw_bh0010_01.row.prog w) (ktrTop dp un gd cn cs L a ccd cl outer) (call (.ref f) vs) Q E s :=
  C mean mg mb dp un gd cn cs a ccd cl outer A₀ base h₀ L m s Q E news B F X N T hk hp hd' hu ret

theorem in_top {prog : Program} {w : World} {A : Around} {E Q : Value → Shared → Prop} {s : Shared} {K : Frag} {h₀ : Heap} {L a : Addr} {m : Str → Option Value} {x : Int} {u : Tok} {od : Option Addr} {vs : Array Value} {n : Nat} {sl : Array (Option Value)} {ns : List Int}
    (F : Fr h₀ L s.heap m) (X₀ : K.In h₀) (hl : K.lookup a = some ⟨.type "tuple", od, .seq vs n, sl⟩) (hi : IntsAre vs.toList ns)
    (h : Q (.bool (ns.any (· == x))) s) : wpAny (model prog w) A (compareOp .In (.int x u) (.ref a)) Q E s :=
  in_tuple_ints ⟨_, (X₀.keeps F.keep) _ _ hl, rfl, _, rfl⟩ hi h

/-- the leap years of the Gregorian reckoning -/
def lp (y : Int) : Bool := decide (y.fmod 4 = 0) && (!decide (y.fmod 100 = 0) || decide (y.fmod 400 = 0))
/-- a month's days, by whether the year is leap -/
def ml (b : Bool) (m : Int) : Int := if m = 2 then (if b then 29 else 28) else if m = 4 ∨ m = 6 ∨ m = 9 ∨ m = 11 then 30 else 31
/-- the Gregorian day number -/
def tj (y m d : Int) : Int := 1721426 - 1 + 365 * (y - 1) + (y - 1).fdiv 4 + -((y - 1).fdiv 100) + (y - 1).fdiv 400 + ((367 * m - 362).fdiv 12 + (if m ≤ 2 then 0 else if lp y then -1 else -2) + d)
/-- the Julian day number -/
def tu (y m d : Int) : Int := if m ≤ 2 then (1461 * (y - 1 + 4716)).fdiv 4 + (306001 * (m + 12 + 1)).fdiv 10000 + d - 1524 else (1461 * (y + 4716)).fdiv 4 + (306001 * (m + 1)).fdiv 10000 + d - 1524
end Mine
namespace Mine
open PySem PySem.Spec PySem.Calls PySem.W PyProof.Rows
set_option maxRecDepth 100000
local macro_rules | `(tactic| walk_at "compareOp In int ref") => `(tactic| (k_here; k_dflt (refine' in_top ?k1 ?k2 ?k3 ?k4 ?_; (case k1 => k_asm); (case k2 => k_asm); (case k3 => k_is); (case k4 => repeat' constructor); k_whole)))
set_option maxHeartbeats 8000000 in
theorem jw_cl (w : World) (x : Int) (t : Tok) : Cl w 36 4 True [.int x t] (fun t => .int (x.fmod 7) t) := by
  unfold Cl; k_fill; intros; rename_i hret
  refine wpAny_call ?_
  k_dflt cell_enter
  k_steps
  all_goals cb_end hret
set_option maxHeartbeats 8000000 in
theorem lp_cl (w : World) (x : Int) (t : Tok) : Cl w 22 4 True [.int x t] (fun _ => .bool (lp x)) := by
  unfold Cl; k_fill; intros; rename_i hret
  refine wpAny_call ?_
  k_dflt cell_enter
  k_steps
  all_goals (unfold lp at hret)
  all_goals cb_end hret
end Mine
namespace Mine
open PySem PySem.Spec PySem.Calls PySem.W PyProof.Rows
set_option maxRecDepth 100000
local macro_rules | `(tactic| walk_at "compareOp In int ref") => `(tactic| (k_here; k_dflt (refine' in_top ?k1 ?k2 ?k3 ?k4 ?_; (case k1 => k_asm); (case k2 => k_asm); (case k3 => k_is); (case k4 => repeat' constructor); k_whole)))
local macro_rules | `(tactic| walk_at "eval Call") => `(tactic| (k_here; (with_reducible show wpAny _ _ (eval (Expr.Call (Expr.Name (Str.ofString "isleap") _) _ [] _) _) _ _ _); k_dflt (refine Call_ ?_)))
local macro_rules | `(tactic| walk_at "call ref") => `(tactic| (k_here; (with_reducible show wpAny _ _ (call (Value.ref 22) [Value.int _ _]) _ _ _); k_dflt (refine' (lp_cl _ _ _).use ?k1 ?k2 ?k3 ?k4 ?k5 ?kK ?kp ?kd ?ku ?_; (case k1 => k_asm); (case k2 => k_asm); (case k3 => k_asm); (case k4 => k_asm); (case k5 => k_asm); (case kK => first | exact rfl | assumption); (case kp => trivial); (case kd => ktr_room); (case ku => ktr_units); k_whole); intro t9 h9 tk9 F9 N9; (try dsimp only); (try k_fold)))
theorem ml_cases {b : Bool} {m d : Int} (h : 1 ≤ d ∧ d ≤ ml b m) :
    ((m == 2) = true ∧ b = true ∧ 1 ≤ d ∧ d ≤ 29) ∨ ((m == 2) = true ∧ b = false ∧ 1 ≤ d ∧ d ≤ 28) ∨ ((m == 2) = false ∧ ([4, 6, 9, 11] : List Int).any (fun x => x == m) = true ∧ 1 ≤ d ∧ d ≤ 30) ∨ ((m == 2) = false ∧ ([4, 6, 9, 11] : List Int).any (fun x => x == m) = false ∧ 1 ≤ d ∧ d ≤ 31) := by
  unfold ml at h
  simp only [List.any_cons, List.any_nil, Bool.or_false, Bool.or_eq_true, beq_iff_eq, Bool.or_eq_false_iff, beq_eq_false_iff_ne]
  cases b <;> (repeat' split at h) <;> simp_all <;> omega
set_option maxHeartbeats 8000000 in
theorem ld_cl (w : World) (y m d : Int) (t₁ t₂ t₃ : Tok) : Cl w 56 8 (1 ≤ d ∧ d ≤ ml (lp y) m) [.int y t₁, .int m t₂, .int d t₃] (fun _ => .bool true) := by
  unfold Cl; k_fill; intros; rename_i hp _ _ hret
  rcases ml_cases hp with ⟨h1, h2, h3, h4⟩ | ⟨h1, h2, h3, h4⟩ | ⟨h1, h2, h3, h4⟩ | ⟨h1, h2, h3, h4⟩
  all_goals (
    clear hp
    refine wpAny_call ?_
    k_dflt cell_enter
    k_steps
    all_goals cb_end hret)
end Mine
namespace Mine
open PySem PySem.Spec PySem.Calls PySem.W PyProof.Rows
set_option maxRecDepth 100000
local macro_rules | `(tactic| walk_at "eval Call") => `(tactic| (k_here; (with_reducible show wpAny _ _ (eval (Expr.Call (Expr.Name (Str.ofString "isleap") _) _ [] _) _) _ _ _); k_dflt (refine Call_ ?_)))
local macro_rules | `(tactic| walk_at "call ref") => `(tactic| (k_here; (with_reducible show wpAny _ _ (call (Value.ref 22) [Value.int _ _]) _ _ _); k_dflt (refine' (lp_cl _ _ _).use ?k1 ?k2 ?k3 ?k4 ?k5 ?kK ?kp ?kd ?ku ?_; (case k1 => k_asm); (case k2 => k_asm); (case k3 => k_asm); (case k4 => k_asm); (case k5 => k_asm); (case kK => first | exact rfl | assumption); (case kp => first | trivial | assumption | omega); (case kd => ktr_room); (case ku => ktr_units); k_whole); intro t9 h9 tk9 F9 N9; (try dsimp only); (try k_fold)))
local macro_rules | `(tactic| walk_at "eval Call") => `(tactic| (k_here; (with_reducible show wpAny _ _ (eval (Expr.Call (Expr.Name (Str.ofString "legal_date_gregorian") _) _ [] _) _) _ _ _); k_dflt (refine Call_ ?_)))
local macro_rules | `(tactic| walk_at "call ref") => `(tactic| (k_here; (with_reducible show wpAny _ _ (call (Value.ref 56) [Value.int _ _, Value.int _ _, Value.int _ _]) _ _ _); k_dflt (refine' (ld_cl _ _ _ _ _ _ _).use ?k1 ?k2 ?k3 ?k4 ?k5 ?kK ?kp ?kd ?ku ?_; (case k1 => k_asm); (case k2 => k_asm); (case k3 => k_asm); (case k4 => k_asm); (case k5 => k_asm); (case kK => first | exact rfl | assumption); (case kp => first | trivial | assumption | omega); (case kd => ktr_room); (case ku => ktr_units); k_whole); intro t9 h9 tk9 F9 N9; (try dsimp only); (try k_fold)))

set_option maxHeartbeats 8000000 in
theorem tj_cl (w : World) (y m d : Int) (t₁ t₂ t₃ : Tok) : Cl w 63 12 (1 ≤ d ∧ d ≤ ml (lp y) m) [.int y t₁, .int m t₂, .int d t₃] (fun t => .int (tj y m d) t) := by
  unfold Cl; k_fill; intros; rename_i hp _ _ hret
  unfold tj at hret
  refine wpAny_call ?_
  k_dflt cell_enter
  k_steps
  all_goals cb_end hret
end Mine
namespace Mine
open PySem PySem.Spec PySem.Calls PySem.W PyProof.Rows
set_option maxRecDepth 100000
local macro_rules | `(tactic| walk_at "compareOp In int ref") => `(tactic| (k_here; k_dflt (refine' in_top ?k1 ?k2 ?k3 ?k4 ?_; (case k1 => k_asm); (case k2 => k_asm); (case k3 => k_is); (case k4 => repeat' constructor); k_whole)))

/-- the leap years of the Julian reckoning -/
def lj (y : Int) : Bool := y.fmod 4 == 0
theorem ml_val (b : Bool) (m : Int) :
    ((m == 2) = true ∧ b = true ∧ ml b m = 29) ∨ ((m == 2) = true ∧ b = false ∧ ml b m = 28) ∨ ((m == 2) = false ∧ ([4, 6, 9, 11] : List Int).any (fun x => x == m) = true ∧ ml b m = 30) ∨ ((m == 2) = false ∧ ([4, 6, 9, 11] : List Int).any (fun x => x == m) = false ∧ ml b m = 31) := by
  unfold ml
  simp only [List.any_cons, List.any_nil, Bool.or_false, Bool.or_eq_true, beq_iff_eq, Bool.or_eq_false_iff, beq_eq_false_iff_ne]
  cases b <;> (repeat' split) <;> simp_all <;> omega
set_option maxHeartbeats 8000000 in
theorem le_cl (w : World) (x : Int) (t : Tok) : Cl w 92 4 True [.int x t] (fun _ => .bool (lj x)) := by
  unfold Cl lj; k_fill; intros; rename_i hret
  refine wpAny_call ?_
  k_dflt cell_enter
  k_steps
  all_goals cb_end hret
local macro_rules | `(tactic| walk_at "eval Call") => `(tactic| (k_here; (with_reducible show wpAny _ _ (eval (Expr.Call (Expr.Name (Str.ofString "leap") _) _ [] _) _) _ _ _); k_dflt (refine Call_ ?_)))
local macro_rules | `(tactic| walk_at "call ref") => `(tactic| (k_here; (with_reducible show wpAny _ _ (call (Value.ref 92) [Value.int _ _]) _ _ _); k_dflt (refine' (le_cl _ _ _).use ?k1 ?k2 ?k3 ?k4 ?k5 ?kK ?kp ?kd ?ku ?_; (case k1 => k_asm); (case k2 => k_asm); (case k3 => k_asm); (case k4 => k_asm); (case k5 => k_asm); (case kK => first | exact rfl | assumption); (case kp => first | trivial | assumption | omega); (case kd => ktr_room); (case ku => ktr_units); k_whole); intro t9 h9 tk9 F9 N9; (try dsimp only); (try k_fold)))

set_option maxHeartbeats 8000000 in
theorem mj_cl (w : World) (y m : Int) (t₁ t₂ : Tok) : Cl w 99 8 True [.int y t₁, .int m t₂] (fun t => .int (ml (lj y) m) t) := by
  unfold Cl; k_fill; intros; rename_i hret
  rcases ml_val (lj y) m with ⟨h1, h2, h3⟩ | ⟨h1, h2, h3⟩ | ⟨h1, h2, h3⟩ | ⟨h1, h2, h3⟩
  all_goals (
    rw [h3] at hret
    refine wpAny_call ?_
    k_dflt cell_enter
    k_steps
    all_goals cb_end hret)
local macro_rules | `(tactic| walk_at "eval Call") => `(tactic| (k_here; (with_reducible show wpAny _ _ (eval (Expr.Call (Expr.Name (Str.ofString "month_length_julian") _) _ [] _) _) _ _ _); k_dflt (refine Call_ ?_)))
local macro_rules | `(tactic| walk_at "call ref") => `(tactic| (k_here; (with_reducible show wpAny _ _ (call (Value.ref 99) [Value.int _ _, Value.int _ _]) _ _ _); k_dflt (refine' (mj_cl _ _ _ _ _).use ?k1 ?k2 ?k3 ?k4 ?k5 ?kK ?kp ?kd ?ku ?_; (case k1 => k_asm); (case k2 => k_asm); (case k3 => k_asm); (case k4 => k_asm); (case k5 => k_asm); (case kK => first | exact rfl | assumption); (case kp => first | trivial | assumption | omega); (case kd => ktr_room); (case ku => ktr_units); k_whole); intro t9 h9 tk9 F9 N9; (try dsimp only); (try k_fold)))

set_option maxHeartbeats 8000000 in
theorem ldj_cl (w : World) (y m d : Int) (t₁ t₂ t₃ : Tok) : Cl w 106 12 (1 ≤ d ∧ d ≤ ml (lj y) m) [.int y t₁, .int m t₂, .int d t₃] (fun _ => .bool true) := by
  unfold Cl; k_fill; intros; rename_i hp _ _ hret
  refine wpAny_call ?_
  k_dflt cell_enter
  k_steps
  all_goals cb_end hret
local macro_rules | `(tactic| walk_at "eval Call") => `(tactic| (k_here; (with_reducible show wpAny _ _ (eval (Expr.Call (Expr.Name (Str.ofString "legal_date_julian") _) _ [] _) _) _ _ _); k_dflt (refine Call_ ?_)))
local macro_rules | `(tactic| walk_at "call ref") => `(tactic| (k_here; (with_reducible show wpAny _ _ (call (Value.ref 106) [Value.int _ _, Value.int _ _, Value.int _ _]) _ _ _); k_dflt (refine' (ldj_cl _ _ _ _ _ _ _).use ?k1 ?k2 ?k3 ?k4 ?k5 ?kK ?kp ?kd ?ku ?_; (case k1 => k_asm); (case k2 => k_asm); (case k3 => k_asm); (case k4 => k_asm); (case k5 => k_asm); (case kK => first | exact rfl | assumption); (case kp => first | trivial | assumption | omega); (case kd => ktr_room); (case ku => ktr_units); k_whole); intro t9 h9 tk9 F9 N9; (try dsimp only); (try k_fold)))

set_option maxHeartbeats 8000000 in
theorem tu_cl (w : World) (y m d : Int) (t₁ t₂ t₃ : Tok) : Cl w 113 16 (1 ≤ d ∧ d ≤ ml (lj y) m) [.int y t₁, .int m t₂, .int d t₃] (fun t => .int (tu y m d) t) := by
  unfold Cl; k_fill; intros; rename_i hp _ _ hret
  unfold tu at hret
  refine wpAny_call ?_
  k_dflt cell_enter
  k_steps
  all_goals cb_end hret
end Mine
namespace Mine
open PySem PySem.Spec PySem.Calls PySem.W PyProof.Rows
set_option maxRecDepth 100000
section
variable {prog : Program} {w : World} {A : Around} {E : Value → Shared → Prop} {s : Shared} {h₀ : Heap} {L : Addr} {m : Str → Option Value} {news : List (Addr × Obj)}
theorem adj_upto (b n : Nat) (hb : b ≤ n) : Builtin.Slice.sliceAdjust none (some (b : Int)) 1 (n : Int) = (0, (b : Int)) := by
  unfold Builtin.Slice.sliceAdjust
  rw [if_neg (by omega), if_neg (by omega)]
  simp only [if_neg (show ¬ ((1 : Int) < 0) by omega)]
  rw [if_neg (by omega)]
  congr 1
  omega
theorem plc_upto (b : Nat) : Builtin.Slice.slicePlaces 0 (b : Int) 1 = b := by
  unfold Builtin.Slice.slicePlaces
  rw [if_pos (by omega)]
  simp only [Int.ediv_one]
  split <;> omega
theorem app_upto {sl : Addr} {b n : Nat} {u : Tok} {Q : Int × Int × Nat → Shared → Prop} (hs : s.heap.IsSliceOf sl .none (.int b u) .none) (hb : b ≤ n) (h : Q (0, 1, b) s) :
    wpAny (model prog w) A (Builtin.Slice.sliceApplied (.ref sl) (pure (n : Int))) Q E s := by
  obtain ⟨os, hos, -, hds⟩ := hs
  unfold Builtin.Slice.sliceApplied Builtin.Slice.sliceFields
  refine wpAny_bind (wpAny_bind (wpAny_field hos hds (x := .none) rfl (wpAny_bind (wpAny_field hos hds (x := .int b u) rfl (wpAny_bind (wpAny_field hos hds (x := .none) rfl (wpAny_pure ?_)))))))
  refine wpAny_bind (slicePart_none ?_)
  show wpAny _ _ (if ((1 : Int) == 0) = true then _ else _) _ _ s
  rw [if_neg (by decide)]
  refine wpAny_bind (slicePart_none (wpAny_bind (slicePart_int (wpAny_bind (wpAny_pure ?_)))))
  show wpAny _ _ (match Builtin.Slice.sliceAdjust none (some (b : Int)) 1 (n : Int) with | (lo, hi) => pure (lo, (1 : Int), Builtin.Slice.slicePlaces lo hi 1)) _ _ s
  rw [adj_upto b n hb]
  show wpAny _ _ (pure ((0 : Int), (1 : Int), Builtin.Slice.slicePlaces 0 (b : Int) 1)) _ _ s
  rw [plc_upto b]
  exact wpAny_pure h
theorem pick_upto (xs : Array Value) (b : Nat) : ((List.range b).filterMap fun (k : Nat) => xs[((0 : Int) + (k : Int) * 1).toNat]?).toArray = (xs.toList.take b).toArray := by
  have e : (fun (k : Nat) => xs[((0 : Int) + (k : Int) * 1).toNat]?) = ((fun x => xs[x]?) ∘ fun x => 0 + x) := by
    funext k
    have : ((0 : Int) + (k : Int) * 1).toNat = 0 + k := by omega
    simp only [Function.comp, this]
  rw [e, ← List.filterMap_map, pick_run xs 0 b, List.drop_zero]
theorem tup_upto {t sl : Addr} {items : Array Value} {b : Nat} {u : Tok} {Q : Value → Shared → Prop} (ht : IsTup s.heap t items) (hs : s.heap.IsSliceOf sl .none (.int b u) .none) (hb : b < items.size)
    (h : Q (.ref s.heap.objs.size) { s with heap := s.heap.push { cls := .type "tuple", data := .seq (items.toList.take b).toArray } })
    (hsz : items.size ≤ sizeLine) : wpAny (model prog w) A (getItem (.ref t) (.ref sl)) Q E s := by
  have hz : sizeOk (.seq (items.toList.take b).toArray) := by
    show (items.toList.take b).toArray.size ≤ sizeLine
    rw [List.size_toArray, List.length_take, Array.length_toList]
    omega
  have hTs : s.TypeIs (.ref sl) "slice" := let ⟨os, hos, hcs, _⟩ := hs; ⟨os, hos, hcs⟩
  unfold getItem
  try with_reducible refine wpAny_holding ?_
  first | refine wpAny_bind (wpAny_pure ?_) | skip
  refine wpAny_bind (wpAny_sequenceKey ht.typeIs (by decide) ?_)
  refine wpAny_bind (wpAny_callSpecial?_slot (name := Str.ofString "__getitem__") ht.typeIs slot_tuple_getitem
    (wpAny_call_entry slot_tuple_getitem ht.typeIs entry_tuple_getitem ?_ (args_tuple_getitem _ _)))
  show wpAny _ _ (Builtin.Tuple.tupleItemsOf (.ref t) >>= _) _ _ s
  refine wpAny_bind (tupleItemsOf_ ht (wpAny_bind (wpAny_typeOf hTs ?_)))
  rw [if_pos (by decide)]
  refine wpAny_bind (app_upto hs (Nat.le_of_lt hb) ?_)
  show wpAny _ _ (if ((0 : Int) == 0 && (1 : Int) == 1 && b == items.size) = true then _ else _) _ _ s
  have hne : ¬ (((0 : Int) == 0 && (1 : Int) == 1 && b == items.size) = true) := by
    have : (b == items.size) = false := by rw [beq_eq_false_iff_ne]; omega
    simp [this]
  rw [if_neg hne, pick_upto items b]
  first
    | exact wpAny_bind (m := Builtin.Tuple.tupleExact _) (wpAny_newObj_type (wpAny_pure ⟨_, rfl, wpAny_pure h⟩) hz)
    | exact wpAny_bind (m := Builtin.Tuple.tupleExact _) (wpAny_newObj_type (wpAny_bind (wpAny_pure (wpAny_pure ⟨_, rfl, wpAny_pure h⟩))) hz)
    | exact wpAny_bind (wpAny_bind (m := Builtin.Tuple.tupleExact _) (wpAny_newObj_type (wpAny_pure (wpAny_pure ⟨_, rfl, wpAny_pure h⟩)) hz))
    | exact wpAny_bind (wpAny_bind (m := Builtin.Tuple.tupleExact _) (wpAny_newObj_type (wpAny_pure ⟨_, rfl, wpAny_pure h⟩) hz))
/-- a tuple that stands at the top, cut from the left up to a place within it -/
theorem slice_top {K : Frag} {od : Option Addr} {n : Nat} {so : Array (Option Value)} {value slice : Expr} {t : Addr} {items : Array Value} {k : Int} {b : Nat} {u : Tok} {Q : Value → Shared → Prop} {zs : List Value}
    (F : Fr h₀ L s.heap m) (X₀ : K.In h₀) (N : News h₀ L s.heap news) (hl : K.lookup t = some ⟨.type "tuple", od, .seq items n, so⟩) (hk : k = (b : Int)) (hb : b < items.size) (hsz : items.size ≤ sizeLine) (hz : (items.toList.take b) = zs)
    (h : ∀ D h', Fr h₀ L h' m → News h₀ L h' ((D, { cls := .type "tuple", data := .seq zs.toArray }) :: news) → (∀ p ∈ news, p.1 < D) → Q (.ref D) { s with heap := h' })
    (hs : subscripted slice false (.ref t) (.ref s.heap.objs.size) = operate [.ref s.heap.objs.size, .ref t] (getItem (.ref t) (.ref s.heap.objs.size)))
    (hg : ∀ r, letTemporaryGo value (.ref t) r = pure ()) :
    wpAny (model prog w) A (subscriptTail value slice (.ref t) (.ref s.heap.objs.size)) Q E { s with heap := s.heap.push { cls := .type "slice", data := .fields #[.none, .int k u, .none] } } := by
  subst hk hz
  have ht0 : IsTup s.heap t items := ⟨_, (X₀.keeps F.keep) _ _ hl, rfl, _, rfl⟩
  have ht' : IsTup (s.heap.push { cls := .type "slice", data := .fields #[.none, .int b u, .none] }) t items := ht0.keeps fun _ _ e => Heap.get?_push_of_some _ e
  refine subscriptTail_ops (s := { s with heap := s.heap.push { cls := .type "slice", data := .fields #[.none, .int b u, .none] } }) ht'.typeIs slot_tuple_getitem.lookup
    (tup_upto ht' (Heap.IsSliceOf.new ..) hb ?_ hsz) hs hg
  have N1 := News.push (F.push { cls := .type "slice", data := .fields #[.none, .int b u, .none] }) (N.grown fun _ _ e => Heap.get?_push_of_some _ e) { cls := .type "tuple", data := .seq (items.toList.take b).toArray }
  exact h _ _ ((F.push _).push _) N1 fun p hp => by rw [Heap.size_push]; exact Nat.lt_succ_of_lt (Heap.lt_size (N p hp).1)
end
end Mine
namespace Mine
open PySem PySem.Spec PySem.Calls PySem.W PyProof.Rows
set_option maxRecDepth 100000
section
variable {prog : Program} {w : World} {A : Around} {E : Value → Shared → Prop} {s : Shared} {h₀ : Heap} {cn : Str} {cs : Scope} {L a : Addr} {cd : Value} {x y : Str} {p0 p1 p2 p3 : Pos} {Q : Flow → Shared → Prop} {fp : List Addr} {news : List (Addr × Obj)}
theorem ints_at : ∀ {vs : List Value} {ns : List Int}, IntsAre vs ns → ∀ {i : Nat} {v : Value}, vs[i]? = some v → ∃ n t, v = .int n t ∧ ns.drop i = n :: ns.drop (i + 1)
  | _, _, .nil, _, _, h => by simp at h
  | _, _, .cons n t r, 0, v, h => by
    simp only [List.getElem?_cons_zero, Option.some.injEq] at h
    exact ⟨n, t, h.symm, rfl⟩
  | _, _, .cons n t r, i + 1, v, h => by
    simp only [List.getElem?_cons_succ] at h
    obtain ⟨n', t', e1, e2⟩ := ints_at r h
    exact ⟨n', t', e1, by simpa using e2⟩
theorem unr_sum (hk : cs.kind = .function) (hx : (envOf cn cs L a cd).kindOf x = some .local) (hy : (envOf cn cs L a cd).kindOf y = some .local) (hxy : x ≠ y) (hyd : (y == ("__debug__" : Str)) = false)
    {vs : List Value} {ns : List Int} (hi : IntsAre vs ns) :
    ∀ (k i : Nat) (acc : Int) (t : Tok) (m₁ : Str → Option Value), i + k = vs.length → m₁ x = some (.int acc t) →
      (∀ (m₂ : Str → Option Value) (t' : Tok), m₂ x = some (.int (acc + (ns.drop i).sum) t') → (∀ z, z ≠ x → z ≠ y → m₂ z = m₁ z) → ∀ h' tk, Fr h₀ L h' m₂ → News h₀ L h' news → Q .next { s with heap := h', toks := tk }) →
      Unr prog w A E h₀ (envOf cn cs L a cd) (.Name y p0) [.AugAssign (.Name x p1) .Add (.Name y p2) p3] Q (fun i v => vs.toArray[i]? = some v) fp s k i m₁ news
  | 0, i, acc, t, m₁, hik, hm, fin => by
    refine Unr.zero fun h' tk F N => ?_
    have hd : ns.drop i = [] := List.drop_eq_nil_of_le (by rw [← hi.length]; omega)
    exact fin m₁ t (by rw [hd, List.sum_nil, Int.add_zero]; exact hm) (fun _ _ _ => rfl) h' tk F N
  | k + 1, i, acc, t, m₁, hik, hm, fin => by
    refine Unr.succ fun v h₁ tk₁ own hP hown F N => ?_
    obtain ⟨n, tn, rfl, hd⟩ := ints_at hi (show vs[i]? = some v by simpa using hP)
    refine wpAny_assign_Name (stN F N (fun h2 F2 N2 => ?_) hk hy)
    refine wpAny_execs_cons (wpAny_AugAssign_Name ?_)
    refine ldn F2 (v := .int acc t) (by simp only [if_neg hxy]; exact hm) ?_ hk hx
    refine ld F2 (v := .int n tn) (by simp) ?_ hk hy hyd
    refine iadd_int ?_
    refine stN (s := ⟨_, _, _, _, _⟩) F2 N2 (fun h3 F3 N3 => ?_) hk hx
    refine wpAny_execs_nil ?_
    refine LoopStep3.next (LoopStep2.intro F3 N3 rfl ?_)
    refine unr_sum hk hx hy hxy hyd hi k (i + 1) (acc + n) _ _ (by omega) (if_pos rfl) fun m₂ t' hm2 hz h' tk F4 N4 => ?_
    refine fin m₂ t' ?_ (fun z h1 h2 => ?_) h' tk F4 N4
    · rw [hm2, hd, List.sum_cons, Int.add_assoc]
    · rw [hz z h1 h2, if_neg h1, if_neg h2]
/-- the loop «for y in t: x += y» over a tuple of ints that the call has made -/
theorem loop_sum {m : Str → Option Value} {t : Addr} {vs : List Value} {ns : List Int} {acc : Int} {tk : Tok} {c : Nat}
    (hh : A.handled = none) (hk : cs.kind = .function) (hx : (envOf cn cs L a cd).kindOf x = some .local) (hy : (envOf cn cs L a cd).kindOf y = some .local) (hxy : x ≠ y) (hyd : (y == ("__debug__" : Str)) = false)
    (hi : IntsAre vs ns) (F : Fr h₀ L s.heap m) (N : News h₀ L s.heap news) (hm : m x = some (.int acc tk)) (ht : (t, ({ cls := .type "tuple", data := .seq vs.toArray c } : Obj)) ∈ news)
    (fin : ∀ (v : Option Value) (t' : Tok) h' tk', Fr h₀ L h' (fun z => if z = x then some (.int (acc + ns.sum) t') else if z = y then v else m z) → News h₀ L h' news → Q .next { s with heap := h', toks := tk' }) :
    wpAny (model prog w) A (pyIter (.ref t)) (fun it s₂ => UnrAt prog w A h₀ (envOf cn cs L a cd) (.Name y p0) [.AugAssign (.Name x p1) .Add (.Name y p2) p3] Q E it s₂) E s := by
  have htup : IsTup s.heap t vs.toArray := ⟨_, (N _ ht).1, rfl, _, rfl⟩
  refine Iter_tuple_unr hh htup F N (F.tup_ne htup) ?_
  have hz : vs.toArray.size = vs.length := by simp
  rw [hz]
  refine unr_sum hk hx hy hxy hyd hi vs.length 0 acc tk m (by omega) hm fun m₂ t' hm2 hz h' tk' F2 N2 => fin (m₂ y) t' h' tk' ?_ N2
  have e : (fun z => if z = x then some (Value.int (acc + ns.sum) t') else if z = y then m₂ y else m z) = m₂ := by
    funext z
    by_cases h1 : z = x
    · rw [if_pos h1, h1, hm2, List.drop_zero]
    · rw [if_neg h1]
      by_cases h2 : z = y
      · rw [if_pos h2, h2]
      · rw [if_neg h2, hz z h1 h2]
  rw [e]
  exact F2
end
end Mine
namespace Mine
open PySem PySem.Spec PySem.Calls PySem.W PyProof.Rows
set_option maxRecDepth 100000
theorem slice_topI {prog : Program} {w : World} {A : Around} {E : Value → Shared → Prop} {s : Shared} {h₀ : Heap} {L : Addr} {m : Str → Option Value} {news : List (Addr × Obj)} {K : Frag} {od : Option Addr} {n : Nat} {so : Array (Option Value)} {value slice : Expr} {t : Addr} {items : Array Value} {k : Int} {u : Tok} {Q : Value → Shared → Prop}
    (F : Fr h₀ L s.heap m) (X₀ : K.In h₀) (N : News h₀ L s.heap news) (hl : K.lookup t = some ⟨.type "tuple", od, .seq items n, so⟩) (hk : 0 ≤ k) (hb : k.toNat < items.size) (hsz : items.size ≤ sizeLine)
    (h : ∀ D h', Fr h₀ L h' m → News h₀ L h' ((D, { cls := .type "tuple", data := .seq (items.toList.take k.toNat).toArray }) :: news) → (∀ p ∈ news, p.1 < D) → Q (.ref D) { s with heap := h' })
    (hs : subscripted slice false (.ref t) (.ref s.heap.objs.size) = operate [.ref s.heap.objs.size, .ref t] (getItem (.ref t) (.ref s.heap.objs.size)))
    (hg : ∀ r, letTemporaryGo value (.ref t) r = pure ()) :
    wpAny (model prog w) A (subscriptTail value slice (.ref t) (.ref s.heap.objs.size)) Q E { s with heap := s.heap.push { cls := .type "slice", data := .fields #[.none, .int k u, .none] } } :=
  slice_top F X₀ N hl (Int.toNat_of_nonneg hk).symm hb hsz rfl h hs hg
/-- an item of a tuple of ints that stands at the top, at a place within it -/
theorem item_top {prog : Program} {w : World} {A : Around} {E : Value → Shared → Prop} {s : Shared} {h₀ : Heap} {L : Addr} {m : Str → Option Value} {K : Frag} {od : Option Addr} {n : Nat} {so : Array (Option Value)} {value slice : Expr} {t : Addr} {vs : List Value} {ns : List Int} {k : Int} {u : Tok} {Q : Value → Shared → Prop}
    (F : Fr h₀ L s.heap m) (X₀ : K.In h₀) (hl : K.lookup t = some ⟨.type "tuple", od, .seq vs.toArray n, so⟩) (hi : IntsAre vs ns) (h0 : 0 ≤ k) (h1 : k < (vs.length : Int)) (h2 : k < 2 ^ 63)
    (h : ∀ t', Q (.int (ns.getD k.toNat 0) t') s)
    (hs : subscripted slice false (.ref t) (.int k u) = operate [.ref t, .int k u] (getItem (.ref t) (.int k u)))
    (hg : ∀ r, letTemporaryGo value (.ref t) r = pure ()) :
    wpAny (model prog w) A (subscriptTail value slice (.ref t) (.int k u)) Q E s := by
  have hk : k.toNat < vs.length := by omega
  obtain ⟨n', t', e, e2⟩ := ints_at hi (List.getElem?_eq_getElem hk)
  have ed : ns.getD k.toNat 0 = n' := by
    have : (ns.drop k.toNat)[0]? = some n' := by rw [e2]; rfl
    rw [List.getElem?_drop, Nat.add_zero] at this
    rw [List.getD_eq_getElem?_getD, this]; rfl
  rw [ed] at h
  have hx : vs[k.toNat]? = some (.int n' t') := by rw [List.getElem?_eq_getElem hk, e]
  have hseq : seqIndex? k vs.length = some k.toNat := by
    unfold seqIndex?
    simp only [if_neg (show ¬ k < 0 by omega)]
    rw [if_pos (by first | omega | (simp; omega))]
  exact item_tupleL ⟨_, (X₀.keeps F.keep) _ _ hl, rfl, _, rfl⟩ (by omega) (by omega) hseq hx (h t') hs hg
local macro_rules | `(tactic| walk_at "eval Call") => `(tactic| (k_here; (with_reducible show wpAny _ _ (eval (Expr.Call (Expr.Name (Str.ofString "isleap") _) _ [] _) _) _ _ _); k_dflt (refine Call_ ?_)))
local macro_rules | `(tactic| walk_at "call ref") => `(tactic| (k_here; (with_reducible show wpAny _ _ (call (Value.ref 22) [Value.int _ _]) _ _ _); k_dflt (refine' (lp_cl _ _ _).use ?k1 ?k2 ?k3 ?k4 ?k5 ?kK ?kp ?kd ?ku ?_; (case k1 => k_asm); (case k2 => k_asm); (case k3 => k_asm); (case k4 => k_asm); (case k5 => k_asm); (case kK => first | exact rfl | assumption); (case kp => first | trivial | assumption | omega); (case kd => ktr_room); (case ku => ktr_units); k_whole); intro t9 h9 tk9 F9 N9; (try dsimp only); (try k_fold)))
local macro_rules | `(tactic| walk_at "subscriptTail Name Slice ref ref") => `(tactic| (k_here; (with_reducible show wpAny _ _ (subscriptTail _ (PySem.Expr.Slice none (some _) none _) (Value.ref _) (Value.ref _)) _ _ _); k_dflt (refine' slice_topI ?k1 ?k2 ?k3 ?k4 ?k5 ?k6 ?k7 ?_ ?k8 ?k9; (case k1 => k_asm); (case k2 => k_asm); (case k3 => k_asm); (case k4 => k_is); (case k5 => omega); (case k6 => (show Int.toNat _ < 13; omega)); (case k7 => decide); (case k8 => with_unfolding_all rfl); (case k9 => intro _; with_unfolding_all rfl); k_whole); intro D' h' F' N' l1; (try k_lt l1); (try k_sweep)))
local macro_rules | `(tactic| walk_at "exec For Name Subscript") => `(tactic| ((rename Fr _ _ _ _ => F'); (with_reducible apply For_unrF); (case _F => with_unfolding_all exact F'); (case hs => (intro _; with_unfolding_all rfl))))
local macro_rules | `(tactic| walk_at "pyIter ref") => `(tactic| (k_here; (with_reducible show wpAny _ _ _ (fun it s₂ => UnrAt _ _ _ _ _ _ _ _ _ it s₂) _ _); k_dflt (refine' loop_sum ?hh ?hk ?hx ?hy ?hxy ?hyd ?hi ?F ?N ?hm ?ht ?_; (case hh => exact rfl); (case hk => exact rfl); (case hx => exact rfl); (case hy => exact rfl); (case hxy => decide); (case hyd => decide); (case F => k_asm); (case N => k_asm); (case hm => exact rfl); (case ht => k_mem); (case hi => exact IntsAre.take (by repeat' constructor) _); k_whole); intro v' t' h' tk' F' N'; (try k_sweep)))
local macro_rules | `(tactic| walk_at "subscriptTail") => `(tactic| (k_here; (with_reducible show wpAny _ _ (subscriptTail _ _ (Value.ref _) (Value.int _ _)) _ _ _); k_dflt (refine' item_top ?k1 ?k2 ?k3 ?k4 ?k5 ?k6 ?k7 ?_ ?k8 ?k9; (case k1 => k_asm); (case k2 => k_asm); (case k3 => k_is); (case k4 => repeat' constructor); (case k5 => omega); (case k6 => (show _ < ((13 : Nat) : Int); omega)); (case k7 => omega); (case k8 => with_unfolding_all rfl); (case k9 => intro _; with_unfolding_all rfl); k_whole); intro t'; (try dsimp only)))
/-- what a call does that hands back a new pair of ints -/
def ClT (w : World) (f : Addr) (d : Nat) (pre : Prop) (vs : List Value) (x y : Int) : Prop :=
  ∀ (mean : ExcName → Option Value) (mg mb : Str → Option Value) (dp un : Nat) (gd : Option (List Code)) (cn : Str) (cs : Scope) (a : Addr) (ccd : Value) (cl : List (Str × Addr)) (outer : List Env) (A₀ : Around) (base h₀ : Heap) (L : Addr) (m : Str → Option Value) (s : Shared) (Q E : Value → Shared → Prop) (news : List (Addr × Obj)),
    Below A₀ base outer h₀ → Fr h₀ L s.heap m → (hd.heap_39 w.params).In h₀ → News h₀ L s.heap news → Top hd.view_39 lo mean mg mb h₀ → cs.kind = .function →
    pre → dp + d < recursionLimit → un + 4 * d < cLine →
    (∀ (D : Addr) (t₁ t₂ : Tok) (c : Nat) (h' : Heap) (tk' : Nat), Fr h₀ L h' m → News h₀ L h' ((D, ({ cls := .type "tuple", data := .seq #[.int x t₁, .int y t₂] c } : Obj)) :: news) → (∀ p ∈ news, p.1 < D) → Q (.ref D) { s with heap := h', toks := tk' }) →
    wpAny (model PySem.Challenge.rw_bh0010_01.row.prog w) (ktrTop dp un gd cn cs L a ccd cl outer) (call (.ref f) vs) Q E s
theorem ClT.use {w : World} {f : Addr} {d : Nat} {pre : Prop} {vs : List Value} {x y : Int} (C : ClT w f d pre vs x y)
    {mean : ExcName → Option Value} {mg mb : Str → Option Value} {dp un : Nat} {gd : Option (List Code)} {cn : Str} {cs : Scope} {a : Addr} {ccd : Value} {cl : List (Str × Addr)} {outer : List Env} {A₀ : Around} {base h₀ : Heap} {L : Addr} {m : Str → Option Value} {s : Shared} {Q E : Value → Shared → Prop} {news : List (Addr × Obj)}
    (B : Below A₀ base outer h₀) (F : Fr h₀ L s.heap m) (X : (hd.heap_39 w.params).In h₀) (N : News h₀ L s.heap news) (T : Top hd.view_39 lo mean mg mb h₀) (hk : cs.kind = .function)
    (hp : pre) (hd' : dp + d < recursionLimit) (hu : un + 4 * d < cLine)
    (ret : ∀ (D : Addr) (t₁ t₂ : Tok) (c : Nat) (h' : Heap) (tk' : Nat), Fr h₀ L h' m → News h₀ L h' ((D, ({ cls := .type "tuple", data := .seq #[.int x t₁, .int y t₂] c } : Obj)) :: news) → (∀ p ∈ news, p.1 < D) → Q (.ref D) { s with heap := h', toks := tk' }) :
    wpAny (model PySem.Challenge.rw_bh0010_01.row.prog w) (ktrTop dp un gd cn cs L a ccd cl outer) (call (.ref f) vs) Q E s :=
  C mean mg mb dp un gd cn cs a ccd cl outer A₀ base h₀ L m s Q E news B F X N T hk hp hd' hu ret
theorem allLt_in {d : Addr} : ∀ {l : List (Addr × Obj)}, AllLt d l → ∀ p ∈ l, p.1 < d
  | [], _, _, hp => nomatch hp
  | q :: r, h, p, hp => by
    rcases List.mem_cons.mp hp with rfl | hp
    · exact h.1
    · exact allLt_in h.2 p hp
theorem clt_end {h₀ h : Heap} {L D : Addr} {m : Str → Option Value} {news own : List (Addr × Obj)} {s : Shared} {Q : Value → Shared → Prop} {x y x' y' : Int} {t₁ t₂ : Tok} {c tk : Nat}
    (hret : ∀ (D : Addr) (t₁ t₂ : Tok) (c : Nat) (h' : Heap) (tk' : Nat), Fr h₀ L h' m → News h₀ L h' ((D, ({ cls := .type "tuple", data := .seq #[.int x t₁, .int y t₂] c } : Obj)) :: news) → (∀ p ∈ news, p.1 < D) → Q (.ref D) { s with heap := h', toks := tk' })
    (F : Fr h₀ L h m) (N : News h₀ L h ((D, ({ cls := .type "tuple", data := .seq #[.int x' t₁, .int y' t₂] c } : Obj)) :: own)) (hs : ∀ p ∈ news, p ∈ own) (l : AllLt D own) (ex : x' = x) (ey : y' = y) :
    Q (.ref D) { s with heap := h, toks := tk } := by
  subst ex ey
  refine hret D t₁ t₂ c h tk F (fun p hp => ?_) fun p hp => allLt_in l p (hs p hp)
  rcases List.mem_cons.mp hp with rfl | hp
  · exact N _ (.head _)
  · exact N p (.tail _ (hs p hp))

theorem mr_sum {m : Int} (h : 1 ≤ m ∧ m ≤ 12) : (([0, 31, 28, 31, 30, 31, 30, 31, 31, 30, 31, 30, 31] : List Int).take m.toNat).sum = (367 * m - 362) / 12 + (if m ≤ 2 then 0 else -2) := by
  have hm : m = 1 ∨ m = 2 ∨ m = 3 ∨ m = 4 ∨ m = 5 ∨ m = 6 ∨ m = 7 ∨ m = 8 ∨ m = 9 ∨ m = 10 ∨ m = 11 ∨ m = 12 := by omega
  rcases hm with rfl | rfl | rfl | rfl | rfl | rfl | rfl | rfl | rfl | rfl | rfl | rfl <;> decide
theorem mr_len {m : Int} (h : 1 ≤ m ∧ m ≤ 12) : ([0, 31, 28, 31, 30, 31, 30, 31, 31, 30, 31, 30, 31] : List Int).getD m.toNat 0 = ml false m := by
  have hm : m = 1 ∨ m = 2 ∨ m = 3 ∨ m = 4 ∨ m = 5 ∨ m = 6 ∨ m = 7 ∨ m = 8 ∨ m = 9 ∨ m = 10 ∨ m = 11 ∨ m = 12 := by omega
  rcases hm with rfl | rfl | rfl | rfl | rfl | rfl | rfl | rfl | rfl | rfl | rfl | rfl <;> decide
theorem fd7 (z k : Int) (h : (z - k) % 7 = 0) : k.fmod 7 = z.fmod 7 := by
  rw [Int.fmod_eq_emod_of_nonneg _ (by decide), Int.fmod_eq_emod_of_nonneg _ (by decide)]; omega
theorem mr_lp {y : Int} {b : Bool} (h : lp y = b) (m : Int) : tj y m 1 = 1721426 + 365 * (y - 1) + (y - 1).fdiv 4 - (y - 1).fdiv 100 + (y - 1).fdiv 400 + ((367 * m - 362) / 12 + (if m ≤ 2 then 0 else if b then -1 else -2)) := by
  subst h
  unfold tj
  rw [Int.fdiv_eq_ediv_of_nonneg (367 * m - 362) (by decide)]
  omega
set_option maxHeartbeats 8000000 in
theorem mr_cl (w : World) (y m : Int) (t₁ t₂ : Tok) : ClT w 29 8 (1 ≤ m ∧ m ≤ 12) [.int y t₁, .int m t₂] ((tj y m 1).fmod 7) (ml (lp y) m) := by
  unfold ClT; k_fill; intros; rename_i hp _ _ hret
  have hsum := mr_sum hp
  have hlen := mr_len hp
  have hp1 := hp.1
  have hp2 := hp.2
  have hm : ((m == 2) = true ∧ m ≤ 2) ∨ ((m == 2) = false ∧ m ≤ 2) ∨ ((m == 2) = false ∧ 2 < m) := by
    simp only [beq_iff_eq, beq_eq_false_iff_ne]; omega
  rcases hm with ⟨h1, h2⟩ | ⟨h1, h2⟩ | ⟨h1, h2⟩
  all_goals (
    cases hb : lp y
    all_goals (
      rw [mr_lp hb, hb] at hret
      refine wpAny_call ?_
      k_dflt cell_enter
      k_steps
      all_goals (rename_i kF kN kT kX; refine' clt_end hret kF kN ?k1 ?k2 ?k3 ?k4; (case k1 => kcj_all); (case k2 => assumption); (case k3 => (apply fd7; simp only [Bool.false_eq_true, if_true, if_false] at hsum ⊢; (try simp only [if_pos h2] at hsum ⊢); (try simp only [if_neg (Int.not_le.mpr h2)] at hsum ⊢); omega)); (case k4 => (rw [hlen]; simp only [beq_iff_eq, beq_eq_false_iff_ne] at h1; simp only [ml, h1]; simp)))))
end Mine
namespace Mine
open PySem PySem.Spec PySem.Calls PySem.W PyProof.Rows
set_option maxRecDepth 100000
local macro_rules | `(tactic| walk_at "eval Call") => `(tactic| (k_here; (with_reducible show wpAny _ _ (eval (Expr.Call (Expr.Name (Str.ofString "isleap") _) _ [] _) _) _ _ _); k_dflt (refine Call_ ?_)))
local macro_rules | `(tactic| walk_at "call ref") => `(tactic| (k_here; (with_reducible show wpAny _ _ (call (Value.ref 22) [Value.int _ _]) _ _ _); k_dflt (refine' (lp_cl _ _ _).use ?k1 ?k2 ?k3 ?k4 ?k5 ?kK ?kp ?kd ?ku ?_; (case k1 => k_asm); (case k2 => k_asm); (case k3 => k_asm); (case k4 => k_asm); (case k5 => k_asm); (case kK => first | exact rfl | assumption); (case kp => first | trivial | assumption | omega); (case kd => ktr_room); (case ku => ktr_units); k_whole); intro t9 h9 tk9 F9 N9; (try dsimp only); (try k_fold)))
local macro_rules | `(tactic| walk_at "eval Call") => `(tactic| (k_here; (with_reducible show wpAny _ _ (eval (Expr.Call (Expr.Name (Str.ofString "jwday") _) _ [] _) _) _ _ _); k_dflt (refine Call_ ?_)))
local macro_rules | `(tactic| walk_at "call ref") => `(tactic| (k_here; (with_reducible show wpAny _ _ (call (Value.ref 36) [Value.int _ _]) _ _ _); k_dflt (refine' (jw_cl _ _ _).use ?k1 ?k2 ?k3 ?k4 ?k5 ?kK ?kp ?kd ?ku ?_; (case k1 => k_asm); (case k2 => k_asm); (case k3 => k_asm); (case k4 => k_asm); (case k5 => k_asm); (case kK => first | exact rfl | assumption); (case kp => first | trivial | assumption | omega); (case kd => ktr_room); (case ku => ktr_units); k_whole); intro t9 h9 tk9 F9 N9; (try dsimp only); (try k_fold)))
local macro_rules | `(tactic| walk_at "eval Call") => `(tactic| (k_here; (with_reducible show wpAny _ _ (eval (Expr.Call (Expr.Name (Str.ofString "to_jd_gregorian") _) _ [] _) _) _ _ _); k_dflt (refine Call_ ?_)))
local macro_rules | `(tactic| walk_at "call ref") => `(tactic| (k_here; (with_reducible show wpAny _ _ (call (Value.ref 63) [Value.int _ _, Value.int _ _, Value.int _ _]) _ _ _); k_dflt (refine' (tj_cl _ _ _ _ _ _ _).use ?k1 ?k2 ?k3 ?k4 ?k5 ?kK ?kp ?kd ?ku ?_; (case k1 => k_asm); (case k2 => k_asm); (case k3 => k_asm); (case k4 => k_asm); (case k5 => k_asm); (case kK => first | exact rfl | assumption); (case kp => first | trivial | assumption | omega); (case kd => ktr_room); (case ku => ktr_units); k_whole); intro t9 h9 tk9 F9 N9; (try dsimp only); (try k_fold)))
local macro_rules | `(tactic| walk_at "eval Call") => `(tactic| (k_here; (with_reducible show wpAny _ _ (eval (Expr.Call (Expr.Name (Str.ofString "monthrange") _) _ [] _) _) _ _ _); k_dflt (refine Call_ ?_)))
local macro_rules | `(tactic| walk_at "call ref") => `(tactic| (k_here; (with_reducible show wpAny _ _ (call (Value.ref 29) [Value.int _ _, Value.int _ _]) _ _ _); k_dflt (refine' (mr_cl _ _ _ _ _).use ?k1 ?k2 ?k3 ?k4 ?k5 ?kK ?kp ?kd ?ku ?_; (case k1 => k_asm); (case k2 => k_asm); (case k3 => k_asm); (case k4 => k_asm); (case k5 => k_asm); (case kK => first | exact rfl | assumption); (case kp => exact ⟨by omega, by omega⟩); (case kd => ktr_room); (case ku => ktr_units); k_whole); intro D9 t9 t9 c9 h9 tk9 F9 N9 l1; (try dsimp only); (try k_lt l1); (try k_sweep); (try k_fold)))

set_option maxHeartbeats 8000000 in
theorem mlg_cl (w : World) (y m : Int) (t₁ t₂ : Tok) : Cl w 70 12 (1 ≤ m ∧ m ≤ 12) [.int y t₁, .int m t₂] (fun t => .int (ml (lp y) m) t) := by
  unfold Cl; k_fill; intros; rename_i hp _ _ hret
  refine wpAny_call ?_
  k_dflt cell_enter
  k_steps
  all_goals cb_end hret
/-- the weeks of a year -/
def wk (y : Int) : Int := if (tj y 1 1).fmod 7 = 3 ∨ ((tj y 1 1).fmod 7 = 2 ∧ lp y = true) then 53 else 52
theorem jan_ok (y : Int) : 1 ≤ (1 : Int) ∧ 1 ≤ ml (lp y) 1 := by unfold ml; omega
set_option maxHeartbeats 8000000 in
theorem wk_cl (w : World) (y : Int) (t₁ : Tok) : Cl w 84 16 True [.int y t₁] (fun t => .int (wk y) t) := by
  unfold Cl; k_fill; intros; rename_i hret
  have hj := jan_ok y
  unfold wk at hret
  refine wpAny_call ?_
  k_dflt cell_enter
  k_steps
  all_goals cb_end hret
end Mine
namespace Mine
open PySem PySem.Spec PySem.Calls PySem.W PyProof.Rows
set_option maxRecDepth 100000
/-- what a call does that hands back a new triple of ints -/
def ClT3 (w : World) (f : Addr) (d : Nat) (pre : Prop) (vs : List Value) (x y z : Int) : Prop :=
  ∀ (mean : ExcName → Option Value) (mg mb : Str → Option Value) (dp un : Nat) (gd : Option (List Code)) (cn : Str) (cs : Scope) (a : Addr) (ccd : Value) (cl : List (Str × Addr)) (outer : List Env) (A₀ : Around) (base h₀ : Heap) (L : Addr) (m : Str → Option Value) (s : Shared) (Q E : Value → Shared → Prop) (news : List (Addr × Obj)),
    Below A₀ base outer h₀ → Fr h₀ L s.heap m → (hd.heap_39 w.params).In h₀ → News h₀ L s.heap news → Top hd.view_39 lo mean mg mb h₀ → cs.kind = .function →
    pre → dp + d < recursionLimit → un + 4 * d < cLine →
    (∀ (D : Addr) (t₁ t₂ t₃ : Tok) (c : Nat) (h' : Heap) (tk' : Nat), Fr h₀ L h' m → News h₀ L h' ((D, ({ cls := .type "tuple", data := .seq #[.int x t₁, .int y t₂, .int z t₃] c } : Obj)) :: news) → (∀ p ∈ news, p.1 < D) → Q (.ref D) { s with heap := h', toks := tk' }) →
    wpAny (model PySem.Challenge.rw_bh0010_01.row.prog w) (ktrTop dp un gd cn cs L a ccd cl outer) (call (.ref f) vs) Q E s
theorem ClT3.use {w : World} {f : Addr} {d : Nat} {pre : Prop} {vs : List Value} {x y z : Int} (C : ClT3 w f d pre vs x y z)
    {mean : ExcName → Option Value} {mg mb : Str → Option Value} {dp un : Nat} {gd : Option (List Code)} {cn : Str} {cs : Scope} {a : Addr} {ccd : Value} {cl : List (Str × Addr)} {outer : List Env} {A₀ : Around} {base h₀ : Heap} {L : Addr} {m : Str → Option Value} {s : Shared} {Q E : Value → Shared → Prop} {news : List (Addr × Obj)}
    (B : Below A₀ base outer h₀) (F : Fr h₀ L s.heap m) (X : (hd.heap_39 w.params).In h₀) (N : News h₀ L s.heap news) (T : Top hd.view_39 lo mean mg mb h₀) (hk : cs.kind = .function)
    (hp : pre) (hd' : dp + d < recursionLimit) (hu : un + 4 * d < cLine)
    (ret : ∀ (D : Addr) (t₁ t₂ t₃ : Tok) (c : Nat) (h' : Heap) (tk' : Nat), Fr h₀ L h' m → News h₀ L h' ((D, ({ cls := .type "tuple", data := .seq #[.int x t₁, .int y t₂, .int z t₃] c } : Obj)) :: news) → (∀ p ∈ news, p.1 < D) → Q (.ref D) { s with heap := h', toks := tk' }) :
    wpAny (model PySem.Challenge.rw_bh0010_01.row.prog w) (ktrTop dp un gd cn cs L a ccd cl outer) (call (.ref f) vs) Q E s :=
  C mean mg mb dp un gd cn cs a ccd cl outer A₀ base h₀ L m s Q E news B F X N T hk hp hd' hu ret
theorem clt3_end {h₀ h : Heap} {L D : Addr} {m : Str → Option Value} {news own : List (Addr × Obj)} {s : Shared} {Q : Value → Shared → Prop} {x y z x' y' z' : Int} {t₁ t₂ t₃ : Tok} {c tk : Nat}
    (hret : ∀ (D : Addr) (t₁ t₂ t₃ : Tok) (c : Nat) (h' : Heap) (tk' : Nat), Fr h₀ L h' m → News h₀ L h' ((D, ({ cls := .type "tuple", data := .seq #[.int x t₁, .int y t₂, .int z t₃] c } : Obj)) :: news) → (∀ p ∈ news, p.1 < D) → Q (.ref D) { s with heap := h', toks := tk' })
    (F : Fr h₀ L h m) (N : News h₀ L h ((D, ({ cls := .type "tuple", data := .seq #[.int x' t₁, .int y' t₂, .int z' t₃] c } : Obj)) :: own)) (hs : ∀ p ∈ news, p ∈ own) (l : AllLt D own) (ex : x' = x) (ey : y' = y) (ez : z' = z) :
    Q (.ref D) { s with heap := h, toks := tk } := by
  subst ex ey ez
  refine hret D t₁ t₂ t₃ c h tk F (fun p hp => ?_) fun p hp => allLt_in l p (hs p hp)
  rcases List.mem_cons.mp hp with rfl | hp
  · exact N _ (.head _)
  · exact N p (.tail _ (hs p hp))
/-- the first day of a month that bears a weekday -/
def f1 (y m wd : Int) : Int := 1 + (wd - (tj y m 1).fmod 7).fmod 7
/-- the day that is asked for: the nth of its kind, at nought the last -/
def nd (n f D : Int) : Int := if n = 0 then (if f + 28 ≤ D then f + 28 else f + 21) else f + (n - 1) * 7
theorem nd_cases {y m wd n : Int} (hn : 0 ≤ n ∧ n ≤ 5) (hd : nd n (f1 y m wd) (ml (lp y) m) ≤ ml (lp y) m) :
    ((n == 0) = true ∧ ([1, 2, 3] : List Int).any (fun x => x == 1 + (wd - (tj y m 1).fmod 7).fmod 7) = true ∧ 1 + (wd - (tj y m 1).fmod 7).fmod 7 + 28 ≤ ml (lp y) m ∧ nd n (f1 y m wd) (ml (lp y) m) = 1 + (wd - (tj y m 1).fmod 7).fmod 7 + (5 - 1) * 7) ∨
    ((n == 0) = true ∧ ([1, 2, 3] : List Int).any (fun x => x == 1 + (wd - (tj y m 1).fmod 7).fmod 7) = true ∧ ¬ 1 + (wd - (tj y m 1).fmod 7).fmod 7 + 28 ≤ ml (lp y) m ∧ 1 + (wd - (tj y m 1).fmod 7).fmod 7 + (4 - 1) * 7 ≤ ml (lp y) m ∧ nd n (f1 y m wd) (ml (lp y) m) = 1 + (wd - (tj y m 1).fmod 7).fmod 7 + (4 - 1) * 7) ∨
    ((n == 0) = true ∧ ([1, 2, 3] : List Int).any (fun x => x == 1 + (wd - (tj y m 1).fmod 7).fmod 7) = false ∧ 1 + (wd - (tj y m 1).fmod 7).fmod 7 + (4 - 1) * 7 ≤ ml (lp y) m ∧ nd n (f1 y m wd) (ml (lp y) m) = 1 + (wd - (tj y m 1).fmod 7).fmod 7 + (4 - 1) * 7) ∨
    ((n == 0) = false ∧ 1 + (wd - (tj y m 1).fmod 7).fmod 7 + (n - 1) * 7 ≤ ml (lp y) m ∧ nd n (f1 y m wd) (ml (lp y) m) = 1 + (wd - (tj y m 1).fmod 7).fmod 7 + (n - 1) * 7) := by
  have hD : 28 ≤ ml (lp y) m ∧ ml (lp y) m ≤ 31 := by unfold ml; repeat' split <;> omega
  have hf : 0 ≤ (wd - (tj y m 1).fmod 7).fmod 7 ∧ (wd - (tj y m 1).fmod 7).fmod 7 < 7 := ⟨Int.fmod_nonneg_of_pos _ (by decide), Int.fmod_lt_of_pos _ (by decide)⟩
  unfold f1 at hd ⊢
  generalize (wd - (tj y m 1).fmod 7).fmod 7 = q at *
  generalize ml (lp y) m = D at *
  unfold nd at hd ⊢
  simp only [List.any_cons, List.any_nil, Bool.or_false, Bool.or_eq_true, beq_iff_eq, Bool.or_eq_false_iff, beq_eq_false_iff_ne]
  by_cases h0 : n = 0
  · simp only [h0, if_true] at hd ⊢
    split at hd <;> simp_all <;> omega
  · simp only [if_neg h0] at hd ⊢
    exact .inr (.inr (.inr ⟨h0, hd, trivial⟩))
local macro_rules | `(tactic| walk_at "eval Call") => `(tactic| (k_here; (with_reducible show wpAny _ _ (eval (Expr.Call (Expr.Name (Str.ofString "monthrange") _) _ [] _) _) _ _ _); k_dflt (refine Call_ ?_)))
local macro_rules | `(tactic| walk_at "call ref") => `(tactic| (k_here; (with_reducible show wpAny _ _ (call (Value.ref 29) [Value.int _ _, Value.int _ _]) _ _ _); k_dflt (refine' (mr_cl _ _ _ _ _).use ?k1 ?k2 ?k3 ?k4 ?k5 ?kK ?kp ?kd ?ku ?_; (case k1 => k_asm); (case k2 => k_asm); (case k3 => k_asm); (case k4 => k_asm); (case k5 => k_asm); (case kK => first | exact rfl | assumption); (case kp => exact ⟨by omega, by omega⟩); (case kd => ktr_room); (case ku => ktr_units); k_whole); intro D9 t9 t9 c9 h9 tk9 F9 N9 l1; (try dsimp only); (try k_lt l1); (try k_sweep); (try k_fold)))

set_option maxHeartbeats 8000000 in
theorem nth_cl (w : World) (n wd m y : Int) (t₁ t₂ t₃ t₄ : Tok) : ClT3 w 48 12 ((0 ≤ n ∧ n ≤ 5) ∧ (0 ≤ wd ∧ wd ≤ 6) ∧ (1 ≤ m ∧ m ≤ 12) ∧ nd n (f1 y m wd) (ml (lp y) m) ≤ ml (lp y) m) [.int n t₁, .int wd t₂, .int m t₃, .int y t₄] y m (nd n (f1 y m wd) (ml (lp y) m)) := by
  unfold ClT3; k_fill; intros; rename_i hp _ _ hret
  obtain ⟨⟨a1, a2⟩, ⟨b1, b2⟩, ⟨c1, c2⟩, hd⟩ := hp
  rcases nd_cases ⟨a1, a2⟩ hd with ⟨h1, h2, h3, h4⟩ | ⟨h1, h2, h3, h4, h5⟩ | ⟨h1, h2, h4, h5⟩ | ⟨h1, h4, h5⟩
  all_goals (
    clear hd
    refine wpAny_call ?_
    k_dflt cell_enter
    k_steps
    all_goals (rename_i kF kN kT kX; refine' clt3_end hret kF kN ?k1 ?k2 ?k3 ?k4 ?k5; (case k1 => kcj_all); (case k2 => assumption); (case k3 => rfl); (case k4 => rfl); (case k5 => omega)))
end Mine
namespace Mine
open PySem PySem.Spec PySem.Calls PySem.W PyProof.Rows
set_option maxRecDepth 100000
section
variable {M : Model} {A : Around} {E : Value → Shared → Prop} {env : Env} {h₀ h : Heap} {L : Addr} {m : Str → Option Value} {news : List (Addr × Obj)} {Q : Flow → Shared → Prop} {st : Stmt} {rest : List Stmt} {g : Array GenState} {d : Drawn} {t₀ : Nat} {o : OsState}
/-- a statement's end, its ways met: one name bound anew, a word of its value -/
def CutV {α : Type} (mk : α → Tok → Value) (h₀ : Heap) (L : Addr) (m : Str → Option Value) (news : List (Addr × Obj)) (g : Array GenState) (d : Drawn) (o : OsState) (x : Str) (P : α → Prop) (f : Flow) (s' : Shared) : Prop :=
  f = .next ∧ ∃ v t h' tk', s' = ⟨h', g, d, tk', o⟩ ∧ P v ∧ Fr h₀ L h' (fun y => if y = x then some (mk v t) else m y) ∧ News h₀ L h' news
/-- the same, nothing bound -/
def CutN (h₀ : Heap) (L : Addr) (m : Str → Option Value) (news : List (Addr × Obj)) (g : Array GenState) (d : Drawn) (o : OsState) (f : Flow) (s' : Shared) : Prop :=
  f = .next ∧ ∃ h' tk', s' = ⟨h', g, d, tk', o⟩ ∧ Fr h₀ L h' m ∧ News h₀ L h' news
/-- the same, one name bound to we say not what -/
def CutX (h₀ : Heap) (L : Addr) (m : Str → Option Value) (news : List (Addr × Obj)) (g : Array GenState) (d : Drawn) (o : OsState) (x : Str) (f : Flow) (s' : Shared) : Prop :=
  f = .next ∧ ∃ v h' tk', s' = ⟨h', g, d, tk', o⟩ ∧ Fr h₀ L h' (fun y => if y = x then v else m y) ∧ News h₀ L h' news
/-- the same, a new list of ints bound -/
def CutL (h₀ : Heap) (L : Addr) (m : Str → Option Value) (news : List (Addr × Obj)) (g : Array GenState) (d : Drawn) (o : OsState) (x : Str) (P : List Int → Prop) (f : Flow) (s' : Shared) : Prop :=
  f = .next ∧ ∃ (ns : List Int) (vs : List Value) (D : Addr) (c : Nat) (h' : Heap) (tk' : Nat), s' = ⟨h', g, d, tk', o⟩ ∧ P ns ∧ IntsAre vs ns ∧ Fr h₀ L h' (fun y => if y = x then some (.ref D) else m y) ∧ News h₀ L h' ((D, listOf vs.toArray c) :: news) ∧ (∀ p ∈ news, p.1 ≠ D)
/-- a statement's end: one cell of the ledger bound anew to an int -/
def CutC (h₀ : Heap) (L : Addr) (m : Str → Option Value) (a : Addr) (g : Array GenState) (d : Drawn) (o : OsState) (v : Int) (f : Flow) (s' : Shared) : Prop :=
  f = .next ∧ ∃ (ob : Obj) (t : Tok) (h' : Heap) (tk' : Nat), s' = ⟨h', g, d, tk', o⟩ ∧ ob.data = .cell (some (.int v t)) ∧ Fr h₀ L h' m ∧ News h₀ L h' [(a, ob)]
theorem cutV_go {α : Type} (mk : α → Tok → Value) (x : Str) (P : α → Prop) (_F : Fr h₀ L h m) (_N : News h₀ L h news) (h1 : wpAny M A (exec st env) (CutV mk h₀ L m news g d o x P) E ⟨h, g, d, t₀, o⟩)
    (h2 : ∀ v t h' tk', P v → Fr h₀ L h' (fun y => if y = x then some (mk v t) else m y) → News h₀ L h' news → wpAny M A (execs rest env) Q E ⟨h', g, d, tk', o⟩) : wpAny M A (execs (st :: rest) env) Q E ⟨h, g, d, t₀, o⟩ := by
  refine wpAny_execs_cons (wpAny_mono h1 (fun f s' q => ?_) fun _ _ q => q)
  obtain ⟨rfl, v, t, h', tk', rfl, hP, F, N⟩ := q
  exact h2 v t h' tk' hP F N
theorem cutV_end {α : Type} {mk : α → Tok → Value} {x : Str} {P : α → Prop} {h' : Heap} {tk' : Nat} {v : α} {t : Tok} {own : List (Addr × Obj)} (F : Fr h₀ L h' (fun y => if y = x then some (mk v t) else m y)) (N : News h₀ L h' own) (hs : ∀ p ∈ news, p ∈ own) (hP : P v) :
    CutV mk h₀ L m news g d o x P .next ⟨h', g, d, tk', o⟩ := ⟨rfl, v, t, h', tk', rfl, hP, F, fun p hp => N p (hs p hp)⟩
theorem cutN_go (_F : Fr h₀ L h m) (_N : News h₀ L h news) (h1 : wpAny M A (exec st env) (CutN h₀ L m news g d o) E ⟨h, g, d, t₀, o⟩)
    (h2 : ∀ h' tk', Fr h₀ L h' m → News h₀ L h' news → wpAny M A (execs rest env) Q E ⟨h', g, d, tk', o⟩) : wpAny M A (execs (st :: rest) env) Q E ⟨h, g, d, t₀, o⟩ := by
  refine wpAny_execs_cons (wpAny_mono h1 (fun f s' q => ?_) fun _ _ q => q)
  obtain ⟨rfl, h', tk', rfl, F, N⟩ := q
  exact h2 h' tk' F N
theorem cutN_end {h' : Heap} {tk' : Nat} {own : List (Addr × Obj)} (F : Fr h₀ L h' m) (N : News h₀ L h' own) (hs : ∀ p ∈ news, p ∈ own) :
    CutN h₀ L m news g d o .next ⟨h', g, d, tk', o⟩ := ⟨rfl, h', tk', rfl, F, fun p hp => N p (hs p hp)⟩
/-- a statement's end, and then -/
def Then (W : Shared → Prop) (f : Flow) (s' : Shared) : Prop := f = .next ∧ W s'
/-- two statements at once -/
theorem cutX_go {st2 : Stmt} (x : Str) (_F : Fr h₀ L h m) (_N : News h₀ L h news) (h1 : wpAny M A (exec st env) (Then fun s' => wpAny M A (exec st2 env) (CutX h₀ L m news g d o x) E s') E ⟨h, g, d, t₀, o⟩)
    (h2 : ∀ v h' tk', Fr h₀ L h' (fun y => if y = x then v else m y) → News h₀ L h' news → wpAny M A (execs rest env) Q E ⟨h', g, d, tk', o⟩) : wpAny M A (execs (st :: st2 :: rest) env) Q E ⟨h, g, d, t₀, o⟩ := by
  refine wpAny_execs_cons (wpAny_mono h1 (fun f s' q => ?_) fun _ _ q => q)
  obtain ⟨rfl, q⟩ := q
  refine wpAny_execs_cons (wpAny_mono q (fun f s' q => ?_) fun _ _ q => q)
  obtain ⟨rfl, v, h', tk', rfl, F, N⟩ := q
  exact h2 v h' tk' F N
theorem cutX_end {x : Str} {h' : Heap} {tk' : Nat} {v : Option Value} {own : List (Addr × Obj)} (F : Fr h₀ L h' (fun y => if y = x then v else m y)) (N : News h₀ L h' own) (hs : ∀ p ∈ news, p ∈ own) :
    CutX h₀ L m news g d o x .next ⟨h', g, d, tk', o⟩ := ⟨rfl, v, h', tk', rfl, F, fun p hp => N p (hs p hp)⟩
theorem cutL_go (x : Str) (P : List Int → Prop) (_F : Fr h₀ L h m) (_N : News h₀ L h news) (h1 : wpAny M A (exec st env) (CutL h₀ L m news g d o x P) E ⟨h, g, d, t₀, o⟩)
    (h2 : ∀ ns vs D c h' tk', P ns → IntsAre vs ns → Fr h₀ L h' (fun y => if y = x then some (.ref D) else m y) → News h₀ L h' ((D, listOf vs.toArray c) :: news) → (∀ p ∈ news, p.1 ≠ D) → wpAny M A (execs rest env) Q E ⟨h', g, d, tk', o⟩) : wpAny M A (execs (st :: rest) env) Q E ⟨h, g, d, t₀, o⟩ := by
  refine wpAny_execs_cons (wpAny_mono h1 (fun f s' q => ?_) fun _ _ q => q)
  obtain ⟨rfl, ns, vs, D, c, h', tk', rfl, hP, hi, F, N, hl⟩ := q
  exact h2 ns vs D c h' tk' hP hi F N hl
theorem cutL_end {x : Str} {P : List Int → Prop} {h' : Heap} {tk' : Nat} {vs : List Value} {ns : List Int} {D : Addr} {c : Nat} {own : List (Addr × Obj)} (F : Fr h₀ L h' (fun y => if y = x then some (.ref D) else m y)) (N : News h₀ L h' ((D, listOf vs.toArray c) :: own)) (hs : ∀ p ∈ news, p ∈ own) (l : ∀ p ∈ news, p.1 ≠ D) (hi : IntsAre vs ns) (hP : P ns) :
    CutL h₀ L m news g d o x P .next ⟨h', g, d, tk', o⟩ := by
  refine ⟨rfl, ns, vs, D, c, h', tk', rfl, hP, hi, F, fun p hp => ?_, l⟩
  rcases List.mem_cons.mp hp with rfl | hp
  · exact N _ (.head _)
  · exact N p (.tail _ (hs p hp))
theorem cutC_go {a : Addr} {o₀ : Obj} (v : Int) (_F : Fr h₀ L h m) (_N : News h₀ L h [(a, o₀)])
    (h1 : wpAny M A (exec st env) (CutC h₀ L m a g d o v) E ⟨h, g, d, t₀, o⟩)
    (h2 : ∀ ob t h' tk', ob.data = .cell (some (.int v t)) → Fr h₀ L h' m → News h₀ L h' [(a, ob)] → wpAny M A (execs rest env) Q E ⟨h', g, d, tk', o⟩) : wpAny M A (execs (st :: rest) env) Q E ⟨h, g, d, t₀, o⟩ := by
  refine wpAny_execs_cons (wpAny_mono h1 (fun f s' q => ?_) fun _ _ q => q)
  obtain ⟨rfl, ob, t, h', tk', rfl, hd, F, N⟩ := q
  exact h2 ob t h' tk' hd F N
theorem cutC_end {a : Addr} {v v' : Int} {ob : Obj} {t : Tok} {h' : Heap} {tk' : Nat} (hd : ob.data = .cell (some (.int v' t))) (F : Fr h₀ L h' m) (N : News h₀ L h' [(a, ob)]) (e : v' = v) :
    CutC h₀ L m a g d o v .next ⟨h', g, d, tk', o⟩ := by subst e; exact ⟨rfl, ob, t, h', tk', rfl, hd, F, N⟩
end
/-- the walk stops here -/
def Held (P : Prop) : Prop := P
/-- a turn's end: the ledger stands, and so does every name that the loop does not store -/
def TurnPost (h₀ : Heap) (L : Addr) (led : List (Addr × Obj)) (x : Str) (stored : List Str) (m₀ : Str → Option Value) (g : Array GenState) (d : Drawn) (o : OsState) (f : Flow) (s' : Shared) : Prop :=
  f = .next ∧ ∃ h' tk' m', s' = ⟨h', g, d, tk', o⟩ ∧ Fr h₀ L h' m' ∧ News h₀ L h' led ∧ ∀ z, z ≠ x → stored.contains z = false → m' z = m₀ z
theorem loop_for {prog : Program} {w : World} {A : Around} {E : Value → Shared → Prop} {h : Heap} {g : Array GenState} {d : Drawn} {tq : Nat} {o : OsState} {env : Env} {h₀ : Heap} {x : Str} {body : List Stmt} {Q : Flow → Shared → Prop} {r : Addr} {a₀ b₀ : Int} {t₀ u₀ v₀ : Tok} {n : Nat} {m₀ : Str → Option Value} {led : List (Addr × Obj)} {L : Addr} (stored : List Str) (hL : env.locals = L)
    (hh : A.handled = none) (hr : IsRange h r a₀ b₀ 1 t₀ u₀ v₀) (hsmall : Builtin.Range.small a₀ b₀ 1 = true) (hn : Builtin.Range.rangeSize a₀ b₀ 1 = (n : Int)) (F : Fr h₀ L h m₀) (N : News h₀ L h led)
    (turn : Held (∀ (k : Int) t (u : Str → Option Value) h tk own, a₀ ≤ k → k < a₀ + n →
      Fr h₀ L h (fun y => if y = x then some (.int k t) else if stored.contains y then u y else m₀ y) → News h₀ L h (led ++ own) →
      wpAny (model prog w) A (execs body env) (TurnPost h₀ L (led ++ own) x stored m₀ g d o) E ⟨h, g, d, tk, o⟩))
    (done : Held (∀ (u : Str → Option Value) h tk, Fr h₀ L h (fun y => if y = x then u y else if stored.contains y then u y else m₀ y) → News h₀ L h led → Q .next ⟨h, g, d, tk, o⟩)) :
    wpAny (model prog w) A (pyIter (.ref r)) (fun it s₂ => LoopAtV prog w A h₀ env x body Q E it s₂) E ⟨h, g, d, tq, o⟩ := by
  subst hL
  refine kst_range (s := ⟨h, g, d, tq, o⟩) (σ := Unit) (fun _ => led) (fun _ => []) (fun _ => True) stored (fun _ _ => True) () hh hr hsmall hn F N trivial (fun _ h => nomatch h) trivial ?_ ?_
  · intro c pre k t u h tk own hk hlt hoff _ _ F1 N1
    refine wpAny_mono (turn k t u h tk own (by omega) (by omega) F1 N1) (fun f s' hp => ?_) fun _ _ h => h
    obtain ⟨rfl, h', tk', m', rfl, F2, N2, hz⟩ := hp
    exact kst_end (s₁ := ⟨h, g, d, tk, o⟩) () F2 N2 (fun p hp => List.mem_append_left _ hp) (fun p hp => List.mem_append_right _ hp) rfl trivial (fun _ h => nomatch h) (fun z h1 _ h3 => hz z h1 h3) trivial
  · intro c u h tk _ _ F1 N1
    exact done u h tk F1 N1
theorem turn_end {h₀ : Heap} {L : Addr} {led own : List (Addr × Obj)} {x : Str} {stored : List Str} {m₀ m' : Str → Option Value} {g : Array GenState} {d : Drawn} {o : OsState} {h' : Heap} {tk' : Nat} (F : Fr h₀ L h' m') (N : News h₀ L h' own) (hs : ∀ p ∈ led, p ∈ own) (hz : ∀ z, z ≠ x → stored.contains z = false → m' z = m₀ z) :
    TurnPost h₀ L led x stored m₀ g d o .next ⟨h', g, d, tk', o⟩ := ⟨rfl, h', tk', m', rfl, F, fun p hp => N p (hs p hp), hz⟩
end Mine
namespace Mine
open PySem PySem.Spec PySem.Calls PySem.W PyProof.Rows
set_option maxRecDepth 100000
/-- the law's days: one of each month -/
def dk (k : Int) : Int := ([3, 28, 7, 4, 9, 6, 11, 8, 5, 10, 7, 12] : List Int).getD (k - 1).toNat 0
/-- the ruling weekday -/
def ru (y : Int) : Int := (y + y.fdiv 4 - y.fdiv 100 + y.fdiv 400 + 1).fmod 7
def ro (y : Int) : Int := (y + y.fdiv 4 + 6).fmod 7
/-- the day of the law in the Gregorian month, and in the Julian one -/
def dg (y k : Int) : Int := dk k + (if lp y = true ∧ k < 3 then 1 else 0)
def dj (y k : Int) : Int := dk k + (if lj y = true ∧ k < 3 then 1 else 0)
theorem twelve {k : Int} (h : 1 ≤ k ∧ k ≤ 12) : k = 1 ∨ k = 2 ∨ k = 3 ∨ k = 4 ∨ k = 5 ∨ k = 6 ∨ k = 7 ∨ k = 8 ∨ k = 9 ∨ k = 10 ∨ k = 11 ∨ k = 12 := by omega
theorem lp_T {y : Int} (h : lp y = true) : y % 4 = 0 ∧ (y % 100 ≠ 0 ∨ y % 400 = 0) := by
  unfold lp at h
  rw [Int.fmod_eq_emod_of_nonneg _ (by decide), Int.fmod_eq_emod_of_nonneg _ (by decide), Int.fmod_eq_emod_of_nonneg _ (by decide)] at h
  simpa using h
theorem lp_F {y : Int} (h : lp y = false) : y % 4 ≠ 0 ∨ (y % 100 = 0 ∧ y % 400 ≠ 0) := by
  unfold lp at h
  rw [Int.fmod_eq_emod_of_nonneg _ (by decide), Int.fmod_eq_emod_of_nonneg _ (by decide), Int.fmod_eq_emod_of_nonneg _ (by decide)] at h
  simp at h
  by_cases h4 : y % 4 = 0
  · exact .inr (by simpa using h (by omega))
  · exact .inl h4
theorem lj_T {y : Int} (h : lj y = true) : y % 4 = 0 := by
  unfold lj at h
  rw [Int.fmod_eq_emod_of_nonneg _ (by decide)] at h
  simpa using h
theorem lj_F {y : Int} (h : lj y = false) : y % 4 ≠ 0 := by
  unfold lj at h
  rw [Int.fmod_eq_emod_of_nonneg _ (by decide)] at h
  simpa using h
theorem ru_em (y : Int) : ru y = (y + y / 4 - y / 100 + y / 400 + 1) % 7 := by
  unfold ru
  rw [Int.fmod_eq_emod_of_nonneg _ (by decide), Int.fdiv_eq_ediv_of_nonneg _ (by decide), Int.fdiv_eq_ediv_of_nonneg _ (by decide), Int.fdiv_eq_ediv_of_nonneg _ (by decide)]
theorem ro_em (y : Int) : ro y = (y + y / 4 + 6) % 7 := by
  unfold ro
  rw [Int.fmod_eq_emod_of_nonneg _ (by decide), Int.fdiv_eq_ediv_of_nonneg _ (by decide)]
theorem ru_lt (y : Int) : 0 ≤ ru y ∧ ru y ≤ 6 := by rw [ru_em]; omega
/-- the leap days before a year -/
theorem yq (y : Int) : (y - 1) / 4 - (y - 1) / 100 + (y - 1) / 400 = y / 4 - y / 100 + y / 400 - (if lp y = true then 1 else 0) := by
  have h4 : (y - 1) / 4 = if y % 4 = 0 then y / 4 - 1 else y / 4 := by split <;> omega
  have h100 : (y - 1) / 100 = if y % 100 = 0 then y / 100 - 1 else y / 100 := by split <;> omega
  have h400 : (y - 1) / 400 = if y % 400 = 0 then y / 400 - 1 else y / 400 := by split <;> omega
  rw [h4, h100, h400]
  cases hb : lp y
  · have := lp_F hb
    repeat' split
    all_goals first | omega | contradiction
  · have := lp_T hb
    repeat' split
    all_goals first | omega | contradiction
theorem tj_em (y m d : Int) : tj y m d = 1721425 + 365 * (y - 1) + (y / 4 - y / 100 + y / 400 - (if lp y = true then 1 else 0)) + ((367 * m - 362) / 12 + (if m ≤ 2 then 0 else if lp y then -1 else -2) + d) := by
  unfold tj
  rw [Int.fdiv_eq_ediv_of_nonneg _ (by decide), Int.fdiv_eq_ediv_of_nonneg _ (by decide), Int.fdiv_eq_ediv_of_nonneg _ (by decide), Int.fdiv_eq_ediv_of_nonneg _ (by decide)]
  have := yq y
  omega
theorem tu_em (y m d : Int) : tu y m d = if m ≤ 2 then 365 * (y - 1) + (y / 4 - (if lj y = true then 1 else 0)) + 1722519 + (306001 * (m + 12 + 1)) / 10000 + d - 1524 else 365 * y + y / 4 + 1722519 + (306001 * (m + 1)) / 10000 + d - 1524 := by
  unfold tu
  rw [Int.fdiv_eq_ediv_of_nonneg _ (by decide), Int.fdiv_eq_ediv_of_nonneg _ (by decide), Int.fdiv_eq_ediv_of_nonneg _ (by decide), Int.fdiv_eq_ediv_of_nonneg _ (by decide)]
  have e1 : 1461 * (y - 1 + 4716) / 4 = 365 * (y - 1) + (y - 1) / 4 + 1722519 := by omega
  have e2 : 1461 * (y + 4716) / 4 = 365 * y + y / 4 + 1722519 := by omega
  have e3 : (y - 1) / 4 = y / 4 - (if lj y = true then 1 else 0) := by
    cases hb : lj y
    · have := lj_F hb
      simp; omega
    · have := lj_T hb
      simp; omega
  rw [e1, e2, e3]
set_option maxHeartbeats 4000000 in
/-- the law's day of a Gregorian month bears the ruling weekday -/
theorem law_g {y k : Int} (h : 1 ≤ k ∧ k ≤ 12) : (tj y k (dg y k)).fmod 7 = ru y := by
  rw [Int.fmod_eq_emod_of_nonneg _ (by decide), ru_em, tj_em]
  unfold dg dk
  cases hb : lp y
  · have hy := lp_F hb
    rcases twelve h with rfl | rfl | rfl | rfl | rfl | rfl | rfl | rfl | rfl | rfl | rfl | rfl <;> simp <;> omega
  · have hy := lp_T hb
    rcases twelve h with rfl | rfl | rfl | rfl | rfl | rfl | rfl | rfl | rfl | rfl | rfl | rfl <;> simp <;> omega
set_option maxHeartbeats 4000000 in
theorem law_j {y k : Int} (h : 1 ≤ k ∧ k ≤ 12) : (tu y k (dj y k)).fmod 7 = ro y := by
  rw [Int.fmod_eq_emod_of_nonneg _ (by decide), ro_em, tu_em]
  unfold dj dk
  cases hb : lj y
  · have hy := lj_F hb
    rcases twelve h with rfl | rfl | rfl | rfl | rfl | rfl | rfl | rfl | rfl | rfl | rfl | rfl <;> simp <;> omega
  · have hy := lj_T hb
    rcases twelve h with rfl | rfl | rfl | rfl | rfl | rfl | rfl | rfl | rfl | rfl | rfl | rfl <;> simp <;> omega
theorem law_gv {y k : Int} (h : 1 ≤ k ∧ k ≤ 12) : 1 ≤ dg y k ∧ dg y k ≤ ml (lp y) k := by
  unfold dg dk
  cases lp y <;> rcases twelve h with rfl | rfl | rfl | rfl | rfl | rfl | rfl | rfl | rfl | rfl | rfl | rfl <;> decide
theorem law_jv {y k : Int} (h : 1 ≤ k ∧ k ≤ 12) : 1 ≤ dj y k ∧ dj y k ≤ ml (lj y) k := by
  unfold dj dk
  cases lj y <;> rcases twelve h with rfl | rfl | rfl | rfl | rfl | rfl | rfl | rfl | rfl | rfl | rfl | rfl <;> decide
/-- the month's first day of the ruling weekday -/
theorem law_f {y k : Int} (h : 1 ≤ k ∧ k ≤ 12) : (dg y k - 1).fmod 7 + 1 = f1 y k (ru y) := by
  have e := law_g (y := y) h
  have ht : tj y k (dg y k) = tj y k 1 + (dg y k - 1) := by rw [tj_em, tj_em]; omega
  unfold f1
  rw [← e, ht]
  rw [Int.fmod_eq_emod_of_nonneg _ (by decide), Int.fmod_eq_emod_of_nonneg _ (by decide), Int.fmod_eq_emod_of_nonneg _ (by decide), Int.fmod_eq_emod_of_nonneg _ (by decide)]
  omega
theorem f1_lt (y k wd : Int) : 1 ≤ f1 y k wd ∧ f1 y k wd ≤ 7 := by
  unfold f1
  rw [Int.fmod_eq_emod_of_nonneg _ (by decide)]
  omega
theorem ml_lt (b : Bool) (k : Int) : 28 ≤ ml b k ∧ ml b k ≤ 31 := by unfold ml; repeat' split <;> omega
theorem span_g (y : Int) : tj y 12 12 - tj y 1 (if lp y = true then 4 else 3) = 343 := by
  rw [tj_em, tj_em]
  cases hb : lp y <;> simp <;> omega
theorem span_j (y : Int) : tu y 12 12 - tu y 1 (if lj y = true then 4 else 3) = 343 := by
  rw [tu_em, tu_em]
  cases hb : lj y
  · have := lj_F hb
    simp; omega
  · have := lj_T hb
    simp; omega
/-- the weeks, told by the ruling weekday -/
theorem law_w (y : Int) : wk y = if (3 = (ru y - (if lp y = true then 3 else 2)).fmod 7 ∨ 3 = ((ru y - (if lp y = true then 3 else 2)).fmod 7 + (if lp y = true then 1 else 0)).fmod 7) then 53 else 52 := by
  have e : (tj y 1 1).fmod 7 = (ru y - (if lp y = true then 3 else 2)).fmod 7 := by
    rw [Int.fmod_eq_emod_of_nonneg _ (by decide), Int.fmod_eq_emod_of_nonneg _ (by decide), ru_em, tj_em]
    cases hb : lp y
    · have := lp_F hb
      simp; omega
    · have := lp_T hb
      simp; omega
  unfold wk
  rw [e]
  have hq : ∀ q : Int, q.fmod 7 = q % 7 := fun q => Int.fmod_eq_emod_of_nonneg _ (by decide)
  rw [hq, hq]
  cases lp y <;> simp <;> (split <;> split <;> omega)
end Mine
namespace Mine
open PySem PySem.Spec PySem.Calls PySem.W PyProof.Rows PyProof.Rows.LCg
set_option maxRecDepth 100000
section
variable {prog : Program} {w : World} {A : Around} {E : Value → Shared → Prop} {s : Shared} {h₀ : Heap} {L : Addr} {m : Str → Option Value} {env : Env}
theorem step_st {I : Addr} {a c : Int} {n : Nat} : ∀ i (h h' : Heap) (o : Obj) (nw : List (Addr × Obj)), IsRangeIter h I (a + (i : Nat) * c) ((n : Int) - (i : Nat)) c → h.get? I = some o → h'.get? I = some o → (∀ b o, h₀.get? b = some o → h'.get? b = some o) → News h₀ L h' nw → True → IsRangeIter h' I (a + (i : Nat) * c) ((n : Int) - (i : Nat)) c :=
  fun i h h' o nw st e e' _ _ _ => by
    have st' : h.get? I = some _ := st
    show h'.get? I = some _
    rw [e', ← e]; exact st'
/-- the source of a comprehension: a range with a step -/
def SrcS (prog : Program) (w : World) (A : Around) (h₀ : Heap) (L : Addr) (m : Str → Option Value) (env : Env) (elt : Expr) (x : Str) (scope : Scope) (cl : List (Str × Addr)) (Fin : Shared → List Value → List (Addr × Obj) → Prop) (xv : Value) (s₁ : Shared) : Prop :=
  ∃ r a b c t u v n news, xv = .ref r ∧ A.handled = none ∧ Fr h₀ L s₁.heap m ∧ News h₀ L s₁.heap news ∧ IsRange s₁.heap r a b c t u v ∧ Builtin.Range.small a b c = true ∧ Builtin.Range.rangeSize a b c = ((n : Nat) : Int) ∧ n ≤ sizeLine ∧
    ∀ s₂ : Shared, (∃ h, s₂ = { s₁ with heap := h }) → CompRest prog w A h₀ L m env elt x scope cl s₂ (fun _ => True) (fun i v => ∃ t, v = .int (a + (i : Int) * c) t) (Fin s₂) n 0 [] news
theorem SrcS.intro {elt : Expr} {x : Str} {scope : Scope} {cl : List (Str × Addr)} {Fin : Shared → List Value → List (Addr × Obj) → Prop} {r : Addr} {a b c : Int} {t u v : Tok} {n : Nat} {news : List (Addr × Obj)} {s₁ : Shared}
    (hh : A.handled = none) (F : Fr h₀ L s₁.heap m) (N : News h₀ L s₁.heap news) (hr : IsRange s₁.heap r a b c t u v) (hsm : Builtin.Range.small a b c = true) (hn : Builtin.Range.rangeSize a b c = ((n : Nat) : Int)) (hsz : n ≤ sizeLine)
    (h : ∀ g, CompRest prog w A h₀ L m env elt x scope cl { s₁ with heap := g } (fun _ => True) (fun i v => ∃ t, v = .int (a + (i : Int) * c) t) (Fin { s₁ with heap := g }) n 0 [] news) :
    SrcS prog w A h₀ L m env elt x scope cl Fin (.ref r) s₁ := ⟨r, a, b, c, t, u, v, n, news, rfl, hh, F, N, hr, hsm, hn, hsz, fun _ ⟨g, e⟩ => e ▸ h g⟩
theorem comp_S {elt iter : Expr} {x : Str} {px : Pos} {scope : Scope} {cl : List (Str × Addr)} {pos : Pos} {Q : Value → Shared → Prop} (_F₀ : Fr h₀ L s.heap m)
    (hclos : closureFor scope env = pure cl) (hcell : ∀ y ∈ scope.names, y.2 ≠ .cell) (hkind : scope.kind = .function)
    (hnames : ∀ y ∈ scope.names, y.2 = .local → scope.names.lookup y.1 = some .local) (hx : scope.names.lookup x = some .local)
    (h : wpAny (model prog w) A (eval iter env) (SrcS prog w A h₀ L m env elt x scope cl (fun s₂ => FinE h₀ L m s₂ Q)) E s)
    (hs : ∀ x, foldedSetIterable iter env x = pure x) :
    wpAny (model prog w) A (eval (.ListComp elt [⟨.Name x px, iter, [], 0⟩] scope pos) env) Q E s := by
  rw [eval_ListComp]
  refine wpAny_comprehension_free (use := none) rfl hs hclos hkind hnames (wpAny_mono h (fun xv s₁ h₁ => ?_) fun _ _ e => e)
  obtain ⟨r, a, b, c, t, u, v, n, news, rfl, hh, F, N, hr, hsm, hn, hsz, R⟩ := h₁
  refine wpAny_pyIter_range hr hsm ?_
  refine block_U (Walks.range hh _ a c n) hsz (fun i h st => ⟨_, st⟩) step_st hcell hkind hx (by show IsRangeIter _ _ _ _ _; rw [hn]; simpa using Heap.get?_push_size _ rfl) (fun b hb => ?_)
    (F.keeps fun _ _ e => Heap.get?_push_of_some _ e) (N.grown fun _ _ e => Heap.get?_push_of_some _ e) (Nat.ne_of_lt F.ns.lt) (next_is_new F) (fun p hp => Nat.ne_of_lt (Heap.lt_size (N p hp).1)) trivial (R _ ⟨_, rfl⟩) ?_
  · rw [List.mem_singleton.mp hb]
    show s₁.heap.objs.size < (s₁.heap.push _).objs.size
    rw [Heap.size_push]; exact Nat.lt_succ_self _
  · intro D C h tk m' ys news' F' N' o1 hn' hC₀ hD₀ hCL hDL hCD offC fin
    refine ⟨m', hn', fun h'' hs'' => fin D h'' tk (F'.change hs'' hCL hC₀) (fun p hp => ?_) o1⟩
    refine ⟨hs''.extBut _ _ ?_ (N' p hp).1, (N' p hp).2⟩
    rcases List.mem_cons.mp hp with rfl | hp
    · exact Ne.symm hCD
    · exact offC p hp
theorem asg_S {elt iter : Expr} {x y : Str} {px py : Pos} {scope : Scope} {cl : List (Str × Addr)} {pos spos : Pos} {Q : Flow → Shared → Prop} (_F₀ : Fr h₀ L s.heap m) (hLe : env.locals = L)
    (hsw : swapsWith (.ListComp elt [⟨.Name x px, iter, [], 0⟩] scope pos) (some (.Name y py)) spos.line env = pure true)
    (hclos : closureFor scope env = pure cl) (hcell : ∀ z ∈ scope.names, z.2 ≠ .cell) (hkind : scope.kind = .function)
    (hnames : ∀ z ∈ scope.names, z.2 = .local → scope.names.lookup z.1 = some .local) (hx : scope.names.lookup x = some .local)
    (hy : env.kindOf y = some .local) (hp : (env.scope.kind == .class || (env.scope.kind == .module && env.locals != env.globals)) = false)
    (h : wpAny (model prog w) A (eval iter env) (SrcS prog w A h₀ L m env elt x scope cl (fun s₂ => FinA h₀ L m s₂ y Q)) E s)
    (hs : ∀ x, foldedSetIterable iter env x = pure x) :
    wpAny (model prog w) A (exec (.Assign [.Name y py] (.ListComp elt [⟨.Name x px, iter, [], 0⟩] scope pos) spos) env) Q E s := by
  subst hLe
  rw [exec_Assign_Name_used _ _ _ _ hsw]
  refine wpAny_bind (wpAny_standAt (wpAny_bind ?_))
  show wpAny _ A (do let _ ← comprehension (.ListComp elt [⟨.Name x px, iter, [], 0⟩] scope pos) scope env _ (newList []) false (eval iter env) (some (assign (.Name y py) env))) _ _ s
  refine wpAny_bind (wpAny_mono (wpAny_comprehension_free (use := some (assign (.Name y py) env)) (Q := fun _ s' => Q .next s') rfl hs hclos hkind hnames
    (wpAny_mono h (fun xv s₁ h₁ => ?_) fun _ _ e => e)) (fun _ s' hq => wpAny_pure (wpAny_pure hq)) fun _ _ e => e)
  obtain ⟨r, a, b, c, t, u, v, n, news, rfl, hh, F, N, hr, hsm, hn, hsz, R⟩ := h₁
  refine wpAny_pyIter_range hr hsm ?_
  refine block_U (Walks.range hh _ a c n) hsz (fun i h st => ⟨_, st⟩) step_st hcell hkind hx (by show IsRangeIter _ _ _ _ _; rw [hn]; simpa using Heap.get?_push_size _ rfl) (fun b hb => ?_)
    (F.keeps fun _ _ e => Heap.get?_push_of_some _ e) (N.grown fun _ _ e => Heap.get?_push_of_some _ e) (Nat.ne_of_lt F.ns.lt) (next_is_new F) (fun p hp => Nat.ne_of_lt (Heap.lt_size (N p hp).1)) trivial (R _ ⟨_, rfl⟩) ?_
  · rw [List.mem_singleton.mp hb]
    show s₁.heap.objs.size < (s₁.heap.push _).objs.size
    rw [Heap.size_push]; exact Nat.lt_succ_self _
  · intro D C h' tk m' ys news' F' N' o1 hn' hC₀ hD₀ hCL hDL hCD offC fin
    show wpAny _ A (assign (.Name y py) env (.ref D)) _ _ _
    refine wpAny_assign_Name (wpAny_storeName_local hy F'.ns (fun h₂ hn₂ hs₂ => ?_) hp)
    have hL₀ : h₀.get? env.locals = none := Heap.get?_none_of_le F'.above
    have F₂ : Fr h₀ env.locals h₂ (fun z => if z = y then some (.ref D) else m z) := ⟨hn₂, fun b o e => hs₂.extBut b o (fun q => by rw [q, hL₀] at e; cases e) (F'.keep b o e), F'.above⟩
    refine ⟨m', hn'.sameBut hs₂ hCL, fun h'' hs'' => fin D h'' _ (F₂.change hs'' hCL hC₀) (fun p hp => ?_) o1⟩
    have z : h₂.get? p.1 = some p.2 := hs₂.extBut _ _ (N' p hp).2.1 (N' p hp).1
    refine ⟨hs''.extBut _ _ ?_ z, (N' p hp).2⟩
    rcases List.mem_cons.mp hp with rfl | hp
    · exact Ne.symm hCD
    · exact offC p hp

/-- the days by sevens from a first one -/
def al (f D : Int) : List Int := if f + 28 ≤ D then [f, f + 7, f + 14, f + 21, f + 28] else [f, f + 7, f + 14, f + 21]
def MineIs (f D : Int) (ns : List Int) : Prop := ns = al f D
theorem ints_snoc : ∀ {vs : List Value} {ns : List Int}, IntsAre vs ns → ∀ (n : Int) (t : Tok), IntsAre (vs ++ [.int n t]) (ns ++ [n])
  | _, _, .nil, n, t => .cons n t .nil
  | _, _, .cons k u r, n, t => .cons k u (ints_snoc r n t)
theorem rest_id {x : Str} {px : Pos} {scope : Scope} {cl : List (Str × Addr)} {Fin : List Value → List (Addr × Obj) → Prop} {news : List (Addr × Obj)} {a c : Int}
    (hk : ∀ C, (compEnvC scope cl C env).scope.kind = .function) (hl : ∀ C, (compEnvC scope cl C env).kindOf x = some .local) (hd : (x == ("__debug__" : Str)) = false) :
    ∀ (k i : Nat) (ys : List Value) (ms : List Int), IntsAre ys ms → (∀ ys', IntsAre ys' (ms ++ (List.range' i k).map (fun (j : Nat) => a + (j : Int) * c)) → Fin ys' news) →
      CompRest prog w A h₀ L m env (.Name x px) x scope cl s (fun _ => True) (fun i v => ∃ t, v = .int (a + (i : Int) * c) t) Fin k i ys news
  | 0, i, ys, ms, hi, fin => CompRest.zero (fin ys (by simpa using hi))
  | k + 1, i, ys, ms, hi, fin => by
    refine CompRest.succ fun v I oI C oC D m₂ h tk E' hP hns hm F N off ne => ?_
    obtain ⟨t, rfl⟩ := hP
    have hN : (⟨h, s.gens, s.drawn, tk, s.os⟩ : Shared).heap.Ns (compEnvC scope cl C env).locals m₂ := NsObj.ns hns (N _ (.tail _ (.head _))).1
    refine ldVarK hN hm ?_ (hk C) (hl C) hd
    refine CompEnd.intro F N news (fun p hp => hp) off trivial ?_
    refine rest_id hk hl hd k (i + 1) _ _ (ints_snoc hi _ t) fun ys' h' => fin ys' ?_
    rw [List.range'_succ, List.map_cons]
    simpa using h'
theorem small7 {a b : Int} (ha : 0 ≤ a ∧ a < 100) (hb : 0 ≤ b ∧ b < 100) : Builtin.Range.small a b 7 = true := by
  have hs : 0 ≤ Builtin.Range.rangeSize a b 7 ∧ Builtin.Range.rangeSize a b 7 < 100 := by
    unfold Builtin.Range.rangeSize
    rw [if_pos (by decide)]
    split <;> omega
  unfold Builtin.Range.small
  simp only [Builtin.Range.rangeFitsLong, Bool.and_eq_true, Bool.or_eq_true, decide_eq_true_eq, beq_iff_eq, show (7 : Int) > 0 by decide, if_true]
  omega
theorem size7 {f D : Int} (h1 : 1 ≤ f ∧ f ≤ 7) (h2 : 28 ≤ D ∧ D ≤ 31) : Builtin.Range.rangeSize f (D + 1) 7 = (((if f + 28 ≤ D then 5 else 4 : Nat) : Nat) : Int) := by
  unfold Builtin.Range.rangeSize
  rw [if_pos (by decide), if_pos (by omega)]
  split <;> omega
theorem al_range (f D : Int) : (List.range' 0 (if f + 28 ≤ D then 5 else 4)).map (fun (j : Nat) => f + (j : Int) * 7) = al f D := by
  unfold al
  split <;> simp [List.range'] <;> omega
/-- a comprehension's source: the days by sevens of a month -/
theorem src_mine {x : Str} {px : Pos} {scope : Scope} {cl : List (Str × Addr)} {Fin : Shared → List Value → List (Addr × Obj) → Prop} {r : Addr} {f D : Int} {t u v : Tok} {news : List (Addr × Obj)} {s₁ : Shared}
    (hh : A.handled = none) (hk : ∀ C, (compEnvC scope cl C env).scope.kind = .function) (hl : ∀ C, (compEnvC scope cl C env).kindOf x = some .local) (hd : (x == ("__debug__" : Str)) = false)
    (F : Fr h₀ L s₁.heap m) (N : News h₀ L s₁.heap news) (hr : IsRange s₁.heap r f (D + 1) 7 t u v) (h1 : 1 ≤ f ∧ f ≤ 7) (h2 : 28 ≤ D ∧ D ≤ 31)
    (h : ∀ g vs, IntsAre vs (al f D) → Fin { s₁ with heap := g } vs news) :
    SrcS prog w A h₀ L m env (.Name x px) x scope cl Fin (.ref r) s₁ := by
  refine SrcS.intro hh F N hr (small7 (by omega) (by omega)) (size7 h1 h2) (by have : sizeLine = 16777216 := sizeLine_eq; split <;> omega) fun g => ?_
  refine rest_id hk hl hd _ 0 [] [] .nil fun ys' h' => h g ys' ?_
  rw [List.nil_append, al_range] at h'
  exact h'
theorem off1_ne {D : Addr} : ∀ {l : List (Addr × Obj)}, Off1 D l → ∀ p ∈ l, p.1 ≠ D
  | [], _, _, hp => nomatch hp
  | q :: r, h, p, hp => by
    rcases List.mem_cons.mp hp with rfl | hp
    · exact h.1
    · exact off1_ne h.2 p hp
theorem nth_z (w : World) (n wd m y z : Int) (t₁ t₂ t₃ t₄ : Tok) (hz : nd n (f1 y m wd) (ml (lp y) m) = z) : ClT3 w 48 12 ((0 ≤ n ∧ n ≤ 5) ∧ (0 ≤ wd ∧ wd ≤ 6) ∧ (1 ≤ m ∧ m ≤ 12) ∧ z ≤ ml (lp y) m) [.int n t₁, .int wd t₂, .int m t₃, .int y t₄] y m z := by
  subst hz
  exact nth_cl w n wd m y t₁ t₂ t₃ t₄
theorem nd_mid {f D N : Int} (hN : 1 ≤ N) (h : N ≤ 4 ∨ (N = 5 ∧ f + 28 ≤ D)) : nd N f D = (al f D).getD (N - 1).toNat 0 := by
  have hc : N = 1 ∨ N = 2 ∨ N = 3 ∨ N = 4 ∨ (N = 5 ∧ f + 28 ≤ D) := by omega
  unfold nd al
  rcases hc with rfl | rfl | rfl | rfl | ⟨rfl, hf⟩
  all_goals (first | rw [if_pos hf] | skip)
  all_goals (split <;> first | contradiction | (simp <;> split <;> simp) | simp)
  all_goals omega
theorem nd_last (f D : Int) : nd 0 f D = (al f D).getD (0 - 1 + ((al f D).length : Int)).toNat 0 := by
  unfold nd al
  by_cases h : f + 28 ≤ D <;> simp [h]
theorem al_len (f D : Int) : (al f D).length = if f + 28 ≤ D then 5 else 4 := by unfold al; split <;> rfl
theorem nd_le {f D N : Int} (hf : 1 ≤ f ∧ f ≤ 7) (hD : 28 ≤ D ∧ D ≤ 31) (hN : 0 ≤ N ∧ N ≤ 5) (h : N ≤ 4 ∨ f + 28 ≤ D) : nd N f D ≤ D := by
  unfold nd; repeat' split
  all_goals omega
theorem told_cases {f D N : Int} (hf : 1 ≤ f ∧ f ≤ 7) (hD : 28 ≤ D ∧ D ≤ 31) (hN : 0 ≤ N ∧ N ≤ 5) :
    (N = 0 ∧ 4 ≤ ((al f D).length : Int) ∧ nd N f D = (al f D).getD ((0 : Int) - 1 + ((al f D).length : Int)).toNat 0 ∧ (al f D).getD ((0 : Int) - 1 + ((al f D).length : Int)).toNat 0 ≤ D) ∨
    (1 ≤ N ∧ N ≤ 4 ∧ 4 ≤ ((al f D).length : Int) ∧ nd N f D = (al f D).getD (N - 1).toNat 0 ∧ (al f D).getD (N - 1).toNat 0 ≤ D) ∨
    (N = 5 ∧ ((al f D).length : Int) = 5 ∧ nd N f D = (al f D).getD ((5 : Int) - 1).toNat 0 ∧ (al f D).getD ((5 : Int) - 1).toNat 0 ≤ D) ∨
    (N = 5 ∧ ((al f D).length : Int) = 4 ∧ D < f + 28) := by
  have hl := al_len f D
  have hl4 : 4 ≤ ((al f D).length : Int) := by rw [hl]; split <;> decide
  have hc : N = 0 ∨ (1 ≤ N ∧ N ≤ 4) ∨ (N = 5 ∧ f + 28 ≤ D) ∨ (N = 5 ∧ D < f + 28) := by omega
  rcases hc with rfl | ⟨h1, h2⟩ | ⟨rfl, h1⟩ | ⟨rfl, h1⟩
  · have hz := nd_last f D
    exact .inl ⟨rfl, hl4, hz, hz ▸ nd_le hf hD hN (by omega)⟩
  · have hz := nd_mid (f := f) (D := D) h1 (.inl h2)
    exact .inr (.inl ⟨h1, h2, hl4, hz, hz ▸ nd_le hf hD hN (by omega)⟩)
  · have hz := nd_mid (f := f) (D := D) (N := 5) (by decide) (.inr ⟨rfl, h1⟩)
    exact .inr (.inr (.inl ⟨rfl, by rw [hl, if_pos h1]; rfl, hz, hz ▸ nd_le hf hD hN (by omega)⟩))
  · exact .inr (.inr (.inr ⟨rfl, by rw [hl, if_neg (by omega)]; rfl, h1⟩))
theorem other_first (y k N : Int) : f1 y k ((ru y + N + 1).fmod 7) = (f1 y k (ru y) + N).fmod 7 + 1 := by
  unfold f1
  have hq : ∀ q : Int, q.fmod 7 = q % 7 := fun q => Int.fmod_eq_emod_of_nonneg _ (by decide)
  simp only [hq]
  omega
theorem fm7 (q : Int) : 0 ≤ q.fmod 7 ∧ q.fmod 7 ≤ 6 := by
  rw [Int.fmod_eq_emod_of_nonneg _ (by decide)]; omega
theorem their_nd {y k N f D : Int} (hf : f = (f1 y k (ru y) + N).fmod 7 + 1) (hD : 28 ≤ D ∧ D ≤ 31) (h1 : 1 ≤ N) (h4 : N ≤ 4) :
    4 ≤ ((al f D).length : Int) ∧ nd N (f1 y k ((ru y + N + 1).fmod 7)) D = (al f D).getD (N - 1).toNat 0 ∧ (al f D).getD (N - 1).toNat 0 ≤ D := by
  subst hf
  rw [other_first]
  have h7 := fm7 (f1 y k (ru y) + N)
  have hz := nd_mid (f := (f1 y k (ru y) + N).fmod 7 + 1) (D := D) h1 (.inl h4)
  refine ⟨by rw [al_len]; split <;> decide, hz, hz ▸ nd_le (by omega) hD (by omega) (by omega)⟩
end
end Mine
namespace Mine
open PySem PySem.Spec PySem.Calls PySem.W PyProof.Rows PyProof.V
set_option maxRecDepth 100000
section
variable {prog : Program} {w : World} {A₀ : Around} {E : Value → Shared → Prop} {s' : Shared} {h₀ h : Heap} {outer : List Env} {L a e t : Addr} {m : Str → Option Value} {name : Str} {scope : Scope} {cd : Value} {cl : List (Str × Addr)}
  {vs : List Value} {b₀ : Stmt} {suite : List Stmt} {pos np : Pos} {rest : List ExceptHandler} {Q : Flow → Shared → Prop} {news : List (Addr × Obj)}
  {p : Program} {loose : List Str} {mg mb : Str → Option Value} {x : Str} {X T' : String} {KF : Frag}
/-- an exception raised in a called def, caught in a frame that has cells -/
theorem caught_X0 (K : Below A₀ h₀ outer h₀) (F : Fr h₀ L h m) (hsm : h.UpToSlots s'.heap) (R : RaisedK h₀ (envX name scope L a cd cl :: outer) e (.type X) t vs news s'.heap)
    (XK : KF.In h₀) (ex : nsIn KF mainGlobals x = some none)
    (T : TopRead p loose mg mb h₀) (hv : bootBuiltins x = some (.type T'))
    (hexc : isSubtype (.type T') (.type "BaseException") = pure true) (hnt : isSubtype (.type ((Manifest.find? T').elim "type" fun y => y.metatype)) (.type "tuple") = pure false) (hsub : isSubtype (.type X) (.type T') = pure true)
    (hn : x ≠ "__name__")
    (hk : scope.kind = .function) (hx : (envX name scope L a cd cl).kindOf x = some .globalImplicit) (hd : (x == ("__debug__" : Str)) = false)
    (hE : PassesOwnAt (model prog w) ((A₀.deeper (envX name scope L a cd cl)).mark (some (.ref e))) (A₀.deeper (envX name scope L a cd cl)) (envX name scope L a cd cl) E)
    (k : ∀ h', Fr h₀ L h' m → News h₀ L h' news →
      wpAny (model prog w) ((A₀.deeper (envX name scope L a cd cl)).mark (some (.ref e))) (execs (b₀ :: suite) (envX name scope L a cd cl)) Q E { s' with heap := h' }) :
    wpAny (model prog w) (A₀.deeper (envX name scope L a cd cl)) (noteFrame (.ref e) (envX name scope L a cd cl))
      (fun _ s₂ => wpAny (model prog w) (A₀.deeper (envX name scope L a cd cl)) (setFlight (.ref e) none) (fun _ s₃ =>
        wpAny (model prog w) (A₀.deeper (envX name scope L a cd cl)) (handleBy (.ref e) (envX name scope L a cd cl) (.ExceptHandler (some (.Name x np)) none (b₀ :: suite) pos :: rest)) Q E s₃) E s₂) E s' := by
  obtain ⟨⟨B, hB, hl, hfl, hnew⟩, htup⟩ := R
  have hL : B.get? L = none := by
    obtain ⟨_, ⟨L', _, hf, hn', _⟩, _⟩ := hfl.2.2.1
    obtain rfl : L = L' := Option.some.inj hf
    exact hn'
  refine wpAny_looks_onW (Around.frames_deeper K.stack) rfl hfl fun h₄ hheld₄ hsm₄ => ?_
  refine wpAny_landsW hheld₄ fun h₅ hheld hsm₅' => ?_
  have hsm₅ := hsm₄.trans hsm₅'
  have hheld' := flyingW_base hB hheld
  have F₅ := F.of_stays hheld'.1 (hsm.trans hsm₅)
  obtain ⟨ob, hob, hobc⟩ := hheld'.there
  refine wpAny_handleBy_builtin (X := X) (T := T') (b := true) hexc hnt hsub (Calls.Name_function_global hk hx (Calls.loadGlobal_builtin (env := envX name scope L a cd cl) (T.g.keeps F₅.keep) (mg_none_of XK T.g ex) (T.b.keeps F₅.keep) ((T.builtins x hn).trans hv) ⟨rfl, ⟨ob, hob, hobc⟩, ?_⟩) hd)
  refine lands_againW hheld fun h₆ hfl₆ hsm₆ => ?_
  have hfl₆' := flyingW_base hB hfl₆
  have F₆ := F.of_stays hfl₆'.1 ((hsm.trans hsm₅).trans hsm₆)
  exact wpAny_passesOwnAt hE (k h₆ F₆ fun q hq => ⟨hfl₆.1 _ _ (hl q hq).1, (fun z => by have := (hl q hq).1; rw [z, hL] at this; cases this), (hl q hq).2⟩)
end
end Mine
namespace Mine
open PySem PySem.Spec PySem.Calls PySem.W PyProof.Rows PyProof.Rows.LCg
set_option maxRecDepth 100000
section
variable {prog : Program} {w : World} {A : Around} {E : Value → Shared → Prop} {s : Shared} {h₀ : Heap} {L : Addr} {m : Str → Option Value} {env : Env}
/-- lists made so far, one a place -/
def RowsTo (row : Nat → List Value) (ys : List Value) (nw : List (Addr × Obj)) (i : Nat) : Prop :=
  ys.length = i ∧ ∀ j, j < i → ∃ r, ys[j]? = some (.ref r) ∧ (r, listOf (row j).toArray 0) ∈ nw
theorem RowsTo.snoc {row : Nat → List Value} {ys : List Value} {nw : List (Addr × Obj)} {i : Nat} {r : Addr} (h : RowsTo row ys nw i) : RowsTo row (ys ++ [.ref r]) ((r, listOf (row i).toArray 0) :: nw) (i + 1) := by
  refine ⟨by rw [List.length_append, h.1]; rfl, fun j hj => ?_⟩
  by_cases e : j < i
  · obtain ⟨r', e1, e2⟩ := h.2 j e
    exact ⟨r', by rw [List.getElem?_append_left (by rw [h.1]; exact e)]; exact e1, .tail _ e2⟩
  · obtain rfl : j = i := by omega
    exact ⟨r, by rw [List.getElem?_append_right (by rw [h.1]; exact Nat.le_refl _), h.1, Nat.sub_self]; rfl, .head _⟩
theorem off3_all {I C D : Addr} : ∀ {l : List (Addr × Obj)}, Off3 I C D l → ∀ p ∈ l, (@Ne Nat p.1 I) ∧ (@Ne Nat p.1 C) ∧ (@Ne Nat p.1 D)
  | [], _, _, hp => nomatch hp
  | q :: r, h, p, hp => by
    rcases List.mem_cons.mp hp with rfl | hp
    · exact h.1
    · exact off3_all h.2 p hp
theorem off3_of {I C D : Addr} : ∀ {l : List (Addr × Obj)}, (∀ p ∈ l, (@Ne Nat p.1 I) ∧ (@Ne Nat p.1 C) ∧ (@Ne Nat p.1 D)) → Off3 I C D l
  | [], _ => trivial
  | q :: r, h => ⟨h q (.head _), off3_of fun p hp => h p (.tail _ hp)⟩
theorem row_end {I C D r : Addr} {oI oC oD : Obj} {all base nw : List (Addr × Obj)} {its : Array Value} {row : List Value} {h' : Heap} {tk : Nat}
    (F : Fr h₀ L h' m) (N : News h₀ L h' ((r, listOf its 0) :: (I, oI) :: (C, oC) :: (D, oD) :: all)) (l1 : ∀ p ∈ (I, oI) :: (C, oC) :: (D, oD) :: all, p.1 < r) (off : Off3 I C D all) (e : all = base ++ nw) (ei : its.toList = row) :
    CompEnd h₀ L m s I oI C oC D oD (fun _ => True) (fun y news' => ∃ r, y = .ref r ∧ news' = base ++ (r, listOf row.toArray 0) :: nw) (.ref r) { s with heap := h', toks := tk } := by
  subst e ei
  have hI := l1 _ (.head _)
  have hC := l1 _ (.tail _ (.head _))
  have hD := l1 _ (.tail _ (.tail _ (.head _)))
  refine CompEnd.intro F N _ (fun p hp => ?_) (off3_of fun p hp => ?_) trivial ⟨r, rfl, rfl⟩
  · rcases List.mem_cons.mp hp with rfl | hp
    · exact .tail _ (.head _)
    rcases List.mem_cons.mp hp with rfl | hp
    · exact .tail _ (.tail _ (.head _))
    rcases List.mem_cons.mp hp with rfl | hp
    · exact .tail _ (.tail _ (.tail _ (.head _)))
    rcases List.mem_append.mp hp with hp | hp
    · exact .tail _ (.tail _ (.tail _ (.tail _ (List.mem_append.mpr (.inl hp)))))
    rcases List.mem_cons.mp hp with rfl | hp
    · rw [Array.toArray_toList]; exact .head _
    · exact .tail _ (.tail _ (.tail _ (.tail _ (List.mem_append.mpr (.inr hp)))))
  · rcases List.mem_append.mp hp with hp | hp
    · exact off3_all off p (List.mem_append.mpr (.inl hp))
    rcases List.mem_cons.mp hp with rfl | hp
    · exact ⟨Ne.symm (Nat.ne_of_lt hI), Ne.symm (Nat.ne_of_lt hC), Ne.symm (Nat.ne_of_lt hD)⟩
    · exact off3_all off p (List.mem_append.mpr (.inr hp))
theorem rest_rows {elt : Expr} {x : Str} {scope : Scope} {cl : List (Str × Addr)} {Fin : List Value → List (Addr × Obj) → Prop} {base : List (Addr × Obj)} {a c : Int} {n : Nat} (row : Nat → List Value)
    (hel : ∀ (i : Nat) ys nw I oI C oC D m₂ h tk t (E' : Value → Shared → Prop), i < n → NsObj oC m₂ → m₂ x = some (.int (a + (i : Int) * c) t) → Fr h₀ L h m → News h₀ L h ((I, oI) :: (C, oC) :: (D, lst ys) :: (base ++ nw)) → Off3 I C D (base ++ nw) → ((@Ne Nat I C) ∧ (@Ne Nat I D) ∧ (@Ne Nat C D)) →
      wpAny (model prog w) A (eval elt (compEnvC scope cl C env)) (CompEnd h₀ L m { s with heap := h, toks := tk } I oI C oC D (lst ys) (fun _ => True) (fun y news' => ∃ r, y = .ref r ∧ news' = base ++ (r, listOf (row i).toArray 0) :: nw)) E' { s with heap := h, toks := tk })
    (fin : ∀ ys nw, RowsTo row ys nw n → Fin ys (base ++ nw)) :
    ∀ (k i : Nat) (ys : List Value) (nw : List (Addr × Obj)), i + k = n → RowsTo row ys nw i →
      CompRest prog w A h₀ L m env elt x scope cl s (fun _ => True) (fun i v => ∃ t, v = .int (a + (i : Int) * c) t) Fin k i ys (base ++ nw)
  | 0, i, ys, nw, hk, hr => CompRest.zero (fin ys nw ((show i = n by omega) ▸ hr))
  | k + 1, i, ys, nw, hk, hr => by
    refine CompRest.succ fun v I oI C oC D m₂ h tk E' hP hns hm F N off ne => ?_
    obtain ⟨t, rfl⟩ := hP
    refine wpAny_mono (hel i ys nw I oI C oC D m₂ h tk t E' (by omega) hns hm F N off ne) (fun y s' q => ?_) fun _ _ q => q
    obtain ⟨h', tk', news', e, F', N', off', _, r, rfl, rfl⟩ := q
    refine ⟨h', tk', _, e, F', N', off', trivial, ?_⟩
    have := rest_rows row hel fin k (i + 1) (ys ++ [.ref r]) ((r, listOf (row i).toArray 0) :: nw) (by omega) hr.snoc
    exact this
end
/-- a place of a month's sheet: a day, or none -/
def CellIs (l D : Int) (p : Nat) (v : Value) : Prop := (l ≤ p ∧ (p : Int) < l + D ∧ ∃ t, v = .int (p - l + 1) t) ∨ (¬ (l ≤ p ∧ (p : Int) < l + D) ∧ v = .none)
/-- the leaf of a month: lists of seven places -/
def Cal (l D : Int) (ys : List Value) (nw : List (Addr × Obj)) : Prop :=
  ys.length = ((l + D + 6) / 7).toNat ∧ ∀ j, j < ys.length → ∃ (r : Addr) (row : List Value) (c : Nat), ys[j]? = some (.ref r) ∧ (r, listOf row.toArray c) ∈ nw ∧ row.length = 7 ∧ ∀ q, q < 7 → ∃ v, row[q]? = some v ∧ CellIs l D (7 * j + q) v
theorem rks_at {a : Int} {n : Nat} {vs : List Value} (hi : IntsAre vs (rangeKs a n)) {j : Nat} (hj : j < n) : ∃ t, vs[j]? = some (.int (a + j) t) := by
  have hl : j < vs.length := by rw [hi.length, rangeKs_length]; exact hj
  obtain ⟨k, t, e, e2⟩ := ints_at hi (List.getElem?_eq_getElem hl)
  refine ⟨t, ?_⟩
  rw [List.getElem?_eq_getElem hl, e]
  have h1 : ((rangeKs a n).drop j)[0]? = some k := by rw [e2]; rfl
  rw [List.getElem?_drop, Nat.add_zero, rangeKs, List.getElem?_map, List.getElem?_range hj] at h1
  simp only [Option.map_some, Option.some.injEq] at h1
  rw [← h1]
/-- the days with their margins -/
def sheet (l : Int) (vs : List Value) : List Value := ((List.replicate l.toNat [Value.none]).flatten ++ vs) ++ (List.replicate 7 [Value.none]).flatten
theorem sheet_len {l D : Int} {vs : List Value} (hl : 0 ≤ l) (hD : 0 ≤ D) (hi : IntsAre vs (rangeKs 1 D.toNat)) : ((sheet l vs).length : Int) = l + D + 7 := by
  unfold sheet
  rw [List.length_append, List.length_append, lm_len_rep_flat, lm_len_rep_flat, hi.length, rangeKs_length]
  simp only [List.length_cons, List.length_nil]
  omega
theorem sheet_at {l D : Int} {vs : List Value} (hl : 0 ≤ l) (hD : 0 ≤ D) (hi : IntsAre vs (rangeKs 1 D.toNat)) {p : Nat} (hp : (p : Int) < l + D + 7) : ∃ v, (sheet l vs)[p]? = some v ∧ CellIs l D p v := by
  have hv : vs.length = D.toNat := by rw [hi.length, rangeKs_length]
  have h1 : (List.replicate l.toNat [Value.none]).flatten.length = l.toNat := by rw [lm_len_rep_flat]; simp
  unfold sheet
  by_cases hpl : p < l.toNat
  · refine ⟨.none, ?_, .inr ⟨by omega, rfl⟩⟩
    rw [List.getElem?_append_left (by rw [List.length_append, h1]; omega), List.getElem?_append_left (by rw [h1]; exact hpl), lm_rep_flat_one_get _ hpl]
  · by_cases hpd : p < l.toNat + D.toNat
    · obtain ⟨t, e⟩ := rks_at hi (j := p - l.toNat) (by omega)
      refine ⟨_, ?_, .inl ⟨by omega, by omega, t, rfl⟩⟩
      rw [List.getElem?_append_left (by rw [List.length_append, h1, hv]; omega), List.getElem?_append_right (by rw [h1]; omega), h1, e]
      congr 2
      omega
    · refine ⟨.none, ?_, .inr ⟨by omega, rfl⟩⟩
      rw [List.getElem?_append_right (by rw [List.length_append, h1, hv]; omega), List.length_append, h1, hv, lm_rep_flat_one_get _ (by omega)]
/-- one row of the leaf -/
def rowOf (l : Int) (vs : List Value) (i : Nat) : List Value := (slicePick (sheet l vs).toArray (some (0 + (i : Int) * 7)) (some (0 + (i : Int) * 7 + 7)) none).toList
theorem row_at {l D : Int} {vs : List Value} (hl : 0 ≤ l ∧ l ≤ 6) (hD : 28 ≤ D ∧ D ≤ 31) (hi : IntsAre vs (rangeKs 1 D.toNat)) {i : Nat} (hin : (i : Int) < (l + D + 6) / 7) :
    (rowOf l vs i).length = 7 ∧ ∀ q, q < 7 → ∃ v, (rowOf l vs i)[q]? = some v ∧ CellIs l D (7 * i + q) v := by
  have hlen := sheet_len hl.1 (by omega) hi
  have e : rowOf l vs i = ((sheet l vs).drop (i * 7)).take 7 := by
    unfold rowOf
    have h1 : (0 : Int) + (i : Int) * 7 = ((i * 7 : Nat) : Int) := by omega
    have h2 : (0 : Int) + (i : Int) * 7 + 7 = ((i * 7 + 7 : Nat) : Int) := by omega
    rw [h2, h1, slicePick_run _ _ _ (by rw [List.size_toArray]; omega) (by omega)]
    simp
  rw [e]
  refine ⟨by rw [List.length_take, List.length_drop]; omega, fun q hq => ?_⟩
  obtain ⟨v, hv, hc⟩ := sheet_at (p := 7 * i + q) hl.1 (by omega) hi (by omega)
  refine ⟨v, ?_, hc⟩
  rw [List.getElem?_take_of_lt hq, List.getElem?_drop, show i * 7 + q = 7 * i + q by omega, hv]
theorem cal_of {l D : Int} {vs ys : List Value} {nw : List (Addr × Obj)} (hl : 0 ≤ l ∧ l ≤ 6) (hD : 28 ≤ D ∧ D ≤ 31) (hi : IntsAre vs (rangeKs 1 D.toNat)) (h : RowsTo (rowOf l vs) ys nw ((l + D + 6) / 7).toNat) : Cal l D ys nw := by
  refine ⟨h.1, fun j hj => ?_⟩
  rw [h.1] at hj
  obtain ⟨r, e1, e2⟩ := h.2 j hj
  obtain ⟨h7, hq⟩ := row_at hl hD hi (i := j) (by omega)
  exact ⟨r, _, _, e1, e2, h7, hq⟩
theorem size_rows {l D : Int} (hl : 0 ≤ l ∧ l ≤ 6) (h2 : 28 ≤ D ∧ D ≤ 31) : Builtin.Range.rangeSize 0 (l + D) 7 = ((((l + D + 6) / 7).toNat : Nat) : Int) := by
  unfold Builtin.Range.rangeSize
  rw [if_pos (by decide), if_pos (by omega)]
  omega
section
variable {prog : Program} {w : World} {A : Around} {E : Value → Shared → Prop} {s : Shared} {h₀ : Heap} {L : Addr} {m : Str → Option Value} {env : Env}
theorem src_rows {elt : Expr} {x : Str} {scope : Scope} {cl : List (Str × Addr)} {Fin : Shared → List Value → List (Addr × Obj) → Prop} {r : Addr} {l D : Int} {t u v : Tok} {base : List (Addr × Obj)} {vs : List Value}
    (hh : A.handled = none) (F : Fr h₀ L s.heap m) (N : News h₀ L s.heap base) (hr : IsRange s.heap r 0 (l + D) 7 t u v) (hl : 0 ≤ l ∧ l ≤ 6) (hD : 28 ≤ D ∧ D ≤ 31) (hi : IntsAre vs (rangeKs 1 (1 + D - 1).toNat))
    (hel : ∀ (g : Heap) (i : Nat) ys nw I oI C oC K m₂ h tk t (E' : Value → Shared → Prop), NsObj oC m₂ → m₂ x = some (.int (0 + (i : Int) * 7) t) → Fr h₀ L h m → News h₀ L h ((I, oI) :: (C, oC) :: (K, lst ys) :: (base ++ nw)) → Off3 I C K (base ++ nw) →
      wpAny (model prog w) A (eval elt (compEnvC scope cl C env)) (CompEnd h₀ L m { s with heap := h, toks := tk } I oI C oC K (lst ys) (fun _ => True) (fun y news' => ∃ r, y = .ref r ∧ news' = base ++ (r, listOf (rowOf l vs i).toArray 0) :: nw)) E' { s with heap := h, toks := tk })
    (fin : ∀ g ys nw, Cal l D ys nw → Fin { s with heap := g } ys (base ++ nw)) :
    SrcS prog w A h₀ L m env elt x scope cl Fin (.ref r) s := by
  rw [show 1 + D - 1 = D by omega] at hi
  refine SrcS.intro hh F N hr (small7 (by omega) (by omega)) (size_rows hl hD) (by have : sizeLine = 16777216 := sizeLine_eq; omega) fun g => ?_
  have := rest_rows (prog := prog) (w := w) (A := A) (s := { s with heap := g }) (h₀ := h₀) (L := L) (m := m) (env := env) (elt := elt) (x := x) (scope := scope) (cl := cl) (Fin := Fin { s with heap := g }) (base := base) (a := 0) (c := 7) (n := ((l + D + 6) / 7).toNat) (rowOf l vs)
    (fun i ys nw I oI C oC K m₂ h tk t E' _ hns hm F N off _ => hel g i ys nw I oI C oC K m₂ h tk t E' hns hm F N off)
    (fun ys nw hr => fin g ys nw (cal_of hl hD hi hr)) ((l + D + 6) / 7).toNat 0 [] [] (by omega) ⟨rfl, fun j hj => absurd hj (by omega)⟩
  rw [List.append_nil] at this
  exact this
theorem mul_r {l : Addr} {vs ws : List Value} {x : Int} {u : Tok} {news : List (Addr × Obj)} {Q : Value → Shared → Prop} (Fm : Fr h₀ L s.heap m) (N : News h₀ L s.heap news) (hl : s.heap.IsList l vs.toArray) (hlo : -(2 ^ 63 : Int) ≤ x) (hhi : x < 2 ^ 63) (hsz : vs.length * x.toNat ≤ 2 ^ 24) (e : (List.replicate x.toNat vs).flatten = ws)
    (h : ∀ D h', Fr h₀ L h' m → News h₀ L h' ((D, listOf ws.toArray 0) :: news) → (∀ p ∈ news, p.1 < D) → Q (.ref D) { s with heap := h' }) : wpAny (model prog w) A (binaryOp .Mult (.int x u) (.ref l)) Q E s := by
  subst e
  obtain ⟨⟨cls, d, data, sl⟩, ho, hcl, k, hd⟩ := id hl
  simp only at hcl hd
  subst hcl hd
  have hsz' : vs.toArray.size * x.toNat ≤ 2 ^ 24 := by simpa using hsz
  refine lm_binaryOp_repeat_right (T := "list") (U := "int") (by decide) (fun s' => typeIs_int s' x u) ⟨_, ho, rfl⟩ F.fills_int_mul noFill_list_mul F.slot_int_mul lm_noRepeat_int repeat_list F.slot_int_index.lookup
    (call_meets F.slot_int_mul (typeIs_int s x u) F.entry_int_mul (F.args_int_mul_2 _ _) (lm_int_mul_list_any x u l vs.toArray k d sl)
      ⟨ho, rfl, ⟨_, ho, rfl⟩, call_meets F.slot_list_mul ⟨_, ho, rfl⟩ F.entry_list_mul (F.args_list_mul_2 _ _)
        (lm_list_mul_any l vs.toArray k d sl x u (by simp [Builtin.List.listFitsIndex]; omega) (by omega) (by simp [Builtin.List.listTooLong, sizeLine]; omega))
        ⟨ho, ?_⟩⟩)
  have N' := News.push Fm N { cls := Value.type "list", data := Data.seq (List.foldl (fun x1 x2 => x1 ++ x2) #[] (List.replicate (if vs.toArray.isEmpty = true then 0 else x.toNat) vs.toArray)) }
  rw [listMul_foldl_if] at N'
  rw [listMul_foldl_if]
  exact h _ _ (Fm.push _) N' (fun p hp => Heap.lt_size (N p hp).1)
end
end Mine
namespace Mine
open PySem PySem.Spec PySem.Calls PySem.W PyProof.Rows
open PyProof.Rows.LCg
set_option maxRecDepth 100000
theorem days_size1 {l D : Int} {vs : List Value} (hl : 0 ≤ l ∧ l ≤ 6) (hD : 28 ≤ D ∧ D ≤ 31) (hi : IntsAre vs (rangeKs 1 (1 + D - 1).toNat)) : (List.replicate l.toNat [Value.none]).flatten.toArray.toList.length + vs.toArray.toList.length ≤ sizeLine := by
  have h1 : (List.replicate l.toNat [Value.none]).flatten.length = l.toNat := by rw [lm_len_rep_flat]; simp
  have h2 := hi.length
  rw [rangeKs_length] at h2
  simp only [h1, h2, sizeLine_eq]
  omega
section
variable {M : Model} {A : Around} {E : Value → Shared → Prop} {s : Shared} {h₀ : Heap} {L : Addr} {m : Str → Option Value} {fn : Str} {scope : Scope} {a : Addr} {cd : Value}
theorem stC_U {x : Str} {c : Addr} {o : Obj} {v₀ : Option Value} {v : Value} {news : List (Addr × Obj)} {g : Obj → List (Addr × Obj)} {Q : Unit → Shared → Prop} (F : Fr h₀ L s.heap m) (N : News h₀ L s.heap news)
    (hc : (cellsFrom (L + 1) scope.names []).lookup x = some c) (U : UpdF c o news g) (hd : o.data = .cell v₀)
    (h : ∀ h' o', Fr h₀ L h' m → News h₀ L h' (g o') → o'.data = .cell (some v) → Q () { s with heap := h' })
    (hk : scope.kind = .function := by rfl) (hl : (envOfC fn scope L a cd).kindOf x = some .cell := by rfl) :
    wpAny M A (storeName (envOfC fn scope L a cd) x v) Q E s := by
  obtain ⟨own, rest, rfl, hg, h1, h2⟩ := U.split
  exact stCN F N hc hd h1 h2 (fun h' o' F' N' d' => h h' o' F' (hg o' ▸ N') d') hk hl
end
theorem all_ne1 {L : Addr} {news : List (Addr × Obj)} (h : ∀ p ∈ news, p.1 < L) : ∀ p ∈ news, p.1 ≠ L + 1 := fun p hp => Nat.ne_of_lt (Nat.lt_succ_of_lt (h p hp))
local macro_rules | `(tactic| k_updF) => `(tactic| refine' UpdF.head (all_ne1 (by assumption)))
theorem days_size2 {l D : Int} {vs : List Value} (hl : 0 ≤ l ∧ l ≤ 6) (hD : 28 ≤ D ∧ D ≤ 31) (hi : IntsAre vs (rangeKs 1 (1 + D - 1).toNat)) : (sheet l vs).length ≤ sizeLine := by
  rw [show 1 + D - 1 = D by omega] at hi
  have := sheet_len hl.1 (by omega) hi
  simp only [sizeLine_eq]
  omega
theorem days_size3 {l D : Int} {vs : List Value} (hl : 0 ≤ l ∧ l ≤ 6) (hD : 28 ≤ D ∧ D ≤ 31) (hi : IntsAre vs (rangeKs 1 (1 + D - 1).toNat)) : ((List.replicate l.toNat [Value.none]).flatten.toArray.toList ++ vs.toArray.toList).toArray.toList.length + (List.replicate (7 : Int).toNat [Value.none]).flatten.toArray.toList.length ≤ sizeLine := by
  have := days_size2 hl hD hi
  unfold sheet at this
  rw [List.length_append] at this
  exact this
local macro_rules | `(tactic| walk_at "binaryOp Mult ref int") => `(tactic| (k_here; (with_reducible show wpAny _ _ (binaryOp Operator.Mult (Value.ref _) (Value.int _ _)) _ _ _); k_dflt (refine' KMa.mul ?F ?N ?l ?lo ?hi ?z ?e ?_; (case F => k_asm); (case N => k_asm); (case l => is_list); (case lo => omega); (case hi => omega); (case z => (simp only [List.length_cons, List.length_nil]; omega)); (case e => exact rfl); k_whole); intro D' h' F' N' l1; (try k_lt l1); (try k_sweep)))
local macro_rules | `(tactic| walk_at "binaryOp Mult int ref") => `(tactic| (k_here; (with_reducible show wpAny _ _ (binaryOp Operator.Mult (Value.int _ _) (Value.ref _)) _ _ _); k_dflt (refine' mul_r ?F ?N ?l ?lo ?hi ?z ?e ?_; (case F => k_asm); (case N => k_asm); (case l => is_list); (case lo => decide); (case hi => decide); (case z => decide); (case e => exact rfl); k_whole); intro D' h' F' N' l1; (try k_lt l1); (try k_sweep)))
local macro_rules | `(tactic| walk_at "binaryOp Add ref ref") => `(tactic| (k_here; (with_reducible show wpAny _ _ (binaryOp _ (Value.ref _) (Value.ref _)) _ _ _); k_dflt (refine' kmk_add_lit ?F ?N ?a ?b ?e ?_ ?z; (case F => k_asm); (case N => k_asm); (case a => kmk_list); (case b => kmk_list); (case e => exact rfl); (case z => first | exact days_size1 (by assumption) (by assumption) (by assumption) | exact days_size3 (by assumption) (by assumption) (by assumption)); k_whole); intro D' h' F' N' l1; (try k_lt l1); (try k_sweep)))
local macro_rules | `(tactic| walk_at "eval ListComp") => `(tactic| (k_here; (with_reducible show wpAny _ _ (eval (Expr.ListComp (Expr.Subscript _ _ _) [_] _ _) _) _ _ _); k_dflt (refine' comp_S ?k1 ?k2 ?k3 ?k4 ?k5 ?k6 ?_ ?k7; (case k1 => k_asm); (case k2 => with_unfolding_all rfl); (case k3 => decide); (case k4 => rfl); (case k5 => decide); (case k6 => rfl); (case k7 => intro _; rfl); k_whole)))
local macro_rules | `(tactic| walk_at "SrcS") => `(tactic| (k_here; k_dflt (refine' src_rows ?k1 ?k2 ?k3 ?k4 ?k5 ?k6 ?k7 ?el ?fi; (case k1 => rfl); (case k2 => k_asm); (case k3 => k_asm); (case k4 => assumption); (case k5 => assumption); (case k6 => assumption); (case k7 => assumption); k_whole)))
local macro_rules | `(tactic| walk_at "subscriptTail Name Slice ref ref") => `(tactic| (k_here; (with_reducible show wpAny _ _ (subscriptTail _ (PySem.Expr.Slice _ _ none _) (Value.ref _) (Value.ref _)) _ _ _); k_dflt (refine' kmk_slice ?F ?N ?l ?p ?q ?_ ?s ?t ?z; (case F => k_asm); (case N => k_asm); (case l => exact News.isList (by k_asm) (by k_mem)); (case p => exact IsPart.int _ _); (case q => exact IsPart.int _ _); (case s => with_unfolding_all rfl); (case t => intro _; with_unfolding_all rfl); (case z => exact days_size2 (by assumption) (by assumption) (by assumption)); k_whole); intro D' h' F' N' l1))
local macro_rules | `(tactic| walk_at "storeName") => `(tactic| (k_here; (with_reducible show wpAny _ _ (storeName (envOfC _ _ _ _ _) _ _) _ _ _); k_dflt (refine' stC_U ?F ?N ?c ?U ?d ?_ ?a ?b; (case a => rfl); (case b => rfl); (case F => k_asm); (case N => k_asm); (case c => rfl); (case U => k_updF); (case d => k_asm); k_whole); intro h' o' F' N' d'; (try dsimp only at N'); (try k_sweep)))


set_option maxHeartbeats 8000000 in
theorem mh_cl (w : World) (sw D : Int) (t₁ t₂ : Tok) (mean : ExcName → Option Value) (mg mb : Str → Option Value) (dp un : Nat) (gd : Option (List Code)) (cn : Str) (cs : Scope) (a : Addr) (ccd : Value) (cl : List (Str × Addr)) (outer : List Env) (A₀ : Around) (base h₀ : Heap) (L : Addr) (mm : Str → Option Value) (s : Shared) (Q E : Value → Shared → Prop) (news : List (Addr × Obj))
    (B : Below A₀ base outer h₀) (F : Fr h₀ L s.heap mm) (X : (hd.heap_39 w.params).In h₀) (N : News h₀ L s.heap news) (T : Top hd.view_39 lo mean mg mb h₀) (hk : cs.kind = .function)
    (hs : 0 ≤ sw ∧ sw ≤ 6) (hD : 28 ≤ D ∧ D ≤ 31)
    (hret : ∀ (K : Addr) (ys : List Value) (nw : List (Addr × Obj)) (h' : Heap) (tk' : Nat), Fr h₀ L h' mm → News h₀ L h' ((K, lst ys) :: (news ++ nw)) → Cal ((sw + 1).fmod 7) D ys nw → Q (.ref K) { s with heap := h', toks := tk' })
    (hdp : dp + 12 < recursionLimit) (hu : un + 4 * 12 < cLine) :
    wpAny (model PySem.Challenge.rw_bh0010_01.row.prog w) (ktrTop dp un gd cn cs L a ccd cl outer) (call (.ref 41) [.int sw t₁, .int D t₂]) Q E s := by
  revert X; k_fill; intro X
  have h7 := fm7 (sw + 1)
  refine wpAny_call ?_
  k_dflt (refine' code_defC ?k1 ?k2 ?k3 ?k4 ?k5 ?kA ?kF ?kK ?k6 ?k7 ?k8 ?k9 ?kB ?kD ?_ ?c2 ?c3 ?c4; (case kA => exact rfl); (case kF => exact rfl); (case kK => assumption); (case k1 => k_asm); (case k2 => k_asm); (case k3 => k_asm); (case k4 => k_asm); (case k5 => k_asm); (case k6 => k_is); (case k7 => k_is); (case k8 => ktr_room); (case k9 => exact BindsTo.of_eq rfl); (case kB => exact rfl); (case kD => decide +kernel); (case c2 => exact rfl); (case c3 => exact rfl); (case c4 => exact rfl); k_whole; intro g' L' h' tk' cells' FG' F' N' Y' B' X' T' l1; (try k_lt l1); k_cells Y'; (try simp only [List.cons_append, List.nil_append] at N'); (try dsimp only); (try k_lift B'); (try k_fold))
  repeat' (first | (k_unfold; (try dsimp only)) | walk1 | ((with_reducible show wpAny _ _ _ _ _ _); dsimp only; walk1))
  · refine' row_end ?kF ?kN ?kl ?ko rfl ?ke
    case kN => assumption
    case kF => assumption
    case kl => assumption
    case ko => assumption
    case ke => exact rfl
  · rename_i kF kN kT kX
    refine hret _ _ _ _ _ kF (fun p hp => kN p ?_) (by assumption)
    rcases List.mem_cons.mp hp with rfl | hp
    · exact .head _
    rcases List.mem_append.mp hp with hp | hp
    · simp only [List.mem_cons, List.mem_append, hp, true_or, or_true]
    · simp only [List.mem_cons, List.mem_append, hp, true_or, or_true]
end Mine
namespace Mine
open PySem PySem.Spec PySem.Calls PySem.W PyProof.Rows
open PyProof.Rows.LCg
set_option maxRecDepth 100000
/-- what a call does that hands back the leaf of a month -/
def ClK (w : World) (f : Addr) (d : Nat) (pre : Prop) (vs : List Value) (l D : Int) : Prop :=
  ∀ (mean : ExcName → Option Value) (mg mb : Str → Option Value) (dp un : Nat) (gd : Option (List Code)) (cn : Str) (cs : Scope) (a : Addr) (ccd : Value) (cl : List (Str × Addr)) (outer : List Env) (A₀ : Around) (base h₀ : Heap) (L : Addr) (m : Str → Option Value) (s : Shared) (Q E : Value → Shared → Prop) (news : List (Addr × Obj)),
    Below A₀ base outer h₀ → Fr h₀ L s.heap m → (hd.heap_39 w.params).In h₀ → News h₀ L s.heap news → Top hd.view_39 lo mean mg mb h₀ → cs.kind = .function →
    pre → dp + d < recursionLimit → un + 4 * d < cLine →
    (∀ (K : Addr) (ys : List Value) (nw : List (Addr × Obj)) (h' : Heap) (tk' : Nat), Fr h₀ L h' m → News h₀ L h' ((K, lst ys) :: (news ++ nw)) → Cal l D ys nw → Q (.ref K) { s with heap := h', toks := tk' }) →
    wpAny (model PySem.Challenge.rw_bh0010_01.row.prog w) (ktrTop dp un gd cn cs L a ccd cl outer) (call (.ref f) vs) Q E s
theorem ClK.use {w : World} {f : Addr} {d : Nat} {pre : Prop} {vs : List Value} {l D : Int} (C : ClK w f d pre vs l D)
    {mean : ExcName → Option Value} {mg mb : Str → Option Value} {dp un : Nat} {gd : Option (List Code)} {cn : Str} {cs : Scope} {a : Addr} {ccd : Value} {cl : List (Str × Addr)} {outer : List Env} {A₀ : Around} {base h₀ : Heap} {L : Addr} {m : Str → Option Value} {s : Shared} {Q E : Value → Shared → Prop} {news : List (Addr × Obj)}
    (B : Below A₀ base outer h₀) (F : Fr h₀ L s.heap m) (X : (hd.heap_39 w.params).In h₀) (N : News h₀ L s.heap news) (T : Top hd.view_39 lo mean mg mb h₀) (hk : cs.kind = .function)
    (hp : pre) (hd' : dp + d < recursionLimit) (hu : un + 4 * d < cLine)
    (ret : ∀ (K : Addr) (ys : List Value) (nw : List (Addr × Obj)) (h' : Heap) (tk' : Nat), Fr h₀ L h' m → News h₀ L h' ((K, lst ys) :: (news ++ nw)) → Cal l D ys nw → Q (.ref K) { s with heap := h', toks := tk' }) :
    wpAny (model PySem.Challenge.rw_bh0010_01.row.prog w) (ktrTop dp un gd cn cs L a ccd cl outer) (call (.ref f) vs) Q E s :=
  C mean mg mb dp un gd cn cs a ccd cl outer A₀ base h₀ L m s Q E news B F X N T hk hp hd' hu ret
theorem mh_k (w : World) (sw D : Int) (t₁ t₂ : Tok) : ClK w 41 12 ((0 ≤ sw ∧ sw ≤ 6) ∧ (28 ≤ D ∧ D ≤ 31)) [.int sw t₁, .int D t₂] ((sw + 1).fmod 7) D :=
  fun mean mg mb dp un gd cn cs a ccd cl outer A₀ base h₀ L m s Q E news B F X N T hk hp hdp hu ret => mh_cl w sw D t₁ t₂ mean mg mb dp un gd cn cs a ccd cl outer A₀ base h₀ L m s Q E news B F X N T hk hp.1 hp.2 ret hdp hu
theorem clk_end {h₀ h : Heap} {L K : Addr} {m : Str → Option Value} {news own nw : List (Addr × Obj)} {s : Shared} {Q : Value → Shared → Prop} {l D : Int} {ys : List Value} {tk : Nat}
    (hret : ∀ (K : Addr) (ys : List Value) (nw : List (Addr × Obj)) (h' : Heap) (tk' : Nat), Fr h₀ L h' m → News h₀ L h' ((K, lst ys) :: (news ++ nw)) → Cal l D ys nw → Q (.ref K) { s with heap := h', toks := tk' })
    (F : Fr h₀ L h m) (N : News h₀ L h ((K, lst ys) :: own)) (hc : Cal l D ys nw) (hs : ∀ p, p ∈ news ∨ p ∈ nw → p ∈ own) :
    Q (.ref K) { s with heap := h, toks := tk } := by
  refine hret K ys nw h tk F (fun p hp => ?_) hc
  rcases List.mem_cons.mp hp with rfl | hp
  · exact N _ (.head _)
  · exact N p (.tail _ (hs p (List.mem_append.mp hp)))
local macro_rules | `(tactic| walk_at "eval Call") => `(tactic| (k_here; (with_reducible show wpAny _ _ (eval (Expr.Call (Expr.Name (Str.ofString "jwday") _) _ [] _) _) _ _ _); k_dflt (refine Call_ ?_)))
local macro_rules | `(tactic| walk_at "call ref") => `(tactic| (k_here; (with_reducible show wpAny _ _ (call (Value.ref 36) [Value.int _ _]) _ _ _); k_dflt (refine' (jw_cl _ _ _).use ?k1 ?k2 ?k3 ?k4 ?k5 ?kK ?kp ?kd ?ku ?_; (case k1 => k_asm); (case k2 => k_asm); (case k3 => k_asm); (case k4 => k_asm); (case k5 => k_asm); (case kK => first | exact rfl | assumption); (case kp => first | trivial | assumption | omega); (case kd => ktr_room); (case ku => ktr_units); k_whole); intro t9 h9 tk9 F9 N9; (try dsimp only); (try k_fold)))
local macro_rules | `(tactic| walk_at "eval Call") => `(tactic| (k_here; (with_reducible show wpAny _ _ (eval (Expr.Call (Expr.Name (Str.ofString "to_jd_gregorian") _) _ [] _) _) _ _ _); k_dflt (refine Call_ ?_)))
local macro_rules | `(tactic| walk_at "call ref") => `(tactic| (k_here; (with_reducible show wpAny _ _ (call (Value.ref 63) [Value.int _ _, Value.int _ _, Value.int _ _]) _ _ _); k_dflt (refine' (tj_cl _ _ _ _ _ _ _).use ?k1 ?k2 ?k3 ?k4 ?k5 ?kK ?kp ?kd ?ku ?_; (case k1 => k_asm); (case k2 => k_asm); (case k3 => k_asm); (case k4 => k_asm); (case k5 => k_asm); (case kK => first | exact rfl | assumption); (case kp => first | trivial | assumption | omega); (case kd => ktr_room); (case ku => ktr_units); k_whole); intro t9 h9 tk9 F9 N9; (try dsimp only); (try k_fold)))
local macro_rules | `(tactic| walk_at "eval Call") => `(tactic| (k_here; (with_reducible show wpAny _ _ (eval (Expr.Call (Expr.Name (Str.ofString "month_length_gregorian") _) _ [] _) _) _ _ _); k_dflt (refine Call_ ?_)))
local macro_rules | `(tactic| walk_at "call ref") => `(tactic| (k_here; (with_reducible show wpAny _ _ (call (Value.ref 70) [Value.int _ _, Value.int _ _]) _ _ _); k_dflt (refine' (mlg_cl _ _ _ _ _).use ?k1 ?k2 ?k3 ?k4 ?k5 ?kK ?kp ?kd ?ku ?_; (case k1 => k_asm); (case k2 => k_asm); (case k3 => k_asm); (case k4 => k_asm); (case k5 => k_asm); (case kK => first | exact rfl | assumption); (case kp => exact ⟨by omega, by omega⟩); (case kd => ktr_room); (case ku => ktr_units); k_whole); intro t9 h9 tk9 F9 N9; (try dsimp only); (try k_fold)))
local macro_rules | `(tactic| walk_at "eval Call") => `(tactic| (k_here; (with_reducible show wpAny _ _ (eval (Expr.Call (Expr.Name (Str.ofString "monthcalendarhelper") _) _ [] _) _) _ _ _); k_dflt (refine Call_ ?_)))
local macro_rules | `(tactic| walk_at "call ref") => `(tactic| (k_here; (with_reducible show wpAny _ _ (call (Value.ref 41) [Value.int _ _, Value.int _ _]) _ _ _); k_dflt (refine' (mh_k _ _ _ _ _).use ?k1 ?k2 ?k3 ?k4 ?k5 ?kK ?kp ?kd ?ku ?_; (case k1 => k_asm); (case k2 => k_asm); (case k3 => k_asm); (case k4 => k_asm); (case k5 => k_asm); (case kK => first | exact rfl | assumption); (case kp => exact ⟨by assumption, by assumption⟩); (case kd => ktr_room); (case ku => ktr_units); k_whole); intro K9 ys9 nw9 h9 tk9 F9 N9 cal9; (try simp only [List.cons_append, List.nil_append] at N9); (try dsimp only); (try k_fold)))

set_option maxHeartbeats 8000000 in
theorem mc_cl (w : World) (y m : Int) (t₁ t₂ : Tok) : ClK w 77 18 (1 ≤ m ∧ m ≤ 12) [.int y t₁, .int m t₂] (((tj y m 1).fmod 7 + 1).fmod 7) (ml (lp y) m) := by
  unfold ClK; k_fill; intros; rename_i hp _ _ hret
  have h7 := fm7 (tj y m 1)
  have hD : 28 ≤ ml (lp y) m ∧ ml (lp y) m ≤ 31 := by unfold ml; repeat' split <;> omega
  refine wpAny_call ?_
  k_dflt cell_enter
  repeat' (first | (k_unfold; (try dsimp only)) | walk1 | ((with_reducible show wpAny _ _ _ _ _ _); dsimp only; walk1))
  rename_i kF kN kT kX
  exact clk_end hret kF kN (by assumption) (fun p hp => List.mem_append.mpr hp)
end Mine
namespace Mine
open PySem PySem.Spec PySem.Calls PySem.W PyProof.Rows PyProof.Rows.LCg
set_option maxRecDepth 100000
/-- the days of a leaf's column, up to a row -/
def colv (l D q : Int) : Nat → List Int
  | 0 => []
  | i + 1 => colv l D q i ++ (if l ≤ 7 * (i : Int) + q ∧ 7 * (i : Int) + q < l + D then [7 * (i : Int) + q - l + 1] else [])
theorem colv_al : ∀ a : Fin 7, ∀ b : Fin 7, ∀ d : Fin 4,
    colv (((a.val : Int) + 1).fmod 7) (28 + (d.val : Int)) (((b.val : Int) + 1).fmod 7) (((((a.val : Int) + 1).fmod 7 + (28 + (d.val : Int)) + 6) / 7).toNat) = al (1 + ((b.val : Int) - (a.val : Int)).fmod 7) (28 + (d.val : Int)) := by
  decide +kernel
theorem law_leaf {a b D : Int} (ha : 0 ≤ a ∧ a ≤ 6) (hb : 0 ≤ b ∧ b ≤ 6) (hD : 28 ≤ D ∧ D ≤ 31) : colv ((a + 1).fmod 7) D ((b + 1).fmod 7) ((((a + 1).fmod 7 + D + 6) / 7).toNat) = al (1 + (b - a).fmod 7) D := by
  have := colv_al ⟨a.toNat, by omega⟩ ⟨b.toNat, by omega⟩ ⟨(D - 28).toNat, by omega⟩
  simp only at this
  rw [show ((a.toNat : Nat) : Int) = a by omega, show ((b.toNat : Nat) : Int) = b by omega, show 28 + (((D - 28).toNat : Nat) : Int) = D by omega] at this
  exact this
section
variable {prog : Program} {w : World} {A : Around} {E : Value → Shared → Prop} {s : Shared} {h₀ : Heap} {L : Addr} {m : Str → Option Value} {env : Env}
theorem item_row {news : List (Addr × Obj)} {value slice : Expr} {l : Addr} {vs : List Value} {c : Nat} {k : Int} {u : Tok} {v : Value} {Q : Value → Shared → Prop}
    (N : News h₀ L s.heap news) (hl : (l, listOf vs.toArray c) ∈ news) (hx : vs[k.toNat]? = some v) (h0 : 0 ≤ k) (h2 : k < 2 ^ 63)
    (h : Q v s)
    (hs : subscripted slice false (.ref l) (.int k u) = operate [.ref l, .int k u] (getItem (.ref l) (.int k u))) :
    wpAny (model prog w) A (subscriptTail value slice (.ref l) (.int k u)) Q E s := by
  have hL : s.heap.IsList l vs.toArray := ⟨_, (N _ hl).1, rfl, _, rfl⟩
  exact tail_any hL.typeIs slot_list_getitem.lookup (wpAny_getItem_list hL h0 h2 (by simpa using hx) h) hs
theorem leaf_end {I C K : Addr} {oI oC oK : Obj} {S : List (Addr × Obj) → Prop} {rest : Value → List (Addr × Obj) → Prop} {y : Value} {h' : Heap} {tk : Nat} {news : List (Addr × Obj)}
    (F : Fr h₀ L h' m) (N : News h₀ L h' ((I, oI) :: (C, oC) :: (K, oK) :: news)) (off : Off3 I C K news) (hS : S news) (r : rest y news) :
    CompEnd h₀ L m s I oI C oC K oK S rest y { s with heap := h', toks := tk } := CompEnd.intro F N news (fun _ hp => hp) off hS r
theorem rest_leaf {ct elt : Expr} {x : Str} {scope : Scope} {cl : List (Str × Addr)} {Fin : List Value → List (Addr × Obj) → Prop} {S : List (Addr × Obj) → Prop} {news nw : List (Addr × Obj)} {ys : List Value} {l D c : Int}
    (hcal : Cal l D ys nw) (hsub : ∀ p ∈ nw, p ∈ news) (hS : S news) (hc : 0 ≤ c ∧ c ≤ 6)
    (hel : ∀ I oI C oC K acc m₂ h tk (E' : Value → Shared → Prop) r (row : List Value) (cnt : Nat) (v : Value), NsObj oC m₂ → m₂ x = some (.ref r) → Fr h₀ L h m → News h₀ L h ((I, oI) :: (C, oC) :: (K, lst acc) :: news) → Off3 I C K news → S news → (r, listOf row.toArray cnt) ∈ news → row[c.toNat]? = some v → (v = .none ∨ ∃ z t, v = .int z t) →
      wpAny (model prog w) A (isTrue ct (compEnvC scope cl C env) (eval ct (compEnvC scope cl C env))) (fun ok s' => if ok = true then
        wpAny (model prog w) A (eval elt (compEnvC scope cl C env)) (CompEnd h₀ L m { s with heap := h, toks := tk } I oI C oC K (lst acc) S (fun y news' => y = v ∧ v ≠ .none ∧ news' = news)) E' s'
        else CompEnd h₀ L m { s with heap := h, toks := tk } I oI C oC K (lst acc) S (fun _ news' => v = .none ∧ news' = news) Value.none s') E' { s with heap := h, toks := tk })
    (fin : ∀ zs, IntsAre zs (colv l D c ((l + D + 6) / 7).toNat) → Fin zs news) :
    ∀ (k i : Nat) (zs : List Value), i + k = ys.length → IntsAre zs (colv l D c i) →
      LCt.CompRestT prog w A h₀ L m env ct elt x scope cl s S (fun i v => ys.toArray[i]? = some v) Fin k i zs news
  | 0, i, zs, hk, hi => LCt.CompRestT.zero (fin zs (by rw [← hcal.1, ← hk]; exact hi))
  | k + 1, i, zs, hk, hi => by
    refine LCt.CompRestT.succ fun v I oI C oC K m₂ h tk E' hP hns hm F N off _ => ?_
    obtain ⟨r, row, cnt, e1, e2, _, hq⟩ := hcal.2 i (by omega)
    obtain ⟨u, hu, hcell⟩ := hq c.toNat (by omega)
    have hv : v = .ref r := by
      have hP' : ys[i]? = some v := by simpa using hP
      rw [e1] at hP'
      exact (Option.some.inj hP').symm
    subst hv
    have hpl : ((7 * i + c.toNat : Nat) : Int) = 7 * (i : Int) + c := by omega
    refine wpAny_mono (hel I oI C oC K zs m₂ h tk E' r row cnt u hns hm F N off hS (hsub _ e2) hu (hcell.elim (fun q => .inr ⟨_, q.2.2⟩) fun q => .inl q.2)) (fun ok s' hh => ?_) fun _ _ e => e
    cases ok with
    | true =>
      simp only [if_true] at hh ⊢
      refine wpAny_mono hh (fun y s5 h5 => ?_) fun _ _ e => e
      obtain ⟨h', tk', news', e, F', N', off', hS', rfl, hne, rfl⟩ := h5
      refine ⟨h', tk', _, e, F', N', off', hS', ?_⟩
      rcases hcell with ⟨a1, a2, t, rfl⟩ | ⟨_, rfl⟩
      · rw [hpl] at a1 a2 ⊢
        refine rest_leaf hcal hsub hS hc hel fin k (i + 1) _ (by omega) ?_
        unfold colv
        rw [if_pos ⟨a1, a2⟩]
        exact ints_snoc hi _ t
      · exact absurd rfl hne
    | false =>
      simp only [Bool.false_eq_true, if_false] at hh ⊢
      obtain ⟨h', tk', news', e, F', N', off', hS', e0, rfl⟩ := hh
      refine ⟨h', tk', _, e, F', N', off', hS', ?_⟩
      rcases hcell with ⟨a1, a2, t, rfl⟩ | ⟨hno, rfl⟩
      · cases e0
      · rw [hpl] at hno
        refine rest_leaf hcal hsub hS hc hel fin k (i + 1) _ (by omega) ?_
        unfold colv
        rw [if_neg hno, List.append_nil]
        exact hi
theorem src_leaf {ct elt : Expr} {x : Str} {scope : Scope} {cl : List (Str × Addr)} {Fin : Shared → List Value → List (Addr × Obj) → Prop} {news nw : List (Addr × Obj)} {ys : List Value} {a b D : Int} {K : Addr}
    (hh : A.handled = none) (F : Fr h₀ L s.heap m) (N : News h₀ L s.heap news) (hcal : Cal ((a + 1).fmod 7) D ys nw) (hm : (K, lst ys) ∈ news) (hsub : ∀ p ∈ nw, p ∈ news) (ha : 0 ≤ a ∧ a ≤ 6) (hb : 0 ≤ b ∧ b ≤ 6) (hD : 28 ≤ D ∧ D ≤ 31)
    (hel0 : ∀ (g : Heap) I oI C oC K' acc m₂ h tk (E' : Value → Shared → Prop) r (row : List Value) (cnt : Nat), NsObj oC m₂ → m₂ x = some (.ref r) → Fr h₀ L h m → News h₀ L h ((I, oI) :: (C, oC) :: (K', lst acc) :: news) → Off3 I C K' news → SrcAt h₀ K ys.toArray news → (r, listOf row.toArray cnt) ∈ news → row[((b + 1).fmod 7).toNat]? = some .none →
      wpAny (model prog w) A (isTrue ct (compEnvC scope cl C env) (eval ct (compEnvC scope cl C env))) (fun ok s' => if ok = true then
        wpAny (model prog w) A (eval elt (compEnvC scope cl C env)) (CompEnd h₀ L m { s with heap := h, toks := tk } I oI C oC K' (lst acc) (SrcAt h₀ K ys.toArray) (fun y news' => y = .none ∧ @Ne Value .none .none ∧ news' = news)) E' s'
        else CompEnd h₀ L m { s with heap := h, toks := tk } I oI C oC K' (lst acc) (SrcAt h₀ K ys.toArray) (fun _ news' => @Eq Value .none .none ∧ news' = news) Value.none s') E' { s with heap := h, toks := tk })
    (hel1 : ∀ (g : Heap) I oI C oC K' acc m₂ h tk (E' : Value → Shared → Prop) r (row : List Value) (cnt : Nat) (z : Int) (t : Tok), NsObj oC m₂ → m₂ x = some (.ref r) → Fr h₀ L h m → News h₀ L h ((I, oI) :: (C, oC) :: (K', lst acc) :: news) → Off3 I C K' news → SrcAt h₀ K ys.toArray news → (r, listOf row.toArray cnt) ∈ news → row[((b + 1).fmod 7).toNat]? = some (.int z t) →
      wpAny (model prog w) A (isTrue ct (compEnvC scope cl C env) (eval ct (compEnvC scope cl C env))) (fun ok s' => if ok = true then
        wpAny (model prog w) A (eval elt (compEnvC scope cl C env)) (CompEnd h₀ L m { s with heap := h, toks := tk } I oI C oC K' (lst acc) (SrcAt h₀ K ys.toArray) (fun y news' => y = (.int z t) ∧ @Ne Value (.int z t) .none ∧ news' = news)) E' s'
        else CompEnd h₀ L m { s with heap := h, toks := tk } I oI C oC K' (lst acc) (SrcAt h₀ K ys.toArray) (fun _ news' => @Eq Value (.int z t) .none ∧ news' = news) Value.none s') E' { s with heap := h, toks := tk })
    (fin : ∀ g zs, IntsAre zs (al (1 + (b - a).fmod 7) D) → Fin { s with heap := g } zs news) :
    LCt.CompSrcT prog w A h₀ L m env ct elt x scope cl Fin (.ref K) s := by
  have h7 := fm7 (a + 1)
  have hb7 := fm7 (b + 1)
  have hlen := hcal.1
  refine LCt.CompSrcT.ledger hh F N hm (by rw [List.size_toArray]; have : sizeLine = 16777216 := sizeLine_eq; omega) fun g => ?_
  rw [List.size_toArray]
  refine rest_leaf (s := { s with heap := g }) hcal hsub (.inr ⟨_, hm, rfl, _, rfl⟩) hb7 (fun I oI C oC K' acc m₂ h tk E' r row cnt v p1 p2 p3 p4 p5 p6 p7 p8 p9 => ?_) (fun zs hz => fin g zs (law_leaf ha hb hD ▸ hz)) ys.length 0 [] (by omega) .nil
  rcases p9 with rfl | ⟨z, t, rfl⟩
  · exact hel0 g I oI C oC K' acc m₂ h tk E' r row cnt p1 p2 p3 p4 p5 p6 p7 p8
  · exact hel1 g I oI C oC K' acc m₂ h tk E' r row cnt z t p1 p2 p3 p4 p5 p6 p7 p8
end
end Mine
namespace Mine
open PySem PySem.Spec PySem.Calls PySem.W PyProof.Rows
open PyProof.Rows.LCg
set_option maxRecDepth 100000

theorem item_made {prog : Program} {w : World} {A : Around} {E : Value → Shared → Prop} {s : Shared} {h₀ : Heap} {L : Addr} {news : List (Addr × Obj)} {value slice : Expr} {l : Addr} {vs : List Value} {ns : List Int} {c : Nat} {k : Int} {u : Tok} {Q : Value → Shared → Prop}
    (N : News h₀ L s.heap news) (hl : (l, listOf vs.toArray c) ∈ news) (hi : IntsAre vs ns) (h0 : 0 ≤ k) (h1 : k < (ns.length : Int)) (h2 : k < 2 ^ 63)
    (h : ∀ t', Q (.int (ns.getD k.toNat 0) t') s)
    (hs : subscripted slice false (.ref l) (.int k u) = operate [.ref l, .int k u] (getItem (.ref l) (.int k u))) :
    wpAny (model prog w) A (subscriptTail value slice (.ref l) (.int k u)) Q E s := by
  have hk : k.toNat < vs.length := by rw [hi.length]; omega
  obtain ⟨n', t', e, e2⟩ := ints_at hi (List.getElem?_eq_getElem hk)
  have ed : ns.getD k.toNat 0 = n' := by
    have : (ns.drop k.toNat)[0]? = some n' := by rw [e2]; rfl
    rw [List.getElem?_drop, Nat.add_zero] at this
    rw [List.getD_eq_getElem?_getD, this]; rfl
  rw [ed] at h
  have hx : vs[k.toNat]? = some (.int n' t') := by rw [List.getElem?_eq_getElem hk, e]
  have hL : s.heap.IsList l vs.toArray := ⟨_, (N _ hl).1, rfl, _, rfl⟩
  exact tail_any hL.typeIs slot_list_getitem.lookup (wpAny_getItem_list hL h0 h2 (by simpa using hx) (h t')) hs
theorem item_last {prog : Program} {w : World} {A : Around} {E : Value → Shared → Prop} {s : Shared} {h₀ : Heap} {L : Addr} {news : List (Addr × Obj)} {value slice : Expr} {l : Addr} {vs : List Value} {ns : List Int} {c : Nat} {k : Int} {u : Tok} {Q : Value → Shared → Prop}
    (N : News h₀ L s.heap news) (hl : (l, listOf vs.toArray c) ∈ news) (hi : IntsAre vs ns) (h0 : k < 0 ∧ -(2 ^ 63) ≤ k) (h1 : 0 ≤ k + (ns.length : Int))
    (h : ∀ t', Q (.int (ns.getD (k + (ns.length : Int)).toNat 0) t') s)
    (hs : subscripted slice false (.ref l) (.int k u) = operate [.ref l, .int k u] (getItem (.ref l) (.int k u))) :
    wpAny (model prog w) A (subscriptTail value slice (.ref l) (.int k u)) Q E s := by
  have hv := hi.length
  have hk : (k + (ns.length : Int)).toNat < vs.length := by omega
  obtain ⟨n', t', e, e2⟩ := ints_at hi (List.getElem?_eq_getElem hk)
  have ed : ns.getD (k + (ns.length : Int)).toNat 0 = n' := by
    have : (ns.drop (k + (ns.length : Int)).toNat)[0]? = some n' := by rw [e2]; rfl
    rw [List.getElem?_drop, Nat.add_zero] at this
    rw [List.getD_eq_getElem?_getD, this]; rfl
  rw [ed] at h
  have hx : vs.toArray[(k + (vs.toArray.size : Int)).toNat]? = some (.int n' t') := by
    rw [List.size_toArray, hv, List.getElem?_toArray, List.getElem?_eq_getElem hk, e]
  have hL : s.heap.IsList l vs.toArray := ⟨_, (N _ hl).1, rfl, _, rfl⟩
  exact tail_any hL.typeIs slot_list_getitem.lookup (wpAny_getItem_list_neg hL h0.1 (by rw [List.size_toArray]; omega) h0.2 hx (h t')) hs
theorem dg_cases (y k : Int) : (lp y = true ∧ k < 3 ∧ dg y k = dk k + 1) ∨ (lp y = true ∧ 3 ≤ k ∧ dg y k = dk k + 0) ∨ (lp y = false ∧ dg y k = dk k + 0) := by
  unfold dg
  by_cases hk : k < 3 <;> cases lp y <;> simp [hk] <;> omega
theorem dj_cases (y k : Int) : ((y.fmod 4 == 0) = true ∧ k < 3 ∧ dj y k = dk k + 1) ∨ ((y.fmod 4 == 0) = true ∧ 3 ≤ k ∧ dj y k = dk k + 0) ∨ ((y.fmod 4 == 0) = false ∧ dj y k = dk k + 0) := by
  unfold dj lj
  by_cases hk : k < 3 <;> cases (y.fmod 4 == 0) <;> simp [hk] <;> omega
theorem leaf_in {a b c r : Addr × Obj} {l : List (Addr × Obj)} (h : r ∈ l) : r ∈ a :: b :: c :: l := .tail _ (.tail _ (.tail _ h))
theorem bne_of {a b : Int} (h : a = b) : (a != b) = false := by simp [h]
theorem week_cases {a b k : Int} (h : k = if (3 = a ∨ 3 = b) then 53 else 52) : (([a, b] : List Int).any (fun x => x == 3) = true ∧ (k == 53) = true) ∨ (([a, b] : List Int).any (fun x => x == 3) = false ∧ (k == 52) = true) := by
  by_cases e : 3 = a ∨ 3 = b
  · rw [if_pos e] at h
    subst h
    refine .inl ⟨?_, rfl⟩
    simp only [List.any_cons, List.any_nil, Bool.or_false, Bool.or_eq_true, beq_iff_eq]
    omega
  · rw [if_neg e] at h
    subst h
    refine .inr ⟨?_, rfl⟩
    simp only [List.any_cons, List.any_nil, Bool.or_false, Bool.or_eq_false_iff, beq_eq_false_iff_ne]
    omega
theorem span_gc (y : Int) : (lp y = true ∧ (tj y 12 12 - tj y 1 4 != 343) = false) ∨ (lp y = false ∧ (tj y 12 12 - tj y 1 3 != 343) = false) := by
  have h := span_g y
  cases hb : lp y
  · rw [hb] at h
    exact .inr ⟨rfl, bne_of h⟩
  · rw [hb] at h
    exact .inl ⟨rfl, bne_of h⟩
theorem span_jc (y : Int) : ((y.fmod 4 == 0) = true ∧ (tu y 12 12 - tu y 1 4 != 343) = false) ∨ ((y.fmod 4 == 0) = false ∧ (tu y 12 12 - tu y 1 3 != 343) = false) := by
  have h := span_j y
  cases hb : (y.fmod 4 == 0)
  · rw [show lj y = false from hb] at h
    exact .inr ⟨rfl, bne_of h⟩
  · rw [show lj y = true from hb] at h
    exact .inl ⟨rfl, bne_of h⟩
local macro_rules | `(tactic| walk_at "eval Call") => `(tactic| (k_here; (with_reducible show wpAny _ _ (eval (Expr.Call (Expr.Name (Str.ofString "isleap") _) _ [] _) _) _ _ _); k_dflt (refine Call_ ?_)))
local macro_rules | `(tactic| walk_at "call ref") => `(tactic| (k_here; (with_reducible show wpAny _ _ (call (Value.ref 22) [Value.int _ _]) _ _ _); k_dflt (refine' (lp_cl _ _ _).use ?k1 ?k2 ?k3 ?k4 ?k5 ?kK ?kp ?kd ?ku ?_; (case k1 => k_asm); (case k2 => k_asm); (case k3 => k_asm); (case k4 => k_asm); (case k5 => k_asm); (case kK => first | exact rfl | assumption); (case kp => first | trivial | assumption | omega); (case kd => ktr_room); (case ku => ktr_units); k_whole); intro t9 h9 tk9 F9 N9; (try dsimp only); (try k_fold)))
local macro_rules | `(tactic| walk_at "eval Call") => `(tactic| (k_here; (with_reducible show wpAny _ _ (eval (Expr.Call (Expr.Name (Str.ofString "jwday") _) _ [] _) _) _ _ _); k_dflt (refine Call_ ?_)))
local macro_rules | `(tactic| walk_at "call ref") => `(tactic| (k_here; (with_reducible show wpAny _ _ (call (Value.ref 36) [Value.int _ _]) _ _ _); k_dflt (refine' (jw_cl _ _ _).use ?k1 ?k2 ?k3 ?k4 ?k5 ?kK ?kp ?kd ?ku ?_; (case k1 => k_asm); (case k2 => k_asm); (case k3 => k_asm); (case k4 => k_asm); (case k5 => k_asm); (case kK => first | exact rfl | assumption); (case kp => first | trivial | assumption | omega); (case kd => ktr_room); (case ku => ktr_units); k_whole); intro t9 h9 tk9 F9 N9; (try dsimp only); (try k_fold)))
local macro_rules | `(tactic| walk_at "eval Call") => `(tactic| (k_here; (with_reducible show wpAny _ _ (eval (Expr.Call (Expr.Name (Str.ofString "to_jd_gregorian") _) _ [] _) _) _ _ _); k_dflt (refine Call_ ?_)))
local macro_rules | `(tactic| walk_at "call ref") => `(tactic| (k_here; (with_reducible show wpAny _ _ (call (Value.ref 63) [Value.int _ _, Value.int _ _, Value.int _ _]) _ _ _); k_dflt (refine' (tj_cl _ _ _ _ _ _ _).use ?k1 ?k2 ?k3 ?k4 ?k5 ?kK ?kp ?kd ?ku ?_; (case k1 => k_asm); (case k2 => k_asm); (case k3 => k_asm); (case k4 => k_asm); (case k5 => k_asm); (case kK => first | exact rfl | assumption); (case kp => first | trivial | assumption | omega); (case kd => ktr_room); (case ku => ktr_units); k_whole); intro t9 h9 tk9 F9 N9; (try dsimp only); (try k_fold)))
local macro_rules | `(tactic| walk_at "eval Call") => `(tactic| (k_here; (with_reducible show wpAny _ _ (eval (Expr.Call (Expr.Name (Str.ofString "to_jd_julian") _) _ [] _) _) _ _ _); k_dflt (refine Call_ ?_)))
local macro_rules | `(tactic| walk_at "call ref") => `(tactic| (k_here; (with_reducible show wpAny _ _ (call (Value.ref 113) [Value.int _ _, Value.int _ _, Value.int _ _]) _ _ _); k_dflt (refine' (tu_cl _ _ _ _ _ _ _).use ?k1 ?k2 ?k3 ?k4 ?k5 ?kK ?kp ?kd ?ku ?_; (case k1 => k_asm); (case k2 => k_asm); (case k3 => k_asm); (case k4 => k_asm); (case k5 => k_asm); (case kK => first | exact rfl | assumption); (case kp => first | trivial | assumption | omega); (case kd => ktr_room); (case ku => ktr_units); k_whole); intro t9 h9 tk9 F9 N9; (try dsimp only); (try k_fold)))
local macro_rules | `(tactic| walk_at "eval Call") => `(tactic| (k_here; (with_reducible show wpAny _ _ (eval (Expr.Call (Expr.Name (Str.ofString "month_length_gregorian") _) _ [] _) _) _ _ _); k_dflt (refine Call_ ?_)))
local macro_rules | `(tactic| walk_at "call ref") => `(tactic| (k_here; (with_reducible show wpAny _ _ (call (Value.ref 70) [Value.int _ _, Value.int _ _]) _ _ _); k_dflt (refine' (mlg_cl _ _ _ _ _).use ?k1 ?k2 ?k3 ?k4 ?k5 ?kK ?kp ?kd ?ku ?_; (case k1 => k_asm); (case k2 => k_asm); (case k3 => k_asm); (case k4 => k_asm); (case k5 => k_asm); (case kK => first | exact rfl | assumption); (case kp => exact ⟨by omega, by omega⟩); (case kd => ktr_room); (case ku => ktr_units); k_whole); intro t9 h9 tk9 F9 N9; (try dsimp only); (try k_fold)))
local macro_rules | `(tactic| walk_at "exec Assign cons ListComp") => `(tactic| (k_here; (with_reducible show wpAny _ _ (exec (Stmt.Assign _ (Expr.ListComp (Expr.Name _ _) [_] _ _) _) _) _ _ _); k_dflt (refine' asg_S ?k1 ?k2 ?k3 ?k4 ?k5 ?k6 ?k7 ?k8 ?k9 ?k10 ?_ ?k11; (case k1 => k_asm); (case k2 => rfl); (case k3 => with_unfolding_all rfl); (case k4 => rfl); (case k5 => decide); (case k6 => rfl); (case k7 => decide); (case k8 => rfl); (case k9 => rfl); (case k10 => rfl); (case k11 => intro _; rfl); k_whole)))
local macro_rules | `(tactic| walk_at "SrcS") => `(tactic| (k_here; k_dflt (refine' src_mine ?k1 ?k2 ?k3 ?k4 ?k5 ?k6 ?k7 ?k8 ?k9 ?_; (case k1 => rfl); (case k2 => intro _; rfl); (case k3 => intro _; rfl); (case k4 => decide); (case k5 => k_asm); (case k6 => k_asm); (case k7 => assumption); (case k8 => assumption); (case k9 => assumption); k_whole); intro g' vs' hvs'; (unfold LCg.FinA); intro D' h' tk' F' N' o1'; (have l1' := off1_ne o1'); (try dsimp only)))
local macro_rules | `(tactic| walk_at "eval Call") => `(tactic| (k_here; (with_reducible show wpAny _ _ (eval (Expr.Call (Expr.Name (Str.ofString "monthrange") _) _ [] _) _) _ _ _); k_dflt (refine Call_ ?_)))
local macro_rules | `(tactic| walk_at "call ref") => `(tactic| (k_here; (with_reducible show wpAny _ _ (call (Value.ref 29) [Value.int _ _, Value.int _ _]) _ _ _); k_dflt (refine' (mr_cl _ _ _ _ _).use ?k1 ?k2 ?k3 ?k4 ?k5 ?kK ?kp ?kd ?ku ?_; (case k1 => k_asm); (case k2 => k_asm); (case k3 => k_asm); (case k4 => k_asm); (case k5 => k_asm); (case kK => first | exact rfl | assumption); (case kp => exact ⟨by omega, by omega⟩); (case kd => ktr_room); (case ku => ktr_units); k_whole); intro D9 t9 t9 c9 h9 tk9 F9 N9 l1; (try dsimp only); (try k_lt l1); (try k_sweep); (try k_fold)))
local macro_rules | `(tactic| walk_at "eval Call") => `(tactic| (k_here; (with_reducible show wpAny _ _ (eval (Expr.Call (Expr.Name (Str.ofString "nth_day_of_month") _) _ [] _) _) _ _ _); k_dflt (refine Call_ ?_)))
local macro_rules | `(tactic| walk_at "call ref") => `(tactic| (k_here; (with_reducible show wpAny _ _ (call (Value.ref 48) [Value.int _ _, Value.int _ _, Value.int _ _, Value.int _ _]) _ _ _); k_dflt (refine' (nth_z _ _ _ _ _ _ _ _ _ _ (by assumption)).use ?k1 ?k2 ?k3 ?k4 ?k5 ?kK ?kp ?kd ?ku ?_; (case k1 => k_asm); (case k2 => k_asm); (case k3 => k_asm); (case k4 => k_asm); (case k5 => k_asm); (case kK => first | exact rfl | assumption); (case kp => assumption); (case kd => ktr_room); (case ku => ktr_units); k_whole); intro D9 t9 t9 t9 c9 h9 tk9 F9 N9 l1; (try dsimp only); (try k_lt l1); (try k_sweep); (try k_fold)))
local macro_rules | `(tactic| walk_at "subscriptTail Name BinOp ref int") => `(tactic| (k_here; (with_reducible show wpAny _ _ (subscriptTail _ _ (Value.ref _) (Value.int _ _)) _ _ _); k_dflt (refine' item_made ?k1 ?k2 ?k3 ?k4 ?k5 ?k6 ?_ ?k7; (case k1 => k_asm); (case k2 => k_mem); (case k3 => assumption); (case k4 => omega); (case k5 => omega); (case k6 => omega); (case k7 => with_unfolding_all rfl); k_whole); intro t'; (try dsimp only)))
local macro_rules | `(tactic| walk_at "subscriptTail Name BinOp ref int") => `(tactic| (k_here; (with_reducible show wpAny _ _ (subscriptTail _ _ (Value.ref _) (Value.int _ _)) _ _ _); k_dflt (refine' item_last ?k1 ?k2 ?k3 ?k4 ?k5 ?_ ?k7; (case k1 => k_asm); (case k2 => k_mem); (case k3 => assumption); (case k4 => omega); (case k5 => omega); (case k7 => with_unfolding_all rfl); k_whole); intro t'; (try dsimp only)))
local macro_rules | `(tactic| walk_at "Then") => `(tactic| (refine ⟨rfl, ?_⟩))
local macro_rules | `(tactic| walk_at "exec Try") => `(tactic| (k_here; (with_reducible show wpAny _ _ (exec (Stmt.Try _ (_ :: _) _ [] _) _) _ _ _); refine wpAny_Try_except ?_))
local macro_rules | `(tactic| walk_at "noteFrame ref") => `(tactic| (k_here; (rename RaisedK _ _ _ _ _ _ _ _ => rkX); k_dflt (refine' caught_X0 (T' := "IndexError") ?k1 ?k2 ?k3 ?k4 ?k5 ?k6 ?k7 ?k8 ?k9 ?k10 ?k11 ?k12 ?k13 ?k14 ?k15 ?k16 ?_; (case k4 => exact rkX); (case k3 => assumption); (case k2 => assumption); (case k1 => k_asm); (case k5 => k_asm); (case k6 => k_is); (case k7 => k_asm); (case k8 => exact PyProof.Rows.Boot.«IndexError»); (case k9 => exact PySem.F.isExc_IndexError); (case k10 => exact PySem.F.notTuple_IndexError); (case k11 => (rw [isSubtype_type]; kernel_rfl)); (case k12 => decide +kernel); (case k13 => rfl); (case k14 => rfl); (case k15 => decide); (case k16 => passes_own); k_whole); intro h' F' N'; (try k_sweep)))
local macro_rules | `(tactic| walk_at "eval Call") => `(tactic| (k_here; (with_reducible show wpAny _ _ (eval (Expr.Call (Expr.Name (Str.ofString "monthcalendar") _) _ [] _) _) _ _ _); k_dflt (refine Call_ ?_)))
local macro_rules | `(tactic| walk_at "call ref") => `(tactic| (k_here; (with_reducible show wpAny _ _ (call (Value.ref 77) [Value.int _ _, Value.int _ _]) _ _ _); k_dflt (refine' (mc_cl _ _ _ _ _).use ?k1 ?k2 ?k3 ?k4 ?k5 ?kK ?kp ?kd ?ku ?_; (case k1 => k_asm); (case k2 => k_asm); (case k3 => k_asm); (case k4 => k_asm); (case k5 => k_asm); (case kK => first | exact rfl | assumption); (case kp => exact ⟨by omega, by omega⟩); (case kd => ktr_room); (case ku => ktr_units); k_whole); intro K9 ys9 nw9 h9 tk9 F9 N9 cal9; (try simp only [List.cons_append, List.nil_append] at N9); (try dsimp only); (try k_fold)))
local macro_rules | `(tactic| walk_at "eval ListComp") => `(tactic| (k_here; (with_reducible show wpAny _ _ (eval (Expr.ListComp (Expr.Subscript _ _ _) [_] _ _) _) _ _ _); k_dflt (refine' LCt.ListComp_T ?k1 ?k2 ?k3 ?k4 ?k5 ?k6 ?_ ?k7; (case k1 => k_asm); (case k2 => with_unfolding_all rfl); (case k3 => decide); (case k4 => rfl); (case k5 => decide); (case k6 => rfl); (case k7 => intro _; rfl); k_whole)))
local macro_rules | `(tactic| walk_at "CompSrcT") => `(tactic| (k_here; (rename (0 ≤ ru _ ∧ ru _ ≤ 6) => hr9); k_dflt (refine' src_leaf ?k1 ?k2 ?k3 ?k4 ?k5 ?k6 ?k7 ?k8 ?k9 ?_ ?_ ?_; (case k1 => rfl); (case k2 => k_asm); (case k3 => k_asm); (case k4 => assumption); (case k5 => k_mem); (case k6 => (intro p9 hp9; simp only [List.mem_cons, List.mem_append, hp9, or_true, true_or])); (case k7 => assumption); (case k8 => exact hr9); (case k9 => assumption); k_whole)))
local macro_rules | `(tactic| walk_at "subscriptTail Name BinOp ref int") => `(tactic| (k_here; (with_reducible show wpAny _ _ (subscriptTail _ _ (Value.ref _) (Value.int _ _)) _ _ _); k_dflt (refine' item_row ?k1 ?k2 ?k3 ?k4 ?k5 ?_ ?k7; (case k3 => assumption); (case k1 => k_asm); (case k2 => exact leaf_in (by assumption)); (case k4 => omega); (case k5 => omega); (case k7 => with_unfolding_all rfl); k_whole); (try dsimp only)))
local macro_rules | `(tactic| walk_at "eval Call") => `(tactic| (k_here; (with_reducible show wpAny _ _ (eval (Expr.Call (Expr.Name (Str.ofString "weeks_per_year") _) _ [] _) _) _ _ _); k_dflt (refine Call_ ?_)))
local macro_rules | `(tactic| walk_at "call ref") => `(tactic| (k_here; (with_reducible show wpAny _ _ (call (Value.ref 84) [Value.int _ _]) _ _ _); k_dflt (refine' (wk_cl _ _ _).use ?k1 ?k2 ?k3 ?k4 ?k5 ?kK ?kp ?kd ?ku ?_; (case k1 => k_asm); (case k2 => k_asm); (case k3 => k_asm); (case k4 => k_asm); (case k5 => k_asm); (case kK => first | exact rfl | assumption); (case kp => first | trivial | assumption | omega); (case kd => ktr_room); (case ku => ktr_units); k_whole); intro t9 h9 tk9 F9 N9; (try dsimp only); (try k_fold)))
theorem in_made {prog : Program} {w : World} {A : Around} {E Q : Value → Shared → Prop} {s : Shared} {h₀ : Heap} {L a : Addr} {news : List (Addr × Obj)} {x : Int} {u : Tok} {od : Option Addr} {vs : Array Value} {n : Nat} {sl : Array (Option Value)} {ns : List Int}
    (N : News h₀ L s.heap news) (hm : (a, (⟨.type "tuple", od, .seq vs n, sl⟩ : Obj)) ∈ news) (hi : IntsAre vs.toList ns)
    (h : Q (.bool (ns.any (· == x))) s) : wpAny (model prog w) A (compareOp .In (.int x u) (.ref a)) Q E s :=
  in_tuple_ints ⟨_, (N _ hm).1, rfl, _, rfl⟩ hi h
local macro_rules | `(tactic| walk_at "compareOp In int ref") => `(tactic| (k_here; k_dflt (refine' in_made ?k1 ?k2 ?k4 ?_; (case k1 => k_asm); (case k2 => k_mem); (case k4 => repeat' constructor); k_whole)))

def DaysAre (ns : List Int) : Prop := ns = [3, 28, 7, 4, 9, 6, 11, 8, 5, 10, 7, 12]
theorem lp_a {y : Int} (h : y.fmod 4 ≠ 0) : (y.fmod 4 == 0) = lp y := by unfold lp; simp [h]
theorem lp_b {y : Int} (h : y.fmod 4 = 0) (h2 : y.fmod 100 ≠ 0) : (y.fmod 100 != 0) = lp y := by unfold lp; simp [h, h2]
theorem lp_c {y : Int} (h : y.fmod 4 = 0) (h2 : y.fmod 100 = 0) : (y.fmod 400 == 0) = lp y := by unfold lp; simp [h, h2, BEq.beq]
local macro_rules | `(tactic| walk_at "exec For Name Call cons nil") => `(tactic| (k_here; (rename Fr _ _ _ _ => lF'); (with_unfolding_all refine' For_invVF lF' ?k1 ?k2 ?_; (case k1 => exact rfl); (case k2 => exact rfl); k_whole)))
local macro_rules | `(tactic| walk_at "pyIter ref") => `(tactic| (k_here; (with_reducible show wpAny _ _ (pyIter (Value.ref _)) (fun it s₂ => LoopAtV _ _ _ _ _ _ _ _ _ it s₂) _ _); (rename IsRange _ _ _ _ _ _ _ _ => rgX); k_dflt (refine' loop_for [Str.ofString "day", Str.ofString "first", Str.ofString "mine", Str.ofString "told", Str.ofString "other", Str.ofString "theirs"] ?k0 ?k1 ?k2 ?k3 ?k4 ?k5 ?k6 ?_ ?_; (case k0 => exact rfl); (case k1 => exact rfl); (case k2 => exact rgX); (case k3 => decide); (case k4 => first | exact rangeSize_nat _ _ | rfl); (case k5 => k_asm); (case k6 => k_asm); k_whole)))
set_option maxHeartbeats 8000000 in
theorem law_holds : PySem.Challenge.rw_bh0010_01.Holds := hd (by
  k_go0
  (rename Heap.CodeRec _ _ _ => z9; clear z9)
  (rename Dflts _ _ _ _ _ _ => z9; clear z9)
  (rename Ground _ _ _ _ _ _ _ _ _ => z9; clear z9)
  k_fold
  with_reducible refine' cutV_go (fun (v : Int) t => Value.int v t) "year" (fun _ => True) ?kF ?kN ?q1 ?q2
  case kF => k_asm
  case kN => k_asm
  case q1 =>
    repeat' (first | (k_unfold; (try dsimp only)) | walk1 | ((with_reducible show wpAny _ _ _ _ _ _); dsimp only; walk1))
    all_goals (refine' cutV_end ?p1 ?p2 ?p3 trivial; (case p1 => k_asm); (case p2 => k_asm); (case p3 => kcj_all))
  case q2 =>
  intro Y tY h1 tk1 _ F1 N1
  try k_sweep
  with_reducible refine' cutV_go (fun (v : Int) t => Value.int v t) "nth" (fun v => 0 ≤ v ∧ v ≤ 5) ?kF ?kN ?q1 ?q2
  case kF => k_asm
  case kN => k_asm
  case q1 =>
    repeat' (first | (k_unfold; (try dsimp only)) | walk1 | ((with_reducible show wpAny _ _ _ _ _ _); dsimp only; walk1))
    all_goals (refine' cutV_end ?p1 ?p2 ?p4 ?p3; (case p1 => k_asm); (case p2 => k_asm); (case p4 => kcj_all); (case p3 => (constructor <;> first | omega | (rw [Int.fmod_eq_emod_of_nonneg _ (by decide)]; omega))))
  case q2 =>
  intro N tN h2 tk2 hN F2 N2
  try k_sweep
  with_reducible refine' cutV_go (fun (v : Bool) _ => Value.bool v) "long" (fun v => v = lp Y) ?kF ?kN ?q1 ?q2
  case kF => k_asm
  case kN => k_asm
  case q1 =>
    repeat' (first | (k_unfold; (try dsimp only)) | walk1 | ((with_reducible show wpAny _ _ _ _ _ _); dsimp only; walk1))
    all_goals (refine' cutV_end (t := 0) ?p1 ?p2 ?p4 ?p3; (case p1 => k_asm); (case p2 => k_asm); (case p4 => kcj_all); (case p3 => first | exact lp_a (by assumption) | exact lp_b (by assumption) (by assumption) | exact lp_c (by assumption) (by assumption)))
  case q2 =>
  intro b tb h3 tk3 hb F3 N3
  try k_sweep
  subst hb
  with_reducible refine' cutC_go (ru Y) ?kF ?kN ?q1 ?q2
  case kF => k_asm
  case kN => k_asm
  case q1 =>
    repeat' (first | (k_unfold; (try dsimp only)) | walk1 | ((with_reducible show wpAny _ _ _ _ _ _); dsimp only; walk1))
    all_goals (refine' cutC_end ?p0 ?p1 ?p2 ?p3; (case p0 => assumption); (case p1 => k_asm); (case p2 => k_asm); (case p3 => rfl))
  case q2 =>
  intro oR tR h31 tk31 dR F31 N31
  with_reducible refine' cutV_go (fun (v : Int) t => Value.int v t) "old" (fun v => v = ro Y) ?kF ?kN ?q1 ?q2
  case kF => k_asm
  case kN => k_asm
  case q1 =>
    repeat' (first | (k_unfold; (try dsimp only)) | walk1 | ((with_reducible show wpAny _ _ _ _ _ _); dsimp only; walk1))
    all_goals (refine' cutV_end ?p1 ?p2 ?p4 ?p3; (case p1 => k_asm); (case p2 => k_asm); (case p4 => kcj_all); (case p3 => rfl))
  case q2 =>
  intro vO tO h32 tk32 hO F32 N32
  subst hO
  with_reducible refine' cutL_go "days" DaysAre ?kF ?kN ?q1 ?q2
  case kF => k_asm
  case kN => k_asm
  case q1 =>
    repeat' (first | (k_unfold; (try dsimp only)) | walk1 | ((with_reducible show wpAny _ _ _ _ _ _); dsimp only; walk1))
    all_goals (refine' cutL_end ?p1 ?p2 ?p3 ?p4 ?p5 ?p6; (case p1 => k_asm); (case p2 => k_asm); (case p3 => kcj_all); (case p4 => (repeat' (first | exact List.forall_mem_nil _ | (refine List.forall_mem_cons.mpr ⟨?_, ?_⟩))); all_goals (dsimp only; refine Nat.ne_of_lt ?_; omega)); (case p5 => repeat' constructor); (case p6 => rfl))
  case q2 =>
  intro nsD vsD lD cD h33 tk33 hnD hiD F33 N33 lD1
  unfold DaysAre at hnD
  subst hnD
  clear F31 N31 F32 N32
  generalize bindL _ _ _ = mz at F33

  repeat' (first | (k_unfold; (try dsimp only)) | walk1 | ((with_reducible show wpAny _ _ _ _ _ _); dsimp only; walk1))
  rotate_left
  · unfold Held
    iterate 4 (try (rename Fr _ _ _ _ => z9; clear z9))
    iterate 4 (try (rename News _ _ _ _ => z9; clear z9))
    intro u hh tkk F N
    (rename CellsAre _ _ _ => z9; clear z9)
    (rename ReadsAll _ _ _ _ => z9; clear z9)
    (rename Well _ _ _ _ => z9; clear z9)
    (rename Reads _ _ _ _ => z9; clear z9)
    (rename ReadsAllW _ _ _ _ _ _ => z9; clear z9)
    (rename IsRange _ _ _ _ _ _ _ _ => z9; clear z9)
    (rename Frag.In _ _ => KX)
    (rename Below _ _ _ _ => KB)
    (rename (Obj.data _ = Data.cell (bindC _ _ _ _)) => z9; clear z9)
    try dsimp only
    have hv1 : 1 ≤ (12 : Int) ∧ 12 ≤ ml (lp Y) 12 := by unfold ml; omega
    have hv2 : 1 ≤ (4 : Int) ∧ 4 ≤ ml (lp Y) 1 := by unfold ml; omega
    have hv3 : 1 ≤ (3 : Int) ∧ 3 ≤ ml (lp Y) 1 := by unfold ml; omega
    have hv4 : 1 ≤ (12 : Int) ∧ 12 ≤ ml (lj Y) 12 := by unfold ml; omega
    have hv5 : 1 ≤ (4 : Int) ∧ 4 ≤ ml (lj Y) 1 := by unfold ml; omega
    have hv6 : 1 ≤ (3 : Int) ∧ 3 ≤ ml (lj Y) 1 := by unfold ml; omega
    have hbs : lp Y = true ∨ lp Y = false := by cases lp Y <;> simp
    with_reducible refine' cutN_go ?kF ?kN ?q1 ?q2
    case kF => k_asm
    case kN => k_asm
    case q1 =>
      rcases span_gc Y with ⟨hb, e1⟩ | ⟨hb, e1⟩
      all_goals (
        rcases span_jc Y with ⟨hc, e2⟩ | ⟨hc, e2⟩
        all_goals (
          repeat' (first | (k_unfold; (try dsimp only)) | walk1 | ((with_reducible show wpAny _ _ _ _ _ _); dsimp only; walk1))
          all_goals (refine' cutN_end ?p1 ?p2 ?p3; (case p1 => k_asm); (case p2 => k_asm); (case p3 => kcj_all))))
    case q2 =>
    intro h5 tk5 F5 N5
    clear F N
    with_reducible refine' cutV_go (fun (v : Int) t => Value.int v t) "start" (fun v => v = (ru Y - (if lp Y = true then 3 else 2)).fmod 7) ?kF ?kN ?q1 ?q2
    case kF => k_asm
    case kN => k_asm
    case q1 =>
      rcases hbs with hb | hb
      all_goals (
        repeat' (first | (k_unfold; (try dsimp only)) | walk1 | ((with_reducible show wpAny _ _ _ _ _ _); dsimp only; walk1))
        all_goals (refine' cutV_end ?p1 ?p2 ?p4 ?p3; (case p1 => k_asm); (case p2 => k_asm); (case p4 => kcj_all); (case p3 => (simp only [hb, if_true, Bool.false_eq_true, if_false]))))
    case q2 =>
    intro vs tvs h6 tk6 hvs F6 N6
    clear F5 N5
    have hw := law_w Y
    rw [← hvs] at hw
    clear hvs
    rcases hbs with hb | hb
    all_goals (
      simp only [hb, if_true, Bool.false_eq_true, if_false] at hw
      rcases week_cases hw with ⟨hc, hd⟩ | ⟨hc, hd⟩
      all_goals (
        clear hw
        iterate 44 (first | (k_unfold; (try dsimp only)) | walk1 | ((with_reducible show wpAny _ _ _ _ _ _); dsimp only; walk1) | skip)
        rw [hd]
        clear hc hb
        refine' goodW_bool ?gF ?gg (raisesW_false ?gn) ?gp
        case gF => k_asm
        case gg => assumption
        case gn => wrow_none_raised
        case gp => wrow_post))
  unfold Held
  iterate 4 (try (rename Fr _ _ _ _ => z9; clear z9))
  iterate 4 (try (rename News _ _ _ _ => z9; clear z9))
  intro k tk u hh tkk own hk1 hk2 F N
  replace hk2 : k ≤ 12 := by omega
  have hk : 1 ≤ k ∧ k ≤ 12 := ⟨hk1, hk2⟩
  dsimp only [List.cons_append, List.nil_append] at N
  (rename CellsAre _ _ _ => z9; clear z9)
  (rename ReadsAll _ _ _ _ => z9; clear z9)
  (rename Well _ _ _ _ => z9; clear z9)
  (rename Reads _ _ _ _ => z9; clear z9)
  (rename ReadsAllW _ _ _ _ _ _ => z9; clear z9)
  (rename IsRange _ _ _ _ _ _ _ _ => z9; clear z9)
  (rename Frag.In _ _ => KX)
  (rename Below _ _ _ _ => KB)
  (rename (Obj.data _ = Data.cell (bindC _ _ _ _)) => z9; clear z9)
  with_reducible refine' cutV_go (fun (v : Int) t => Value.int v t) "day" (fun v => v = dk k) ?kF ?kN ?q1 ?q2
  case kF => k_asm
  case kN => k_asm
  case q1 =>
    repeat' (first | (k_unfold; (try dsimp only)) | walk1 | ((with_reducible show wpAny _ _ _ _ _ _); dsimp only; walk1))
    all_goals (refine' cutV_end ?p1 ?p2 ?p4 ?p3; (case p1 => k_asm); (case p2 => k_asm); (case p4 => kcj_all); (case p3 => rfl))
  case q2 =>
  intro dy tdy h5 tk5 hdy F5 N5
  clear F N
  subst hdy
  with_reducible refine' cutN_go ?kF ?kN ?q1 ?q2
  case kF => k_asm
  case kN => k_asm
  case q1 =>
    have e1 := law_g (y := Y) hk
    have e2 := law_gv (y := Y) hk
    have hb : (lp Y = true ∧ k < 3 ∧ dg Y k = dk k + 1) ∨ (lp Y = true ∧ 3 ≤ k ∧ dg Y k = dk k + 0) ∨ (lp Y = false ∧ dg Y k = dk k + 0) := dg_cases Y k
    rcases hb with ⟨hb, hk3, e0⟩ | ⟨hb, hk3, e0⟩ | ⟨hb, e0⟩
    all_goals (
      rw [e0] at e1 e2
      have e3 := bne_of e1
      clear e0 e1
      repeat' (first | (k_unfold; (try dsimp only)) | walk1 | ((with_reducible show wpAny _ _ _ _ _ _); dsimp only; walk1))
      all_goals (refine' cutN_end ?p1 ?p2 ?p3; (case p1 => k_asm); (case p2 => k_asm); (case p3 => kcj_all)))
  case q2 =>
  intro h6 tk6 F6 N6
  clear F5 N5
  with_reducible refine' cutN_go ?kF ?kN ?q1 ?q2
  case kF => k_asm
  case kN => k_asm
  case q1 =>
    have e1 := law_j (y := Y) hk
    have e2 := law_jv (y := Y) hk
    have hb := dj_cases Y k
    rcases hb with ⟨hb, hk3, e0⟩ | ⟨hb, hk3, e0⟩ | ⟨hb, e0⟩
    all_goals (
      rw [e0] at e1 e2
      have e3 := bne_of e1
      clear e0 e1
      repeat' (first | (k_unfold; (try dsimp only)) | walk1 | ((with_reducible show wpAny _ _ _ _ _ _); dsimp only; walk1))
      all_goals (refine' cutN_end ?p1 ?p2 ?p3; (case p1 => k_asm); (case p2 => k_asm); (case p3 => kcj_all)))
  case q2 =>
  intro h7 tk7 F7 N7
  clear F6 N6
  with_reducible refine' cutV_go (fun (v : Int) t => Value.int v t) "first" (fun v => v = f1 Y k (ru Y)) ?kF ?kN ?q1 ?q2
  case kF => k_asm
  case kN => k_asm
  case q1 =>
    have e1 := law_f (y := Y) hk
    have hb := dg_cases Y k
    rcases hb with ⟨hb, hk3, e0⟩ | ⟨hb, hk3, e0⟩ | ⟨hb, e0⟩
    all_goals (
      rw [e0] at e1
      clear e0
      repeat' (first | (k_unfold; (try dsimp only)) | walk1 | ((with_reducible show wpAny _ _ _ _ _ _); dsimp only; walk1))
      all_goals (refine' cutV_end ?p1 ?p2 ?p4 ?p3; (case p1 => k_asm); (case p2 => k_asm); (case p4 => kcj_all); (case p3 => exact e1)))
  case q2 =>
  intro fF tF h8 tk8 hfF F8 N8
  clear F7 N7
  subst hfF
  have hF7 := f1_lt Y k (ru Y)
  have hD7 := ml_lt (lp Y) k
  with_reducible refine' cutL_go "mine" (MineIs (f1 Y k (ru Y)) (ml (lp Y) k)) ?kF ?kN ?q1 ?q2
  case kF => k_asm
  case kN => k_asm
  case q1 =>
    repeat' (first | (k_unfold; (try dsimp only)) | walk1 | ((with_reducible show wpAny _ _ _ _ _ _); dsimp only; walk1))

    all_goals (refine' cutL_end ?p1 ?p2 ?p3 ?p4 ?p5 ?p6; (case p1 => k_asm); (case p2 => k_asm); (case p3 => kcj_all); (case p4 => assumption); (case p5 => assumption); (case p6 => rfl))
  case q2 =>
  intro nsM vsM lM cM h9 tk9 hM hiM F9 N9 lM1
  clear F8 N8
  unfold MineIs at hM
  subst hM
  have hR7 := ru_lt Y
  with_reducible refine' cutX_go "told" ?kF ?kN ?q1 ?q2
  case kF => k_asm
  case kN => k_asm
  case q1 =>
    rcases told_cases hF7 hD7 hN with ⟨hn, hl, hz, hle⟩ | ⟨hn, hn4, hl, hz, hle⟩ | ⟨hn, hl, hz, hle⟩ | ⟨hn, hl, hlt⟩
    · subst hn
      have hpre := And.intro hN (And.intro hR7 (And.intro hk hle))
      repeat' (first | (k_unfold; (try dsimp only)) | walk1 | ((with_reducible show wpAny _ _ _ _ _ _); dsimp only; walk1))
      all_goals (refine' cutX_end ?p1 ?p2 ?p3; (case p1 => k_asm); (case p2 => k_asm); (case p3 => kcj_all))
    · have hn5 : (N == 5) = false := by rw [beq_eq_false_iff_ne]; omega
      have hpre := And.intro hN (And.intro hR7 (And.intro hk hle))
      repeat' (first | (k_unfold; (try dsimp only)) | walk1 | ((with_reducible show wpAny _ _ _ _ _ _); dsimp only; walk1))
      all_goals (first | (exfalso; omega) | (refine' cutX_end ?p1 ?p2 ?p3; (case p1 => k_asm); (case p2 => k_asm); (case p3 => kcj_all)))
    · subst hn
      have hpre := And.intro hN (And.intro hR7 (And.intro hk hle))
      repeat' (first | (k_unfold; (try dsimp only)) | walk1 | ((with_reducible show wpAny _ _ _ _ _ _); dsimp only; walk1))
      all_goals (refine' cutX_end ?p1 ?p2 ?p3; (case p1 => k_asm); (case p2 => k_asm); (case p3 => kcj_all))
    · subst hn
      have hg : ml (lp Y) k < 1 + (ru Y - (tj Y k 1).fmod 7).fmod 7 + (5 - 1) * 7 := by unfold f1 at hlt; omega
      repeat' (first | (k_unfold; (try dsimp only)) | walk1 | ((with_reducible show wpAny _ _ _ _ _ _); dsimp only; walk1))
      all_goals (refine' cutX_end ?p1 ?p2 ?p3; (case p1 => k_asm); (case p2 => k_asm); (case p3 => kcj_all))
  case q2 =>
  intro vT h10 tk10 F10 N10
  clear F9 N9
  with_reducible refine' cutV_go (fun (v : Int) t => Value.int v t) "other" (fun v => v = (ru Y + N + 1).fmod 7) ?kF ?kN ?q1 ?q2
  case kF => k_asm
  case kN => k_asm
  case q1 =>
    repeat' (first | (k_unfold; (try dsimp only)) | walk1 | ((with_reducible show wpAny _ _ _ _ _ _); dsimp only; walk1))
    all_goals (refine' cutV_end ?p1 ?p2 ?p4 ?p3; (case p1 => k_asm); (case p2 => k_asm); (case p4 => kcj_all); (case p3 => rfl))
  case q2 =>
  intro vo tvo h11 tk11 hvo F11 N11
  clear F10 N10
  subst hvo
  have hN7 := fm7 (f1 Y k (ru Y) + N)
  have hF2 : 1 ≤ (f1 Y k (ru Y) + N).fmod 7 + 1 ∧ (f1 Y k (ru Y) + N).fmod 7 + 1 ≤ 7 := by omega
  with_reducible refine' cutL_go "theirs" (MineIs ((f1 Y k (ru Y) + N).fmod 7 + 1) (ml (lp Y) k)) ?kF ?kN ?q1 ?q2
  case kF => k_asm
  case kN => k_asm
  case q1 =>
    repeat' (first | (k_unfold; (try dsimp only)) | walk1 | ((with_reducible show wpAny _ _ _ _ _ _); dsimp only; walk1))
    all_goals (refine' cutL_end ?p1 ?p2 ?p3 ?p4 ?p5 ?p6; (case p1 => k_asm); (case p2 => k_asm); (case p3 => kcj_all); (case p4 => assumption); (case p5 => assumption); (case p6 => rfl))
  case q2 =>
  intro nsT vsT lT cT h12 tk12 hT hiT F12 N12 lT1
  clear F11 N11
  unfold MineIs at hT
  subst hT
  have hc : (k.fmod 6 == N) = false ∨ ((k.fmod 6 == N) = true ∧ N ≤ 0) ∨ ((k.fmod 6 == N) = true ∧ 5 ≤ N) ∨ ((k.fmod 6 == N) = true ∧ 1 ≤ N ∧ N ≤ 4) := by
    cases (k.fmod 6 == N) <;> simp <;> omega
  with_reducible refine' cutN_go ?kF ?kN ?q1 ?q2
  case kF => k_asm
  case kN => k_asm
  case q1 =>
    rcases hc with hc | ⟨hc, hn⟩ | ⟨hc, hn⟩ | ⟨hc, hn1, hn4⟩
    · repeat' (first | (k_unfold; (try dsimp only)) | walk1 | ((with_reducible show wpAny _ _ _ _ _ _); dsimp only; walk1))
      all_goals (refine' cutN_end ?p1 ?p2 ?p3; (case p1 => k_asm); (case p2 => k_asm); (case p3 => kcj_all))
    · repeat' (first | (k_unfold; (try dsimp only)) | walk1 | ((with_reducible show wpAny _ _ _ _ _ _); dsimp only; walk1))
      all_goals (refine' cutN_end ?p1 ?p2 ?p3; (case p1 => k_asm); (case p2 => k_asm); (case p3 => kcj_all))
    · repeat' (first | (k_unfold; (try dsimp only)) | walk1 | ((with_reducible show wpAny _ _ _ _ _ _); dsimp only; walk1))
      all_goals (refine' cutN_end ?p1 ?p2 ?p3; (case p1 => k_asm); (case p2 => k_asm); (case p3 => kcj_all))
    · obtain ⟨hl, hz, hle⟩ := their_nd (y := Y) (k := k) (N := N) rfl hD7 hn1 hn4
      have hpre := And.intro hN (And.intro (fm7 (ru Y + N + 1)) (And.intro hk hle))
      repeat' (first | (k_unfold; (try dsimp only)) | walk1 | ((with_reducible show wpAny _ _ _ _ _ _); dsimp only; walk1))
      all_goals (refine' cutN_end ?p1 ?p2 ?p3; (case p1 => k_asm); (case p2 => k_asm); (case p3 => kcj_all))
  case q2 =>
  intro h13 tk13 F13 N13
  clear F12 N12
  have hs7 := fm7 (tj Y k 1)
  have hr7 := fm7 (ru Y + 1)
  with_reducible refine' cutN_go ?kF ?kN ?q1 ?q2
  case kF => k_asm
  case kN => k_asm
  case q1 =>
    rcases hc with hc | ⟨hc, hn⟩ | ⟨hc, hn⟩ | ⟨hc, hn1, hn4⟩
    · repeat' (first | (k_unfold; (try dsimp only)) | walk1 | ((with_reducible show wpAny _ _ _ _ _ _); dsimp only; walk1))
      all_goals (refine' cutN_end ?p1 ?p2 ?p3; (case p1 => k_asm); (case p2 => k_asm); (case p3 => kcj_all))
    all_goals (
      repeat' (first | (k_unfold; (try dsimp only)) | walk1 | ((with_reducible show wpAny _ _ _ _ _ _); dsimp only; walk1))
      all_goals (first
        | (rename (¬ (al _ _ = al _ _)) => hx9; exact absurd rfl hx9)
        | (refine' cutN_end ?p1 ?p2 ?p3; (case p1 => k_asm); (case p2 => k_asm); (case p3 => (intro p9 hp9; (simp only [List.mem_cons, List.mem_append] at hp9 ⊢); (rcases hp9 with hp9 | hp9 | hp9 | hp9 | hp9 <;> simp only [hp9, true_or, or_true]))))
        | (refine' leaf_end ?p1 ?p2 ?p3 ?p4 ?p5; (case p2 => assumption); (case p1 => assumption); (case p3 => assumption); (case p4 => assumption); (case p5 => first | exact ⟨rfl, rfl⟩ | exact ⟨rfl, nofun, rfl⟩))))
  case q2 =>
  intro h14 tk14 F14 N14
  clear F13 N13
  repeat' (first | (k_unfold; (try dsimp only)) | walk1 | ((with_reducible show wpAny _ _ _ _ _ _); dsimp only; walk1))
  case _ =>
  refine' turn_end ?p1 ?p2 ?p3 ?p4
  case p1 => k_asm
  case p2 => k_asm
  case p3 => kcj_all
  case p4 =>
    intro z h1 h3
    have h3' := h3
    simp only [List.contains_cons, List.contains_nil, Bool.or_false, Bool.or_eq_false_iff, beq_eq_false_iff_ne, ne_eq] at h3'
    obtain ⟨a1, a2, a3, a4, a5, a6⟩ := h3'
    simp only [a1, a2, a3, a4, a5, a6, h1, h3, if_false, Bool.false_eq_true, reduceIte])
end Mine

theorem PySem.Challenge.cw_bh0010_01_holds : PySem.Challenge.rw_bh0010_01.Holds := by
  exact Mine.law_holds
