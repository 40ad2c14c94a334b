import PyProof.Rows.All
import Wide.All
import OpenK.AllK
import Wide.FinOn
import PySem.Challenge.RW_bb0027_01
set_option Elab.async false

/- part HHead -/
section
open PySem PySem.W PyProof.Rows
namespace Heb
set_option maxRecDepth 100000 in
set_option maxHeartbeats 8000000 in
open_top hd for PySem.Challenge.rw_bb0027_01
end Heb
end

/- part HFun -/
section
namespace Heb
open PySem PySem.W PyProof.Rows
@[irreducible] def leapF (y : Int) : Bool := decide (Int.fmod (y * 7 + 1) 19 < 7)
@[irreducible] def ymF (y : Int) : Int := if leapF y then 13 else 12
@[irreducible] def d0F (y : Int) : Int := Int.fdiv (235 * y - 234) 19 * 29 + Int.fdiv (12084 + 13753 * Int.fdiv (235 * y - 234) 19) 25920
@[irreducible] def d1F (y : Int) : Int := if Int.fmod (3 * (d0F y + 1)) 7 < 3 then d0F y + 1 else d0F y
@[irreducible] def d2F (y : Int) : Int := if d1F (y + 1) - d1F y = 356 then 2 else if d1F y - d1F (y - 1) = 382 then 1 else 0
@[irreducible] def midF (j : Int) : Int := if j > 0 then j else j + 1
@[irreducible] def njF (y : Int) : Int := midF (347996 + d1F y + d2F y + 1 + 1)
@[irreducible] def ydF (y : Int) : Int := njF (y + 1) - njF y
@[irreducible] def mlF (y m : Int) : Int :=
  if m = 2 ∨ m = 4 ∨ m = 6 ∨ m = 10 ∨ m = 13 then 29
  else if m = 12 ∧ leapF y = false then 29
  else if m = 8 ∧ Int.fmod (ydF y) 10 ≠ 5 then 29
  else if m = 9 ∧ Int.fmod (ydF y) 10 = 3 then 29
  else 30
def mlSum (y : Int) (pre : List Int) : Int := (pre.map (mlF y)).sum
theorem mlSum_nil (y : Int) : mlSum y [] = 0 := rfl
theorem mlSum_snoc (y : Int) (pre : List Int) (k : Int) : mlSum y (pre ++ [k]) = mlSum y pre + mlF y k := by
  simp [mlSum]
@[irreducible] def befF (y m : Int) : Int :=
  if m < 7 then mlSum y (rangeKs 7 (ymF y + 1 - 7).toNat) + mlSum y (rangeKs 1 (m - 1).toNat) else mlSum y (rangeKs 7 (m - 7).toNat)
@[irreducible] def tjF (y m d : Int) : Int := midF (347996 + d1F y + d2F y + d + 1 + befF y m)
theorem ymF_bounds (y : Int) : 12 ≤ ymF y ∧ ymF y ≤ 13 := by
  unfold ymF; split <;> omega
theorem mlF_bounds (y m : Int) : 29 ≤ mlF y m ∧ mlF y m ≤ 30 := by
  unfold mlF; repeat' split
  all_goals omega
theorem befF_7 (y : Int) : befF y 7 = 0 := by
  unfold befF; rfl
theorem tjF_7 (y d : Int) : tjF y 7 d = midF (347996 + d1F y + d2F y + d + 1) := by
  unfold tjF; rw [befF_7, Int.add_zero]
theorem tjF_71 (y : Int) : tjF y 7 1 = njF y := by
  rw [tjF_7]; unfold njF; rfl
theorem tj_lt {y m d a b : Int} (h : m < 7) (e1 : a = 347996 + d1F y + d2F y + d + 1 + mlSum y (rangeKs 7 (ymF y + 1 - 7).toNat)) (e2 : b = a + mlSum y (rangeKs 1 (m - 1).toNat)) : midF b = tjF y m d := by
  unfold tjF befF
  rw [if_pos h, e2, e1]
  congr 1
  omega
theorem tj_ge {y m d b : Int} (h : ¬ m < 7) (e2 : b = 347996 + d1F y + d2F y + d + 1 + mlSum y (rangeKs 7 (m - 7).toNat)) : midF b = tjF y m d := by
  unfold tjF befF
  rw [if_neg h, e2]
theorem any_in {m : Int} (h : ([2, 4, 6, 10, 13].any fun x => x == m) = true) : m = 2 ∨ m = 4 ∨ m = 6 ∨ m = 10 ∨ m = 13 := by
  simp at h; omega
theorem any_out {m : Int} (h : ([2, 4, 6, 10, 13].any fun x => x == m) = false) : ¬ (m = 2 ∨ m = 4 ∨ m = 6 ∨ m = 10 ∨ m = 13) := by
  simp at h; omega
@[irreducible] def absY (q : Int) : Int := 1 + if q < 0 then -q else q
theorem absY_eq (q : Int) : (1 + if q < 0 then -q else q) = absY q := by unfold absY; rfl
theorem absY_pos (q : Int) : 1 ≤ absY q := by unfold absY; split <;> omega
theorem two_consts {M : Model} {A : Around} {env : Env} {s : Shared} {E : Value → Shared → Prop} {c : Bool} {a b : Int} {p1 p2 : Pos} {Q : Value → Shared → Prop} (h : Q (.int (if c = true then a else b) s.toks) { s with toks := s.toks + 1 }) :
    if c = true then wpAny M A (eval (.Constant (.int a) 0 p1) env) Q E s else wpAny M A (eval (.Constant (.int b) 0 p2) env) Q E s := by
  split
  · next hc => rw [if_pos hc] at h; exact wpAny_Constant_int h
  · next hc => rw [if_neg hc] at h; exact wpAny_Constant_int h
theorem four {vs : List Value} {ns : List Int} (h : IntsAre vs (List.take 4 (List.take 4 ns ++ [0, 0, 0, 0]))) :
    ∃ a b c d t u v w, vs = [.int a t, .int b u, .int c v, .int d w] := by
  have hl : (List.take 4 (List.take 4 ns ++ [0, 0, 0, 0])).length = 4 := by simp
  revert h hl
  generalize List.take 4 (List.take 4 ns ++ [0, 0, 0, 0]) = xs
  intro h hl
  match xs, hl with
  | [a, b, c, d], _ =>
    cases h with | cons _ t h => cases h with | cons _ u h => cases h with | cons _ v h => cases h with | cons _ w h => cases h with | nil => exact ⟨a, b, c, d, t, u, v, w, rfl⟩
end Heb
end

/- part HC1 -/
section
open PySem PySem.W PyProof.Rows PySem.Calls
namespace Heb
abbrev HC (n : Nat) (f : Addr) (vs : List Value) (pre : Prop) (R : Tok → Value) : Prop :=
  ∀ (w : World) (mean : ExcName → Option Value) (mg mb : Str → Option Value) (dp un : Nat) (gd : Option (List Code)) (cn : Str) (cs : Scope) (a : Addr) (ccd : Value) (cl : List (Str × Addr)) (outer : List Env) (A₀ : Around) (base h₀ : Heap) (L : Addr) (m : Str → Option Value) (news : List (Addr × Obj)) (s : Shared) (Q E : Value → Shared → Prop),
    Below A₀ base outer h₀ → Fr h₀ L s.heap m → (hd.heap_39 w.params).In h₀ → News h₀ L s.heap news → Top hd.view_39 (looseW hd.view_39 []) mean mg mb h₀ → cs.kind = .function → pre → dp + n < recursionLimit → un + 8 * n < cLine → CbRet h₀ L m news s Q R →
      wpAny (model PySem.Challenge.rw_bb0027_01.row.prog w) (ktrTop dp un gd cn cs L a ccd cl outer) (call (.ref f) vs) Q E s

theorem HC.use {n : Nat} {f : Addr} {vs : List Value} {pre fact : Prop} {R : Tok → Value} {w : World} {mean : ExcName → Option Value} {mg mb : Str → Option Value} {dp un : Nat} {gd : Option (List Code)} {cn : Str} {cs : Scope} {a : Addr} {ccd : Value} {cl : List (Str × Addr)} {outer : List Env} {A₀ : Around} {base h₀ : Heap} {L : Addr} {m : Str → Option Value} {news : List (Addr × Obj)} {s : Shared} {Q E : Value → Shared → Prop}
    (C : HC n f vs pre R ∧ fact) (k1 : Below A₀ base outer h₀) (k2 : Fr h₀ L s.heap m) (k3 : (hd.heap_39 w.params).In h₀) (k4 : News h₀ L s.heap news) (k5 : Top hd.view_39 (looseW hd.view_39 []) mean mg mb h₀) (kK : cs.kind = .function) (kp : pre) (kd : dp + n < recursionLimit) (ku : un + 8 * n < cLine) (kR : fact → CbRet h₀ L m news s Q R) :
      wpAny (model PySem.Challenge.rw_bb0027_01.row.prog w) (ktrTop dp un gd cn cs L a ccd cl outer) (call (.ref f) vs) Q E s :=
  C.1 w mean mg mb dp un gd cn cs a ccd cl outer A₀ base h₀ L m news s Q E k1 k2 k3 k4 k5 kK kp kd ku (kR C.2)

local macro_rules | `(tactic| walk_at "HC OPEN") => `(tactic| (unfold HC; k_fill; dsimp only [CbRet]; intros; rename_i hret; refine wpAny_call ?_; k_dflt cell_enter; k_steps; all_goals cb_end hret))
local macro_rules | `(tactic| walk_at "HC SIDE") => `(tactic| (
        (case k1 => first | k_asm | ktn_no "HC: the frames below")
        (case k2 => first | k_asm | ktn_no "HC: the frame")
        (case k3 => first | k_asm | ktn_no "HC: the written part")
        (case k4 => first | k_asm | ktn_no "HC: the ledger")
        (case k5 => first | k_asm | ktn_no "HC: the top's facts")
        (case kK => first | exact rfl | assumption | ktn_no "HC: the caller is no def")
        (case kp => first | trivial | ((try dsimp only); first | assumption | omega | l_fact) | ktn_no "HC: what the claim asks")
        (case kd => first | ktr_room | ktn_no "HC: the frames' room")
        (case ku => first | ktr_units | ktn_no "HC: the C units")
        intro hFact9 t9 h9 tk9 F9 N9
        (try dsimp only)
        (try k_fold)))
local macro_rules | `(tactic| walk_at "eval Call") => `(tactic| (k_here; (fail_if_success (with_reducible show wpAny _ _ _ (fun y s => SeqLeaf _) _ _)); k_dflt (refine Call_ ?_)))
local macro_rules | `(tactic| walk_at "execs cons") => `(tactic| (k_here; (try dsimp only); (try k_gentoks); (with_reducible refine wpAny_execs_cons ?_); try dsimp only))

set_option maxRecDepth 100000
set_option maxHeartbeats 4000000
theorem C_leap (y : Int) (t : Tok) : HC 1 40 [.int y t] True (fun _ => .bool (leapF y)) ∧ True := by
  refine ⟨?_, trivial⟩
  k_with "tree" => (unfold leapF; rfl)
  walk_at "HC OPEN"
local macro_rules | `(tactic| walk_at "call ref") => `(tactic| (k_here; refine' HC.use (C_leap _ _) ?k1 ?k2 ?k3 ?k4 ?k5 ?kK ?kp ?kd ?ku ?_; walk_at "HC SIDE"))
theorem C_year_months (y : Int) (t : Tok) : HC 2 47 [.int y t] True (fun t => .int (ymF y) t) ∧ (12 ≤ ymF y ∧ ymF y ≤ 13) := by
  refine ⟨?_, ymF_bounds y⟩
  k_with "tree" => (unfold ymF; first | (rw [if_pos (by assumption)]; done) | (rw [if_neg (by intro h9; exact absurd ((Eq.symm ‹leapF _ = false›).trans h9) Bool.false_ne_true)]; done))
  walk_at "HC OPEN"
local macro_rules | `(tactic| walk_at "call ref") => `(tactic| (k_here; refine' HC.use (C_year_months _ _) ?k1 ?k2 ?k3 ?k4 ?k5 ?kK ?kp ?kd ?ku ?_; walk_at "HC SIDE"))
theorem C_delay_1 (y : Int) (t : Tok) : HC 1 54 [.int y t] True (fun t => .int (d1F y) t) ∧ True := by
  refine ⟨?_, trivial⟩
  k_with "tree" => (unfold d1F d0F; first | (rw [if_pos (by assumption)]; done) | (rw [if_neg (by assumption)]; done))
  walk_at "HC OPEN"
local macro_rules | `(tactic| walk_at "call ref") => `(tactic| (k_here; refine' HC.use (C_delay_1 _ _) ?k1 ?k2 ?k3 ?k4 ?k5 ?kK ?kp ?kd ?ku ?_; walk_at "HC SIDE"))
theorem C_delay_2 (y : Int) (t : Tok) : HC 2 61 [.int y t] True (fun t => .int (d2F y) t) ∧ True := by
  refine ⟨?_, trivial⟩
  k_with "tree" => (unfold d2F; first | (rw [if_pos (by assumption)]; done) | (rw [if_neg (by assumption), if_pos (by assumption)]; done) | (rw [if_neg (by assumption), if_neg (by assumption)]; done))
  walk_at "HC OPEN"
local macro_rules | `(tactic| walk_at "call ref") => `(tactic| (k_here; refine' HC.use (C_delay_2 _ _) ?k1 ?k2 ?k3 ?k4 ?k5 ?kK ?kp ?kd ?ku ?_; walk_at "HC SIDE"))
theorem C_midnight (y : Int) (t : Tok) : HC 1 21 [.int y t] True (fun t => .int (midF y) t) ∧ True := by
  refine ⟨?_, trivial⟩
  k_with "tree" => (unfold midF; first | (rw [if_pos (by omega)]; done) | (rw [if_neg (by omega)]; done))
  walk_at "HC OPEN"
local macro_rules | `(tactic| walk_at "call ref") => `(tactic| (k_here; refine' HC.use (C_midnight _ _) ?k1 ?k2 ?k3 ?k4 ?k5 ?kK ?kp ?kd ?ku ?_; walk_at "HC SIDE"))
theorem C_tojd7 (y d : Int) (t u v : Tok) : HC 3 89 [.int y t, .int 7 u, .int d v] True (fun t => .int (tjF y 7 d) t) ∧ True := by
  refine ⟨?_, trivial⟩
  k_with "tree" => (rw [tjF_7])
  walk_at "HC OPEN"
local macro_rules | `(tactic| walk_at "call ref") => `(tactic| (k_here; refine' HC.use (C_tojd7 _ _ _ _ _) ?k1 ?k2 ?k3 ?k4 ?k5 ?kK ?kp ?kd ?ku ?_; walk_at "HC SIDE"))
theorem C_year_days (y : Int) (t : Tok) : HC 4 68 [.int y t] True (fun t => .int (ydF y) t) ∧ True := by
  refine ⟨?_, trivial⟩
  k_with "tree" => (rw [tjF_71, tjF_71]; unfold ydF; rfl)
  walk_at "HC OPEN"
local macro_rules | `(tactic| walk_at "call ref") => `(tactic| (k_here; refine' HC.use (C_year_days _ _) ?k1 ?k2 ?k3 ?k4 ?k5 ?kK ?kp ?kd ?ku ?_; walk_at "HC SIDE"))
theorem C_month_length (y m : Int) (t u : Tok) : HC 5 75 [.int y t, .int m u] (m ≤ 13) (fun t => .int (mlF y m) t) ∧ (29 ≤ mlF y m ∧ mlF y m ≤ 30) := by
  refine ⟨?_, mlF_bounds y m⟩
  k_with "tree" => (unfold mlF; first | (rw [if_pos (any_in (by assumption))]; done) | ((exfalso; omega); done) | ((rw [if_neg (any_out (by assumption))]); (repeat (first
    | (rfl; done)
    | (rw [if_pos (by first | omega | exact ⟨by assumption, by assumption⟩)]; done)
    | (rw [if_neg (by rintro ⟨h1, h2⟩; first | omega | exact absurd ((Eq.symm h2).trans ‹leapF _ = true›) Bool.false_ne_true)]))); done))
  walk_at "HC OPEN"
local macro_rules | `(tactic| walk_at "call ref") => `(tactic| (k_here; refine' HC.use (C_month_length _ _ _ _) ?k1 ?k2 ?k3 ?k4 ?k5 ?kK ?kp ?kd ?ku ?_; walk_at "HC SIDE"))
theorem C_month_days (y m : Int) (t u : Tok) : HC 6 82 [.int y t, .int m u] (m ≤ 13) (fun t => .int (mlF y m) t) ∧ (29 ≤ mlF y m ∧ mlF y m ≤ 30) := by
  refine ⟨?_, mlF_bounds y m⟩
  walk_at "HC OPEN"
local macro_rules | `(tactic| walk_at "call ref") => `(tactic| (k_here; refine' HC.use (C_month_days _ _ _ _) ?k1 ?k2 ?k3 ?k4 ?k5 ?kK ?kp ?kd ?ku ?_; walk_at "HC SIDE"))

theorem C_to_jd (y m d : Int) (t u v : Tok) : HC 7 89 [.int y t, .int m u, .int d v] (1 ≤ m ∧ m ≤ 13) (fun t => .int (tjF y m d) t) ∧ True := by
  refine ⟨?_, trivial⟩
  k_with "tree" => first | exact tj_lt (by omega) (by assumption) (by assumption) | exact tj_ge (by omega) (by assumption)
  k_with "pyIter ref" => k_state_given ["year", "jd!"] (fun y jd0 pre jd => jd = jd0 + mlSum y pre) "jd"
  k_with "state" => first | (rw [mlSum_nil, Int.add_zero]; done) | (rw [mlSum_snoc]; omega)
  walk_at "HC OPEN"
theorem C_jwday (y : Int) (t : Tok) : HC 1 28 [.int y t] True (fun t => .int (Int.fmod y 7) t) ∧ True := by
  refine ⟨?_, trivial⟩
  k_with_none
  walk_at "HC OPEN"

abbrev HCD (n : Nat) (f : Addr) (vs : List Value) (pre : Prop) (d : PyData) : Prop :=
  ∀ (w : World) (mean : ExcName → Option Value) (mg mb : Str → Option Value) (dp un : Nat) (gd : Option (List Code)) (cn : Str) (cs : Scope) (a : Addr) (ccd : Value) (cl : List (Str × Addr)) (outer : List Env) (A₀ : Around) (base h₀ : Heap) (L : Addr) (m : Str → Option Value) (news : List (Addr × Obj)) (s : Shared) (Q E : Value → Shared → Prop),
    Below A₀ base outer h₀ → Fr h₀ L s.heap m → (hd.heap_39 w.params).In h₀ → News h₀ L s.heap news → Top hd.view_39 (looseW hd.view_39 []) mean mg mb h₀ → cs.kind = .function → pre → dp + n < recursionLimit → un + 8 * n < cLine →
    (∀ (r : Addr) (all : List (Addr × Obj)) (h' : Heap) (tk' : Nat), Fr h₀ L h' m → News h₀ L h' all → (∀ p ∈ news, p ∈ all) → (∀ hh : Heap, (∀ p ∈ all, hh.get? p.1 = some p.2) → ∃ as, Reads hh (.ref r) d as) → Q (.ref r) { s with heap := h', toks := tk' }) →
      wpAny (model PySem.Challenge.rw_bb0027_01.row.prog w) (ktrTop dp un gd cn cs L a ccd cl outer) (call (.ref f) vs) Q E s
theorem News.mono {h₀ h : Heap} {L : Addr} {l l' : List (Addr × Obj)} (N : News h₀ L h l) (hs : ∀ p ∈ l', p ∈ l) : News h₀ L h l' := fun p hp => N p (hs p hp)
theorem newsOf {h₀ h hh : Heap} {L : Addr} {all : List (Addr × Obj)} (N : News h₀ L h all) (M : ∀ p ∈ all, hh.get? p.1 = some p.2) : News h₀ L hh all := fun p hp => ⟨M p hp, (N p hp).2⟩
theorem HCD.use {n : Nat} {f : Addr} {vs : List Value} {pre fact : Prop} {d : PyData} {w : World} {mean : ExcName → Option Value} {mg mb : Str → Option Value} {dp un : Nat} {gd : Option (List Code)} {cn : Str} {cs : Scope} {a : Addr} {ccd : Value} {cl : List (Str × Addr)} {outer : List Env} {A₀ : Around} {base h₀ : Heap} {L : Addr} {m : Str → Option Value} {news : List (Addr × Obj)} {s : Shared} {Q E : Value → Shared → Prop}
    (C : HCD n f vs pre d ∧ fact) (k1 : Below A₀ base outer h₀) (k2 : Fr h₀ L s.heap m) (k3 : (hd.heap_39 w.params).In h₀) (k4 : News h₀ L s.heap news) (k5 : Top hd.view_39 (looseW hd.view_39 []) mean mg mb h₀) (kK : cs.kind = .function) (kp : pre) (kd : dp + n < recursionLimit) (ku : un + 8 * n < cLine)
    (kR : fact → ∀ (r : Addr) (all : List (Addr × Obj)) (h' : Heap) (tk' : Nat), Fr h₀ L h' m → News h₀ L h' all → (∀ p ∈ news, p ∈ all) → (∀ hh : Heap, (∀ p ∈ all, hh.get? p.1 = some p.2) → ∃ as, Reads hh (.ref r) d as) → Q (.ref r) { s with heap := h', toks := tk' }) :
      wpAny (model PySem.Challenge.rw_bb0027_01.row.prog w) (ktrTop dp un gd cn cs L a ccd cl outer) (call (.ref f) vs) Q E s :=
  C.1 w mean mg mb dp un gd cn cs a ccd cl outer A₀ base h₀ L m news s Q E k1 k2 k3 k4 k5 kK kp kd ku (kR C.2)
/-- the answer alone is wanted: its ledger is dropped -/
theorem HCD.use0 {n : Nat} {f : Addr} {vs : List Value} {pre fact : Prop} {d : PyData} {w : World} {mean : ExcName → Option Value} {mg mb : Str → Option Value} {dp un : Nat} {gd : Option (List Code)} {cn : Str} {cs : Scope} {a : Addr} {ccd : Value} {cl : List (Str × Addr)} {outer : List Env} {A₀ : Around} {base h₀ : Heap} {L : Addr} {m : Str → Option Value} {news : List (Addr × Obj)} {s : Shared} {Q E : Value → Shared → Prop}
    (C : HCD n f vs pre d ∧ fact) (k1 : Below A₀ base outer h₀) (k2 : Fr h₀ L s.heap m) (k3 : (hd.heap_39 w.params).In h₀) (k4 : News h₀ L s.heap news) (k5 : Top hd.view_39 (looseW hd.view_39 []) mean mg mb h₀) (kK : cs.kind = .function) (kp : pre) (kd : dp + n < recursionLimit) (ku : un + 8 * n < cLine)
    (kR : fact → ∀ (r : Addr) (as : List Addr) (h' : Heap) (tk' : Nat), Fr h₀ L h' m → News h₀ L h' news → Reads h' (.ref r) d as → Q (.ref r) { s with heap := h', toks := tk' }) :
      wpAny (model PySem.Challenge.rw_bb0027_01.row.prog w) (ktrTop dp un gd cn cs L a ccd cl outer) (call (.ref f) vs) Q E s :=
  HCD.use C k1 k2 k3 k4 k5 kK kp kd ku fun hf r all h' tk' F N hs R => by
    obtain ⟨as, hR⟩ := R h' fun p hp => (N p hp).1
    exact kR hf r as h' tk' F (News.mono N hs) hR
def kindsD : List PyData := [(0, 353), (5, 353), (0, 355), (3, 355), (5, 355), (1, 354), (3, 354), (0, 383), (3, 383), (5, 383), (0, 385), (3, 385), (5, 385), (1, 384)].map fun (p : Int × Int) => PyData.tuple [.int p.1, .int p.2]
local macro_rules | `(tactic| walk_at "HCD OPEN") => `(tactic| (unfold HCD; k_fill; intros; rename_i hret; refine wpAny_call ?_; k_dflt cell_enter; k_steps; all_goals (
  (refine hret _ _ _ _ (by k_asm) (by k_asm) ?e1 ?e2)
  (case e1 => (intro p9 hp9; repeat (first | exact hp9 | apply List.mem_cons_of_mem)))
  (case e2 => (rename News _ _ _ _ => kN9; intro hh9 M9; have N9 := newsOf kN9 M9; exact ⟨_, by ked_read⟩)))))
theorem C_kinds : HCD 1 110 [] True (.list kindsD) ∧ True := by
  refine ⟨?_, trivial⟩
  k_with_none
  walk_at "HCD OPEN"
end Heb
end

/- part HMath -/
section
namespace Heb
/-- months before the year, and the parts of its new moon -/
def Mo (y : Int) : Int := (235 * y - 234) / 19
def Tt (y : Int) : Int := 765433 * Mo y + 12084
theorem leap_iff (y : Int) : leapF y = true ↔ (y * 7 + 1) % 19 < 7 := by
  unfold leapF
  rw [Int.fmod_eq_emod_of_nonneg _ (by decide), decide_eq_true_eq]
theorem Mo_succ (y : Int) : Mo (y + 1) = Mo y + if leapF y = true then 13 else 12 := by
  have h := leap_iff y
  have e1 : (235 * y - 234) / 19 = 12 * y - 12 + (7 * y - 6) / 19 := by omega
  have e2 : (235 * (y + 1) - 234) / 19 = 12 * y + (7 * y + 1) / 19 := by omega
  unfold Mo
  rw [e1, e2]
  have e3 : y * 7 + 1 = 7 * y + 1 := by omega
  rw [e3] at h
  by_cases hl : leapF y = true
  · rw [if_pos hl]; have := h.mp hl; omega
  · rw [if_neg hl]; have := mt h.mpr hl; omega
theorem Tt_succ (y : Int) : Tt (y + 1) = Tt y + if leapF y = true then 9950629 else 9185196 := by
  unfold Tt; rw [Mo_succ]; split <;> omega
theorem not_two (y : Int) (h : leapF y = true) : leapF (y + 1) = false := by
  have h1 := (leap_iff y).mp h
  cases h2 : leapF (y + 1) with
  | false => rfl
  | true =>
    have h3 := (leap_iff (y + 1)).mp h2
    rw [show (y + 1) * 7 + 1 = y * 7 + 1 + 7 by omega, Int.add_emod] at h3
    have h0 : 0 ≤ (y * 7 + 1) % 19 := by omega
    generalize (y * 7 + 1) % 19 = s at *
    omega
theorem d0F_eq (y : Int) : d0F y = Tt y / 25920 := by
  unfold d0F Tt Mo
  rw [Int.fdiv_eq_ediv_of_nonneg _ (by decide), Int.fdiv_eq_ediv_of_nonneg _ (by decide)]
  omega
theorem three_iff (d : Int) : 3 * (d + 1) % 7 < 3 ↔ d % 7 = 2 ∨ d % 7 = 4 ∨ d % 7 = 6 := by
  have hw : d % 7 = 0 ∨ d % 7 = 1 ∨ d % 7 = 2 ∨ d % 7 = 3 ∨ d % 7 = 4 ∨ d % 7 = 5 ∨ d % 7 = 6 := by omega
  have hd : d = 7 * (d / 7) + d % 7 := by omega
  generalize d / 7 = k at hd
  rcases hw with h | h | h | h | h | h | h <;> (rw [h] at hd; subst hd; omega)
theorem d1F_eq (y : Int) : d1F y = if Tt y / 25920 % 7 = 2 ∨ Tt y / 25920 % 7 = 4 ∨ Tt y / 25920 % 7 = 6 then Tt y / 25920 + 1 else Tt y / 25920 := by
  unfold d1F
  rw [d0F_eq, Int.fmod_eq_emod_of_nonneg _ (by decide)]
  simp only [three_iff]
/-- the new year's day in the week of its new moon -/
def gF (a b : Bool) (x : Int) : Int :=
  if x < (if a = true then 23269 else 25920) then 0 else if x < (if b = true then 51840 else 42324) then 1 else if x < 103680 then 3 else if x < 155520 then 5 else 7
theorem core_cc (T0 T1 T2 d0 d1 d2 : Int) (h1 : T1 = T0 + 9185196) (h2 : T2 = T1 + 9185196)
    (e0 : d0 = if T0 / 25920 % 7 = 2 ∨ T0 / 25920 % 7 = 4 ∨ T0 / 25920 % 7 = 6 then T0 / 25920 + 1 else T0 / 25920)
    (e1 : d1 = if T1 / 25920 % 7 = 2 ∨ T1 / 25920 % 7 = 4 ∨ T1 / 25920 % 7 = 6 then T1 / 25920 + 1 else T1 / 25920)
    (e2 : d2 = if T2 / 25920 % 7 = 2 ∨ T2 / 25920 % 7 = 4 ∨ T2 / 25920 % 7 = 6 then T2 / 25920 + 1 else T2 / 25920) :
    d1 + (if d2 - d1 = 356 then 2 else if d1 - d0 = 382 then 1 else 0) = 7 * (T1 / 181440) + gF false false (T1 % 181440) := by
  have hw : T1 / 25920 % 7 = 0 ∨ T1 / 25920 % 7 = 1 ∨ T1 / 25920 % 7 = 2 ∨ T1 / 25920 % 7 = 3 ∨ T1 / 25920 % 7 = 4 ∨ T1 / 25920 % 7 = 5 ∨ T1 / 25920 % 7 = 6 := by omega
  have hd : T1 / 25920 = 7 * (T1 / 181440) + T1 / 25920 % 7 := by omega
  have hx : T1 % 181440 = 25920 * (T1 / 25920 % 7) + T1 % 25920 := by omega
  have hp : 0 ≤ T1 % 25920 ∧ T1 % 25920 < 25920 := by omega
  have hT1 : T1 = 25920 * (T1 / 25920) + T1 % 25920 := by omega
  have c2 : (T2 / 25920 = T1 / 25920 + 354 ∧ T1 % 25920 < 16404) ∨ (T2 / 25920 = T1 / 25920 + 355 ∧ 16404 ≤ T1 % 25920) := by omega
  have c0 : (T0 / 25920 = T1 / 25920 - 354 ∧ 9516 ≤ T1 % 25920) ∨ (T0 / 25920 = T1 / 25920 - 355 ∧ T1 % 25920 < 9516) := by omega
  clear h1 h2 hT1
  generalize T1 / 181440 = q at *
  generalize T1 % 25920 = p1 at *
  rw [hx]
  clear hx
  generalize T1 / 25920 = D1 at *
  generalize T0 / 25920 = D0 at *
  generalize T2 / 25920 = D2 at *
  unfold gF
  rcases hw with hw | hw | hw | hw | hw | hw | hw <;> rcases c2 with ⟨c2, k2⟩ | ⟨c2, k2⟩ <;> rcases c0 with ⟨c0, k0⟩ | ⟨c0, k0⟩ <;>
    (rw [hw] at hd ⊢; clear hw; subst c0; subst c2; subst hd
     (first | rw [if_pos (by omega)] at e0 | rw [if_neg (by omega)] at e0)
     (first | rw [if_pos (by omega)] at e1 | rw [if_neg (by omega)] at e1)
     (first | rw [if_pos (by omega)] at e2 | rw [if_neg (by omega)] at e2)
     subst e0; subst e1; subst e2
     simp only [Bool.false_eq_true, if_true, if_false]
     (repeat (first | rw [if_pos (by omega)] | rw [if_neg (by omega)]))
     omega)
theorem core_lc (T0 T1 T2 d0 d1 d2 : Int) (h1 : T1 = T0 + 9950629) (h2 : T2 = T1 + 9185196)
    (e0 : d0 = if T0 / 25920 % 7 = 2 ∨ T0 / 25920 % 7 = 4 ∨ T0 / 25920 % 7 = 6 then T0 / 25920 + 1 else T0 / 25920)
    (e1 : d1 = if T1 / 25920 % 7 = 2 ∨ T1 / 25920 % 7 = 4 ∨ T1 / 25920 % 7 = 6 then T1 / 25920 + 1 else T1 / 25920)
    (e2 : d2 = if T2 / 25920 % 7 = 2 ∨ T2 / 25920 % 7 = 4 ∨ T2 / 25920 % 7 = 6 then T2 / 25920 + 1 else T2 / 25920) :
    d1 + (if d2 - d1 = 356 then 2 else if d1 - d0 = 382 then 1 else 0) = 7 * (T1 / 181440) + gF true false (T1 % 181440) := by
  have hw : T1 / 25920 % 7 = 0 ∨ T1 / 25920 % 7 = 1 ∨ T1 / 25920 % 7 = 2 ∨ T1 / 25920 % 7 = 3 ∨ T1 / 25920 % 7 = 4 ∨ T1 / 25920 % 7 = 5 ∨ T1 / 25920 % 7 = 6 := by omega
  have hd : T1 / 25920 = 7 * (T1 / 181440) + T1 / 25920 % 7 := by omega
  have hx : T1 % 181440 = 25920 * (T1 / 25920 % 7) + T1 % 25920 := by omega
  have hp : 0 ≤ T1 % 25920 ∧ T1 % 25920 < 25920 := by omega
  have hT1 : T1 = 25920 * (T1 / 25920) + T1 % 25920 := by omega
  have c2 : (T2 / 25920 = T1 / 25920 + 354 ∧ T1 % 25920 < 16404) ∨ (T2 / 25920 = T1 / 25920 + 355 ∧ 16404 ≤ T1 % 25920) := by omega
  have c0 : (T0 / 25920 = T1 / 25920 - 383 ∧ 23269 ≤ T1 % 25920) ∨ (T0 / 25920 = T1 / 25920 - 384 ∧ T1 % 25920 < 23269) := by omega
  clear h1 h2 hT1
  generalize T1 / 181440 = q at *
  generalize T1 % 25920 = p1 at *
  rw [hx]
  clear hx
  generalize T1 / 25920 = D1 at *
  generalize T0 / 25920 = D0 at *
  generalize T2 / 25920 = D2 at *
  unfold gF
  rcases hw with hw | hw | hw | hw | hw | hw | hw <;> rcases c2 with ⟨c2, k2⟩ | ⟨c2, k2⟩ <;> rcases c0 with ⟨c0, k0⟩ | ⟨c0, k0⟩ <;>
    (rw [hw] at hd ⊢; clear hw; subst c0; subst c2; subst hd
     (first | rw [if_pos (by omega)] at e0 | rw [if_neg (by omega)] at e0)
     (first | rw [if_pos (by omega)] at e1 | rw [if_neg (by omega)] at e1)
     (first | rw [if_pos (by omega)] at e2 | rw [if_neg (by omega)] at e2)
     subst e0; subst e1; subst e2
     simp only [Bool.false_eq_true, if_true, if_false]
     (repeat (first | rw [if_pos (by omega)] | rw [if_neg (by omega)]))
     omega)
theorem core_cl (T0 T1 T2 d0 d1 d2 : Int) (h1 : T1 = T0 + 9185196) (h2 : T2 = T1 + 9950629)
    (e0 : d0 = if T0 / 25920 % 7 = 2 ∨ T0 / 25920 % 7 = 4 ∨ T0 / 25920 % 7 = 6 then T0 / 25920 + 1 else T0 / 25920)
    (e1 : d1 = if T1 / 25920 % 7 = 2 ∨ T1 / 25920 % 7 = 4 ∨ T1 / 25920 % 7 = 6 then T1 / 25920 + 1 else T1 / 25920)
    (e2 : d2 = if T2 / 25920 % 7 = 2 ∨ T2 / 25920 % 7 = 4 ∨ T2 / 25920 % 7 = 6 then T2 / 25920 + 1 else T2 / 25920) :
    d1 + (if d2 - d1 = 356 then 2 else if d1 - d0 = 382 then 1 else 0) = 7 * (T1 / 181440) + gF false true (T1 % 181440) := by
  have hw : T1 / 25920 % 7 = 0 ∨ T1 / 25920 % 7 = 1 ∨ T1 / 25920 % 7 = 2 ∨ T1 / 25920 % 7 = 3 ∨ T1 / 25920 % 7 = 4 ∨ T1 / 25920 % 7 = 5 ∨ T1 / 25920 % 7 = 6 := by omega
  have hd : T1 / 25920 = 7 * (T1 / 181440) + T1 / 25920 % 7 := by omega
  have hx : T1 % 181440 = 25920 * (T1 / 25920 % 7) + T1 % 25920 := by omega
  have hp : 0 ≤ T1 % 25920 ∧ T1 % 25920 < 25920 := by omega
  have hT1 : T1 = 25920 * (T1 / 25920) + T1 % 25920 := by omega
  have c2 : (T2 / 25920 = T1 / 25920 + 383 ∧ T1 % 25920 < 2651) ∨ (T2 / 25920 = T1 / 25920 + 384 ∧ 2651 ≤ T1 % 25920) := by omega
  have c0 : (T0 / 25920 = T1 / 25920 - 354 ∧ 9516 ≤ T1 % 25920) ∨ (T0 / 25920 = T1 / 25920 - 355 ∧ T1 % 25920 < 9516) := by omega
  clear h1 h2 hT1
  generalize T1 / 181440 = q at *
  generalize T1 % 25920 = p1 at *
  rw [hx]
  clear hx
  generalize T1 / 25920 = D1 at *
  generalize T0 / 25920 = D0 at *
  generalize T2 / 25920 = D2 at *
  unfold gF
  rcases hw with hw | hw | hw | hw | hw | hw | hw <;> rcases c2 with ⟨c2, k2⟩ | ⟨c2, k2⟩ <;> rcases c0 with ⟨c0, k0⟩ | ⟨c0, k0⟩ <;>
    (rw [hw] at hd ⊢; clear hw; subst c0; subst c2; subst hd
     (first | rw [if_pos (by omega)] at e0 | rw [if_neg (by omega)] at e0)
     (first | rw [if_pos (by omega)] at e1 | rw [if_neg (by omega)] at e1)
     (first | rw [if_pos (by omega)] at e2 | rw [if_neg (by omega)] at e2)
     subst e0; subst e1; subst e2
     simp only [Bool.false_eq_true, if_true, if_false]
     (repeat (first | rw [if_pos (by omega)] | rw [if_neg (by omega)]))
     omega)
theorem core (y : Int) : d1F y + d2F y = 7 * (Tt y / 181440) + gF (leapF (y - 1)) (leapF y) (Tt y % 181440) := by
  have e0 := d1F_eq (y - 1)
  have e1 := d1F_eq y
  have e2 := d1F_eq (y + 1)
  have h1 := Tt_succ (y - 1)
  have h2 := Tt_succ y
  have hn := not_two (y - 1)
  rw [show y - 1 + 1 = y by omega] at h1 hn
  unfold d2F
  cases ha : leapF (y - 1) <;> cases hb : leapF y <;> rw [ha] at h1 hn <;> rw [hb] at h2 hn
  · exact core_cc _ _ _ _ _ _ (by simpa using h1) (by simpa using h2) e0 e1 e2
  · exact core_cl _ _ _ _ _ _ (by simpa using h1) (by simpa using h2) e0 e1 e2
  · exact core_lc _ _ _ _ _ _ (by simpa using h1) (by simpa using h2) e0 e1 e2
  · exact absurd (hn rfl) (by decide)
end Heb
end

/- part HM2 -/
section
namespace Heb
def NN (y : Int) : Int := 7 * (Tt y / 181440) + gF (leapF (y - 1)) (leapF y) (Tt y % 181440)
theorem gF_rng (a b : Bool) (x : Int) : 0 ≤ gF a b x ∧ gF a b x ≤ 7 := by
  unfold gF; repeat' split
  all_goals omega
theorem Mo_ge {y : Int} (h : 0 ≤ y) : -13 ≤ Mo y := by unfold Mo; omega
theorem NN_ge {y : Int} (h : 0 ≤ y) : -385 ≤ NN y := by
  have h1 := Mo_ge h
  have h2 := gF_rng (leapF (y - 1)) (leapF y) (Tt y % 181440)
  unfold NN Tt at *
  omega
theorem tj_eq {y m d : Int} (h : 0 ≤ y) (hb : 0 ≤ befF y m) (hd : 1 ≤ d) : tjF y m d = 347997 + NN y + d + befF y m := by
  have h1 := core y
  have h2 := NN_ge h
  have h3 : d1F y + d2F y = NN y := h1
  unfold tjF midF
  rw [if_pos (by omega)]
  omega
theorem nj_eq {y : Int} (h : 0 ≤ y) : tjF y 7 1 = 347998 + NN y := by
  rw [tj_eq h (by rw [befF_7]; decide) (by decide), befF_7]; omega
theorem njF_eq {y : Int} (h : 0 ≤ y) : njF y = 347998 + NN y := by
  rw [← tjF_71]; exact nj_eq h
theorem yd_eq {y : Int} (h : 0 ≤ y) : ydF y = NN (y + 1) - NN y := by
  unfold ydF; rw [njF_eq h, njF_eq (by omega)]; omega
-- a year's length and its first day
def KindOK (b : Bool) (w l : Int) : Prop :=
  if b = true then (w = 0 ∧ (l = 383 ∨ l = 385)) ∨ (w = 3 ∧ (l = 383 ∨ l = 385)) ∨ (w = 5 ∧ (l = 383 ∨ l = 385)) ∨ (w = 1 ∧ l = 384)
  else (w = 0 ∧ (l = 353 ∨ l = 355)) ∨ (w = 5 ∧ (l = 353 ∨ l = 355)) ∨ (w = 3 ∧ (l = 355 ∨ l = 354)) ∨ (w = 1 ∧ l = 354)
theorem len_com (a c : Bool) (T : Int) : KindOK false (gF a false (T % 181440) % 7) (7 * ((T + 9185196) / 181440) + gF false c ((T + 9185196) % 181440) - (7 * (T / 181440) + gF a false (T % 181440))) := by
  have hx : 0 ≤ T % 181440 ∧ T % 181440 < 181440 := by omega
  have hc : (T % 181440 < 68244 ∧ (T + 9185196) / 181440 = T / 181440 + 50 ∧ (T + 9185196) % 181440 = T % 181440 + 113196) ∨ (68244 ≤ T % 181440 ∧ (T + 9185196) / 181440 = T / 181440 + 51 ∧ (T + 9185196) % 181440 = T % 181440 - 68244) := by omega
  generalize T % 181440 = x at *
  generalize T / 181440 = q at *
  unfold KindOK gF
  rcases hc with ⟨h1, h2, h3⟩ | ⟨h1, h2, h3⟩ <;> rw [h2, h3] <;> clear h2 h3 <;> cases a <;> cases c <;> simp only [Bool.false_eq_true, if_false, if_true] <;> (repeat' split) <;> first | (exfalso; omega) | omega
theorem len_leap (T : Int) : KindOK true (gF false true (T % 181440) % 7) (7 * ((T + 9950629) / 181440) + gF true false ((T + 9950629) % 181440) - (7 * (T / 181440) + gF false true (T % 181440))) := by
  have hx : 0 ≤ T % 181440 ∧ T % 181440 < 181440 := by omega
  have hc : (T % 181440 < 28571 ∧ (T + 9950629) / 181440 = T / 181440 + 54 ∧ (T + 9950629) % 181440 = T % 181440 + 152869) ∨ (28571 ≤ T % 181440 ∧ (T + 9950629) / 181440 = T / 181440 + 55 ∧ (T + 9950629) % 181440 = T % 181440 - 28571) := by omega
  generalize T % 181440 = x at *
  generalize T / 181440 = q at *
  unfold KindOK gF
  rcases hc with ⟨h1, h2, h3⟩ | ⟨h1, h2, h3⟩ <;> rw [h2, h3] <;> clear h2 h3 <;> simp only [Bool.false_eq_true, if_false, if_true] <;> (repeat' split) <;> first | (exfalso; omega) | omega
theorem kind_ok (y : Int) : KindOK (leapF y) (NN y % 7) (NN (y + 1) - NN y) := by
  have h2 := Tt_succ y
  have hn := not_two y
  have hm := not_two (y - 1)
  rw [show y - 1 + 1 = y by omega] at hm
  unfold NN
  rw [show y + 1 - 1 = y by omega, show ∀ a b : Int, (7 * a + b) % 7 = b % 7 from fun a b => by omega]
  cases hb : leapF y <;> rw [hb] at h2 hn hm
  · rw [show Tt (y + 1) = Tt y + 9185196 by simpa using h2]
    exact len_com _ _ _
  · rw [show Tt (y + 1) = Tt y + 9950629 by simpa using h2, hn rfl]
    cases ha : leapF (y - 1)
    · exact len_leap _
    · exact absurd (hm ha) (by decide)
end Heb
end

/- part HM3 -/
section
open PySem PySem.W PyProof.Rows
namespace Heb
theorem len_cases (y : Int) : (leapF y = false ∧ (NN (y + 1) - NN y = 353 ∨ NN (y + 1) - NN y = 354 ∨ NN (y + 1) - NN y = 355)) ∨ (leapF y = true ∧ (NN (y + 1) - NN y = 383 ∨ NN (y + 1) - NN y = 384 ∨ NN (y + 1) - NN y = 385)) := by
  have h := kind_ok y
  unfold KindOK at h
  cases hb : leapF y <;> rw [hb] at h <;> simp only [Bool.false_eq_true, if_false, if_true] at h
  · exact .inl ⟨rfl, by omega⟩
  · exact .inr ⟨rfl, by omega⟩
theorem ym_t {y : Int} (h : leapF y = true) : ymF y = 13 := by unfold ymF; rw [if_pos h]
theorem ym_f {y : Int} (h : leapF y = false) : ymF y = 12 := by unfold ymF; rw [if_neg (by rw [h]; decide)]
theorem ym_if (y : Int) (h : 1 ≤ y) : (if decide (370 < ydF y) = true then (13 : Int) else 12) = ymF y := by
  rw [yd_eq (by omega)]
  rcases len_cases y with ⟨hl, hk⟩ | ⟨hl, hk⟩
  · rw [ym_f hl, if_neg (by rw [decide_eq_true_eq]; omega)]
  · rw [ym_t hl, if_pos (by rw [decide_eq_true_eq]; omega)]
theorem kinds_any (y : Int) (h : 1 ≤ y) : (kindsD.any fun k => PyData.eqv k (.tuple [.int ((tjF y 7 1).fmod 7), .int (ydF y)])) = true := by
  have hk := kind_ok y
  have hw : (tjF y 7 1).fmod 7 = NN y % 7 := by
    rw [nj_eq (by omega), Int.fmod_eq_emod_of_nonneg _ (by decide)]; omega
  rw [hw, yd_eq (by omega)]
  generalize NN y % 7 = w at *
  generalize NN (y + 1) - NN y = l at *
  unfold KindOK at hk
  have hs : ∀ w l : Int, ((w = 0 ∧ l = 353) ∨ (w = 5 ∧ l = 353) ∨ (w = 0 ∧ l = 355) ∨ (w = 3 ∧ l = 355) ∨ (w = 5 ∧ l = 355) ∨ (w = 1 ∧ l = 354) ∨ (w = 3 ∧ l = 354) ∨ (w = 0 ∧ l = 383) ∨ (w = 3 ∧ l = 383) ∨ (w = 5 ∧ l = 383) ∨ (w = 0 ∧ l = 385) ∨ (w = 3 ∧ l = 385) ∨ (w = 5 ∧ l = 385) ∨ (w = 1 ∧ l = 384)) →
      (kindsD.any fun k => PyData.eqv k (.tuple [.int w, .int l])) = true := by
    intro w l h
    rcases h with ⟨rfl, rfl⟩ | ⟨rfl, rfl⟩ | ⟨rfl, rfl⟩ | ⟨rfl, rfl⟩ | ⟨rfl, rfl⟩ | ⟨rfl, rfl⟩ | ⟨rfl, rfl⟩ | ⟨rfl, rfl⟩ | ⟨rfl, rfl⟩ | ⟨rfl, rfl⟩ | ⟨rfl, rfl⟩ | ⟨rfl, rfl⟩ | ⟨rfl, rfl⟩ | ⟨rfl, rfl⟩ <;>
      simp [kindsD, PyData.eqv, PyData.eqvAll]
  apply hs
  split at hk
  · rcases hk with ⟨h1, h2 | h2⟩ | ⟨h1, h2 | h2⟩ | ⟨h1, h2 | h2⟩ | ⟨h1, h2⟩ <;> simp [h1, h2]
  · rcases hk with ⟨h1, h2 | h2⟩ | ⟨h1, h2 | h2⟩ | ⟨h1, h2 | h2⟩ | ⟨h1, h2⟩ <;> simp [h1, h2]
-- the months
theorem ml_b (y m : Int) : 29 ≤ mlF y m ∧ mlF y m ≤ 30 := mlF_bounds y m
theorem rangeKs_succ (a : Int) (n : Nat) : rangeKs a (n + 1) = rangeKs a n ++ [a + (n : Int)] := by
  simp [rangeKs, List.range_succ]
theorem mlSum_succ (y a : Int) (n : Nat) : mlSum y (rangeKs a (n + 1)) = mlSum y (rangeKs a n) + mlF y (a + (n : Int)) := by
  rw [rangeKs_succ, mlSum_snoc]
theorem mlSum_ge (y a : Int) : ∀ n : Nat, 0 ≤ mlSum y (rangeKs a n)
  | 0 => by simp [rangeKs, mlSum]
  | n + 1 => by rw [mlSum_succ]; have := mlSum_ge y a n; have := ml_b y (a + (n : Int)); omega
theorem bef_ge (y m : Int) : 0 ≤ befF y m := by
  unfold befF
  have h1 := mlSum_ge y 7 (ymF y + 1 - 7).toNat
  have h2 := mlSum_ge y 1 (m - 1).toNat
  have h3 := mlSum_ge y 7 (m - 7).toNat
  split <;> omega
theorem bef_s7 {y m : Int} (h : 7 ≤ m) : befF y (m + 1) = befF y m + mlF y m := by
  unfold befF
  rw [if_neg (by omega), if_neg (by omega), show (m + 1 - 7).toNat = (m - 7).toNat + 1 by omega, mlSum_succ, show 7 + ((m - 7).toNat : Int) = m by omega]
theorem bef_s1 {y m : Int} (h : 1 ≤ m) (h6 : m ≤ 5) : befF y (m + 1) = befF y m + mlF y m := by
  unfold befF
  rw [if_pos (by omega), if_pos (by omega), show (m + 1 - 1).toNat = (m - 1).toNat + 1 by omega, mlSum_succ, show 1 + ((m - 1).toNat : Int) = m by omega]
  omega
theorem bef_1 (y : Int) : befF y 1 = befF y (ymF y + 1) := by
  have h := ymF_bounds y
  unfold befF
  rw [if_pos (by omega), if_neg (by omega)]
  simp [rangeKs, mlSum]
theorem bef_mono7 {y i : Int} (h : 7 ≤ i) : ∀ n : Nat, befF y i ≤ befF y (i + n)
  | 0 => by simp
  | n + 1 => by
    have h1 := bef_mono7 (y := y) h n
    have h2 := bef_s7 (y := y) (m := i + n) (by omega)
    have h3 := ml_b y (i + n)
    rw [show i + ((n + 1 : Nat) : Int) = i + n + 1 by omega]
    omega
theorem bef_mono1 {y i : Int} (h : 1 ≤ i) : ∀ n : Nat, i + n ≤ 6 → befF y i ≤ befF y (i + n)
  | 0, _ => by simp
  | n + 1, hn => by
    have h1 := bef_mono1 (y := y) h n (by omega)
    have h2 := bef_s1 (y := y) (m := i + n) (by omega) (by omega)
    have h3 := ml_b y (i + n)
    rw [show i + ((n + 1 : Nat) : Int) = i + n + 1 by omega]
    omega
theorem bef_le7 {y i j : Int} (h : 7 ≤ i) (hj : i ≤ j) : befF y i ≤ befF y j := by
  have := bef_mono7 (y := y) h (j - i).toNat
  rwa [show i + ((j - i).toNat : Int) = j by omega] at this
theorem bef_le1 {y i j : Int} (h : 1 ≤ i) (hj : i ≤ j) (h6 : j ≤ 6) : befF y i ≤ befF y j := by
  have := bef_mono1 (y := y) h (j - i).toNat (by omega)
  rwa [show i + ((j - i).toNat : Int) = j by omega] at this
theorem ml_29 {y m : Int} (h : m = 2 ∨ m = 4 ∨ m = 6 ∨ m = 10 ∨ m = 13) : mlF y m = 29 := by unfold mlF; rw [if_pos h]
theorem ml_30 {y m : Int} (h : m = 1 ∨ m = 3 ∨ m = 5 ∨ m = 7 ∨ m = 11) : mlF y m = 30 := by
  unfold mlF; rw [if_neg (by omega), if_neg (by omega), if_neg (by omega), if_neg (by omega)]
theorem ml_12 (y : Int) : mlF y 12 = if leapF y = false then 29 else 30 := by
  unfold mlF
  rw [if_neg (by omega)]
  cases leapF y <;> simp
theorem ml_8 (y : Int) : mlF y 8 = if (ydF y).fmod 10 ≠ 5 then 29 else 30 := by
  unfold mlF
  rw [if_neg (by omega), if_neg (by omega)]
  by_cases h : (ydF y).fmod 10 = 5 <;> simp [h]
theorem ml_9 (y : Int) : mlF y 9 = if (ydF y).fmod 10 = 3 then 29 else 30 := by
  unfold mlF
  rw [if_neg (by omega), if_neg (by omega), if_neg (by omega)]
  by_cases h : (ydF y).fmod 10 = 3 <;> simp [h]
theorem halves (y : Int) (h : 0 ≤ y) : befF y 1 + 177 = ydF y := by
  have e := bef_1 y
  have s7 := bef_s7 (y := y) (m := 7) (by omega)
  have s8 := bef_s7 (y := y) (m := 8) (by omega)
  have s9 := bef_s7 (y := y) (m := 9) (by omega)
  have s10 := bef_s7 (y := y) (m := 10) (by omega)
  have s11 := bef_s7 (y := y) (m := 11) (by omega)
  have s12 := bef_s7 (y := y) (m := 12) (by omega)
  have s13 := bef_s7 (y := y) (m := 13) (by omega)
  have b7 := befF_7 y
  have m7 := ml_30 (y := y) (m := 7) (by omega)
  have m10 := ml_29 (y := y) (m := 10) (by omega)
  have m11 := ml_30 (y := y) (m := 11) (by omega)
  have m13 := ml_29 (y := y) (m := 13) (by omega)
  have m12 := ml_12 y
  have m8 := ml_8 y
  have m9 := ml_9 y
  rw [Int.fmod_eq_emod_of_nonneg _ (by decide)] at m8 m9
  have hy := yd_eq h
  simp only [show (7 : Int) + 1 = 8 from rfl, show (8 : Int) + 1 = 9 from rfl, show (9 : Int) + 1 = 10 from rfl, show (10 : Int) + 1 = 11 from rfl, show (11 : Int) + 1 = 12 from rfl, show (12 : Int) + 1 = 13 from rfl, show (13 : Int) + 1 = 14 from rfl] at *
  rcases len_cases y with ⟨hl, hk⟩ | ⟨hl, hk⟩
  · rw [ym_f hl] at e
    rw [hl, if_pos rfl] at m12
    rw [← hy] at hk
    have e' : befF y 1 = befF y 13 := e
    rcases hk with hk | hk | hk <;> rw [hk] at m8 m9 <;> simp at m8 m9 <;> omega
  · rw [ym_t hl] at e
    rw [hl, if_neg (by decide)] at m12
    rw [← hy] at hk
    have e' : befF y 1 = befF y 14 := e
    rcases hk with hk | hk | hk <;> rw [hk] at m8 m9 <;> simp at m8 m9 <;> omega
theorem total (y : Int) (h : 0 ≤ y) : befF y 6 + mlF y 6 = ydF y := by
  have h1 := halves y h
  have s1 := bef_s1 (y := y) (m := 1) (by omega) (by omega)
  have s2 := bef_s1 (y := y) (m := 2) (by omega) (by omega)
  have s3 := bef_s1 (y := y) (m := 3) (by omega) (by omega)
  have s4 := bef_s1 (y := y) (m := 4) (by omega) (by omega)
  have s5 := bef_s1 (y := y) (m := 5) (by omega) (by omega)
  have m1 := ml_30 (y := y) (m := 1) (by omega)
  have m2 := ml_29 (y := y) (m := 2) (by omega)
  have m3 := ml_30 (y := y) (m := 3) (by omega)
  have m4 := ml_29 (y := y) (m := 4) (by omega)
  have m5 := ml_30 (y := y) (m := 5) (by omega)
  have m6 := ml_29 (y := y) (m := 6) (by omega)
  simp only [show (1 : Int) + 1 = 2 from rfl, show (2 : Int) + 1 = 3 from rfl, show (3 : Int) + 1 = 4 from rfl, show (4 : Int) + 1 = 5 from rfl, show (5 : Int) + 1 = 6 from rfl] at *
  omega
end Heb
end

/- part HM4 -/
section
open PySem PySem.W PyProof.Rows
namespace Heb
def Valid (Y M D : Int) : Prop := 1 ≤ Y ∧ 1 ≤ M ∧ M ≤ ymF Y ∧ 1 ≤ D ∧ D ≤ mlF Y M
def Reach (M i : Int) : Prop := (7 ≤ i ∧ 7 ≤ M ∧ i ≤ M) ∨ (M < 7 ∧ 1 ≤ i ∧ i ≤ M)
theorem tj_v {Y m d : Int} (h : 0 ≤ Y) (hd : 1 ≤ d) : tjF Y m d = 347997 + NN Y + d + befF Y m := tj_eq h (bef_ge _ _) hd
theorem day_eq {Y M D : Int} (V : Valid Y M D) : tjF Y M D - tjF Y M 1 + 1 = D := by
  obtain ⟨h1, h2, h3, h4, h5⟩ := V
  rw [tj_v (by omega) h4, tj_v (by omega) (by decide)]; omega
theorem month_iff {Y M D i : Int} (V : Valid Y M D) (R : Reach M i) : tjF Y i (mlF Y i) < tjF Y M D ↔ i < M := by
  obtain ⟨h1, h2, h3, h4, h5⟩ := V
  have hb := ml_b Y i
  rw [tj_v (by omega) h4, tj_v (by omega) (by omega)]
  rcases R with ⟨r1, r2, r3⟩ | ⟨r1, r2, r3⟩
  · by_cases hlt : i < M
    · have := bef_le7 (y := Y) (i := i + 1) (j := M) (by omega) (by omega)
      rw [bef_s7 r1] at this
      omega
    · have : i = M := by omega
      subst this; omega
  · by_cases hlt : i < M
    · have := bef_le1 (y := Y) (i := i + 1) (j := M) (by omega) (by omega) (by omega)
      rw [bef_s1 r2 (by omega)] at this
      omega
    · have : i = M := by omega
      subst this; omega
theorem nisan_iff {Y M D : Int} (V : Valid Y M D) : tjF Y M D < tjF Y 1 1 ↔ 7 ≤ M := by
  obtain ⟨h1, h2, h3, h4, h5⟩ := V
  rw [tj_v (by omega) h4, tj_v (by omega) (by decide)]
  by_cases h7 : 7 ≤ M
  · have e1 := bef_le7 (y := Y) (i := M + 1) (j := ymF Y + 1) (by omega) (by omega)
    rw [bef_s7 h7, ← bef_1] at e1
    omega
  · have e1 := bef_le1 (y := Y) (i := 1) (j := M) (by omega) (by omega) (by omega)
    omega
theorem in_year {Y M D : Int} (V : Valid Y M D) : 1 ≤ D + befF Y M ∧ D + befF Y M ≤ ydF Y := by
  obtain ⟨h1, h2, h3, h4, h5⟩ := V
  have h0 := bef_ge Y M
  refine ⟨by omega, ?_⟩
  by_cases h7 : 7 ≤ M
  · have e1 := bef_le7 (y := Y) (i := M + 1) (j := ymF Y + 1) (by omega) (by omega)
    rw [bef_s7 h7, ← bef_1] at e1
    have := halves Y (by omega)
    omega
  · by_cases h6 : M = 6
    · subst h6
      have := total Y (by omega)
      omega
    · have e1 := bef_le1 (y := Y) (i := M + 1) (j := 6) (by omega) (by omega) (by omega)
      rw [bef_s1 (by omega) (by omega)] at e1
      have := total Y (by omega)
      have := ml_b Y 6
      omega
theorem NN_step (y : Int) : NN y + 353 ≤ NN (y + 1) := by
  rcases len_cases y with ⟨_, h⟩ | ⟨_, h⟩ <;> omega
theorem NN_mono (y : Int) : ∀ n : Nat, NN y ≤ NN (y + n)
  | 0 => by simp
  | n + 1 => by
    have h1 := NN_mono y n
    have h2 := NN_step (y + n)
    rw [show y + ((n + 1 : Nat) : Int) = y + n + 1 by omega]
    omega
theorem NN_le {a b : Int} (h : a ≤ b) : NN a ≤ NN b := by
  have := NN_mono a (b - a).toNat
  rwa [show a + ((b - a).toNat : Int) = b by omega] at this
theorem nj_le {Y M D i : Int} (V : Valid Y M D) (hi : 0 ≤ i) : tjF i 7 1 ≤ tjF Y M D ↔ i ≤ Y := by
  have hy := in_year V
  obtain ⟨h1, h2, h3, h4, h5⟩ := V
  rw [nj_eq hi, tj_v (by omega) h4]
  rw [yd_eq (by omega)] at hy
  by_cases h : i ≤ Y
  · have := NN_le h
    omega
  · have := NN_le (a := Y + 1) (b := i) (by omega)
    omega
theorem count_ok {Y M D : Int} (V : Valid Y M D) : 0 ≤ Int.fdiv ((tjF Y M D - 347996) * 98496) 35975351 ∧ Int.fdiv ((tjF Y M D - 347996) * 98496) 35975351 ≤ Y + 1 := by
  have hy := in_year V
  obtain ⟨h1, h2, h3, h4, h5⟩ := V
  rw [tj_v (by omega) h4, Int.fdiv_eq_ediv_of_nonneg _ (by decide)]
  rw [yd_eq (by omega)] at hy
  have ha : 0 ≤ NN Y := by
    have := gF_rng (leapF (Y - 1)) (leapF Y) (Tt Y % 181440)
    unfold NN
    have hm : 0 ≤ Mo Y := by unfold Mo; omega
    unfold Tt at *
    omega
  have hb : NN (Y + 1) * 19 * 25920 ≤ 765433 * (235 * Y + 1) + 19 * (12084 + 7 * 25920) := by
    have := gF_rng (leapF (Y + 1 - 1)) (leapF (Y + 1)) (Tt (Y + 1) % 181440)
    unfold NN
    have hm : Mo (Y + 1) * 19 ≤ 235 * Y + 1 := by unfold Mo; omega
    unfold Tt at *
    generalize gF _ _ _ = g at *
    omega
  constructor
  · omega
  · have : 347997 + NN Y + D + befF Y M - 347996 ≤ NN (Y + 1) + 1 := by omega
    omega
theorem sum_ml' (y : Int) (h : 1 ≤ y) : ¬ (((List.map (fun k' => if 29 ≤ mlF y k' ∧ mlF y k' ≤ 30 then mlF y k' else k') (rangeKs 1 (ymF y + 1 - 1).toNat)).sum != ydF y) = true) := by
  have e : (fun k' => if 29 ≤ mlF y k' ∧ mlF y k' ≤ 30 then mlF y k' else k') = mlF y := by
    funext k; exact if_pos (ml_b y k)
  rw [e]
  show ¬ ((mlSum y (rangeKs 1 (ymF y + 1 - 1).toNat) != ydF y) = true)
  have hs : mlSum y (rangeKs 1 (ymF y + 1 - 1).toNat) = ydF y := by
    have ht := total y (by omega)
    have hh := halves y (by omega)
    have hs : ∀ n : Nat, mlSum y (rangeKs 1 (6 + n)) = 177 + mlSum y (rangeKs 7 n) := by
      intro n
      induction n with
      | zero =>
        have e6 : befF y 6 = mlSum y (rangeKs 7 (ymF y + 1 - 7).toNat) + mlSum y (rangeKs 1 5) := by unfold befF; rw [if_pos (by decide)]; rfl
        have e1 : befF y 1 = mlSum y (rangeKs 7 (ymF y + 1 - 7).toNat) + mlSum y (rangeKs 1 0) := by unfold befF; rw [if_pos (by decide)]; rfl
        have e0 : mlSum y (rangeKs 1 0) = 0 := rfl
        have e7 : mlSum y (rangeKs 7 0) = 0 := rfl
        have s := mlSum_succ y 1 5
        have s' : mlSum y (rangeKs 1 6) = mlSum y (rangeKs 1 5) + mlF y 6 := s
        show mlSum y (rangeKs 1 6) = 177 + mlSum y (rangeKs 7 0)
        omega
      | succ n ih =>
        rw [show 6 + (n + 1) = (6 + n) + 1 by omega, mlSum_succ, mlSum_succ, ih, show (1 : Int) + ((6 + n : Nat) : Int) = 7 + (n : Int) by omega]
        omega
    have hb := ymF_bounds y
    have e1 : befF y 1 = mlSum y (rangeKs 7 (ymF y + 1 - 7).toNat) := by
      rw [bef_1]; unfold befF; rw [if_neg (by omega)]
    rw [show (ymF y + 1 - 1).toNat = 6 + (ymF y + 1 - 7).toNat by omega, hs, ← e1]
    omega
  rw [hs, bne_self_eq_false]; exact Bool.false_ne_true
-- after 247 years
theorem Mo_247 (y : Int) : Mo (y + 247) = Mo y + 3055 := by unfold Mo; omega
theorem leap_247 (y : Int) : leapF (y + 247) = leapF y := by
  have h1 := leap_iff (y + 247)
  have h2 := leap_iff y
  rw [show (y + 247) * 7 + 1 = y * 7 + 1 + 19 * 91 by omega, show (y * 7 + 1 + 19 * 91) % 19 = (y * 7 + 1) % 19 by omega] at h1
  rw [← h2] at h1
  cases ha : leapF y <;> cases hb : leapF (y + 247) <;> simp_all
theorem NN_247 (y : Int) : NN (y + 247) - NN y = 90216 ∨ NN (y + 247) - NN y = 90215 ∨ NN (y + 247) - NN y = 90214 := by
  unfold NN
  rw [show y + 247 - 1 = (y - 1) + 247 by omega, leap_247, leap_247]
  have hT : Tt (y + 247) = Tt y + 2338397815 := by unfold Tt; rw [Mo_247]; omega
  rw [hT]
  have hn := not_two (y - 1)
  rw [show y - 1 + 1 = y by omega] at hn
  generalize Tt y = T
  have hx : 0 ≤ T % 181440 ∧ T % 181440 < 181440 := by omega
  have hc : (905 ≤ T % 181440 ∧ (T + 2338397815) / 181440 = T / 181440 + 12888 ∧ (T + 2338397815) % 181440 = T % 181440 - 905) ∨ (T % 181440 < 905 ∧ (T + 2338397815) / 181440 = T / 181440 + 12887 ∧ (T + 2338397815) % 181440 = T % 181440 + 180535) := by omega
  generalize T % 181440 = x at *
  generalize T / 181440 = q at *
  unfold gF
  rcases hc with ⟨h1, h2, h3⟩ | ⟨h1, h2, h3⟩ <;> rw [h2, h3] <;> clear h2 h3 <;> cases leapF (y - 1) <;> cases leapF y <;> simp only [Bool.false_eq_true, if_false, if_true] <;> (repeat' split) <;> omega
theorem d247' (y : Int) (h : 1 ≤ y) : ¬ ((![90216, 90215, 90214].any fun x => x == tjF (y + 247) 7 1 - tjF y 7 1) = true) := by
  rw [nj_eq (by omega), nj_eq (by omega)]
  have := NN_247 y
  rw [show 347998 + NN (y + 247) - (347998 + NN y) = NN (y + 247) - NN y by omega]
  rcases this with e | e | e <;> rw [e] <;> decide
-- after the great cycle
theorem Mo_cyc (y r : Int) : Mo (y + 689472 * r) = Mo y + 8527680 * r := by unfold Mo; omega
theorem leap_cyc (y r : Int) : leapF (y + 689472 * r) = leapF y := by
  have h1 := leap_iff (y + 689472 * r)
  have h2 := leap_iff y
  rw [show (y + 689472 * r) * 7 + 1 = y * 7 + 1 + 19 * (254016 * r) by omega, show (y * 7 + 1 + 19 * (254016 * r)) % 19 = (y * 7 + 1) % 19 by omega] at h1
  rw [← h2] at h1
  cases ha : leapF y <;> cases hb : leapF (y + 689472 * r) <;> simp_all
theorem NN_cyc (y r : Int) : NN (y + 689472 * r) = NN y + 251827457 * r := by
  unfold NN
  rw [show y + 689472 * r - 1 = (y - 1) + 689472 * r by omega, leap_cyc, leap_cyc]
  have hT : Tt (y + 689472 * r) = Tt y + 181440 * (35975351 * r) := by unfold Tt; rw [Mo_cyc]; omega
  rw [hT, show (Tt y + 181440 * (35975351 * r)) % 181440 = Tt y % 181440 by omega, show (Tt y + 181440 * (35975351 * r)) / 181440 = Tt y / 181440 + 35975351 * r by omega]
  omega
theorem ym_cyc (y r : Int) : ymF (y + 689472 * r) = ymF y := by unfold ymF; rw [leap_cyc]
theorem yd_cyc (y r : Int) (h : 1 ≤ y) (hr : 1 ≤ r) : ydF (y + 689472 * r) = ydF y := by
  rw [yd_eq (by omega), yd_eq (by omega), show y + 689472 * r + 1 = (y + 1) + 689472 * r by omega, NN_cyc, NN_cyc]; omega
theorem ml_cyc (y r m : Int) (h : 1 ≤ y) (hr : 1 ≤ r) : mlF (y + 689472 * r) m = mlF y m := by
  unfold mlF; rw [leap_cyc, yd_cyc y r h hr]
theorem mlSum_cyc (y r : Int) (h : 1 ≤ y) (hr : 1 ≤ r) (l : List Int) : mlSum (y + 689472 * r) l = mlSum y l := by
  unfold mlSum
  congr 1
  exact List.map_congr_left fun m _ => ml_cyc y r m h hr
theorem bef_cyc (y r m : Int) (h : 1 ≤ y) (hr : 1 ≤ r) : befF (y + 689472 * r) m = befF y m := by
  unfold befF; rw [ym_cyc, mlSum_cyc y r h hr, mlSum_cyc y r h hr, mlSum_cyc y r h hr]
theorem tj_cyc (y r m d : Int) (h : 1 ≤ y) (hr : 1 ≤ r) (_hm : 1 ≤ m) (hd : 1 ≤ d) : tjF (y + 689472 * r) m d = tjF y m d + 251827457 * r := by
  rw [tj_v (by omega) hd, tj_v (by omega) hd, NN_cyc, bef_cyc y r m h hr]; omega
end Heb
end

/- part HM -/
section
namespace Heb
open PySem PySem.W PyProof.Rows
theorem leap_ym (y : Int) : decide (ymF y = 13) = leapF y := by
  unfold ymF; cases leapF y <;> rfl
theorem leap_ym' (y : Int) : ¬ ((leapF y != (ymF y == 13)) = true) := by
  unfold ymF; cases leapF y <;> decide
theorem kp_a {k y : Int} (h : k < 1 + ((ymF y + 1 - 1).toNat : Int)) (hb : 12 ≤ ymF y ∧ ymF y ≤ 13) : k ≤ 13 := by omega
theorem Valid.m13 {Y M D : Int} (V : Valid Y M D) : 1 ≤ M ∧ M ≤ 13 := ⟨V.2.1, Int.le_trans V.2.2.1 (ymF_bounds Y).2⟩
theorem Reach.m13 {Y M D i : Int} (R : Reach M i) (V : Valid Y M D) : 1 ≤ i ∧ i ≤ 13 := by
  have := V.m13
  rcases R with ⟨_, _, _⟩ | ⟨_, _, _⟩ <;> omega
-- the first loop's word
theorem w1_start {Y M D : Int} (V : Valid Y M D) : Int.fdiv ((tjF Y M D - 347996) * 98496) 35975351 = Int.fdiv ((tjF Y M D - 347996) * 98496) 35975351 - 1 + 1 ∧ 0 ≤ Int.fdiv ((tjF Y M D - 347996) * 98496) 35975351 ∧ Int.fdiv ((tjF Y M D - 347996) * 98496) 35975351 ≤ Y + 1 :=
  ⟨by omega, count_ok V⟩
theorem w1_turn {Y M D i y : Int} (V : Valid Y M D) (P1 : i = y + 1) (P2 : 0 ≤ i) (P3 : i ≤ Y + 1) (c : tjF i 7 1 ≤ tjF Y M D) : i + 1 = y + 1 + 1 ∧ 0 ≤ i + 1 ∧ i + 1 ≤ Y + 1 := by
  have := (nj_le V P2).mp c
  omega
theorem w1_meas {Y M D i : Int} (V : Valid Y M D) (P2 : 0 ≤ i) (c : tjF i 7 1 ≤ tjF Y M D) : (Y + 1 - (i + 1)).toNat < (Y + 1 - i).toNat := by
  have := (nj_le V P2).mp c
  omega
theorem w1_done {Y M D i y : Int} (V : Valid Y M D) (P1 : i = y + 1) (P2 : 0 ≤ i) (P3 : i ≤ Y + 1) (c : ¬ tjF i 7 1 ≤ tjF Y M D) : Y = y := by
  have := mt (nj_le V P2).mpr c
  omega
theorem w2_start7 {Y M D : Int} (V : Valid Y M D) (c : tjF Y M D < tjF Y 1 1) : (7 : Int) = 7 ∧ Reach M 7 := ⟨rfl, .inl ⟨by omega, (nisan_iff V).mp c, (nisan_iff V).mp c⟩⟩
theorem w2_start1 {Y M D : Int} (V : Valid Y M D) (c : ¬ tjF Y M D < tjF Y 1 1) : (1 : Int) = 1 ∧ Reach M 1 := by
  have := mt (nisan_iff V).mpr c
  exact ⟨rfl, .inr ⟨by omega, by omega, V.2.1⟩⟩
theorem w2_turn {Y M D i m : Int} (V : Valid Y M D) (P1 : m = i) (P2 : Reach M i) (c : tjF Y i (mlF Y i) < tjF Y M D) : m + 1 = i + 1 ∧ Reach M (i + 1) := by
  have := (month_iff V P2).mp c
  refine ⟨by omega, ?_⟩
  rcases P2 with ⟨_, _, _⟩ | ⟨_, _, _⟩
  · exact .inl ⟨by omega, by omega, by omega⟩
  · exact .inr ⟨by omega, by omega, by omega⟩
theorem w2_meas {Y M D i : Int} (V : Valid Y M D) (P2 : Reach M i) (c : tjF Y i (mlF Y i) < tjF Y M D) : (M - (i + 1)).toNat < (M - i).toNat := by
  have := (month_iff V P2).mp c
  omega
theorem w2_done {Y M D i m : Int} (V : Valid Y M D) (P2 : Reach M i) (c : ¬ tjF Y i (mlF Y i) < tjF Y M D) (P1 : m = i) : M = i ∧ M = m := by
  have := mt (month_iff V P2).mpr c
  rcases P2 with ⟨_, _, _⟩ | ⟨_, _, _⟩ <;> omega
end Heb
end

/- part HC2 -/
section
open PySem PySem.W PyProof.Rows PySem.Calls
namespace Heb
local macro_rules | `(tactic| walk_at "HC OPEN") => `(tactic| (unfold HC; k_fill; dsimp only [CbRet]; intros; rename_i hret; refine wpAny_call ?_; k_dflt cell_enter; k_steps; all_goals cb_end hret))
local macro_rules | `(tactic| walk_at "HC SIDE") => `(tactic| (
        (case k1 => first | k_asm | ktn_no "HC: the frames below")
        (case k2 => first | k_asm | ktn_no "HC: the frame")
        (case k3 => first | k_asm | ktn_no "HC: the written part")
        (case k4 => first | k_asm | ktn_no "HC: the ledger")
        (case k5 => first | k_asm | ktn_no "HC: the top's facts")
        (case kK => first | exact rfl | assumption | ktn_no "HC: the caller is no def")
        (case kp => first | trivial | assumption | exact kp_a (by with_reducible assumption) (by with_reducible assumption) | (k_extra "kp"; done) | ((try dsimp only); first | assumption | l_fact) | ktn_no "HC: what the claim asks")
        (case kd => first | exact Nat.le_of_ble_eq_true rfl | ktr_room | ktn_no "HC: the frames' room")
        (case ku => first | exact Nat.le_of_ble_eq_true rfl | ktr_units | ktn_no "HC: the C units")
        intro hFact9 t9 h9 tk9 F9 N9
        (try dsimp only)
        (try k_fold)))
local macro_rules | `(tactic| walk_at "eval Call") => `(tactic| (k_here; (fail_if_success (with_reducible show wpAny _ _ _ (fun y s => SeqLeaf _) _ _)); k_dflt (refine Call_ ?_)))
local macro_rules | `(tactic| walk_at "execs cons") => `(tactic| (k_here; (try dsimp only); (try k_gentoks); (with_reducible refine wpAny_execs_cons ?_); try dsimp only))

local macro_rules | `(tactic| walk_at "call ref") => `(tactic| (k_here; (with_reducible show wpAny _ _ (call (Value.ref 40) _) _ _ _); k_dflt (refine' HC.use (C_leap _ _) ?k1 ?k2 ?k3 ?k4 ?k5 ?kK ?kp ?kd ?ku ?_); walk_at "HC SIDE"))
local macro_rules | `(tactic| walk_at "call ref") => `(tactic| (k_here; (with_reducible show wpAny _ _ (call (Value.ref 47) _) _ _ _); k_dflt (refine' HC.use (C_year_months _ _) ?k1 ?k2 ?k3 ?k4 ?k5 ?kK ?kp ?kd ?ku ?_); walk_at "HC SIDE"))
local macro_rules | `(tactic| walk_at "call ref") => `(tactic| (k_here; (with_reducible show wpAny _ _ (call (Value.ref 54) _) _ _ _); k_dflt (refine' HC.use (C_delay_1 _ _) ?k1 ?k2 ?k3 ?k4 ?k5 ?kK ?kp ?kd ?ku ?_); walk_at "HC SIDE"))
local macro_rules | `(tactic| walk_at "call ref") => `(tactic| (k_here; (with_reducible show wpAny _ _ (call (Value.ref 61) _) _ _ _); k_dflt (refine' HC.use (C_delay_2 _ _) ?k1 ?k2 ?k3 ?k4 ?k5 ?kK ?kp ?kd ?ku ?_); walk_at "HC SIDE"))
local macro_rules | `(tactic| walk_at "call ref") => `(tactic| (k_here; (with_reducible show wpAny _ _ (call (Value.ref 21) _) _ _ _); k_dflt (refine' HC.use (C_midnight _ _) ?k1 ?k2 ?k3 ?k4 ?k5 ?kK ?kp ?kd ?ku ?_); walk_at "HC SIDE"))
local macro_rules | `(tactic| walk_at "call ref") => `(tactic| (k_here; (with_reducible show wpAny _ _ (call (Value.ref 68) _) _ _ _); k_dflt (refine' HC.use (C_year_days _ _) ?k1 ?k2 ?k3 ?k4 ?k5 ?kK ?kp ?kd ?ku ?_); walk_at "HC SIDE"))
local macro_rules | `(tactic| walk_at "call ref") => `(tactic| (k_here; (with_reducible show wpAny _ _ (call (Value.ref 75) _) _ _ _); k_dflt (refine' HC.use (C_month_length _ _ _ _) ?k1 ?k2 ?k3 ?k4 ?k5 ?kK ?kp ?kd ?ku ?_); walk_at "HC SIDE"))
local macro_rules | `(tactic| walk_at "call ref") => `(tactic| (k_here; (with_reducible show wpAny _ _ (call (Value.ref 82) _) _ _ _); k_dflt (refine' HC.use (C_month_days _ _ _ _) ?k1 ?k2 ?k3 ?k4 ?k5 ?kK ?kp ?kd ?ku ?_); walk_at "HC SIDE"))
local macro_rules | `(tactic| walk_at "call ref") => `(tactic| (k_here; (with_reducible show wpAny _ _ (call (Value.ref 89) _) _ _ _); k_dflt (refine' HC.use (C_to_jd _ _ _ _ _ _) ?k1 ?k2 ?k3 ?k4 ?k5 ?kK ?kp ?kd ?ku ?_); walk_at "HC SIDE"))
local macro_rules | `(tactic| walk_at "call ref") => `(tactic| (k_here; (with_reducible show wpAny _ _ (call (Value.ref 28) _) _ _ _); k_dflt (refine' HC.use (C_jwday _ _) ?k1 ?k2 ?k3 ?k4 ?k5 ?kK ?kp ?kd ?ku ?_); walk_at "HC SIDE"))

local macro_rules | `(tactic| walk_at "HCD OPEN") => `(tactic| (unfold HCD; k_fill; intros; rename_i hret; refine wpAny_call ?_; k_dflt cell_enter; k_steps; all_goals (
  (refine hret _ _ _ _ (by k_asm) (by k_asm) ?e1 ?e2)
  (case e1 => (intro p9 hp9; repeat (first | exact hp9 | apply List.mem_cons_of_mem)))
  (case e2 => (rename News _ _ _ _ => kN9; intro hh9 M9; have N9 := newsOf kN9 M9; exact ⟨_, by ked_read⟩)))))
set_option maxRecDepth 100000
set_option maxHeartbeats 4000000
theorem C_from_jd (Y M D : Int) (t : Tok) (V : Valid Y M D) : HCD 8 96 [.int (tjF Y M D) t] True (.tuple [.int Y, .int M, .int D]) ∧ True := by
  refine ⟨?_, trivial⟩
  k_with_none
  k_with "state" => first | exact w1_start V | exact w1_turn V (by assumption) (by assumption) (by assumption) (by assumption) | exact w2_start7 V (by assumption) | exact w2_start1 V (by assumption) | exact w2_turn V (by assumption) (by assumption) (by assumption)
  k_with "measure" => first | exact w1_meas V (by assumption) (by assumption) | exact w2_meas V (by assumption) (by assumption)
  k_with "kp" => first | exact V.m13 | exact Reach.m13 (by assumption) V | exact (Reach.m13 (by assumption) V).2
  k_with "exec While Compare cons nil" => first
    | k_while (fun script i m => m = i ∧ Reach M i) (fun script i m => (M - i).toNat) "i" "month"
    | k_while (fun script i y => i = y + 1 ∧ 0 ≤ i ∧ i ≤ Y + 1) (fun script i y => (Y + 1 - i).toNat) "i" "year"
  k_with "execs cons If cons" => (have hYe := w1_done V (by assumption) (by assumption) (by assumption) (by assumption); subst hYe)
  k_with "execs cons Assign cons" => (obtain ⟨hMe, hMm⟩ := w2_done V (by assumption) (by assumption) (by assumption); subst hMe; subst hMm)
  k_with "newTuple cons int cons" => rw [day_eq V]
  walk_at "HCD OPEN"
end Heb
end

/- part HComp -/
section
open PySem PySem.Spec PySem.Calls PyProof.Rows PyProof.Rows.LCg PySem.W
set_option maxRecDepth 100000
namespace Heb
def SrcS (prog : Program) (w : World) (A : Around) (h₀ : Heap) (L : Addr) (m : Str → Option Value) (env : Env) (elt : Expr) (x : Str) (scope : Scope) (cl : List (Str × Addr)) (Fin : Shared → List Value → List (Addr × Obj) → Prop) (xv : Value) (s₁ : Shared) : Prop :=
  ∃ r a b c t u v n news, xv = .ref r ∧ A.handled = none ∧ Fr h₀ L s₁.heap m ∧ News h₀ L s₁.heap news ∧ IsRange s₁.heap r a b c t u v ∧ Builtin.Range.small a b c = true ∧ Builtin.Range.rangeSize a b c = ((n : Nat) : Int) ∧ n ≤ sizeLine ∧
    ∀ s₂ : Shared, (∃ h, s₂ = { s₁ with heap := h }) → CompRest prog w A h₀ L m env elt x scope cl s₂ (fun _ => True) (fun i v => ∃ t, v = .int (a + (i : Nat) * c) t) (Fin s₂) n 0 [] news
section
variable {prog : Program} {w : World} {A : Around} {E : Value → Shared → Prop} {s : Shared} {h₀ : Heap} {L : Addr} {m : Str → Option Value} {env : Env}
theorem step_st {I : Addr} {a c : Int} {n : Nat} : ∀ i (h h' : Heap) (o : Obj) (nw : List (Addr × Obj)), IsRangeIter h I (a + (i : Nat) * c) ((n : Int) - (i : Nat)) c → h.get? I = some o → h'.get? I = some o → (∀ b o, h₀.get? b = some o → h'.get? b = some o) → News h₀ L h' nw → True → IsRangeIter h' I (a + (i : Nat) * c) ((n : Int) - (i : Nat)) c :=
  fun i h h' o nw st e e' _ _ _ => by
    have st' : h.get? I = some _ := st
    show h'.get? I = some _
    rw [e', ← e]; exact st'
/-- a list comprehension over a range of any step -/
theorem ListComp_S {elt iter : Expr} {x : Str} {px : Pos} {scope : Scope} {cl : List (Str × Addr)} {pos : Pos} {Q : Value → Shared → Prop} (_F₀ : Fr h₀ L s.heap m)
    (hclos : closureFor scope env = pure cl) (hcell : ∀ y ∈ scope.names, y.2 ≠ .cell) (hkind : scope.kind = .function)
    (hnames : ∀ y ∈ scope.names, y.2 = .local → scope.names.lookup y.1 = some .local) (hx : scope.names.lookup x = some .local)
    (h : wpAny (model prog w) A (eval iter env) (SrcS prog w A h₀ L m env elt x scope cl (fun s₂ => FinE h₀ L m s₂ Q)) E s)
    (hs : ∀ x, foldedSetIterable iter env x = pure x := by intro _; rfl) :
    wpAny (model prog w) A (eval (.ListComp elt [⟨.Name x px, iter, [], 0⟩] scope pos) env) Q E s := by
  rw [eval_ListComp]
  refine wpAny_comprehension_free (use := none) rfl hs hclos hkind hnames (wpAny_mono h (fun xv s₁ h₁ => ?_) fun _ _ e => e)
  obtain ⟨r, a, b, c, t, u, v, n, news, rfl, hh, F, N, hr, hsm, hn, hsz, R⟩ := h₁
  refine wpAny_pyIter_range hr hsm ?_
  refine block_U (Walks.range hh _ a c n) hsz (fun i h st => ⟨_, st⟩) step_st hcell hkind hx (by show IsRangeIter _ _ _ _ _; rw [hn]; simpa using Heap.get?_push_size _ rfl) (fun b hb => ?_)
      (F.keeps fun _ _ e => Heap.get?_push_of_some _ e) (N.grown fun _ _ e => Heap.get?_push_of_some _ e) (Nat.ne_of_lt F.ns.lt) (next_is_new F) (fun p hp => Nat.ne_of_lt (Heap.lt_size (N p hp).1)) trivial (R _ ⟨_, rfl⟩) ?_
  · rw [List.mem_singleton.mp hb]
    show s₁.heap.objs.size < (s₁.heap.push _).objs.size
    rw [Heap.size_push]; exact Nat.lt_succ_self _
  · intro D C h tk m' ys news' F' N' o1 hn hC₀ hD₀ hCL hDL hCD offC fin
    refine ⟨m', hn, fun h'' hs'' => fin D h'' tk (F'.change hs'' hCL hC₀) (fun p hp => ?_) o1⟩
    refine ⟨hs''.extBut _ _ ?_ (N' p hp).1, (N' p hp).2⟩
    rcases List.mem_cons.mp hp with rfl | hp
    · exact Ne.symm hCD
    · exact offC p hp

/-- the rows that stand in the ledger -/
def RowsR (row : Nat → Array Value) (all : List (Addr × Obj)) (ys : List Value) (i : Nat) : Prop :=
  ∃ rs : List Addr, ys = rs.map Value.ref ∧ rs.length = i ∧ ∀ j r, rs[j]? = some r → (r, listOf (row j) 0) ∈ all
theorem RowsR.nil (row : Nat → Array Value) (all : List (Addr × Obj)) : RowsR row all [] 0 := ⟨[], rfl, rfl, fun j r h => by simp at h⟩
theorem RowsR.snoc {row : Nat → Array Value} {all all' : List (Addr × Obj)} {ys : List Value} {i : Nat} {r : Addr} (R : RowsR row all ys i) (hs : ∀ p ∈ all, p ∈ all') (hr : (r, listOf (row i) 0) ∈ all') : RowsR row all' (ys ++ [.ref r]) (i + 1) := by
  obtain ⟨rs, rfl, hl, h⟩ := R
  refine ⟨rs ++ [r], by simp, by simp [hl], fun j q hj => ?_⟩
  by_cases hlt : j < rs.length
  · rw [List.getElem?_append_left hlt] at hj
    exact hs _ (h j q hj)
  · rw [List.getElem?_append_right (by omega)] at hj
    have : j - rs.length = 0 := by
      by_cases h0 : j - rs.length = 0
      · exact h0
      · rw [List.getElem?_eq_none (by simp; omega)] at hj; cases hj
    have hji : j = i := by omega
    rw [this] at hj
    simp at hj
    subst hj; subst hji
    exact hr

theorem CompRest.rows {elt : Expr} {x : Str} {scope : Scope} {cl : List (Str × Addr)} {news : List (Addr × Obj)} {row : Nat → Array Value} {a c : Int} {n : Nat} {Fin : List Value → List (Addr × Obj) → Prop}
    (turn : ∀ (i : Nat) ys nw I oI C oC D m₂ h tk t (Q E' : Value → Shared → Prop), (∀ p ∈ news, p ∈ nw) → NsObj oC m₂ → m₂ x = some (.int (a + (i : Nat) * c) t) → Fr h₀ L h m → News h₀ L h ((I, oI) :: (C, oC) :: (D, lst ys) :: nw) →
      (∀ r h' tk', Fr h₀ L h' m → News h₀ L h' ((r, listOf (row i) 0) :: (I, oI) :: (C, oC) :: (D, lst ys) :: nw) → (∀ p ∈ (I, oI) :: (C, oC) :: (D, lst ys) :: nw, p.1 < r) → Q (.ref r) { s with heap := h', toks := tk' }) →
      wpAny (model prog w) A (eval elt (compEnvC scope cl C env)) Q E' { s with heap := h, toks := tk })
    (fin : ∀ ys nw, (∀ p ∈ news, p ∈ nw) → RowsR row nw ys n → Fin ys nw) :
    ∀ (k i : Nat) ys nw, i + k = n → (∀ p ∈ news, p ∈ nw) → RowsR row nw ys i → CompRest prog w A h₀ L m env elt x scope cl s (fun _ => True) (fun i v => ∃ t, v = .int (a + (i : Nat) * c) t) Fin k i ys nw
  | 0, i, ys, nw, e, hs, R => by
    have : i = n := by omega
    subst this
    exact fin ys nw hs R
  | k + 1, i, ys, nw, e, hs, R => by
    refine CompRest.succ ?_
    rintro v I oI C oC D m₂ h tk E' ⟨t, rfl⟩ hC hx F N off ne
    refine turn i ys nw I oI C oC D m₂ h tk t _ E' hs hC hx F N fun r h' tk' F' N' hlt => ?_
    have hI := hlt (I, oI) (.head _)
    have hCc := hlt (C, oC) (.tail _ (.head _))
    have hD := hlt (D, lst ys) (.tail _ (.tail _ (.head _)))
    refine ⟨h', tk', (r, listOf (row i) 0) :: nw, rfl, F', fun p hp => N' p ?_, ⟨⟨?_, ?_, ?_⟩, off⟩, trivial, ?_⟩
    · rcases List.mem_cons.mp hp with rfl | hp
      · exact .tail _ (.head _)
      · rcases List.mem_cons.mp hp with rfl | hp
        · exact .tail _ (.tail _ (.head _))
        · rcases List.mem_cons.mp hp with rfl | hp
          · exact .tail _ (.tail _ (.tail _ (.head _)))
          · rcases List.mem_cons.mp hp with rfl | hp
            · exact .head _
            · exact .tail _ (.tail _ (.tail _ (.tail _ hp)))
    · exact Ne.symm (Nat.ne_of_lt hI)
    · exact Ne.symm (Nat.ne_of_lt hCc)
    · exact Ne.symm (Nat.ne_of_lt hD)
    · exact CompRest.rows turn fin k (i + 1) _ _ (by omega) (fun p hp => .tail _ (hs p hp)) (R.snoc (fun p hp => .tail _ hp) (.head _))

theorem SrcS.rows {elt : Expr} {x : Str} {scope : Scope} {cl : List (Str × Addr)} {Fin : Shared → List Value → List (Addr × Obj) → Prop} {s₁ : Shared} {news : List (Addr × Obj)} (row : Nat → Array Value) {r : Addr} {a b c : Int} {t u v : Tok} (n : Nat)
    (hh : A.handled = none) (F : Fr h₀ L s₁.heap m) (N : News h₀ L s₁.heap news) (hr : IsRange s₁.heap r a b c t u v) (hsm : Builtin.Range.small a b c = true) (hn : Builtin.Range.rangeSize a b c = ((n : Nat) : Int)) (hsz : n ≤ sizeLine)
    (turn : ∀ (i : Nat) ys nw I oI C oC D m₂ h tk t (Q E' : Value → Shared → Prop), (∀ p ∈ news, p ∈ nw) → NsObj oC m₂ → m₂ x = some (.int (a + (i : Nat) * c) t) → Fr h₀ L h m → News h₀ L h ((I, oI) :: (C, oC) :: (D, lst ys) :: nw) →
      (∀ r h' tk', Fr h₀ L h' m → News h₀ L h' ((r, listOf (row i) 0) :: (I, oI) :: (C, oC) :: (D, lst ys) :: nw) → (∀ p ∈ (I, oI) :: (C, oC) :: (D, lst ys) :: nw, p.1 < r) → Q (.ref r) { s₁ with heap := h', toks := tk' }) →
      wpAny (model prog w) A (eval elt (compEnvC scope cl C env)) Q E' { s₁ with heap := h, toks := tk })
    (fin : ∀ g ys nw, (∀ p ∈ news, p ∈ nw) → RowsR row nw ys n → Fin { s₁ with heap := g } ys nw) :
    SrcS prog w A h₀ L m env elt x scope cl Fin (.ref r) s₁ := by
  refine ⟨r, a, b, c, t, u, v, n, news, rfl, hh, F, N, hr, hsm, hn, hsz, ?_⟩
  rintro s₂ ⟨g, rfl⟩
  exact CompRest.rows (s := { s₁ with heap := g }) turn (fin g) n 0 [] news (by omega) (fun _ hp => hp) (RowsR.nil _ _)
end
end Heb
namespace Heb
def dayV (lp : Int) (vs : List Value) : List Value := List.replicate lp.toNat Value.none ++ vs ++ List.replicate 7 Value.none
def rowV (lp : Int) (vs : List Value) (j : Nat) : Array Value := slicePick (dayV lp vs).toArray (some (0 + (j : Nat) * 7)) (some (0 + (j : Nat) * 7 + 7)) none
theorem mch_size {b : Int} (h : 29 ≤ b ∧ b ≤ 36) : Builtin.Range.rangeSize 0 b 7 = (((b - 1) / 7 + 1).toNat : Int) := by
  unfold Builtin.Range.rangeSize
  rw [if_pos (by omega), if_pos (by omega)]
  omega
theorem mch_small {b : Int} (h : 29 ≤ b ∧ b ≤ 36) : Builtin.Range.small 0 b 7 = true := by
  unfold Builtin.Range.small
  rw [mch_size h]
  simp [Builtin.Range.rangeFitsLong]
  omega
theorem mch_line {b : Int} (h : 29 ≤ b ∧ b ≤ 36) : ((b - 1) / 7 + 1).toNat ≤ sizeLine := by
  rw [sizeLine_eq]; omega
theorem mch_b {lp ml : Int} (V : 0 ≤ lp ∧ lp < 7) (U : 29 ≤ ml ∧ ml ≤ 30) : 29 ≤ lp + ml ∧ lp + ml ≤ 36 := by omega
end Heb
namespace Heb
abbrev rowOf {vs : List Value} {ns : List Int} (_ : IntsAre vs ns) (lp : Int) : Nat → Array Value := rowV lp vs
abbrev dayOf {vs : List Value} {ns : List Int} (_ : IntsAre vs ns) (lp : Int) : List Value := dayV lp vs
end Heb
namespace Heb
theorem day_size {lp ml : Int} {vs : List Value} (V : 0 ≤ lp ∧ lp < 7) (U : 29 ≤ ml ∧ ml ≤ 30) (hi : IntsAre vs (rangeKs 1 (1 + ml - 1).toNat)) : (dayV lp vs).toArray.size ≤ sizeLine := by
  have h1 := hi.length
  rw [rangeKs_length] at h1
  simp only [dayV, List.size_toArray, List.length_append, List.length_replicate, sizeLine_eq]
  rw [h1]
  omega
end Heb
end

/- part HCal -/
section
open PySem PySem.Spec PySem.Calls PyProof.Rows PyProof.Rows.LCg PySem.W
set_option maxRecDepth 100000
namespace Heb
def dayD (lp ml : Int) : List PyData := List.replicate lp.toNat PyData.none ++ (rangeKs 1 (1 + ml - 1).toNat).map PyData.int ++ List.replicate 7 PyData.none
def rowD (lp ml : Int) (j : Nat) : List PyData :=
  ((dayD lp ml).drop (kms_lo (some (0 + (j : Nat) * 7)) (dayD lp ml).length)).take (kms_hi (some (0 + (j : Nat) * 7 + 7)) (dayD lp ml).length - kms_lo (some (0 + (j : Nat) * 7)) (dayD lp ml).length)
def calD (lp ml : Int) : List PyData := (List.range' 0 ((lp + ml - 1) / 7 + 1).toNat).map fun j => PyData.list (rowD lp ml j)

/-- plain values and their data -/
inductive Plain : List Value → List PyData → Prop
  | nil : Plain [] []
  | none {vs ds} : Plain vs ds → Plain (.none :: vs) (.none :: ds)
  | int (i : Int) (t : Tok) {vs ds} : Plain vs ds → Plain (.int i t :: vs) (.int i :: ds)
theorem Plain.reads {h : Heap} {vs : List Value} {ds : List PyData} (p : Plain vs ds) : ReadsAll h vs ds [] := by
  induction p with
  | nil => exact .nil
  | none _ ih => exact ReadsAll.cons (as := []) Reads.none ih
  | int i t _ ih => exact ReadsAll.cons (as := []) (Reads.int i t) ih
theorem Plain.length {vs : List Value} {ds : List PyData} (p : Plain vs ds) : vs.length = ds.length := by
  induction p with
  | nil => rfl
  | none _ ih => simp [ih]
  | int i t _ ih => simp [ih]
theorem Plain.append {vs ws : List Value} {ds es : List PyData} (p : Plain vs ds) (q : Plain ws es) : Plain (vs ++ ws) (ds ++ es) := by
  induction p with
  | nil => exact q
  | none _ ih => exact .none ih
  | int i t _ ih => exact .int i t ih
theorem Plain.rep : ∀ n : Nat, Plain (List.replicate n Value.none) (List.replicate n PyData.none)
  | 0 => .nil
  | n + 1 => .none (Plain.rep n)
theorem Plain.ints {vs : List Value} {ns : List Int} (h : IntsAre vs ns) : Plain vs (ns.map PyData.int) := by
  induction h with
  | nil => exact .nil
  | cons n t _ ih => exact .int n t ih
theorem Plain.drop {vs : List Value} {ds : List PyData} (p : Plain vs ds) (k : Nat) : Plain (vs.drop k) (ds.drop k) := by
  induction p generalizing k with
  | nil => simpa using Plain.nil
  | none p ih => cases k with
    | zero => exact .none p
    | succ k => exact ih k
  | int i t p ih => cases k with
    | zero => exact .int i t p
    | succ k => exact ih k
theorem Plain.take {vs : List Value} {ds : List PyData} (p : Plain vs ds) (k : Nat) : Plain (vs.take k) (ds.take k) := by
  induction p generalizing k with
  | nil => simpa using Plain.nil
  | none p ih => cases k with
    | zero => exact .nil
    | succ k => exact .none (ih k)
  | int i t p ih => cases k with
    | zero => exact .nil
    | succ k => exact .int i t (ih k)
theorem Plain.day {lp ml : Int} {vs : List Value} (h : IntsAre vs (rangeKs 1 (1 + ml - 1).toNat)) : Plain (dayV lp vs) (dayD lp ml) :=
  ((Plain.rep _).append (Plain.ints h)).append (Plain.rep 7)
theorem Plain.row {lp ml : Int} {vs : List Value} (h : IntsAre vs (rangeKs 1 (1 + ml - 1).toNat)) (j : Nat) : Plain (rowV lp vs j).toList (rowD lp ml j) := by
  unfold rowV rowD
  rw [kmk_pick_nat _ (kms_bounds _ _ _)]
  have hl := (Plain.day (lp := lp) h).length
  rw [List.size_toArray, hl]
  exact ((Plain.day h).drop _).take _
theorem rows_reads {hh : Heap} (f : Nat → PyData) : ∀ (rs : List Addr) (k : Nat), (∀ j r, rs[j]? = some r → ∃ as, Reads hh (.ref r) (f (k + j)) as) → ∃ as, ReadsAll hh (rs.map Value.ref) ((List.range' k rs.length).map f) as
  | [], _, _ => ⟨[], .nil⟩
  | r :: rs, k, h => by
    obtain ⟨as, ha⟩ := h 0 r rfl
    obtain ⟨bs, hb⟩ := rows_reads f rs (k + 1) fun j q hj => by
      have := h (j + 1) q (by simpa using hj)
      rwa [show k + (j + 1) = k + 1 + j by omega] at this
    refine ⟨as ++ bs, ?_⟩
    rw [List.length_cons, List.range'_succ, List.map_cons, List.map_cons]
    exact .cons ha hb
theorem cal_reads {hh : Heap} {D : Addr} {lp ml : Int} {vs ys : List Value} {nw : List (Addr × Obj)} (h : IntsAre vs (rangeKs 1 (1 + ml - 1).toNat))
    (R : RowsR (rowOf h lp) nw ys ((lp + ml - 1) / 7 + 1).toNat) (N : ∀ p ∈ (D, lst ys) :: nw, hh.get? p.1 = some p.2) : ∃ as, Reads hh (.ref D) (.list (calD lp ml)) as := by
  obtain ⟨rs, rfl, hl, hr⟩ := R
  obtain ⟨as, ha⟩ := rows_reads (hh := hh) (fun j => PyData.list (rowD lp ml j)) rs 0 fun j r hj => by
    have hm := hr j r hj
    have hrow : ReadsAll hh (rowV lp vs j).toList (rowD lp ml (0 + j)) [] := by rw [Nat.zero_add]; exact (Plain.row h j).reads
    exact ⟨_, Reads.list (N _ (.tail _ hm)) rfl rfl hrow⟩
  rw [hl] at ha
  exact ⟨_, Reads.list (N _ (.head _)) rfl rfl ha⟩
-- the data's own facts
theorem Plain.lay {vs : List Value} {ds : List PyData} (p : Plain vs ds) : PyData.canLayAll0 ds = true ∧ PyData.depthAll ds = 0 ∧ PyData.eqvAll ds ds = true := by
  induction p with
  | nil => exact ⟨rfl, rfl, rfl⟩
  | none _ ih => exact ⟨by simp [PyData.canLayAll0, PyData.canLay0, ih.1], by simp [PyData.depthAll, PyData.depth, ih.2.1], by simp [PyData.eqvAll, PyData.eqv, ih.2.2]⟩
  | int i t _ ih => exact ⟨by simp [PyData.canLayAll0, PyData.canLay0, ih.1], by simp [PyData.depthAll, PyData.depth, ih.2.1], by simp [PyData.eqvAll, PyData.eqv, ih.2.2]⟩
theorem lists_lay : ∀ (xss : List (List PyData)), (∀ xs ∈ xss, PyData.canLayAll0 xs = true ∧ PyData.depthAll xs = 0 ∧ PyData.eqvAll xs xs = true) →
    PyData.canLayAll0 (xss.map PyData.list) = true ∧ PyData.depthAll (xss.map PyData.list) ≤ 1 ∧ PyData.eqvAll (xss.map PyData.list) (xss.map PyData.list) = true
  | [], _ => ⟨rfl, by simp [PyData.depthAll], rfl⟩
  | xs :: r, h => by
    obtain ⟨a, b, c⟩ := h xs (.head _)
    obtain ⟨a', b', c'⟩ := lists_lay r fun y hy => h y (.tail _ hy)
    refine ⟨by simp [PyData.canLayAll0, PyData.canLay0, a, a'], ?_, by simp [PyData.eqvAll, PyData.eqv, c, c']⟩
    simp only [List.map_cons, PyData.depthAll, PyData.depth, b]
    omega
theorem vals_of : ∀ ns : List Int, ∃ vs, IntsAre vs ns
  | [] => ⟨[], .nil⟩
  | n :: r => by obtain ⟨vs, h⟩ := vals_of r; exact ⟨.int n 0 :: vs, .cons n 0 h⟩
theorem cal_lay (lp ml : Int) : PyData.canLayAll0 (calD lp ml) = true ∧ PyData.depthAll (calD lp ml) ≤ 1 ∧ PyData.eqvAll (calD lp ml) (calD lp ml) = true := by
  obtain ⟨vs, hv⟩ := vals_of (rangeKs 1 (1 + ml - 1).toNat)
  have := lists_lay ((List.range' 0 ((lp + ml - 1) / 7 + 1).toNat).map (rowD lp ml)) fun xs hx => by
    obtain ⟨j, _, rfl⟩ := List.mem_map.mp hx
    exact (Plain.row (lp := lp) hv j).lay
  rw [List.map_map] at this
  exact this
theorem cal_shaped (lp ml : Int) : SeqAt.shaped (.list (calD lp ml)) = true := by
  obtain ⟨a, b, _⟩ := cal_lay lp ml
  unfold SeqAt.shaped
  have hd : (PyData.list (calD lp ml)).depth ≤ 64 := by
    simp only [PyData.depth]
    omega
  rw [Bool.and_eq_true]
  refine ⟨by simp only [PyData.canLay0, a], decide_eq_true hd⟩
theorem cal_eqv (lp ml : Int) : PyData.eqv (.list (calD lp ml)) (.list (calD lp ml)) = true := by
  simp only [PyData.eqv]
  exact (cal_lay lp ml).2.2
end Heb
end

/- part HC3 -/
section
open PySem PySem.W PyProof.Rows PySem.Calls
namespace Heb
local macro_rules | `(tactic| walk_at "HC OPEN") => `(tactic| (unfold HC; k_fill; dsimp only [CbRet]; intros; rename_i hret; refine wpAny_call ?_; k_dflt cell_enter; k_steps; all_goals cb_end hret))
local macro_rules | `(tactic| walk_at "HC SIDE") => `(tactic| (
        (case k1 => first | k_asm | ktn_no "HC: the frames below")
        (case k2 => first | k_asm | ktn_no "HC: the frame")
        (case k3 => first | k_asm | ktn_no "HC: the written part")
        (case k4 => first | k_asm | ktn_no "HC: the ledger")
        (case k5 => first | k_asm | ktn_no "HC: the top's facts")
        (case kK => first | exact rfl | assumption | ktn_no "HC: the caller is no def")
        (case kp => first | trivial | assumption | exact kp_a (by with_reducible assumption) (by with_reducible assumption) | (k_extra "kp"; done) | ((try dsimp only); first | assumption | l_fact) | ktn_no "HC: what the claim asks")
        (case kd => first | exact Nat.le_of_ble_eq_true rfl | ktr_room | ktn_no "HC: the frames' room")
        (case ku => first | exact Nat.le_of_ble_eq_true rfl | ktr_units | ktn_no "HC: the C units")
        intro hFact9 t9 h9 tk9 F9 N9
        (try dsimp only)
        (try k_fold)))
local macro_rules | `(tactic| walk_at "eval Call") => `(tactic| (k_here; (fail_if_success (with_reducible show wpAny _ _ _ (fun y s => SeqLeaf _) _ _)); k_dflt (refine Call_ ?_)))
local macro_rules | `(tactic| walk_at "execs cons") => `(tactic| (k_here; (try dsimp only); (try k_gentoks); (with_reducible refine wpAny_execs_cons ?_); try dsimp only))

local macro_rules | `(tactic| walk_at "call ref") => `(tactic| (k_here; (with_reducible show wpAny _ _ (call (Value.ref 40) _) _ _ _); k_dflt (refine' HC.use (C_leap _ _) ?k1 ?k2 ?k3 ?k4 ?k5 ?kK ?kp ?kd ?ku ?_); walk_at "HC SIDE"))
local macro_rules | `(tactic| walk_at "call ref") => `(tactic| (k_here; (with_reducible show wpAny _ _ (call (Value.ref 47) _) _ _ _); k_dflt (refine' HC.use (C_year_months _ _) ?k1 ?k2 ?k3 ?k4 ?k5 ?kK ?kp ?kd ?ku ?_); walk_at "HC SIDE"))
local macro_rules | `(tactic| walk_at "call ref") => `(tactic| (k_here; (with_reducible show wpAny _ _ (call (Value.ref 54) _) _ _ _); k_dflt (refine' HC.use (C_delay_1 _ _) ?k1 ?k2 ?k3 ?k4 ?k5 ?kK ?kp ?kd ?ku ?_); walk_at "HC SIDE"))
local macro_rules | `(tactic| walk_at "call ref") => `(tactic| (k_here; (with_reducible show wpAny _ _ (call (Value.ref 61) _) _ _ _); k_dflt (refine' HC.use (C_delay_2 _ _) ?k1 ?k2 ?k3 ?k4 ?k5 ?kK ?kp ?kd ?ku ?_); walk_at "HC SIDE"))
local macro_rules | `(tactic| walk_at "call ref") => `(tactic| (k_here; (with_reducible show wpAny _ _ (call (Value.ref 21) _) _ _ _); k_dflt (refine' HC.use (C_midnight _ _) ?k1 ?k2 ?k3 ?k4 ?k5 ?kK ?kp ?kd ?ku ?_); walk_at "HC SIDE"))
local macro_rules | `(tactic| walk_at "call ref") => `(tactic| (k_here; (with_reducible show wpAny _ _ (call (Value.ref 68) _) _ _ _); k_dflt (refine' HC.use (C_year_days _ _) ?k1 ?k2 ?k3 ?k4 ?k5 ?kK ?kp ?kd ?ku ?_); walk_at "HC SIDE"))
local macro_rules | `(tactic| walk_at "call ref") => `(tactic| (k_here; (with_reducible show wpAny _ _ (call (Value.ref 75) _) _ _ _); k_dflt (refine' HC.use (C_month_length _ _ _ _) ?k1 ?k2 ?k3 ?k4 ?k5 ?kK ?kp ?kd ?ku ?_); walk_at "HC SIDE"))
local macro_rules | `(tactic| walk_at "call ref") => `(tactic| (k_here; (with_reducible show wpAny _ _ (call (Value.ref 82) _) _ _ _); k_dflt (refine' HC.use (C_month_days _ _ _ _) ?k1 ?k2 ?k3 ?k4 ?k5 ?kK ?kp ?kd ?ku ?_); walk_at "HC SIDE"))
local macro_rules | `(tactic| walk_at "call ref") => `(tactic| (k_here; (with_reducible show wpAny _ _ (call (Value.ref 89) _) _ _ _); k_dflt (refine' HC.use (C_to_jd _ _ _ _ _ _) ?k1 ?k2 ?k3 ?k4 ?k5 ?kK ?kp ?kd ?ku ?_); walk_at "HC SIDE"))
local macro_rules | `(tactic| walk_at "call ref") => `(tactic| (k_here; (with_reducible show wpAny _ _ (call (Value.ref 28) _) _ _ _); k_dflt (refine' HC.use (C_jwday _ _) ?k1 ?k2 ?k3 ?k4 ?k5 ?kK ?kp ?kd ?ku ?_); walk_at "HC SIDE"))
theorem mul_lo {x : Int} (h : 0 ≤ x ∧ x < 7) : -(2 ^ 63 : Int) ≤ x := by omega
theorem mul_hi {x : Int} (h : 0 ≤ x ∧ x < 7) : x < (2 ^ 63 : Int) := by omega
theorem mul_sz {x : Int} {v : Value} (h : 0 ≤ x ∧ x < 7) : [v].length * x.toNat ≤ 256 := by simp only [List.length_cons, List.length_nil]; omega
theorem rep_one (n : Nat) (v : Value) : (List.replicate n [v]).flatten = List.replicate n v := by
  induction n with
  | zero => rfl
  | succ n ih => rw [List.replicate_succ, List.flatten_cons, ih]; rfl
theorem add_z1 {lp ml : Int} {vs : List Value} (V : 0 ≤ lp ∧ lp < 7) (U : 29 ≤ ml ∧ ml ≤ 30) (hi : IntsAre vs (rangeKs 1 (1 + ml - 1).toNat)) : (List.replicate lp.toNat Value.none).toArray.toList.length + vs.toArray.toList.length ≤ sizeLine := by
  have h1 := hi.length
  rw [rangeKs_length] at h1
  simp only [List.length_replicate, sizeLine_eq]
  rw [h1]
  omega
theorem add_z2 {lp ml : Int} {vs : List Value} (V : 0 ≤ lp ∧ lp < 7) (U : 29 ≤ ml ∧ ml ≤ 30) (hi : IntsAre vs (rangeKs 1 (1 + ml - 1).toNat)) : (List.replicate lp.toNat Value.none ++ vs).toArray.toList.length + (List.replicate 7 Value.none).toArray.toList.length ≤ sizeLine := by
  have h1 := hi.length
  rw [rangeKs_length] at h1
  simp only [List.length_append, List.length_replicate, sizeLine_eq]
  rw [h1]
  omega
section
variable {prog : Program} {w : World} {A : Around} {E : Value → Shared → Prop} {s : Shared} {h₀ : Heap} {L : Addr} {m : Str → Option Value} {news : List (Addr × Obj)} {l : Addr} {vs ws : List Value} {x : Int} {u : Tok} {Q : Value → Shared → Prop}
theorem mulR {c : Nat} (Fm : Fr h₀ L s.heap m) (N : News h₀ L s.heap news) (hl : s.heap.get? l = some (listOf vs.toArray c)) (hlo : -(2 ^ 63 : Int) ≤ x) (hhi : x < 2 ^ 63) (hsz : vs.length * x.toNat ≤ 256) (e : (List.replicate x.toNat vs).flatten = ws)
    (h : ∀ D h', Fr h₀ L h' m → News h₀ L h' ((D, listOf ws.toArray 0) :: news) → (∀ p ∈ news, p.1 < D) → Q (.ref D) { s with heap := h' }) : wpAny (model prog w) A (binaryOp .Mult (.int x u) (.ref l)) Q E s := by
  subst e
  refine mul_list_r Fm N hl hlo hhi (by simp; omega) fun h' F' N' => ?_
  rw [listMul_foldl_if] at N'
  exact h _ _ F' N' fun p hp => Heap.lt_size (N p hp).1
end

local macro_rules | `(tactic| walk_at "eval Name") => `(tactic| (k_extra "comp name"))
-- two rows that serve nothing: the walk's table of lines is kept by their number alone, and this part's would be the last part's
local macro_rules | `(tactic| walk_at "no key one") => `(tactic| skip)
local macro_rules | `(tactic| walk_at "no key two") => `(tactic| skip)
set_option maxRecDepth 100000
set_option maxHeartbeats 4000000
theorem C_mch (wd ml lp : Int) (t u : Tok) (e : (wd + 1).fmod 7 = lp) (V : 0 ≤ lp ∧ lp < 7) (U : 29 ≤ ml ∧ ml ≤ 30) : HCD 8 33 [.int wd t, .int ml u] True (.list (calD lp ml)) ∧ True := by
  refine ⟨?_, trivial⟩
  k_with_none
  k_with "storeName int" => rw [e]
  k_with "binaryOp Mult ref int" => (k_dflt (refine' KMa.mul ?F ?N ?l ?lo ?hi ?z (rep_one _ _) ?_; (case F => k_asm); (case N => k_asm); (case l => is_list); (case lo => exact mul_lo V); (case hi => exact mul_hi V); (case z => exact mul_sz V)); intro D' h' F' N' l1; (try k_lt l1); (try k_sweep))
  k_with "binaryOp Mult int ref" => (k_dflt (refine' mulR (vs := [Value.none]) (ws := List.replicate 7 Value.none) ?F ?N ?l ?lo ?hi ?z rfl ?_; (case F => k_asm); (case N => k_asm); (case l => exact News.get (by k_asm) (by k_mem)); (case lo => decide); (case hi => decide); (case z => decide)); intro D' h' F' N' l1; (try k_lt l1); (try k_sweep))
  k_with "binaryOp Add ref ref" => (k_dflt (refine' kmk_add_lit ?F ?N ?a ?b rfl ?_ ?z; (case F => k_asm); (case N => k_asm); (case a => kmk_list); (case b => kmk_list); (case z => first | exact add_z1 V U (by assumption) | exact add_z2 V U (by assumption))); (try dsimp only); intro D' h' F' N' l1; (try k_lt l1); (try k_sweep))
  k_with "storeName ref" => (k_dflt (refine' storeX_C ?F ?N ?c ?U ?d ?_ ?a ?b; (case a => rfl); (case b => rfl); (case F => k_asm); (case N => k_asm); (case c => rfl); (case U => exact UpdF.tail (by k_ne) (.tail (by k_ne) (.tail (by k_ne) (.tail (by k_ne) (.tail (by k_ne) (.tail (by k_ne) (.tail (by k_ne) (.head (fun p hp => Nat.ne_of_lt (Nat.lt_succ_of_lt (hl9 p hp))))))))))); (case d => k_asm); k_whole); intro h' o' F' N' d'; (try dsimp only at N'); (try k_sweep))
  k_with "eval ListComp Subscript cons" => (k_dflt (refine ListComp_S (by k_asm) (by rfl) (by decide) (by rfl) (by decide) (by rfl) ?_))
  k_with "comp name" => ((with_reducible show wpAny _ _ (eval (Expr.Name _ _) (compEnvC _ _ _ _)) _ _ _); first
    | ((with_reducible show wpAny _ _ (eval (Expr.Name (Str.ofString "days") _) _) _ _ _); (k_dflt (refine lcf_cell N8 rfl (.tail _ (.tail _ (.tail _ hc9))) d' ?_ rfl rfl)))
    | ((with_reducible show wpAny _ _ (eval (Expr.Name (Str.ofString "i") _) _) _ _ _); (k_dflt (refine LCgL.ld_own N8 (.tail _ (.head _)) hC9 hx9 ?_))))
  k_with "subscriptTail Name Slice ref ref" => ((k_dflt (refine' kmk_slice F9 N8 ?zl9 ?zp9 ?zq9 ?_ ?zs9 ?zt9 ?zz9; (case zl9 => exact News.isList N8 (.tail _ (.tail _ (.tail _ hd9)))); (case zp9 => kmk_part); (case zq9 => kmk_part); (case zs9 => with_unfolding_all rfl); (case zt9 => kmk_pure); (case zz9 => exact day_size V U hI9))); (intro r8 h8 F8 N7 l8); exact hq9 _ _ _ F8 N7 l8)
  k_with "SrcS" => (
    (rename IntsAre _ (rangeKs 1 _) => hI9)
    (rename News _ _ _ _ => N9)
    (k_dflt (refine' SrcS.rows (rowOf hI9 lp) _ ?hh ?F N9 ?r ?sm ?n ?sz ?_ ?_))
    (case hh => exact rfl)
    (case F => k_asm)
    (case r => assumption)
    (case sm => exact mch_small (mch_b V U))
    (case n => exact mch_size (mch_b V U))
    (case sz => exact mch_line (mch_b V U))
    (intro i9 ys9 nw9 I9 oI9 C9 oC9 D9 m9 h9 tk9 t9 Q9 E9 hs9 hC9 hx9 F9 N8 hq9)
    (have hc9 := hs9 (L' + 1, o') (by k_mem))
    (have hd9 := hs9 (D', listOf (dayOf hI9 lp).toArray 0) (by k_mem))
    (rotate_left)
    (intro g9 ys9 nw9 hs9 R9)
    (rotate_right))
  (unfold HCD; k_fill; intros; rename_i hret; refine wpAny_call ?_;
   k_dflt (refine' code_defC ?k1 ?k2 ?k3 ?k4 ?k5 ?kA ?kF ?kK ?k6 ?k7 ?k8 ?k9 ?kB ?kD ?_ ?c2 ?c3 ?c4; (case kA => exact rfl); (case kF => exact rfl); (case kK => assumption); (case k1 => k_asm); (case k2 => k_asm); (case k3 => k_asm); (case k4 => k_asm); (case k5 => k_asm); (case k6 => k_is); (case k7 => k_is); (case k8 => ktr_room); (case k9 => exact BindsTo.of_eq rfl); (case kB => exact rfl); (case kD => decide +kernel); (case c2 => exact rfl); (case c3 => exact rfl); (case c4 => exact rfl); k_whole; intro g' L' h' tk' cells' FG' F' N' Y' B' X' T' l1; have hl9 := l1; (try k_lt l1); k_cells Y'; (try simp only [List.cons_append, List.nil_append] at N'); (try dsimp only); (try k_lift B'); (try k_fold))
   k_steps)
  all_goals
    refine hret _ _ _ _ (by k_asm) (by k_asm) (fun p hp => .tail _ (hs9 p ?_)) (fun hh9 M9 => cal_reads hI9 R9 M9)
    exact .tail _ (.tail _ (.tail _ (.tail _ (.tail _ (.tail _ (.tail _ (.tail _ hp)))))))
theorem C_mch' (wd ml : Int) (t u : Tok) : HCD 8 33 [.int wd t, .int ml u] (29 ≤ ml ∧ ml ≤ 30) (.list (calD ((wd + 1).fmod 7) ml)) ∧ True := by
  refine ⟨?_, trivial⟩
  have V : 0 ≤ (wd + 1).fmod 7 ∧ (wd + 1).fmod 7 < 7 := by
    rw [Int.fmod_eq_emod_of_nonneg _ (by decide)]
    omega
  intro w mean mg mb dp un gd cn cs a ccd cl outer A₀ base h₀ L m news s Q E a1 a2 a3 a4 a5 a6 U
  exact (C_mch wd ml _ t u rfl V U).1 w mean mg mb dp un gd cn cs a ccd cl outer A₀ base h₀ L m news s Q E a1 a2 a3 a4 a5 a6 trivial
local macro_rules | `(tactic| walk_at "HCD SIDE") => `(tactic| (
        (case k1 => first | k_asm | ktn_no "HC: the frames below")
        (case k2 => first | k_asm | ktn_no "HC: the frame")
        (case k3 => first | k_asm | ktn_no "HC: the written part")
        (case k4 => first | k_asm | ktn_no "HC: the ledger")
        (case k5 => first | k_asm | ktn_no "HC: the top's facts")
        (case kK => first | exact rfl | assumption | ktn_no "HC: the caller is no def")
        (case kp => first | trivial | assumption | (k_extra "kp"; done) | ((try dsimp only); first | assumption | l_fact) | ktn_no "HC: what the claim asks")
        (case kd => first | exact Nat.le_of_ble_eq_true rfl | ktr_room | ktn_no "HC: the frames' room")
        (case ku => first | exact Nat.le_of_ble_eq_true rfl | ktr_units | ktn_no "HC: the C units")
        intro hFact9 r9 all9 h9 tk9 F9 N9 hSub9 hRd9
        (try dsimp only)
        (try k_fold)))
local macro_rules | `(tactic| walk_at "call ref") => `(tactic| (k_here; (with_reducible show wpAny _ _ (call (Value.ref 33) _) _ _ _); k_dflt (refine' HCD.use (C_mch' _ _ _ _) ?k1 ?k2 ?k3 ?k4 ?k5 ?kK ?kp ?kd ?ku ?_); walk_at "HCD SIDE"))
theorem C_monthcalendar (y m : Int) (t u : Tok) : HCD 10 103 [.int y t, .int m u] (1 ≤ m ∧ m ≤ 13) (.list (calD (((tjF y m 1).fmod 7 + 1).fmod 7) (mlF y m))) ∧ True := by
  refine ⟨?_, trivial⟩
  k_with_none
  k_with "kp" => exact And.right (by assumption)
  (unfold HCD; k_fill; intros; rename_i hret; refine wpAny_call ?_; k_dflt cell_enter; k_steps)
  all_goals
    refine hret _ _ _ _ (by k_asm) (by k_asm) (by assumption) (by assumption)
end Heb
end

/- part HL0 -/
section
open PySem PySem.Spec PySem.Calls PyProof.Rows PySem.W
set_option maxRecDepth 100000
namespace Heb
@[irreducible] def mF (y c : Int) : Int := 1 + c.fmod (ymF y)
@[irreducible] def dF (y m c : Int) : Int := 1 + c.fmod (mlF y m)
theorem mF_eq (y c : Int) : 1 + c.fmod (ymF y) = mF y c := by unfold mF; rfl
theorem dF_eq (y m c : Int) : 1 + c.fmod (mlF y m) = dF y m c := by unfold dF; rfl
theorem fmod_rng (c : Int) {k : Int} (h : 0 < k) : 0 ≤ c.fmod k ∧ c.fmod k < k := by
  rw [Int.fmod_eq_emod_of_nonneg _ (by omega)]
  exact ⟨Int.emod_nonneg _ (by omega), Int.emod_lt_of_pos _ h⟩
theorem mF_ok (y c : Int) : 1 ≤ mF y c ∧ mF y c ≤ ymF y := by
  have h := ymF_bounds y
  have := fmod_rng c (k := ymF y) (by omega)
  unfold mF; omega
theorem mF_13 (y c : Int) : 1 ≤ mF y c ∧ mF y c ≤ 13 := by
  have := mF_ok y c; have := ymF_bounds y; omega
theorem dF_ok (y m c : Int) : 1 ≤ dF y m c ∧ dF y m c ≤ mlF y m := by
  have h := mlF_bounds y m
  have := fmod_rng c (k := mlF y m) (by omega)
  unfold dF; omega
theorem valid_of {y : Int} (c e : Int) (h : 1 ≤ y) : Valid y (mF y c) (dF y (mF y c) e) :=
  ⟨h, (mF_ok y c).1, (mF_ok y c).2, (dF_ok _ _ _).1, (dF_ok _ _ _).2⟩
theorem valid_cyc {y m d : Int} (r : Int) (V : Valid y m d) (hr : 1 ≤ r) : Valid (y + 689472 * r) m d :=
  ⟨by have := V.1; omega, V.2.1, by rw [ym_cyc]; exact V.2.2.1, V.2.2.2.1, by rw [ml_cyc _ _ _ V.1 hr]; exact V.2.2.2.2⟩
theorem cyc_add {y m d : Int} {r : Int} (V : Valid y m d) (hr : 1 ≤ r) : tjF y m d + 251827457 * r = tjF (y + 689472 * r) m d :=
  (tj_cyc y r m d V.1 hr V.2.1 V.2.2.2.1).symm
theorem cyc_ne {y m d : Int} {r : Int} (V : Valid y m d) (hr : 1 ≤ r) : ¬ ((tjF (y + 689472 * r) m d != tjF y m d + 251827457 * r) = true) := by
  rw [cyc_add V hr, bne_self_eq_false]; exact Bool.false_ne_true
theorem cal_cyc {y m : Int} {r : Int} (h : 1 ≤ y) (hr : 1 ≤ r) (hm : 1 ≤ m) : calD (((tjF (y + 689472 * r) m 1).fmod 7 + 1).fmod 7) (mlF (y + 689472 * r) m) = calD (((tjF y m 1).fmod 7 + 1).fmod 7) (mlF y m) := by
  rw [ml_cyc _ _ _ h hr, tj_cyc _ _ _ _ h hr hm (by decide)]
  congr 1
  simp only [Int.fmod_eq_emod_of_nonneg _ (show (0 : Int) ≤ 7 by decide)]
  omega
theorem cellIn {a : Addr} {o : Obj} {l : List (Addr × Obj)} {x : Data} (_ : o.data = x) (h : (a, o) ∈ l) : (a, o) ∈ l := h
section
variable {prog : Program} {w : World} {A : Around} {E : Value → Shared → Prop} {s : Shared} {h₀ : Heap} {L : Addr} {Q : Value → Shared → Prop}
theorem mc_eq {r1 r2 : Addr} {all1 all2 : List (Addr × Obj)} {a b a' b' : Int} (R1 : ∀ hh : Heap, (∀ p ∈ all1, hh.get? p.1 = some p.2) → ∃ as, Reads hh (.ref r1) (.list (calD a b)) as)
    (R2 : ∀ hh : Heap, (∀ p ∈ all2, hh.get? p.1 = some p.2) → ∃ as, Reads hh (.ref r2) (.list (calD a' b')) as) (hs : ∀ p ∈ all1, p ∈ all2) (N : News h₀ L s.heap all2)
    (e : calD a b = calD a' b') (hu : A.units + 64 < cLine) (h : Q (.bool true) s) : wpAny (model prog w) A (compareOp .Eq (.ref r1) (.ref r2)) Q E s := by
  obtain ⟨as, h1⟩ := R1 s.heap fun p hp => (N p (hs p hp)).1
  obtain ⟨bs, h2⟩ := R2 s.heap fun p hp => (N p hp).1
  rw [e] at h1
  exact eq_dataH h1 h2 (cal_shaped _ _) (cal_shaped _ _) hu (by rw [cal_eqv]; exact h)
theorem fj_ne {r D : Addr} {all : List (Addr × Obj)} {a b c : Int} {t1 t2 t3 : Tok} {n : Nat} (R1 : ∀ hh : Heap, (∀ p ∈ all, hh.get? p.1 = some p.2) → ∃ as, Reads hh (.ref r) (.tuple [.int a, .int b, .int c]) as)
    (N : News h₀ L s.heap ((D, { cls := .type "tuple", data := .seq #[.int a t1, .int b t2, .int c t3] n }) :: all)) (hu : A.units + 64 < cLine) (h : Q (.bool false) s) : wpAny (model prog w) A (compareOp .NotEq (.ref r) (.ref D)) Q E s := by
  obtain ⟨as, h1⟩ := R1 s.heap fun p hp => (N p (.tail _ hp)).1
  have h2 : Reads s.heap (.ref D) (.tuple [.int a, .int b, .int c]) [] := .tuple (N _ (.head _)).1 rfl rfl (.cons (as := []) (.int _ _) (.cons (as := []) (.int _ _) (.cons (as := []) (.int _ _) .nil)))
  exact ne_dataH h1 h2 rfl rfl hu (by simpa [PyData.eqv, PyData.eqvAll] using h)
end
section
variable {M : Model} {A : Around} {E : Value → Shared → Prop} {s : Shared} {env : Env} {a b c d : Int} {t u : Tok}
theorem storeInt_eq {x : Str} {Q : Unit → Shared → Prop} (e : a = b) (h : wpAny M A (storeName env x (.int b t)) Q E s) : wpAny M A (storeName env x (.int a t)) Q E s := e ▸ h
theorem tup2_eq {Q : Value → Shared → Prop} (e : a = b) (e' : c = d) (h : wpAny M A (newTuple [.int b t, .int d u]) Q E s) : wpAny M A (newTuple [.int a t, .int c u]) Q E s := by
  subst e; subst e'; exact h
theorem call1_eq {f : Value} {Q : Value → Shared → Prop} (e : a = b) (h : wpAny M A (call f [.int b t]) Q E s) : wpAny M A (call f [.int a t]) Q E s := e ▸ h
theorem two_consts' {c : Bool} {a b v : Int} {p1 p2 : Pos} {Q : Value → Shared → Prop} (e : (if c = true then a else b) = v) (h : Q (.int v s.toks) { s with toks := s.toks + 1 }) :
    if c = true then wpAny M A (eval (.Constant (.int a) 0 p1) env) Q E s else wpAny M A (eval (.Constant (.int b) 0 p2) env) Q E s := two_consts (e ▸ h)
theorem not_of {b : Bool} {Q : Value → Shared → Prop} (e : b = true) (h : Q (.bool false) s) : Q (.bool (!b)) s := by
  subst e; exact h
end
end Heb
end

/- part HL1 -/
section
open PySem PySem.W PyProof.Rows PySem.Calls
namespace Heb
local macro_rules | `(tactic| walk_at "HC OPEN") => `(tactic| (unfold HC; k_fill; dsimp only [CbRet]; intros; rename_i hret; refine wpAny_call ?_; k_dflt cell_enter; k_steps; all_goals cb_end hret))
local macro_rules | `(tactic| walk_at "HC SIDE") => `(tactic| (
        (case k1 => first | k_asm | ktn_no "HC: the frames below")
        (case k2 => first | k_asm | ktn_no "HC: the frame")
        (case k3 => first | k_asm | ktn_no "HC: the written part")
        (case k4 => first | k_asm | ktn_no "HC: the ledger")
        (case k5 => first | k_asm | ktn_no "HC: the top's facts")
        (case kK => first | exact rfl | assumption | ktn_no "HC: the caller is no def")
        (case kp => first | trivial | assumption | exact kp_a (by with_reducible assumption) (by with_reducible assumption) | (k_extra "kp"; done) | ((try dsimp only); first | assumption | l_fact) | ktn_no "HC: what the claim asks")
        (case kd => first | exact Nat.le_of_ble_eq_true rfl | ktr_room | ktn_no "HC: the frames' room")
        (case ku => first | exact Nat.le_of_ble_eq_true rfl | ktr_units | ktn_no "HC: the C units")
        intro hFact9 t9 h9 tk9 F9 N9
        (try dsimp only)
        (try k_fold)))
local macro_rules | `(tactic| walk_at "eval Call") => `(tactic| (k_here; (fail_if_success (with_reducible show wpAny _ _ _ (fun y s => SeqLeaf _) _ _)); k_dflt (refine Call_ ?_)))
local macro_rules | `(tactic| walk_at "execs cons") => `(tactic| (k_here; (try dsimp only); (try k_gentoks); (with_reducible refine wpAny_execs_cons ?_); try dsimp only))

local macro_rules | `(tactic| walk_at "call ref") => `(tactic| (k_here; (with_reducible show wpAny _ _ (call (Value.ref 40) _) _ _ _); k_dflt (refine' HC.use (C_leap _ _) ?k1 ?k2 ?k3 ?k4 ?k5 ?kK ?kp ?kd ?ku ?_); walk_at "HC SIDE"))
local macro_rules | `(tactic| walk_at "call ref") => `(tactic| (k_here; (with_reducible show wpAny _ _ (call (Value.ref 47) _) _ _ _); k_dflt (refine' HC.use (C_year_months _ _) ?k1 ?k2 ?k3 ?k4 ?k5 ?kK ?kp ?kd ?ku ?_); walk_at "HC SIDE"))
local macro_rules | `(tactic| walk_at "call ref") => `(tactic| (k_here; (with_reducible show wpAny _ _ (call (Value.ref 54) _) _ _ _); k_dflt (refine' HC.use (C_delay_1 _ _) ?k1 ?k2 ?k3 ?k4 ?k5 ?kK ?kp ?kd ?ku ?_); walk_at "HC SIDE"))
local macro_rules | `(tactic| walk_at "call ref") => `(tactic| (k_here; (with_reducible show wpAny _ _ (call (Value.ref 61) _) _ _ _); k_dflt (refine' HC.use (C_delay_2 _ _) ?k1 ?k2 ?k3 ?k4 ?k5 ?kK ?kp ?kd ?ku ?_); walk_at "HC SIDE"))
local macro_rules | `(tactic| walk_at "call ref") => `(tactic| (k_here; (with_reducible show wpAny _ _ (call (Value.ref 21) _) _ _ _); k_dflt (refine' HC.use (C_midnight _ _) ?k1 ?k2 ?k3 ?k4 ?k5 ?kK ?kp ?kd ?ku ?_); walk_at "HC SIDE"))
local macro_rules | `(tactic| walk_at "call ref") => `(tactic| (k_here; (with_reducible show wpAny _ _ (call (Value.ref 68) _) _ _ _); k_dflt (refine' HC.use (C_year_days _ _) ?k1 ?k2 ?k3 ?k4 ?k5 ?kK ?kp ?kd ?ku ?_); walk_at "HC SIDE"))
local macro_rules | `(tactic| walk_at "call ref") => `(tactic| (k_here; (with_reducible show wpAny _ _ (call (Value.ref 75) _) _ _ _); k_dflt (refine' HC.use (C_month_length _ _ _ _) ?k1 ?k2 ?k3 ?k4 ?k5 ?kK ?kp ?kd ?ku ?_); walk_at "HC SIDE"))
local macro_rules | `(tactic| walk_at "call ref") => `(tactic| (k_here; (with_reducible show wpAny _ _ (call (Value.ref 82) _) _ _ _); k_dflt (refine' HC.use (C_month_days _ _ _ _) ?k1 ?k2 ?k3 ?k4 ?k5 ?kK ?kp ?kd ?ku ?_); walk_at "HC SIDE"))
local macro_rules | `(tactic| walk_at "call ref") => `(tactic| (k_here; (with_reducible show wpAny _ _ (call (Value.ref 89) _) _ _ _); k_dflt (refine' HC.use (C_to_jd _ _ _ _ _ _) ?k1 ?k2 ?k3 ?k4 ?k5 ?kK ?kp ?kd ?ku ?_); walk_at "HC SIDE"))
local macro_rules | `(tactic| walk_at "call ref") => `(tactic| (k_here; (with_reducible show wpAny _ _ (call (Value.ref 28) _) _ _ _); k_dflt (refine' HC.use (C_jwday _ _) ?k1 ?k2 ?k3 ?k4 ?k5 ?kK ?kp ?kd ?ku ?_); walk_at "HC SIDE"))

local macro_rules | `(tactic| walk_at "HCD SIDE0") => `(tactic| (
        (case k1 => first | k_asm | ktn_no "HC: the frames below")
        (case k2 => first | k_asm | ktn_no "HC: the frame")
        (case k3 => first | k_asm | ktn_no "HC: the written part")
        (case k4 => first | k_asm | ktn_no "HC: the ledger")
        (case k5 => first | k_asm | ktn_no "HC: the top's facts")
        (case kK => first | exact rfl | assumption | ktn_no "HC: the caller is no def")
        (case kp => first | trivial | assumption | (k_extra "kp"; done) | ((try dsimp only); first | assumption | l_fact) | ktn_no "HC: what the claim asks")
        (case kd => first | exact Nat.le_of_ble_eq_true rfl | ktr_room | ktn_no "HC: the frames' room")
        (case ku => first | exact Nat.le_of_ble_eq_true rfl | ktr_units | ktn_no "HC: the C units")
        intro hFact9 r9 as9 h9 tk9 F9 N9 R9
        (try dsimp only)
        (try k_fold)))
local macro_rules | `(tactic| walk_at "HCD SIDE L") => `(tactic| (
        (case k1 => first | k_asm | ktn_no "HC: the frames below")
        (case k2 => first | k_asm | ktn_no "HC: the frame")
        (case k3 => first | k_asm | ktn_no "HC: the written part")
        (case k4 => first | k_asm | ktn_no "HC: the ledger")
        (case k5 => first | k_asm | ktn_no "HC: the top's facts")
        (case kK => first | exact rfl | assumption | ktn_no "HC: the caller is no def")
        (case kp => first | trivial | assumption | (k_extra "kp"; done) | ((try dsimp only); first | assumption | l_fact) | ktn_no "HC: what the claim asks")
        (case kd => first | exact Nat.le_of_ble_eq_true rfl | ktr_room | ktn_no "HC: the frames' room")
        (case ku => first | exact Nat.le_of_ble_eq_true rfl | ktr_units | ktn_no "HC: the C units")
        intro hFact9 r9 all9 h9 tk9 F9 N9 hSub9 hRd9
        (rename (_ = Data.cell (some _)) => hcd9)
        k_dflt (have hCell9 := hSub9 _ (cellIn hcd9 (by first | k_mem | exact List.mem_cons_of_mem _ (by assumption) | assumption)))
        (try dsimp only)
        (try k_fold)))
local macro_rules | `(tactic| walk_at "call ref") => `(tactic| (k_here; (with_reducible show wpAny _ _ (call (Value.ref 110) _) _ _ _); k_dflt (refine' HCD.use0 C_kinds ?k1 ?k2 ?k3 ?k4 ?k5 ?kK ?kp ?kd ?ku ?_); walk_at "HCD SIDE0"))
local macro_rules | `(tactic| walk_at "call ref") => `(tactic| (k_here; (with_reducible show wpAny _ _ (call (Value.ref 96) _) _ _ _); k_extra "from_jd"))
local macro_rules | `(tactic| walk_at "call ref") => `(tactic| (k_here; (with_reducible show wpAny _ _ (call (Value.ref 103) _) _ _ _); k_dflt (refine' HCD.use (C_monthcalendar _ _ _ _) ?k1 ?k2 ?k3 ?k4 ?k5 ?kK ?kp ?kd ?ku ?_); walk_at "HCD SIDE L"))
local macro_rules | `(tactic| walk_at "compareOp Eq ref ref") => `(tactic| (k_here; k_extra "two calendars"))
local macro_rules | `(tactic| walk_at "compareOp NotEq ref ref") => `(tactic| (k_here; k_extra "two dates"))
local macro_rules | `(tactic| walk_at "compareOp NotIn ref ref") => `(tactic| (k_here; k_extra "kinds"))
local macro_rules | `(tactic| walk_at "ite") => `(tactic| (k_extra "the tests"))
set_option maxRecDepth 100000 in
set_option maxHeartbeats 8000000 in
theorem law_holds : PySem.Challenge.rw_bb0027_01.Holds := hd (by
  k_with_none
  k_with "assign Tuple cons ref" => ((rename IntsAre _ (List.take 4 (List.take 4 _ ++ _)) => hq4); obtain ⟨qa, qb, qc, qd, qt, qu, qv, qw, he4⟩ := four hq4; subst he4; (clear hq4))
  k_with "newTuple cons int cons" => ((with_reducible refine tup2_eq (absY_eq qa) (absY_eq qb) ?_); have hYa := absY_pos qa; have hYb := absY_pos qb)
  k_with "storeName int" => first
    | ((with_reducible refine storeInt_eq (mF_eq (absY qa) qc) ?_); have hM := mF_13 (absY qa) qc; have hM13 := hM.2)
    | ((with_reducible refine storeInt_eq (dF_eq (absY qa) (mF (absY qa) qc) qd) ?_); have hV := valid_of qc qd hYa)
  k_with "the tests" => first
    | (refine two_consts' (ym_if _ hYa) ?_)
    | (refine ite_neg (by simp only [bne_self_eq_false, Bool.false_eq_true, not_false_eq_true]; done) ?_)
    | (refine ite_neg (leap_ym' _) ?_)
    | (refine ite_neg (sum_ml' _ hYa) ?_)
    | (refine ite_neg (d247' _ hYa) ?_)
    | (refine ite_neg (cyc_ne hV hYb) ?_)
    | (refine ite_neg Bool.false_ne_true ?_)
    | (refine ite_pos rfl ?_)
    | (refine ite_pos trivial ?_)
  k_with "kinds" => (k_dflt (refine PySem.SeqAt.notIn_list_reads (by with_reducible assumption) (by ked_read) (by decide) (by rfl) (by ke_room) (not_of (kinds_any _ hYa) ?_)))
  k_with "from_jd" => ((refine call1_eq (cyc_add hV hYb) ?_); k_dflt (refine' HCD.use (C_from_jd _ _ _ _ (valid_cyc _ hV hYb)) ?k1 ?k2 ?k3 ?k4 ?k5 ?kK ?kp ?kd ?ku ?_); walk_at "HCD SIDE L")
  k_with "two dates" => (k_dflt (refine fj_ne (by assumption) (by k_asm) (by ke_room) ?_))
  k_with "two calendars" => (k_dflt (refine mc_eq (by assumption) (by assumption) (by assumption) (by k_asm) (cal_cyc hYa hYb hM.1) (by ke_room) ?_))
  (k_go0; (all_goals try k_fold); k_steps))
end Heb
end

theorem PySem.Challenge.cw_bb0027_01_holds : PySem.Challenge.rw_bb0027_01.Holds :=
  Heb.law_holds
