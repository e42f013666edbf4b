import PyProof.Rows.All
import Wide.All
import OpenK.AllK
import Wide.FinOn
import PySem.Challenge.RW_ah0018_01
open PySem PySem.W PyProof.Rows
set_option Elab.async false
namespace Mine
set_option maxRecDepth 100000
set_option maxHeartbeats 8000000
-- Hd
open_top hd for PySem.Challenge.rw_ah0018_01
-- F1
def leapB (y : Int) : Bool := decide (Int.fmod (y * 7 + 1) 19 < 7)
def ymN (y : Int) : Int := if leapB y = true then 13 else 12
def day0 (y : Int) : Int := Int.fdiv (235 * y - 234) 19 * 29 + Int.fdiv (12084 + 13753 * Int.fdiv (235 * y - 234) 19) 25920
def delay1 (y : Int) : Int := if Int.fmod (3 * (day0 y + 1)) 7 < 3 then day0 y + 1 else day0 y
def delay2 (y : Int) : Int := if delay1 (y + 1) - delay1 y = 356 then 2 else if delay1 y - delay1 (y - 1) = 382 then 1 else 0
def midN (j : Int) : Int := if j > 0 then j else j + 1

theorem use_c {prog : Program} {w : World} {K : Frag} {p : Program} {loose : List Str} {mean : ExcName → Option Value} {mg mb : Str → Option Value} {f : Addr} {news : List (Addr × Obj)} {pre : Prop} {sz : Nat} {vs : List Value} {R : Tok → Value}
    {dp un : Nat} {gd : Option (List Code)} {cn : Str} {cs : Scope} {a : Addr} {ccd : Value} {cl : List (Str × Addr)} {outer : List Env} {A₀ : Around} {base h₀ : Heap} {L : Addr} {m : Str → Option Value} {s : Shared} {Q E : Value → Shared → Prop}
    (C : CbRec prog w K p loose mean mg mb f news [] pre sz vs R)
    (B : Below A₀ base outer h₀) (F : Fr h₀ L s.heap m) (X : K.In h₀) (N : News h₀ L s.heap news) (T : Top p loose mean mg mb h₀) (hk : cs.kind = .function)
    (hp : pre) (hd : dp + sz + 1 < recursionLimit) (hu : un + 8 * (sz + 1) < cLine) (ret : CbRet h₀ L m news s Q R) :
    wpAny (model prog w) (ktrTop dp un gd cn cs L a ccd cl outer) (call (.ref f) vs) Q E s :=
  C dp un gd cn cs a ccd cl outer A₀ base h₀ L m s Q E B F X N T hk hp hd hu ret

theorem gt {α : Type} {M : Model} {A : Around} {c : Sem α} {Q : α → Shared → Prop} {E : Value → Shared → Prop} {s : Shared} {h : Heap} {tk : Nat}
    (H : ∀ tk', wpAny M A c Q E { s with heap := h, toks := tk' }) : wpAny M A c Q E { s with heap := h, toks := tk } := H tk

local macro_rules | `(tactic| walk_at "execs cons") => `(tactic| (k_here; (with_reducible refine gt (fun tk9 => ?_)); (with_reducible refine wpAny_execs_cons ?_); try dsimp only))
local macro_rules | `(tactic| walk_at "execs nil") => `(tactic| (k_here; (with_reducible refine gt (fun tk9 => ?_)); (with_reducible refine wpAny_execs_nil ?_); try dsimp only))
local macro_rules | `(tactic| walk_at "ite") => `(tactic| (k_here; first
  | (k_closed; k_dflt (first | refine ite_pos (by decide) ?_ | refine ite_neg (by decide) ?_))
  | with_reducible refine ite_tt ?_ | with_reducible refine ite_ff ?_
  | (with_reducible refine split_dec ?_ ?_ <;> intro _) | (with_reducible refine split_ieq ?_ ?_ <;> intro _) | (with_reducible refine split_ine ?_ ?_ <;> intro _)
  | with_reducible refine split_not ?_ | (with_reducible refine split_bool ?_ ?_ <;> intro _)))

section
variable (w : World) (mean : ExcName → Option Value) (mg mb : Str → Option Value) (news : List (Addr × Obj))

theorem leap_c (y : Int) (t : Tok) :
    CbRec PySem.Challenge.rw_ah0018_01.row.prog w (hd.heap_39 w.params) hd.view_39 (looseW hd.view_39 []) mean mg mb 40 news [] True 2 [.int y t] (fun _ => .bool (leapB y)) := by
  k_fill
  dsimp only [CbRec, CbLists, CbRet]
  intro dp un gd cn cs a ccd cl outer A₀ base h₀ L m s Q E B F X N T hk hp hd hu hret
  refine wpAny_call ?_
  k_dflt cell_enter
  repeat' (first | (k_unfold; (try dsimp only)) | walk1 | (dsimp only; walk1) | (leave1; try dsimp only) | fail "no step")
  · exact cb_retB (Q := Q) hret rfl (by k_asm) (by k_asm)

theorem midnight_c (y : Int) (t : Tok) :
    CbRec PySem.Challenge.rw_ah0018_01.row.prog w (hd.heap_39 w.params) hd.view_39 (looseW hd.view_39 []) mean mg mb 21 news [] True 2 [.int y t] (fun t => .int (midN y) t) := by
  k_fill
  dsimp only [CbRec, CbLists, CbRet]
  intro dp un gd cn cs a ccd cl outer A₀ base h₀ L m s Q E B F X N T hk hp hd hu hret
  refine wpAny_call ?_
  k_dflt cell_enter
  repeat' (first | (k_unfold; (try dsimp only)) | walk1 | (dsimp only; walk1) | (leave1; try dsimp only) | fail "no step")
  · refine cb_retI (Q := Q) hret ?_ (by k_asm) (by k_asm); unfold midN; rw [if_pos (by assumption)]
  · refine cb_retI (Q := Q) hret ?_ (by k_asm) (by k_asm); unfold midN; rw [if_neg (by assumption)]

theorem jwday_c (y : Int) (t : Tok) :
    CbRec PySem.Challenge.rw_ah0018_01.row.prog w (hd.heap_39 w.params) hd.view_39 (looseW hd.view_39 []) mean mg mb 28 news [] True 2 [.int y t] (fun t => .int (Int.fmod y 7) t) := by
  k_fill
  dsimp only [CbRec, CbLists, CbRet]
  intro dp un gd cn cs a ccd cl outer A₀ base h₀ L m s Q E B F X N T hk hp hd hu hret
  refine wpAny_call ?_
  k_dflt cell_enter
  repeat' (first | (k_unfold; (try dsimp only)) | walk1 | (dsimp only; walk1) | (leave1; try dsimp only) | fail "no step")
  · exact cb_retI (Q := Q) hret rfl (by k_asm) (by k_asm)

theorem delay1_c (y : Int) (t : Tok) :
    CbRec PySem.Challenge.rw_ah0018_01.row.prog w (hd.heap_39 w.params) hd.view_39 (looseW hd.view_39 []) mean mg mb 54 news [] True 2 [.int y t] (fun t => .int (delay1 y) t) := by
  k_fill
  dsimp only [CbRec, CbLists, CbRet]
  intro dp un gd cn cs a ccd cl outer A₀ base h₀ L m s Q E B F X N T hk hp hd hu hret
  refine wpAny_call ?_
  k_dflt cell_enter
  repeat' (first | (k_unfold; (try dsimp only)) | walk1 | (dsimp only; walk1) | (leave1; try dsimp only) | fail "no step")
  · refine cb_retI (Q := Q) hret ?_ (by k_asm) (by k_asm); unfold delay1 day0; rw [if_pos (by assumption)]
  · refine cb_retI (Q := Q) hret ?_ (by k_asm) (by k_asm); unfold delay1 day0; rw [if_neg (by assumption)]
end
-- F2
local macro_rules | `(tactic| walk_at "execs cons") => `(tactic| (k_here; (with_reducible refine gt (fun tk9 => ?_)); (with_reducible refine wpAny_execs_cons ?_); try dsimp only))
local macro_rules | `(tactic| walk_at "execs nil") => `(tactic| (k_here; (with_reducible refine gt (fun tk9 => ?_)); (with_reducible refine wpAny_execs_nil ?_); try dsimp only))
local macro_rules | `(tactic| walk_at "ite") => `(tactic| (k_here; first
  | (k_closed; k_dflt (first | refine ite_pos (by decide) ?_ | refine ite_neg (by decide) ?_))
  | with_reducible refine ite_tt ?_ | with_reducible refine ite_ff ?_
  | (with_reducible refine split_dec ?_ ?_ <;> intro _) | (with_reducible refine split_ieq ?_ ?_ <;> intro _) | (with_reducible refine split_ine ?_ ?_ <;> intro _)
  | with_reducible refine split_not ?_ | (with_reducible refine split_bool ?_ ?_ <;> intro _)))

local macro_rules | `(tactic| walk_at "call ref") => `(tactic| (k_here; k_dflt (
  refine' use_c ?c ?k1 ?k2 ?k3 ?k4 ?k5 ?kK ?kp ?kd ?ku ?_;
  (case k1 => k_asm); (case k2 => k_asm); (case k3 => k_asm); (case k4 => k_asm); (case k5 => k_asm);
  (case c => first
    | exact leap_c _ _ _ _ _ _ _
    | exact midnight_c _ _ _ _ _ _ _
    | exact jwday_c _ _ _ _ _ _ _
    | exact delay1_c _ _ _ _ _ _ _);
  (case kK => first | exact rfl | assumption);
  (case kp => first | trivial | omega);
  (case kd => ktr_room); (case ku => ktr_units);
  intro t9 h9 tk9 F9 N9; (try dsimp only); (try k_fold))))
local macro_rules | `(tactic| walk_at "eval Call") => `(tactic| (k_here; k_dflt (refine Call_ ?_)))

section
variable (w : World) (mean : ExcName → Option Value) (mg mb : Str → Option Value) (news : List (Addr × Obj))
theorem year_months_c (y : Int) (t : Tok) :
    CbRec PySem.Challenge.rw_ah0018_01.row.prog w (hd.heap_39 w.params) hd.view_39 (looseW hd.view_39 []) mean mg mb 47 news [] True 4 [.int y t] (fun t => .int (ymN y) t) := by
  k_fill
  dsimp only [CbRec, CbLists, CbRet]
  intro dp un gd cn cs a ccd cl outer A₀ base h₀ L m s Q E B F X N T hk hp hd hu hret
  refine wpAny_call ?_
  k_dflt cell_enter
  repeat' (first | (k_unfold; (try dsimp only)) | walk1 | (dsimp only; walk1) | (leave1; try dsimp only) | fail "no step")
  · refine cb_retI (Q := Q) hret ?_ (by k_asm) (by k_asm); unfold ymN; rw [if_pos (by assumption)]
  · refine cb_retI (Q := Q) hret ?_ (by k_asm) (by k_asm); unfold ymN; rw [if_neg (fun h => Bool.false_ne_true ((show leapB y = false by assumption).symm.trans h))]

theorem delay2_c (y : Int) (t : Tok) :
    CbRec PySem.Challenge.rw_ah0018_01.row.prog w (hd.heap_39 w.params) hd.view_39 (looseW hd.view_39 []) mean mg mb 61 news [] True 4 [.int y t] (fun t => .int (delay2 y) t) := by
  k_fill
  dsimp only [CbRec, CbLists, CbRet]
  intro dp un gd cn cs a ccd cl outer A₀ base h₀ L m s Q E B F X N T hk hp hd hu hret
  refine wpAny_call ?_
  k_dflt cell_enter
  repeat' (first | (k_unfold; (try dsimp only)) | walk1 | (dsimp only; walk1) | (leave1; try dsimp only) | fail "no step")
  · refine cb_retI (Q := Q) hret ?_ (by k_asm) (by k_asm); unfold delay2; rw [if_pos (by assumption)]
  · refine cb_retI (Q := Q) hret ?_ (by k_asm) (by k_asm); unfold delay2; rw [if_neg (by assumption), if_pos (by assumption)]
  · refine cb_retI (Q := Q) hret ?_ (by k_asm) (by k_asm); unfold delay2; rw [if_neg (by assumption), if_neg (by assumption)]
end
-- F3
local macro_rules | `(tactic| walk_at "execs cons") => `(tactic| (k_here; (with_reducible refine gt (fun tk9 => ?_)); (with_reducible refine wpAny_execs_cons ?_); try dsimp only))
local macro_rules | `(tactic| walk_at "execs nil") => `(tactic| (k_here; (with_reducible refine gt (fun tk9 => ?_)); (with_reducible refine wpAny_execs_nil ?_); try dsimp only))
local macro_rules | `(tactic| walk_at "ite") => `(tactic| (k_here; first
  | (k_closed; k_dflt (first | refine ite_pos (by decide) ?_ | refine ite_neg (by decide) ?_))
  | with_reducible refine ite_tt ?_ | with_reducible refine ite_ff ?_
  | (with_reducible refine split_dec ?_ ?_ <;> intro _) | (with_reducible refine split_ieq ?_ ?_ <;> intro _) | (with_reducible refine split_ine ?_ ?_ <;> intro _)
  | with_reducible refine split_not ?_ | (with_reducible refine split_bool ?_ ?_ <;> intro _)))

local macro_rules | `(tactic| walk_at "call ref") => `(tactic| (k_here; k_dflt (
  refine' use_c ?c ?k1 ?k2 ?k3 ?k4 ?k5 ?kK ?kp ?kd ?ku ?_;
  (case k1 => k_asm); (case k2 => k_asm); (case k3 => k_asm); (case k4 => k_asm); (case k5 => k_asm);
  (case c => first
    | exact leap_c _ _ _ _ _ _ _
    | exact midnight_c _ _ _ _ _ _ _
    | exact jwday_c _ _ _ _ _ _ _
    | exact delay1_c _ _ _ _ _ _ _
    | exact delay2_c _ _ _ _ _ _ _
    | exact year_months_c _ _ _ _ _ _ _);
  (case kK => first | exact rfl | assumption);
  (case kp => first | trivial | omega);
  (case kd => ktr_room); (case ku => ktr_units);
  intro t9 h9 tk9 F9 N9; (try dsimp only); (try k_fold))))
local macro_rules | `(tactic| walk_at "eval Call") => `(tactic| (k_here; k_dflt (refine Call_ ?_)))


def NY (y : Int) : Int := midN (347996 + delay1 y + delay2 y + 1 + 1)

section
variable (w : World) (mean : ExcName → Option Value) (mg mb : Str → Option Value) (news : List (Addr × Obj))
theorem to_jd7_c (y : Int) (t t' t'' : Tok) :
    CbRec PySem.Challenge.rw_ah0018_01.row.prog w (hd.heap_39 w.params) hd.view_39 (looseW hd.view_39 []) mean mg mb 89 news [] True 6 [.int y t, .int 7 t', .int 1 t''] (fun t => .int (NY y) t) := by
  k_fill
  dsimp only [CbRec, CbLists, CbRet]
  intro dp un gd cn cs a ccd cl outer A₀ base h₀ L m s Q E B F X N T hk hp hd hu hret
  refine wpAny_call ?_
  k_dflt cell_enter
  repeat' (first | (k_unfold; (try dsimp only)) | walk1 | (dsimp only; walk1) | (leave1; try dsimp only) | fail "no step")
  · refine cb_retI (Q := Q) hret ?_ (by k_asm) (by k_asm); rfl
end
-- F4
local macro_rules | `(tactic| walk_at "execs cons") => `(tactic| (k_here; (with_reducible refine gt (fun tk9 => ?_)); (with_reducible refine wpAny_execs_cons ?_); try dsimp only))
local macro_rules | `(tactic| walk_at "execs nil") => `(tactic| (k_here; (with_reducible refine gt (fun tk9 => ?_)); (with_reducible refine wpAny_execs_nil ?_); try dsimp only))
local macro_rules | `(tactic| walk_at "ite") => `(tactic| (k_here; first
  | (k_closed; k_dflt (first | refine ite_pos (by decide) ?_ | refine ite_neg (by decide) ?_))
  | with_reducible refine ite_tt ?_ | with_reducible refine ite_ff ?_
  | (with_reducible refine split_dec ?_ ?_ <;> intro _) | (with_reducible refine split_ieq ?_ ?_ <;> intro _) | (with_reducible refine split_ine ?_ ?_ <;> intro _)
  | with_reducible refine split_not ?_ | (with_reducible refine split_bool ?_ ?_ <;> intro _)))

local macro_rules | `(tactic| walk_at "call ref") => `(tactic| (k_here; k_dflt (
  refine' use_c ?c ?k1 ?k2 ?k3 ?k4 ?k5 ?kK ?kp ?kd ?ku ?_;
  (case k1 => k_asm); (case k2 => k_asm); (case k3 => k_asm); (case k4 => k_asm); (case k5 => k_asm);
  (case c => first
    | exact leap_c _ _ _ _ _ _ _
    | exact midnight_c _ _ _ _ _ _ _
    | exact jwday_c _ _ _ _ _ _ _
    | exact delay1_c _ _ _ _ _ _ _
    | exact year_months_c _ _ _ _ _ _ _
    | exact delay2_c _ _ _ _ _ _ _
    | exact to_jd7_c _ _ _ _ _ _ _ _ _);
  (case kK => first | exact rfl | assumption);
  (case kp => first | trivial | omega | assumption);
  (case kd => ktr_room); (case ku => ktr_units);
  intro t9 h9 tk9 F9 N9; (try dsimp only); (try k_fold))))
local macro_rules | `(tactic| walk_at "eval Call") => `(tactic| (k_here; k_dflt (refine Call_ ?_)))


def yd (y : Int) : Int := NY (y + 1) - NY y
def inT (m : Int) : Bool := [2, 4, 6, 10, 13].any fun x => x == m
def mlen (y m : Int) : Int :=
  if inT m = true then 29
  else if m = 12 then (if leapB y = true then 30 else 29)
  else if m = 8 then (if Int.fmod (yd y) 10 = 5 then 30 else 29)
  else if m = 9 then (if Int.fmod (yd y) 10 = 3 then 29 else 30)
  else 30
theorem ml1 {y m : Int} (h : ([2, 4, 6, 10, 13].any fun x => x == m) = true) : (29 : Int) = mlen y m := by
  have h' : inT m = true := h
  simp [mlen, h']
theorem ml2 {y m : Int} (h : ([2, 4, 6, 10, 13].any fun x => x == m) = false) (h2 : m = 12) (h3 : leapB y = false) : (29 : Int) = mlen y m := by
  simp [mlen, inT, h2, h3]
theorem ml3 {y m : Int} (h : ([2, 4, 6, 10, 13].any fun x => x == m) = false) (h2 : m = 12) (h3 : leapB y = true) : (30 : Int) = mlen y m := by
  simp [mlen, inT, h2, h3]
theorem ml4 {y m : Int} (h : ([2, 4, 6, 10, 13].any fun x => x == m) = false) (h2 : m = 8) (h3 : Int.fmod (yd y) 10 = 5) : (30 : Int) = mlen y m := by
  simp [mlen, inT, h2, h3]
theorem ml5 {y m : Int} (h : ([2, 4, 6, 10, 13].any fun x => x == m) = false) (h2 : m = 8) (h3 : Int.fmod (yd y) 10 ≠ 5) : (29 : Int) = mlen y m := by
  simp [mlen, inT, h2, h3]
theorem ml6 {y m : Int} (h : ([2, 4, 6, 10, 13].any fun x => x == m) = false) (h2 : m = 9) (h3 : Int.fmod (yd y) 10 = 3) : (29 : Int) = mlen y m := by
  simp [mlen, inT, h2, h3]
theorem ml7 {y m : Int} (h : ([2, 4, 6, 10, 13].any fun x => x == m) = false) (h2 : m = 9) (h3 : Int.fmod (yd y) 10 ≠ 3) : (30 : Int) = mlen y m := by
  simp [mlen, inT, h2, h3]
theorem ml8 {y m : Int} (h : ([2, 4, 6, 10, 13].any fun x => x == m) = false) (h1 : m ≠ 12) (h2 : m ≠ 8) (h3 : m ≠ 9) : (30 : Int) = mlen y m := by
  have h' : inT m = false := h
  simp [mlen, h', h1, h2, h3]
section
variable (w : World) (mean : ExcName → Option Value) (mg mb : Str → Option Value) (news : List (Addr × Obj))
theorem year_days_c (y : Int) (t : Tok) :
    CbRec PySem.Challenge.rw_ah0018_01.row.prog w (hd.heap_39 w.params) hd.view_39 (looseW hd.view_39 []) mean mg mb 68 news [] (True) 10 [.int y t] (fun t => .int (yd y) t) := by
  k_fill
  dsimp only [CbRec, CbLists, CbRet]
  intro dp un gd cn cs a ccd cl outer A₀ base h₀ L m s Q E B F X N T hk hp hd hu hret
  refine wpAny_call ?_
  k_dflt cell_enter
  repeat' (first | (k_unfold; (try dsimp only)) | walk1 | (dsimp only; walk1) | (leave1; try dsimp only) | fail "no step")
  · exact cb_retI (Q := Q) hret rfl (by k_asm) (by k_asm)
end
local macro_rules | `(tactic| walk_at "execs cons") => `(tactic| (k_here; (with_reducible refine gt (fun tk9 => ?_)); (with_reducible refine wpAny_execs_cons ?_); try dsimp only))
local macro_rules | `(tactic| walk_at "execs nil") => `(tactic| (k_here; (with_reducible refine gt (fun tk9 => ?_)); (with_reducible refine wpAny_execs_nil ?_); try dsimp only))
local macro_rules | `(tactic| walk_at "ite") => `(tactic| (k_here; first
  | (k_closed; k_dflt (first | refine ite_pos (by decide) ?_ | refine ite_neg (by decide) ?_))
  | with_reducible refine ite_tt ?_ | with_reducible refine ite_ff ?_
  | (with_reducible refine split_dec ?_ ?_ <;> intro _) | (with_reducible refine split_ieq ?_ ?_ <;> intro _) | (with_reducible refine split_ine ?_ ?_ <;> intro _)
  | with_reducible refine split_not ?_ | (with_reducible refine split_bool ?_ ?_ <;> intro _)))

local macro_rules | `(tactic| walk_at "call ref") => `(tactic| (k_here; k_dflt (
  refine' use_c ?c ?k1 ?k2 ?k3 ?k4 ?k5 ?kK ?kp ?kd ?ku ?_;
  (case k1 => k_asm); (case k2 => k_asm); (case k3 => k_asm); (case k4 => k_asm); (case k5 => k_asm);
  (case c => first
    | exact leap_c _ _ _ _ _ _ _
    | exact midnight_c _ _ _ _ _ _ _
    | exact jwday_c _ _ _ _ _ _ _
    | exact delay1_c _ _ _ _ _ _ _
    | exact year_months_c _ _ _ _ _ _ _
    | exact delay2_c _ _ _ _ _ _ _
    | exact to_jd7_c _ _ _ _ _ _ _ _ _
    | exact year_days_c _ _ _ _ _ _ _);
  (case kK => first | exact rfl | assumption);
  (case kp => first | trivial | omega | assumption);
  (case kd => ktr_room); (case ku => ktr_units);
  intro t9 h9 tk9 F9 N9; (try dsimp only); (try k_fold))))
local macro_rules | `(tactic| walk_at "eval Call") => `(tactic| (k_here; k_dflt (refine Call_ ?_)))

local macro_rules | `(tactic| walk_at "ite") => `(tactic| (k_here; first
  | (k_closed; k_dflt (first | refine ite_pos (by decide) ?_ | refine ite_neg (by decide) ?_))
  | (refine ite_neg (by simp only [decide_eq_true_eq, beq_iff_eq]; omega) ?_)
  | (refine ite_pos (by simp only [decide_eq_true_eq, beq_iff_eq]; omega) ?_)))
section
variable (w : World) (mean : ExcName → Option Value) (mg mb : Str → Option Value) (news : List (Addr × Obj))
theorem month_length_c (y m : Int) (t t' : Tok) :
    CbRec PySem.Challenge.rw_ah0018_01.row.prog w (hd.heap_39 w.params) hd.view_39 (looseW hd.view_39 []) mean mg mb 75 news [] (m ≤ 13) 14 [.int y t, .int m t'] (fun t => .int (mlen y m) t) := by
  k_fill
  dsimp only [CbRec, CbLists, CbRet]
  intro dp un gd cn cs a ccd cl outer A₀ base h₀ L mm s Q E B F X N T hk hp hd hu hret
  refine wpAny_call ?_
  k_dflt cell_enter
  repeat' (first | (k_unfold; (try dsimp only)) | walk1 | (dsimp only; walk1) | (leave1; try dsimp only) | fail "no step")
  all_goals (refine cb_retI (Q := Q) hret ?_ (by k_asm) (cb_drop (by assumption) (by kcj_all)))
  all_goals first
    | exact ml1 (by assumption)
    | exact ml2 (by assumption) (by assumption) (by assumption)
    | exact ml3 (by assumption) (by assumption) (by assumption)
    | exact ml4 (by assumption) (by assumption) (by assumption)
    | exact ml5 (by assumption) (by assumption) (by assumption)
    | exact ml6 (by assumption) (by assumption) (by assumption)
    | exact ml7 (by assumption) (by assumption) (by assumption)
    | exact ml8 (by assumption) (by assumption) (by assumption) (by assumption)
    | (exfalso; omega)
end
-- F5
local macro_rules | `(tactic| walk_at "execs cons") => `(tactic| (k_here; (with_reducible refine gt (fun tk9 => ?_)); (with_reducible refine wpAny_execs_cons ?_); try dsimp only))
local macro_rules | `(tactic| walk_at "execs nil") => `(tactic| (k_here; (with_reducible refine gt (fun tk9 => ?_)); (with_reducible refine wpAny_execs_nil ?_); try dsimp only))
local macro_rules | `(tactic| walk_at "ite") => `(tactic| (k_here; first
  | (k_closed; k_dflt (first | refine ite_pos (by decide) ?_ | refine ite_neg (by decide) ?_))
  | with_reducible refine ite_tt ?_ | with_reducible refine ite_ff ?_
  | (with_reducible refine split_dec ?_ ?_ <;> intro _) | (with_reducible refine split_ieq ?_ ?_ <;> intro _) | (with_reducible refine split_ine ?_ ?_ <;> intro _)
  | with_reducible refine split_not ?_ | (with_reducible refine split_bool ?_ ?_ <;> intro _)))

local macro_rules | `(tactic| walk_at "call ref") => `(tactic| (k_here; k_dflt (
  refine' use_c ?c ?k1 ?k2 ?k3 ?k4 ?k5 ?kK ?kp ?kd ?ku ?_;
  (case k1 => k_asm); (case k2 => k_asm); (case k3 => k_asm); (case k4 => k_asm); (case k5 => k_asm);
  (case c => first
    | exact leap_c _ _ _ _ _ _ _
    | exact midnight_c _ _ _ _ _ _ _
    | exact jwday_c _ _ _ _ _ _ _
    | exact delay1_c _ _ _ _ _ _ _
    | exact year_months_c _ _ _ _ _ _ _
    | exact delay2_c _ _ _ _ _ _ _
    | exact to_jd7_c _ _ _ _ _ _ _ _ _
    | exact year_days_c _ _ _ _ _ _ _
    | exact month_length_c _ _ _ _ _ _ _ _ _);
  (case kK => first | exact rfl | assumption);
  (case kp => first | trivial | omega | assumption);
  (case kd => ktr_room); (case ku => ktr_units);
  intro t9 h9 tk9 F9 N9; (try dsimp only); (try k_fold))))
local macro_rules | `(tactic| walk_at "eval Call") => `(tactic| (k_here; k_dflt (refine Call_ ?_)))


section
variable (w : World) (mean : ExcName → Option Value) (mg mb : Str → Option Value) (news : List (Addr × Obj))
theorem month_days_c (y m : Int) (t t' : Tok) :
    CbRec PySem.Challenge.rw_ah0018_01.row.prog w (hd.heap_39 w.params) hd.view_39 (looseW hd.view_39 []) mean mg mb 82 news [] (m ≤ 13) 16 [.int y t, .int m t'] (fun t => .int (mlen y m) t) := by
  k_fill
  dsimp only [CbRec, CbLists, CbRet]
  intro dp un gd cn cs a ccd cl outer A₀ base h₀ L mm s Q E B F X N T hk hp hd hu hret
  refine wpAny_call ?_
  k_dflt cell_enter
  repeat' (first | (k_unfold; (try dsimp only)) | walk1 | (dsimp only; walk1) | (leave1; try dsimp only) | fail "no step")
  · exact cb_retI (Q := Q) hret rfl (by k_asm) (by k_asm)
end
-- F6
local macro_rules | `(tactic| walk_at "execs cons") => `(tactic| (k_here; (with_reducible refine gt (fun tk9 => ?_)); (with_reducible refine wpAny_execs_cons ?_); try dsimp only))
local macro_rules | `(tactic| walk_at "execs nil") => `(tactic| (k_here; (with_reducible refine gt (fun tk9 => ?_)); (with_reducible refine wpAny_execs_nil ?_); try dsimp only))
local macro_rules | `(tactic| walk_at "ite") => `(tactic| (k_here; first
  | (k_closed; k_dflt (first | refine ite_pos (by decide) ?_ | refine ite_neg (by decide) ?_))
  | with_reducible refine ite_tt ?_ | with_reducible refine ite_ff ?_
  | (with_reducible refine split_dec ?_ ?_ <;> intro _) | (with_reducible refine split_ieq ?_ ?_ <;> intro _) | (with_reducible refine split_ine ?_ ?_ <;> intro _)
  | with_reducible refine split_not ?_ | (with_reducible refine split_bool ?_ ?_ <;> intro _)))

local macro_rules | `(tactic| walk_at "call ref") => `(tactic| (k_here; k_dflt (
  refine' use_c ?c ?k1 ?k2 ?k3 ?k4 ?k5 ?kK ?kp ?kd ?ku ?_;
  (case k1 => k_asm); (case k2 => k_asm); (case k3 => k_asm); (case k4 => k_asm); (case k5 => k_asm);
  (case c => first
    | exact leap_c _ _ _ _ _ _ _
    | exact midnight_c _ _ _ _ _ _ _
    | exact jwday_c _ _ _ _ _ _ _
    | exact delay1_c _ _ _ _ _ _ _
    | exact year_months_c _ _ _ _ _ _ _
    | exact delay2_c _ _ _ _ _ _ _
    | exact to_jd7_c _ _ _ _ _ _ _ _ _
    | exact year_days_c _ _ _ _ _ _ _
    | exact month_length_c _ _ _ _ _ _ _ _ _
    | exact month_days_c _ _ _ _ _ _ _ _ _);
  (case kK => first | exact rfl | assumption);
  (case kp => first | trivial | omega | assumption);
  (case kd => ktr_room); (case ku => ktr_units);
  intro t9 h9 tk9 F9 N9; (try dsimp only); (try k_fold))))
local macro_rules | `(tactic| walk_at "eval Call") => `(tactic| (k_here; k_dflt (refine Call_ ?_)))


theorem ymN_le (y : Int) : ymN y ≤ 13 := by unfold ymN; split <;> decide
theorem le_ymN (y : Int) : 12 ≤ ymN y := by unfold ymN; split <;> decide
def acc (y a : Int) (ks : List Int) : Int := List.foldl (fun a' k' => a' + mlen y k') a ks
def toJd (y m d : Int) : Int :=
  if m < 7 then midN (acc y (acc y (347996 + delay1 y + delay2 y + d + 1) (rangeKs 7 (ymN y + 1 - 7).toNat)) (rangeKs 1 (m - 1).toNat))
  else midN (acc y (347996 + delay1 y + delay2 y + d + 1) (rangeKs 7 (m - 7).toNat))
section
variable (w : World) (mean : ExcName → Option Value) (mg mb : Str → Option Value) (news : List (Addr × Obj))
theorem to_jd_c (y m d : Int) (t t' t'' : Tok) :
    CbRec PySem.Challenge.rw_ah0018_01.row.prog w (hd.heap_39 w.params) hd.view_39 (looseW hd.view_39 []) mean mg mb 89 news [] (1 ≤ m ∧ m ≤ 13) 20 [.int y t, .int m t', .int d t''] (fun t => .int (toJd y m d) t) := by
  k_fill
  dsimp only [CbRec, CbLists, CbRet]
  intro dp un gd cn cs a ccd cl outer A₀ base h₀ L mm s Q E B F X N T hk hp hd hu hret
  have hym := ymN_le y
  have hym' := le_ymN y
  obtain ⟨hm1, hm2⟩ := hp
  refine wpAny_call ?_
  k_dflt cell_enter
  repeat' (first | (k_unfold; (try dsimp only)) | walk1 | (dsimp only; walk1) | (leave1; try dsimp only) | fail "no step")
  · refine cb_retI (Q := Q) hret ?_ (by k_asm) (by k_asm); unfold toJd; rw [if_pos (by assumption)]; rfl
  · refine cb_retI (Q := Q) hret ?_ (by k_asm) (by k_asm); unfold toJd; rw [if_neg (by assumption)]; rfl
end
-- P1
def Mo (y : Int) : Int := (235 * y - 234) / 19
def Ad (t : Int) : Int := if 3 * (t / 25920 + 1) % 7 < 3 then t / 25920 + 1 else t / 25920
def Tt (y : Int) : Int := 12084 + 765433 * Mo y
theorem day0_eq (y : Int) : day0 y = Tt y / 25920 := by
  unfold day0 Tt Mo
  rw [Int.fdiv_eq_ediv_of_nonneg _ (by decide), Int.fdiv_eq_ediv_of_nonneg _ (by decide)]
  omega
theorem delay1_eq (y : Int) : delay1 y = Ad (Tt y) := by
  unfold delay1 Ad
  rw [day0_eq, Int.fmod_eq_emod_of_nonneg _ (by decide)]
theorem leap_iff (y : Int) : leapB y = true ↔ (7 * y + 1) % 19 < 7 := by
  unfold leapB
  rw [Int.fmod_eq_emod_of_nonneg _ (by decide), decide_eq_true_eq, Int.mul_comm y 7]
theorem leap_not (y : Int) : leapB y = false ↔ ¬ (7 * y + 1) % 19 < 7 := by
  rw [← leap_iff]; cases leapB y <;> simp
theorem split19 (y : Int) : ∃ q r : Int, y = 19 * q + r ∧ (r = 0 ∨ r = 1 ∨ r = 2 ∨ r = 3 ∨ r = 4 ∨ r = 5 ∨ r = 6 ∨ r = 7 ∨ r = 8 ∨ r = 9 ∨ r = 10 ∨ r = 11 ∨ r = 12 ∨ r = 13 ∨ r = 14 ∨ r = 15 ∨ r = 16 ∨ r = 17 ∨ r = 18) :=
  ⟨y / 19, y % 19, by omega, by omega⟩
/-- the parts at a year's new moon, from year to year -/
theorem Tt_leap {y : Int} (h : leapB y = true) : Tt (y + 1) = Tt y + 9950629 := by
  rw [leap_iff] at h
  unfold Tt Mo
  obtain ⟨q, r, rfl, hr⟩ := split19 y
  rcases hr with rfl | rfl | rfl | rfl | rfl | rfl | rfl | rfl | rfl | rfl | rfl | rfl | rfl | rfl | rfl | rfl | rfl | rfl | rfl <;> omega
theorem Tt_plain {y : Int} (h : leapB y = false) : Tt (y + 1) = Tt y + 9185196 := by
  rw [leap_not] at h
  unfold Tt Mo
  obtain ⟨q, r, rfl, hr⟩ := split19 y
  rcases hr with rfl | rfl | rfl | rfl | rfl | rfl | rfl | rfl | rfl | rfl | rfl | rfl | rfl | rfl | rfl | rfl | rfl | rfl | rfl <;> omega
theorem leap_next {y : Int} (h : leapB y = true) : leapB (y + 1) = false := by
  rw [leap_iff] at h
  rw [leap_not]
  obtain ⟨q, r, rfl, hr⟩ := split19 y
  rcases hr with rfl | rfl | rfl | rfl | rfl | rfl | rfl | rfl | rfl | rfl | rfl | rfl | rfl | rfl | rfl | rfl | rfl | rfl | rfl <;> omega
theorem plain_two {y : Int} (h : leapB y = false) (h1 : leapB (y + 1) = false) : leapB (y + 2) = true := by
  rw [leap_not] at h h1
  rw [leap_iff]
  obtain ⟨q, r, rfl, hr⟩ := split19 y
  rcases hr with rfl | rfl | rfl | rfl | rfl | rfl | rfl | rfl | rfl | rfl | rfl | rfl | rfl | rfl | rfl | rfl | rfl | rfl | rfl <;> omega
def D2 (p t n : Int) : Int := if Ad n - Ad t = 356 then 2 else if Ad t - Ad p = 382 then 1 else 0
def Xx (y : Int) : Int := delay1 y + delay2 y
theorem Xx_eq (y : Int) : Xx y = Ad (Tt y) + D2 (Tt (y - 1)) (Tt y) (Tt (y + 1)) := by
  unfold Xx delay2 D2
  rw [delay1_eq, delay1_eq, delay1_eq]
theorem Ad_bd (t : Int) : t / 25920 ≤ Ad t ∧ Ad t ≤ t / 25920 + 1 := by
  unfold Ad
  split <;> omega
theorem D2_bd (p t n : Int) : 0 ≤ D2 p t n ∧ D2 p t n ≤ 2 := by
  unfold D2
  split
  · omega
  · split <;> omega
def adv (k : Int) : Int := if 3 * (k + 1) % 7 < 3 then k + 1 else k
def d2v (a b c : Int) : Int := if c - b = 356 then 2 else if b - a = 382 then 1 else 0
theorem Ad_val {q k t : Int} (h : t / 25920 = 7 * q + k) : Ad t = 7 * q + adv k := by
  unfold Ad adv
  rw [h]
  have e : 3 * (7 * q + k + 1) % 7 = 3 * (k + 1) % 7 := by omega
  rw [e]
  split <;> omega
theorem D2_val {q a b c p t n : Int} (hp : Ad p = 7 * q + a) (ht : Ad t = 7 * q + b) (hn : Ad n = 7 * q + c) : D2 p t n = d2v a b c := by
  unfold D2 d2v
  rw [hp, ht, hn]
  have e1 : 7 * q + c - (7 * q + b) = c - b := by omega
  have e2 : 7 * q + b - (7 * q + a) = b - a := by omega
  rw [e1, e2]
def goodP (lo k0 k1 k2 k3 : Int) : Bool :=
  let d := adv k2 + d2v (adv k1) (adv k2) (adv k3) - (adv k1 + d2v (adv k0) (adv k1) (adv k2))
  d == lo || d == lo + 1 || d == lo + 2
theorem len_of {q w t0 t1 t2 t3 : Int} (c1 c2 c3 lo : Int) (hw0 : 0 ≤ w) (hw6 : w ≤ 6) (h0 : t0 / 25920 = 7 * q + w) (h1 : t1 / 25920 = 7 * q + (w + c1)) (h2 : t2 / 25920 = 7 * q + (w + c2)) (h3 : t3 / 25920 = 7 * q + (w + c3))
    (hg : ((List.range 7).all fun w => goodP lo w (w + c1) (w + c2) (w + c3)) = true) :
    (let X := Ad t1 + D2 t0 t1 t2; let X' := Ad t2 + D2 t1 t2 t3; X' - X = lo ∨ X' - X = lo + 1 ∨ X' - X = lo + 2) := by
  have a0 := Ad_val h0
  have a1 := Ad_val h1
  have a2 := Ad_val h2
  have a3 := Ad_val h3
  intro X X'
  have hX : X = 7 * q + adv (w + c1) + d2v (adv w) (adv (w + c1)) (adv (w + c2)) := by
    show Ad t1 + D2 t0 t1 t2 = _
    rw [D2_val a0 a1 a2, a1]
  have hX' : X' = 7 * q + adv (w + c2) + d2v (adv (w + c1)) (adv (w + c2)) (adv (w + c3)) := by
    show Ad t2 + D2 t1 t2 t3 = _
    rw [D2_val a1 a2 a3, a2]
  rw [List.all_eq_true] at hg
  have g := hg w.toNat (List.mem_range.mpr (by omega))
  rw [Int.toNat_of_nonneg hw0] at g
  simp only [goodP, Bool.or_eq_true, beq_iff_eq] at g
  rw [hX, hX']
  omega
theorem split_t (t : Int) : ∃ q w f : Int, t = 181440 * q + 25920 * w + f ∧ 0 ≤ w ∧ w ≤ 6 ∧ 0 ≤ f ∧ f < 25920 :=
  ⟨t / 181440, t % 181440 / 25920, t % 25920, by omega, by omega, by omega, by omega, by omega⟩
theorem len_lpp (t : Int) : (let X := Ad (t + 9950629) + D2 t (t + 9950629) (t + 9950629 + 9185196); let X' := Ad (t + 9950629 + 9185196) + D2 (t + 9950629) (t + 9950629 + 9185196) (t + 9950629 + 9185196 + 9185196);
    X' - X = 353 ∨ X' - X = 354 ∨ X' - X = 355) := by
  obtain ⟨q, w, f, e, hw0, hw6, hf0, hf1⟩ := split_t t
  subst e
  by_cases h0 : f < 2651
  · exact len_of (q := q) (w := w) 383 738 1092 353 hw0 hw6 (by omega) (by omega) (by omega) (by omega) (by decide)
  by_cases h1 : f < 9539
  · exact len_of (q := q) (w := w) 384 738 1092 353 hw0 hw6 (by omega) (by omega) (by omega) (by omega) (by decide)
  by_cases h2 : f < 19055
  · exact len_of (q := q) (w := w) 384 738 1093 353 hw0 hw6 (by omega) (by omega) (by omega) (by omega) (by decide)
  exact len_of (q := q) (w := w) 384 739 1093 353 hw0 hw6 (by omega) (by omega) (by omega) (by omega) (by decide)
theorem len_plp (t : Int) : (let X := Ad (t + 9185196) + D2 t (t + 9185196) (t + 9185196 + 9950629); let X' := Ad (t + 9185196 + 9950629) + D2 (t + 9185196) (t + 9185196 + 9950629) (t + 9185196 + 9950629 + 9185196);
    X' - X = 383 ∨ X' - X = 384 ∨ X' - X = 385) := by
  obtain ⟨q, w, f, e, hw0, hw6, hf0, hf1⟩ := split_t t
  subst e
  by_cases h0 : f < 9539
  · exact len_of (q := q) (w := w) 354 738 1092 383 hw0 hw6 (by omega) (by omega) (by omega) (by omega) (by decide)
  by_cases h1 : f < 16404
  · exact len_of (q := q) (w := w) 354 738 1093 383 hw0 hw6 (by omega) (by omega) (by omega) (by omega) (by decide)
  by_cases h2 : f < 19055
  · exact len_of (q := q) (w := w) 355 738 1093 383 hw0 hw6 (by omega) (by omega) (by omega) (by omega) (by decide)
  exact len_of (q := q) (w := w) 355 739 1093 383 hw0 hw6 (by omega) (by omega) (by omega) (by omega) (by decide)
theorem len_ppl (t : Int) : (let X := Ad (t + 9185196) + D2 t (t + 9185196) (t + 9185196 + 9185196); let X' := Ad (t + 9185196 + 9185196) + D2 (t + 9185196) (t + 9185196 + 9185196) (t + 9185196 + 9185196 + 9950629);
    X' - X = 353 ∨ X' - X = 354 ∨ X' - X = 355) := by
  obtain ⟨q, w, f, e, hw0, hw6, hf0, hf1⟩ := split_t t
  subst e
  by_cases h0 : f < 6888
  · exact len_of (q := q) (w := w) 354 708 1092 353 hw0 hw6 (by omega) (by omega) (by omega) (by omega) (by decide)
  by_cases h1 : f < 9539
  · exact len_of (q := q) (w := w) 354 709 1092 353 hw0 hw6 (by omega) (by omega) (by omega) (by omega) (by decide)
  by_cases h2 : f < 16404
  · exact len_of (q := q) (w := w) 354 709 1093 353 hw0 hw6 (by omega) (by omega) (by omega) (by omega) (by decide)
  exact len_of (q := q) (w := w) 355 709 1093 353 hw0 hw6 (by omega) (by omega) (by omega) (by omega) (by decide)
theorem len_lpl (t : Int) : (let X := Ad (t + 9950629) + D2 t (t + 9950629) (t + 9950629 + 9185196); let X' := Ad (t + 9950629 + 9185196) + D2 (t + 9950629) (t + 9950629 + 9185196) (t + 9950629 + 9185196 + 9950629);
    X' - X = 353 ∨ X' - X = 354 ∨ X' - X = 355) := by
  obtain ⟨q, w, f, e, hw0, hw6, hf0, hf1⟩ := split_t t
  subst e
  by_cases h0 : f < 2651
  · exact len_of (q := q) (w := w) 383 738 1122 353 hw0 hw6 (by omega) (by omega) (by omega) (by omega) (by decide)
  by_cases h1 : f < 19055
  · exact len_of (q := q) (w := w) 384 738 1122 353 hw0 hw6 (by omega) (by omega) (by omega) (by omega) (by decide)
  by_cases h2 : f < 21706
  · exact len_of (q := q) (w := w) 384 739 1122 353 hw0 hw6 (by omega) (by omega) (by omega) (by omega) (by decide)
  exact len_of (q := q) (w := w) 384 739 1123 353 hw0 hw6 (by omega) (by omega) (by omega) (by omega) (by decide)
-- P2
theorem X_next (z : Int) : (leapB (z + 1) = true → (Xx (z + 2) - Xx (z + 1) = 383 ∨ Xx (z + 2) - Xx (z + 1) = 384 ∨ Xx (z + 2) - Xx (z + 1) = 385)) ∧
    (leapB (z + 1) = false → (Xx (z + 2) - Xx (z + 1) = 353 ∨ Xx (z + 2) - Xx (z + 1) = 354 ∨ Xx (z + 2) - Xx (z + 1) = 355)) := by
  have e1 : z + 1 - 1 = z := by omega
  have e2 : z + 1 + 1 = z + 2 := by omega
  have e3 : z + 2 - 1 = z + 1 := by omega
  have e4 : z + 2 + 1 = z + 3 := by omega
  have hX : Xx (z + 1) = Ad (Tt (z + 1)) + D2 (Tt z) (Tt (z + 1)) (Tt (z + 2)) := by rw [Xx_eq, e1, e2]
  have hX' : Xx (z + 2) = Ad (Tt (z + 2)) + D2 (Tt (z + 1)) (Tt (z + 2)) (Tt (z + 3)) := by rw [Xx_eq, e3, e4]
  cases h0 : leapB z with
  | true =>
    have h1 := leap_next h0
    refine ⟨fun h => absurd (h1.symm.trans h) Bool.false_ne_true, fun _ => ?_⟩
    have t1 := Tt_leap h0
    have t2 := Tt_plain h1
    rw [e2, t1] at t2
    cases h2 : leapB (z + 2) with
    | true =>
      have t3 := Tt_leap h2
      rw [e4, t2] at t3
      rw [hX, hX', t3, t2, t1]
      exact len_lpl _
    | false =>
      have t3 := Tt_plain h2
      rw [e4, t2] at t3
      rw [hX, hX', t3, t2, t1]
      exact len_lpp _
  | false =>
    have t1 := Tt_plain h0
    cases h1 : leapB (z + 1) with
    | true =>
      refine ⟨fun _ => ?_, fun h => absurd h (by decide)⟩
      have h2 := leap_next h1
      have t2 := Tt_leap h1
      rw [e2] at h2
      rw [e2, t1] at t2
      have t3 := Tt_plain h2
      rw [e4, t2] at t3
      rw [hX, hX', t3, t2, t1]
      exact len_plp _
    | false =>
      refine ⟨fun h => absurd h (by decide), fun _ => ?_⟩
      have h2 := plain_two h0 h1
      have t2 := Tt_plain h1
      rw [e2, t1] at t2
      have t3 := Tt_leap h2
      rw [e4, t2] at t3
      rw [hX, hX', t3, t2, t1]
      exact len_ppl _
theorem X_leap {y : Int} (h : leapB y = true) : Xx (y + 1) - Xx y = 383 ∨ Xx (y + 1) - Xx y = 384 ∨ Xx (y + 1) - Xx y = 385 := by
  have k := (X_next (y - 1)).1
  rw [show y - 1 + 1 = y by omega, show y - 1 + 2 = y + 1 by omega] at k
  exact k h
theorem X_plain {y : Int} (h : leapB y = false) : Xx (y + 1) - Xx y = 353 ∨ Xx (y + 1) - Xx y = 354 ∨ Xx (y + 1) - Xx y = 355 := by
  have k := (X_next (y - 1)).2
  rw [show y - 1 + 1 = y by omega, show y - 1 + 2 = y + 1 by omega] at k
  exact k h
theorem X_step (y : Int) : Xx y + 353 ≤ Xx (y + 1) := by
  cases h : leapB y with
  | true => have := X_leap h; omega
  | false => have := X_plain h; omega
theorem X_nonneg {y : Int} (h : 1 ≤ y) : 0 ≤ Xx y := by
  rw [Xx_eq]
  have h1 := Ad_bd (Tt y)
  have h2 := D2_bd (Tt (y - 1)) (Tt y) (Tt (y + 1))
  have h3 : 0 ≤ Tt y / 25920 := by unfold Tt Mo; omega
  omega
theorem NY_eq (y : Int) : NY y = midN (347998 + Xx y) := by
  unfold NY Xx
  congr 1
  omega
theorem mid_pos {j : Int} (h : 0 < j) : midN j = j := by unfold midN; rw [if_pos h]
theorem mid_mono {a b : Int} (h : a ≤ b) : midN a ≤ midN b := by
  unfold midN
  split <;> split <;> omega
theorem mid_lt {a b : Int} (h : a + 1 < b) : midN a < midN b := by
  unfold midN
  split <;> split <;> omega
theorem NY_pos {y : Int} (h : 1 ≤ y) : NY y = 347998 + Xx y := by
  have := X_nonneg h
  rw [NY_eq, mid_pos (by omega)]
theorem NY_lt (i : Int) : NY i < NY (i + 1) := by
  have := X_step i
  rw [NY_eq, NY_eq]
  exact mid_lt (by omega)
theorem NY_mono {a b : Int} (h : a ≤ b) : NY a ≤ NY b := by
  obtain ⟨n, rfl⟩ : ∃ n : Nat, b = a + n := ⟨(b - a).toNat, by omega⟩
  induction n with
  | zero => simp
  | succ n ih =>
    have h1 := NY_lt (a + n)
    have e : a + ((n + 1 : Nat) : Int) = a + n + 1 := by omega
    rw [e]
    have := ih (by omega)
    omega
theorem yd_eq {y : Int} (h : 1 ≤ y) : yd y = Xx (y + 1) - Xx y := by
  unfold yd
  rw [NY_pos h, NY_pos (show 1 ≤ y + 1 by omega)]
  omega
theorem yd_leap {y : Int} (h : 1 ≤ y) (hl : leapB y = true) : yd y = 383 ∨ yd y = 384 ∨ yd y = 385 := by rw [yd_eq h]; exact X_leap hl
theorem yd_plain {y : Int} (h : 1 ≤ y) (hl : leapB y = false) : yd y = 353 ∨ yd y = 354 ∨ yd y = 355 := by rw [yd_eq h]; exact X_plain hl

theorem ml_7 (y : Int) : mlen y 7 = 30 := rfl
theorem ml_8 (y : Int) : mlen y 8 = if Int.fmod (yd y) 10 = 5 then 30 else 29 := by
  unfold mlen; rw [if_neg (by decide), if_neg (by decide), if_pos rfl]
theorem ml_9 (y : Int) : mlen y 9 = if Int.fmod (yd y) 10 = 3 then 29 else 30 := by
  unfold mlen; rw [if_neg (by decide), if_neg (by decide), if_neg (by decide), if_pos rfl]
theorem ml_10 (y : Int) : mlen y 10 = 29 := rfl
theorem ml_11 (y : Int) : mlen y 11 = 30 := rfl
theorem ml_12 (y : Int) : mlen y 12 = if leapB y = true then 30 else 29 := by
  unfold mlen; rw [if_neg (by decide), if_pos rfl]
theorem ml_13 (y : Int) : mlen y 13 = 29 := rfl
theorem ml_1 (y : Int) : mlen y 1 = 30 := rfl
theorem ml_2 (y : Int) : mlen y 2 = 29 := rfl
theorem ml_3 (y : Int) : mlen y 3 = 30 := rfl
theorem ml_4 (y : Int) : mlen y 4 = 29 := rfl
theorem ml_5 (y : Int) : mlen y 5 = 30 := rfl
theorem ml_6 (y : Int) : mlen y 6 = 29 := rfl
/-- how much of the year lies ahead of a month -/
def fall (y : Int) : Int := mlen y 8 + mlen y 9
def half (y : Int) : Int := if leapB y = true then 148 + fall y else 118 + fall y
def offs (y m : Int) : Int :=
  if m = 7 then 0 else if m = 8 then 30 else if m = 9 then 30 + mlen y 8 else if m = 10 then 30 + fall y else if m = 11 then 59 + fall y else if m = 12 then 89 + fall y
  else if m = 13 then 89 + fall y + mlen y 12
  else if m = 1 then half y else if m = 2 then half y + 30 else if m = 3 then half y + 59 else if m = 4 then half y + 89 else if m = 5 then half y + 118 else half y + 148
theorem whole {y : Int} (h : 1 ≤ y) : half y + 177 = yd y := by
  unfold half fall
  rw [ml_8, ml_9, Int.fmod_eq_emod_of_nonneg _ (by decide)]
  cases hl : leapB y with
  | true =>
    rcases yd_leap h hl with e | e | e <;> rw [e] <;> decide
  | false =>
    rcases yd_plain h hl with e | e | e <;> rw [e] <;> decide

theorem fall_bd (y : Int) : 58 ≤ fall y ∧ fall y ≤ 60 ∧ 29 ≤ mlen y 8 ∧ mlen y 8 ≤ 30 ∧ 29 ≤ mlen y 9 ∧ mlen y 9 ≤ 30 := by
  unfold fall
  rw [ml_8, ml_9]
  split <;> split <;> decide
theorem acc_nil (y a : Int) : acc y a [] = a := rfl
theorem acc_cons (y a k : Int) (ks : List Int) : acc y a (k :: ks) = acc y (a + mlen y k) ks := rfl
theorem toJd_fall {y m d : Int} (h7 : 7 ≤ m) (h13 : m ≤ 13) : toJd y m d = midN (347997 + Xx y + d + offs y m) := by
  have hm : m = 7 ∨ m = 8 ∨ m = 9 ∨ m = 10 ∨ m = 11 ∨ m = 12 ∨ m = 13 := by omega
  unfold toJd Xx
  rw [if_neg (by omega)]
  congr 1
  rcases hm with rfl | rfl | rfl | rfl | rfl | rfl | rfl
  · rw [show rangeKs 7 (7 - 7 : Int).toNat = [] from rfl, acc_nil, show offs y 7 = 0 from rfl]; omega
  · rw [show rangeKs 7 (8 - 7 : Int).toNat = [7] from rfl, acc_cons, acc_nil, ml_7, show offs y 8 = 30 from rfl]; omega
  · rw [show rangeKs 7 (9 - 7 : Int).toNat = [7, 8] from rfl, acc_cons, acc_cons, acc_nil, ml_7, show offs y 9 = 30 + mlen y 8 from rfl]; omega
  · rw [show rangeKs 7 (10 - 7 : Int).toNat = [7, 8, 9] from rfl, acc_cons, acc_cons, acc_cons, acc_nil, ml_7, show offs y 10 = 30 + fall y from rfl, fall]; omega
  · rw [show rangeKs 7 (11 - 7 : Int).toNat = [7, 8, 9, 10] from rfl, acc_cons, acc_cons, acc_cons, acc_cons, acc_nil, ml_7, ml_10, show offs y 11 = 59 + fall y from rfl, fall]; omega
  · rw [show rangeKs 7 (12 - 7 : Int).toNat = [7, 8, 9, 10, 11] from rfl, acc_cons, acc_cons, acc_cons, acc_cons, acc_cons, acc_nil, ml_7, ml_10, ml_11, show offs y 12 = 89 + fall y from rfl, fall]; omega
  · rw [show rangeKs 7 (13 - 7 : Int).toNat = [7, 8, 9, 10, 11, 12] from rfl, acc_cons, acc_cons, acc_cons, acc_cons, acc_cons, acc_cons, acc_nil, ml_7, ml_10, ml_11, show offs y 13 = 89 + fall y + mlen y 12 from rfl, fall]; omega
theorem half_eq (y a : Int) : acc y a (rangeKs 7 (ymN y + 1 - 7).toNat) = a + half y := by
  unfold ymN half
  cases hl : leapB y with
  | true =>
    rw [if_pos rfl, if_pos rfl, show rangeKs 7 (13 + 1 - 7 : Int).toNat = [7, 8, 9, 10, 11, 12, 13] from rfl, acc_cons, acc_cons, acc_cons, acc_cons, acc_cons, acc_cons, acc_cons, acc_nil, ml_7, ml_10, ml_11, ml_12, ml_13, if_pos hl, fall]
    omega
  | false =>
    rw [if_neg Bool.false_ne_true, if_neg Bool.false_ne_true, show rangeKs 7 (12 + 1 - 7 : Int).toNat = [7, 8, 9, 10, 11, 12] from rfl, acc_cons, acc_cons, acc_cons, acc_cons, acc_cons, acc_cons, acc_nil, ml_7, ml_10, ml_11, ml_12, if_neg (by rw [hl]; exact Bool.false_ne_true), fall]
    omega
theorem toJd_spring {y m d : Int} (h1 : 1 ≤ m) (h6 : m < 7) : toJd y m d = midN (347997 + Xx y + d + offs y m) := by
  have hm : m = 1 ∨ m = 2 ∨ m = 3 ∨ m = 4 ∨ m = 5 ∨ m = 6 := by omega
  unfold toJd Xx
  rw [if_pos h6, half_eq]
  congr 1
  rcases hm with rfl | rfl | rfl | rfl | rfl | rfl
  · rw [show rangeKs 1 (1 - 1 : Int).toNat = [] from rfl, acc_nil, show offs y 1 = half y from rfl]; omega
  · rw [show rangeKs 1 (2 - 1 : Int).toNat = [1] from rfl, acc_cons, acc_nil, ml_1, show offs y 2 = half y + 30 from rfl]; omega
  · rw [show rangeKs 1 (3 - 1 : Int).toNat = [1, 2] from rfl, acc_cons, acc_cons, acc_nil, ml_1, ml_2, show offs y 3 = half y + 59 from rfl]; omega
  · rw [show rangeKs 1 (4 - 1 : Int).toNat = [1, 2, 3] from rfl, acc_cons, acc_cons, acc_cons, acc_nil, ml_1, ml_2, ml_3, show offs y 4 = half y + 89 from rfl]; omega
  · rw [show rangeKs 1 (5 - 1 : Int).toNat = [1, 2, 3, 4] from rfl, acc_cons, acc_cons, acc_cons, acc_cons, acc_nil, ml_1, ml_2, ml_3, ml_4, show offs y 5 = half y + 118 from rfl]; omega
  · rw [show rangeKs 1 (6 - 1 : Int).toNat = [1, 2, 3, 4, 5] from rfl, acc_cons, acc_cons, acc_cons, acc_cons, acc_cons, acc_nil, ml_1, ml_2, ml_3, ml_4, ml_5, show offs y 6 = half y + 148 from rfl]; omega
theorem half_bd (y : Int) : 118 + fall y ≤ half y ∧ half y ≤ 148 + fall y := by
  unfold half
  split <;> omega
theorem offs_nonneg {y m : Int} (h1 : 1 ≤ m) (h13 : m ≤ 13) : 0 ≤ offs y m := by
  have hf := fall_bd y
  have hh := half_bd y
  have hm : m = 1 ∨ m = 2 ∨ m = 3 ∨ m = 4 ∨ m = 5 ∨ m = 6 ∨ m = 7 ∨ m = 8 ∨ m = 9 ∨ m = 10 ∨ m = 11 ∨ m = 12 ∨ m = 13 := by omega
  have h12 : 29 ≤ mlen y 12 := by rw [ml_12]; split <;> decide
  rcases hm with rfl | rfl | rfl | rfl | rfl | rfl | rfl | rfl | rfl | rfl | rfl | rfl | rfl <;> simp only [offs, reduceIte, Int.reduceEq] <;> omega
theorem toJd_eq {y m d : Int} (hy : 1 ≤ y) (h1 : 1 ≤ m) (h13 : m ≤ 13) (hd : 0 ≤ d) : toJd y m d = NY y + offs y m + d - 1 := by
  have hx := X_nonneg hy
  have ho := offs_nonneg (y := y) h1 h13
  have e : toJd y m d = midN (347997 + Xx y + d + offs y m) := by
    by_cases h : m < 7
    · exact toJd_spring h1 h
    · exact toJd_fall (by omega) h13
  rw [e, mid_pos (by omega), NY_pos hy]
  omega
-- P3
theorem months13 {m : Int} (h1 : 1 ≤ m) (h13 : m ≤ 13) : m = 1 ∨ m = 2 ∨ m = 3 ∨ m = 4 ∨ m = 5 ∨ m = 6 ∨ m = 7 ∨ m = 8 ∨ m = 9 ∨ m = 10 ∨ m = 11 ∨ m = 12 ∨ m = 13 := by omega
/-- a month's end lies within the half year -/
theorem off_next {y m : Int} (h1 : 1 ≤ m) (h2 : m ≤ ymN y) : (m ≠ 6 → m ≠ ymN y → offs y m + mlen y m ≤ offs y (m + 1)) ∧ (7 ≤ m → offs y m + mlen y m ≤ half y) ∧ offs y m + mlen y m ≤ half y + 177 ∧ (m < 7 → half y ≤ offs y m) := by
  have hf := fall_bd y
  have hF : fall y = mlen y 8 + mlen y 9 := rfl
  have h13 : m ≤ 13 := Int.le_trans h2 (ymN_le y)
  have m7 := ml_7 y
  have m10 := ml_10 y
  have m11 := ml_11 y
  have m12 := ml_12 y
  have m13 := ml_13 y
  have m1 := ml_1 y
  have m2 := ml_2 y
  have m3 := ml_3 y
  have m4 := ml_4 y
  have m5 := ml_5 y
  have m6 := ml_6 y
  have hh : half y = if leapB y = true then 148 + fall y else 118 + fall y := rfl
  have hy : ymN y = if leapB y = true then 13 else 12 := rfl
  rw [hy] at h2 ⊢
  cases hl : leapB y with
  | true =>
    rw [hl] at h2 hh m12
    simp only [reduceIte] at h2 hh m12 ⊢
    rcases months13 h1 h13 with rfl | rfl | rfl | rfl | rfl | rfl | rfl | rfl | rfl | rfl | rfl | rfl | rfl <;> simp only [offs, reduceIte, Int.reduceEq, Int.reduceAdd] <;> omega
  | false =>
    rw [hl] at h2 hh m12
    simp only [reduceIte, Bool.false_eq_true] at h2 hh m12 ⊢
    rcases months13 h1 h13 with rfl | rfl | rfl | rfl | rfl | rfl | rfl | rfl | rfl | rfl | rfl | rfl | rfl <;> simp only [offs, reduceIte, Int.reduceEq, Int.reduceAdd] <;> omega
theorem mlen_bd0 (y m : Int) : 29 ≤ mlen y m ∧ mlen y m ≤ 30 := by
  unfold mlen
  repeat' split
  all_goals decide
theorem off_mono {y m : Int} (h2 : m ≤ ymN y) : ∀ (n : Nat) (i : Int), 1 ≤ i → i + (n + 1 : Nat) = m → (m < 7 ∨ 7 ≤ i) → offs y i + mlen y i ≤ offs y m := by
  intro n
  induction n with
  | zero =>
    intro i h1 e hh
    have k := (off_next (y := y) (m := i) h1 (by omega)).1 (by omega) (by omega)
    have e' : i + 1 = m := by omega
    rw [e'] at k
    exact k
  | succ n ih =>
    intro i h1 e hh
    have k := (off_next (y := y) (m := i) h1 (by omega)).1 (by omega) (by omega)
    have k2 := ih (i + 1) (by omega) (by omega) (by omega)
    have k3 := mlen_bd0 y (i + 1)
    omega
-- P4
/-- jd is the day y, m, d of a real calendar -/
structure IsDate (jd y m d : Int) : Prop where
  hjd : jd = toJd y m d
  y1 : 1 ≤ y
  m1 : 1 ≤ m
  m2 : m ≤ ymN y
  d1 : 1 ≤ d
  d2 : d ≤ mlen y m
theorem m_le13 {jd y m d : Int} (h : IsDate jd y m d) : m ≤ 13 := Int.le_trans h.m2 (ymN_le y)
theorem date_jd {jd y m d : Int} (h : IsDate jd y m d) : jd = NY y + offs y m + d - 1 := by
  rw [h.hjd, toJd_eq h.y1 h.m1 (m_le13 h) (by have := h.d1; omega)]
theorem NY_next {y : Int} (hy : 1 ≤ y) : NY (y + 1) = NY y + half y + 177 := by
  have h := whole hy
  unfold yd at h
  omega
theorem date_in {jd y m d : Int} (h : IsDate jd y m d) : NY y ≤ jd ∧ jd < NY (y + 1) := by
  have e := date_jd h
  have h1 := offs_nonneg (y := y) h.m1 (m_le13 h)
  have h2 := (off_next (y := y) h.m1 h.m2).2.2.1
  have h3 := NY_next h.y1
  have h4 := h.d1
  have h5 := h.d2
  omega
def W1 (jd i year : Int) : Prop := year = i - 1 ∧ NY (i - 1) ≤ jd
theorem count_le {jd y : Int} (hy : 1 ≤ y) (h : jd < NY (y + 1)) : (jd - 347996) * 98496 / 35975351 ≤ y := by
  have h1 := NY_pos (show 1 ≤ y + 1 by omega)
  have h2 := Ad_bd (Tt (y + 1))
  have h3 := D2_bd (Tt (y + 1 - 1)) (Tt (y + 1)) (Tt (y + 1 + 1))
  have h4 := Xx_eq (y + 1)
  have h5 : Tt (y + 1) / 25920 * 25920 ≤ Tt (y + 1) := by omega
  have h6 : Mo (y + 1) * 19 ≤ 235 * (y + 1) - 234 := by unfold Mo; omega
  have h7 : Tt (y + 1) = 12084 + 765433 * Mo (y + 1) := rfl
  generalize hD : Tt (y + 1) / 25920 = D at *
  generalize Mo (y + 1) = M at *
  generalize Tt (y + 1) = T at *
  have h8 : D * 492480 ≤ 229596 + 765433 * (235 * (y + 1) - 234) := by omega
  have h9 : (jd - 347996) * 98496 < (y + 1) * 35975351 := by omega
  exact Int.lt_add_one_iff.mp (Int.ediv_lt_of_lt_mul (by decide) h9)
theorem w1_start {jd y m d : Int} (h : IsDate jd y m d) : W1 jd (Int.fdiv ((jd - 347996) * 98496) 35975351) (Int.fdiv ((jd - 347996) * 98496) 35975351 - 1) := by
  have hi := date_in h
  rw [Int.fdiv_eq_ediv_of_nonneg _ (by decide)]
  have hc := count_le h.y1 hi.2
  refine ⟨rfl, Int.le_trans (NY_mono (b := y) (by omega)) hi.1⟩
theorem w1_turn {jd i year : Int} (h : W1 jd i year) (h2 : jd ≥ NY i) : W1 jd (i + 1) (year + 1) := by
  obtain ⟨a, b⟩ := h
  refine ⟨by omega, ?_⟩
  rw [show i + 1 - 1 = i by omega]
  exact h2
theorem w1_less {jd i : Int} (h2 : jd ≥ NY i) : (jd + 1 - NY (i + 1)).toNat < (jd + 1 - NY i).toNat := by
  have := NY_lt i
  omega
theorem w1_end {jd i year y m d : Int} (h : IsDate jd y m d) (h1 : W1 jd i year) (h2 : ¬ jd ≥ NY i) : year = y := by
  obtain ⟨a, b⟩ := h1
  have hi := date_in h
  by_cases c : i ≤ y
  · have := NY_mono c
    omega
  · by_cases c' : y + 1 ≤ i - 1
    · have := NY_mono c'
      omega
    · omega
theorem jd_first {y : Int} (hy : 1 ≤ y) : toJd y 1 1 = NY y + half y := by
  rw [toJd_eq hy (by decide) (by decide) (by decide), show offs y 1 = half y from rfl]
  omega
theorem first_lt {jd y m d : Int} (h : IsDate jd y m d) (h2 : jd < toJd y 1 1) : 7 ≤ m := by
  rw [jd_first h.y1, date_jd h] at h2
  have k := (off_next (y := y) h.m1 h.m2).2.2.2
  have := h.d1
  by_cases c : m < 7
  · have := k c
    omega
  · omega
theorem first_ge {jd y m d : Int} (h : IsDate jd y m d) (h2 : ¬ jd < toJd y 1 1) : m < 7 := by
  rw [jd_first h.y1, date_jd h] at h2
  have k := (off_next (y := y) h.m1 h.m2).2.1
  have := h.d2
  by_cases c : m < 7
  · exact c
  · have := k (by omega)
    omega
theorem jd_last {y i : Int} (hy : 1 ≤ y) (h1 : 1 ≤ i) (h13 : i ≤ 13) : toJd y i (mlen y i) = NY y + offs y i + mlen y i - 1 := toJd_eq hy h1 h13 (by have := mlen_bd0 y i; omega)
theorem in_turn {jd y m d i : Int} (h : IsDate jd y m d) (h0 : 1 ≤ i) (h1 : i ≤ m) (_h3 : m < 7 ∨ 7 ≤ i) (h2 : jd > toJd y i (mlen y i)) : i + 1 ≤ m := by
  have h13 := m_le13 h
  rw [jd_last h.y1 h0 (by omega), date_jd h] at h2
  by_cases c : i = m
  · subst c
    have := h.d2
    omega
  · omega
theorem in_end {jd y m d i : Int} (h : IsDate jd y m d) (h0 : 1 ≤ i) (h1 : i ≤ m) (h3 : m < 7 ∨ 7 ≤ i) (h2 : ¬ jd > toJd y i (mlen y i)) : i = m := by
  have h13 := m_le13 h
  rw [jd_last h.y1 h0 (by omega), date_jd h] at h2
  by_cases c : i = m
  · exact c
  · have k := off_mono h.m2 (m - i - 1).toNat i h0 (by omega) h3
    have := h.d1
    omega
theorem day_end {jd y m d : Int} (h : IsDate jd y m d) : jd - toJd y m 1 + 1 = d := by
  rw [toJd_eq h.y1 h.m1 (m_le13 h) (by decide), date_jd h]
  omega
def W2 (y m year i month : Int) : Prop := month = i ∧ year = y ∧ 1 ≤ i ∧ i ≤ m ∧ m ≤ 13 ∧ (m < 7 ∨ 7 ≤ i)
theorem w2_lt {jd y m d i year : Int} (h : IsDate jd y m d) (h1 : W1 jd i year) (h2 : ¬ jd ≥ NY i) (h3 : jd < toJd year 1 1) : W2 y m year 7 7 := by
  have e := w1_end h h1 h2
  subst e
  have := first_lt h h3
  exact ⟨rfl, rfl, by omega, this, m_le13 h, Or.inr (by omega)⟩
theorem w2_ge {jd y m d i year : Int} (h : IsDate jd y m d) (h1 : W1 jd i year) (h2 : ¬ jd ≥ NY i) (h3 : ¬ jd < toJd year 1 1) : W2 y m year 1 1 := by
  have e := w1_end h h1 h2
  subst e
  have := first_ge h h3
  exact ⟨rfl, rfl, by omega, h.m1, m_le13 h, Or.inl this⟩
theorem w2_turn {jd y m d i year month : Int} (h : IsDate jd y m d) (h1 : W2 y m year i month) (h2 : jd > toJd year i (mlen year i)) : W2 y m year (i + 1) (month + 1) := by
  obtain ⟨rfl, rfl, a, b, c, e⟩ := h1
  have := in_turn h a b e h2
  exact ⟨rfl, rfl, by omega, this, c, by omega⟩
theorem w2_less {jd y m d i year month : Int} (h : IsDate jd y m d) (h1 : W2 y m year i month) (h2 : jd > toJd year i (mlen year i)) : (m - (i + 1)).toNat < (m - i).toNat := by
  obtain ⟨rfl, rfl, a, b, c, e⟩ := h1
  have := in_turn h a b e h2
  omega
theorem w2_a {y m i year month : Int} (h1 : W2 y m year i month) : 1 ≤ i ∧ i ≤ 13 := by
  obtain ⟨rfl, rfl, a, b, c, e⟩ := h1
  omega
theorem w2_b {y m i year month : Int} (h1 : W2 y m year i month) : 1 ≤ month ∧ month ≤ 13 := by
  obtain ⟨rfl, rfl, a, b, c, e⟩ := h1
  omega
theorem w2_y {y m i year month : Int} (h1 : W2 y m year i month) : year = y := h1.2.1
theorem w2_m {jd y m d i year month : Int} (h : IsDate jd y m d) (h1 : W2 y m year i month) (h2 : ¬ jd > toJd year i (mlen year i)) : month = m := by
  obtain ⟨rfl, rfl, a, b, c, e⟩ := h1
  exact in_end h a b e h2
theorem w2_d {jd y m d i year month : Int} (h : IsDate jd y m d) (h1 : W2 y m year i month) (h2 : ¬ jd > toJd year i (mlen year i)) : jd - toJd year month 1 + 1 = d := by
  have e := w2_m h h1 h2
  have e' := w2_y h1
  subst e; subst e'
  exact day_end h

/-! the period -/
theorem leap_per (y k : Int) : leapB (y + 689472 * k) = leapB y := by
  have e : (7 * (y + 689472 * k) + 1) % 19 = (7 * y + 1) % 19 := by omega
  apply Bool.eq_iff_iff.mpr
  rw [leap_iff, leap_iff, e]
theorem Tt_per (y k : Int) : Tt (y + 689472 * k) = Tt y + 6527367685440 * k := by
  unfold Tt Mo
  omega
theorem Ad_per (t k : Int) : Ad (t + 6527367685440 * k) = Ad t + 251827457 * k := by
  unfold Ad
  have e : (t + 6527367685440 * k) / 25920 = t / 25920 + 251827457 * k := by omega
  rw [e]
  have e2 : 3 * (t / 25920 + 251827457 * k + 1) % 7 = 3 * (t / 25920 + 1) % 7 := by omega
  rw [e2]
  split <;> omega
theorem D2_per (p t n k : Int) : D2 (p + 6527367685440 * k) (t + 6527367685440 * k) (n + 6527367685440 * k) = D2 p t n := by
  unfold D2
  rw [Ad_per, Ad_per, Ad_per]
  have e1 : Ad n + 251827457 * k - (Ad t + 251827457 * k) = Ad n - Ad t := by omega
  have e2 : Ad t + 251827457 * k - (Ad p + 251827457 * k) = Ad t - Ad p := by omega
  rw [e1, e2]
theorem Xx_per (y k : Int) : Xx (y + 689472 * k) = Xx y + 251827457 * k := by
  rw [Xx_eq, Xx_eq]
  rw [show y + 689472 * k - 1 = y - 1 + 689472 * k by omega, show y + 689472 * k + 1 = y + 1 + 689472 * k by omega]
  rw [Tt_per, Tt_per, Tt_per, Ad_per, D2_per]
  omega
theorem yd_per {y k : Int} (hy : 1 ≤ y) (hk : 0 ≤ k) : yd (y + 689472 * k) = yd y := by
  rw [yd_eq (by omega), yd_eq hy]
  rw [show y + 689472 * k + 1 = y + 1 + 689472 * k by omega, Xx_per, Xx_per]
  omega
theorem mlen_per {y k : Int} (hy : 1 ≤ y) (hk : 0 ≤ k) (m : Int) : mlen (y + 689472 * k) m = mlen y m := by
  unfold mlen
  rw [leap_per, yd_per hy hk]
theorem offs_per {y k : Int} (hy : 1 ≤ y) (hk : 0 ≤ k) (m : Int) : offs (y + 689472 * k) m = offs y m := by
  unfold offs half fall
  rw [leap_per, mlen_per hy hk, mlen_per hy hk, mlen_per hy hk]
theorem jd_per {y k m d : Int} (hy : 1 ≤ y) (hk : 0 ≤ k) (h1 : 1 ≤ m) (h13 : m ≤ 13) (hd : 1 ≤ d) : toJd (y + 689472 * k) m d = toJd y m d + 251827457 * k := by
  rw [toJd_eq (by omega) h1 h13 (by omega), toJd_eq hy h1 h13 (by omega), offs_per hy hk, NY_pos (by omega), NY_pos hy, Xx_per]
  omega
theorem date_per {jd y m d k : Int} (h : IsDate jd y m d) (hk : 0 ≤ k) : IsDate (toJd (y + 689472 * k) m d) (y + 689472 * k) m d := by
  have h1 := h.y1
  refine ⟨rfl, by omega, h.m1, ?_, h.d1, ?_⟩
  · have := h.m2
    unfold ymN at this ⊢
    rw [leap_per]
    exact this
  · rw [mlen_per h.y1 hk]
    exact h.d2
-- P5
def lawYear (n : Int) : Int := if -5000 < n then (if n < 100000 then 5785 + n else Int.fmod n (10 ^ Int.toNat 12) + 1) else Int.fmod n (10 ^ Int.toNat 12) + 1
def lawMonths (y : Int) : Int := if Int.fmod (7 * y + 1) 19 < 7 then 13 else 12
theorem yr_pos (n : Int) : 1 ≤ lawYear n := by
  unfold lawYear
  have h : 0 ≤ Int.fmod n (10 ^ Int.toNat 12) := Int.fmod_nonneg_of_pos _ (by decide)
  split
  · split <;> omega
  · omega
theorem law_months_eq (y : Int) : lawMonths y = ymN y := by
  have e : leapB y = decide (Int.fmod (7 * y + 1) 19 < 7) := by unfold leapB; rw [Int.mul_comm y 7]
  unfold lawMonths ymN
  rw [e]
  simp only [decide_eq_true_eq]
theorem lm_pos (y : Int) : 0 < lawMonths y := by
  rw [law_months_eq]
  have := le_ymN y
  omega
theorem lm_ne (y : Int) : lawMonths y ≠ 0 := by
  have := lm_pos y
  omega
theorem mo_bd (c y : Int) : 1 ≤ 1 + Int.fmod c (lawMonths y) ∧ 1 + Int.fmod c (lawMonths y) ≤ ymN y := by
  have h1 := Int.fmod_nonneg_of_pos c (lm_pos y)
  have h2 := Int.fmod_lt_of_pos c (lm_pos y)
  rw [law_months_eq] at *
  omega
theorem mo_ok (c y : Int) : 1 ≤ 1 + Int.fmod c (lawMonths y) ∧ 1 + Int.fmod c (lawMonths y) ≤ 13 := by
  have h := mo_bd c y
  have := ymN_le y
  omega
theorem mo_le (c y : Int) : 1 + Int.fmod c (lawMonths y) ≤ 13 := (mo_ok c y).2
theorem mlen_ne0 (y m : Int) : mlen y m ≠ 0 := by
  have := mlen_bd0 y m
  omega
theorem mlen_ne (c y : Int) : mlen y (1 + Int.fmod c (lawMonths y)) ≠ 0 := mlen_ne0 _ _
theorem day_bd (e y m : Int) : 1 ≤ 1 + Int.fmod e (mlen y m) ∧ 1 + Int.fmod e (mlen y m) ≤ mlen y m := by
  have h := mlen_bd0 y m
  have h1 := Int.fmod_nonneg_of_pos e (show 0 < mlen y m by omega)
  have h2 := Int.fmod_lt_of_pos e (show 0 < mlen y m by omega)
  omega
theorem turns_bd (k : Int) : 0 ≤ 1 + Int.fmod k 1000 := by
  have h1 := Int.fmod_nonneg_of_pos k (show (0 : Int) < 1000 by decide)
  omega
theorem date_law (n c e : Int) : IsDate (toJd (lawYear n) (1 + Int.fmod c (lawMonths (lawYear n))) (1 + Int.fmod e (mlen (lawYear n) (1 + Int.fmod c (lawMonths (lawYear n)))))) (lawYear n) (1 + Int.fmod c (lawMonths (lawYear n))) (1 + Int.fmod e (mlen (lawYear n) (1 + Int.fmod c (lawMonths (lawYear n))))) :=
  ⟨rfl, yr_pos n, (mo_bd _ _).1, (mo_bd _ _).2, (day_bd _ _ _).1, (day_bd _ _ _).2⟩
theorem date_later (n c e k : Int) : IsDate (toJd (lawYear n + 689472 * (1 + Int.fmod k 1000)) (1 + Int.fmod c (lawMonths (lawYear n))) (1 + Int.fmod e (mlen (lawYear n) (1 + Int.fmod c (lawMonths (lawYear n)))))) (lawYear n + 689472 * (1 + Int.fmod k 1000)) (1 + Int.fmod c (lawMonths (lawYear n))) (1 + Int.fmod e (mlen (lawYear n) (1 + Int.fmod c (lawMonths (lawYear n))))) :=
  date_per (date_law n c e) (turns_bd k)
theorem ne_false {a b : Int} (h : a = b) : (a != b) = false := by
  subst h
  simp
theorem per1 (n c e k : Int) : (toJd (lawYear n + 689472 * (1 + Int.fmod k 1000)) (1 + Int.fmod c (lawMonths (lawYear n))) (1 + Int.fmod e (mlen (lawYear n) (1 + Int.fmod c (lawMonths (lawYear n))))) != toJd (lawYear n) (1 + Int.fmod c (lawMonths (lawYear n))) (1 + Int.fmod e (mlen (lawYear n) (1 + Int.fmod c (lawMonths (lawYear n))))) + 251827457 * (1 + Int.fmod k 1000)) = false :=
  ne_false (jd_per (yr_pos n) (turns_bd k) (mo_ok _ _).1 (mo_ok _ _).2 (day_bd _ _ _).1)
theorem per2 (n m k : Int) : (mlen (lawYear n + 689472 * (1 + Int.fmod k 1000)) m != mlen (lawYear n) m) = false := ne_false (mlen_per (yr_pos n) (turns_bd k) m)
theorem per3 (n k : Int) : (yd (lawYear n + 689472 * (1 + Int.fmod k 1000)) != yd (lawYear n)) = false := ne_false (yd_per (yr_pos n) (turns_bd k))
theorem per4 (n c k : Int) : Int.fmod (toJd (lawYear n + 689472 * (1 + Int.fmod k 1000)) (1 + Int.fmod c (lawMonths (lawYear n))) 1) 7 = Int.fmod (toJd (lawYear n) (1 + Int.fmod c (lawMonths (lawYear n))) 1) 7 := by
  rw [jd_per (yr_pos n) (turns_bd k) (mo_ok _ _).1 (mo_ok _ _).2 (by decide)]
  generalize toJd (lawYear n) (1 + Int.fmod c (lawMonths (lawYear n))) 1 = J
  generalize Int.fmod k 1000 = K
  rw [Int.fmod_eq_emod_of_nonneg J (by decide), Int.fmod_eq_emod_of_nonneg _ (by decide)]
  omega
theorem per5 (n m k : Int) : mlen (lawYear n + 689472 * (1 + Int.fmod k 1000)) m = mlen (lawYear n) m := mlen_per (yr_pos n) (turns_bd k) m
-- F7
abbrev FjRet (h₀ : Heap) (L : Addr) (m : Str → Option Value) (news : List (Addr × Obj)) (s : Shared) (Q : Value → Shared → Prop) (y mo d : Int) : Prop :=
  ∀ (D : Addr) (t1 t2 t3 : Tok) (c : Nat) (h' : Heap) (tk' : Nat), Fr h₀ L h' m → News h₀ L h' ((D, ({ cls := .type "tuple", data := .seq #[.int y t1, .int mo t2, .int d t3] c } : Obj)) :: news) → AllLt D news → Q (.ref D) { s with heap := h', toks := tk' }
theorem fj_end {h₀ : Heap} {L : Addr} {m : Str → Option Value} {news : List (Addr × Obj)} {s : Shared} {Q : Value → Shared → Prop} {y mo d y' mo' d' : Int} (hret : FjRet h₀ L m news s Q y mo d)
    {D : Addr} {t1 t2 t3 : Tok} {c : Nat} {h' : Heap} {tk' : Nat} (e1 : y' = y) (e2 : mo' = mo) (e3 : d' = d) (F : Fr h₀ L h' m)
    (N : News h₀ L h' ((D, ({ cls := .type "tuple", data := .seq #[.int y' t1, .int mo' t2, .int d' t3] c } : Obj)) :: news)) (hl : ∀ p ∈ news, p.1 < D) : Q (.ref D) { s with heap := h', toks := tk' } := by
  subst e1; subst e2; subst e3
  exact hret D t1 t2 t3 c h' tk' F N (allLt_of hl)
abbrev FjRec (prog : Program) (w : World) (K : Frag) (p : Program) (loose : List Str) (mean : ExcName → Option Value) (mg mb : Str → Option Value) (f : Addr) (news : List (Addr × Obj)) (pre : Prop) (sz : Nat) (vs : List Value) (y mo d : Int) : Prop :=
  ∀ (dp un : Nat) (gd : Option (List Code)) (cn : Str) (cs : Scope) (a : Addr) (ccd : Value) (cl : List (Str × Addr)) (outer : List Env) (A₀ : Around) (base h₀ : Heap) (L : Addr) (m : Str → Option Value) (s : Shared) (Q E : Value → Shared → Prop),
    Below A₀ base outer h₀ → Fr h₀ L s.heap m → K.In h₀ → News h₀ L s.heap news → Top p loose mean mg mb h₀ → cs.kind = .function →
    pre → dp + sz + 1 < recursionLimit → un + 8 * (sz + 1) < cLine → FjRet h₀ L m news s Q y mo d →
      wpAny (model prog w) (ktrTop dp un gd cn cs L a ccd cl outer) (call (.ref f) vs) Q E s

local macro_rules | `(tactic| walk_at "execs cons") => `(tactic| (k_here; (with_reducible refine gt (fun tk9 => ?_)); (with_reducible refine wpAny_execs_cons ?_); try dsimp only))
local macro_rules | `(tactic| walk_at "execs nil") => `(tactic| (k_here; (with_reducible refine gt (fun tk9 => ?_)); (with_reducible refine wpAny_execs_nil ?_); try dsimp only))
local macro_rules | `(tactic| walk_at "ite") => `(tactic| (k_here; first
  | (k_closed; k_dflt (first | refine ite_pos (by decide) ?_ | refine ite_neg (by decide) ?_))
  | with_reducible refine ite_tt ?_ | with_reducible refine ite_ff ?_
  | (with_reducible refine split_dec ?_ ?_ <;> intro _) | (with_reducible refine split_ieq ?_ ?_ <;> intro _) | (with_reducible refine split_ine ?_ ?_ <;> intro _)
  | with_reducible refine split_not ?_ | (with_reducible refine split_bool ?_ ?_ <;> intro _)))

local macro_rules | `(tactic| walk_at "call ref") => `(tactic| (k_here; k_dflt (
  refine' use_c ?c ?k1 ?k2 ?k3 ?k4 ?k5 ?kK ?kp ?kd ?ku ?_;
  (case k1 => k_asm); (case k2 => k_asm); (case k3 => k_asm); (case k4 => k_asm); (case k5 => k_asm);
  (case c => first
    | with_reducible exact leap_c _ _ _ _ _ _ _
    | with_reducible exact midnight_c _ _ _ _ _ _ _
    | with_reducible exact jwday_c _ _ _ _ _ _ _
    | with_reducible exact delay1_c _ _ _ _ _ _ _
    | with_reducible exact year_months_c _ _ _ _ _ _ _
    | with_reducible exact delay2_c _ _ _ _ _ _ _
    | with_reducible exact to_jd7_c _ _ _ _ _ _ _ _ _
    | with_reducible exact year_days_c _ _ _ _ _ _ _
    | with_reducible exact month_length_c _ _ _ _ _ _ _ _ _
    | with_reducible exact month_days_c _ _ _ _ _ _ _ _ _
    | with_reducible exact to_jd_c _ _ _ _ _ _ _ _ _ _ _);
  (case kK => first | exact rfl | assumption);
  (case kp => first | trivial | omega | assumption | (exact w2_a (by assumption)) | (exact w2_b (by assumption)) | (exact (w2_a (by assumption)).2) | (refine And.intro ?_ ?_ <;> omega));
  (case kd => ktr_room); (case ku => ktr_units);
  intro t9 h9 tk9 F9 N9; (try dsimp only); (try k_fold))))
local macro_rules | `(tactic| walk_at "eval Call") => `(tactic| (k_here; k_dflt (refine Call_ ?_)))

section
variable (w : World) (mean : ExcName → Option Value) (mg mb : Str → Option Value) (news : List (Addr × Obj))

theorem from_jd_c (jd y mo d : Int) (t : Tok) :
    FjRec PySem.Challenge.rw_ah0018_01.row.prog w (hd.heap_39 w.params) hd.view_39 (looseW hd.view_39 []) mean mg mb 96 news (IsDate jd y mo d) 26 [.int jd t] y mo d := by
  k_fill
  dsimp only [FjRec, FjRet]
  intro dp un gd cn cs a ccd cl outer A₀ base h₀ L mm s Q E B F X N T hk hp hd hu hret
  refine wpAny_call ?_
  k_dflt cell_enter
  k_with "state" => first | exact w1_start (by assumption) | exact w1_turn (by assumption) (by assumption) | exact w2_lt (by assumption) (by assumption) (by assumption) (by assumption) | exact w2_ge (by assumption) (by assumption) (by assumption) (by assumption) | exact w2_turn (by assumption) (by assumption) (by assumption)
  k_with "measure" => first | exact w1_less (by assumption) | exact w2_less (by assumption) (by assumption) (by assumption)
  k_with "exec While Compare cons nil" => k_while_given ["year"] (fun year script i month => W2 y mo year i month) (fun year script i month => (mo - i).toNat) "i" "month"
  k_with "exec While Compare cons nil" => k_while_given ["jd"] (fun jd script i year => W1 jd i year) (fun jd script i year => (jd + 1 - NY i).toNat) "i" "year"
  repeat' (first | (k_unfold; (try dsimp only)) | walk1 | (dsimp only; walk1) | (leave1; try dsimp only) | fail "no step")
  all_goals refine fj_end (Q := Q) hret (F := by k_asm) (N := by k_asm) (hl := by k_asm) ?_ ?_ ?_
  all_goals first | exact w2_y (by assumption) | exact w2_m (by assumption) (by assumption) (by assumption) | exact w2_d (by assumption) (by assumption) (by assumption)
end
-- E1
def rowOf (ds : List PyData) (a : Int) : List PyData := (ds.drop (clipAt ds.length a)).take (clipAt ds.length (a + 7) - clipAt ds.length a)

theorem carried_drop : ∀ {vs : List Value} {ds : List PyData}, CarriedAll vs ds → ∀ k, CarriedAll (vs.drop k) (ds.drop k)
  | _, _, .nil, k => by simpa using CarriedAll.nil
  | _, _, .cons h r, 0 => .cons h r
  | _, _, .cons _ r, k + 1 => by simpa using carried_drop r k
theorem carried_take : ∀ {vs : List Value} {ds : List PyData}, CarriedAll vs ds → ∀ k, CarriedAll (vs.take k) (ds.take k)
  | _, _, .nil, k => by simpa using CarriedAll.nil
  | _, _, .cons h r, 0 => .nil
  | _, _, .cons h r, k + 1 => .cons h (carried_take r k)
theorem carried_append : ∀ {vs ws : List Value} {ds es : List PyData}, CarriedAll vs ds → CarriedAll ws es → CarriedAll (vs ++ ws) (ds ++ es)
  | _, _, _, _, .nil, h => h
  | _, _, _, _, .cons h r, h' => .cons h (carried_append r h')
theorem carried_nones : ∀ k : Nat, CarriedAll (List.replicate k Value.none) (List.replicate k PyData.none)
  | 0 => .nil
  | k + 1 => .cons .none (carried_nones k)

theorem pick_row {vs : List Value} {ds : List PyData} (h : CarriedAll vs ds) (a : Int) :
    CarriedAll (slicePick vs.toArray (some a) (some (a + 7)) none).toList (rowOf ds a) := by
  rw [slicePick_plain]
  have e : vs.toArray.size = ds.length := by simp [h.length_eq]
  simp only [Option.elim, e]
  exact carried_take (carried_drop h _) _

theorem elt_c {prog : Program} {w : World} {A : Around} {E : Value → Shared → Prop} {s : Shared} {env : Env} {a : Int} {t : Tok} {D c : Addr} {vs : List Value} {ds : List PyData} {m₂ : Str → Option Value}
    {p1 p2 p3 p4 p5 p6 p7 : Pos} {k : Nat}
    (hkind : env.scope.kind = .function) (hd : env.kindOf "days" = some .cell) (hc : env.cells.lookup (Str.ofString "days") = some c) (hcell : s.heap.IsCell c (some (.ref D))) (hl : s.heap.IsList D vs.toArray)
    (hca : CarriedAll vs ds) (hi : env.kindOf "i" = some .local) (hns : s.heap.Ns env.locals m₂) (hm : m₂ "i" = some (.int a t)) (hlen : vs.length ≤ 1000) :
    wpAny (model prog w) A (eval (.Subscript (.Name "days" p1) (.Slice (some (.Name "i" p2)) (some (.BinOp (.Name "i" p3) .Add (.Constant (.int 7) k p4) p5)) none p6) p7) env)
      (fun y s₃ => (∃ T its, y = .ref T ∧ s.heap.get? T = none ∧ s₃.heap.IsList T its ∧ CarriedAll its.toList (rowOf ds a)) ∧ Keeps s s₃) E s := by
  refine Subscript_ (wpAny_Name (wpAny_loadName_cell hkind hd hc hcell ?_))
  refine wpAny_Slice ?_
  show wpAny _ _ (eval _ env) _ _ _
  refine wpAny_Name (wpAny_loadName_local hkind hi hns hm ?_)
  show wpAny _ _ (eval _ env) _ _ _
  refine wpAny_BinOp (wpAny_Name (wpAny_loadName_local hkind hi hns hm ?_))
  refine wpAny_Constant_int (add_int ?_)
  show wpAny _ _ (pure _) _ _ _
  refine wpAny_pure ?_
  refine slice_listK (s := { s with toks := s.toks + 1 + 1 }) (vl := .int a t) (vu := .int (a + 7) (s.toks + 1)) (lo := some a) (hi := some (a + 7)) hl (.int _ _) (.int _ _) ?_ (hsz := by simp; rw [sizeLine_eq]; omega)
  refine ⟨⟨_, _, rfl, fresh_above _ 1, isList_pushed2 _ _ _, pick_row hca a⟩, _, _, rfl, fun _ _ e => Heap.get?_push_of_some _ (Heap.get?_push_of_some _ e)⟩
-- E2
def FlatD (d : PyData) : Prop := d = .none ∨ ∃ i, d = .int i
theorem reads_flat {h : Heap} {v : Value} {d : PyData} {as : List Addr} (r : Reads h v d as) (f : FlatD d) : as = [] ∧ Carried v d := by
  rcases f with rfl | ⟨i, rfl⟩
  · cases r; exact ⟨rfl, .none⟩
  · cases r; exact ⟨rfl, .int _ _⟩
theorem readsAll_flat {h : Heap} : ∀ {ds : List PyData} {vs : List Value} {as : List Addr}, ReadsAll h vs ds as → (∀ d ∈ ds, FlatD d) → as = [] ∧ CarriedAll vs ds
  | [], _, _, r, _ => by cases r; exact ⟨rfl, .nil⟩
  | d :: ds, _, _, r, f => by
    cases r with
    | cons r1 r2 =>
      obtain ⟨e1, c1⟩ := reads_flat r1 (f _ List.mem_cons_self)
      obtain ⟨e2, c2⟩ := readsAll_flat r2 fun x hx => f x (List.mem_cons_of_mem _ hx)
      subst e1; subst e2
      exact ⟨rfl, .cons c1 c2⟩
def RowD (d : PyData) : Prop := ∃ xs, d = .list xs ∧ ∀ x ∈ xs, FlatD x
theorem rows_own {h : Heap} : ∀ {ds : List PyData} {ys : List Value} {Ts : List Addr}, ReadsAll h ys ds Ts → (∀ d ∈ ds, RowD d) →
    ∃ own : List (Addr × Obj), (∀ p ∈ own, h.get? p.1 = some p.2 ∧ p.1 ∈ Ts ∧ ∃ vs n, p.2.data = .seq vs n) ∧ ∀ h'' : Heap, (∀ p ∈ own, h''.get? p.1 = some p.2) → ReadsAll h'' ys ds Ts
  | [], _, _, r, _ => by cases r; exact ⟨[], fun _ hp => (nomatch hp), fun _ _ => .nil⟩
  | d :: ds, _, _, r, f => by
    cases r with
    | @cons v vs _ _ as bs r1 r2 =>
      obtain ⟨own, o1, o2⟩ := rows_own r2 fun x hx => f x (List.mem_cons_of_mem _ hx)
      obtain ⟨xs, rfl, fx⟩ := f _ List.mem_cons_self
      cases r1 with
      | @list T o us n _ cs ho hc hd hr =>
        obtain ⟨e, ca⟩ := readsAll_flat hr fx
        subst e
        refine ⟨(T, o) :: own, ?_, ?_⟩
        · intro p hp
          rcases List.mem_cons.mp hp with rfl | hp
          · exact ⟨ho, List.mem_append_left _ List.mem_cons_self, us, n, hd⟩
          · obtain ⟨a, b, c⟩ := o1 p hp
            exact ⟨a, List.mem_append_right _ b, c⟩
        · intro h'' hk
          exact .cons (.list (hk _ List.mem_cons_self) hc hd (ca.reads h'')) (o2 h'' fun p hp => hk p (List.mem_cons_of_mem _ hp))

def calOf (ds : List PyData) (b : Int) : PyData := .list ((rangeInts 0 7 (Builtin.Range.rangeSize 0 b 7).toNat).map fun a => .list (rowOf ds a))

def CalSrc (ds : List PyData) (h₀ : Heap) (L : Addr) (m : Str → Option Value) (c : Addr) (Q : Value → Shared → Prop) (xv : Value) (s₁ : Shared) : Prop :=
  ∃ (news : List (Addr × Obj)) (r : Addr) (b₀ : Int) (t₀ u₀ v₀ : Tok) (D : Addr) (vs : List Value), xv = .ref r ∧ IsRange s₁.heap r 0 b₀ 7 t₀ u₀ v₀ ∧ 0 ≤ b₀ ∧ b₀ ≤ 1000 ∧ Fr h₀ L s₁.heap m ∧ News h₀ L s₁.heap news ∧
    s₁.heap.IsCell c (some (.ref D)) ∧ s₁.heap.IsList D vs.toArray ∧ CarriedAll vs ds ∧ vs.length ≤ 1000 ∧
    (∀ (R : Addr) (own : List (Addr × Obj)) (as : List Addr) (h' : Heap) (tk : Nat), Fr h₀ L h' m → News h₀ L h' (own ++ news) → (∀ h'' : Heap, (∀ p ∈ own, h''.get? p.1 = some p.2) → Reads h'' (.ref R) (calOf ds b₀) as) → Q (.ref R) { s₁ with heap := h', toks := tk })

theorem comp_cal {prog : Program} {w : World} {A : Around} {E : Value → Shared → Prop} {s : Shared} {env : Env} {h₀ : Heap} {L c : Addr} {m : Str → Option Value} {Q : Value → Shared → Prop}
    {p1 p2 p3 p4 p5 p6 p7 px pos : Pos} {k : Nat} (ds : List PyData) (hfl : ∀ d ∈ ds, FlatD d) {iter : Expr} {scope : Scope} {cl : List (Str × Addr)}
    (_F₀ : Fr h₀ L s.heap m) (hh : A.handled = none) (hclos : closureFor scope env = pure cl) (hcell : ∀ y ∈ scope.names, y.2 ≠ .cell) (hkind : scope.kind = .function)
    (hnames : ∀ y ∈ scope.names, y.2 = .local → scope.names.lookup y.1 = some .local) (hx : scope.names.lookup (Str.ofString "i") = some .local)
    (hs : ∀ x, foldedSetIterable iter env x = pure x)
    (hdk : ∀ C, (compEnvC scope cl C env).kindOf (Str.ofString "days") = some .cell) (hdc : cl.lookup (Str.ofString "days") = some c) (hik : ∀ C, (compEnvC scope cl C env).kindOf (Str.ofString "i") = some .local)
    (h : wpAny (model prog w) A (eval iter env) (CalSrc ds h₀ L m c Q) E s) :
    wpAny (model prog w) A (eval (.ListComp (.Subscript (.Name (Str.ofString "days") p1) (.Slice (some (.Name (Str.ofString "i") p2)) (some (.BinOp (.Name (Str.ofString "i") p3) .Add (.Constant (.int 7) k p4) p5)) none p6) p7) [⟨.Name (Str.ofString "i") px, iter, [], 0⟩] scope pos) env) Q E s := by
  have hkk : ∀ C, (compEnvC scope cl C env).scope.kind = .function := fun _ => hkind
  refine ListComp_DCrO (h₀ := h₀) (L := L) (m := m) (pz := fun _ => true) (d := rowOf ds) hh hclos hcell hkind hnames hx (wpAny_mono h (fun xv s₁ h₁ => ?_) fun _ _ e => e) hs
  obtain ⟨news, r, b₀, t₀, u₀, v₀, D, vs, rfl, hr, hb0, hb1, F, N, hc, hl, hca, hlen, fin⟩ := h₁
  have hn := rangeSize_toNat 0 b₀ 7
  refine ⟨news, r, 0, b₀, 7, t₀, u₀, v₀, _, rfl, hr, hn, ?_, F, N, ?_, ?_, ?_⟩
  · refine Nat.le_trans (rangeSize_toNat_le _ _ _) ?_
    rw [sizeLine_eq]
    omega
  · intro C a v s₂ m₂ E' _ _ _ _ _ _
    exact wpAny_pure ⟨rfl, s₂.heap, s₂.toks, rfl, fun _ _ e => e⟩
  · intro C a v s₂ m₂ E' _ _ hv _ hns hm hk
    obtain ⟨t, rfl⟩ := ItemKind.int_is hv
    exact elt_c (hkk C) (hdk C) hdc (hc.keeps hk) ⟨hl.choose, hk _ _ hl.choose_spec.1, hl.choose_spec.2⟩ hca (hik C) hns hm hlen
  · intro R ys Ts h' tk F' N' hlR hra hnd hfr
    have hra' : ReadsAll h' ys ((rangeInts 0 7 (Builtin.Range.rangeSize 0 b₀ 7).toNat).map fun a => .list (rowOf ds a)) Ts := by
      rw [List.filter_eq_self.mpr (fun _ _ => rfl)] at hra; exact hra
    have hrow : ∀ d ∈ ((rangeInts 0 7 (Builtin.Range.rangeSize 0 b₀ 7).toNat).map fun a => PyData.list (rowOf ds a)), RowD d := by
      intro d hd
      obtain ⟨a, _, rfl⟩ := List.mem_map.mp hd
      exact ⟨_, rfl, fun x hx => hfl x (List.mem_of_mem_drop (List.mem_of_mem_take hx))⟩
    obtain ⟨own, o1, o2⟩ := rows_own hra' hrow
    obtain ⟨oR, hoR, hcR, nR, hdR⟩ := hlR
    have hseq : ∀ a o, h'.get? a = some o → (∃ vs n, o.data = .seq vs n) → a ≠ L := by
      intro a o ho ⟨us, n, hd⟩ e
      subst e
      obtain ⟨oL, es, ep, hL, hdL, _⟩ := F'.ns
      rw [ho] at hL
      cases hL
      rw [hd] at hdL
      cases hdL
    refine fin R ((R, oR) :: own) (R :: Ts) h' tk F' ?_ ?_
    · intro p hp
      rcases List.mem_append.mp hp with hp | hp
      · rcases List.mem_cons.mp hp with rfl | hp
        · exact ⟨hoR, hseq _ _ hoR ⟨_, _, hdR⟩, hfr _ List.mem_cons_self⟩
        · obtain ⟨a, b, c⟩ := o1 p hp
          exact ⟨a, hseq _ _ a c, hfr _ (List.mem_cons_of_mem _ b)⟩
      · exact N' p hp
    · intro h'' hk
      exact .list (hk _ List.mem_cons_self) hcR hdR (by simpa using o2 h'' fun p hp => hk p (List.mem_cons_of_mem _ hp))
-- F8
theorem nones_flat (k : Nat) : (List.replicate k [Value.none]).flatten = List.replicate k Value.none := by
  induction k with
  | zero => rfl
  | succ k ih => rw [List.replicate_succ, List.flatten_cons, ih]; rfl
section
variable {w : World} {prog : Program} {A : Around} {E : Value → Shared → Prop} {s : Shared} {h₀ : Heap} {L : Addr} {m : Str → Option Value} {news : List (Addr × Obj)} {l b : Addr} {vs ws : List Value} {x : Int} {u : Tok} {Q : Value → Shared → Prop}
theorem mulN (F : Fr h₀ L s.heap m) (N : News h₀ L s.heap news) (hl : s.heap.IsList l [Value.none].toArray) (h0 : 0 ≤ x) (h1 : x ≤ 100)
    (h : ∀ D h', Fr h₀ L h' m → News h₀ L h' ((D, listOf (List.replicate x.toNat Value.none).toArray 0) :: news) → (∀ p ∈ news, p.1 < D) → Q (.ref D) { s with heap := h' }) :
    wpAny (model prog w) A (binaryOp .Mult (.ref l) (.int x u)) Q E s :=
  KMa.mul F N hl (by omega) (by omega) (by simp only [List.length_cons, List.length_nil]; omega) (nones_flat _) h
theorem mulN_r (F : Fr h₀ L s.heap m) (N : News h₀ L s.heap news) (hl : (l, listOf [Value.none].toArray 0) ∈ news)
    (h : ∀ D h', Fr h₀ L h' m → News h₀ L h' ((D, listOf (List.replicate 7 Value.none).toArray 0) :: news) → (∀ p ∈ news, p.1 < D) → Q (.ref D) { s with heap := h' }) :
    wpAny (model prog w) A (binaryOp .Mult (.int 7 u) (.ref l)) Q E s :=
  mul_list_r F N (N _ hl).1 (by decide) (by decide) (by decide) (fun h' F' N' => h _ h' F' N' (fun p hp => Heap.lt_size (N p hp).1))
theorem addN (F : Fr h₀ L s.heap m) (N : News h₀ L s.heap news) (hl : s.heap.IsList l vs.toArray) (hb : s.heap.IsList b ws.toArray)
    (hsz : vs.length + ws.length ≤ 1000)
    (h : ∀ D h', Fr h₀ L h' m → News h₀ L h' ((D, listOf (vs ++ ws).toArray 0) :: news) → (∀ p ∈ news, p.1 < D) → Q (.ref D) { s with heap := h' }) :
    wpAny (model prog w) A (binaryOp .Add (.ref l) (.ref b)) Q E s :=
  add_lists F N hl hb (fun h' F' N' => h _ h' F' N' (fun p hp => Heap.lt_size (N p hp).1)) (by rw [sizeLine_eq]; omega)
end
theorem ne_next {L : Addr} {news : List (Addr × Obj)} (h : ∀ p ∈ news, p.1 < L) : ∀ p ∈ news, p.1 ≠ L + 1 := fun p hp => Nat.ne_of_lt (Nat.lt_succ_of_lt (h p hp))
local macro_rules | `(tactic| k_all) => `(tactic| exact ne_next (by assumption))
local macro_rules | `(tactic| walk_at "binaryOp Mult ref int") => `(tactic| (k_here; k_dflt (refine' mulN ?F ?N ?l ?lo ?hi ?_; (case F => k_asm); (case N => k_asm); (case l => is_list); (case lo => first | assumption | omega); (case hi => omega)); intro D' h' F' N' l1; (try k_lt l1); (try k_sweep)))
local macro_rules | `(tactic| walk_at "binaryOp Mult int ref") => `(tactic| (k_here; k_dflt (refine' mulN_r ?F ?N ?l ?_; (case F => k_asm); (case N => k_asm); (case l => k_mem)); intro D' h' F' N' l1; (try k_lt l1); (try k_sweep)))
local macro_rules | `(tactic| walk_at "binaryOp Add ref ref") => `(tactic| (k_here; k_dflt (refine' addN ?F ?N ?l ?b ?z ?_; (case F => k_asm); (case N => k_asm); (case l => is_list); (case b => is_list); (case z => ((try rw [IntsAre.length (by assumption)]); (try simp only [List.length_append, List.length_replicate, rangeKs_length, IntsAre.length (show IntsAre _ _ by assumption)]); omega))); intro D' h' F' N' l1; (try k_lt l1); (try k_sweep)))
local macro_rules | `(tactic| walk_at "execs cons") => `(tactic| (k_here; (with_reducible refine gt (fun tk9 => ?_)); (with_reducible refine wpAny_execs_cons ?_); try dsimp only))
local macro_rules | `(tactic| walk_at "execs nil") => `(tactic| (k_here; (with_reducible refine gt (fun tk9 => ?_)); (with_reducible refine wpAny_execs_nil ?_); try dsimp only))
local macro_rules | `(tactic| walk_at "ite") => `(tactic| (k_here; first
  | (k_closed; k_dflt (first | refine ite_pos (by decide) ?_ | refine ite_neg (by decide) ?_))
  | with_reducible refine ite_tt ?_ | with_reducible refine ite_ff ?_
  | (with_reducible refine split_dec ?_ ?_ <;> intro _) | (with_reducible refine split_ieq ?_ ?_ <;> intro _) | (with_reducible refine split_ine ?_ ?_ <;> intro _)
  | with_reducible refine split_not ?_ | (with_reducible refine split_bool ?_ ?_ <;> intro _)))

local macro_rules | `(tactic| walk_at "call ref") => `(tactic| (k_here; k_dflt (
  refine' use_c ?c ?k1 ?k2 ?k3 ?k4 ?k5 ?kK ?kp ?kd ?ku ?_;
  (case k1 => k_asm); (case k2 => k_asm); (case k3 => k_asm); (case k4 => k_asm); (case k5 => k_asm);
  (case c => first
    | exact leap_c _ _ _ _ _ _ _);
  (case kK => first | exact rfl | assumption);
  (case kp => first | trivial | omega | assumption);
  (case kd => ktr_room); (case ku => ktr_units);
  intro t9 h9 tk9 F9 N9; (try dsimp only); (try k_fold))))
local macro_rules | `(tactic| walk_at "eval Call") => `(tactic| (k_here; k_dflt (refine Call_ ?_)))



def dayD (lp len : Int) : List PyData := List.replicate lp.toNat PyData.none ++ (rangeKs 1 (1 + len - 1).toNat).map PyData.int ++ List.replicate 7 PyData.none
def calD (sw len : Int) : PyData := calOf (dayD (Int.fmod (sw + 1) 7) len) (Int.fmod (sw + 1) 7 + len)
theorem dayD_flat (lp len : Int) : ∀ d ∈ dayD lp len, FlatD d := by
  intro d hd
  rcases List.mem_append.mp hd with hd | hd
  · rcases List.mem_append.mp hd with hd | hd
    · exact .inl (List.eq_of_mem_replicate hd)
    · obtain ⟨i, _, rfl⟩ := List.mem_map.mp hd
      exact .inr ⟨i, rfl⟩
  · exact .inl (List.eq_of_mem_replicate hd)
theorem day_carried {lp len : Int} {vs : List Value} (h : IntsAre vs (rangeKs 1 (1 + len - 1).toNat)) :
    CarriedAll (List.replicate lp.toNat Value.none ++ vs ++ List.replicate 7 Value.none) (dayD lp len) :=
  carried_append (carried_append (carried_nones _) h.carried) (carried_nones 7)
theorem day_len {lp len : Int} {vs : List Value} (h : IntsAre vs (rangeKs 1 (1 + len - 1).toNat)) (h0 : lp < 7) (h1 : len ≤ 30) :
    (List.replicate lp.toNat Value.none ++ vs ++ List.replicate 7 Value.none).length ≤ 1000 := by
  have := h.length
  rw [rangeKs_length] at this
  simp only [List.length_append, List.length_replicate, this]
  omega

theorem app_mono {own a b : List (Addr × Obj)} (h : ∀ p ∈ a, p ∈ b) : ∀ p ∈ own ++ a, p ∈ own ++ b := fun p hp => by
  rcases List.mem_append.mp hp with hp | hp
  · exact List.mem_append_left _ hp
  · exact List.mem_append_right _ (h p hp)
abbrev McRet (h₀ : Heap) (L : Addr) (m : Str → Option Value) (news : List (Addr × Obj)) (s : Shared) (Q : Value → Shared → Prop) (d : PyData) : Prop :=
  ∀ (R : Addr) (own : List (Addr × Obj)) (as : List Addr) (h' : Heap) (tk' : Nat), Fr h₀ L h' m → News h₀ L h' (own ++ news) → (∀ h'' : Heap, (∀ p ∈ own, h''.get? p.1 = some p.2) → Reads h'' (.ref R) d as) → Q (.ref R) { s with heap := h', toks := tk' }
abbrev McRec (prog : Program) (w : World) (K : Frag) (p : Program) (loose : List Str) (mean : ExcName → Option Value) (mg mb : Str → Option Value) (f : Addr) (news : List (Addr × Obj)) (pre : Prop) (sz : Nat) (vs : List Value) (d : PyData) : Prop :=
  ∀ (dp un : Nat) (gd : Option (List Code)) (cn : Str) (cs : Scope) (a : Addr) (ccd : Value) (cl : List (Str × Addr)) (outer : List Env) (A₀ : Around) (base h₀ : Heap) (L : Addr) (m : Str → Option Value) (s : Shared) (Q E : Value → Shared → Prop),
    Below A₀ base outer h₀ → Fr h₀ L s.heap m → K.In h₀ → News h₀ L s.heap news → Top p loose mean mg mb h₀ → cs.kind = .function →
    pre → dp + sz + 1 < recursionLimit → un + 8 * (sz + 1) < cLine → McRet h₀ L m news s Q d →
      wpAny (model prog w) (ktrTop dp un gd cn cs L a ccd cl outer) (call (.ref f) vs) Q E s

section
variable (w : World) (mean : ExcName → Option Value) (mg mb : Str → Option Value) (news : List (Addr × Obj))

theorem mch_c (sw len : Int) (t t' : Tok) :
    McRec PySem.Challenge.rw_ah0018_01.row.prog w (hd.heap_39 w.params) hd.view_39 (looseW hd.view_39 []) mean mg mb 33 news (29 ≤ len ∧ len ≤ 30) 26 [.int sw t, .int len t'] (calD sw len) := by
  k_fill
  dsimp only [McRec, McRet]
  intro dp un gd cn cs a ccd cl outer A₀ base h₀ L mm s Q E B F X N T hk hp hd hu hret
  have hl0 : 0 ≤ Int.fmod (sw + 1) 7 := Int.fmod_nonneg_of_pos _ (by decide)
  have hl6 : Int.fmod (sw + 1) 7 < 7 := Int.fmod_lt_of_pos _ (by decide)
  obtain ⟨hp1, hp2⟩ := hp
  refine wpAny_call ?_
  k_dflt (refine' code_defC ?k1 ?k2 ?k3 ?k4 ?k5 ?kA ?kF ?kK ?k6 ?k7 ?k8 ?k9 ?kB ?kD ?_ ?c2 ?c3 ?c4; (case kA => exact rfl); (case kF => exact rfl); (case kK => assumption); (case k1 => k_asm); (case k2 => k_asm); (case k3 => k_asm); (case k4 => k_asm); (case k5 => k_asm); (case k6 => k_is); (case k7 => k_is); (case k8 => ktr_room); (case k9 => exact BindsTo.of_eq rfl); (case kB => exact rfl); (case kD => decide +kernel); (case c2 => exact rfl); (case c3 => exact rfl); (case c4 => exact rfl); k_whole; intro g' L' h' tk' cells' FG' F' N' Y' B' X' T' l1; (try k_lt l1); k_cells Y'; (try simp only [List.cons_append, List.nil_append] at N'); (try dsimp only); (try k_lift B'); (try k_fold))
  repeat' ((fail_if_success (with_reducible show wpAny _ _ (eval (Expr.ListComp _ _ _ _) _) _ _ _)); first | (k_unfold; (try dsimp only)) | walk1 | (dsimp only; walk1) | (leave1; try dsimp only) | fail "no step")
  k_dflt (refine comp_cal (dayD (Int.fmod (sw + 1) 7) len) (dayD_flat _ _) (by k_asm) (c := L' + 1) rfl (by with_unfolding_all rfl) (by decide) (by rfl) (by decide) (by rfl) (by intro _; with_unfolding_all rfl) (by intro _; rfl) (by rfl) (by intro _; rfl) (h₀ := g') (L := L') ?_)
  repeat' (first | (k_unfold; (try dsimp only)) | walk1 | (dsimp only; walk1) | (leave1; try dsimp only) | fail "no step")
  refine ⟨_, _, _, _, _, _, _, _, rfl, (by assumption), (by omega), (by omega), (by k_asm), (by k_asm), ⟨_, News.get (by k_asm) (by k_mem), by k_asm⟩, (by is_list), day_carried (by assumption), day_len (by assumption) hl6 hp2, ?_⟩
  intro R own as h9 tk9 F9 N9 hR
  exact leaveK_ F9 N9 (fun kF kN => hret R own as _ _ kF (cb_drop kN (app_mono (by kcj_all))) hR)
end
-- F9
theorem mlen_bd (y m : Int) : 29 ≤ mlen y m ∧ mlen y m ≤ 30 := by
  unfold mlen
  repeat' split
  all_goals decide
theorem use_mc {prog : Program} {w : World} {K : Frag} {p : Program} {loose : List Str} {mean : ExcName → Option Value} {mg mb : Str → Option Value} {f : Addr} {news : List (Addr × Obj)} {pre : Prop} {sz : Nat} {vs : List Value} {d : PyData}
    {dp un : Nat} {gd : Option (List Code)} {cn : Str} {cs : Scope} {a : Addr} {ccd : Value} {cl : List (Str × Addr)} {outer : List Env} {A₀ : Around} {base h₀ : Heap} {L : Addr} {m : Str → Option Value} {s : Shared} {Q E : Value → Shared → Prop}
    (C : McRec prog w K p loose mean mg mb f news pre sz vs d)
    (B : Below A₀ base outer h₀) (F : Fr h₀ L s.heap m) (X : K.In h₀) (N : News h₀ L s.heap news) (T : Top p loose mean mg mb h₀) (hk : cs.kind = .function)
    (hp : pre) (hd : dp + sz + 1 < recursionLimit) (hu : un + 8 * (sz + 1) < cLine) (ret : McRet h₀ L m news s Q d) :
    wpAny (model prog w) (ktrTop dp un gd cn cs L a ccd cl outer) (call (.ref f) vs) Q E s :=
  C dp un gd cn cs a ccd cl outer A₀ base h₀ L m s Q E B F X N T hk hp hd hu ret
local macro_rules | `(tactic| walk_at "execs cons") => `(tactic| (k_here; (with_reducible refine gt (fun tk9 => ?_)); (with_reducible refine wpAny_execs_cons ?_); try dsimp only))
local macro_rules | `(tactic| walk_at "execs nil") => `(tactic| (k_here; (with_reducible refine gt (fun tk9 => ?_)); (with_reducible refine wpAny_execs_nil ?_); try dsimp only))
local macro_rules | `(tactic| walk_at "ite") => `(tactic| (k_here; first
  | (k_closed; k_dflt (first | refine ite_pos (by decide) ?_ | refine ite_neg (by decide) ?_))
  | with_reducible refine ite_tt ?_ | with_reducible refine ite_ff ?_
  | (with_reducible refine split_dec ?_ ?_ <;> intro _) | (with_reducible refine split_ieq ?_ ?_ <;> intro _) | (with_reducible refine split_ine ?_ ?_ <;> intro _)
  | with_reducible refine split_not ?_ | (with_reducible refine split_bool ?_ ?_ <;> intro _)))

local macro_rules | `(tactic| walk_at "call ref") => `(tactic| (k_here; k_dflt (
  refine' use_c ?c ?k1 ?k2 ?k3 ?k4 ?k5 ?kK ?kp ?kd ?ku ?_;
  (case k1 => k_asm); (case k2 => k_asm); (case k3 => k_asm); (case k4 => k_asm); (case k5 => k_asm);
  (case c => first
    | exact leap_c _ _ _ _ _ _ _
    | exact midnight_c _ _ _ _ _ _ _
    | exact jwday_c _ _ _ _ _ _ _
    | exact delay1_c _ _ _ _ _ _ _
    | exact year_months_c _ _ _ _ _ _ _
    | exact delay2_c _ _ _ _ _ _ _
    | exact to_jd7_c _ _ _ _ _ _ _ _ _
    | exact year_days_c _ _ _ _ _ _ _
    | exact month_length_c _ _ _ _ _ _ _ _ _
    | exact month_days_c _ _ _ _ _ _ _ _ _
    | exact to_jd_c _ _ _ _ _ _ _ _ _ _ _);
  (case kK => first | exact rfl | assumption);
  (case kp => first | trivial | omega | assumption | (refine And.intro ?_ ?_ <;> omega));
  (case kd => ktr_room); (case ku => ktr_units);
  intro t9 h9 tk9 F9 N9; (try dsimp only); (try k_fold))))
local macro_rules | `(tactic| walk_at "eval Call") => `(tactic| (k_here; k_dflt (refine Call_ ?_)))

local macro_rules | `(tactic| walk_at "call ref") => `(tactic| (k_here; k_dflt (
  refine' use_mc ?c ?k1 ?k2 ?k3 ?k4 ?k5 ?kK ?kp ?kd ?ku ?_;
  (case k1 => k_asm); (case k2 => k_asm); (case k3 => k_asm); (case k4 => k_asm); (case k5 => k_asm);
  (case c => exact mch_c _ _ _ _ _ _ _ _ _);
  (case kK => first | exact rfl | assumption);
  (case kp => first | exact mlen_bd _ _ | assumption);
  (case kd => ktr_room); (case ku => ktr_units);
  intro R9 own9 as9 h9 tk9 F9 N9 hR9; (try dsimp only); (try k_fold))))

section
variable (w : World) (mean : ExcName → Option Value) (mg mb : Str → Option Value) (news : List (Addr × Obj))

theorem mcal_c (y m : Int) (t t' : Tok) :
    McRec PySem.Challenge.rw_ah0018_01.row.prog w (hd.heap_39 w.params) hd.view_39 (looseW hd.view_39 []) mean mg mb 103 news (1 ≤ m ∧ m ≤ 13) 30 [.int y t, .int m t'] (calD (Int.fmod (toJd y m 1) 7) (mlen y m)) := by
  k_fill
  dsimp only [McRec, McRet]
  intro dp un gd cn cs a ccd cl outer A₀ base h₀ L mm s Q E B F X N T hk hp hd hu hret
  obtain ⟨hp1, hp2⟩ := hp
  refine wpAny_call ?_
  k_dflt cell_enter
  repeat' (first | (k_unfold; (try dsimp only)) | walk1 | (dsimp only; walk1) | (leave1; try dsimp only) | fail "no step")
  · exact hret _ _ _ _ _ (by k_asm) (by k_asm) (by assumption)
end
-- E3
theorem cal_good0 : (((List.range 7).all fun lp => ([29, 30] : List Nat).all fun len => SeqAt.shaped (calOf (dayD lp len) (lp + len)) && SeqAt.noMix (calOf (dayD lp len) (lp + len)) (calOf (dayD lp len) (lp + len)))) = true := by decide +kernel
theorem cal_good {sw len : Int} (h0 : 29 ≤ len) (h1 : len ≤ 30) : SeqAt.shaped (calD sw len) = true ∧ SeqAt.noMix (calD sw len) (calD sw len) = true := by
  have hl0 : 0 ≤ Int.fmod (sw + 1) 7 := Int.fmod_nonneg_of_pos _ (by decide)
  have hl6 : Int.fmod (sw + 1) 7 < 7 := Int.fmod_lt_of_pos _ (by decide)
  unfold calD
  generalize Int.fmod (sw + 1) 7 = lp at *
  have h := cal_good0
  rw [List.all_eq_true] at h
  have h2 := h lp.toNat (List.mem_range.mpr (by omega))
  rw [List.all_eq_true] at h2
  have h3 := h2 len.toNat (by have : len.toNat = 29 ∨ len.toNat = 30 := by omega
                              rcases this with e | e <;> rw [e] <;> decide)
  rw [Int.toNat_of_nonneg hl0, Int.toNat_of_nonneg (by omega)] at h3
  exact Bool.and_eq_true_iff.mp h3

theorem eq_cal {prog : Program} {w : World} {A : Around} {E : Value → Shared → Prop} {s : Shared} {Q : Value → Shared → Prop} {h₀ : Heap} {L R1 R2 : Addr} {own1 own2 rest : List (Addr × Obj)} {sw1 len1 sw2 len2 : Int} {as1 as2 : List Addr}
    (N : News h₀ L s.heap (own2 ++ (own1 ++ rest)))
    (r1 : ∀ h'' : Heap, (∀ p ∈ own1, h''.get? p.1 = some p.2) → Reads h'' (.ref R1) (calD sw1 len1) as1)
    (r2 : ∀ h'' : Heap, (∀ p ∈ own2, h''.get? p.1 = some p.2) → Reads h'' (.ref R2) (calD sw2 len2) as2)
    (e1 : sw1 = sw2) (e2 : len1 = len2) (hb : 29 ≤ len2 ∧ len2 ≤ 30) (hu : A.units + 64 < cLine) (h : Q (.bool true) s) :
    wpAny (model prog w) A (compareOp .Eq (.ref R1) (.ref R2)) Q E s := by
  subst e1; subst e2
  obtain ⟨g1, g2⟩ := cal_good (sw := sw1) hb.1 hb.2
  refine eq_dataH_same (r1 s.heap fun p hp => (N p (List.mem_append_right _ (List.mem_append_left _ hp))).1) (r2 s.heap fun p hp => (N p (List.mem_append_left _ hp)).1) g1 g1 hu g2 ?_
  rw [PyProof.Rows.same_refl]
  exact h
-- F10
local macro_rules | `(tactic| walk_at "execs cons") => `(tactic| (k_here; (with_reducible refine gt (fun tk9 => ?_)); (with_reducible refine wpAny_execs_cons ?_); try dsimp only))
local macro_rules | `(tactic| walk_at "execs nil") => `(tactic| (k_here; (with_reducible refine gt (fun tk9 => ?_)); (with_reducible refine wpAny_execs_nil ?_); try dsimp only))
local macro_rules | `(tactic| walk_at "ite") => `(tactic| (k_here; first
  | (k_closed; k_dflt (first | refine ite_pos (by decide) ?_ | refine ite_neg (by decide) ?_))
  | with_reducible refine ite_tt ?_ | with_reducible refine ite_ff ?_
  | (with_reducible refine split_dec ?_ ?_ <;> intro _) | (with_reducible refine split_ieq ?_ ?_ <;> intro _) | (with_reducible refine split_ine ?_ ?_ <;> intro _)
  | with_reducible refine split_not ?_ | (with_reducible refine split_bool ?_ ?_ <;> intro _)))

local macro_rules | `(tactic| walk_at "call ref") => `(tactic| (k_here; k_dflt (
  refine' use_c ?c ?k1 ?k2 ?k3 ?k4 ?k5 ?kK ?kp ?kd ?ku ?_;
  (case k1 => k_asm); (case k2 => k_asm); (case k3 => k_asm); (case k4 => k_asm); (case k5 => k_asm);
  (case c => first
    | with_reducible exact leap_c _ _ _ _ _ _ _
    | with_reducible exact midnight_c _ _ _ _ _ _ _
    | with_reducible exact jwday_c _ _ _ _ _ _ _
    | with_reducible exact delay1_c _ _ _ _ _ _ _
    | with_reducible exact year_months_c _ _ _ _ _ _ _
    | with_reducible exact delay2_c _ _ _ _ _ _ _
    | with_reducible exact to_jd7_c _ _ _ _ _ _ _ _ _
    | with_reducible exact year_days_c _ _ _ _ _ _ _
    | with_reducible exact month_length_c _ _ _ _ _ _ _ _ _
    | with_reducible exact month_days_c _ _ _ _ _ _ _ _ _
    | with_reducible exact to_jd_c _ _ _ _ _ _ _ _ _ _ _);
  (case kK => first | exact rfl | assumption);
  (case kp => first | trivial | omega | assumption | (refine And.intro ?_ ?_ <;> omega));
  (case kd => ktr_room); (case ku => ktr_units);
  intro t9 h9 tk9 F9 N9; (try dsimp only); (try k_fold))))
local macro_rules | `(tactic| walk_at "eval Call") => `(tactic| (k_here; k_dflt (refine Call_ ?_)))


section
variable (w : World) (mean : ExcName → Option Value) (mg mb : Str → Option Value) (news : List (Addr × Obj))
theorem law_months_c (y : Int) (t : Tok) :
    CbRec PySem.Challenge.rw_ah0018_01.row.prog w (hd.heap_39 w.params) hd.view_39 (looseW hd.view_39 []) mean mg mb 124 news [] (True) 4 [.int y t] (fun t => .int (lawMonths y) t) := by
  k_fill
  dsimp only [CbRec, CbLists, CbRet]
  intro dp un gd cn cs a ccd cl outer A₀ base h₀ L m s Q E B F X N T hk hp hd hu hret
  refine wpAny_call ?_
  k_dflt cell_enter
  repeat' (first | (k_unfold; (try dsimp only)) | walk1 | (dsimp only; walk1) | (leave1; try dsimp only) | fail "no step")
  · refine cb_retI (Q := Q) hret ?_ (by k_asm) (by k_asm); unfold lawMonths; rw [if_pos (by assumption)]
  · refine cb_retI (Q := Q) hret ?_ (by k_asm) (by k_asm); unfold lawMonths; rw [if_neg (by assumption)]
theorem law_year_c (y : Int) (t : Tok) :
    CbRec PySem.Challenge.rw_ah0018_01.row.prog w (hd.heap_39 w.params) hd.view_39 (looseW hd.view_39 []) mean mg mb 117 news [] (True) 4 [.int y t] (fun t => .int (lawYear y) t) := by
  k_fill
  dsimp only [CbRec, CbLists, CbRet]
  intro dp un gd cn cs a ccd cl outer A₀ base h₀ L m s Q E B F X N T hk hp hd hu hret
  refine wpAny_call ?_
  k_dflt cell_enter
  repeat' (first | (k_unfold; (try dsimp only)) | walk1 | (dsimp only; walk1) | (leave1; try dsimp only) | fail "no step")
  · refine cb_retI (Q := Q) hret ?_ (by k_asm) (by k_asm); unfold lawYear; rw [if_pos (by assumption), if_pos (by assumption)]
  · refine cb_retI (Q := Q) hret ?_ (by k_asm) (by k_asm); unfold lawYear; rw [if_pos (by assumption), if_neg (by assumption)]
  · refine cb_retI (Q := Q) hret ?_ (by k_asm) (by k_asm); unfold lawYear; rw [if_neg (by assumption)]
end
-- F11
theorem use_fj {prog : Program} {w : World} {K : Frag} {p : Program} {loose : List Str} {mean : ExcName → Option Value} {mg mb : Str → Option Value} {f : Addr} {news : List (Addr × Obj)} {pre : Prop} {sz : Nat} {vs : List Value} {y mo d : Int}
    {dp un : Nat} {gd : Option (List Code)} {cn : Str} {cs : Scope} {a : Addr} {ccd : Value} {cl : List (Str × Addr)} {outer : List Env} {A₀ : Around} {base h₀ : Heap} {L : Addr} {m : Str → Option Value} {s : Shared} {Q E : Value → Shared → Prop}
    (C : FjRec prog w K p loose mean mg mb f news pre sz vs y mo d)
    (B : Below A₀ base outer h₀) (F : Fr h₀ L s.heap m) (X : K.In h₀) (N : News h₀ L s.heap news) (T : Top p loose mean mg mb h₀) (hk : cs.kind = .function)
    (hp : pre) (hd : dp + sz + 1 < recursionLimit) (hu : un + 8 * (sz + 1) < cLine) (ret : FjRet h₀ L m news s Q y mo d) :
    wpAny (model prog w) (ktrTop dp un gd cn cs L a ccd cl outer) (call (.ref f) vs) Q E s :=
  C dp un gd cn cs a ccd cl outer A₀ base h₀ L m s Q E B F X N T hk hp hd hu ret

section
variable (w : World) (mean : ExcName → Option Value) (mg mb : Str → Option Value) (news : List (Addr × Obj))

theorem fj_law (n c e : Int) (t : Tok) :
    FjRec PySem.Challenge.rw_ah0018_01.row.prog w (hd.heap_39 w.params) hd.view_39 (looseW hd.view_39 []) mean mg mb 96 news (IsDate (toJd (lawYear n) (1 + Int.fmod c (lawMonths (lawYear n))) (1 + Int.fmod e (mlen (lawYear n) (1 + Int.fmod c (lawMonths (lawYear n)))))) (lawYear n) (1 + Int.fmod c (lawMonths (lawYear n))) (1 + Int.fmod e (mlen (lawYear n) (1 + Int.fmod c (lawMonths (lawYear n)))))) 26
      [.int (toJd (lawYear n) (1 + Int.fmod c (lawMonths (lawYear n))) (1 + Int.fmod e (mlen (lawYear n) (1 + Int.fmod c (lawMonths (lawYear n)))))) t] (lawYear n) (1 + Int.fmod c (lawMonths (lawYear n))) (1 + Int.fmod e (mlen (lawYear n) (1 + Int.fmod c (lawMonths (lawYear n))))) :=
  from_jd_c w mean mg mb news _ _ _ _ t
theorem fj_later (n c e k : Int) (t : Tok) :
    FjRec PySem.Challenge.rw_ah0018_01.row.prog w (hd.heap_39 w.params) hd.view_39 (looseW hd.view_39 []) mean mg mb 96 news (IsDate (toJd (lawYear n + 689472 * (1 + Int.fmod k 1000)) (1 + Int.fmod c (lawMonths (lawYear n))) (1 + Int.fmod e (mlen (lawYear n) (1 + Int.fmod c (lawMonths (lawYear n)))))) (lawYear n + 689472 * (1 + Int.fmod k 1000)) (1 + Int.fmod c (lawMonths (lawYear n))) (1 + Int.fmod e (mlen (lawYear n) (1 + Int.fmod c (lawMonths (lawYear n)))))) 26
      [.int (toJd (lawYear n + 689472 * (1 + Int.fmod k 1000)) (1 + Int.fmod c (lawMonths (lawYear n))) (1 + Int.fmod e (mlen (lawYear n) (1 + Int.fmod c (lawMonths (lawYear n)))))) t] (lawYear n + 689472 * (1 + Int.fmod k 1000)) (1 + Int.fmod c (lawMonths (lawYear n))) (1 + Int.fmod e (mlen (lawYear n) (1 + Int.fmod c (lawMonths (lawYear n))))) :=
  from_jd_c w mean mg mb news _ _ _ _ t
end
local macro_rules | `(tactic| walk_at "execs cons") => `(tactic| (k_here; (with_reducible refine gt (fun tk9 => ?_)); (with_reducible refine wpAny_execs_cons ?_); try dsimp only))
local macro_rules | `(tactic| walk_at "execs nil") => `(tactic| (k_here; (with_reducible refine gt (fun tk9 => ?_)); (with_reducible refine wpAny_execs_nil ?_); try dsimp only))
local macro_rules | `(tactic| walk_at "ite") => `(tactic| (k_here; first
  | (k_closed; k_dflt (first | refine ite_pos (by decide) ?_ | refine ite_neg (by decide) ?_))
  | with_reducible refine ite_tt ?_ | with_reducible refine ite_ff ?_
  | (with_reducible refine split_dec ?_ ?_ <;> intro _) | (with_reducible refine split_ieq ?_ ?_ <;> intro _) | (with_reducible refine split_ine ?_ ?_ <;> intro _)
  | with_reducible refine split_not ?_ | (with_reducible refine split_bool ?_ ?_ <;> intro _)))

local macro_rules | `(tactic| walk_at "call ref") => `(tactic| (k_here; k_dflt (
  refine' use_c ?c ?k1 ?k2 ?k3 ?k4 ?k5 ?kK ?kp ?kd ?ku ?_;
  (case k1 => k_asm); (case k2 => k_asm); (case k3 => k_asm); (case k4 => k_asm); (case k5 => k_asm);
  (case c => first
    | with_reducible exact leap_c _ _ _ _ _ _ _
    | with_reducible exact midnight_c _ _ _ _ _ _ _
    | with_reducible exact jwday_c _ _ _ _ _ _ _
    | with_reducible exact delay1_c _ _ _ _ _ _ _
    | with_reducible exact year_months_c _ _ _ _ _ _ _
    | with_reducible exact delay2_c _ _ _ _ _ _ _
    | with_reducible exact to_jd7_c _ _ _ _ _ _ _ _ _
    | with_reducible exact year_days_c _ _ _ _ _ _ _
    | with_reducible exact month_length_c _ _ _ _ _ _ _ _ _
    | with_reducible exact month_days_c _ _ _ _ _ _ _ _ _
    | with_reducible exact to_jd_c _ _ _ _ _ _ _ _ _ _ _
    | with_reducible exact law_months_c _ _ _ _ _ _ _
    | with_reducible exact law_year_c _ _ _ _ _ _ _);
  (case kK => first | exact rfl | assumption);
  (case kp => first | trivial | omega | exact mo_ok _ _ | exact mo_le _ _ | assumption | (refine And.intro ?_ ?_ <;> omega));
  (case kd => ktr_room); (case ku => ktr_units);
  intro t9 h9 tk9 F9 N9; (try dsimp only); (try k_fold))))
local macro_rules | `(tactic| walk_at "eval Call") => `(tactic| (k_here; k_dflt (refine Call_ ?_)))

local macro_rules | `(tactic| walk_at "call ref") => `(tactic| (k_here; k_dflt (
  refine' use_mc ?c ?k1 ?k2 ?k3 ?k4 ?k5 ?kK ?kp ?kd ?ku ?_;
  (case k1 => k_asm); (case k2 => k_asm); (case k3 => k_asm); (case k4 => k_asm); (case k5 => k_asm);
  (case c => with_reducible exact mcal_c _ _ _ _ _ _ _ _ _);
  (case kK => first | exact rfl | assumption);
  (case kp => first | exact mo_ok _ _ | assumption);
  (case kd => ktr_room); (case ku => ktr_units);
  intro R9 own9 as9 h9 tk9 F9 N9 hR9; (try dsimp only); (try k_fold))))
local macro_rules | `(tactic| walk_at "call ref") => `(tactic| (k_here; k_dflt (
  refine' use_fj ?c ?k1 ?k2 ?k3 ?k4 ?k5 ?kK ?kp ?kd ?ku ?_;
  (case k1 => k_asm); (case k2 => k_asm); (case k3 => k_asm); (case k4 => k_asm); (case k5 => k_asm);
  (case c => first | with_reducible exact fj_law _ _ _ _ _ _ _ _ _ | with_reducible exact fj_later _ _ _ _ _ _ _ _ _ _);
  (case kK => first | exact rfl | assumption);
  (case kp => first | with_reducible exact date_law _ _ _ | with_reducible exact date_later _ _ _ _);
  (case kd => ktr_room); (case ku => ktr_units);
  intro D9 t9 t9' t9'' c9 h9 tk9 F9 N9 l9; (try simp only [AllLt, and_true] at l9); (try dsimp only); (try k_fold))))

local macro_rules | `(tactic| walk_at "ite") => `(tactic| (k_here; first | (with_reducible refine ite_isFalse (per1 _ _ _ _) ?_) | (with_reducible refine ite_isFalse (per2 _ _ _) ?_) | (with_reducible refine ite_isFalse (per3 _ _) ?_)))
local macro_rules | `(tactic| walk_at "binaryOp Mod int int") => `(tactic| (k_here; k_dflt (refine mod_int (by first | decide | exact lm_ne _ | exact mlen_ne _ _) ?_)))
set_option maxHeartbeats 8000000 in
theorem law_holds : PySem.Challenge.rw_ah0018_01.Holds := hd (by
  w_strict (
  k_go0
  (all_goals try k_fold)
  repeat' (first | (k_unfold; (try dsimp only)) | walk1 | (dsimp only; walk1) | (leave1; try dsimp only) | fail "no step")
  refine eq_cal (by k_asm) (by assumption) (by assumption) (per4 _ _ _) (per5 _ _ _) (mlen_bd _ _) (by units_room) ?_
  repeat' (first | (k_unfold; (try dsimp only)) | walk1 | (dsimp only; walk1) | (leave1; try dsimp only) | fail "no step")
  k_end
  wrow_close))
end Mine
theorem PySem.Challenge.cw_ah0018_01_holds : PySem.Challenge.rw_ah0018_01.Holds := by
  exact Mine.law_holds
