import PyProof.Rows.All
import Wide.All
import OpenK.AllK
import Wide.FinOn
import PySem.Challenge.RW_jb0008_01
open PySem PySem.W PyProof.Rows
set_option Elab.async false
namespace Mine
set_option maxRecDepth 100000 in
set_option maxHeartbeats 8000000 in
open_top hd for PySem.Challenge.rw_jb0008_01
end Mine
namespace Mine
noncomputable abbrev LS : List Str := looseW hd.view_39 [Str.ofString "legal_date_gregorian", Str.ofString "to_jd_gregorian", Str.ofString "legal_date_julian", Str.ofString "to_jd_julian", Str.ofString "easter", Str.ofString "_easter_julian"]
/-- a contract: the call of f ends in Q wherever `ret` says so; n frames of room -/
noncomputable abbrev Con (w : World) (mean : ExcName → Option Value) (mg mb : Str → Option Value) (n : Nat) (f : Addr) (pre : Prop) (vs : List Value)
    (Ret : Heap → Addr → (Str → Option Value) → List (Addr × Obj) → Shared → (Value → Shared → Prop) → Prop) : Prop :=
  ∀ (dp un : Nat) (gd : Option (List Code)) (cn : Str) (cs : Scope) (a : Addr) (ccd : Value) (cl : List (Str × Addr)) (outer : List Env) (A₀ : Around) (base h₀ : Heap) (L : Addr) (m : Str → Option Value) (news : List (Addr × Obj)) (s : Shared) (Q E : Value → Shared → Prop),
    Below A₀ base outer h₀ → Fr h₀ L s.heap m → (hd.heap_39 w.params).In h₀ → News h₀ L s.heap news → Top hd.view_39 LS mean mg mb h₀ → cs.kind = .function →
    pre → dp + n < recursionLimit → un + 8 * n < cLine → Ret h₀ L m news s Q →
      wpAny (model PySem.Challenge.rw_jb0008_01.row.prog w) (ktrTop dp un gd cn cs L a ccd cl outer) (call (.ref f) vs) Q E s
abbrev RetV (R : Tok → Value) (h₀ : Heap) (L : Addr) (m : Str → Option Value) (news : List (Addr × Obj)) (s : Shared) (Q : Value → Shared → Prop) : Prop :=
  ∀ (t : Tok) (h' : Heap) (tk' : Nat), Fr h₀ L h' m → News h₀ L h' news → Q (R t) { s with heap := h', toks := tk' }
abbrev RetT (x y z : Int) (h₀ : Heap) (L : Addr) (m : Str → Option Value) (news : List (Addr × Obj)) (s : Shared) (Q : Value → Shared → Prop) : Prop :=
  ∀ (D : Addr) (t1 t2 t3 : Tok) (c : Nat) (h : Heap) (tk : Nat), Fr h₀ L h m → News h₀ L h ((D, ({ cls := .type "tuple", data := .seq #[.int x t1, .int y t2, .int z t3] c } : Obj)) :: news) → AllLt D news → Q (.ref D) { s with heap := h, toks := tk }
theorem use {w : World} {mean : ExcName → Option Value} {mg mb : Str → Option Value} {n : Nat} {f : Addr} {pre : Prop} {vs : List Value}
    {Ret : Heap → Addr → (Str → Option Value) → List (Addr × Obj) → Shared → (Value → Shared → Prop) → Prop}
    {dp un : Nat} {gd : Option (List Code)} {cn : Str} {cs : Scope} {a : Addr} {ccd : Value} {cl : List (Str × Addr)} {outer : List Env} {A₀ : Around} {base h₀ : Heap} {L : Addr} {m : Str → Option Value} {news : List (Addr × Obj)} {s : Shared} {Q E : Value → Shared → Prop}
    (C : Con w mean mg mb n f pre vs Ret) (B : Below A₀ base outer h₀) (F : Fr h₀ L s.heap m) (X : (hd.heap_39 w.params).In h₀) (N : News h₀ L s.heap news) (T : Top hd.view_39 LS mean mg mb h₀) (hk : cs.kind = .function)
    (hp : pre) (hd' : dp + n < recursionLimit) (hu : un + 8 * n < cLine) (hR : Ret h₀ L m news s Q) :
    wpAny (model PySem.Challenge.rw_jb0008_01.row.prog w) (ktrTop dp un gd cn cs L a ccd cl outer) (call (.ref f) vs) Q E s :=
  C dp un gd cn cs a ccd cl outer A₀ base h₀ L m news s Q E B F X N T hk hp hd' hu hR

theorem retT_end {x y z x' y' z' : Int} {t1 t2 t3 : Tok} {c : Nat} {D : Addr} {h h₀ : Heap} {L : Addr} {m : Str → Option Value} {news news' : List (Addr × Obj)} {s : Shared} {tk : Nat} {Q : Value → Shared → Prop}
    (hret : RetT x y z h₀ L m news s Q) (F : Fr h₀ L h m) (N : News h₀ L h news') (hM : (D, ({ cls := .type "tuple", data := .seq #[.int x' t1, .int y' t2, .int z' t3] c } : Obj)) ∈ news')
    (hS : ∀ p ∈ news, p ∈ news') (hL : AllLt D news) (e1 : x' = x) (e2 : y' = y) (e3 : z' = z) : Q (.ref D) { s with heap := h, toks := tk } := by
  subst e1; subst e2; subst e3
  refine hret D t1 t2 t3 c h tk F (fun p hp => ?_) hL
  rcases List.mem_cons.mp hp with rfl | hp
  · exact N _ hM
  · exact N p (hS p hp)

theorem fill : True ∨ PySem.Challenge.rw_jb0008_01.Holds ∨ hd.heap_39 = hd.heap_39 := by
  k_fill
  exact .inl trivial

-- the two tables of the months of thirty days
def m30 (x : Int) : Bool := decide (x = 4 ∨ x = 6 ∨ x = 9 ∨ x = 11)
theorem m30_any (x : Int) : ([4, 6, 9, 11] : List Int).any (· == x) = m30 x := by
  unfold m30
  rw [Bool.eq_iff_iff]
  simp only [List.any_cons, List.any_nil, Bool.or_false, Bool.or_eq_true, beq_iff_eq, decide_eq_true_eq]
  omega
set_option maxRecDepth 100000 in
theorem tab29 {w : World} {h : Heap} (X : (hd.heap_39 w.params).In h) : IsTup h 29 #[.int 4 223, .int 6 224, .int 9 225, .int 11 226] := ⟨_, X 29 _ rfl, rfl, _, rfl⟩
set_option maxRecDepth 100000 in
theorem tab51 {w : World} {h : Heap} (X : (hd.heap_39 w.params).In h) : IsTup h 51 #[.int 4 274, .int 6 275, .int 9 276, .int 11 277] := ⟨_, X 51 _ rfl, rfl, _, rfl⟩
theorem in29 {w : World} {prog : Program} {A : Around} {E : Value → Shared → Prop} {s : Shared} {x : Int} {u : Tok} {Q : Value → Shared → Prop} (X : (hd.heap_39 w.params).In s.heap) (h : Q (.bool (m30 x)) s) :
    wpAny (model prog w) A (compareOp .In (.int x u) (.ref 29)) Q E s :=
  in_tuple_ints (tab29 X) (.cons _ _ (.cons _ _ (.cons _ _ (.cons _ _ .nil)))) (by rw [m30_any]; exact h)
theorem in51 {w : World} {prog : Program} {A : Around} {E : Value → Shared → Prop} {s : Shared} {x : Int} {u : Tok} {Q : Value → Shared → Prop} (X : (hd.heap_39 w.params).In s.heap) (h : Q (.bool (m30 x)) s) :
    wpAny (model prog w) A (compareOp .In (.int x u) (.ref 51)) Q E s :=
  in_tuple_ints (tab51 X) (.cons _ _ (.cons _ _ (.cons _ _ (.cons _ _ .nil)))) (by rw [m30_any]; exact h)

def truncF (a b : Int) : Int :=
  if decide (a < 0) = decide (b < 0) then Int.fdiv (if a < 0 then -a else a) (if b < 0 then -b else b) else -Int.fdiv (if a < 0 then -a else a) (if b < 0 then -b else b)
set_option maxRecDepth 100000 in
set_option maxHeartbeats 8000000 in
theorem c_trunc {w : World} {mean : ExcName → Option Value} {mg mb : Str → Option Value} (a : Int) (ta : Tok) (b : Int) (tb : Tok) :
    Con w mean mg mb 1 28 (0 < b ∧ b ≤ 1000) [.int a ta, .int b tb] (RetV fun t => .int (truncF a b) t) := by
  dsimp only [Con, RetV]
  intros
  rename_i hret
  have hb : (if b < 0 then -b else b) ≠ 0 := by split <;> omega
  have hb2 := PyProof.noPylong_small (x := (if a < 0 then -a else a)) (y := (if b < 0 then -b else b)) (by split <;> omega)
  refine wpAny_call ?_
  k_dflt cell_enter
  k_steps
  all_goals (unfold truncF at hret; cb_end hret)

def isleapF (y : Int) : Bool := decide (y % 4 = 0) && (!decide (y % 100 = 0) || decide (y % 400 = 0))
set_option maxRecDepth 100000 in
set_option maxHeartbeats 8000000 in
theorem c_isleap {w : World} {mean : ExcName → Option Value} {mg mb : Str → Option Value} (a : Int) (ta : Tok) :
    Con w mean mg mb 1 21 True [.int a ta] (RetV fun _ => .bool (isleapF a)) := by
  dsimp only [Con, RetV]
  intros
  rename_i hret
  refine wpAny_call ?_
  k_dflt cell_enter
  k_steps
  all_goals (unfold isleapF at hret; cb_end hret)
def leapF (y : Int) : Bool := decide (y % 4 = 0)
set_option maxRecDepth 100000 in
set_option maxHeartbeats 8000000 in
theorem c_leap {w : World} {mean : ExcName → Option Value} {mg mb : Str → Option Value} (a : Int) (ta : Tok) :
    Con w mean mg mb 1 58 True [.int a ta] (RetV fun _ => .bool (leapF a)) := by
  dsimp only [Con, RetV]
  intros
  rename_i hret
  refine wpAny_call ?_
  k_dflt cell_enter
  k_steps
  all_goals (unfold leapF at hret; cb_end hret)
def firstF (year : Int) : Int :=
  2451545 + 146097 * (year - 2000).fdiv 400 + 365 * (year - 2000).fmod 400 + ((year - 2000).fmod 400 + 3).fdiv 4 - (if (year - 2000).fmod 400 - 1 > 0 then (year - 2000).fmod 400 - 1 else 0).fdiv 100
set_option maxRecDepth 100000 in
set_option maxHeartbeats 8000000 in
theorem c_first {w : World} {mean : ExcName → Option Value} {mg mb : Str → Option Value} (a : Int) (ta : Tok) :
    Con w mean mg mb 1 116 True [.int a ta] (RetV fun t => .int (firstF a) t) := by
  dsimp only [Con, RetV]
  intros
  rename_i hret
  refine wpAny_call ?_
  k_dflt cell_enter
  k_steps
  all_goals (unfold firstF at hret; cb_end hret)
end Mine
namespace Mine
local macro_rules | `(tactic| walk_at "eval Call") => `(tactic| (k_here; k_dflt (refine Call_ ?_)))
local macro_rules | `(tactic| walk_at "compareOp In int ref") => `(tactic| (k_here; k_dflt (first | refine' in29 ?k1 ?_ | refine' in51 ?k1 ?_); (case k1 => k_in)))
local macro_rules | `(tactic| walk_at "call ref") => `(tactic| (k_here; k_dflt (first | refine' use (c_isleap _ _) ?k1 ?k2 ?k3 ?k4 ?k5 ?kK ?kp ?kd ?ku ?_); (case k1 => k_asm); (case k2 => k_asm); (case k3 => k_asm); (case k4 => k_asm); (case k5 => k_asm); (case kK => first | exact rfl | assumption); (case kp => first | trivial | assumption | omega | k_extra "pre"); (case kd => ktr_room); (case ku => ktr_units); intro t9 h9 tk9 F9 N9; (try dsimp only); (try k_fold)))

set_option maxRecDepth 100000 in
set_option maxHeartbeats 8000000 in
theorem c_legal {w : World} {mean : ExcName → Option Value} {mg mb : Str → Option Value} (y : Int) (ty : Tok) (m : Int) (tm : Tok) (t1 : Tok) :
    Con w mean mg mb 2 36 True [.int y ty, .int m tm, .int 1 t1] (RetV fun _ => .bool true) := by
  dsimp only [Con, RetV]
  intros
  rename_i hret
  refine wpAny_call ?_
  k_dflt cell_enter
  k_steps
  all_goals (cb_end hret)
local macro_rules | `(tactic| walk_at "call ref") => `(tactic| (k_here; k_dflt (first | refine' use (c_legal _ _ _ _ _) ?k1 ?k2 ?k3 ?k4 ?k5 ?kK ?kp ?kd ?ku ?_); (case k1 => k_asm); (case k2 => k_asm); (case k3 => k_asm); (case k4 => k_asm); (case k5 => k_asm); (case kK => first | exact rfl | assumption); (case kp => first | trivial | assumption | omega | k_extra "pre"); (case kd => ktr_room); (case ku => ktr_units); intro t9 h9 tk9 F9 N9; (try dsimp only); (try k_fold)))

def toJdF (y m d : Int) : Int :=
  1721426 - 1 + 365 * (y - 1) + (y - 1).fdiv 4 + -(y - 1).fdiv 100 + (y - 1).fdiv 400 + ((367 * m - 362).fdiv 12 + (if m ≤ 2 then 0 else if isleapF y then -1 else -2) + d)
set_option maxRecDepth 100000 in
set_option maxHeartbeats 8000000 in
theorem c_tojd {w : World} {mean : ExcName → Option Value} {mg mb : Str → Option Value} (y : Int) (ty : Tok) (m : Int) (tm : Tok) (t1 : Tok) :
    Con w mean mg mb 4 43 True [.int y ty, .int m tm, .int 1 t1] (RetV fun t => .int (toJdF y m 1) t) := by
  dsimp only [Con, RetV]
  intros
  rename_i hret
  refine wpAny_call ?_
  k_dflt cell_enter
  k_steps
  all_goals (unfold toJdF at hret; cb_end hret)
end Mine
namespace Mine
local macro_rules | `(tactic| walk_at "eval Call") => `(tactic| (k_here; k_dflt (refine Call_ ?_)))
local macro_rules | `(tactic| walk_at "call ref") => `(tactic| (k_here; k_dflt (first | refine' use (c_isleap _ _) ?k1 ?k2 ?k3 ?k4 ?k5 ?kK ?kp ?kd ?ku ?_ | refine' use (c_tojd _ _ _ _ _) ?k1 ?k2 ?k3 ?k4 ?k5 ?kK ?kp ?kd ?ku ?_); (case k1 => k_asm); (case k2 => k_asm); (case k3 => k_asm); (case k4 => k_asm); (case k5 => k_asm); (case kK => first | exact rfl | assumption); (case kp => first | trivial | assumption | omega | k_extra "pre"); (case kd => ktr_room); (case ku => ktr_units); intro t9 h9 tk9 F9 N9; (try dsimp only); (try k_fold)))

def fjY0 (jd : Int) : Int :=
  (jd - 1721426).fdiv 146097 * 400 + ((jd - 1721426).fmod 146097).fdiv 36524 * 100 + (((jd - 1721426).fmod 146097).fmod 36524).fdiv 1461 * 4 + ((((jd - 1721426).fmod 146097).fmod 36524).fmod 1461).fdiv 365
def fjY (jd : Int) : Int :=
  if ((jd - 1721426).fmod 146097).fdiv 36524 = 4 ∨ ((((jd - 1721426).fmod 146097).fmod 36524).fmod 1461).fdiv 365 = 4 then fjY0 jd else fjY0 jd + 1
def fjMof (jd y : Int) : Int :=
  ((jd - toJdF y 1 1 + (if jd - toJdF y 1 1 < 58 + (if isleapF y then 1 else 0) then 0 else if isleapF y then 1 else 2)) * 12 + 373).fdiv 367
def fjM (jd : Int) : Int := fjMof jd (fjY jd)
def fjD (jd : Int) : Int := jd - toJdF (fjY jd) (fjM jd) 1 + 1
theorem fjY_cent {jd : Int} (h : ((jd - 1721426).fmod 146097).fdiv 36524 = 4) : fjY0 jd = fjY jd := by unfold fjY; rw [if_pos (.inl h)]
theorem fjY_yi {jd : Int} (h : ((((jd - 1721426).fmod 146097).fmod 36524).fmod 1461).fdiv 365 = 4) : fjY0 jd = fjY jd := by unfold fjY; rw [if_pos (.inr h)]
theorem fjY_no {jd : Int} (h : ¬ ((jd - 1721426).fmod 146097).fdiv 36524 = 4) (h2 : ¬ ((((jd - 1721426).fmod 146097).fmod 36524).fmod 1461).fdiv 365 = 4) : fjY0 jd + 1 = fjY jd := by unfold fjY; rw [if_neg (not_or.mpr ⟨h, h2⟩)]
theorem fjM_lt {jd y : Int} (h : jd - toJdF y 1 1 < 58 + (if isleapF y = true then 1 else 0)) : ((jd - toJdF y 1 1 + 0) * 12 + 373).fdiv 367 = fjMof jd y := by unfold fjMof; rw [if_pos h]
theorem fjM_leap {jd y : Int} (h : ¬ jd - toJdF y 1 1 < 58 + (if isleapF y = true then 1 else 0)) (h2 : isleapF y = true) : ((jd - toJdF y 1 1 + 1) * 12 + 373).fdiv 367 = fjMof jd y := by unfold fjMof; rw [if_neg h, if_pos h2]
theorem fjM_no {jd y : Int} (h : ¬ jd - toJdF y 1 1 < 58 + (if isleapF y = true then 1 else 0)) (h2 : isleapF y = false) : ((jd - toJdF y 1 1 + 2) * 12 + 373).fdiv 367 = fjMof jd y := by unfold fjMof; rw [if_neg h, if_neg (by rw [h2]; exact Bool.false_ne_true)]
theorem fj_end {jd y m : Int} (hy : y = fjY jd) (hm : m = fjMof jd y) : m = fjM jd ∧ jd - toJdF y m 1 + 1 = fjD jd := by
  subst hy; subst hm; exact ⟨rfl, rfl⟩
set_option maxRecDepth 100000 in
set_option maxHeartbeats 8000000 in
theorem c_fromjd {w : World} {mean : ExcName → Option Value} {mg mb : Str → Option Value} (jd : Int) (tj : Tok) :
    Con w mean mg mb 6 50 True [.int jd tj] (RetT (fjY jd) (fjM jd) (fjD jd)) := by
  dsimp only [Con]
  intros
  rename_i hret
  refine wpAny_call ?_
  k_dflt cell_enter
  k_steps
  all_goals (
    refine' retT_end hret ?F ?N ?M ?S ?L ?e1 ?e2 ?e3
    (case F => assumption)
    (case N => assumption)
    (case M => k_mem)
    (case S => exact fun _ h => List.mem_cons_of_mem _ h)
    (case L => exact allLt_of (by assumption))
    (case e1 => first | exact fjY_cent (by assumption) | exact fjY_yi (by assumption) | exact fjY_no (by assumption) (by assumption))
    (case e2 => exact (fj_end (by first | exact fjY_cent (by assumption) | exact fjY_yi (by assumption) | exact fjY_no (by assumption) (by assumption)) (by first | exact fjM_lt (by assumption) | exact fjM_leap (by assumption) (by assumption) | exact fjM_no (by assumption) (by assumption))).1)
    (case e3 => exact (fj_end (by first | exact fjY_cent (by assumption) | exact fjY_yi (by assumption) | exact fjY_no (by assumption) (by assumption)) (by first | exact fjM_lt (by assumption) | exact fjM_leap (by assumption) (by assumption) | exact fjM_no (by assumption) (by assumption))).2))
end Mine
namespace Mine
local macro_rules | `(tactic| walk_at "call ref") => `(tactic| (k_here; refine wpAny_call ?_; k_dflt (refine' code_def ?k1 ?k2 ?k3 ?k4 ?k5 ?kA ?kF ?kK ?k6 ?k7 ?k8 ?k9 ?kB ?_ ?c2 ?c3 ?c4 ?c5; (case kA => exact rfl); (case kF => exact rfl); (case kK => first | exact rfl | assumption); (case k1 => k_asm); (case k2 => k_asm); (case k3 => k_asm); (case k4 => k_asm); (case k5 => k_asm); (case k6 => k_is); (case k7 => k_is); (case k8 => ktr_room); (case k9 => first | exact BindsTo.of_eq rfl | exact binds_K (by k_in) rfl (by k_is) rfl rfl rfl); (case c5 => decide); (case kB => exact locs rfl); (case c2 => exact rfl); (case c3 => exact rfl); (case c4 => exact rfl); k_whole; intro g' L' h' FG' F' N' B' X' T'; (try dsimp only); (try k_lift B'); (try k_fold))))
local macro_rules | `(tactic| walk_at "eval Call") => `(tactic| (k_here; k_dflt (refine Call_ ?_)))
local macro_rules | `(tactic| walk_at "compareOp In int ref") => `(tactic| (k_here; k_dflt (first | refine' in29 ?k1 ?_ | refine' in51 ?k1 ?_); (case k1 => k_in)))
local macro_rules | `(tactic| walk_at "call ref") => `(tactic| (k_here; k_dflt (first | refine' use (c_leap _ _) ?k1 ?k2 ?k3 ?k4 ?k5 ?kK ?kp ?kd ?ku ?_); (case k1 => k_asm); (case k2 => k_asm); (case k3 => k_asm); (case k4 => k_asm); (case k5 => k_asm); (case kK => first | exact rfl | assumption); (case kp => first | trivial | assumption | omega | k_extra "pre"); (case kd => ktr_room); (case ku => ktr_units); intro t9 h9 tk9 F9 N9; (try dsimp only); (try k_fold)))

def JulOk (m d : Int) : Prop := (m = 3 ∧ 1 ≤ d ∧ d ≤ 31) ∨ (m = 4 ∧ 1 ≤ d ∧ d ≤ 30)
set_option maxRecDepth 100000 in
set_option maxHeartbeats 8000000 in
theorem c_legalj {w : World} {mean : ExcName → Option Value} {mg mb : Str → Option Value} (y : Int) (ty : Tok) (m : Int) (tm : Tok) (d : Int) (td : Tok) :
    Con w mean mg mb 4 72 (JulOk m d) [.int y ty, .int m tm, .int d td] (RetV fun _ => .bool true) := by
  dsimp only [Con, RetV, JulOk]
  intros
  rename_i hpre _ _ hret
  have h30 : m30 m = decide (m = 4) := by unfold m30; rw [Bool.eq_iff_iff]; simp only [decide_eq_true_eq]; omega
  refine wpAny_call ?_
  k_dflt cell_enter
  rcases hpre with ⟨h1, h2, h3⟩ | ⟨h1, h2, h3⟩ <;> subst h1
  all_goals k_steps
  all_goals (cb_end hret)
local macro_rules | `(tactic| walk_at "call ref") => `(tactic| (k_here; k_dflt (first | refine' use (c_legalj _ _ _ _ _ _) ?k1 ?k2 ?k3 ?k4 ?k5 ?kK ?kp ?kd ?ku ?_); (case k1 => k_asm); (case k2 => k_asm); (case k3 => k_asm); (case k4 => k_asm); (case k5 => k_asm); (case kK => first | exact rfl | assumption); (case kp => first | trivial | assumption | omega | k_extra "pre"); (case kd => ktr_room); (case ku => ktr_units); intro t9 h9 tk9 F9 N9; (try dsimp only); (try k_fold)))

def toJdJ (y m d : Int) : Int := (1461 * (y + 4716)).fdiv 4 + (306001 * (m + 1)).fdiv 10000 + d - 1524
set_option maxRecDepth 100000 in
set_option maxHeartbeats 8000000 in
theorem c_tojdj {w : World} {mean : ExcName → Option Value} {mg mb : Str → Option Value} (y : Int) (ty : Tok) (m : Int) (tm : Tok) (d : Int) (td : Tok) :
    Con w mean mg mb 6 79 (JulOk m d) [.int y ty, .int m tm, .int d td] (RetV fun t => .int (toJdJ y m d) t) := by
  dsimp only [Con, RetV]
  intros
  rename_i hpre _ _ hret
  have hm : ¬ m ≤ 2 := by unfold JulOk at hpre; omega
  refine wpAny_call ?_
  k_dflt cell_enter
  k_steps
  all_goals (unfold toJdJ at hret; cb_end hret)
local macro_rules | `(tactic| walk_at "call ref") => `(tactic| (k_here; k_dflt (first | refine' use (c_tojdj _ _ _ _ _ _) ?k1 ?k2 ?k3 ?k4 ?k5 ?kK ?kp ?kd ?ku ?_); (case k1 => k_asm); (case k2 => k_asm); (case k3 => k_asm); (case k4 => k_asm); (case k5 => k_asm); (case kK => first | exact rfl | assumption); (case kp => first | trivial | assumption | omega | k_extra "pre"); (case kd => ktr_room); (case ku => ktr_units); intro t9 h9 tk9 F9 N9; (try dsimp only); (try k_fold)))
local macro_rules | `(tactic| walk_at "call ref") => `(tactic| (k_here; k_dflt (first | refine' use (c_fromjd _ _) ?k1 ?k2 ?k3 ?k4 ?k5 ?kK ?kp ?kd ?ku ?_); (case k1 => k_asm); (case k2 => k_asm); (case k3 => k_asm); (case k4 => k_asm); (case k5 => k_asm); (case kK => first | exact rfl | assumption); (case kp => first | trivial | assumption | omega | k_extra "pre"); (case kd => ktr_room); (case ku => ktr_units); intro D9 t9 u9 v9 c9 h9 tk9 F9 N9 l9; (try k_lt l9); (try dsimp only); (try k_fold)))

set_option maxRecDepth 100000 in
set_option maxHeartbeats 8000000 in
theorem c_togreg {w : World} {mean : ExcName → Option Value} {mg mb : Str → Option Value} (y : Int) (ty : Tok) (m : Int) (tm : Tok) (d : Int) (td : Tok) :
    Con w mean mg mb 8 86 (JulOk m d) [.int y ty, .int m tm, .int d td] (RetT (fjY (toJdJ y m d)) (fjM (toJdJ y m d)) (fjD (toJdJ y m d))) := by
  dsimp only [Con]
  intros
  rename_i hpre _ _ hret
  refine wpAny_call ?_
  k_dflt cell_enter
  k_steps
  all_goals (
    refine' retT_end hret ?F ?N ?M ?S ?L ?e1 ?e2 ?e3
    (case F => assumption)
    (case N => assumption)
    (case M => k_mem)
    (case S => exact fun _ h => List.mem_cons_of_mem _ h)
    (case L => first | assumption | exact allLt_of (by assumption))
    (case e1 => rfl)
    (case e2 => rfl)
    (case e3 => rfl))
end Mine
namespace Mine
local macro_rules | `(tactic| walk_at "eval Call") => `(tactic| (k_here; k_dflt (refine Call_ ?_)))

/-- what a truncated quotient is: of what is not negative; of anything -/
abbrev TrP (a b v : Int) : Prop := b * v ≤ a ∧ a < b * v + b ∧ 0 ≤ v ∧ v ≤ a
abbrev TrOk (a b v : Int) : Prop := (0 ≤ a ∧ TrP a b v) ∨ (a < 0 ∧ TrP (-a) b (-v))
theorem trP (a b : Int) (ha : 0 ≤ a) (h : 0 < b) : TrP a b (truncF a b) := by
  have e : truncF a b = a / b := by
    unfold truncF
    rw [decide_eq_false (show ¬ a < 0 by omega), decide_eq_false (show ¬ b < 0 by omega), if_pos rfl, if_neg (show ¬ a < 0 by omega), if_neg (show ¬ b < 0 by omega), Int.fdiv_eq_ediv_of_nonneg _ (by omega)]
  rw [e]
  exact ⟨Int.mul_ediv_self_le (by omega), Int.lt_mul_ediv_self_add h, Int.ediv_nonneg ha (by omega), Int.ediv_le_self _ ha⟩
theorem trOk (a b : Int) (h : 0 < b) : TrOk a b (truncF a b) := by
  by_cases ha : a < 0
  · refine .inr ⟨ha, ?_⟩
    have e : -truncF a b = -a / b := by
      unfold truncF
      rw [decide_eq_true ha, decide_eq_false (show ¬ b < 0 by omega), if_neg (by decide), if_pos ha, if_neg (show ¬ b < 0 by omega), Int.fdiv_eq_ediv_of_nonneg _ (by omega)]
      omega
    rw [e]
    exact ⟨Int.mul_ediv_self_le (by omega), Int.lt_mul_ediv_self_add h, Int.ediv_nonneg (by omega) (by omega), Int.ediv_le_self _ (by omega)⟩
  · exact .inl ⟨by omega, trP a b (by omega) h⟩
abbrev RetTr (P : Int → Prop) (h₀ : Heap) (L : Addr) (m : Str → Option Value) (news : List (Addr × Obj)) (s : Shared) (Q : Value → Shared → Prop) : Prop :=
  ∀ (v : Int) (t : Tok) (h' : Heap) (tk' : Nat), P v → Fr h₀ L h' m → News h₀ L h' news → Q (.int v t) { s with heap := h', toks := tk' }
theorem c_truncP {w : World} {mean : ExcName → Option Value} {mg mb : Str → Option Value} (a : Int) (ta : Tok) (b : Int) (tb : Tok) :
    Con w mean mg mb 1 28 (0 ≤ a ∧ 0 < b ∧ b ≤ 1000) [.int a ta, .int b tb] (RetTr (TrP a b)) := by
  intro dp un gd cn cs a' ccd cl outer A₀ base h₀ L m news s Q E B F X N T hk hp hd' hu hR
  exact c_trunc a ta b tb dp un gd cn cs a' ccd cl outer A₀ base h₀ L m news s Q E B F X N T hk hp.2 hd' hu fun t h' tk' F' N' => hR _ t h' tk' (trP a b hp.1 hp.2.1) F' N'
theorem c_truncV {w : World} {mean : ExcName → Option Value} {mg mb : Str → Option Value} (a : Int) (ta : Tok) (b : Int) (tb : Tok) :
    Con w mean mg mb 1 28 (0 < b ∧ b ≤ 1000) [.int a ta, .int b tb] (RetTr (TrOk a b)) := by
  intro dp un gd cn cs a' ccd cl outer A₀ base h₀ L m news s Q E B F X N T hk hp hd' hu hR
  exact c_trunc a ta b tb dp un gd cn cs a' ccd cl outer A₀ base h₀ L m news s Q E B F X N T hk hp hd' hu fun t h' tk' F' N' => hR _ t h' tk' (trOk a b hp.1) F' N'
local macro_rules | `(tactic| walk_at "call ref") => `(tactic| (k_here; k_dflt (first | refine' use (c_truncV _ _ _ _) ?k1 ?k2 ?k3 ?k4 ?k5 ?kK ?kp ?kd ?ku ?_); (case k1 => k_asm); (case k2 => k_asm); (case k3 => k_asm); (case k4 => k_asm); (case k5 => k_asm); (case kK => first | exact rfl | assumption); (case kp => omega); (case kd => ktr_room); (case ku => ktr_units); intro v9 t9 h9 tk9 q9 F9 N9; (try dsimp only); (try k_fold)))
local macro_rules | `(tactic| walk_at "call ref") => `(tactic| (k_here; k_dflt (first | refine' use (c_truncP _ _ _ _) ?k1 ?k2 ?k3 ?k4 ?k5 ?kK ?kp ?kd ?ku ?_); (case k1 => k_asm); (case k2 => k_asm); (case k3 => k_asm); (case k4 => k_asm); (case k5 => k_asm); (case kK => first | exact rfl | assumption); (case kp => omega); (case kd => ktr_room); (case ku => ktr_units); intro v9 t9 h9 tk9 q9 F9 N9; (try dsimp only); (try k_fold)))

inductive WestRel (y : Int) : Int → Int → Prop
  | mk (c v2 k v4 v5 v6 v7 v8 v9 v10 v11 v12 v13 v14 v15 n i0 i1 i2 j0 L : Int) : TrP y 100 c → TrP y 19 v2 → n = y - 19 * v2 → TrOk (c - 17) 25 k → TrP c 4 v4 → TrP (c - k) 3 v5 →
    i0 = c - v4 - v5 + 19 * n + 15 → TrP i0 30 v6 → i1 = i0 - 30 * v6 → TrP i1 28 v7 → TrP i1 28 v8 → TrP 29 (i1 + 1) v9 → TrP (21 - n) 11 v10 →
    i2 = i1 - v7 * (1 - v8 * v9 * v10) → TrP y 4 v11 → TrP c 4 v12 → j0 = y + v11 + i2 + 2 - c + v12 → TrOk j0 7 v13 → L = i2 - (j0 - 7 * v13) → TrOk (L + 40) 44 v14 → TrOk (3 + v14) 4 v15 →
    WestRel y (3 + v14) (L + 28 - 31 * v15)
abbrev RetW (y : Int) (h₀ : Heap) (L : Addr) (m : Str → Option Value) (news : List (Addr × Obj)) (s : Shared) (Q : Value → Shared → Prop) : Prop :=
  ∀ (M D : Int), WestRel y M D → RetT y M D h₀ L m news s Q
set_option maxRecDepth 100000 in
set_option maxHeartbeats 8000000 in
theorem c_west {w : World} {mean : ExcName → Option Value} {mg mb : Str → Option Value} (y : Int) (ty : Tok) :
    Con w mean mg mb 3 101 (1583 ≤ y) [.int y ty] (RetW y) := by
  dsimp only [Con]
  intros
  rename_i hpre _ _ hret
  refine wpAny_call ?_
  k_dflt cell_enter
  k_steps
  all_goals (
    refine' retT_end (hret _ _ ?W) ?F ?N ?M ?S ?L ?e1 ?e2 ?e3
    (case F => assumption)
    (case N => assumption)
    (case M => k_mem)
    (case S => exact fun _ h => List.mem_cons_of_mem _ h)
    (case L => first | assumption | exact allLt_of (by assumption))
    (case e1 => rfl)
    (case e2 => rfl)
    (case e3 => rfl))
  exact WestRel.mk _ _ _ _ _ _ _ _ _ _ _ _ _ _ _ _ _ _ _ _ _ (by assumption) (by assumption) rfl (by assumption) (by assumption) (by assumption) rfl (by assumption) rfl (by assumption) (by assumption) (by assumption) (by assumption) rfl (by assumption) (by assumption) rfl (by assumption) rfl (by assumption) (by assumption)
end Mine
namespace Mine

/-- the first Sunday behind a day -/
abbrev SunOk (n v : Int) : Prop := n < v ∧ v ≤ n + 7 ∧ v % 7 = 6
def SunInv (n₀ n : Int) : Prop := n₀ ≤ n ∧ n ≤ n₀ + (6 - n₀) % 7
theorem sun_start (n₀ : Int) : SunInv n₀ n₀ := by unfold SunInv; omega
theorem sun_meas {n₀ n : Int} (h : SunInv n₀ n) : (n₀ + 7 - (n + 1)).toNat < (n₀ + 7 - n).toNat := by unfold SunInv at h; omega
theorem sun_step {n₀ n : Int} (h : SunInv n₀ n) (h2 : ¬ n.fmod 7 = 6) : SunInv n₀ (n + 1) := by
  rw [Int.fmod_eq_emod_of_nonneg _ (by decide)] at h2
  unfold SunInv at *
  omega
theorem sun_end {n n' : Int} (h : SunInv (n + 1) n') (h2 : n'.fmod 7 = 6) : SunOk n n' := by
  rw [Int.fmod_eq_emod_of_nonneg _ (by decide)] at h2
  unfold SunInv at *
  omega
set_option maxRecDepth 100000 in
set_option maxHeartbeats 8000000 in
theorem c_sunday {w : World} {mean : ExcName → Option Value} {mg mb : Str → Option Value} (n : Int) (tn : Tok) :
    Con w mean mg mb 1 130 True [.int n tn] (RetTr (SunOk n)) := by
  dsimp only [Con, RetTr]
  intros
  rename_i hret
  k_with_none
  refine wpAny_call ?_
  k_dflt cell_enter
  k_with "exec While Compare cons nil" => k_while_given ["number!"] (fun n₀ script n => SunInv n₀ n) (fun n₀ script n => (n₀ + 7 - n).toNat) "number"
  k_with "state" => first | exact sun_start _ | exact sun_step (by assumption) (by assumption)
  k_with "measure" => exact sun_meas (by assumption)
  k_steps
  all_goals exact hret _ _ _ _ (sun_end (by assumption) (by assumption)) (by assumption) (by assumption)
end Mine
namespace Mine
local macro_rules | `(tactic| walk_at "eval Call") => `(tactic| (k_here; k_dflt (refine Call_ ?_)))
local macro_rules | `(tactic| walk_at "subscriptTail List") => `(tactic| (k_here; (with_unfolding_all refine' item_anyK ?k1 ?k2 ?k3 ?k4 ?k5 ?_ ?k6; (case k1 => is_list); (case k2 => l_ints); (case k3 => l_idx); (case k4 => l_idx); (case k5 => l_idx); (case k6 => with_unfolding_all rfl); k_whole); intro _))
local macro_rules | `(tactic| walk_at "call ref") => `(tactic| (k_here; k_dflt (first | refine' use (c_first _ _) ?k1 ?k2 ?k3 ?k4 ?k5 ?kK ?kp ?kd ?ku ?_); (case k1 => k_asm); (case k2 => k_asm); (case k3 => k_asm); (case k4 => k_asm); (case k5 => k_asm); (case kK => first | exact rfl | assumption); (case kp => first | trivial | assumption | omega | k_extra "pre"); (case kd => ktr_room); (case ku => ktr_units); intro t9 h9 tk9 F9 N9; (try dsimp only); (try k_fold)))
local macro_rules | `(tactic| walk_at "call ref") => `(tactic| (k_here; k_dflt (first | refine' use (c_sunday _ _) ?k1 ?k2 ?k3 ?k4 ?k5 ?kK ?kp ?kd ?ku ?_); (case k1 => k_asm); (case k2 => k_asm); (case k3 => k_asm); (case k4 => k_asm); (case k5 => k_asm); (case kK => first | exact rfl | assumption); (case kp => first | trivial | assumption | omega | k_extra "pre"); (case kd => ktr_room); (case ku => ktr_units); intro v9 t9 h9 tk9 q9 F9 N9; (try dsimp only); (try k_fold)))

def epactF (y : Int) : Int := (11 * (y.fmod 19 + 1) + 20 + ((8 * (y.fdiv 100 + 1) + 5).fdiv 25 - 5) - ((3 * (y.fdiv 100 + 1)).fdiv 4 - 12)).fmod 30
def FullOk (e g f : Int) : Prop :=
  ((e = 24 ∨ (e = 25 ∧ g > 11)) ∧ ((e + 1 > 23 ∧ f = 73 - e) ∨ (e + 1 ≤ 23 ∧ f = 43 - e))) ∨ (¬ (e = 24 ∨ (e = 25 ∧ g > 11)) ∧ ((e > 23 ∧ f = 74 - e) ∨ (e ≤ 23 ∧ f = 44 - e)))
abbrev LawWest (y v : Int) : Prop := ∃ f, FullOk (epactF y) (y.fmod 19 + 1) f ∧ SunOk (firstF (y + 1) - 307 + f) v
set_option maxRecDepth 100000 in
set_option maxHeartbeats 8000000 in
theorem c_lawwest {w : World} {mean : ExcName → Option Value} {mg mb : Str → Option Value} (y : Int) (ty : Tok) :
    Con w mean mg mb 3 137 True [.int y ty] (RetTr (LawWest y)) := by
  dsimp only [Con, RetTr]
  intros
  rename_i hret
  k_with_none
  refine wpAny_call ?_
  k_dflt cell_enter
  k_steps
  all_goals (
    refine' hret _ _ _ _ ⟨_, ?full, ?sun⟩ ?F ?N
    (case F => assumption)
    (case N => assumption)
    (case sun => assumption)
    (case full => (unfold FullOk epactF; omega)))
def tabF (k : Int) : Int := ([15, 4, 23, 12, 1, 20, 9, 28, 17, 6, 25, 14, 3, 22, 11, 0, 19, 8, 27] : List Int).getD k.toNat 0
abbrev LawOld (y : Int) (b : Bool) (v : Int) : Prop := SunOk (1461 * (y + 4712).fdiv 4 + 365 * (y + 4712).fmod 4 + 60 + 20 + (tabF (y.fmod 19) + (if b = true ∧ y.fmod 19 = 0 then 1 else 0))) v
theorem lo_f {y v : Int} (h : SunOk (1461 * (y + 4712).fdiv 4 + 365 * (y + 4712).fmod 4 + 60 + 20 + tabF (y.fmod 19)) v) : LawOld y false v := by
  unfold LawOld; rw [if_neg (fun x => Bool.false_ne_true x.1), Int.add_zero]; exact h
theorem lo_t0 {y v : Int} (h0 : y.fmod 19 ≠ 0) (h : SunOk (1461 * (y + 4712).fdiv 4 + 365 * (y + 4712).fmod 4 + 60 + 20 + tabF (y.fmod 19)) v) : LawOld y true v := by
  unfold LawOld; rw [if_neg (fun x => h0 x.2), Int.add_zero]; exact h
theorem lo_t1 {y v : Int} (h0 : y.fmod 19 = 0) (h : SunOk (1461 * (y + 4712).fdiv 4 + 365 * (y + 4712).fmod 4 + 60 + 20 + (tabF (y.fmod 19) + 1)) v) : LawOld y true v := by
  unfold LawOld; rw [if_pos ⟨rfl, h0⟩]; exact h
set_option maxRecDepth 100000 in
set_option maxHeartbeats 8000000 in
theorem c_lawold {w : World} {mean : ExcName → Option Value} {mg mb : Str → Option Value} (y : Int) (ty : Tok) (b : Bool) :
    Con w mean mg mb 3 144 True [.int y ty, .bool b] (RetTr (LawOld y b)) := by
  dsimp only [Con, RetTr]
  intros
  rename_i hret
  k_with_none
  refine wpAny_call ?_
  cases b
  all_goals k_dflt cell_enter
  all_goals k_steps
  all_goals (
    refine' hret _ _ _ _ ?q ?F (cb_drop ?N ?S)
    (case F => assumption)
    (case N => assumption)
    (case S => (intro p hp; simp only [List.mem_cons, hp, or_true]))
    (case q => first | exact lo_f (by assumption) | exact lo_t0 (by assumption) (by assumption) | exact lo_t1 (by assumption) (by assumption)))
end Mine
namespace Mine
local macro_rules | `(tactic| walk_at "no such key") => `(tactic| fail)
local macro_rules | `(tactic| walk_at "eval Call") => `(tactic| (k_here; k_dflt (refine Call_ ?_)))
local macro_rules | `(tactic| walk_at "subscriptTail Name BinOp ref int") => `(tactic| (k_here; (with_unfolding_all refine' item_anyK ?k1 ?k2 ?k3 ?k4 ?k5 ?_ ?k6; (case k1 => is_list); (case k2 => l_ints); (case k3 => l_idx); (case k4 => l_idx); (case k5 => l_idx); (case k6 => with_unfolding_all rfl); k_whole); intro _))
local macro_rules | `(tactic| walk_at "execs cons") => `(tactic| (k_here; (with_reducible refine wpAny_execs_cons ?_); (try dsimp only)))
local macro_rules | `(tactic| walk_at "call ref") => `(tactic| (k_here; k_dflt (first | refine' use (c_first _ _) ?k1 ?k2 ?k3 ?k4 ?k5 ?kK ?kp ?kd ?ku ?_); (case k1 => k_asm); (case k2 => k_asm); (case k3 => k_asm); (case k4 => k_asm); (case k5 => k_asm); (case kK => first | exact rfl | assumption); (case kp => first | trivial | assumption | omega | k_extra "pre"); (case kd => ktr_room); (case ku => ktr_units); intro t9 h9 tk9 F9 N9; (try dsimp only); (try k_fold)))

theorem fd {n : Int} (a : Int) (h : 0 ≤ n) : a.fdiv n = a / n := Int.fdiv_eq_ediv_of_nonneg _ h
theorem fm {n : Int} (a : Int) (h : 0 ≤ n) : a.fmod n = a % n := Int.fmod_eq_emod_of_nonneg _ h
-- the days ahead of the year z + 1, from the year 1 on
def dP (z : Int) : Int := 365 * z + z / 4 - z / 100 + z / 400
theorem dv {z b k r : Int} (hk : z = k * b + r) (h0 : 0 ≤ r) (h1 : r < b) : z / b = k := by
  subst hk
  rw [Int.add_comm, Int.add_mul_ediv_right _ _ (by omega), Int.ediv_eq_zero_of_lt h0 h1, Int.zero_add]
theorem dP_eq {q c u i : Int} (c0 : 0 ≤ c) (c3 : c ≤ 3) (u0 : 0 ≤ u) (u4 : u ≤ 24) (i0 : 0 ≤ i) (i3 : i ≤ 3) :
    dP (400 * q + 100 * c + 4 * u + i) = 146097 * q + 36524 * c + 1461 * u + 365 * i := by
  unfold dP
  rw [dv (b := 4) (k := 100 * q + 25 * c + u) (r := i) (by omega) i0 (by omega),
    dv (b := 100) (k := 4 * q + c) (r := 4 * u + i) (by omega) (by omega) (by omega),
    dv (b := 400) (k := q) (r := 100 * c + (4 * u + i)) (by omega) (by omega) (by omega)]
  omega
theorem dP_s (z : Int) : dP (z + 1) = dP z + (if (z + 1) % 4 = 0 ∧ ((z + 1) % 100 ≠ 0 ∨ (z + 1) % 400 = 0) then 366 else 365) := by
  unfold dP
  have s4 : (z + 1) / 4 = z / 4 + (if (z + 1) % 4 = 0 then 1 else 0) := by split <;> omega
  have s100 : (z + 1) / 100 = z / 100 + (if (z + 1) % 100 = 0 then 1 else 0) := by split <;> omega
  have s400 : (z + 1) / 400 = z / 400 + (if (z + 1) % 400 = 0 then 1 else 0) := by split <;> omega
  have i1 : (z + 1) % 400 = 0 → (z + 1) % 100 = 0 := by omega
  have i2 : (z + 1) % 100 = 0 → (z + 1) % 4 = 0 := by omega
  rw [s4, s100, s400]
  generalize (z + 1) % 4 = a4 at *
  generalize (z + 1) % 100 = a100 at *
  generalize (z + 1) % 400 = a400 at *
  clear s4 s100 s400
  by_cases h4 : a4 = 0 <;> by_cases h100 : a100 = 0 <;> by_cases h400 : a400 = 0 <;> simp [h4, h100, h400] at i1 i2 ⊢ <;> omega
theorem dP_mono {z z' : Int} (h : z ≤ z') : dP z ≤ dP z' := by
  unfold dP
  omega
theorem firstF_s (y : Int) : firstF y = 1721426 + dP (y - 1) := by
  unfold firstF dP
  simp only [fd _ (show (0 : Int) ≤ 400 by decide), fd _ (show (0 : Int) ≤ 4 by decide), fd _ (show (0 : Int) ≤ 100 by decide), fm _ (show (0 : Int) ≤ 400 by decide)]
  have h4 : (y - 1) / 4 = 100 * ((y - 2000) / 400) + 500 + ((y - 2000) % 400 + 3) / 4 - 1 := by omega
  have h100 : (y - 1) / 100 = 4 * ((y - 2000) / 400) + 20 + ((y - 2000) % 400 + 99) / 100 - 1 := by omega
  have h400 : (y - 1) / 400 = (y - 2000) / 400 + 5 + ((y - 2000) % 400 + 399) / 400 - 1 := by omega
  have hy : y = 400 * ((y - 2000) / 400) + (y - 2000) % 400 + 2000 := by omega
  have hb : 0 ≤ (y - 2000) % 400 ∧ (y - 2000) % 400 < 400 := by omega
  rw [h4, h100, h400]
  generalize (y - 2000) / 400 = q at *
  generalize (y - 2000) % 400 = r at *
  subst hy
  clear h4 h100 h400
  split <;> omega
theorem leap_len (y : Int) : firstF (y + 1) - firstF y = if isleapF y = true then 366 else 365 := by
  rw [firstF_s, firstF_s, show y + 1 - 1 = y - 1 + 1 by omega, dP_s, show y - 1 + 1 = y by omega]
  unfold isleapF
  simp only [Bool.and_eq_true, Bool.or_eq_true, Bool.not_eq_true', decide_eq_true_eq, decide_eq_false_iff_not, ne_eq]
  omega
theorem first_len (y : Int) : firstF (y + 1) - firstF y = 365 ∨ firstF (y + 1) - firstF y = 366 := by
  rw [leap_len]
  split
  · exact .inr rfl
  · exact .inl rfl
def mlen (l : Int) : List Int := [31, l - 337, 31, 30, 31, 30, 31, 31, 30, 31, 30, 31]
/-- the days ahead of a month of a year of l days -/
def cumL (l m : Int) : Int := ((mlen l).take (m - 1).toNat).sum
theorem take_step : ∀ (l : List Int) (k : Nat), k < l.length → (l.take (k + 1)).sum = (l.take k).sum + l.getD k 0
  | [], _, h => absurd h (Nat.not_lt_zero _)
  | a :: l, 0, _ => by simp
  | a :: l, k + 1, h => by
    have := take_step l k (Nat.lt_of_succ_lt_succ h)
    simp only [List.take_succ_cons, List.sum_cons, List.getD_cons_succ] at this ⊢
    rw [this, Int.add_assoc]
theorem take_mono : ∀ (l : List Int) (i j : Nat), (∀ x ∈ l, 0 ≤ x) → i ≤ j → (l.take i).sum ≤ (l.take j).sum
  | [], _, _, _, _ => by simp
  | a :: l, 0, 0, _, _ => by simp
  | a :: l, 0, j + 1, h, _ => by
    have h1 := take_mono l 0 j (fun x hx => h x (List.mem_cons_of_mem _ hx)) (Nat.zero_le _)
    have h2 := h a List.mem_cons_self
    simp only [List.take_zero, List.take_succ_cons, List.sum_cons, List.sum_nil] at h1 ⊢
    exact Int.add_nonneg h2 h1
  | a :: l, i + 1, 0, _, h => absurd h (Nat.not_succ_le_zero _)
  | a :: l, i + 1, j + 1, h, h2 => by
    have h1 := take_mono l i j (fun x hx => h x (List.mem_cons_of_mem _ hx)) (Nat.le_of_succ_le_succ h2)
    simp only [List.take_succ_cons, List.sum_cons]
    exact Int.add_le_add_left h1 _
theorem cum_step {l m : Int} (h1 : 1 ≤ m) (h2 : m ≤ 12) : cumL l (m + 1) = cumL l m + (mlen l).getD (m - 1).toNat 0 := by
  unfold cumL
  rw [show (m + 1 - 1).toNat = (m - 1).toNat + 1 by omega]
  exact take_step _ _ (show _ < 12 by omega)
theorem cum_mono {l m m' : Int} (hl : 337 ≤ l) (h : m ≤ m') : cumL l m ≤ cumL l m' := by
  refine take_mono _ _ _ ?_ (by omega)
  have h2 : 0 ≤ l - 337 := by omega
  intro x hx
  simp only [mlen, List.mem_cons, List.not_mem_nil, or_false] at hx
  rcases hx with rfl | rfl | rfl | rfl | rfl | rfl | rfl | rfl | rfl | rfl | rfl | rfl <;> first | exact h2 | decide
theorem cum_end (l : Int) : cumL l 13 = l := by
  show 31 + (l - 337 + (31 + (30 + (31 + (30 + (31 + (31 + (30 + (31 + (30 + (31 + 0))))))))))) = l
  omega
def DInv (n y m d : Int) : Prop := firstF y ≤ n ∧ n < firstF (y + 1) ∧ 1 ≤ d ∧ n - firstF y + 1 = cumL (firstF (y + 1) - firstF y) m + d
theorem meas1 {n y : Int} (h : firstF y > n) : (firstF (y - 1) - n).toNat < (firstF y - n).toNat := by
  have := first_len (y - 1)
  rw [show y - 1 + 1 = y by omega] at this
  omega
theorem meas2 {n y : Int} (h : firstF (y + 1) ≤ n) : (n - firstF (y + 1)).toNat < (n - firstF y).toNat := by
  have := first_len y
  omega
theorem d_start {n y : Int} (h : firstF y ≤ n) (h2 : ¬ firstF (y + 1) ≤ n) : 1 ≤ (1 : Int) ∧ (1 : Int) ≤ 12 ∧ DInv n y 1 (n - firstF y + 1) :=
  ⟨by decide, by decide, h, Int.not_le.mp h2, by omega, (Int.zero_add _).symm⟩
theorem d_stepL {n f e m d g : Int} (h1 : 1 ≤ m) (h2 : m ≤ 12) (hg : g = (mlen (e - f)).getD (m - 1).toNat 0) (h : f ≤ n ∧ n < e ∧ 1 ≤ d ∧ n - f + 1 = cumL (e - f) m + d) (h3 : g < d) :
    1 ≤ m + 1 ∧ m + 1 ≤ 12 ∧ f ≤ n ∧ n < e ∧ 1 ≤ d - g ∧ n - f + 1 = cumL (e - f) (m + 1) + (d - g) := by
  obtain ⟨a, b, c, k⟩ := h
  have hs := cum_step (l := e - f) h1 h2
  rw [← hg] at hs
  have h12 : m ≠ 12 := by
    intro hm
    have he := cum_end (e - f)
    rw [hm] at hs k
    rw [show (13 : Int) = 12 + 1 from rfl, hs] at he
    omega
  rw [hs]
  generalize cumL (e - f) m = w at *
  clear hs hg
  refine ⟨?_, ?_, a, b, ?_, ?_⟩ <;> omega
theorem d_step {n y m d : Int} (h1 : 1 ≤ m) (h2 : m ≤ 12) (h : DInv n y m d) (h3 : ([31, firstF (y + 1) - firstF y - 337, 31, 30, 31, 30, 31, 31, 30, 31, 30, 31] : List Int).getD (m - 1).toNat 0 < d) : 1 ≤ m + 1 ∧ m + 1 ≤ 12 ∧ DInv n y (m + 1) (d - ([31, firstF (y + 1) - firstF y - 337, 31, 30, 31, 30, 31, 31, 30, 31, 30, 31] : List Int).getD (m - 1).toNat 0) :=
  d_stepL h1 h2 rfl h h3
abbrev DateOk (n y m d : Int) : Prop := 1 ≤ m ∧ m ≤ 12 ∧ DInv n y m d ∧ d ≤ (mlen (firstF (y + 1) - firstF y)).getD (m - 1).toNat 0
theorem d_end {n y m d : Int} (h1 : 1 ≤ m) (h2 : m ≤ 12) (h : DInv n y m d) (h3 : ¬ ([31, firstF (y + 1) - firstF y - 337, 31, 30, 31, 30, 31, 31, 30, 31, 30, 31] : List Int).getD (m - 1).toNat 0 < d) : DateOk n y m d := ⟨h1, h2, h, Int.not_lt.mp h3⟩
abbrev RetD (n : Int) (h₀ : Heap) (L : Addr) (m : Str → Option Value) (news : List (Addr × Obj)) (s : Shared) (Q : Value → Shared → Prop) : Prop :=
  ∀ (y k d : Int), DateOk n y k d → RetT y k d h₀ L m news s Q
set_option maxRecDepth 100000 in
set_option maxHeartbeats 1500000 in
theorem c_lawdate {w : World} {mean : ExcName → Option Value} {mg mb : Str → Option Value} (n : Int) (tn : Tok) :
    Con w mean mg mb 3 123 True [.int n tn] (RetD n) := by
  dsimp only [Con]
  intros
  rename_i hret
  k_with_none
  refine wpAny_call ?_
  k_dflt cell_enter
  k_with "exec While Compare cons nil" => k_while_given ["number"] (fun n script y => True) (fun n script y => (firstF y - n).toNat) "year"
  k_with "exec While Compare cons nil" => k_while_given ["number"] (fun n script y => firstF y ≤ n) (fun n script y => (n - firstF y).toNat) "year"
  k_with "exec While Compare cons nil" => k_while_given ["number", "year"] (fun n y script m d => 1 ≤ m ∧ m ≤ 12 ∧ DInv n y m d) (fun n y script m d => (13 - m).toNat) "month" "day"
  k_with "state" => first | (with_reducible refine d_step ?_ ?_ ?_ ?_ <;> with_reducible assumption) | (with_reducible refine d_start ?_ ?_ <;> with_reducible assumption)
  k_with "measure" => first | exact meas1 (by with_reducible assumption) | exact meas2 (by with_reducible assumption)
  k_steps
  all_goals (
    refine' retT_end (hret _ _ _ ?W) ?F ?N ?M ?S ?L ?e1 ?e2 ?e3
    (case F => with_reducible assumption)
    (case N => with_reducible assumption)
    (case M => k_mem)
    (case S => (intro p hp; simp only [List.mem_cons, hp, or_true]))
    (case L => first | exact And.right (a := _ < _) (by assumption) | exact allLt_of (by assumption))
    (case e1 => rfl)
    (case e2 => rfl)
    (case e3 => rfl)
    (with_reducible refine d_end ?_ ?_ ?_ ?_ <;> with_reducible assumption))
end Mine
namespace Mine
local macro_rules | `(tactic| walk_at "no such key") => `(tactic| fail)
local macro_rules | `(tactic| walk_at "call ref") => `(tactic| (k_here; refine wpAny_call ?_; k_dflt (refine' code_def ?k1 ?k2 ?k3 ?k4 ?k5 ?kA ?kF ?kK ?k6 ?k7 ?k8 ?k9 ?kB ?_ ?c2 ?c3 ?c4 ?c5; (case kA => exact rfl); (case kF => exact rfl); (case kK => first | exact rfl | assumption); (case k1 => k_asm); (case k2 => k_asm); (case k3 => k_asm); (case k4 => k_asm); (case k5 => k_asm); (case k6 => k_is); (case k7 => k_is); (case k8 => ktr_room); (case k9 => first | exact BindsTo.of_eq rfl | exact binds_K (by k_in) rfl (by k_is) rfl rfl rfl); (case c5 => decide); (case kB => exact locs rfl); (case c2 => exact rfl); (case c3 => exact rfl); (case c4 => exact rfl); k_whole; intro g' L' h' FG' F' N' B' X' T'; (try dsimp only); (try k_lift B'); (try k_fold))))
local macro_rules | `(tactic| walk_at "eval Call") => `(tactic| (k_here; k_dflt (refine Call_ ?_)))

theorem fm_b (a : Int) {n : Int} (h : 0 < n) : 0 ≤ a.fmod n ∧ a.fmod n < n := by
  rw [Int.fmod_eq_emod_of_nonneg _ (by omega)]
  exact ⟨Int.emod_nonneg _ (by omega), Int.emod_lt_of_pos _ h⟩
theorem tj1 (X Y : Int) : 0 ≤ 113 + X.fmod 30 + Y.fmod 7 + 1 ∧ (0 : Int) < 31 ∧ (31 : Int) ≤ 1000 := by
  have := fm_b X (n := 30) (by decide)
  have := fm_b Y (n := 7) (by decide)
  omega
theorem tj2 (X Y : Int) : 0 ≤ 113 + (X.fmod 30 + 1) + Y.fmod 7 + 1 ∧ (0 : Int) < 31 ∧ (31 : Int) ≤ 1000 := by
  have := fm_b X (n := 30) (by decide)
  have := fm_b Y (n := 7) (by decide)
  omega
theorem jul_ok {a v : Int} (h1 : 114 ≤ a) (h2 : a ≤ 151) (h : TrP a 31 v) : JulOk v (a.fmod 31 + 1) := by
  rw [Int.fmod_eq_emod_of_nonneg _ (by decide)]
  unfold JulOk
  omega
theorem jul_ok1 {X Y v : Int} (h : TrP (113 + X.fmod 30 + Y.fmod 7 + 1) 31 v) : JulOk v ((113 + X.fmod 30 + Y.fmod 7 + 1).fmod 31 + 1) := by
  have := fm_b X (n := 30) (by decide)
  have := fm_b Y (n := 7) (by decide)
  exact jul_ok (by omega) (by omega) h
theorem jul_ok2 {X Y v : Int} (h : TrP (113 + (X.fmod 30 + 1) + Y.fmod 7 + 1) 31 v) : JulOk v ((113 + (X.fmod 30 + 1) + Y.fmod 7 + 1).fmod 31 + 1) := by
  have := fm_b X (n := 30) (by decide)
  have := fm_b Y (n := 7) (by decide)
  exact jul_ok (by omega) (by omega) h
inductive OldRel (y : Int) (b : Bool) : Int → Int → Int → Prop
  | mk (d a v : Int) (hd : d = (19 * y.fmod 19 + 15).fmod 30 + (if b = true ∧ y.fmod 19 = 0 then 1 else 0)) (ha : a = 113 + d + (2 * y.fmod 4 + 4 * y.fmod 7 - d + 6).fmod 7 + 1) (hv : TrP a 31 v) :
    OldRel y b (fjY (toJdJ y v (a.fmod 31 + 1))) (fjM (toJdJ y v (a.fmod 31 + 1))) (fjD (toJdJ y v (a.fmod 31 + 1)))
theorem old_of {y d v : Int} {b : Bool} (hd : d = (19 * y.fmod 19 + 15).fmod 30 + (if b = true ∧ y.fmod 19 = 0 then 1 else 0)) (hv : TrP (113 + d + (2 * y.fmod 4 + 4 * y.fmod 7 - d + 6).fmod 7 + 1) 31 v) :
    OldRel y b (fjY (toJdJ y v ((113 + d + (2 * y.fmod 4 + 4 * y.fmod 7 - d + 6).fmod 7 + 1).fmod 31 + 1))) (fjM (toJdJ y v ((113 + d + (2 * y.fmod 4 + 4 * y.fmod 7 - d + 6).fmod 7 + 1).fmod 31 + 1))) (fjD (toJdJ y v ((113 + d + (2 * y.fmod 4 + 4 * y.fmod 7 - d + 6).fmod 7 + 1).fmod 31 + 1))) := ⟨d, _, v, hd, rfl, hv⟩
theorem od_f (y : Int) : (19 * y.fmod 19 + 15).fmod 30 = (19 * y.fmod 19 + 15).fmod 30 + (if false = true ∧ y.fmod 19 = 0 then 1 else 0) := by
  rw [if_neg (fun x => Bool.false_ne_true x.1), Int.add_zero]
theorem od_t0 {y : Int} (h : y.fmod 19 ≠ 0) : (19 * y.fmod 19 + 15).fmod 30 = (19 * y.fmod 19 + 15).fmod 30 + (if true = true ∧ y.fmod 19 = 0 then 1 else 0) := by
  rw [if_neg (fun x => h x.2), Int.add_zero]
theorem od_t1 {y : Int} (h : y.fmod 19 = 0) : (19 * y.fmod 19 + 15).fmod 30 + 1 = (19 * y.fmod 19 + 15).fmod 30 + (if true = true ∧ y.fmod 19 = 0 then 1 else 0) := by
  rw [if_pos ⟨rfl, h⟩]
abbrev RetO (y : Int) (b : Bool) (h₀ : Heap) (L : Addr) (m : Str → Option Value) (news : List (Addr × Obj)) (s : Shared) (Q : Value → Shared → Prop) : Prop :=
  ∀ (Y M D : Int), OldRel y b Y M D → RetT Y M D h₀ L m news s Q
local macro_rules | `(tactic| walk_at "call ref") => `(tactic| (k_here; k_dflt (first | refine' use (c_truncP _ _ _ _) ?k1 ?k2 ?k3 ?k4 ?k5 ?kK ?kp ?kd ?ku ?_); (case k1 => k_asm); (case k2 => k_asm); (case k3 => k_asm); (case k4 => k_asm); (case k5 => k_asm); (case kK => first | exact rfl | assumption); (case kp => with_reducible first | exact tj1 _ _ | exact tj2 _ _); (case kd => ktr_room); (case ku => ktr_units); intro v9 t9 h9 tk9 q9 F9 N9; (try dsimp only); (try k_fold)))
local macro_rules | `(tactic| walk_at "call ref") => `(tactic| (k_here; k_dflt (first | refine' use (c_west _ _) ?k1 ?k2 ?k3 ?k4 ?k5 ?kK ?kp ?kd ?ku ?_); (case k1 => k_asm); (case k2 => k_asm); (case k3 => k_asm); (case k4 => k_asm); (case k5 => k_asm); (case kK => first | exact rfl | assumption); (case kp => first | trivial | assumption | omega | k_extra "pre"); (case kd => ktr_room); (case ku => ktr_units); intro M9 E9 q9 D9 t9 u9 v9 c9 h9 tk9 F9 N9 l9; (try k_lt l9); (try dsimp only); (try k_fold)))
local macro_rules | `(tactic| walk_at "call ref") => `(tactic| (k_here; k_dflt (first | refine' use (c_togreg _ _ _ _ _ _) ?k1 ?k2 ?k3 ?k4 ?k5 ?kK ?kp ?kd ?ku ?_); (case k1 => k_asm); (case k2 => k_asm); (case k3 => k_asm); (case k4 => k_asm); (case k5 => k_asm); (case kK => first | exact rfl | assumption); (case kp => with_reducible first | exact jul_ok1 (by assumption) | exact jul_ok2 (by assumption)); (case kd => ktr_room); (case ku => ktr_units); intro  D9 t9 u9 v9 c9 h9 tk9 F9 N9 l9; (try k_lt l9); (try dsimp only); (try k_fold)))

set_option maxRecDepth 100000 in
set_option maxHeartbeats 8000000 in
theorem c_e0 {w : World} {mean : ExcName → Option Value} {mg mb : Str → Option Value} (y : Int) (ty : Tok) :
    Con w mean mg mb 12 94 (1583 ≤ y) [.int y ty] (RetW y) := by
  dsimp only [Con]
  intros
  rename_i hret
  k_with_none
  refine wpAny_call ?_
  k_dflt (refine' code_def ?k1 ?k2 ?k3 ?k4 ?k5 ?kA ?kF ?kK ?k6 ?k7 ?k8 ?k9 ?kB ?_ ?c2 ?c3 ?c4 ?c5; (case kA => exact rfl); (case kF => exact rfl); (case kK => first | exact rfl | assumption); (case k1 => k_asm); (case k2 => k_asm); (case k3 => k_asm); (case k4 => k_asm); (case k5 => k_asm); (case k6 => k_is); (case k7 => k_is); (case k8 => ktr_room); (case k9 => first | exact BindsTo.of_eq rfl | exact binds_K (by k_in) rfl (by k_is) rfl rfl rfl); (case c5 => decide); (case kB => exact locs rfl); (case c2 => exact rfl); (case c3 => exact rfl); (case c4 => exact rfl); k_whole; intro g' L' h' FG' F' N' B' X' T'; (try dsimp only); (try k_lift B'); (try k_fold))
  k_steps
  all_goals (
    refine' retT_end (hret _  _ ?W) ?F ?N ?M ?S ?L ?e1 ?e2 ?e3
    (case F => with_reducible assumption)
    (case N => with_reducible assumption)
    (case M => k_mem)
    (case S => (intro p hp; simp only [List.mem_cons, hp, or_true]))
    (case L => first | assumption | exact And.right (a := _ < _) (by assumption) | exact allLt_of (by assumption))
    (case e1 => rfl)
    (case e2 => rfl)
    (case e3 => rfl)
    (case W => with_reducible assumption))

set_option maxRecDepth 100000 in
set_option maxHeartbeats 8000000 in
theorem c_e1 {w : World} {mean : ExcName → Option Value} {mg mb : Str → Option Value} (y : Int) (ty : Tok) (t1 : Tok) :
    Con w mean mg mb 12 94 (1583 ≤ y) [.int y ty, .str (Str.ofString "western") t1] (RetW y) := by
  dsimp only [Con]
  intros
  rename_i hret
  k_with_none
  refine wpAny_call ?_
  k_dflt (refine' code_def ?k1 ?k2 ?k3 ?k4 ?k5 ?kA ?kF ?kK ?k6 ?k7 ?k8 ?k9 ?kB ?_ ?c2 ?c3 ?c4 ?c5; (case kA => exact rfl); (case kF => exact rfl); (case kK => first | exact rfl | assumption); (case k1 => k_asm); (case k2 => k_asm); (case k3 => k_asm); (case k4 => k_asm); (case k5 => k_asm); (case k6 => k_is); (case k7 => k_is); (case k8 => ktr_room); (case k9 => first | exact BindsTo.of_eq rfl | exact binds_K (by k_in) rfl (by k_is) rfl rfl rfl); (case c5 => decide); (case kB => exact locs rfl); (case c2 => exact rfl); (case c3 => exact rfl); (case c4 => exact rfl); k_whole; intro g' L' h' FG' F' N' B' X' T'; (try dsimp only); (try k_lift B'); (try k_fold))
  k_steps
  all_goals (
    refine' retT_end (hret _  _ ?W) ?F ?N ?M ?S ?L ?e1 ?e2 ?e3
    (case F => with_reducible assumption)
    (case N => with_reducible assumption)
    (case M => k_mem)
    (case S => (intro p hp; simp only [List.mem_cons, hp, or_true]))
    (case L => first | assumption | exact And.right (a := _ < _) (by assumption) | exact allLt_of (by assumption))
    (case e1 => rfl)
    (case e2 => rfl)
    (case e3 => rfl)
    (case W => with_reducible assumption))

set_option maxRecDepth 100000 in
set_option maxHeartbeats 8000000 in
theorem c_e2 {w : World} {mean : ExcName → Option Value} {mg mb : Str → Option Value} (y : Int) (ty : Tok) (t1 : Tok) :
    Con w mean mg mb 12 94 True [.int y ty, .str (Str.ofString "orthodox") t1] (RetO y false) := by
  dsimp only [Con]
  intros
  rename_i hret
  k_with_none
  refine wpAny_call ?_
  k_dflt (refine' code_def ?k1 ?k2 ?k3 ?k4 ?k5 ?kA ?kF ?kK ?k6 ?k7 ?k8 ?k9 ?kB ?_ ?c2 ?c3 ?c4 ?c5; (case kA => exact rfl); (case kF => exact rfl); (case kK => first | exact rfl | assumption); (case k1 => k_asm); (case k2 => k_asm); (case k3 => k_asm); (case k4 => k_asm); (case k5 => k_asm); (case k6 => k_is); (case k7 => k_is); (case k8 => ktr_room); (case k9 => first | exact BindsTo.of_eq rfl | exact binds_K (by k_in) rfl (by k_is) rfl rfl rfl); (case c5 => decide); (case kB => exact locs rfl); (case c2 => exact rfl); (case c3 => exact rfl); (case c4 => exact rfl); k_whole; intro g' L' h' FG' F' N' B' X' T'; (try dsimp only); (try k_lift B'); (try k_fold))
  k_steps
  all_goals (
    refine' retT_end (hret _ _ _ ?W) ?F ?N ?M ?S ?L ?e1 ?e2 ?e3
    (case F => with_reducible assumption)
    (case N => with_reducible assumption)
    (case M => k_mem)
    (case S => (intro p hp; simp only [List.mem_cons, hp, or_true]))
    (case L => first | assumption | exact And.right (a := _ < _) (by assumption) | exact allLt_of (by assumption))
    (case e1 => rfl)
    (case e2 => rfl)
    (case e3 => rfl)
    (case W => with_reducible exact old_of (od_f _) (by assumption)))

set_option maxRecDepth 100000 in
set_option maxHeartbeats 8000000 in
theorem c_e3 {w : World} {mean : ExcName → Option Value} {mg mb : Str → Option Value} (y : Int) (ty : Tok) (t1 : Tok) :
    Con w mean mg mb 12 94 True [.int y ty, .str (Str.ofString "eastern") t1] (RetO y true) := by
  dsimp only [Con]
  intros
  rename_i hret
  k_with_none
  refine wpAny_call ?_
  k_dflt (refine' code_def ?k1 ?k2 ?k3 ?k4 ?k5 ?kA ?kF ?kK ?k6 ?k7 ?k8 ?k9 ?kB ?_ ?c2 ?c3 ?c4 ?c5; (case kA => exact rfl); (case kF => exact rfl); (case kK => first | exact rfl | assumption); (case k1 => k_asm); (case k2 => k_asm); (case k3 => k_asm); (case k4 => k_asm); (case k5 => k_asm); (case k6 => k_is); (case k7 => k_is); (case k8 => ktr_room); (case k9 => first | exact BindsTo.of_eq rfl | exact binds_K (by k_in) rfl (by k_is) rfl rfl rfl); (case c5 => decide); (case kB => exact locs rfl); (case c2 => exact rfl); (case c3 => exact rfl); (case c4 => exact rfl); k_whole; intro g' L' h' FG' F' N' B' X' T'; (try dsimp only); (try k_lift B'); (try k_fold))
  k_steps
  all_goals (
    refine' retT_end (hret _ _ _ ?W) ?F ?N ?M ?S ?L ?e1 ?e2 ?e3
    (case F => with_reducible assumption)
    (case N => with_reducible assumption)
    (case M => k_mem)
    (case S => (intro p hp; simp only [List.mem_cons, hp, or_true]))
    (case L => first | assumption | exact And.right (a := _ < _) (by assumption) | exact allLt_of (by assumption))
    (case e1 => rfl)
    (case e2 => rfl)
    (case e3 => rfl)
    (case W => with_reducible first | exact old_of (od_t0 (by assumption)) (by assumption) | exact old_of (od_t1 (by assumption)) (by assumption)))
end Mine
namespace Mine
theorem first_mono {y y' : Int} (h : y ≤ y') : firstF y ≤ firstF y' := by
  rw [firstF_s, firstF_s]
  exact Int.add_le_add_left (dP_mono (Int.sub_le_sub_right h 1)) _
theorem year_unique {n y y' : Int} (h1 : firstF y ≤ n) (h2 : n < firstF (y + 1)) (h3 : firstF y' ≤ n) (h4 : n < firstF (y' + 1)) : y = y' := by
  rcases Int.lt_trichotomy y y' with h | h | h
  · exact absurd (Int.lt_of_lt_of_le h2 (first_mono h)) (Int.not_lt.mpr h3)
  · exact h
  · exact absurd (Int.lt_of_lt_of_le h4 (first_mono h)) (Int.not_lt.mpr h1)
theorem month_unique {l t m d m' d' : Int} (hl : 337 ≤ l) (h1 : 1 ≤ m) (h2 : m ≤ 12) (a' : 1 ≤ d') (e : t = cumL l m + d) (e' : t = cumL l m' + d')
    (b : d ≤ (mlen l).getD (m - 1).toNat 0) : ¬ m < m' := by
  intro h
  have s := cum_step (l := l) h1 h2
  have mo := cum_mono hl (show m + 1 ≤ m' from h)
  rw [s] at mo
  clear s
  generalize cumL l m = A at *
  generalize cumL l m' = B at *
  generalize (mlen l).getD (m - 1).toNat 0 = G at *
  clear h1 h2 hl h
  omega
theorem date_unique {n y m d y' m' d' : Int} (h : DateOk n y m d) (h' : DateOk n y' m' d') : y = y' ∧ m = m' ∧ d = d' := by
  obtain ⟨a1, a2, ⟨a3, a4, a5, a6⟩, a7⟩ := h
  obtain ⟨b1, b2, ⟨b3, b4, b5, b6⟩, b7⟩ := h'
  have hy := year_unique a3 a4 b3 b4
  subst hy
  have hl : 337 ≤ firstF (y + 1) - firstF y := by rcases first_len y with h | h <;> rw [h] <;> decide
  have hm : m = m' := by
    rcases Int.lt_trichotomy m m' with h | h | h
    · exact absurd h (month_unique hl a1 a2 b5 a6 b6 a7)
    · exact h
    · exact absurd h (month_unique hl b1 b2 a5 b6 a6 b7)
  subst hm
  exact ⟨rfl, rfl, Int.add_left_cancel (a6.symm.trans b6)⟩

-- from_jd
def adj (b : Bool) (m : Int) : Int := if m ≤ 2 then 0 else if b = true then -1 else -2
theorem month_tab : ∀ b : Bool, ∀ k : Fin 12, (367 * ((k.val : Int) + 1) - 362) / 12 + adj b ((k.val : Int) + 1) = cumL (if b = true then 366 else 365) ((k.val : Int) + 1) := by decide +kernel
theorem toJdF_m {y m : Int} (h1 : 1 ≤ m) (h2 : m ≤ 12) : toJdF y m 1 = firstF y + cumL (firstF (y + 1) - firstF y) m := by
  have h := month_tab (isleapF y) ⟨(m - 1).toNat, by omega⟩
  rw [show (((⟨(m - 1).toNat, by omega⟩ : Fin 12).val : Nat) : Int) + 1 = m by show ((m - 1).toNat : Int) + 1 = m; omega] at h
  rw [leap_len, firstF_s]
  unfold toJdF dP
  unfold adj at h
  simp only [fd _ (show (0 : Int) ≤ 4 by decide), fd _ (show (0 : Int) ≤ 100 by decide), fd _ (show (0 : Int) ≤ 400 by decide), fd _ (show (0 : Int) ≤ 12 by decide)]
  rw [h]
  generalize cumL (if isleapF y = true then 366 else 365) m = A
  clear h h1 h2
  omega
theorem toJdF_1 (y : Int) : toJdF y 1 1 = firstF y := by
  rw [toJdF_m (by decide) (by decide)]
  exact Int.add_zero _
/-- the three places of a day in its four hundred years -/
theorem fj4 {q r c e u f i : Int} (c0 : 0 ≤ c) (u0 : 0 ≤ u) (h1 : r = 36524 * c + e) (he : 0 ≤ e ∧ e < 36524) (h2 : e = 1461 * u + f) (hf : 0 ≤ f ∧ f < 1461) (hr : r < 146097) (hc : c = 4) (i0 : 365 * i ≤ f) (i1 : 0 ≤ i) :
    firstF (q * 400 + c * 100 + u * 4 + i) ≤ 1721426 + (146097 * q + r) ∧ 1721426 + (146097 * q + r) < firstF (q * 400 + c * 100 + u * 4 + i + 1) := by
  subst hc
  have P1 := dP_eq (q := q) (c := 3) (u := 24) (i := 3) (by decide) (by decide) (by decide) (by decide) (by decide) (by decide)
  have P2 := dP_eq (q := q + 1) (c := 0) (u := 0) (i := 0) (by decide) (by decide) (by decide) (by decide) (by decide) (by decide)
  have e0 : e = 0 := by clear P1 P2 h2 hf i0; omega
  have uz : u = 0 := by clear P1 P2 h1 hr i0; omega
  have iz : i = 0 := by clear P1 P2 h1 hr he; omega
  subst uz; subst iz
  rw [firstF_s, firstF_s, show q * 400 + 4 * 100 + 0 * 4 + 0 - 1 = 400 * q + 100 * 3 + 4 * 24 + 3 by omega, show q * 400 + 4 * 100 + 0 * 4 + 0 + 1 - 1 = 400 * (q + 1) + 100 * 0 + 4 * 0 + 0 by omega, P1, P2]
  clear P1 P2 i0 h2 hf
  constructor <;> omega
theorem fji {q r c e u f g : Int} (c0 : 0 ≤ c) (u0 : 0 ≤ u) (h1 : r = 36524 * c + e) (he : e < 36524) (h2 : e = 1461 * u + f) (hf : f < 1461) (hr : r < 146097) (h3 : f = 365 * 4 + g) (hg : 0 ≤ g) :
    firstF (q * 400 + c * 100 + u * 4 + 4) ≤ 1721426 + (146097 * q + r) ∧ 1721426 + (146097 * q + r) < firstF (q * 400 + c * 100 + u * 4 + 4 + 1) := by
  have c3 : c ≤ 3 := by omega
  have u3 : u ≤ 23 := by clear hr h1; omega
  have P1 := dP_eq (q := q) (c := c) (u := u) (i := 3) c0 c3 u0 (Int.le_trans u3 (by decide)) (by decide) (by decide)
  have P2 := dP_eq (q := q) (c := c) (u := u + 1) (i := 0) c0 c3 (Int.le_trans u0 (Int.le_add_of_nonneg_right (by decide))) (Int.le_trans (Int.add_le_add_right u3 1) (by decide)) (by decide) (by decide)
  rw [firstF_s, firstF_s, show q * 400 + c * 100 + u * 4 + 4 - 1 = 400 * q + 100 * c + 4 * u + 3 by clear P1 P2; omega, show q * 400 + c * 100 + u * 4 + 4 + 1 - 1 = 400 * q + 100 * c + 4 * (u + 1) + 0 by clear P1 P2; omega, P1, P2]
  subst h1; subst h2; subst h3
  clear P1 P2 c3 u3 hr he c0 u0
  constructor <;> omega
theorem fjn {q c u i g : Int} (c0 : 0 ≤ c) (c3 : c ≤ 3) (u0 : 0 ≤ u) (u4 : u ≤ 24) (i0 : 0 ≤ i) (i3 : i ≤ 3) (g0 : 0 ≤ g) (g1 : g < 365) :
    firstF (q * 400 + c * 100 + u * 4 + i + 1) ≤ 1721426 + (146097 * q + (36524 * c + (1461 * u + (365 * i + g)))) ∧ 1721426 + (146097 * q + (36524 * c + (1461 * u + (365 * i + g)))) < firstF (q * 400 + c * 100 + u * 4 + i + 1 + 1) := by
  have P1 := dP_eq (q := q) c0 c3 u0 u4 i0 i3
  have P2 := dP_s (400 * q + 100 * c + 4 * u + i)
  have e : q * 400 + c * 100 + u * 4 + i + 1 - 1 = 400 * q + 100 * c + 4 * u + i := by clear P1 P2; omega
  have e2 : q * 400 + c * 100 + u * 4 + i + 1 + 1 - 1 = q * 400 + c * 100 + u * 4 + i + 1 - 1 + 1 := by rw [Int.add_sub_cancel, Int.sub_add_cancel]
  have P3 : ∀ p : Prop, [Decidable p] → 365 ≤ (if p then 366 else 365 : Int) := fun p _ => by split <;> decide
  have P4 := P3 ((400 * q + 100 * c + 4 * u + i + 1) % 4 = 0 ∧ ((400 * q + 100 * c + 4 * u + i + 1) % 100 ≠ 0 ∨ (400 * q + 100 * c + 4 * u + i + 1) % 400 = 0))
  rw [firstF_s, firstF_s, e2, e, P2, P1]
  generalize (if (400 * q + 100 * c + 4 * u + i + 1) % 4 = 0 ∧ ((400 * q + 100 * c + 4 * u + i + 1) % 100 ≠ 0 ∨ (400 * q + 100 * c + 4 * u + i + 1) % 400 = 0) then 366 else 365 : Int) = K at *
  clear P1 P2 P3 e e2 c0 c3 u0 u4 i0 i3
  constructor <;> omega
theorem fj_year {J q r c e u f i g : Int} (hJ : J = 1721426 + (146097 * q + r)) (hr : 0 ≤ r ∧ r < 146097) (h1 : r = 36524 * c + e) (he : 0 ≤ e ∧ e < 36524) (h2 : e = 1461 * u + f) (hf : 0 ≤ f ∧ f < 1461) (h3 : f = 365 * i + g) (hg : 0 ≤ g ∧ g < 365) :
    ((c = 4 ∨ i = 4) → firstF (q * 400 + c * 100 + u * 4 + i) ≤ J ∧ J < firstF (q * 400 + c * 100 + u * 4 + i + 1)) ∧
    (¬ (c = 4 ∨ i = 4) → firstF (q * 400 + c * 100 + u * 4 + i + 1) ≤ J ∧ J < firstF (q * 400 + c * 100 + u * 4 + i + 1 + 1)) := by
  have c0 : 0 ≤ c := by clear h2 h3 hf hg hJ; omega
  have u0 : 0 ≤ u := by clear h1 h3 hr hg hJ; omega
  have i0 : 0 ≤ i := by clear h1 h2 hr he hJ; omega
  subst hJ
  constructor
  · rintro (h | h)
    · exact fj4 c0 u0 h1 he h2 hf hr.2 h (by rw [h3]; exact Int.le_add_of_nonneg_right hg.1) i0
    · subst h
      exact fji c0 u0 h1 he.2 h2 hf.2 hr.2 h3 hg.1
  · intro h
    have c3 : c ≤ 3 := by clear h2 h3 hf hg; omega
    have i3 : i ≤ 3 := by clear h1 h2 hr he; omega
    have u4 : u ≤ 24 := by clear h1 h3 hr hg; omega
    subst h1; subst h2; subst h3
    exact fjn c0 c3 u0 u4 i0 i3 hg.1 hg.2
theorem fjY_ok (J : Int) : firstF (fjY J) ≤ J ∧ J < firstF (fjY J + 1) := by
  have h := fj_year (J := J) (q := (J - 1721426) / 146097) (r := (J - 1721426) % 146097) (c := (J - 1721426) % 146097 / 36524) (e := (J - 1721426) % 146097 % 36524)
    (u := (J - 1721426) % 146097 % 36524 / 1461) (f := (J - 1721426) % 146097 % 36524 % 1461) (i := (J - 1721426) % 146097 % 36524 % 1461 / 365) (g := (J - 1721426) % 146097 % 36524 % 1461 % 365)
    (by rw [Int.mul_ediv_add_emod]; omega) ⟨Int.emod_nonneg _ (by decide), Int.emod_lt_of_pos _ (by decide)⟩ (Int.mul_ediv_add_emod _ _).symm ⟨Int.emod_nonneg _ (by decide), Int.emod_lt_of_pos _ (by decide)⟩
    (Int.mul_ediv_add_emod _ _).symm ⟨Int.emod_nonneg _ (by decide), Int.emod_lt_of_pos _ (by decide)⟩ (Int.mul_ediv_add_emod _ _).symm ⟨Int.emod_nonneg _ (by decide), Int.emod_lt_of_pos _ (by decide)⟩
  unfold fjY fjY0
  simp only [fd _ (show (0 : Int) ≤ 146097 by decide), fd _ (show (0 : Int) ≤ 36524 by decide), fd _ (show (0 : Int) ≤ 1461 by decide), fd _ (show (0 : Int) ≤ 365 by decide),
    fm _ (show (0 : Int) ≤ 146097 by decide), fm _ (show (0 : Int) ≤ 36524 by decide), fm _ (show (0 : Int) ≤ 1461 by decide)]
  split
  · rename_i h2
    exact h.1 h2
  · rename_i h2
    exact h.2 h2
def mOf (b : Bool) (t : Int) : Int := ((t + (if t < 58 + (if b = true then 1 else 0) then 0 else if b = true then 1 else 2)) * 12 + 373) / 367
def mChk (b : Bool) (t : Int) : Bool :=
  decide (1 ≤ mOf b t) && decide (mOf b t ≤ 12) && decide (cumL (if b = true then 366 else 365) (mOf b t) ≤ t) && decide (t < cumL (if b = true then 366 else 365) (mOf b t + 1))
theorem month_all : ∀ b : Bool, ∀ k : Fin 366, (!decide ((k.val : Int) < if b = true then 366 else 365) || mChk b k.val) = true := by decide +kernel
theorem month_ok {l t m : Int} {b : Bool} (hl : l = if b = true then 366 else 365) (h1 : 0 ≤ t) (h2 : t < l)
    (hm : m = mOf b t) : 1 ≤ m ∧ m ≤ 12 ∧ cumL l m ≤ t ∧ t < cumL l (m + 1) := by
  subst hl
  have h3 : t < 366 := by split at h2 <;> omega
  have h := month_all b ⟨t.toNat, by omega⟩
  rw [show (((⟨t.toNat, by omega⟩ : Fin 366).val : Nat) : Int) = t from Int.toNat_of_nonneg h1, decide_eq_true h2] at h
  simp only [mChk, Bool.not_true, Bool.false_or, Bool.and_eq_true, decide_eq_true_eq] at h
  subst hm
  exact ⟨h.1.1.1, h.1.1.2, h.1.2, h.2⟩
theorem fj_ok (J : Int) : DateOk J (fjY J) (fjM J) (fjD J) := by
  obtain ⟨h1, h2⟩ := fjY_ok J
  have hl := leap_len (fjY J)
  have hm : fjM J = mOf (isleapF (fjY J)) (J - firstF (fjY J)) := by
    unfold fjM fjMof mOf
    rw [toJdF_1, fd _ (show (0 : Int) ≤ 367 by decide)]
  obtain ⟨m1, m2, m3, m4⟩ := month_ok hl (Int.sub_nonneg_of_le h1) (Int.sub_lt_sub_right h2 _) hm
  have hd : fjD J = J - (firstF (fjY J) + cumL (firstF (fjY J + 1) - firstF (fjY J)) (fjM J)) + 1 := by
    unfold fjD
    rw [toJdF_m m1 m2]
  have hs := cum_step (l := firstF (fjY J + 1) - firstF (fjY J)) m1 m2
  rw [hs] at m4
  clear hl hm hs
  refine ⟨m1, m2, ⟨h1, h2, ?_, ?_⟩, ?_⟩ <;> clear m1 m2 h1 h2 <;> omega
theorem fj_is {J y m d : Int} (h : DateOk J y m d) : fjY J = y ∧ fjM J = m ∧ fjD J = d := date_unique (fj_ok J) h

-- the orthodox and the eastern Easter
theorem tab_all : ∀ k : Fin 19, tabF k.val = (19 * (k.val : Int) + 15) % 30 := by decide +kernel
theorem tab_e {k : Int} (h1 : 0 ≤ k) (h2 : k < 19) : tabF k = (19 * k + 15) % 30 := by
  have h := tab_all ⟨k.toNat, by omega⟩
  rw [show (((⟨k.toNat, by omega⟩ : Fin 19).val : Nat) : Int) = k from Int.toNat_of_nonneg h1] at h
  exact h
theorem sun_unique {n v w : Int} (h : SunOk n v) (h' : SunOk n w) : v = w := by
  omega
/-- the day number of the Julian Easter: `d` the moon, `a` the day of the year's ending -/
theorem julJ1 {R P z d e : Int} (hz : z % 7 = (4 * R + P - 4712) % 7) (he : e = (2 * P + 4 * (z % 7) - d + 6) % 7) :
    SunOk (1461 * R + 365 * P + 60 + 20 + d) (1461 * R + 365 * P + 1461 + (113 + d + e + 1) - 1494) := by
  refine ⟨by omega, by omega, ?_⟩
  omega
theorem julJ2 {a v : Int} (h1 : 114 ≤ a) (h2 : a ≤ 151) (hv : TrP a 31 v) : (306001 * (v + 1)) / 10000 + (a % 31 + 1) - 1524 = a - 1494 := by
  have hv' : v = 3 ∨ v = 4 := by omega
  rcases hv' with rfl | rfl
  · show 122 + (a % 31 + 1) - 1524 = a - 1494
    omega
  · show 153 + (a % 31 + 1) - 1524 = a - 1494
    omega
theorem julJ {y d a v : Int} (hd : 0 ≤ d ∧ d ≤ 30) (ha : a = 113 + d + (2 * (y % 4) + 4 * (y % 7) - d + 6) % 7 + 1) (hv : TrP a 31 v) :
    SunOk (1461 * ((y + 4712) / 4) + 365 * ((y + 4712) % 4) + 60 + 20 + d) (toJdJ y v (a % 31 + 1)) := by
  unfold toJdJ
  have h5 := julJ2 (a := a) (by clear hv; omega) (by clear hv; omega) hv
  rw [fd _ (show (0 : Int) ≤ 4 by decide), fd _ (show (0 : Int) ≤ 10000 by decide), Int.add_assoc (1461 * (y + 4716) / 4), Int.add_sub_assoc (1461 * (y + 4716) / 4), h5]
  have hq : (1461 * (y + 4716)) / 4 = 1461 * ((y + 4712) / 4) + 365 * ((y + 4712) % 4) + 1461 := by clear hv ha hd; omega
  have h4 : y % 4 = (y + 4712) % 4 := by clear hv ha hd; omega
  have hy : y = 4 * ((y + 4712) / 4) + (y + 4712) % 4 - 4712 := by clear hv ha hd; omega
  rw [hq, ← Int.add_sub_assoc, ha, h4]
  exact julJ1 (congrArg (· % 7) hy) rfl
theorem old_end {y d a v n Y M D : Int} {b : Bool} (hd : d = (19 * y.fmod 19 + 15).fmod 30 + (if b = true ∧ y.fmod 19 = 0 then 1 else 0)) (ha : a = 113 + d + (2 * y.fmod 4 + 4 * y.fmod 7 - d + 6).fmod 7 + 1) (hv : TrP a 31 v)
    (hn : LawOld y b n) (h : DateOk n Y M D) : fjY (toJdJ y v (a.fmod 31 + 1)) = Y ∧ fjM (toJdJ y v (a.fmod 31 + 1)) = M ∧ fjD (toJdJ y v (a.fmod 31 + 1)) = D := by
  simp only [fm _ (show (0 : Int) ≤ 19 by decide), fm _ (show (0 : Int) ≤ 30 by decide), fm _ (show (0 : Int) ≤ 4 by decide), fm _ (show (0 : Int) ≤ 7 by decide)] at hd ha
  simp only [LawOld, fm _ (show (0 : Int) ≤ 19 by decide), fm _ (show (0 : Int) ≤ 4 by decide), fd _ (show (0 : Int) ≤ 4 by decide)] at hn
  rw [tab_e (Int.emod_nonneg _ (by decide)) (Int.emod_lt_of_pos _ (by decide)), ← hd] at hn
  rw [fm _ (show (0 : Int) ≤ 31 by decide)]
  have hd2 : 0 ≤ d ∧ d ≤ 30 := by clear hn hv ha h; subst hd; split <;> omega
  have e := sun_unique hn (julJ hd2 ha hv)
  rw [← e]
  exact fj_is h
end Mine
namespace Mine
-- the western Easter
theorem moon_eq {c k v : Int} (hc : 15 ≤ c) (hk : TrOk (c - 17) 25 k) (hv : TrP (c - k) 3 v) : (8 * (c + 1) + 5) / 25 = v := by
  omega
/-- the moon's day by the epact is the one by the other reckoning -/
theorem full_eq {c k v4 v5 n i0 v6 i1 v7 v8 v9 v10 i2 e f : Int} (hc : 15 ≤ c) (hn : 0 ≤ n ∧ n < 19) (hk : TrOk (c - 17) 25 k) (h4 : TrP c 4 v4) (h5 : TrP (c - k) 3 v5)
    (hi0 : i0 = c - v4 - v5 + 19 * n + 15) (h6 : TrP i0 30 v6) (hi1 : i1 = i0 - 30 * v6) (h7 : TrP i1 28 v7) (h8 : TrP i1 28 v8) (h9 : TrP 29 (i1 + 1) v9) (h10 : TrP (21 - n) 11 v10)
    (hi2 : i2 = i1 - v7 * (1 - v8 * v9 * v10)) (he : e = (11 * (n + 1) + 20 + ((8 * (c + 1) + 5) / 25 - 5) - ((3 * (c + 1)) / 4 - 12)) % 30) (hf : FullOk e (n + 1) f) : f = 21 + i2 ∧ 0 ≤ i2 ∧ i2 ≤ 28 := by
  rw [moon_eq hc hk h5] at he
  have hs : (3 * (c + 1)) / 4 = c - v4 := by omega
  rw [hs] at he
  have hi : 0 ≤ i1 ∧ i1 < 30 := by omega
  have hie : (e ≤ 23 ∧ i1 = 23 - e) ∨ (e > 23 ∧ i1 = 53 - e) := by omega
  have he2 : 0 ≤ e ∧ e < 30 := by omega
  clear he hs hi0 hi1 h6 h5 h4 hk
  have hv7 : v7 = v8 := by omega
  subst hv7
  unfold FullOk at hf
  have h3 : i1 = 29 ∨ i1 = 28 ∨ i1 < 28 := by omega
  rcases h3 with rfl | rfl | h3
  · have a7 : v7 = 1 := by omega
    have a9 : v9 = 0 := by omega
    subst a7; subst a9
    simp at hi2
    omega
  · have a7 : v7 = 1 := by omega
    have a9 : v9 = 1 := by omega
    subst a7; subst a9
    have a10 : v10 = 0 ∨ v10 = 1 := by omega
    rcases a10 with rfl | rfl <;> simp at hi2 <;> omega
  · have a7 : v7 = 0 := by omega
    subst a7
    simp at hi2
    omega
theorem t100 {y c : Int} (h : TrP y 100 c) : y / 100 = c := by omega
theorem t19 {y v g : Int} (h : TrP y 19 v) (hg : g = y - 19 * v) : y % 19 = g ∧ 0 ≤ g ∧ g < 19 := by omega
theorem t4 {y v : Int} (h : TrP y 4 v) : y / 4 = v := by omega
theorem t400 {y c v : Int} (h : TrP y 100 c) (h2 : TrP c 4 v) : y / 400 = v := by omega
theorem j_ok {y c v11 v12 i2 j0 v13 : Int} (hy : 1583 ≤ y) (hc : TrP y 100 c) (h11 : 0 ≤ v11) (h12 : 0 ≤ v12) (hi : 0 ≤ i2) (hj0 : j0 = y + v11 + i2 + 2 - c + v12) (h13 : TrOk j0 7 v13) : 0 ≤ j0 - 7 * v13 ∧ j0 - 7 * v13 < 7 := by
  have : 0 ≤ j0 := by clear h13; omega
  omega
theorem west_m {L v14 v15 : Int} (hb : -6 ≤ L ∧ L ≤ 28) (h14 : TrOk (L + 40) 44 v14) (h15 : TrOk (3 + v14) 4 v15) : (v14 = 0 ∧ v15 = 0 ∧ L ≤ 3) ∨ (v14 = 1 ∧ v15 = 1 ∧ 4 ≤ L) := by
  have h : v14 = 0 ∨ v14 = 1 := by clear h15; omega
  rcases h with rfl | rfl <;> omega
theorem west_sun {y c v11 v12 v13 i2 j0 L f F : Int} (hF : F = 1721426 + 365 * y + v11 - c + v12) (hf : f = 21 + i2) (hj0 : j0 = y + v11 + i2 + 2 - c + v12) (hj : 0 ≤ j0 - 7 * v13 ∧ j0 - 7 * v13 < 7) (hL : L = i2 - (j0 - 7 * v13)) :
    SunOk (F - 307 + f) (F - 307 + (L + 28)) := by
  subst hF; subst hf; subst hL; subst hj0
  refine ⟨by omega, by omega, ?_⟩
  omega
theorem west_date {y L v14 v15 n : Int} (hb : -6 ≤ L ∧ L ≤ 28) (hM : (v14 = 0 ∧ v15 = 0 ∧ L ≤ 3) ∨ (v14 = 1 ∧ v15 = 1 ∧ 4 ≤ L)) (e : n = firstF (y + 1) - 307 + (L + 28)) : DateOk n y (3 + v14) (L + 28 - 31 * v15) := by
  have hl : 365 ≤ firstF (y + 1) - firstF y := by rcases first_len y with h | h <;> rw [h] <;> decide
  have c3 : cumL (firstF (y + 1) - firstF y) (3 + 0) = 31 + (firstF (y + 1) - firstF y - 337 + 0) := rfl
  have c4 : cumL (firstF (y + 1) - firstF y) (3 + 1) = 31 + (firstF (y + 1) - firstF y - 337 + (31 + 0)) := rfl
  rcases hM with ⟨rfl, rfl, h3⟩ | ⟨rfl, rfl, h3⟩
  · refine ⟨by decide, by decide, ⟨?_, ?_, ?_, ?_⟩, show L + 28 - 31 * 0 ≤ 31 by omega⟩ <;> clear c4 <;> omega
  · refine ⟨by decide, by decide, ⟨?_, ?_, ?_, ?_⟩, show L + 28 - 31 * 1 ≤ 30 by omega⟩ <;> clear c3 <;> omega
theorem l_bnd9 {i2 j L : Int} (h1 : 0 ≤ i2) (h2 : i2 ≤ 28) (hj : 0 ≤ j ∧ j < 7) (hL : L = i2 - j) : -6 ≤ L ∧ L ≤ 28 := by omega
theorem west_F (y v c w : Int) : 1721426 + (365 * y + v - c + w) = 1721426 + 365 * y + v - c + w := by omega
theorem west_end {y M D n Y M' D' : Int} (hy : 1583 ≤ y) (hw : WestRel y M D) (hn : LawWest y n) (h : DateOk n Y M' D') : y = Y ∧ M = M' ∧ D = D' := by
  obtain ⟨c, v2, k, v4, v5, v6, v7, v8, v9, v10, v11, v12, v13, v14, v15, g, i0, i1, i2, j0, L, hc, h2, hg, hk, h4, h5, hi0, h6, hi1, h7, h8, h9, h10, hi2, h11, h12, hj0, h13, hL, h14, h15⟩ := hw
  obtain ⟨f, hf, hs⟩ := hn
  have ec := t100 hc
  obtain ⟨eg, hg2⟩ := t19 h2 hg
  have e11 := t4 h11
  have e12 := t400 hc h12
  have hc15 : 15 ≤ c := by rw [← ec]; exact Int.le_ediv_of_mul_le (by decide) (Int.le_trans (by decide) hy)
  rw [fm _ (show (0 : Int) ≤ 19 by decide), eg] at hf
  have hep : epactF y = (11 * (g + 1) + 20 + ((8 * (c + 1) + 5) / 25 - 5) - ((3 * (c + 1)) / 4 - 12)) % 30 := by
    unfold epactF
    rw [fm _ (show (0 : Int) ≤ 19 by decide), fm _ (show (0 : Int) ≤ 30 by decide), fd _ (show (0 : Int) ≤ 100 by decide), fd _ (show (0 : Int) ≤ 25 by decide), fd _ (show (0 : Int) ≤ 4 by decide), eg, ec]
  obtain ⟨hf2, hb1, hb2⟩ := full_eq hc15 hg2 hk h4 h5 hi0 h6 hi1 h7 h8 h9 h10 hi2 hep hf
  have hF : firstF (y + 1) = 1721426 + 365 * y + v11 - c + v12 := by
    rw [firstF_s, show y + 1 - 1 = y from Int.add_sub_cancel _ _, dP, ec, e11, e12]
    exact west_F _ _ _ _
  have hj := j_ok hy hc h11.2.2.1 h12.2.2.1 hb1 hj0 h13
  have e := sun_unique hs (west_sun hF hf2 hj0 hj hL)
  have hb3 : -6 ≤ L ∧ L ≤ 28 := l_bnd9 hb1 hb2 hj hL
  exact date_unique (west_date hb3 (west_m hb3 h14 h15) e) h
end Mine
namespace Mine
local macro_rules | `(tactic| walk_at "eval Call") => `(tactic| (k_here; k_dflt (refine Call_ ?_)))
local macro_rules | `(tactic| walk_at "subscriptTail Name Constant ref int") => `(tactic| (k_here; (with_unfolding_all refine' item_anyK ?k1 ?k2 ?k3 ?k4 ?k5 ?_ ?k6; (case k1 => is_list); (case k2 => l_ints); (case k3 => l_idx); (case k4 => l_idx); (case k5 => l_idx); (case k6 => with_unfolding_all rfl); k_whole); intro _))
local macro_rules | `(tactic| walk_at "execs cons") => `(tactic| (k_here; (try k_made); (with_reducible refine wpAny_execs_cons ?_); (try dsimp only)))
local macro_rules | `(tactic| walk_at "call ref") => `(tactic| (k_here; k_dflt (first | refine' use (c_lawwest _ _) ?k1 ?k2 ?k3 ?k4 ?k5 ?kK ?kp ?kd ?ku ?_); (case k1 => k_asm); (case k2 => k_asm); (case k3 => k_asm); (case k4 => k_asm); (case k5 => k_asm); (case kK => first | exact rfl | assumption); (case kp => first | trivial | assumption | omega | k_extra "pre"); (case kd => ktr_room); (case ku => ktr_units); intro v9 t9 h9 tk9 q9 F9 N9; (try dsimp only); (try k_fold)))
local macro_rules | `(tactic| walk_at "call ref") => `(tactic| (k_here; k_dflt (first | refine' use (c_lawold _ _ _) ?k1 ?k2 ?k3 ?k4 ?k5 ?kK ?kp ?kd ?ku ?_); (case k1 => k_asm); (case k2 => k_asm); (case k3 => k_asm); (case k4 => k_asm); (case k5 => k_asm); (case kK => first | exact rfl | assumption); (case kp => first | trivial | assumption | omega | k_extra "pre"); (case kd => ktr_room); (case ku => ktr_units); intro v9 t9 h9 tk9 q9 F9 N9; (try dsimp only); (try k_fold)))
local macro_rules | `(tactic| walk_at "call ref") => `(tactic| (k_here; k_dflt (first | refine' use (c_lawdate _ _) ?k1 ?k2 ?k3 ?k4 ?k5 ?kK ?kp ?kd ?ku ?_ | refine' use (c_e2 _ _ _) ?k1 ?k2 ?k3 ?k4 ?k5 ?kK ?kp ?kd ?ku ?_ | refine' use (c_e3 _ _ _) ?k1 ?k2 ?k3 ?k4 ?k5 ?kK ?kp ?kd ?ku ?_); (case k1 => k_asm); (case k2 => k_asm); (case k3 => k_asm); (case k4 => k_asm); (case k5 => k_asm); (case kK => first | exact rfl | assumption); (case kp => first | trivial | assumption | omega | k_extra "pre"); (case kd => ktr_room); (case ku => ktr_units); intro Y9 M9 E9 q9 D9 t9 u9 v9 c9 h9 tk9 F9 N9 l9; (try k_lt l9); (try dsimp only); (try k_fold)))
local macro_rules | `(tactic| walk_at "call ref") => `(tactic| (k_here; k_dflt (first | refine' use (c_e0 _ _) ?k1 ?k2 ?k3 ?k4 ?k5 ?kK ?kp ?kd ?ku ?_ | refine' use (c_e1 _ _ _) ?k1 ?k2 ?k3 ?k4 ?k5 ?kK ?kp ?kd ?ku ?_); (case k1 => k_asm); (case k2 => k_asm); (case k3 => k_asm); (case k4 => k_asm); (case k5 => k_asm); (case kK => first | exact rfl | assumption); (case kp => first | trivial | assumption | omega | k_extra "pre"); (case kd => ktr_room); (case ku => ktr_units); intro M9 E9 q9 D9 t9 u9 v9 c9 h9 tk9 F9 N9 l9; (try k_lt l9); (try dsimp only); (try k_fold)))

theorem abs_ge (a : Int) : 1583 ≤ 1583 + (if a < 0 then -a else a) := by
  split <;> omega
theorem end_false {a b c a' b' c' : Int} (h : (a == a' && (b == b' && c == c')) = false) (e : a = a' ∧ b = b' ∧ c = c') : False := by
  obtain ⟨rfl, rfl, rfl⟩ := e
  simp at h
theorem old_fin {y n Y M D Y' M' D' : Int} {b : Bool} (ho : OldRel y b Y M D) (hn : LawOld y b n) (h : DateOk n Y' M' D') : Y = Y' ∧ M = M' ∧ D = D' := by
  obtain ⟨d, a, v, hd, ha, hv⟩ := ho
  exact old_end hd ha hv hn h
set_option maxRecDepth 100000 in
set_option maxHeartbeats 8000000 in
theorem main : PySem.Challenge.rw_jb0008_01.Holds := hd (by
  k_with_none
  k_go0
  (rename Heap.CodeRec _ _ _ => x1; clear x1)
  (rename Dflts _ _ _ _ _ _ => x2; clear x2)
  dsimp only
  all_goals try k_fold
  k_steps
  all_goals (
    exfalso
    refine' end_false ?zfalse ?zequal
    (case zfalse => with_reducible assumption)
    (case zequal => first
      | exact west_end (abs_ge _) (by with_reducible assumption) (by with_reducible assumption) (by with_reducible assumption)
      | exact old_fin (by with_reducible assumption) (by with_reducible assumption) (by with_reducible assumption))))
end Mine
theorem PySem.Challenge.cw_jb0008_01_holds : PySem.Challenge.rw_jb0008_01.Holds := by
  exact Mine.main
