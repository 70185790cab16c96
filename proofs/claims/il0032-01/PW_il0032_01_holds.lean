import PyProof.Rows.All
import Wide.All
import OpenK.AllK
import Wide.FinOn
import PySem.Challenge.RW_il0032_01
open PySem PySem.W PyProof.Rows
set_option Elab.async false
set_option maxRecDepth 100000
set_option maxHeartbeats 8000000
set_option linter.all false
namespace Mine
open_top hd for PySem.Challenge.rw_il0032_01
open PySem.Spec PySem.Calls

/-- what a def of the text hands back, at any frame that calls it: nothing new is kept -/
def SaysP (w : World) (mean : ExcName → Option Value) (mg mb : Str → Option Value) (k : Nat) (f : Addr) (vs : List Value) (pre : List (Addr × Obj) → Prop) (post : Value → Prop) : Prop :=
  ∀ (dp un : Nat) (gd : Option (List Code)) (cn : Str) (cs : Scope) (a : Addr) (ccd : Value) (cl : List (Str × Addr)) (outer : List Env) (A₀ : Around) (base h₀ : Heap) (L : Addr) (m : Str → Option Value) (news : List (Addr × Obj)) (s : Shared) (Q E : Value → Shared → Prop),
    Below A₀ base outer h₀ → Fr h₀ L s.heap m → (hd.heap_39 w.params).In h₀ → News h₀ L s.heap news → Top hd.view_39 (looseW hd.view_39 []) mean mg mb h₀ → cs.kind = .function →
    pre news → dp + k < recursionLimit → un + 8 * k < cLine →
    (∀ v h' tk', Fr h₀ L h' m → News h₀ L h' news → post v → Q v { s with heap := h', toks := tk' }) →
      wpAny (model PySem.Challenge.rw_il0032_01.row.prog w) (ktrTop dp un gd cn cs L a ccd cl outer) (call (.ref f) vs) Q E s
theorem SaysP.use {w : World} {mean : ExcName → Option Value} {mg mb : Str → Option Value} {k : Nat} {f : Addr} {vs : List Value} {pre : List (Addr × Obj) → Prop} {post : Value → Prop} {dp un : Nat} {gd : Option (List Code)} {cn : Str} {cs : Scope} {a : Addr} {ccd : Value} {cl : List (Str × Addr)} {outer : List Env} {A₀ : Around} {base h₀ : Heap} {L : Addr} {m : Str → Option Value} {news : List (Addr × Obj)} {s : Shared} {Q E : Value → Shared → Prop}
    (C : SaysP w mean mg mb k f vs pre post) (B : Below A₀ base outer h₀) (F : Fr h₀ L s.heap m) (X : (hd.heap_39 w.params).In h₀) (N : News h₀ L s.heap news) (T : Top hd.view_39 (looseW hd.view_39 []) mean mg mb h₀) (hk : cs.kind = .function)
    (hp : pre news) (hdp : dp + k < recursionLimit) (hun : un + 8 * k < cLine)
    (ret : ∀ v h' tk', Fr h₀ L h' m → News h₀ L h' news → post v → Q v { s with heap := h', toks := tk' }) :
    wpAny (model PySem.Challenge.rw_il0032_01.row.prog w) (ktrTop dp un gd cn cs L a ccd cl outer) (call (.ref f) vs) Q E s :=
  C _ _ _ _ _ _ _ _ _ _ _ _ _ _ _ _ _ _ B F X N T hk hp hdp hun ret

/-- a number as it is or as its sign -/
def Th (v : Value) (n : Int) : Prop := (∃ t, v = .int n t) ∨ ∃ (c : Nat) (t : Tok), n = (c : Int) ∧ c < 512 ∧ v = .str ⟨#[c]⟩ t

theorem ctoi (w mean mg mb) (v : Value) (n : Int) : SaysP w mean mg mb 1 21 [v] (fun _ => Th v n) (fun r => ∃ t, r = .int n t) := by
  unfold SaysP
  intro dp un gd cn9 cs9 a9 ccd cl9 outer A₀ base h₀ L m9 news s9 Q E B F X N T hk hpre hdp hu hret
  rcases hpre with ⟨t, rfl⟩ | ⟨c, t, rfl, hc, rfl⟩
  all_goals (refine wpAny_call ?_; k_dflt cell_enter; k_steps)
  all_goals (exact hret _ _ _ (by k_asm) (by k_asm) ⟨_, rfl⟩)
local macro_rules | `(tactic| walk_at "call ref") => `(tactic| (k_here; k_dflt (refine' SaysP.use (ctoi _ _ _ _ _ _) ?k1 ?k2 ?k3 ?k4 ?k5 ?kK ?kp ?kd ?ku ?_); (case k1 => k_asm); (case k2 => k_asm); (case k3 => k_asm); (case k4 => k_asm); (case k5 => k_asm); (case kK => first | exact rfl | assumption); (case kp => assumption); (case kd => ktr_room); (case ku => ktr_units); k_whole; intro v9 h9 tk9 F9 N9 P9; (obtain ⟨t9, e9⟩ := P9); (subst e9); (try dsimp only); (try k_fold)))
def j_isascii (n : Int) : Bool := decide (0 ≤ n ∧ n ≤ 127)
def j_isblank (n : Int) : Bool := [9, 32].any fun x => x == n
def j_iscntrl (n : Int) : Bool := decide ((0 ≤ n ∧ n ≤ 31) ∨ n = 127)
def j_isctrl (n : Int) : Bool := decide (0 ≤ n ∧ n < 32)
def j_isdigit (n : Int) : Bool := decide (48 ≤ n ∧ n ≤ 57)
def j_isgraph (n : Int) : Bool := decide (33 ≤ n ∧ n ≤ 126)
def j_islower (n : Int) : Bool := decide (97 ≤ n ∧ n ≤ 122)
def j_ismeta (n : Int) : Bool := decide (n > 127)
def j_isprint (n : Int) : Bool := decide (32 ≤ n ∧ n ≤ 126)
def j_isspace (n : Int) : Bool := [9, 10, 11, 12, 13, 32].any fun x => x == n
def j_isupper (n : Int) : Bool := decide (65 ≤ n ∧ n ≤ 90)
def j_isalpha (n : Int) : Bool := j_isupper n || j_islower n
def j_isalnum (n : Int) : Bool := j_isalpha n || j_isdigit n
def j_ispunct (n : Int) : Bool := j_isgraph n && !j_isalnum n
def j_isxdigit (n : Int) : Bool := j_isdigit n || decide (65 ≤ n ∧ n ≤ 70) || decide (97 ≤ n ∧ n ≤ 102)

theorem says_isascii (w mean mg mb) (v : Value) (n : Int) : SaysP w mean mg mb 2 42 [v] (fun _ => Th v n) (fun r => r = .bool (j_isascii n)) := by
  unfold SaysP
  intro dp un gd cn9 cs9 a9 ccd cl9 outer A₀ base h₀ L m9 news s9 Q E B F X N T hk hpre hdp hu hret
  refine wpAny_call ?_
  k_dflt cell_enter
  k_steps
  all_goals ((refine' hret _ _ _ ?e2 ?e3 ?e1; (case e2 => k_asm); (case e3 => first | k_asm | (refine' cb_drop ?cbN ?cbS; (case cbN => assumption); (case cbS => kcj_all))); (case e1 => (dsimp only; unfold j_isascii; first | rfl | (congr 1; first | (simp_all only [Bool.true_or, Bool.false_or, Bool.or_false, Bool.or_true, Bool.true_and, Bool.false_and, Bool.and_true, Bool.not_true, Bool.not_false, Bool.not_eq_true, Bool.not_eq_false]; done) | cb_eq)))))
local macro_rules | `(tactic| walk_at "call ref") => `(tactic| (k_here; k_dflt (refine' SaysP.use (says_isascii _ _ _ _ _ _) ?k1 ?k2 ?k3 ?k4 ?k5 ?kK ?kp ?kd ?ku ?_); (case k1 => k_asm); (case k2 => k_asm); (case k3 => k_asm); (case k4 => k_asm); (case k5 => k_asm); (case kK => first | exact rfl | assumption); (case kp => assumption); (case kd => ktr_room); (case ku => ktr_units); k_whole; intro v9 h9 tk9 F9 N9 P9; subst P9; (try dsimp only); (try k_fold)))

theorem says_isblank (w mean mg mb) (v : Value) (n : Int) : SaysP w mean mg mb 2 49 [v] (fun _ => Th v n) (fun r => r = .bool (j_isblank n)) := by
  unfold SaysP
  intro dp un gd cn9 cs9 a9 ccd cl9 outer A₀ base h₀ L m9 news s9 Q E B F X N T hk hpre hdp hu hret
  refine wpAny_call ?_
  k_dflt cell_enter
  k_steps
  all_goals ((refine' hret _ _ _ ?e2 ?e3 ?e1; (case e2 => k_asm); (case e3 => first | k_asm | (refine' cb_drop ?cbN ?cbS; (case cbN => assumption); (case cbS => kcj_all))); (case e1 => (dsimp only; unfold j_isblank; first | rfl | (congr 1; first | (simp_all only [Bool.true_or, Bool.false_or, Bool.or_false, Bool.or_true, Bool.true_and, Bool.false_and, Bool.and_true, Bool.not_true, Bool.not_false, Bool.not_eq_true, Bool.not_eq_false]; done) | cb_eq)))))
local macro_rules | `(tactic| walk_at "call ref") => `(tactic| (k_here; k_dflt (refine' SaysP.use (says_isblank _ _ _ _ _ _) ?k1 ?k2 ?k3 ?k4 ?k5 ?kK ?kp ?kd ?ku ?_); (case k1 => k_asm); (case k2 => k_asm); (case k3 => k_asm); (case k4 => k_asm); (case k5 => k_asm); (case kK => first | exact rfl | assumption); (case kp => assumption); (case kd => ktr_room); (case ku => ktr_units); k_whole; intro v9 h9 tk9 F9 N9 P9; subst P9; (try dsimp only); (try k_fold)))

theorem says_iscntrl (w mean mg mb) (v : Value) (n : Int) : SaysP w mean mg mb 2 56 [v] (fun _ => Th v n) (fun r => r = .bool (j_iscntrl n)) := by
  unfold SaysP
  intro dp un gd cn9 cs9 a9 ccd cl9 outer A₀ base h₀ L m9 news s9 Q E B F X N T hk hpre hdp hu hret
  refine wpAny_call ?_
  k_dflt cell_enter
  k_steps
  all_goals ((refine' hret _ _ _ ?e2 ?e3 ?e1; (case e2 => k_asm); (case e3 => first | k_asm | (refine' cb_drop ?cbN ?cbS; (case cbN => assumption); (case cbS => kcj_all))); (case e1 => (dsimp only; unfold j_iscntrl; first | rfl | (congr 1; first | (simp_all only [Bool.true_or, Bool.false_or, Bool.or_false, Bool.or_true, Bool.true_and, Bool.false_and, Bool.and_true, Bool.not_true, Bool.not_false, Bool.not_eq_true, Bool.not_eq_false]; done) | cb_eq)))))
local macro_rules | `(tactic| walk_at "call ref") => `(tactic| (k_here; k_dflt (refine' SaysP.use (says_iscntrl _ _ _ _ _ _) ?k1 ?k2 ?k3 ?k4 ?k5 ?kK ?kp ?kd ?ku ?_); (case k1 => k_asm); (case k2 => k_asm); (case k3 => k_asm); (case k4 => k_asm); (case k5 => k_asm); (case kK => first | exact rfl | assumption); (case kp => assumption); (case kd => ktr_room); (case ku => ktr_units); k_whole; intro v9 h9 tk9 F9 N9 P9; subst P9; (try dsimp only); (try k_fold)))

theorem says_isctrl (w mean mg mb) (v : Value) (n : Int) : SaysP w mean mg mb 2 119 [v] (fun _ => Th v n) (fun r => r = .bool (j_isctrl n)) := by
  unfold SaysP
  intro dp un gd cn9 cs9 a9 ccd cl9 outer A₀ base h₀ L m9 news s9 Q E B F X N T hk hpre hdp hu hret
  refine wpAny_call ?_
  k_dflt cell_enter
  k_steps
  all_goals ((refine' hret _ _ _ ?e2 ?e3 ?e1; (case e2 => k_asm); (case e3 => first | k_asm | (refine' cb_drop ?cbN ?cbS; (case cbN => assumption); (case cbS => kcj_all))); (case e1 => (dsimp only; unfold j_isctrl; first | rfl | (congr 1; first | (simp_all only [Bool.true_or, Bool.false_or, Bool.or_false, Bool.or_true, Bool.true_and, Bool.false_and, Bool.and_true, Bool.not_true, Bool.not_false, Bool.not_eq_true, Bool.not_eq_false]; done) | cb_eq)))))
local macro_rules | `(tactic| walk_at "call ref") => `(tactic| (k_here; k_dflt (refine' SaysP.use (says_isctrl _ _ _ _ _ _) ?k1 ?k2 ?k3 ?k4 ?k5 ?kK ?kp ?kd ?ku ?_); (case k1 => k_asm); (case k2 => k_asm); (case k3 => k_asm); (case k4 => k_asm); (case k5 => k_asm); (case kK => first | exact rfl | assumption); (case kp => assumption); (case kd => ktr_room); (case ku => ktr_units); k_whole; intro v9 h9 tk9 F9 N9 P9; subst P9; (try dsimp only); (try k_fold)))

theorem says_isdigit (w mean mg mb) (v : Value) (n : Int) : SaysP w mean mg mb 2 63 [v] (fun _ => Th v n) (fun r => r = .bool (j_isdigit n)) := by
  unfold SaysP
  intro dp un gd cn9 cs9 a9 ccd cl9 outer A₀ base h₀ L m9 news s9 Q E B F X N T hk hpre hdp hu hret
  refine wpAny_call ?_
  k_dflt cell_enter
  k_steps
  all_goals ((refine' hret _ _ _ ?e2 ?e3 ?e1; (case e2 => k_asm); (case e3 => first | k_asm | (refine' cb_drop ?cbN ?cbS; (case cbN => assumption); (case cbS => kcj_all))); (case e1 => (dsimp only; unfold j_isdigit; first | rfl | (congr 1; first | (simp_all only [Bool.true_or, Bool.false_or, Bool.or_false, Bool.or_true, Bool.true_and, Bool.false_and, Bool.and_true, Bool.not_true, Bool.not_false, Bool.not_eq_true, Bool.not_eq_false]; done) | cb_eq)))))
local macro_rules | `(tactic| walk_at "call ref") => `(tactic| (k_here; k_dflt (refine' SaysP.use (says_isdigit _ _ _ _ _ _) ?k1 ?k2 ?k3 ?k4 ?k5 ?kK ?kp ?kd ?ku ?_); (case k1 => k_asm); (case k2 => k_asm); (case k3 => k_asm); (case k4 => k_asm); (case k5 => k_asm); (case kK => first | exact rfl | assumption); (case kp => assumption); (case kd => ktr_room); (case ku => ktr_units); k_whole; intro v9 h9 tk9 F9 N9 P9; subst P9; (try dsimp only); (try k_fold)))

theorem says_isgraph (w mean mg mb) (v : Value) (n : Int) : SaysP w mean mg mb 2 70 [v] (fun _ => Th v n) (fun r => r = .bool (j_isgraph n)) := by
  unfold SaysP
  intro dp un gd cn9 cs9 a9 ccd cl9 outer A₀ base h₀ L m9 news s9 Q E B F X N T hk hpre hdp hu hret
  refine wpAny_call ?_
  k_dflt cell_enter
  k_steps
  all_goals ((refine' hret _ _ _ ?e2 ?e3 ?e1; (case e2 => k_asm); (case e3 => first | k_asm | (refine' cb_drop ?cbN ?cbS; (case cbN => assumption); (case cbS => kcj_all))); (case e1 => (dsimp only; unfold j_isgraph; first | rfl | (congr 1; first | (simp_all only [Bool.true_or, Bool.false_or, Bool.or_false, Bool.or_true, Bool.true_and, Bool.false_and, Bool.and_true, Bool.not_true, Bool.not_false, Bool.not_eq_true, Bool.not_eq_false]; done) | cb_eq)))))
local macro_rules | `(tactic| walk_at "call ref") => `(tactic| (k_here; k_dflt (refine' SaysP.use (says_isgraph _ _ _ _ _ _) ?k1 ?k2 ?k3 ?k4 ?k5 ?kK ?kp ?kd ?ku ?_); (case k1 => k_asm); (case k2 => k_asm); (case k3 => k_asm); (case k4 => k_asm); (case k5 => k_asm); (case kK => first | exact rfl | assumption); (case kp => assumption); (case kd => ktr_room); (case ku => ktr_units); k_whole; intro v9 h9 tk9 F9 N9 P9; subst P9; (try dsimp only); (try k_fold)))

theorem says_islower (w mean mg mb) (v : Value) (n : Int) : SaysP w mean mg mb 2 77 [v] (fun _ => Th v n) (fun r => r = .bool (j_islower n)) := by
  unfold SaysP
  intro dp un gd cn9 cs9 a9 ccd cl9 outer A₀ base h₀ L m9 news s9 Q E B F X N T hk hpre hdp hu hret
  refine wpAny_call ?_
  k_dflt cell_enter
  k_steps
  all_goals ((refine' hret _ _ _ ?e2 ?e3 ?e1; (case e2 => k_asm); (case e3 => first | k_asm | (refine' cb_drop ?cbN ?cbS; (case cbN => assumption); (case cbS => kcj_all))); (case e1 => (dsimp only; unfold j_islower; first | rfl | (congr 1; first | (simp_all only [Bool.true_or, Bool.false_or, Bool.or_false, Bool.or_true, Bool.true_and, Bool.false_and, Bool.and_true, Bool.not_true, Bool.not_false, Bool.not_eq_true, Bool.not_eq_false]; done) | cb_eq)))))
local macro_rules | `(tactic| walk_at "call ref") => `(tactic| (k_here; k_dflt (refine' SaysP.use (says_islower _ _ _ _ _ _) ?k1 ?k2 ?k3 ?k4 ?k5 ?kK ?kp ?kd ?ku ?_); (case k1 => k_asm); (case k2 => k_asm); (case k3 => k_asm); (case k4 => k_asm); (case k5 => k_asm); (case kK => first | exact rfl | assumption); (case kp => assumption); (case kd => ktr_room); (case ku => ktr_units); k_whole; intro v9 h9 tk9 F9 N9 P9; subst P9; (try dsimp only); (try k_fold)))

theorem says_ismeta (w mean mg mb) (v : Value) (n : Int) : SaysP w mean mg mb 2 126 [v] (fun _ => Th v n) (fun r => r = .bool (j_ismeta n)) := by
  unfold SaysP
  intro dp un gd cn9 cs9 a9 ccd cl9 outer A₀ base h₀ L m9 news s9 Q E B F X N T hk hpre hdp hu hret
  refine wpAny_call ?_
  k_dflt cell_enter
  k_steps
  all_goals ((refine' hret _ _ _ ?e2 ?e3 ?e1; (case e2 => k_asm); (case e3 => first | k_asm | (refine' cb_drop ?cbN ?cbS; (case cbN => assumption); (case cbS => kcj_all))); (case e1 => (dsimp only; unfold j_ismeta; first | rfl | (congr 1; first | (simp_all only [Bool.true_or, Bool.false_or, Bool.or_false, Bool.or_true, Bool.true_and, Bool.false_and, Bool.and_true, Bool.not_true, Bool.not_false, Bool.not_eq_true, Bool.not_eq_false]; done) | cb_eq)))))
local macro_rules | `(tactic| walk_at "call ref") => `(tactic| (k_here; k_dflt (refine' SaysP.use (says_ismeta _ _ _ _ _ _) ?k1 ?k2 ?k3 ?k4 ?k5 ?kK ?kp ?kd ?ku ?_); (case k1 => k_asm); (case k2 => k_asm); (case k3 => k_asm); (case k4 => k_asm); (case k5 => k_asm); (case kK => first | exact rfl | assumption); (case kp => assumption); (case kd => ktr_room); (case ku => ktr_units); k_whole; intro v9 h9 tk9 F9 N9 P9; subst P9; (try dsimp only); (try k_fold)))

theorem says_isprint (w mean mg mb) (v : Value) (n : Int) : SaysP w mean mg mb 2 84 [v] (fun _ => Th v n) (fun r => r = .bool (j_isprint n)) := by
  unfold SaysP
  intro dp un gd cn9 cs9 a9 ccd cl9 outer A₀ base h₀ L m9 news s9 Q E B F X N T hk hpre hdp hu hret
  refine wpAny_call ?_
  k_dflt cell_enter
  k_steps
  all_goals ((refine' hret _ _ _ ?e2 ?e3 ?e1; (case e2 => k_asm); (case e3 => first | k_asm | (refine' cb_drop ?cbN ?cbS; (case cbN => assumption); (case cbS => kcj_all))); (case e1 => (dsimp only; unfold j_isprint; first | rfl | (congr 1; first | (simp_all only [Bool.true_or, Bool.false_or, Bool.or_false, Bool.or_true, Bool.true_and, Bool.false_and, Bool.and_true, Bool.not_true, Bool.not_false, Bool.not_eq_true, Bool.not_eq_false]; done) | cb_eq)))))
local macro_rules | `(tactic| walk_at "call ref") => `(tactic| (k_here; k_dflt (refine' SaysP.use (says_isprint _ _ _ _ _ _) ?k1 ?k2 ?k3 ?k4 ?k5 ?kK ?kp ?kd ?ku ?_); (case k1 => k_asm); (case k2 => k_asm); (case k3 => k_asm); (case k4 => k_asm); (case k5 => k_asm); (case kK => first | exact rfl | assumption); (case kp => assumption); (case kd => ktr_room); (case ku => ktr_units); k_whole; intro v9 h9 tk9 F9 N9 P9; subst P9; (try dsimp only); (try k_fold)))

theorem says_isspace (w mean mg mb) (v : Value) (n : Int) : SaysP w mean mg mb 2 98 [v] (fun _ => Th v n) (fun r => r = .bool (j_isspace n)) := by
  unfold SaysP
  intro dp un gd cn9 cs9 a9 ccd cl9 outer A₀ base h₀ L m9 news s9 Q E B F X N T hk hpre hdp hu hret
  refine wpAny_call ?_
  k_dflt cell_enter
  k_steps
  all_goals ((refine' hret _ _ _ ?e2 ?e3 ?e1; (case e2 => k_asm); (case e3 => first | k_asm | (refine' cb_drop ?cbN ?cbS; (case cbN => assumption); (case cbS => kcj_all))); (case e1 => (dsimp only; unfold j_isspace; first | rfl | (congr 1; first | (simp_all only [Bool.true_or, Bool.false_or, Bool.or_false, Bool.or_true, Bool.true_and, Bool.false_and, Bool.and_true, Bool.not_true, Bool.not_false, Bool.not_eq_true, Bool.not_eq_false]; done) | cb_eq)))))
local macro_rules | `(tactic| walk_at "call ref") => `(tactic| (k_here; k_dflt (refine' SaysP.use (says_isspace _ _ _ _ _ _) ?k1 ?k2 ?k3 ?k4 ?k5 ?kK ?kp ?kd ?ku ?_); (case k1 => k_asm); (case k2 => k_asm); (case k3 => k_asm); (case k4 => k_asm); (case k5 => k_asm); (case kK => first | exact rfl | assumption); (case kp => assumption); (case kd => ktr_room); (case ku => ktr_units); k_whole; intro v9 h9 tk9 F9 N9 P9; subst P9; (try dsimp only); (try k_fold)))

theorem says_isupper (w mean mg mb) (v : Value) (n : Int) : SaysP w mean mg mb 2 105 [v] (fun _ => Th v n) (fun r => r = .bool (j_isupper n)) := by
  unfold SaysP
  intro dp un gd cn9 cs9 a9 ccd cl9 outer A₀ base h₀ L m9 news s9 Q E B F X N T hk hpre hdp hu hret
  refine wpAny_call ?_
  k_dflt cell_enter
  k_steps
  all_goals ((refine' hret _ _ _ ?e2 ?e3 ?e1; (case e2 => k_asm); (case e3 => first | k_asm | (refine' cb_drop ?cbN ?cbS; (case cbN => assumption); (case cbS => kcj_all))); (case e1 => (dsimp only; unfold j_isupper; first | rfl | (congr 1; first | (simp_all only [Bool.true_or, Bool.false_or, Bool.or_false, Bool.or_true, Bool.true_and, Bool.false_and, Bool.and_true, Bool.not_true, Bool.not_false, Bool.not_eq_true, Bool.not_eq_false]; done) | cb_eq)))))
local macro_rules | `(tactic| walk_at "call ref") => `(tactic| (k_here; k_dflt (refine' SaysP.use (says_isupper _ _ _ _ _ _) ?k1 ?k2 ?k3 ?k4 ?k5 ?kK ?kp ?kd ?ku ?_); (case k1 => k_asm); (case k2 => k_asm); (case k3 => k_asm); (case k4 => k_asm); (case k5 => k_asm); (case kK => first | exact rfl | assumption); (case kp => assumption); (case kd => ktr_room); (case ku => ktr_units); k_whole; intro v9 h9 tk9 F9 N9 P9; subst P9; (try dsimp only); (try k_fold)))

theorem says_isalpha (w mean mg mb) (v : Value) (n : Int) : SaysP w mean mg mb 3 35 [v] (fun _ => Th v n) (fun r => r = .bool (j_isalpha n)) := by
  unfold SaysP
  intro dp un gd cn9 cs9 a9 ccd cl9 outer A₀ base h₀ L m9 news s9 Q E B F X N T hk hpre hdp hu hret
  refine wpAny_call ?_
  k_dflt cell_enter
  k_steps
  all_goals ((refine' hret _ _ _ ?e2 ?e3 ?e1; (case e2 => k_asm); (case e3 => first | k_asm | (refine' cb_drop ?cbN ?cbS; (case cbN => assumption); (case cbS => kcj_all))); (case e1 => (dsimp only; unfold j_isalpha; first | rfl | (congr 1; first | (simp_all only [Bool.true_or, Bool.false_or, Bool.or_false, Bool.or_true, Bool.true_and, Bool.false_and, Bool.and_true, Bool.not_true, Bool.not_false, Bool.not_eq_true, Bool.not_eq_false]; done) | cb_eq)))))
local macro_rules | `(tactic| walk_at "call ref") => `(tactic| (k_here; k_dflt (refine' SaysP.use (says_isalpha _ _ _ _ _ _) ?k1 ?k2 ?k3 ?k4 ?k5 ?kK ?kp ?kd ?ku ?_); (case k1 => k_asm); (case k2 => k_asm); (case k3 => k_asm); (case k4 => k_asm); (case k5 => k_asm); (case kK => first | exact rfl | assumption); (case kp => assumption); (case kd => ktr_room); (case ku => ktr_units); k_whole; intro v9 h9 tk9 F9 N9 P9; subst P9; (try dsimp only); (try k_fold)))

theorem says_isalnum (w mean mg mb) (v : Value) (n : Int) : SaysP w mean mg mb 4 28 [v] (fun _ => Th v n) (fun r => r = .bool (j_isalnum n)) := by
  unfold SaysP
  intro dp un gd cn9 cs9 a9 ccd cl9 outer A₀ base h₀ L m9 news s9 Q E B F X N T hk hpre hdp hu hret
  refine wpAny_call ?_
  k_dflt cell_enter
  k_steps
  all_goals ((refine' hret _ _ _ ?e2 ?e3 ?e1; (case e2 => k_asm); (case e3 => first | k_asm | (refine' cb_drop ?cbN ?cbS; (case cbN => assumption); (case cbS => kcj_all))); (case e1 => (dsimp only; unfold j_isalnum; first | rfl | (congr 1; first | (simp_all only [Bool.true_or, Bool.false_or, Bool.or_false, Bool.or_true, Bool.true_and, Bool.false_and, Bool.and_true, Bool.not_true, Bool.not_false, Bool.not_eq_true, Bool.not_eq_false]; done) | cb_eq)))))
local macro_rules | `(tactic| walk_at "call ref") => `(tactic| (k_here; k_dflt (refine' SaysP.use (says_isalnum _ _ _ _ _ _) ?k1 ?k2 ?k3 ?k4 ?k5 ?kK ?kp ?kd ?ku ?_); (case k1 => k_asm); (case k2 => k_asm); (case k3 => k_asm); (case k4 => k_asm); (case k5 => k_asm); (case kK => first | exact rfl | assumption); (case kp => assumption); (case kd => ktr_room); (case ku => ktr_units); k_whole; intro v9 h9 tk9 F9 N9 P9; subst P9; (try dsimp only); (try k_fold)))

theorem says_ispunct (w mean mg mb) (v : Value) (n : Int) : SaysP w mean mg mb 5 91 [v] (fun _ => Th v n) (fun r => r = .bool (j_ispunct n)) := by
  unfold SaysP
  intro dp un gd cn9 cs9 a9 ccd cl9 outer A₀ base h₀ L m9 news s9 Q E B F X N T hk hpre hdp hu hret
  refine wpAny_call ?_
  k_dflt cell_enter
  k_steps
  all_goals ((refine' hret _ _ _ ?e2 ?e3 ?e1; (case e2 => k_asm); (case e3 => first | k_asm | (refine' cb_drop ?cbN ?cbS; (case cbN => assumption); (case cbS => kcj_all))); (case e1 => (dsimp only; unfold j_ispunct; first | rfl | (congr 1; first | (simp_all only [Bool.true_or, Bool.false_or, Bool.or_false, Bool.or_true, Bool.true_and, Bool.false_and, Bool.and_true, Bool.not_true, Bool.not_false, Bool.not_eq_true, Bool.not_eq_false]; done) | cb_eq)))))
local macro_rules | `(tactic| walk_at "call ref") => `(tactic| (k_here; k_dflt (refine' SaysP.use (says_ispunct _ _ _ _ _ _) ?k1 ?k2 ?k3 ?k4 ?k5 ?kK ?kp ?kd ?ku ?_); (case k1 => k_asm); (case k2 => k_asm); (case k3 => k_asm); (case k4 => k_asm); (case k5 => k_asm); (case kK => first | exact rfl | assumption); (case kp => assumption); (case kd => ktr_room); (case ku => ktr_units); k_whole; intro v9 h9 tk9 F9 N9 P9; subst P9; (try dsimp only); (try k_fold)))

theorem says_isxdigit (w mean mg mb) (v : Value) (n : Int) : SaysP w mean mg mb 3 112 [v] (fun _ => Th v n) (fun r => r = .bool (j_isxdigit n)) := by
  unfold SaysP
  intro dp un gd cn9 cs9 a9 ccd cl9 outer A₀ base h₀ L m9 news s9 Q E B F X N T hk hpre hdp hu hret
  refine wpAny_call ?_
  k_dflt cell_enter
  k_steps
  all_goals ((refine' hret _ _ _ ?e2 ?e3 ?e1; (case e2 => k_asm); (case e3 => first | k_asm | (refine' cb_drop ?cbN ?cbS; (case cbN => assumption); (case cbS => kcj_all))); (case e1 => (dsimp only; unfold j_isxdigit; first | rfl | (congr 1; first | (simp_all only [Bool.true_or, Bool.false_or, Bool.or_false, Bool.or_true, Bool.true_and, Bool.false_and, Bool.and_true, Bool.not_true, Bool.not_false, Bool.not_eq_true, Bool.not_eq_false]; done) | cb_eq)))))
local macro_rules | `(tactic| walk_at "call ref") => `(tactic| (k_here; k_dflt (refine' SaysP.use (says_isxdigit _ _ _ _ _ _) ?k1 ?k2 ?k3 ?k4 ?k5 ?kK ?kp ?kd ?ku ?_); (case k1 => k_asm); (case k2 => k_asm); (case k3 => k_asm); (case k4 => k_asm); (case k5 => k_asm); (case kK => first | exact rfl | assumption); (case kp => assumption); (case kd => ktr_room); (case ku => ktr_units); k_whole; intro v9 h9 tk9 F9 N9 P9; subst P9; (try dsimp only); (try k_fold)))

theorem and127 (n : Int) : Builtin.bitAnd n 127 = n % 128 := kbt_mask n 7
theorem and31 (n : Int) : Builtin.bitAnd n 31 = n % 32 := kbt_mask n 5
theorem or128 (n : Int) : Builtin.bitOr n 128 = n + 128 - n / 128 % 2 * 128 := by
  rw [bitOr_and, show Builtin.bitAnd n 128 = n / 128 % 2 * 128 from kbt_bit n 7]
def t_ascii_ascii (n : Int) : Int := n % 128
def t_ctrl (n : Int) : Int := n % 32
def t_alt (n : Int) : Int := n + 128 - n / 128 % 2 * 128

theorem says_ascii_ascii (w mean mg mb) (v : Value) (n : Int) : SaysP w mean mg mb 2 133 [v] (fun _ => Th v n) (fun r => Th r (t_ascii_ascii n)) := by
  unfold SaysP
  intro dp un gd cn9 cs9 a9 ccd cl9 outer A₀ base h₀ L m9 news s9 Q E B F X N T hk hpre hdp hu hret
  rcases hpre with ⟨t, rfl⟩ | ⟨c, t, rfl, hc, rfl⟩
  · (have hth : Th (Value.int n t) n := .inl ⟨_, rfl⟩); refine wpAny_call ?_; k_dflt cell_enter; k_steps
    all_goals ((refine' hret _ _ _ ?e2 ?e3 ?e1; (case e2 => k_asm); (case e3 => first | k_asm | (refine' cb_drop ?cbN ?cbS; (case cbN => assumption); (case cbS => kcj_all))); (case e1 => (dsimp only; unfold t_ascii_ascii; rw [and127]; exact .inl ⟨_, rfl⟩))))
  · (have hth : Th (Value.str ⟨#[c]⟩ t) (c : Int) := .inr ⟨_, _, rfl, hc, rfl⟩); (have hb : 0 ≤ Builtin.bitAnd (c : Int) 127 ∧ Builtin.bitAnd (c : Int) 127 ≤ 1114111 ∧ (Builtin.bitAnd (c : Int) 127).toNat < 512 := by (rw [and127]; omega)); refine wpAny_call ?_; k_dflt cell_enter; k_steps
    all_goals ((refine' hret _ _ _ ?e2 ?e3 ?e1; (case e2 => k_asm); (case e3 => first | k_asm | (refine' cb_drop ?cbN ?cbS; (case cbN => assumption); (case cbS => kcj_all))); (case e1 => (dsimp only; unfold t_ascii_ascii; rw [← and127]; exact .inr ⟨_, _, (Int.toNat_of_nonneg hb.1).symm, hb.2.2, rfl⟩))))
local macro_rules | `(tactic| walk_at "call ref") => `(tactic| (k_here; k_dflt (refine' SaysP.use (says_ascii_ascii _ _ _ _ _ _) ?k1 ?k2 ?k3 ?k4 ?k5 ?kK ?kp ?kd ?ku ?_); (case k1 => k_asm); (case k2 => k_asm); (case k3 => k_asm); (case k4 => k_asm); (case k5 => k_asm); (case kK => first | exact rfl | assumption); (case kp => assumption); (case kd => ktr_room); (case ku => ktr_units); k_whole; intro v9 h9 tk9 F9 N9 P9; skip; (try dsimp only); (try k_fold)))

theorem says_ctrl (w mean mg mb) (v : Value) (n : Int) : SaysP w mean mg mb 2 140 [v] (fun _ => Th v n) (fun r => Th r (t_ctrl n)) := by
  unfold SaysP
  intro dp un gd cn9 cs9 a9 ccd cl9 outer A₀ base h₀ L m9 news s9 Q E B F X N T hk hpre hdp hu hret
  rcases hpre with ⟨t, rfl⟩ | ⟨c, t, rfl, hc, rfl⟩
  · (have hth : Th (Value.int n t) n := .inl ⟨_, rfl⟩); refine wpAny_call ?_; k_dflt cell_enter; k_steps
    all_goals ((refine' hret _ _ _ ?e2 ?e3 ?e1; (case e2 => k_asm); (case e3 => first | k_asm | (refine' cb_drop ?cbN ?cbS; (case cbN => assumption); (case cbS => kcj_all))); (case e1 => (dsimp only; unfold t_ctrl; rw [and31]; exact .inl ⟨_, rfl⟩))))
  · (have hth : Th (Value.str ⟨#[c]⟩ t) (c : Int) := .inr ⟨_, _, rfl, hc, rfl⟩); (have hb : 0 ≤ Builtin.bitAnd (c : Int) 31 ∧ Builtin.bitAnd (c : Int) 31 ≤ 1114111 ∧ (Builtin.bitAnd (c : Int) 31).toNat < 512 := by (rw [and31]; omega)); refine wpAny_call ?_; k_dflt cell_enter; k_steps
    all_goals ((refine' hret _ _ _ ?e2 ?e3 ?e1; (case e2 => k_asm); (case e3 => first | k_asm | (refine' cb_drop ?cbN ?cbS; (case cbN => assumption); (case cbS => kcj_all))); (case e1 => (dsimp only; unfold t_ctrl; rw [← and31]; exact .inr ⟨_, _, (Int.toNat_of_nonneg hb.1).symm, hb.2.2, rfl⟩))))
local macro_rules | `(tactic| walk_at "call ref") => `(tactic| (k_here; k_dflt (refine' SaysP.use (says_ctrl _ _ _ _ _ _) ?k1 ?k2 ?k3 ?k4 ?k5 ?kK ?kp ?kd ?ku ?_); (case k1 => k_asm); (case k2 => k_asm); (case k3 => k_asm); (case k4 => k_asm); (case k5 => k_asm); (case kK => first | exact rfl | assumption); (case kp => assumption); (case kd => ktr_room); (case ku => ktr_units); k_whole; intro v9 h9 tk9 F9 N9 P9; skip; (try dsimp only); (try k_fold)))

theorem says_alt (w mean mg mb) (v : Value) (n : Int) : SaysP w mean mg mb 2 147 [v] (fun _ => Th v n) (fun r => Th r (t_alt n)) := by
  unfold SaysP
  intro dp un gd cn9 cs9 a9 ccd cl9 outer A₀ base h₀ L m9 news s9 Q E B F X N T hk hpre hdp hu hret
  rcases hpre with ⟨t, rfl⟩ | ⟨c, t, rfl, hc, rfl⟩
  · (have hth : Th (Value.int n t) n := .inl ⟨_, rfl⟩); refine wpAny_call ?_; k_dflt cell_enter; k_steps
    all_goals ((refine' hret _ _ _ ?e2 ?e3 ?e1; (case e2 => k_asm); (case e3 => first | k_asm | (refine' cb_drop ?cbN ?cbS; (case cbN => assumption); (case cbS => kcj_all))); (case e1 => (dsimp only; unfold t_alt; rw [or128]; exact .inl ⟨_, rfl⟩))))
  · (have hth : Th (Value.str ⟨#[c]⟩ t) (c : Int) := .inr ⟨_, _, rfl, hc, rfl⟩); (have hb : 0 ≤ Builtin.bitOr (c : Int) 128 ∧ Builtin.bitOr (c : Int) 128 ≤ 1114111 ∧ (Builtin.bitOr (c : Int) 128).toNat < 512 := by (rw [or128]; omega)); refine wpAny_call ?_; k_dflt cell_enter; k_steps
    all_goals ((refine' hret _ _ _ ?e2 ?e3 ?e1; (case e2 => k_asm); (case e3 => first | k_asm | (refine' cb_drop ?cbN ?cbS; (case cbN => assumption); (case cbS => kcj_all))); (case e1 => (dsimp only; unfold t_alt; rw [← or128]; exact .inr ⟨_, _, (Int.toNat_of_nonneg hb.1).symm, hb.2.2, rfl⟩))))
local macro_rules | `(tactic| walk_at "call ref") => `(tactic| (k_here; k_dflt (refine' SaysP.use (says_alt _ _ _ _ _ _) ?k1 ?k2 ?k3 ?k4 ?k5 ?kK ?kp ?kd ?ku ?_); (case k1 => k_asm); (case k2 => k_asm); (case k3 => k_asm); (case k4 => k_asm); (case k5 => k_asm); (case kK => first | exact rfl | assumption); (case kp => assumption); (case kd => ktr_room); (case ku => ktr_units); k_whole; intro v9 h9 tk9 F9 N9 P9; skip; (try dsimp only); (try k_fold)))

-- loops: over a list of the ledger, over a range; what is known between the turns is said of the names alone
def Hold (P : Prop) : Prop := P
theorem Hold.out {P : Prop} (h : Hold P) : P := h
section
variable {prog : Program} {w : World} {A : Around} {E : Value → Shared → Prop} {s : Shared} {env : Env} {h₀ : Heap} {x : Str} {body : List Stmt} {Q : Flow → Shared → Prop}
theorem iter_L {l : Addr} {vs : List Value} {nn : Nat} {m₀ : Str → Option Value} {news : List (Addr × Obj)} (J' : (Str → Option Value) → Nat → (Str → Option Value) → Prop)
    (hh : A.handled = none) (hl : (l, listOf vs.toArray nn) ∈ news) (F : Fr h₀ env.locals s.heap m₀) (N : News h₀ env.locals s.heap news) (hj : J' m₀ 0 m₀)
    (turn : ∀ i v m₁ h tk news₁, vs[i]? = some v → J' m₀ i m₁ → (∀ p ∈ news, p ∈ news₁) → Fr h₀ env.locals h (fun y => if y = x then some v else m₁ y) → News h₀ env.locals h news₁ →
      wpAny (model prog w) A (execs body env) (InvPost h₀ env.locals (J' m₀ (i + 1)) news₁ { s with heap := h, toks := tk } Q) E { s with heap := h, toks := tk })
    (done : ∀ m₁ h tk, J' m₀ vs.length m₁ → Fr h₀ env.locals h m₁ → News h₀ env.locals h news → Q .next { s with heap := h, toks := tk }) :
    wpAny (model prog w) A (pyIter (.ref l)) (fun it s₂ => LoopAtV prog w A h₀ env x body Q E it s₂) E s := by
  refine kdl_iter (fun i m nx => nx = news ∧ J' m₀ i m) hh hl F N ⟨rfl, hj⟩ (fun i v m₁ nx h tk own hv off hm ⟨e, hJ⟩ F₁ N₁ => ?_) fun m₁ nx h tk ⟨e, hJ⟩ F₁ N₁ => done m₁ h tk hJ F₁ (e ▸ N₁)
  subst e
  refine wpAny_mono (turn i v m₁ h tk (nx ++ own) hv hJ (fun p hp => List.mem_append_left _ hp) F₁ N₁) (fun f s₂ q => ?_) fun _ _ x => x
  match f, q with
  | .ret _, q => exact q
  | .brk, q => exact q
  | .next, ⟨h', tk', m', ns, e, F', N', k, z⟩ => exact ⟨h', tk', m', ns, nx, e, F', N', fun p hp => k p (List.mem_append_left _ hp), fun p hp => k p (List.mem_append_right _ hp), off, hm, rfl, z⟩
  | .cont, ⟨h', tk', m', ns, e, F', N', k, z⟩ => exact ⟨h', tk', m', ns, nx, e, F', N', fun p hp => k p (List.mem_append_left _ hp), fun p hp => k p (List.mem_append_right _ hp), off, hm, rfl, z⟩
theorem iter_R {r : Addr} {a₀ b₀ : Int} {t₀ u₀ v₀ : Tok} {n : Nat} {m₀ : Str → Option Value} {news : List (Addr × Obj)} (J' : (Str → Option Value) → Nat → (Str → Option Value) → Prop)
    (hh : A.handled = none) (hr : IsRange s.heap r a₀ b₀ 1 t₀ u₀ v₀) (hsmall : Builtin.Range.small a₀ b₀ 1 = true) (hn : Builtin.Range.rangeSize a₀ b₀ 1 = (n : Int)) (F : Fr h₀ env.locals s.heap m₀) (N : News h₀ env.locals s.heap news) (hj : J' m₀ 0 m₀)
    (turn : ∀ i t m₁ h tk news₁, i < n → J' m₀ i m₁ → (∀ p ∈ news, p ∈ news₁) → Fr h₀ env.locals h (fun y => if y = x then some (.int (a₀ + (i : Int)) t) else m₁ y) → News h₀ env.locals h news₁ →
      wpAny (model prog w) A (execs body env) (InvPost h₀ env.locals (J' m₀ (i + 1)) news₁ { s with heap := h, toks := tk } Q) E { s with heap := h, toks := tk })
    (done : ∀ m₁ h tk, J' m₀ n m₁ → Fr h₀ env.locals h m₁ → News h₀ env.locals h news → Q .next { s with heap := h, toks := tk }) :
    wpAny (model prog w) A (pyIter (.ref r)) (fun it s₂ => LoopAtV prog w A h₀ env x body Q E it s₂) E s := by
  refine tbr_invG (fun i m nx => nx = news ∧ J' m₀ i m) hh hr hsmall hn F N ⟨rfl, hj⟩ (fun i k t m₁ nx h tk own hk off ⟨e, hJ⟩ F₁ N₁ => ?_) fun m₁ nx h tk ⟨e, hJ⟩ F₁ N₁ => done m₁ h tk hJ F₁ (e ▸ N₁)
  subst e
  have hin : i < n := by
    have := (List.getElem?_eq_some_iff.mp hk).1
    rwa [rangeKs_length] at this
  obtain rfl : a₀ + (i : Int) = k := by simpa [rangeKs, hin] using hk
  refine wpAny_mono (turn i t m₁ h tk (nx ++ own) hin hJ (fun p hp => List.mem_append_left _ hp) F₁ N₁) (fun f s₂ q => ?_) fun _ _ x => x
  match f, q with
  | .ret _, q => exact q
  | .brk, q => exact q
  | .next, ⟨h', tk', m', ns, e, F', N', k, z⟩ => exact ⟨h', tk', m', ns, nx, e, F', N', fun p hp => k p (List.mem_append_left _ hp), fun p hp => k p (List.mem_append_right _ hp), off, rfl, z⟩
  | .cont, ⟨h', tk', m', ns, e, F', N', k, z⟩ => exact ⟨h', tk', m', ns, nx, e, F', N', fun p hp => k p (List.mem_append_left _ hp), fun p hp => k p (List.mem_append_right _ hp), off, rfl, z⟩
end
local macro_rules | `(tactic| walk_at "exec For Name Name cons nil") => `(tactic| (k_here; (rename Fr _ _ _ _ => lF'); (with_unfolding_all refine' For_invVF lF' ?k1 ?k2 ?_; (case k1 => exact rfl); (case k2 => exact rfl); k_whole)))
local macro_rules | `(tactic| walk_at "exec For Name Call cons nil") => `(tactic| (k_here; (rename Fr _ _ _ _ => lF'); (with_unfolding_all refine' For_invVF lF' ?k1 ?k2 ?_; (case k1 => exact rfl); (case k2 => exact rfl); k_whole)))
local macro_rules | `(tactic| walk_at "pyIter ref") => `(tactic| (k_here; (with_reducible show wpAny _ _ (pyIter (Value.ref _)) (fun it s₂ => LoopAtV _ _ _ _ _ _ _ _ _ it s₂) _ _); refine Hold.out ?_))
local macro_rules | `(tactic| walk_at "InvEnd") => `(tactic| (k_here; refine Hold.out ?_))

/-- the places' row, signs in turn -/
def belowStep (lim : Int) (p : Int × Int) (k : Int) : Int × Int := (p.1 + p.2 * (if lim - k > 0 then lim - k else 0), -p.2)
def belowF (lim : Int) (ns : List Int) : Int := (ns.foldl (belowStep lim) (0, 1)).1
theorem below_way (lim : Int) : ∀ (ns : List Int) (p : Int × Int), (p.2 = 1 ∨ p.2 = -1) → ((ns.foldl (belowStep lim) p).2 = 1 ∨ (ns.foldl (belowStep lim) p).2 = -1)
  | [], _, h => h
  | _ :: r, p, h => below_way lim r _ (by simp only [belowStep]; omega)
theorem says_below (w mean mg mb) (lim : Int) (t : Tok) (l : Addr) (vs : List Value) (nn : Nat) (ns : List Int) :
    SaysP w mean mg mb 2 168 [.int lim t, .ref l] (fun news => (l, listOf vs.toArray nn) ∈ news ∧ IntsAre vs ns) (fun r => ∃ t, r = .int (belowF lim ns) t) := by
  unfold SaysP
  intro dp un gd cn9 cs9 a9 ccd cl9 outer A₀ base h₀ L m9 news s9 Q E B F X N T hk hpre hdp hu hret
  obtain ⟨hl, hi⟩ := hpre
  refine wpAny_call ?_
  k_dflt cell_enter
  k_steps
  (rename Fr _ _ _ _ => F1); (rename News _ _ _ _ => N1)
  unfold Hold
  with_unfolding_all refine' iter_L (fun m₀ i m => (∃ t, m (Str.ofString "total") = some (.int ((ns.take i).foldl (belowStep lim) (0, 1)).1 t)) ∧ (∃ t, m (Str.ofString "way") = some (.int ((ns.take i).foldl (belowStep lim) (0, 1)).2 t)) ∧ ∀ z, z ≠ Str.ofString "place" → z ≠ Str.ofString "total" → z ≠ Str.ofString "way" → m z = m₀ z) rfl hl F1 N1 ⟨⟨_, by rfl⟩, ⟨_, by rfl⟩, fun _ _ _ _ => rfl⟩ ?_ ?_
  · intro i v m₁ h tk1 news₁ hv hJ hsub F2 N2
    obtain ⟨⟨ta, h1⟩, ⟨tb, h2⟩, h3⟩ := hJ
    rw [map_two h1 h2 h3] at F2
    obtain ⟨k, t', rfl, hk⟩ := hi.at i v hv
    have hs : (ns.take (i + 1)).foldl (belowStep lim) (0, 1) = belowStep lim ((ns.take i).foldl (belowStep lim) (0, 1)) k := by
      rw [List.take_add_one, hk]; simp
    have hw := below_way lim (ns.take i) (0, 1) (.inl rfl)
    rw [hs]
    clear hs h1 h2 h3
    revert F2 hw
    generalize (ns.take i).foldl (belowStep lim) (0, 1) = st
    intro F2 hw
    (try k_fold)
    k_steps
    all_goals unfold Hold
    all_goals (refine InvEnd.intro (by k_asm) (by k_asm) (fun p hp => hp) ⟨⟨_, by rfl⟩, ⟨_, by rfl⟩, ?_⟩)
    all_goals (intro z z1 z2 z3; (try dsimp only); (repeat' (first | rw [if_neg z1] | rw [if_neg z2] | rw [if_neg z3])))
  · intro m₁ h tk1 hJ F2 N2
    obtain ⟨⟨ta, h1⟩, ⟨tb, h2⟩, h3⟩ := hJ
    rw [show vs.length = ns.length from hi.length, List.take_length] at h1 h2
    rw [← done_two (x := Str.ofString "place") h1 h2 h3] at F2
    k_steps
    all_goals (exact hret _ _ _ (by k_asm) (by k_asm) ⟨_, by rfl⟩)
local macro_rules | `(tactic| walk_at "call ref") => `(tactic| (k_here; k_dflt (refine' SaysP.use (says_below _ _ _ _ _ _ _ _ _ _) ?k1 ?k2 ?k3 ?k4 ?k5 ?kK ?kp ?kd ?ku ?_); (case k1 => k_asm); (case k2 => k_asm); (case k3 => k_asm); (case k4 => k_asm); (case k5 => k_asm); (case kK => first | exact rfl | assumption); (case kp => refine' ⟨?kp1, ?kp2⟩; (case kp1 => first | assumption | (refine List.mem_cons_of_mem _ ?_; assumption) | (refine List.mem_cons_of_mem _ (List.mem_cons_of_mem _ ?_); assumption) | k_mem); (case kp2 => first | assumption | l_ints)); (case kd => ktr_room); (case ku => ktr_units); k_whole; intro v9 h9 tk9 F9 N9 P9; (obtain ⟨t9, e9⟩ := P9); (subst e9); (try dsimp only); (try k_fold)))

/-- what the calls' row makes of the width and of the high sign -/
def upStep (p : Int × Bool) (c : Int) : Int × Bool :=
  (if c = 2 then 32 else if c = 1 ∧ p.1 = 0 then 128 else p.1, if c = 3 then true else if c = 1 ∨ c = 2 then false else p.2)
def upF (cs : List Int) : Int × Bool := cs.foldl upStep (0, false)
def upTo (lim : Int) (cs ns : List Int) : Int :=
  if (upF cs).2 = true then ((ns.length : Int).fmod 2) * (if (upF cs).1 > 0 then lim else (if lim > 0 then lim else 0))
  else if (upF cs).1 = 0 then belowF lim ns
  else (lim.fdiv (upF cs).1) * belowF (upF cs).1 ns + belowF (lim.fmod (upF cs).1) ns
theorem up_width : ∀ (cs : List Int) (p : Int × Bool), (p.1 = 0 ∨ p.1 = 32 ∨ p.1 = 128) → ((cs.foldl upStep p).1 = 0 ∨ (cs.foldl upStep p).1 = 32 ∨ (cs.foldl upStep p).1 = 128)
  | [], _, h => h
  | c :: r, p, h => up_width r _ (by simp only [upStep]; (repeat' split) <;> omega)
local macro_rules | `(tactic| walk_at "call builtin:len") => `(tactic| (k_here; (with_reducible show wpAny _ _ (call (Value.builtin "len") [Value.ref _]) _ _ _); k_dflt (refine KM.len_K (by k_asm) (by first | assumption | (refine List.mem_cons_of_mem _ ?_; assumption)) (by rw [List.size_toArray]) (by omega) ?_)))
theorem int_back {x y : Int} {t : Tok} (e : y = x) : ∃ t', Value.int x t = Value.int y t' := ⟨t, by rw [e]⟩
theorem says_up_to (w mean mg mb) (lim : Int) (t : Tok) (l l' : Addr) (vs vs' : List Value) (nn nn' : Nat) (cs ns : List Int) :
    SaysP w mean mg mb 3 175 [.int lim t, .ref l, .ref l'] (fun news => (l, listOf vs.toArray nn) ∈ news ∧ IntsAre vs cs ∧ (∀ c ∈ cs, 0 ≤ c ∧ c ≤ 4) ∧ (l', listOf vs'.toArray nn') ∈ news ∧ IntsAre vs' ns ∧ ns.length < 1000 ∧ -2000 ≤ lim ∧ lim ≤ 2000) (fun r => ∃ t, r = .int (upTo lim cs ns) t) := by
  unfold SaysP
  intro dp un gd cn9 cs9 a9 ccd cl9 outer A₀ base h₀ L m9 news s9 Q E B F X N T hk hpre hdp hu hret
  obtain ⟨hl, hi, hcs, hl', hi', hlen, hlo, hhi⟩ := hpre
  refine wpAny_call ?_
  k_dflt cell_enter
  k_steps
  (rename Fr _ _ _ _ => F1); (rename News _ _ _ _ => N1)
  unfold Hold
  with_unfolding_all refine' iter_L (fun m₀ i m => (∃ t, m (Str.ofString "width") = some (.int (upF (cs.take i)).1 t)) ∧ m (Str.ofString "high") = some (.bool (upF (cs.take i)).2) ∧ ∀ z, z ≠ Str.ofString "call" → z ≠ Str.ofString "width" → z ≠ Str.ofString "high" → m z = m₀ z) rfl hl F1 N1 ⟨⟨_, by rfl⟩, by rfl, fun _ _ _ _ => rfl⟩ ?_ ?_
  · intro i v m₁ h tk1 news₁ hv hJ hsub F2 N2
    obtain ⟨⟨ta, h1⟩, h2, h3⟩ := hJ
    rw [map_two h1 h2 h3] at F2
    obtain ⟨k, t', rfl, hk⟩ := hi.at i v hv
    have hs : upF (cs.take (i + 1)) = upStep (upF (cs.take i)) k := by
      rw [List.take_add_one, hk]; simp [upF]
    have hw := up_width (cs.take i) (0, false) (.inl rfl)
    have hk4 := hcs k (List.mem_of_getElem? hk)
    rw [hs]
    clear hs h1 h2 h3 hv hk
    revert F2 hw
    show (Fr _ _ _ (fun z => if z = _ then _ else if z = _ then some (Value.int (upF (cs.take i)).1 ta) else if z = _ then some (Value.bool (upF (cs.take i)).2) else _)) → ((upF (cs.take i)).1 = 0 ∨ (upF (cs.take i)).1 = 32 ∨ (upF (cs.take i)).1 = 128) → _
    generalize upF (cs.take i) = st
    obtain ⟨a, b⟩ := st
    dsimp only
    intro F2 hw
    have hk5 : k = 0 ∨ k = 1 ∨ k = 2 ∨ k = 3 ∨ k = 4 := by omega
    clear hk4
    rcases hw with rfl | rfl | rfl <;> rcases hk5 with rfl | rfl | rfl | rfl | rfl
    all_goals (try k_fold)
    all_goals k_steps
    all_goals unfold Hold
    all_goals (refine InvEnd.intro (by k_asm) (by k_asm) (by intro p hp; k_ownIn) ⟨⟨_, by rfl⟩, by rfl, ?_⟩)
    all_goals (intro z z1 z2 z3; (try dsimp only); (repeat' (first | rw [if_neg z1] | rw [if_neg z2] | rw [if_neg z3])))
  · intro m₁ h tk1 hJ F2 N2
    obtain ⟨⟨ta, h1⟩, h2, h3⟩ := hJ
    rw [show vs.length = cs.length from hi.length, List.take_length] at h1 h2
    rw [← done_two (x := Str.ofString "call") h1 h2 h3] at F2
    clear h1 h2 h3 F1 N1
    have hw := up_width cs (0, false) (.inl rfl)
    have hq : lim.fdiv 128 = lim / 128 ∧ lim.fdiv 32 = lim / 32 := ⟨Int.fdiv_eq_ediv_of_nonneg _ (by decide), Int.fdiv_eq_ediv_of_nonneg _ (by decide)⟩
    have hq1 : -2000 ≤ lim.fdiv 128 ∧ lim.fdiv 128 ≤ 2000 := by omega
    have hq2 : -2000 ≤ lim.fdiv 32 ∧ lim.fdiv 32 ≤ 2000 := by omega
    have hu : ∀ a b, upF cs = (a, b) → upTo lim cs ns = if b = true then ((ns.length : Int).fmod 2) * (if a > 0 then lim else (if lim > 0 then lim else 0)) else if a = 0 then belowF lim ns else (lim.fdiv a) * belowF a ns + belowF (lim.fmod a) ns := by
      intro a b e
      rw [upTo, e]
    have hln : vs'.length = ns.length := hi'.length
    revert F2 hw hu
    show (Fr _ _ _ (fun z => if z = _ then _ else if z = _ then some (Value.int (upF cs).1 ta) else if z = _ then some (Value.bool (upF cs).2) else _)) → ((upF cs).1 = 0 ∨ (upF cs).1 = 32 ∨ (upF cs).1 = 128) → _
    generalize upF cs = st
    obtain ⟨a, b⟩ := st
    dsimp only
    intro F2 hw hu
    have hu := hu _ _ rfl
    rcases hw with rfl | rfl | rfl <;> cases b
    all_goals (try k_fold)
    all_goals k_steps
    all_goals (try rw [hln])
    all_goals (refine' hret _ _ _ ?e2 ?e3 ?e1; (case e2 => k_asm); (case e3 => first | k_asm | (refine' cb_drop ?cbN ?cbS; (case cbN => assumption); (case cbS => kcj_all))); (case e1 => (refine int_back (hu.trans ?_); simp only [if_true, if_false, Bool.false_eq_true] <;> first | rfl | (simp; done) | (split <;> simp_all; done))))
local macro_rules | `(tactic| walk_at "call ref") => `(tactic| (k_here; k_dflt (refine' SaysP.use (says_up_to _ _ _ _ _ _ _ _ _ _ _ _ _ _) ?k1 ?k2 ?k3 ?k4 ?k5 ?kK ?kp ?kd ?ku ?_); (case k1 => k_asm); (case k2 => k_asm); (case k3 => k_asm); (case k4 => k_asm); (case k5 => k_asm); (case kK => first | exact rfl | assumption); (case kp => (try dsimp only); refine' ⟨?kp1, ?kp2, ?kp3, ?kp4, ?kp5, ?kp6, ?kp7, ?kp8⟩; (case kp1 => k_dflt k_mem); (case kp2 => assumption); (case kp3 => assumption); (case kp4 => k_dflt k_mem); (case kp5 => assumption); (case kp6 => assumption); (case kp7 => omega); (case kp8 => omega)); (case kd => ktr_room); (case ku => ktr_units); k_whole; intro v9 h9 tk9 F9 N9 P9; (obtain ⟨t9, e9⟩ := P9); (subst e9); (try dsimp only); (try k_fold)))

/-- the turns and the judges as plain functions -/
def callF (n c : Int) : Int := if c = 1 then t_ascii_ascii n else if c = 2 then t_ctrl n else if c = 3 then t_alt n else n
def applyF (cs : List Int) (n : Int) : Int := cs.foldl callF n
def jAddr : List Addr := [28, 35, 42, 49, 56, 119, 63, 70, 77, 126, 84, 91, 98, 105, 112]
def jFun : List (Int → Bool) := [j_isalnum, j_isalpha, j_isascii, j_isblank, j_iscntrl, j_isctrl, j_isdigit, j_isgraph, j_islower, j_ismeta, j_isprint, j_ispunct, j_isspace, j_isupper, j_isxdigit]
def judF (j : Nat) (n : Int) : Bool := jFun.getD j j_isalnum n
def oddF (js : List Nat) (n : Int) : Bool := js.foldl (fun o j => o != judF j n) (j_isalnum n)
def cntF (a : Int) (cs : List Int) (js : List Nat) : Nat → Int
  | 0 => 0
  | i + 1 => cntF a cs js i + if oddF js (applyF cs (a + (i : Int))) = true then 1 else 0
def JudsAre (vs : List Value) (js : List Nat) : Prop := vs = js.map (fun j => Value.ref (jAddr.getD j 28)) ∧ ∀ j ∈ js, j < 15
theorem map_six {x y a b c d : Str} {m₁ m₀ : Str → Option Value} {v u : Value} (ha : m₁ y = some u) (hm : ∀ z, z ≠ x → z ≠ y → z ≠ a → z ≠ b → z ≠ c → z ≠ d → m₁ z = m₀ z) :
    (fun z => if z = x then some v else m₁ z) = fun z => if z = x then some v else if z = y then some u else if z = a then m₁ z else if z = b then m₁ z else if z = c then m₁ z else if z = d then m₁ z else m₀ z := by
  funext z
  by_cases h1 : z = x
  · simp [h1]
  · simp only [if_neg h1]
    by_cases h2 : z = y
    · subst h2; simp [ha]
    · simp only [if_neg h2]
      by_cases h3 : z = a
      · simp [h3]
      · simp only [if_neg h3]
        by_cases h4 : z = b
        · simp [h4]
        · simp only [if_neg h4]
          by_cases h5 : z = c
          · simp [h5]
          · simp only [if_neg h5]
            by_cases h6 : z = d
            · simp [h6]
            · simp only [if_neg h6]; exact hm z h1 h2 h3 h4 h5 h6
theorem done_six {x y a b c d : Str} {m₁ m₀ : Str → Option Value} {u : Value} (ha : m₁ y = some u) (hm : ∀ z, z ≠ x → z ≠ y → z ≠ a → z ≠ b → z ≠ c → z ≠ d → m₁ z = m₀ z) :
    (fun z => if z = x then m₁ z else if z = y then some u else if z = a then m₁ z else if z = b then m₁ z else if z = c then m₁ z else if z = d then m₁ z else m₀ z) = m₁ := by
  funext z
  by_cases h1 : z = x
  · simp [h1]
  · simp only [if_neg h1]
    by_cases h2 : z = y
    · subst h2; simp [ha]
    · simp only [if_neg h2]
      by_cases h3 : z = a
      · simp [h3]
      · simp only [if_neg h3]
        by_cases h4 : z = b
        · simp [h4]
        · simp only [if_neg h4]
          by_cases h5 : z = c
          · simp [h5]
          · simp only [if_neg h5]
            by_cases h6 : z = d
            · simp [h6]
            · simp only [if_neg h6]; exact (hm z h1 h2 h3 h4 h5 h6).symm
def CutPost {α : Type} (h₀ : Heap) (L : Addr) (m : Str → Option Value) (news : List (Addr × Obj)) (s : Shared) (P : α → Prop) (v : α) (s' : Shared) : Prop := ∃ h' tk', s' = { s with heap := h', toks := tk' } ∧ Fr h₀ L h' m ∧ News h₀ L h' news ∧ P v
theorem CutPost.intro {α : Type} {h₀ : Heap} {L : Addr} {m : Str → Option Value} {news : List (Addr × Obj)} {s : Shared} {P : α → Prop} {v : α} {h' : Heap} {tk' : Nat} (F : Fr h₀ L h' m) (N : News h₀ L h' news) (p : P v) : CutPost h₀ L m news s P v { s with heap := h', toks := tk' } := ⟨h', tk', rfl, F, N, p⟩
theorem cut_thing {α : Type} {M : Model} {A : Around} {E : Value → Shared → Prop} {s : Shared} {t : Sem α} {Q : α → Shared → Prop} {h₀ : Heap} {L : Addr} {m : Str → Option Value} {news : List (Addr × Obj)} (P : α → Prop) (F : Fr h₀ L s.heap m) (N : News h₀ L s.heap news)
    (h : wpAny M A t (CutPost h₀ L m news s P) E s) (k : ∀ v h' tk', Fr h₀ L h' m → News h₀ L h' news → P v → Q v { s with heap := h', toks := tk' }) : wpAny M A t Q E s :=
  wpAny_mono h (fun v s' p => by obtain ⟨h', tk', rfl, F', N', p⟩ := p; exact k v h' tk' F' N' p) fun _ _ e => e
structure Free : Prop
local macro_rules | `(tactic| walk_at "eval IfExp") => `(tactic| (k_here; (fail_if_success (rename Free => x9)); (with_reducible show wpAny _ _ (eval (Expr.IfExp _ (Expr.Call _ _ _ _) _ _) _) _ _ _); refine Hold.out ?_))
theorem says_counted (w mean mg mb) (a b : Int) (ta tb : Tok) (l l' : Addr) (vs vs' : List Value) (nn nn' : Nat) (cs : List Int) (js : List Nat) :
    SaysP w mean mg mb 6 182 [.int a ta, .int b tb, .ref l, .ref l'] (fun news => (l, listOf vs.toArray nn) ∈ news ∧ IntsAre vs cs ∧ (∀ c ∈ cs, 0 ≤ c ∧ c ≤ 4) ∧ (l', listOf vs'.toArray nn') ∈ news ∧ JudsAre vs' js ∧ -200 ≤ a ∧ a ≤ b ∧ b ≤ 400) (fun r => ∃ t, r = .int (cntF a cs js (b - a).toNat) t) := by
  unfold SaysP
  intro dp un gd cn9 cs9 a9 ccd cl9 outer A₀ base h₀ L m9 news s9 Q E B F X N T hk hpre hdp hu hret
  obtain ⟨hl, hi, hcs, hl', hj, hlo, hab, hhi⟩ := hpre
  refine wpAny_call ?_
  k_dflt cell_enter
  k_steps
  (rename Fr _ _ _ _ => F1); (rename News _ _ _ _ => N1); (rename IsRange _ _ _ _ _ _ _ _ => rg)
  unfold Hold
  with_unfolding_all refine' iter_R (fun m₀ i m => (∃ t, m (Str.ofString "count") = some (.int (cntF a cs js i) t)) ∧ ∀ z, z ≠ Str.ofString "number" → z ≠ Str.ofString "count" → z ≠ Str.ofString "thing" → z ≠ Str.ofString "call" → z ≠ Str.ofString "odd" → z ≠ Str.ofString "judge" → m z = m₀ z) rfl rg (small_one (by omega) (by omega) (by omega) (by omega)) (rangeSize_nat _ _) F1 N1 ⟨⟨_, by rfl⟩, fun _ _ _ _ _ _ _ => rfl⟩ ?_ ?_
  · intro i t m₁ h tk1 news₁ hin hJ hsub F2 N2
    obtain ⟨⟨tc, h1⟩, h2⟩ := hJ
    rw [map_six h1 h2] at F2
    clear h1 h2
    k_steps
    unfold Hold
    refine cut_thing (fun v => Th v (a + (i : Int))) (by k_asm) (by k_asm) ?_ ?_
    · have fr : Free := Free.mk
      (try k_fold)
      k_steps
      all_goals (refine' CutPost.intro ?e1 ?e2 ?e3; (case e1 => k_asm); (case e2 => k_asm); (case e3 => first | exact .inl ⟨_, rfl⟩ | exact .inr ⟨_, _, (Int.toNat_of_nonneg (by omega)).symm, by omega, rfl⟩))
    · intro v h' tk' F3 N3 hth
      clear F1 N1 F2 N2
      k_steps
      (rename Fr _ _ _ _ => F4); (rename News _ _ _ _ => N4)
      unfold Hold
      with_unfolding_all refine' iter_L (fun m₀ i' m => (∃ v, m (Str.ofString "thing") = some v ∧ Th v (applyF (cs.take i') (a + (i : Int)))) ∧ ∀ z, z ≠ Str.ofString "call" → z ≠ Str.ofString "thing" → m z = m₀ z) rfl (hsub _ hl) F4 N4 ⟨⟨_, by rfl, hth⟩, fun _ _ _ => rfl⟩ ?_ ?_
      · intro i2 v2 m2 h2 tk2 news2 hv2 hJ2 hsub2 F5 N5
        obtain ⟨⟨v3, h3, hth3⟩, h4⟩ := hJ2
        rw [map_one h3 h4] at F5
        obtain ⟨k, t', rfl, hk⟩ := hi.at i2 v2 hv2
        have hs : applyF (cs.take (i2 + 1)) (a + (i : Int)) = callF (applyF (cs.take i2) (a + (i : Int))) k := by
          rw [List.take_add_one, hk]; simp [applyF]
        have hk4 := hcs k (List.mem_of_getElem? hk)
        have hk5 : k = 0 ∨ k = 1 ∨ k = 2 ∨ k = 3 ∨ k = 4 := by omega
        rw [hs]
        clear hs h3 h4 hk hk4 hv2 hth F4 N4
        revert hth3
        generalize applyF (cs.take i2) (a + (i : Int)) = st
        intro hth3
        rcases hk5 with rfl | rfl | rfl | rfl | rfl
        all_goals k_steps
        all_goals unfold Hold
        all_goals (refine' InvEnd.intro (by k_asm) (by k_asm) (by intro p hp; first | assumption | k_ownIn) ⟨⟨_, by rfl, ?thing⟩, ?same⟩; (case same => intro z z1 z2; (try dsimp only); (repeat' (first | rw [if_neg z1] | rw [if_neg z2]))); (case thing => first | exact hth3 | assumption))
      · intro m2 h2 tk2 hJ2 F5 N5
        obtain ⟨⟨v3, h3, hth3⟩, h4⟩ := hJ2
        rw [show vs.length = cs.length from hi.length, List.take_length] at hth3
        rw [← done_one (x := Str.ofString "call") h3 h4] at F5
        clear h3 h4 hth F4 N4
        revert hth3
        generalize hX : applyF cs (a + (i : Int)) = X
        intro hth3
        k_steps
        (rename Fr _ _ _ _ => F6); (rename News _ _ _ _ => N6)
        unfold Hold
        with_unfolding_all refine' iter_L (fun m₀ i' m => m (Str.ofString "odd") = some (.bool (oddF (js.take i') X)) ∧ ∀ z, z ≠ Str.ofString "judge" → z ≠ Str.ofString "odd" → m z = m₀ z) rfl (hsub _ hl') F6 N6 ⟨by rfl, fun _ _ _ => rfl⟩ ?_ ?_
        · intro i4 v4 m4 h4 tk4 news4 hv4 hJ4 hsub4 F7 N7
          obtain ⟨h5, h6⟩ := hJ4
          rw [map_one h5 h6] at F7
          obtain ⟨j, hjx, hj15, rfl⟩ : ∃ j, js[i4]? = some j ∧ j < 15 ∧ v4 = .ref (jAddr.getD j 28) := by
            rw [hj.1] at hv4
            rw [List.getElem?_map] at hv4
            cases hx : js[i4]? with
            | none => rw [hx] at hv4; cases hv4
            | some j => rw [hx] at hv4; exact ⟨j, rfl, hj.2 j (List.mem_of_getElem? hx), (Option.some.inj hv4).symm⟩
          have hs : oddF (js.take (i4 + 1)) X = (oddF (js.take i4) X != judF j X) := by
            rw [List.take_add_one, hjx]; simp [oddF]
          rw [hs]
          clear hs h5 h6 hv4 hjx F6 N6 F5 N5 F3 N3 hX
          revert F7
          generalize oddF (js.take i4) X = o
          intro F7
          have hj16 : j = 0 ∨ j = 1 ∨ j = 2 ∨ j = 3 ∨ j = 4 ∨ j = 5 ∨ j = 6 ∨ j = 7 ∨ j = 8 ∨ j = 9 ∨ j = 10 ∨ j = 11 ∨ j = 12 ∨ j = 13 ∨ j = 14 := by omega
          clear hj15
          rcases hj16 with rfl | rfl | rfl | rfl | rfl | rfl | rfl | rfl | rfl | rfl | rfl | rfl | rfl | rfl | rfl
          all_goals k_steps
          all_goals unfold Hold
          all_goals (refine' InvEnd.intro (by k_asm) (by k_asm) (by intro p hp; first | assumption | k_ownIn) ⟨by rfl, ?same⟩; (case same => intro z z1 z2; (try dsimp only); (repeat' (first | rw [if_neg z1] | rw [if_neg z2]))))
        · intro m4 h4 tk4 hJ4 F7 N7
          obtain ⟨h5, h6⟩ := hJ4
          rw [show vs'.length = js.length from by rw [hj.1, List.length_map], List.take_length] at h5
          rw [← done_one (x := Str.ofString "judge") h5 h6] at F7
          clear h5 h6 F6 N6 F5 N5 F3 N3
          rw [cntF, hX]
          revert F7
          generalize oddF js X = o
          intro F7
          cases o
          all_goals k_steps
          all_goals unfold Hold
          all_goals (refine' InvEnd.intro (by k_asm) (by k_asm) (by intro p hp; first | assumption | k_ownIn) ⟨⟨_, ?cnt⟩, ?same⟩; (case cnt => first | rfl | (rw [if_neg Bool.false_ne_true, Int.add_zero]; rfl)); (case same => intro z z1 z2 z3 z4 z5 z6; (try dsimp only); (repeat' (first | rw [if_neg z1] | rw [if_neg z2] | rw [if_neg z3] | rw [if_neg z4] | rw [if_neg z5] | rw [if_neg z6]))))
  · intro m₁ h tk1 hJ F2 N2
    obtain ⟨⟨tc, h1⟩, h2⟩ := hJ
    rw [← done_six (x := Str.ofString "number") h1 h2] at F2
    clear h1 h2 F1 N1
    k_steps
    all_goals (exact hret _ _ _ (by k_asm) (by k_asm) ⟨_, by rfl⟩)
local macro_rules | `(tactic| walk_at "call ref") => `(tactic| (k_here; k_dflt (refine' SaysP.use (says_counted _ _ _ _ _ _ _ _ _ _ _ _ _ _ _ _) ?k1 ?k2 ?k3 ?k4 ?k5 ?kK ?kp ?kd ?ku ?_); (case k1 => k_asm); (case k2 => k_asm); (case k3 => k_asm); (case k4 => k_asm); (case k5 => k_asm); (case kK => first | exact rfl | assumption); (case kp => (try dsimp only); refine' ⟨?kp1, ?kp2, ?kp3, ?kp4, ?kp5, ?kp6, ?kp7, ?kp8⟩; (case kp1 => k_dflt k_mem); (case kp2 => assumption); (case kp3 => assumption); (case kp4 => k_dflt k_mem); (case kp5 => assumption); (case kp6 => omega); (case kp7 => omega); (case kp8 => omega)); (case kd => ktr_room); (case ku => ktr_units); k_whole; intro v9 h9 tk9 F9 N9 P9; (obtain ⟨t9, e9⟩ := P9); (subst e9); (try dsimp only); (try k_fold)))

-- a block of two for's: [y for x in its for y in f(x)]
section
variable {prog : Program} {w : World} {A : Around} {E : Value → Shared → Prop} {R : Result → Shared → Prop} {s : Shared} {elt tx ty iter iter1 : PySem.Expr} {scope : Scope} {pos : Pos} {it acc : Value} {env : Env}
theorem turn2a (elt tx ty iter iter1 : PySem.Expr) (scope : Scope) (pos : Pos) (it acc : Value) (env : Env) :
    compTurn (.ListComp elt [⟨tx, iter, [], 0⟩, ⟨ty, iter1, [], 0⟩] scope pos) 0 it acc env = (standAt iter.pos >>= fun _ => pyNext it >>= fun r => match r with
      | none => pure (.done .next)
      | some v => letOwnedTupleGo tx it v >>= fun _ => assign tx env v >>= fun _ =>
        eval iter1 env >>= fun x => standAt iter1.pos >>= fun _ => foldedSetIterable iter1 env x >>= fun x => holding [x] (pyIter x) >>= fun it' =>
          runOwn (.compStart (.ListComp elt [⟨tx, iter, [], 0⟩, ⟨ty, iter1, [], 0⟩] scope pos) 1 it' acc env) env >>= fun _ =>
          again (.compLoop (.ListComp elt [⟨tx, iter, [], 0⟩, ⟨ty, iter1, [], 0⟩] scope pos) 0 it acc env)) := by rfl
theorem turn2b (elt tx ty iter iter1 : PySem.Expr) (scope : Scope) (pos : Pos) (it acc : Value) (env : Env) :
    compTurn (.ListComp elt [⟨tx, iter, [], 0⟩, ⟨ty, iter1, [], 0⟩] scope pos) 1 it acc env = (standAt iter1.pos >>= fun _ => pyNext it >>= fun r => match r with
      | none => pure (.done .next)
      | some v => letOwnedTupleGo ty it v >>= fun _ => assign ty env v >>= fun _ =>
        (eval elt env >>= fun x => call (.builtin "list.append") [acc, x] >>= fun _ => pure ()) >>= fun _ =>
          again (.compLoop (.ListComp elt [⟨tx, iter, [], 0⟩, ⟨ty, iter1, [], 0⟩] scope pos) 1 it acc env)) := by rfl
theorem loop2b (I : Nat → Shared → Prop)
    (turn : ∀ n s, I n s → ∀ E, wpAny (model prog w) A (pyNext it) (fun r s₁ => match r with
      | none => R (.ok .next) s₁
      | some v => wpAny (model prog w) A (assign ty env v) (fun _ s₂ => wpAny (model prog w) A (eval elt env) (fun x s₃ =>
          wpAny (model prog w) A (call (.builtin "list.append") [acc, x]) (fun _ s₄ => ∃ m, m < n ∧ I m s₄) E s₃) E s₂) E s₁) E s)
    (n : Nat) (h : I n s) (ht : ∀ v, letOwnedTupleGo ty it v = pure ()) :
    codeAny (model prog w) A (.compLoop (.ListComp elt [⟨tx, iter, [], 0⟩, ⟨ty, iter1, [], 0⟩] scope pos) 1 it acc env) R s := by
  refine codeAny_loop rfl I (fun n s hI => ?_) n h
  show wpAny _ A ((compTurn (.ListComp elt [⟨tx, iter, [], 0⟩, ⟨ty, iter1, [], 0⟩] scope pos) 1 it acc env).onRaise (fun x => do noteFrame x env; theTreesLotGoes x)) _ _ s
  refine wpAny_noted ?_
  rw [turn2b]
  refine wpAny_bind (wpAny_standAt (wpAny_bind (wpAny_mono (turn n s hI _) (fun r s₁ h₁ => ?_) fun _ _ h' => h')))
  cases r with
  | none => exact wpAny_pure h₁
  | some v =>
    refine wpAny_bind (wpAny_of_eq (ht v) ?_)
    exact wpAny_bind (wpAny_mono h₁ (fun _ s₂ h₂ => wpAny_bind (wpAny_bind (wpAny_mono h₂ (fun x s₃ h₃ => wpAny_bind (wpAny_mono h₃
      (fun _ s₄ h₄ => wpAny_pure (wpAny_pure ⟨rfl, h₄⟩)) fun _ _ h' => h')) fun _ _ h' => h'))) fun _ _ h' => h')
theorem start2b
    (h0 : codeAny (model prog w) A (.compLoop (.ListComp elt [⟨tx, iter, [], 0⟩, ⟨ty, iter1, [], 0⟩] scope pos) 1 it acc env) R s)
    (h : ∀ E, wpAny (model prog w) A (pyIter it) (fun it' s' => codeAny (model prog w) A (.compLoop (.ListComp elt [⟨tx, iter, [], 0⟩, ⟨ty, iter1, [], 0⟩] scope pos) 1 it' acc env) R s') E s) :
    codeAny (model prog w) A (.compStart (.ListComp elt [⟨tx, iter, [], 0⟩, ⟨ty, iter1, [], 0⟩] scope pos) 1 it acc env) R s := by
  refine codeAny_of_tree ?_
  show wpAny _ _ ((compStart (.ListComp elt [⟨tx, iter, [], 0⟩, ⟨ty, iter1, [], 0⟩] scope pos) 1 it acc env).onRaise (fun x => do noteFrame x env; standAt theWindowsPlace)) _ _ s
  refine wpAny_notedAt ?_
  unfold compStart
  show wpAny _ _ (ask >>= _) _ _ s
  refine wpAny_bind (wpAny_askSetting (wpAny_ite ?_))
  split
  · first
      | exact wpAny_bind (wpAny_pure (wpAny_pure (And.intro rfl h0)))
      | exact wpAny_pure (And.intro rfl h0)
  · first
      | exact wpAny_bind (wpAny_rule (wpAny_bind (wpAny_standAt (wpAny_bind (wpAny_mono (h _) (fun it' s' h' => wpAny_pure (And.intro rfl h')) fun _ _ x => x)))))
      | (refine wpAny_bind (wpAny_rule ?_); show wpAny _ _ (standAt iter1.pos >>= _) _ _ s; exact wpAny_bind (wpAny_standAt (wpAny_bind (wpAny_mono (h _) (fun it' s' h' => wpAny_pure (And.intro rfl h')) fun _ _ x => x))))
theorem loop2a (I : Nat → Shared → Prop)
    (turn : ∀ n s, I n s → ∀ E, wpAny (model prog w) A (pyNext it) (fun r s₁ => match r with
      | none => R (.ok .next) s₁
      | some v => wpAny (model prog w) A (assign tx env v) (fun _ s₂ => wpAny (model prog w) A (eval iter1 env) (fun x s₃ => wpAny (model prog w) A (pyIter x) (fun it' s₄ =>
          codeAny (model prog w) A (.compStart (.ListComp elt [⟨tx, iter, [], 0⟩, ⟨ty, iter1, [], 0⟩] scope pos) 1 it' acc env) (fun r s₅ => r = .ok .next ∧ ∃ m, m < n ∧ I m s₅) s₄) E s₃) E s₂) E s₁) E s)
    (n : Nat) (h : I n s) (ht : ∀ v, letOwnedTupleGo tx it v = pure ()) (hs : ∀ x, foldedSetIterable iter1 env x = pure x) :
    codeAny (model prog w) A (.compLoop (.ListComp elt [⟨tx, iter, [], 0⟩, ⟨ty, iter1, [], 0⟩] scope pos) 0 it acc env) R s := by
  refine codeAny_loop rfl I (fun n s hI => ?_) n h
  show wpAny _ A ((compTurn (.ListComp elt [⟨tx, iter, [], 0⟩, ⟨ty, iter1, [], 0⟩] scope pos) 0 it acc env).onRaise (fun x => do noteFrame x env; theTreesLotGoes x)) _ _ s
  refine wpAny_noted ?_
  rw [turn2a]
  refine wpAny_bind (wpAny_standAt (wpAny_bind (wpAny_mono (turn n s hI _) (fun r s₁ h₁ => ?_) fun _ _ h' => h')))
  cases r with
  | none => exact wpAny_pure h₁
  | some v =>
    refine wpAny_bind (wpAny_of_eq (ht v) ?_)
    refine wpAny_bind (wpAny_mono h₁ (fun _ s₂ h₂ => wpAny_bind (wpAny_mono h₂ (fun x s₃ h₃ => wpAny_bind (wpAny_standAt (wpAny_bind (wpAny_of_eq (hs x) ?_)))) fun _ _ h' => h')) fun _ _ h' => h')
    refine wpAny_bind (wpAny_holding (wpAny_mono h₃ (fun it' s₄ h₄ => wpAny_bind (wpAny_runOwn (codeAny_mono h₄ fun r s₅ h₅ => ?_))) fun _ _ h' => h'))
    obtain ⟨rfl, h₅⟩ := h₅
    exact wpAny_pure ⟨rfl, h₅⟩
end
section
variable {prog : Program} {w : World} {A : Around} {E : Value → Shared → Prop} {R : Result → Shared → Prop} {s : Shared} {tx iter iter1 : PySem.Expr} {scope : Scope} {cl : List (Str × Addr)} {pos pe py : Pos} {env : Env} {y : Str}
theorem inner2 (hh : A.handled = none) {b D C n' : Nat} {items ys : List Value} {m₂ : Str → Option Value}
    (hb : s.heap.get? b = some (listOf items.toArray n')) (hD : s.heap.get? D = some (LCg.lst ys)) (hC : s.heap.Ns C m₂) (hbD : b ≠ D) (hbC : b ≠ C) (hCD : C ≠ D)
    (hy : scope.names.lookup y = some .local) (hkind : scope.kind = .function) (hyd : (y == ("__debug__" : Str)) = false) (hsz : ys.length + items.length ≤ sizeLine)
    (hR : ∀ h' tk m', (∀ (p : Nat) o, p ≠ C → p ≠ D → s.heap.get? p = some o → h'.get? p = some o) → h'.Ns C m' → h'.get? D = some (LCg.lst (ys ++ items)) → R (.ok .next) { s with heap := h', toks := tk }) :
    wpAny (model prog w) A (pyIter (.ref b)) (fun it' s₄ => codeAny (model prog w) A (.compStart (.ListComp (.Name y pe) [⟨tx, iter, [], 0⟩, ⟨.Name y py, iter1, [], 0⟩] scope pos) 1 it' (.ref D) (compEnvC scope cl C env)) R s₄) E s := by
  have hls : s.heap.IsList b items.toArray := ⟨_, hb, rfl, n', rfl⟩
  have hbI : b ≠ s.heap.objs.size := Nat.ne_of_lt (Heap.lt_size hb)
  have hDI : D ≠ s.heap.objs.size := Nat.ne_of_lt (Heap.lt_size hD)
  have hCI : C ≠ s.heap.objs.size := Nat.ne_of_lt hC.lt
  refine wpAny_pyIter_list hls ?_
  have W := Walks.list (prog := prog) (w := w) hh s.heap.objs.size b hbI items.toArray
  rw [List.size_toArray] at W
  have up : ∀ b' o, s.heap.get? b' = some o → (s.heap.push { cls := .type "list_iterator", data := .fields #[.ref b, .int 0 0] }).get? b' = some o := fun b' o e => Heap.get?_push_of_some _ e
  have st0 : (s.heap.push { cls := .type "list_iterator", data := .fields #[.ref b, .int 0 0] }).IsListIter s.heap.objs.size b 0 ∧ (s.heap.push { cls := .type "list_iterator", data := .fields #[.ref b, .int 0 0] }).IsList b items.toArray := ⟨⟨_, Heap.get?_push_size _ rfl, rfl, rfl⟩, hls.push _⟩
  have loop : codeAny (model prog w) A (.compLoop (.ListComp (.Name y pe) [⟨tx, iter, [], 0⟩, ⟨.Name y py, iter1, [], 0⟩] scope pos) 1 (.ref s.heap.objs.size) (.ref D) (compEnvC scope cl C env)) R { s with heap := s.heap.push { cls := .type "list_iterator", data := .fields #[.ref b, .int 0 0] } } := by
    refine loop2b (fun k s' => ∃ h' tk i m', s' = { s with heap := h', toks := tk } ∧ i ≤ items.length ∧ k = items.length + 1 - i ∧ (h'.IsListIter s.heap.objs.size b i ∧ h'.IsList b items.toArray) ∧
      (∀ (p : Nat) o, p ≠ C → p ≠ D → s.heap.get? p = some o → h'.get? p = some o) ∧ h'.Ns C m' ∧ h'.get? D = some (LCg.lst (ys ++ items.take i))) ?_ (items.length + 1)
      ⟨_, _, 0, m₂, rfl, Nat.zero_le _, rfl, st0, fun p o _ _ e => up p o e, hC.at' fun o e => up _ o e, by rw [List.take_zero, List.append_nil]; exact up _ _ hD⟩ (by intro _; rfl)
    rintro k s' ⟨h', tk, i, m', rfl, hi, rfl, hst, hk, hn, hd⟩ E
    by_cases hlt : i < items.length
    · refine W.item i _ _ _ hlt hst fun v h₂ tk₂ hPv hst₂ hk₂ => ?_
      have hv : items[i]? = some v := by simpa using hPv
      refine wpAny_assign_Name (wpAny_storeName_local (lookup_relabel_local hy) (hn.at' fun o e => hk₂ _ o (by simpa using hCI) e) (fun h₃ hn₃ hs₃ => ?_) (by simp [compEnvC, relabel, hkind]))
      refine wpAny_Name (wpAny_loadName_local (by simp [compEnvC, relabel, hkind]) (lookup_relabel_local hy) hn₃ (v := v) (by simp) ?_) hyd
      have hd₃ : h₃.get? D = some (LCg.lst (ys ++ items.take i)) := hs₃.extBut _ _ (Ne.symm hCD) (hk₂ _ _ (by simpa using hDI) hd)
      refine append_at (hsz := by rw [List.size_toArray, List.length_append, List.length_take]; omega) hd₃ fun h₄ hs₄ hd₄ => ?_
      refine ⟨items.length + 1 - (i + 1), by omega, h₄, _, i + 1, _, rfl, hlt, rfl, ?_, ?_, hn₃.sameBut hs₄ hCD, ?_⟩
      · refine W.frame _ _ _ hst₂ fun b' hb' o e => ?_
        rcases List.mem_cons.mp hb' with rfl | hb'
        · exact hs₄.extBut _ _ (Ne.symm hDI) (hs₃.extBut _ _ (Ne.symm hCI) e)
        · obtain rfl := List.mem_singleton.mp hb'
          exact hs₄.extBut _ _ hbD (hs₃.extBut _ _ hbC e)
      · intro p o hpC hpD e
        have hpI : p ≠ s.heap.objs.size := Nat.ne_of_lt (Heap.lt_size e)
        exact hs₄.extBut _ _ hpD (hs₃.extBut _ _ hpC (hk₂ _ _ (by simpa using hpI) (hk p o hpC hpD e)))
      · rw [List.take_add_one, hv, hd₄, LCg.lst_snoc]
        simp [List.append_assoc]
    · obtain rfl : i = items.length := Nat.le_antisymm hi (Nat.not_lt.mp hlt)
      refine W.done _ _ _ hst fun h₂ tk₂ hk₂ => ?_
      rw [List.take_length] at hd
      exact hR h₂ tk₂ m' (fun p o hpC hpD e => hk₂ _ _ (by have hpI : p ≠ s.heap.objs.size := Nat.ne_of_lt (Heap.lt_size e); simpa using hpI) (hk p o hpC hpD e)) (hn.at' fun o e => hk₂ _ o (by simpa using hCI) e) (hk₂ _ _ (by simpa using hDI) hd)
  exact start2b loop fun E => W.self 0 _ _ _ st0 loop
end
def TurnEnd (h₀ : Heap) (L : Addr) (m : Str → Option Value) (s₁ : Shared) (led : List (Addr × Obj)) (R : List Value → Prop) (y : Value) (s₂ : Shared) : Prop :=
  ∃ (h' : Heap) (tk b n' : Nat) (items : List Value), s₂ = { s₁ with heap := h', toks := tk } ∧ Fr h₀ L h' m ∧ News h₀ L h' ((b, listOf items.toArray n') :: led) ∧ (∀ p ∈ led, p.1 ≠ b) ∧ y = .ref b ∧ items.length ≤ 100 ∧ R items
def Src2 (prog : Program) (w : World) (A : Around) (h₀ : Heap) (L : Addr) (m : Str → Option Value) (env : Env) (iter1 : PySem.Expr) (x : Str) (scope : Scope) (cl : List (Str × Addr)) (R : Value → List Value → Prop) (Q : Value → Shared → Prop) (xv : Value) (s₁ : Shared) : Prop :=
  ∃ (ax k : Nat) (its : List Value) (news : List (Addr × Obj)), xv = .ref ax ∧ A.handled = none ∧ Fr h₀ L s₁.heap m ∧ News h₀ L s₁.heap news ∧ (ax, listOf its.toArray k) ∈ news ∧ its.length ≤ 100 ∧
    (∀ v I oI C oC D m₂ ys h tk (E' : Value → Shared → Prop), v ∈ its → LCg.NsObj oC m₂ → m₂ x = some v → Fr h₀ L h m → News h₀ L h ((I, oI) :: (C, oC) :: (D, LCg.lst ys) :: news) → LCg.Off3 I C D news → ((@Ne Nat I C) ∧ (@Ne Nat I D) ∧ (@Ne Nat C D)) →
      wpAny (model prog w) A (eval iter1 (compEnvC scope cl C env)) (TurnEnd h₀ L m { s₁ with heap := h, toks := tk } ((I, oI) :: (C, oC) :: (D, LCg.lst ys) :: news) (R v)) E' { s₁ with heap := h, toks := tk }) ∧
    (∀ D h tk yss, Paired R its yss → Fr h₀ L h m → News h₀ L h ((D, LCg.lst yss.flatten) :: news) → LCg.Off1 D news → Q (.ref D) { s₁ with heap := h, toks := tk })
section
variable {prog : Program} {w : World} {A : Around} {E : Value → Shared → Prop} {s : Shared} {h₀ : Heap} {L : Addr} {m : Str → Option Value} {env : Env}
theorem ListComp_2 {iter iter1 : PySem.Expr} {x y : Str} {px py pe : Pos} {scope : Scope} {cl : List (Str × Addr)} {pos : Pos} {Q : Value → Shared → Prop} (F₀ : Fr h₀ L s.heap m) (Rel : Value → List Value → Prop)
    (hclos : closureFor scope env = pure cl) (hcell : ∀ z ∈ scope.names, z.2 ≠ .cell) (hkind : scope.kind = .function)
    (hnames : ∀ z ∈ scope.names, z.2 = .local → scope.names.lookup z.1 = some .local) (hx : scope.names.lookup x = some .local) (hy : scope.names.lookup y = some .local) (hyd : (y == ("__debug__" : Str)) = false)
    (hs : ∀ z, foldedSetIterable iter env z = pure z) (hs1 : ∀ C z, foldedSetIterable iter1 (compEnvC scope cl C env) z = pure z)
    (h : wpAny (model prog w) A (eval iter env) (Src2 prog w A h₀ L m env iter1 x scope cl Rel Q) E s) :
    wpAny (model prog w) A (eval (.ListComp (.Name y pe) [⟨.Name x px, iter, [], 0⟩, ⟨.Name y py, iter1, [], 0⟩] scope pos) env) Q E s := by
  rw [eval_ListComp]
  refine wpAny_comprehension_free (use := none) rfl hs hclos hkind hnames (wpAny_mono h (fun xv s₁ h₁ => ?_) fun _ _ e => e)
  obtain ⟨ax, k, its, news, rfl, hh, F, N, hm, hlen, turn, fin⟩ := h₁
  have hax := (N _ hm).1
  have hlt : ax < s₁.heap.objs.size := Heap.lt_size hax
  have hl : s₁.heap.IsList ax its.toArray := ⟨_, hax, rfl, k, rfl⟩
  have hne : ax ≠ s₁.heap.objs.size := Nat.ne_of_lt hlt
  refine wpAny_pyIter_list hl ?_
  have W := Walks.list (prog := prog) (w := w) hh s₁.heap.objs.size ax hne its.toArray
  rw [show its.toArray.size = its.length from List.size_toArray] at W
  refine wpAny_newObj_type (wpAny_newFunctionEnv hcell (by intro y hy; simp at hy) (fun h₁ hns₁ hsb₁ => ?_) hkind)
  dsimp only at hns₁ hsb₁ ⊢
  generalize hH1 : s₁.heap.push { cls := .type "list_iterator", data := .fields #[.ref ax, .int 0 0] } = H1 at hns₁ hsb₁ ⊢
  generalize hH2 : H1.push { cls := .type "list", dict := none, data := .seq ([] : List Value).toArray } = H2 at hns₁ hsb₁ ⊢
  have hD : H1.objs.size = s₁.heap.objs.size + 1 := by rw [← hH1, Heap.size_push]
  have hC : H2.objs.size = s₁.heap.objs.size + 2 := by rw [← hH2, Heap.size_push, hD]
  generalize hIe : s₁.heap.objs.size = I at *
  generalize hDe : H1.objs.size = D at *
  generalize hCe : H2.objs.size = C at *
  have nID : @Ne Nat I D := by omega
  have nIC : @Ne Nat I C := by omega
  have nCD : @Ne Nat C D := by omega
  have up1 : ∀ b o, s₁.heap.get? b = some o → H1.get? b = some o := fun b o e => hH1 ▸ Heap.get?_push_of_some _ e
  have up2 : ∀ b o, H1.get? b = some o → H2.get? b = some o := fun b o e => hH2 ▸ Heap.get?_push_of_some _ e
  have old : ∀ b o, @Ne Nat b C → H2.get? b = some o → h₁.get? b = some o := fun b o hb e => hsb₁.extBut b o hb (Heap.get?_push_of_some _ e)
  have below : ∀ b o, s₁.heap.get? b = some o → @Ne Nat b I ∧ @Ne Nat b C ∧ @Ne Nat b D := fun b o e => by
    have := Heap.lt_size e
    rw [hIe] at this
    have this' : @LT.lt Nat _ b I := this
    refine ⟨?_, ?_, ?_⟩ <;> (intro q; omega)
  have keep1 : ∀ b o, s₁.heap.get? b = some o → h₁.get? b = some o := fun b o e => old b o (below b o e).2.1 (up2 _ _ (up1 _ _ e))
  have fresh₀ : ∀ a, @LE.le Nat _ I a → h₀.get? a = none := fun a ha => by
    cases e : h₀.get? a with
    | none => rfl
    | some o' =>
      have := Heap.lt_size (F.keep a o' e)
      rw [hIe] at this
      exact absurd this (Nat.not_lt.mpr ha)
  have hI₀ : h₀.get? I = none := fresh₀ _ (Nat.le_refl _)
  have hD₀ : h₀.get? D = none := fresh₀ _ (by omega)
  have hC₀ : h₀.get? C = none := fresh₀ _ (by omega)
  have hLlt : @LT.lt Nat _ L I := by have := F.ns.lt; rw [hIe] at this; exact this
  have nLI : @Ne Nat L I := by omega
  have nLD : @Ne Nat L D := by omega
  have nLC : @Ne Nat L C := by omega
  have nAI : @Ne Nat ax I := (below _ _ hax).1
  have off : LCg.Off3 I C D news := LCg.Off3.of fun p hp => ⟨(below _ _ (N p hp).1).1, (below _ _ (N p hp).1).2.1, (below _ _ (N p hp).1).2.2⟩
  have off3 := off.mem
  have hit : H1.get? I = some { cls := .type "list_iterator", data := .fields #[.ref ax, .int 0 0] } := by
    rw [← hH1, ← hIe]; exact Heap.get?_push_size _ rfl
  have hacc : h₁.get? D = some (LCg.lst []) := old _ _ (Ne.symm nCD) (by rw [← hH2, ← hDe]; exact Heap.get?_push_size _ rfl)
  have st0 : h₁.IsListIter I ax 0 ∧ h₁.IsList ax its.toArray := ⟨⟨_, old _ _ nIC (up2 _ _ hit), rfl, rfl⟩, ⟨_, keep1 _ _ hax, rfl, k, rfl⟩⟩
  have loop : ∀ s₃ : Shared, s₃ = { s₁ with heap := h₁, toks := s₁.toks + ([] : List (Str × Value)).length } →
      codeAny (model prog w) A (.compLoop (.ListComp (.Name y pe) [⟨.Name x px, iter, [], 0⟩, ⟨.Name y py, iter1, [], 0⟩] scope pos) 0 (.ref I) (.ref D) (compEnvC scope cl C env))
        (compPost (model prog w) A E none Q (.ref D) C) s₃ := by
    rintro s₃ rfl
    refine loop2a (fun j s' => ∃ h' tk i yss m', s' = { s₁ with heap := h', toks := tk } ∧ i ≤ its.length ∧ j = its.length + 1 - i ∧ (h'.IsListIter I ax i ∧ h'.IsList ax its.toArray) ∧ Fr h₀ L h' m ∧ h'.Ns C m' ∧
        News h₀ L h' ((D, LCg.lst yss.flatten) :: news) ∧ Paired Rel (its.take i) yss ∧ yss.flatten.length ≤ 100 * i) ?_ (its.length + 1)
      ⟨h₁, _, 0, [], _, rfl, Nat.zero_le _, rfl, st0, F.keeps keep1, hns₁, fun p hp => ?_, by rw [List.take_zero]; exact .nil, Nat.zero_le _⟩ (by intro _; rfl) (hs1 C)
    · rintro j s' ⟨h', tk, i, yss, m', rfl, hi, rfl, hst, F', hn', N', hP, hsz⟩ E'
      by_cases hlt' : i < its.length
      · refine W.item i _ _ _ hlt' hst fun v h₂ tk₂ hPv hst₂ hk₂ => ?_
        have hv : its[i]? = some v := by simpa using hPv
        refine wpAny_assign_Name (wpAny_storeName_local (lookup_relabel_local hx) (hn'.at' fun o e => hk₂ _ o (by simpa using Ne.symm nIC) e) (fun h₃ hn₃ hs₃ => ?_) (by simp [compEnvC, relabel, hkind]))
        have hst₃ : h₃.IsListIter I ax (i + 1) ∧ h₃.IsList ax its.toArray := W.frame _ _ _ hst₂ fun b hb o e => by
          rcases List.mem_cons.mp hb with rfl | hb
          · exact hs₃.extBut _ _ nIC e
          · obtain rfl := List.mem_singleton.mp hb
            exact hs₃.extBut _ _ (below _ _ hax).2.1 e
        obtain ⟨oI, heI, hrI⟩ := hst₃.1
        obtain ⟨oC, heC, hoC⟩ := LCg.ns_obj hn₃
        have F₃ : Fr h₀ L h₃ m := (LCg.fr_but F' hk₂ nLI hI₀).change hs₃ (Ne.symm nLC) hC₀
        have N₂ : News h₀ L h₂ ((D, LCg.lst yss.flatten) :: news) := LCg.news_but N' hk₂ fun p hp => by
          rcases List.mem_cons.mp hp with rfl | hp
          · exact Ne.symm nID
          · exact (off3 p hp).1
        have N₃ : News h₀ L h₃ ((I, oI) :: (C, oC) :: (D, LCg.lst yss.flatten) :: news) := fun p hp => by
          rcases List.mem_cons.mp hp with rfl | hp
          · exact ⟨heI, Ne.symm nLI, hI₀⟩
          · rcases List.mem_cons.mp hp with rfl | hp
            · exact ⟨heC, Ne.symm nLC, hC₀⟩
            · have z := N₂ p hp
              refine ⟨hs₃.extBut _ _ ?_ z.1, z.2⟩
              rcases List.mem_cons.mp hp with rfl | hp
              · exact Ne.symm nCD
              · exact (off3 p hp).2.1
        refine wpAny_mono (turn v I oI C oC D _ _ h₃ _ _ (List.mem_of_getElem? hv) hoC (by simp) F₃ N₃ off ⟨nIC, nID, nCD⟩) (fun xv s₄ h₄ => ?_) fun _ _ e => e
        obtain ⟨h₄, tk₄, b, n', items, rfl, F₄, N₄, hbl, rfl, hil, hR⟩ := h₄
        have zb := (N₄ _ List.mem_cons_self).1
        have zI := (N₄ (I, oI) (List.mem_cons_of_mem _ List.mem_cons_self)).1
        have zC := (N₄ (C, oC) (List.mem_cons_of_mem _ (List.mem_cons_of_mem _ List.mem_cons_self))).1
        have zD := (N₄ (D, LCg.lst yss.flatten) (List.mem_cons_of_mem _ (List.mem_cons_of_mem _ (List.mem_cons_of_mem _ List.mem_cons_self)))).1
        have N₄' : News h₀ L h₄ news := fun p hp => N₄ p (List.mem_cons_of_mem _ (List.mem_cons_of_mem _ (List.mem_cons_of_mem _ (List.mem_cons_of_mem _ hp))))
        have nbC : @Ne Nat b C := Ne.symm (hbl (C, oC) (List.mem_cons_of_mem _ List.mem_cons_self))
        have nbD : @Ne Nat b D := Ne.symm (hbl (D, LCg.lst yss.flatten) (List.mem_cons_of_mem _ (List.mem_cons_of_mem _ List.mem_cons_self)))
        refine inner2 hh (s := { s₁ with heap := h₄, toks := tk₄ }) zb zD (hoC.ns zC) nbD nbC nCD hy hkind hyd (by rw [sizeLine_eq]; omega) fun h₅ tk₅ m₅ hk₅ hn₅ hd₅ => ?_
        refine ⟨rfl, its.length + 1 - (i + 1), by omega, h₅, tk₅, i + 1, yss ++ [items], m₅, rfl, hlt', rfl, ⟨⟨oI, hk₅ _ _ nIC nID zI, hrI⟩, ⟨_, hk₅ _ _ (below _ _ hax).2.1 (below _ _ hax).2.2 (N₄' _ hm).1, rfl, k, rfl⟩⟩, ?_, hn₅, ?_, ?_, ?_⟩
        · refine ⟨F₄.ns.at' fun o e => hk₅ _ o nLC nLD e, fun b' o e => hk₅ b' o (fun q => ?_) (fun q => ?_) (F₄.keep b' o e), F₄.above⟩
          · rw [q, hC₀] at e; cases e
          · rw [q, hD₀] at e; cases e
        · intro p hp
          rcases List.mem_cons.mp hp with rfl | hp
          · exact ⟨by rw [hd₅]; simp, Ne.symm nLD, hD₀⟩
          · exact ⟨hk₅ _ _ (off3 p hp).2.1 (off3 p hp).2.2 (N₄' p hp).1, (N₄' p hp).2⟩
        · rw [List.take_add_one, hv]
          exact hP.snoc hR
        · rw [List.flatten_append, List.length_append]
          simp only [List.flatten_cons, List.flatten_nil, List.append_nil]
          omega
      · obtain rfl : i = its.length := Nat.le_antisymm hi (Nat.not_lt.mp hlt')
        refine W.done _ _ _ hst fun h₂ tk₂ hk₂ => ?_
        rw [List.take_length] at hP
        refine ⟨m', hn'.at' fun o e => hk₂ _ o (by simpa using Ne.symm nIC) e, fun h'' hs'' => fin D h'' tk₂ yss hP ((LCg.fr_but F' hk₂ nLI hI₀).change hs'' (Ne.symm nLC) hC₀) (fun p hp => ?_) off.one⟩
        have N₂ : News h₀ L h₂ ((D, LCg.lst yss.flatten) :: news) := LCg.news_but N' hk₂ fun p hp => by
          rcases List.mem_cons.mp hp with rfl | hp
          · exact Ne.symm nID
          · exact (off3 p hp).1
        refine ⟨hs''.extBut _ _ ?_ (N₂ p hp).1, (N₂ p hp).2⟩
        rcases List.mem_cons.mp hp with rfl | hp
        · exact Ne.symm nCD
        · exact (off3 p hp).2.1
    · rcases List.mem_cons.mp hp with rfl | hp
      · exact ⟨hacc, Ne.symm nLD, hD₀⟩
      · exact ⟨keep1 _ _ (N p hp).1, (N p hp).2⟩
  exact codeAny_compStart_list (loop _ rfl) (W.self 0 _ _ _ st0 (loop _ rfl))
end

/-- what a def hands back that makes new lists: they lie behind all that the ledger bears -/
def SaysN (w : World) (mean : ExcName → Option Value) (mg mb : Str → Option Value) (k : Nat) (f : Addr) (vs : List Value) (post : Value → List (Addr × Obj) → Prop) : Prop :=
  ∀ (dp un : Nat) (gd : Option (List Code)) (cn : Str) (cs : Scope) (a : Addr) (ccd : Value) (cl : List (Str × Addr)) (outer : List Env) (A₀ : Around) (base h₀ : Heap) (L : Addr) (m : Str → Option Value) (news : List (Addr × Obj)) (s : Shared) (Q E : Value → Shared → Prop),
    Below A₀ base outer h₀ → Fr h₀ L s.heap m → (hd.heap_39 w.params).In h₀ → News h₀ L s.heap news → Top hd.view_39 (looseW hd.view_39 []) mean mg mb h₀ → cs.kind = .function →
    dp + k < recursionLimit → un + 8 * k < cLine →
    (∀ v own h' tk', Fr h₀ L h' m → News h₀ L h' (own ++ news) → (∀ p ∈ own, ∀ q ∈ news, q.1 < p.1) → post v own → Q v { s with heap := h', toks := tk' }) →
      wpAny (model PySem.Challenge.rw_il0032_01.row.prog w) (ktrTop dp un gd cn cs L a ccd cl outer) (call (.ref f) vs) Q E s
theorem SaysN.use {w : World} {mean : ExcName → Option Value} {mg mb : Str → Option Value} {k : Nat} {f : Addr} {vs : List Value} {post : Value → List (Addr × Obj) → Prop} {dp un : Nat} {gd : Option (List Code)} {cn : Str} {cs : Scope} {a : Addr} {ccd : Value} {cl : List (Str × Addr)} {outer : List Env} {A₀ : Around} {base h₀ : Heap} {L : Addr} {m : Str → Option Value} {news : List (Addr × Obj)} {s : Shared} {Q E : Value → Shared → Prop}
    (C : SaysN w mean mg mb k f vs post) (B : Below A₀ base outer h₀) (F : Fr h₀ L s.heap m) (X : (hd.heap_39 w.params).In h₀) (N : News h₀ L s.heap news) (T : Top hd.view_39 (looseW hd.view_39 []) mean mg mb h₀) (hk : cs.kind = .function)
    (hdp : dp + k < recursionLimit) (hun : un + 8 * k < cLine)
    (ret : ∀ v own h' tk', Fr h₀ L h' m → News h₀ L h' (own ++ news) → (∀ p ∈ own, ∀ q ∈ news, q.1 < p.1) → post v own → Q v { s with heap := h', toks := tk' }) :
    wpAny (model PySem.Challenge.rw_il0032_01.row.prog w) (ktrTop dp un gd cn cs L a ccd cl outer) (call (.ref f) vs) Q E s :=
  C _ _ _ _ _ _ _ _ _ _ _ _ _ _ _ _ _ _ B F X N T hk hdp hun ret
theorem lt_all {d : Addr} : ∀ {l : List (Addr × Obj)}, AllLt d l → ∀ p ∈ l, p.1 < d
  | [], _, _, h => nomatch h
  | _ :: _, x, p, h => by
    rcases List.mem_cons.mp h with rfl | h
    · exact x.1
    · exact lt_all x.2 p h
theorem lt_tail {d e : Addr} {l : List (Addr × Obj)} (x : @LT.lt Nat _ d e) (h : ∀ p ∈ l, p.1 < d) : ∀ p ∈ l, p.1 < e := fun p hp => Nat.lt_trans (h p hp) x
theorem says_judges (w mean mg mb) : SaysN w mean mg mb 1 154 [] (fun r own => ∃ P n, r = .ref P ∧ own = [(P, listOf (jAddr.map Value.ref).toArray n)]) := by
  unfold SaysN
  intro dp un gd cn9 cs9 a9 ccd cl9 outer A₀ base h₀ L m9 news s9 Q E B F X N T hk hdp hu hret
  refine wpAny_call ?_
  k_dflt cell_enter
  k_steps
  rename ∀ p ∈ news, _ => l1
  rename News h₀ L _ _ => N1
  exact hret _ [_] _ _ (by k_asm) N1 (fun p hp q hq => by rw [List.mem_singleton.mp hp]; exact l1 q hq) ⟨_, _, rfl, rfl⟩
/-- the places of the fifteen kinds -/
def placesT : List (List Int) := [[48, 58, 65, 91, 97, 123], [65, 91, 97, 123], [0, 128], [9, 10, 32, 33], [0, 32, 127, 128], [0, 32], [48, 58], [33, 127], [97, 123], [128], [32, 127], [33, 48, 58, 65, 91, 97, 123, 127], [9, 14, 32, 33], [65, 91], [48, 58, 65, 71, 97, 103]]
def PlacesPost (r : Value) (own : List (Addr × Obj)) : Prop :=
  ∃ (P n : Nat) (vs' : List Value), r = Value.ref P ∧ (P, listOf vs'.toArray n) ∈ own ∧ ∀ j : Nat, j < 15 → ∃ (b : Nat) (items : List Value) (n' : Nat), vs'[j]? = some (Value.ref b) ∧ (b, listOf items.toArray n') ∈ own ∧ IntsAre items (placesT.getD j [])
theorem says_places (w mean mg mb) : SaysN w mean mg mb 1 161 [] PlacesPost := by
  unfold SaysN
  intro dp un gd cn9 cs9 a9 ccd cl9 outer A₀ base h₀ L m9 news s9 Q E B F X N T hk hdp hu hret
  refine wpAny_call ?_
  k_dflt cell_enter
  k_steps
  rename News h₀ L _ _ => N1
  refine hret _ [_, _, _, _, _, _, _, _, _, _, _, _, _, _, _, _] _ _ (by k_asm) N1 ?_ ?_
  · intro p hp q hq
    rename ∀ p ∈ news, _ => l0
    have hb : @LT.lt Nat _ q.1 _ := l0 q hq
    simp only [List.mem_cons, List.not_mem_nil, or_false] at hp
    rcases hp with rfl | rfl | rfl | rfl | rfl | rfl | rfl | rfl | rfl | rfl | rfl | rfl | rfl | rfl | rfl | rfl
    all_goals (show @LT.lt Nat _ _ _; dsimp only; omega)
  · refine ⟨_, _, [_, _, _, _, _, _, _, _, _, _, _, _, _, _, _], rfl, List.Mem.head _, ?_⟩
    intro j hj
    have hj16 : j = 0 ∨ j = 1 ∨ j = 2 ∨ j = 3 ∨ j = 4 ∨ j = 5 ∨ j = 6 ∨ j = 7 ∨ j = 8 ∨ j = 9 ∨ j = 10 ∨ j = 11 ∨ j = 12 ∨ j = 13 ∨ j = 14 := by omega
    clear hj
    rcases hj16 with rfl | rfl | rfl | rfl | rfl | rfl | rfl | rfl | rfl | rfl | rfl | rfl | rfl | rfl | rfl
    all_goals (refine' ⟨_, _, _, rfl, ?me, ?it⟩; (case me => k_mem); (case it => repeat' (first | exact IntsAre.nil | refine IntsAre.cons _ _ ?_)))
local macro_rules | `(tactic| walk_at "call ref") => `(tactic| (k_here; k_dflt (refine' SaysN.use (says_judges _ _ _ _) ?k1 ?k2 ?k3 ?k4 ?k5 ?kK ?kd ?ku ?_); (case k1 => k_asm); (case k2 => k_asm); (case k3 => k_asm); (case k4 => k_asm); (case k5 => k_asm); (case kK => first | exact rfl | assumption); (case kd => ktr_room); (case ku => ktr_units); k_whole; intro v9 own9 h9 tk9 F9 N9 l9 P9; (obtain ⟨P9a, n9a, e9a, e9b⟩ := P9); (subst e9a); (subst e9b); (simp only [List.cons_append, List.nil_append] at N9); (try dsimp only); (try k_fold)))
local macro_rules | `(tactic| walk_at "call ref") => `(tactic| (k_here; k_dflt (refine' SaysN.use (says_places _ _ _ _) ?k1 ?k2 ?k3 ?k4 ?k5 ?kK ?kd ?ku ?_); (case k1 => k_asm); (case k2 => k_asm); (case k3 => k_asm); (case k4 => k_asm); (case k5 => k_asm); (case kK => first | exact rfl | assumption); (case kd => ktr_room); (case ku => ktr_units); k_whole; intro v9 own9 h9 tk9 F9 N9 l9 P9; k_dflt (obtain ⟨P9a, n9a, vs9a, e9a, m9a, w9a⟩ := P9); (subst e9a); (try dsimp only); (try k_fold)))
section
variable {prog : Program} {w : World} {A : Around} {h₀ : Heap} {L : Addr} {m : Str → Option Value} {env : Env} {elt : PySem.Expr} {x : Str} {scope : Scope} {cl : List (Str × Addr)} {s : Shared} {S : List (Addr × Obj) → Prop} {Fin : List Value → List (Addr × Obj) → Prop} {news : List (Addr × Obj)}
def ElEnd (news : List (Addr × Obj)) (R : Value → Prop) (y : Value) (news' : List (Addr × Obj)) : Prop := news' = news ∧ R y
theorem comp_list {vs : List Value} (R : Value → Value → Prop)
    (turn : ∀ v I oI C oC D m₂ ys h tk (E' : Value → Shared → Prop), v ∈ vs → LCg.NsObj oC m₂ → m₂ x = some v → Fr h₀ L h m → News h₀ L h ((I, oI) :: (C, oC) :: (D, LCg.lst ys) :: news) → LCg.Off3 I C D news → ((@Ne Nat I C) ∧ (@Ne Nat I D) ∧ (@Ne Nat C D)) →
      wpAny (model prog w) A (eval elt (compEnvC scope cl C env)) (LCg.CompEnd h₀ L m { s with heap := h, toks := tk } I oI C oC D (LCg.lst ys) S (ElEnd news (R v))) E' { s with heap := h, toks := tk })
    (fin : ∀ ys, Paired R vs ys → Fin ys news) : LCg.CompRest prog w A h₀ L m env elt x scope cl s S (fun i v => vs.toArray[i]? = some v) Fin vs.toArray.size 0 [] news := by
  have key : ∀ (j i : Nat) (ys : List Value), i + j = vs.length → Paired R (vs.take i) ys → LCg.CompRest prog w A h₀ L m env elt x scope cl s S (fun i v => vs.toArray[i]? = some v) Fin j i ys news := by
    intro j
    induction j with
    | zero =>
      intro i ys hi hy
      have e : i = vs.length := by omega
      subst e
      rw [List.take_length] at hy
      exact LCg.CompRest.zero (fin ys hy)
    | succ j ih =>
      intro i ys hi hy
      refine LCg.CompRest.succ ?_
      intro v I oI C oC D m₂ h tk E' hv hC hx F N off ne
      have hv' : vs[i]? = some v := by simpa using hv
      refine wpAny_mono (turn v I oI C oC D m₂ ys h tk E' (List.mem_of_getElem? hv') hC hx F N off ne) (fun y s₂ hq => ?_) fun _ _ e => e
      obtain ⟨h', tk', nw, e, F', N', off', hS, hn, hy'⟩ := hq
      rw [hn] at N' off' hS
      refine ⟨h', tk', news, e, F', N', off', hS, ?_⟩
      refine ih (i + 1) _ (by omega) ?_
      rw [List.take_add_one, hv']
      exact hy.snoc hy'
  rw [List.size_toArray]
  exact key vs.length 0 [] (by omega) (by rw [List.take_zero]; exact .nil)
end
local macro_rules | `(tactic| walk_at "CompEnd") => `(tactic| (k_here; (with_reducible show LCg.CompEnd _ _ _ _ _ _ _ _ _ _ _ (ElEnd _ _) _ _); refine Hold.out ?_))
local macro_rules | `(tactic| walk_at "subscriptTail Call") => `(tactic| (k_here; (with_reducible show wpAny _ _ (subscriptTail (Expr.Call _ _ _ _) _ (Value.ref _) (Value.int _ _)) _ _ _); refine Hold.out ?_))
theorem ints_mem {vs : List Value} {ns : List Int} (hi : IntsAre vs ns) {v : Value} (hv : v ∈ vs) : ∃ n t, v = .int n t ∧ n ∈ ns := by
  obtain ⟨i, hx⟩ := List.getElem?_of_mem hv
  obtain ⟨n, t, e, hn⟩ := hi.at i v hx
  exact ⟨n, t, e, List.mem_of_getElem? hn⟩
theorem pick_ints {vs : List Value} {ns : List Int} (hi : IntsAre vs ns) : ∀ idx : List Nat, IntsAre (idx.filterMap (vs.toArray[·]?)) (idx.filterMap (ns[·]?))
  | [] => .nil
  | i :: r => by
    have ih := pick_ints hi r
    cases hx : ns[i]? with
    | none =>
      have hn : vs[i]? = none := List.getElem?_eq_none_iff.mpr (by rw [hi.length]; exact List.getElem?_eq_none_iff.mp hx)
      rw [List.filterMap_cons_none (by simpa using hn), List.filterMap_cons_none hx]
      exact ih
    | some n =>
      obtain ⟨t, ht⟩ := hi.get i n hx
      rw [List.filterMap_cons_some (b := Value.int n t) (by simpa using ht), List.filterMap_cons_some hx]
      exact .cons n t ih
/-- a slice of a list of ints: ints of it, not more -/
theorem slice_facts {ys : List Value} {cs : List Int} (hI : IntsAre ys cs) (lo hi st : Option Int) : ∃ ns, IntsAre (slicePick ys.toArray lo hi st).toList ns ∧ ns.length ≤ cs.length ∧ ∀ n ∈ ns, n ∈ cs := by
  have h := pick_ints hI (sliceRange (sliceBounds lo hi st ys.toArray.size).1 (sliceBounds lo hi st ys.toArray.size).2.1 (sliceBounds lo hi st ys.toArray.size).2.2)
  refine ⟨_, by unfold slicePick; exact h, ?_, ?_⟩
  · rw [← h.length, ← hI.length]
    have := slicePick_size_le ys.toArray lo hi st
    unfold slicePick at this
    simpa using this
  · intro n hn
    obtain ⟨i, _, hx⟩ := List.mem_filterMap.mp hn
    exact List.mem_of_getElem? hx
theorem slice_len4 (items : Array Value) (lo : Int) (h0 : 0 ≤ lo) : (slicePick items (some lo) (some 8) (some 2)).toList.length ≤ 4 := by
  unfold slicePick
  refine Nat.le_trans (List.length_filterMap_le _ _) ?_
  unfold sliceRange sliceBounds
  simp only [Option.getD_some, List.length_map, List.length_range, show (2 : Int) > 0 by decide, if_true, show ¬ (8 : Int) < 0 by decide, show ¬ lo < 0 by omega, if_false]
  split <;> omega
/-- what a block makes of ints by a remainder -/
theorem paired_ints {g : Int → Int} {zs : List Value} {ns : List Int} (hi : IntsAre zs ns) {R : Value → Value → Prop} (hR : ∀ n t y, R (.int n t) y → ∃ t', y = .int (g n) t') : ∀ {ys : List Value}, Paired R zs ys → IntsAre ys (ns.map g) := by
  induction hi with
  | nil => intro ys p; cases p; exact .nil
  | cons n t _ ih =>
    intro ys p
    cases p with
    | cons h1 h2 =>
      obtain ⟨t', rfl⟩ := hR n t _ h1
      exact .cons _ t' (ih h2)
theorem jud_item {k : Int} (hk : 0 ≤ k ∧ k < 15) : (jAddr.map Value.ref)[k.toNat]? = some (Value.ref (jAddr.getD k.toNat 28)) := by
  have h : k.toNat < jAddr.length := by show k.toNat < 15; omega
  rw [List.getElem?_map, List.getD_eq_getElem?_getD, List.getElem?_eq_getElem h]
  rfl
theorem paired_juds {zs : List Value} {ns : List Int} (hi : IntsAre zs ns) (hb : ∀ q ∈ ns, 0 ≤ q ∧ q < 15) {R : Value → Value → Prop} (hR : ∀ n t y, R (.int n t) y → y = Value.ref (jAddr.getD n.toNat 28)) : ∀ {ys : List Value}, Paired R zs ys → JudsAre ys (ns.map Int.toNat) := by
  intro ys p
  refine ⟨?_, fun j hj => by obtain ⟨n, hn, rfl⟩ := List.mem_map.mp hj; have := hb n hn; omega⟩
  clear hb
  induction hi generalizing ys with
  | nil => cases p; rfl
  | cons n t _ ih =>
    cases p with
    | cons h1 h2 =>
      rw [hR n t _ h1, ih h2]
      rfl
local macro_rules | `(tactic| walk_at "eval ListComp") => `(tactic| (k_here; (with_reducible show wpAny _ _ (eval (Expr.ListComp _ [_, _] _ _) _) _ _ _); refine Hold.out ?_))
local macro_rules | `(tactic| walk_at "call builtin:sorted") => `(tactic| (k_here; (with_reducible show wpAny _ _ (call (Value.builtin _) [Value.ref _]) _ _ _); refine Hold.out ?_))
theorem places_len (j : Nat) : (placesT.getD j []).length ≤ 8 := by
  by_cases h : j < 15
  · have hj16 : j = 0 ∨ j = 1 ∨ j = 2 ∨ j = 3 ∨ j = 4 ∨ j = 5 ∨ j = 6 ∨ j = 7 ∨ j = 8 ∨ j = 9 ∨ j = 10 ∨ j = 11 ∨ j = 12 ∨ j = 13 ∨ j = 14 := by omega
    rcases hj16 with rfl | rfl | rfl | rfl | rfl | rfl | rfl | rfl | rfl | rfl | rfl | rfl | rfl | rfl | rfl <;> decide
  · rw [List.getD_eq_getElem?_getD, List.getElem?_eq_none (by show 15 ≤ j; omega)]
    exact Nat.zero_le _
theorem ints_append {a b : List Value} {x y : List Int} (h1 : IntsAre a x) (h2 : IntsAre b y) : IntsAre (a ++ b) (x ++ y) := IntsAre.append h1 h2
theorem paired_flat {its : List Value} {ks : List Int} (hi : IntsAre its ks) {R : Value → List Value → Prop} (hR : ∀ k t items, R (.int k t) items → IntsAre items (placesT.getD k.toNat [])) : ∀ {yss : List (List Value)}, Paired R its yss → IntsAre yss.flatten (ks.flatMap fun k => placesT.getD k.toNat []) := by
  induction hi with
  | nil => intro yss p; cases p; exact .nil
  | cons n t _ ih =>
    intro yss p
    cases p with
    | cons h1 h2 =>
      rw [List.flatten_cons, List.flatMap_cons]
      exact ints_append (hR n t _ h1) (ih h2)
theorem turns_len : ∀ ks : List Int, (ks.flatMap fun k => placesT.getD k.toNat []).length ≤ 8 * ks.length
  | [] => Nat.zero_le _
  | k :: r => by
    have h := turns_len r
    have h' := places_len k.toNat
    rw [List.flatMap_cons, List.length_append, List.length_cons]
    omega

-- THE PLAIN LAW: how many of the stretch an odd number of the kinds takes
def par (n : Int) : List Int → Bool
  | [] => false
  | p :: r => decide (p ≤ n) != par n r
theorem bne_assoc3 (a b c : Bool) : ((a != b) != c) = (a != (b != c)) := by cases a <;> cases b <;> cases c <;> rfl
theorem bne_left_comm (a b c : Bool) : (a != (b != c)) = (b != (a != c)) := by cases a <;> cases b <;> cases c <;> rfl
theorem par_append (n : Int) (a b : List Int) : par n (a ++ b) = (par n a != par n b) := by
  induction a with
  | nil => simp [par]
  | cons p r ih => rw [List.cons_append, par, ih, par, bne_assoc3]
theorem par_perm (n : Int) {a b : List Int} (h : a.Perm b) : par n a = par n b := by
  induction h with
  | nil => rfl
  | cons x _ ih => rw [par, par, ih]
  | swap x y l => rw [par, par, par, par, bne_left_comm]
  | trans _ _ ih1 ih2 => rw [ih1, ih2]
theorem par_low {n : Int} : ∀ {ts : List Int}, (∀ p ∈ ts, n < p) → par n ts = false
  | [], _ => rfl
  | p :: r, h => by
    have h1 := h p List.mem_cons_self
    rw [par, par_low fun q hq => h q (List.mem_cons_of_mem _ hq), decide_eq_false (by omega)]
    rfl
theorem par_high {n : Int} : ∀ {ts : List Int}, (∀ p ∈ ts, p ≤ n) → par n ts = decide (ts.length % 2 = 1)
  | [], _ => rfl
  | p :: r, h => by
    have h1 := h p List.mem_cons_self
    rw [par, par_high fun q hq => h q (List.mem_cons_of_mem _ hq), decide_eq_true h1, List.length_cons]
    by_cases hl : r.length % 2 = 1
    · rw [decide_eq_true hl, decide_eq_false (by omega)]; rfl
    · rw [decide_eq_false hl, decide_eq_true (by omega)]; rfl
theorem jud_mid : ((List.range 15).all fun j => (List.range 128).all fun k => judF j (k : Int) == par (k : Int) (placesT.getD j [])) = true := by decide +kernel
theorem placesT_in : ((List.range 15).all fun j => (placesT.getD j []).all fun p => decide (0 ≤ p) && decide (p ≤ 128)) = true := by decide +kernel
theorem places_in {j : Nat} (hj : j < 15) {p : Int} (hp : p ∈ placesT.getD j []) : 0 ≤ p ∧ p ≤ 128 := by
  have h := List.all_eq_true.mp (List.all_eq_true.mp placesT_in j (List.mem_range.mpr hj)) p hp
  simpa using h
theorem jud_out : ((List.range 15).all fun j => (decide ((placesT.getD j []).length % 2 = 1)) == (j == 9)) = true := by decide +kernel
theorem jud_low {j : Nat} (hj : j < 15) {n : Int} (h : n < 0) : judF j n = false := by
  have hj16 : j = 0 ∨ j = 1 ∨ j = 2 ∨ j = 3 ∨ j = 4 ∨ j = 5 ∨ j = 6 ∨ j = 7 ∨ j = 8 ∨ j = 9 ∨ j = 10 ∨ j = 11 ∨ j = 12 ∨ j = 13 ∨ j = 14 := by omega
  clear hj
  rcases hj16 with rfl | rfl | rfl | rfl | rfl | rfl | rfl | rfl | rfl | rfl | rfl | rfl | rfl | rfl | rfl
  all_goals simp only [judF, jFun, List.getD_cons_zero, List.getD_cons_succ, j_isalnum, j_isalpha, j_isascii, j_isblank, j_iscntrl, j_isctrl, j_isdigit, j_isgraph, j_islower, j_ismeta, j_isprint, j_ispunct, j_isspace, j_isupper, j_isxdigit, Bool.or_eq_false_iff, Bool.and_eq_false_iff, decide_eq_false_iff_not, List.any_cons, List.any_nil, beq_eq_false_iff_ne, ne_eq, and_true]
  all_goals omega
theorem jud_high {j : Nat} (hj : j < 15) {n : Int} (h : 128 ≤ n) : judF j n = (j == 9) := by
  have hj16 : j = 0 ∨ j = 1 ∨ j = 2 ∨ j = 3 ∨ j = 4 ∨ j = 5 ∨ j = 6 ∨ j = 7 ∨ j = 8 ∨ j = 9 ∨ j = 10 ∨ j = 11 ∨ j = 12 ∨ j = 13 ∨ j = 14 := by omega
  clear hj
  rcases hj16 with rfl | rfl | rfl | rfl | rfl | rfl | rfl | rfl | rfl | rfl | rfl | rfl | rfl | rfl | rfl
  case inr.inr.inr.inr.inr.inr.inr.inr.inr.inl => exact decide_eq_true (by omega)
  all_goals (refine Eq.trans ?_ (show false = _ from rfl))
  all_goals simp only [judF, jFun, List.getD_cons_zero, List.getD_cons_succ, j_isalnum, j_isalpha, j_isascii, j_isblank, j_iscntrl, j_isctrl, j_isdigit, j_isgraph, j_islower, j_ismeta, j_isprint, j_ispunct, j_isspace, j_isupper, j_isxdigit, Bool.or_eq_false_iff, Bool.and_eq_false_iff, decide_eq_false_iff_not, List.any_cons, List.any_nil, beq_eq_false_iff_ne, ne_eq, and_true]
  all_goals omega
theorem jud_par {j : Nat} (hj : j < 15) (n : Int) : judF j n = par n (placesT.getD j []) := by
  by_cases h0 : n < 0
  · rw [jud_low hj h0, par_low fun p hp => by have := places_in hj hp; omega]
  · by_cases h1 : 128 ≤ n
    · rw [jud_high hj h1, par_high fun p hp => by have := places_in hj hp; omega]
      have h := List.all_eq_true.mp jud_out j (List.mem_range.mpr hj)
      exact (beq_iff_eq.mp h).symm
    · have h := List.all_eq_true.mp (List.all_eq_true.mp jud_mid j (List.mem_range.mpr hj)) n.toNat (List.mem_range.mpr (by omega))
      rw [Int.toNat_of_nonneg (by omega)] at h
      exact beq_iff_eq.mp h
theorem odd_par (js : List Nat) (hjs : ∀ j ∈ js, j < 15) (n : Int) : oddF js n = par n ((0 :: js).flatMap fun j => placesT.getD j []) := by
  have key : ∀ (js : List Nat) (o : Bool), (∀ j ∈ js, j < 15) → js.foldl (fun o j => o != judF j n) o = (o != par n (js.flatMap fun j => placesT.getD j [])) := by
    intro js
    induction js with
    | nil => intro o _; simp [par]
    | cons j r ih =>
      intro o h
      rw [List.foldl_cons, ih _ fun q hq => h q (List.mem_cons_of_mem _ hq), jud_par (h j List.mem_cons_self), List.flatMap_cons, par_append, bne_assoc3]
  have h0 : j_isalnum n = par n (placesT.getD 0 []) := jud_par (j := 0) (by decide) n
  rw [oddF, key js _ hjs, List.flatMap_cons, par_append, h0]
/-- the row's sum, by recursion -/
def bel (lim : Int) : List Int → Int
  | [] => 0
  | p :: r => (if lim - p > 0 then lim - p else 0) - bel lim r
theorem below_bel (lim : Int) : ∀ (ns : List Int) (t w : Int), (ns.foldl (belowStep lim) (t, w)).1 = t + w * bel lim ns
  | [], t, w => by simp [bel]
  | p :: r, t, w => by
    rw [List.foldl_cons, belowStep, below_bel lim r, bel, Int.mul_sub]
    dsimp only
    rw [Int.neg_mul]
    omega
theorem belowF_bel (lim : Int) (ns : List Int) : belowF lim ns = bel lim ns := by
  rw [belowF, below_bel]; omega
theorem bel_step {lim : Int} : ∀ {ts : List Int}, ts.Pairwise (· ≤ ·) → bel (lim + 1) ts - bel lim ts = if par lim ts = true then 1 else 0
  | [], _ => by simp [bel, par]
  | p :: r, h => by
    obtain ⟨h1, h2⟩ := List.pairwise_cons.mp h
    have ih := bel_step (lim := lim) h2
    rw [bel, bel, par]
    by_cases hp : p ≤ lim
    · rw [decide_eq_true hp]
      cases hr : par lim r <;> rw [hr] at ih <;> simp only [Bool.false_eq_true, if_true, if_false, bne_self_eq_false, show (true != false) = true from rfl] at ih ⊢ <;> (repeat' split) <;> omega
    · have hr : par lim r = false := par_low fun q hq => by have := h1 q hq; omega
      rw [hr] at ih
      rw [decide_eq_false hp, hr]
      simp only [Bool.false_eq_true, if_false, bne_self_eq_false] at ih ⊢
      (repeat' split) <;> omega
theorem bel_zero : ∀ {ts : List Int}, (∀ p ∈ ts, 0 ≤ p) → bel 0 ts = 0
  | [], _ => rfl
  | p :: r, h => by
    have h1 := h p List.mem_cons_self
    rw [bel, bel_zero fun q hq => h q (List.mem_cons_of_mem _ hq), if_neg (by omega)]
    rfl
/-- what the calls' row makes of a number, said by the width and the high sign -/
def Rl (p : Int × Bool) (n x : Int) : Prop :=
  (p.1 = 0 ∧ p.2 = false ∧ x = n) ∨ (p.1 = 0 ∧ p.2 = true ∧ (0 ≤ n → 128 ≤ x) ∧ (n < 0 → x < 0) ∧ x % 128 = n % 128) ∨
  (p.1 = 32 ∧ p.2 = false ∧ x = n % 32) ∨ (p.1 = 128 ∧ p.2 = false ∧ x = n % 128) ∨ (p.1 = 32 ∧ p.2 = true ∧ 128 ≤ x ∧ x % 128 = n % 32) ∨ (p.1 = 128 ∧ p.2 = true ∧ 128 ≤ x ∧ x % 128 = n % 128)
theorem rl_step {a : Int} {b : Bool} {n x c : Int} (h : Rl (a, b) n x) : Rl (upStep (a, b) c) n (callF x c) := by
  have hc : c = 1 ∨ c = 2 ∨ c = 3 ∨ (c ≠ 1 ∧ c ≠ 2 ∧ c ≠ 3) := by omega
  unfold Rl at h ⊢
  dsimp only at h
  rcases hc with rfl | rfl | rfl | ⟨c1, c2, c3⟩
  · simp only [upStep, callF, t_ascii_ascii, if_true, show ¬ (1 : Int) = 2 by decide, show ¬ (1 : Int) = 3 by decide, if_false, true_or, true_and]
    rcases h with ⟨rfl, rfl, h⟩ | ⟨rfl, rfl, h⟩ | ⟨rfl, rfl, h⟩ | ⟨rfl, rfl, h⟩ | ⟨rfl, rfl, h⟩ | ⟨rfl, rfl, h⟩ <;> simp <;> omega
  · simp only [upStep, callF, t_ctrl, if_true, show ¬ (2 : Int) = 1 by decide, show ¬ (2 : Int) = 3 by decide, if_false, or_true]
    rcases h with ⟨rfl, rfl, h⟩ | ⟨rfl, rfl, h⟩ | ⟨rfl, rfl, h⟩ | ⟨rfl, rfl, h⟩ | ⟨rfl, rfl, h⟩ | ⟨rfl, rfl, h⟩ <;> simp <;> omega
  · simp only [upStep, callF, t_alt, if_true, show ¬ (3 : Int) = 1 by decide, show ¬ (3 : Int) = 2 by decide, if_false, false_and]
    rcases h with ⟨rfl, rfl, h⟩ | ⟨rfl, rfl, h⟩ | ⟨rfl, rfl, h⟩ | ⟨rfl, rfl, h⟩ | ⟨rfl, rfl, h⟩ | ⟨rfl, rfl, h⟩ <;> simp <;> omega
  · simp only [upStep, callF, if_neg c1, if_neg c2, if_neg c3, c1, c2, false_and, false_or, or_self, if_false]
    exact h
theorem rl_all (n : Int) : ∀ (cs : List Int) (p : Int × Bool) (x : Int), Rl p n x → Rl (cs.foldl upStep p) n (cs.foldl callF x)
  | [], _, _, h => h
  | c :: r, (_, _), _, h => rl_all n r _ _ (rl_step h)
theorem rl_apply (cs : List Int) (n : Int) : Rl (upF cs) n (applyF cs n) := rl_all n cs (0, false) n (.inl ⟨rfl, rfl, rfl⟩)
theorem win_step {w : Int} (hw : 0 < w) {ts : List Int} (hts : ts.Pairwise (· ≤ ·)) (h0 : ∀ p ∈ ts, 0 ≤ p) (n : Int) :
    ((n + 1).fdiv w * belowF w ts + belowF ((n + 1).fmod w) ts) - (n.fdiv w * belowF w ts + belowF (n.fmod w) ts) = if par (n % w) ts = true then 1 else 0 := by
  have hw' : 0 ≤ w := Int.le_of_lt hw
  rw [Int.fdiv_eq_ediv_of_nonneg _ hw', Int.fdiv_eq_ediv_of_nonneg _ hw', Int.fmod_eq_emod_of_nonneg _ hw', Int.fmod_eq_emod_of_nonneg _ hw']
  have e : n % w + w * (n / w) = n := Int.emod_add_mul_ediv n w
  have r0 := Int.emod_nonneg n (show w ≠ 0 by omega)
  have r1 := Int.emod_lt_of_pos n hw
  have hs := bel_step (lim := n % w) hts
  simp only [belowF_bel]
  by_cases hr : n % w + 1 < w
  · have u := kbt_unique (a := n + 1) (q := n / w) (r := n % w + 1) hw (by omega) (by omega) hr
    rw [u.1, u.2]
    omega
  · have hrw : n % w + 1 = w := by omega
    have u := kbt_unique (a := n + 1) (q := n / w + 1) (r := 0) hw (by rw [Int.mul_add, Int.mul_one]; omega) (Int.le_refl 0) hw
    rw [u.1, u.2, bel_zero h0, Int.add_mul, Int.one_mul]
    rw [hrw] at hs
    omega
theorem high_par {ts : List Int} {x : Int} (hx : 128 ≤ x) (h : ∀ p ∈ ts, p ≤ 128) : (if par x ts = true then (1 : Int) else 0) = (ts.length : Int).fmod 2 := by
  rw [par_high fun p hp => by have := h p hp; omega, Int.fmod_eq_emod_of_nonneg _ (by decide)]
  by_cases hl : ts.length % 2 = 1
  · rw [decide_eq_true hl, if_pos rfl]; omega
  · rw [decide_eq_false hl, if_neg Bool.false_ne_true]; omega
theorem up_step (cs : List Int) {ts : List Int} (hts : ts.Pairwise (· ≤ ·)) (hin : ∀ p ∈ ts, 0 ≤ p ∧ p ≤ 128) (n : Int) :
    upTo (n + 1) cs ts - upTo n cs ts = if par (applyF cs n) ts = true then 1 else 0 := by
  have h := rl_apply cs n
  unfold upTo
  generalize applyF cs n = x at h ⊢
  generalize upF cs = p at h ⊢
  obtain ⟨a, b⟩ := p
  unfold Rl at h
  dsimp only at h ⊢
  rcases h with ⟨rfl, rfl, rfl⟩ | ⟨rfl, rfl, h1, h2, _⟩ | ⟨rfl, rfl, rfl⟩ | ⟨rfl, rfl, rfl⟩ | ⟨rfl, rfl, h1, _⟩ | ⟨rfl, rfl, h1, _⟩
  · simp only [Bool.false_eq_true, if_false, if_true, belowF_bel]
    exact bel_step hts
  · simp only [if_true, show ¬ (0 : Int) > 0 by decide, if_false]
    by_cases hn : 0 ≤ n
    · rw [high_par (h1 hn) fun p hp => (hin p hp).2, if_pos (show n + 1 > 0 by omega)]
      rw [show (if n > 0 then n else 0) = n from by split <;> omega, ← Int.mul_sub, show n + 1 - n = 1 by omega, Int.mul_one]
    · rw [par_low fun p hp => by have := hin p hp; have := h2 (by omega); omega, if_neg (show ¬ n > 0 by omega), if_neg (show ¬ n + 1 > 0 by omega), if_neg Bool.false_ne_true]
      omega
  · simp only [Bool.false_eq_true, if_false, show ¬ (32 : Int) = 0 by decide]
    exact win_step (by decide) hts (fun p hp => (hin p hp).1) n
  · simp only [Bool.false_eq_true, if_false, show ¬ (128 : Int) = 0 by decide]
    exact win_step (by decide) hts (fun p hp => (hin p hp).1) n
  · simp only [if_true, show (32 : Int) > 0 by decide]
    rw [high_par h1 fun p hp => (hin p hp).2, ← Int.mul_sub, show n + 1 - n = 1 by omega, Int.mul_one]
  · simp only [if_true, show (128 : Int) > 0 by decide]
    rw [high_par h1 fun p hp => (hin p hp).2, ← Int.mul_sub, show n + 1 - n = 1 by omega, Int.mul_one]
theorem cnt_up (a : Int) (cs : List Int) (js : List Nat) (hjs : ∀ j ∈ js, j < 15) {ts : List Int} (hperm : ts.Perm ((0 :: js).flatMap fun j => placesT.getD j [])) (hts : ts.Pairwise (· ≤ ·)) :
    ∀ k : Nat, cntF a cs js k = upTo (a + (k : Int)) cs ts - upTo a cs ts
  | 0 => by rw [cntF, show a + ((0 : Nat) : Int) = a by omega]; omega
  | k + 1 => by
    have hin : ∀ p ∈ ts, 0 ≤ p ∧ p ≤ 128 := fun p hp => by
      obtain ⟨j, hj, hpj⟩ := List.mem_flatMap.mp (hperm.mem_iff.mp hp)
      refine places_in (j := j) ?_ hpj
      rcases List.mem_cons.mp hj with rfl | hj
      · decide
      · exact hjs j hj
    have h := up_step cs hts hin (a + (k : Int))
    rw [cntF, cnt_up a cs js hjs hperm hts k, odd_par js hjs, ← par_perm _ hperm, ← h, show a + ((k + 1 : Nat) : Int) = a + (k : Int) + 1 by omega]
    omega
theorem flat_toNat (g : Nat → List Int) : ∀ ps : List Int, (ps.map Int.toNat).flatMap g = ps.flatMap fun k => g k.toNat
  | [] => rfl
  | p :: r => by rw [List.map_cons, List.flatMap_cons, List.flatMap_cons, flat_toNat g r]
theorem plain_law {first last : Int} (hfl : first ≤ last) (rs : List Int) {ps ts : List Int} (hps : ∀ q ∈ ps, 0 ≤ q ∧ q < 15) (hperm : ts.Perm (([0] ++ ps).flatMap fun k : Int => placesT.getD k.toNat [])) (hts : ts.Pairwise (· ≤ ·)) :
    cntF first rs (ps.map Int.toNat) (last - first).toNat = upTo last rs ts - upTo first rs ts := by
  have hjs : ∀ j ∈ ps.map Int.toNat, j < 15 := fun j hj => by
    obtain ⟨q, hq, rfl⟩ := List.mem_map.mp hj
    have := hps q hq
    omega
  have e : ([0] ++ ps).flatMap (fun k : Int => placesT.getD k.toNat []) = (0 :: ps.map Int.toNat).flatMap fun j => placesT.getD j [] := by
    rw [List.flatMap_cons, flat_toNat fun j => placesT.getD j []]
    rfl
  rw [cnt_up first rs _ hjs (e ▸ hperm) hts, Int.toNat_of_nonneg (by omega), show first + (last - first) = last by omega]
local macro_rules | `(tactic| walk_at "execs cons") => `(tactic| (k_here; (fail_if_success (rename Free => x9)); refine Hold.out ?_))
local macro_rules | `(tactic| walk_at "eval IfExp") => `(tactic| (k_here; (fail_if_success (rename Free => x9)); (with_reducible show wpAny _ _ (eval (Expr.IfExp _ _ _ _) _) _ _ _); refine Hold.out ?_))
theorem cells_facts {ys : List Value} {ns : List Int} (h : IntsAre ys ((ns.take 8).map (fun k => k.fmod (10 ^ Int.toNat 6)))) : ∃ cs, IntsAre ys cs ∧ cs.length ≤ 8 ∧ ∀ x ∈ cs, 0 ≤ x ∧ x < 1000000 := by
  refine ⟨_, h, by rw [List.length_map, List.length_take]; omega, fun x hx => ?_⟩
  obtain ⟨y, _, rfl⟩ := List.mem_map.mp hx
  have e : (10 : Int) ^ Int.toNat 6 = 1000000 := by decide
  rw [e, Int.fmod_eq_emod_of_nonneg _ (by decide)]
  omega
theorem head_in {cs : List Int} (hin : ∀ x ∈ cs, 0 ≤ x ∧ x < 1000000) : 0 ≤ cs.getD 0 0 ∧ cs.getD 0 0 < 1000000 := by
  cases cs with
  | nil => decide
  | cons a r => exact hin a (List.Mem.head _)
theorem fmod_in (a b : Int) (hb : 0 < b) : 0 ≤ a.fmod b ∧ a.fmod b < b := by
  rw [Int.fmod_eq_emod_of_nonneg _ (by omega)]
  exact ⟨Int.emod_nonneg _ (by omega), Int.emod_lt_of_pos _ hb⟩
theorem first_in (head : Int) : -160 ≤ 40 + head.fmod 200 * (1 - (head.fdiv 200).fmod 2 * 2) ∧ 40 + head.fmod 200 * (1 - (head.fdiv 200).fmod 2 * 2) ≤ 240 := by
  have h1 := fmod_in head 200 (by decide)
  have h2 := fmod_in (head.fdiv 200) 2 (by decide)
  have h4 : (head.fdiv 200).fmod 2 = 0 ∨ (head.fdiv 200).fmod 2 = 1 := by omega
  rcases h4 with e | e <;> rw [e] <;> omega
structure FreeB : Prop
local macro_rules | `(tactic| walk_at "eval BinOp") => `(tactic| (k_here; (fail_if_success (rename FreeB => x9)); (first | (with_reducible show wpAny _ _ (eval (Expr.BinOp (Expr.Constant _ _ _) _ (Expr.BinOp _ _ _ _) _) _) _ _ _) | (with_reducible show wpAny _ _ (eval (Expr.BinOp (Expr.BinOp (Expr.Name (Str.ofString "first") _) _ _ _) _ _ _) _) _ _ _)); refine Hold.out ?_))
structure Free2 : Prop
local macro_rules | `(tactic| walk_at "compareOp Eq int int") => `(tactic| (k_here; (fail_if_success (rename Free2 => x9)); refine Hold.out ?_))
theorem fin0 : PySem.Challenge.rw_il0032_01.Holds := by
  refine hd ?_
  k_go0
  (all_goals try k_fold)
  k_steps
  unfold Hold
  refine wpAny_execs_cons ?_
  k_steps
  unfold Hold
  refine wpAny_execs_cons ?_
  (rename IntsAre _ (List.map _ (List.take 8 _)) => hI8); (rename Fr _ _ _ _ => F1); (rename News _ _ _ _ => N0)
  obtain ⟨cs, hI, hlen, hin⟩ := cells_facts hI8
  have N1 := cb_drop N0 (List.forall_mem_cons.mpr ⟨List.Mem.head _, List.forall_mem_nil _⟩)
  clear N0 hI8
  k_steps
  unfold Hold
  refine cut_thing (fun v => ∃ t, v = Value.int (cs.getD 0 0) t) (by k_asm) (by k_asm) ?_ ?_
  · have fr : Free := Free.mk
    (try k_fold)
    k_steps
    · exact CutPost.intro (by k_asm) (by k_asm) ⟨_, rfl⟩
    · refine CutPost.intro (by k_asm) (by k_asm) ⟨_, congrArg (fun z => Value.int z _) ?_⟩
      have h0 : cs = [] := List.eq_nil_of_length_eq_zero (by omega)
      rw [h0]; rfl
  intro v h2 tk2 F2 N2 hv
  obtain ⟨t2, rfl⟩ := hv
  dsimp only
  have hhd := head_in hin
  revert F2 hhd
  generalize cs.getD 0 0 = head
  intro F2 hhd
  clear F1 N1
  k_steps
  unfold Hold
  refine wpAny_execs_cons ?_
  k_steps
  unfold Hold
  refine cut_thing (fun v => ∃ f t, v = Value.int f t ∧ -160 ≤ f ∧ f ≤ 240) (by k_asm) (by k_asm) ?_ ?_
  · have fr : FreeB := FreeB.mk
    have hr1 := fmod_in head 200 (by decide)
    have hr2 := fmod_in (head.fdiv 200) 2 (by decide)
    (try k_fold)
    k_steps
    exact CutPost.intro (by k_asm) (by k_asm) ⟨_, _, rfl, first_in head⟩
  intro v h3 tk3 F3 N3 hv
  obtain ⟨first, t3, rfl, hf1, hf2⟩ := hv
  dsimp only
  k_steps
  unfold Hold
  refine wpAny_execs_cons ?_
  k_steps
  unfold Hold
  refine cut_thing (fun v => ∃ f t, v = Value.int f t ∧ first ≤ f ∧ f ≤ 400) (by k_asm) (by k_asm) ?_ ?_
  · have fr : FreeB := FreeB.mk
    have hr1 := fmod_in (head.fdiv 400) 49 (by decide)
    (try k_fold)
    k_steps
    exact CutPost.intro (by k_asm) (by k_asm) ⟨_, _, rfl, by omega, by omega⟩
  intro v h4 tk4 F4 N4 hv
  obtain ⟨last, t4, rfl, hl1, hl2⟩ := hv
  dsimp only
  have fr : FreeB := FreeB.mk
  k_steps
  unfold Hold
  refine wpAny_execs_cons ?_
  (rename Fr _ _ _ _ => F5); (rename News _ _ _ _ => N5)
  k_dflt (refine LCg.Assign_ListComp_U (F₀ := F5) (by rfl) (by with_unfolding_all rfl) (by rfl) (by decide) (by rfl) (by decide) (by rfl) (by rfl) (by rfl) ?_)
  walk1; walk1; walk1; walk1; walk1; walk1; walk1; walk1; walk1
  k_dflt (refine' kmk_slice3_lit ?slF9 ?slN9 ?sll9 ?slp9 ?slq9 ?slk9 ?slo9 ?sle9 ?_ ?sls9 ?slt9 ?slz9; (case slF9 => exact F5); (case slN9 => exact N5); (case sll9 => exact News.isList N5 (by k_mem)); (case slp9 => exact IsPart.int _ _); (case slq9 => exact IsPart.int _ _); (case slk9 => exact IsPart.int _ _); (case slo9 => decide); (case sle9 => exact rfl); (case sls9 => with_unfolding_all rfl); (case slt9 => intro _; with_unfolding_all rfl); (case slz9 => rw [List.size_toArray, hI.length, sizeLine_eq]; omega))
  intro D6 h6 F6 N6 l6
  obtain ⟨ns6, hI6, hn6, hm6⟩ := slice_facts hI (some 1) (some 8) (some 2)
  have h46 : ns6.length ≤ 4 := hI6.length ▸ slice_len4 ys.toArray 1 (by decide)
  revert N6 hI6
  generalize (slicePick ys.toArray (some 1) (some 8) (some 2)).toList = zs6
  intro N6 hI6
  k_dflt (refine LCg.CompSrc.ledger (by rfl) F6 N6 (List.Mem.head _) (by rw [List.size_toArray, hI6.length, sizeLine_eq]; omega) ?_)
  intro g'
  refine comp_list (fun v y => ∀ k t, v = Value.int k t → ∃ t', y = Value.int (k.fmod 15) t') ?_ ?_
  · intro v I oI C oC D m₂ ys' h tk E' hv hC hx F7 N7 off ne
    obtain ⟨k, t, rfl, hk⟩ := ints_mem hI6 hv
    k_steps
    unfold Hold
    exact LCg.CompEnd.intro F7 N7 _ (fun p hp => hp) off (.inr ⟨_, List.Mem.head _, rfl, _, rfl⟩) ⟨rfl, fun k' t' e => by cases e; exact ⟨_, rfl⟩⟩
  intro ps0 hps
  obtain ⟨ps, hIps, hlps, hbps⟩ : ∃ qs, IntsAre ps0 qs ∧ qs.length ≤ 4 ∧ ∀ q ∈ qs, 0 ≤ q ∧ q < 15 := ⟨_, paired_ints (g := fun k => k.fmod 15) hI6 (fun k t y h => h k t rfl) hps, by (rw [List.length_map]; exact h46), fun q hq => by (obtain ⟨k, _, e⟩ := List.mem_map.mp hq); rw [← e]; exact fmod_in k 15 (by decide)⟩
  unfold LCg.FinA
  intro D9 h9 tk9 F9 N9 o9
  have N9' := cb_drop N9 (List.forall_mem_cons.mpr ⟨List.Mem.head _, List.forall_mem_cons.mpr ⟨List.Mem.tail _ (List.Mem.tail _ (List.Mem.head _)), List.forall_mem_nil _⟩⟩)
  clear N9 F5 N5 F6 N6 hps o9 l6 hI6 hm6 hn6
  dsimp only
  k_steps
  unfold Hold
  refine wpAny_execs_cons ?_
  (rename Fr _ _ _ _ => F5); (rename News _ _ _ _ => N5)
  k_dflt (refine LCg.Assign_ListComp_U (F₀ := F5) (by rfl) (by with_unfolding_all rfl) (by rfl) (by decide) (by rfl) (by decide) (by rfl) (by rfl) (by rfl) ?_)
  walk1; walk1; walk1; walk1; walk1; walk1; walk1; walk1; walk1
  k_dflt (refine' kmk_slice3_lit ?slF8 ?slN8 ?sll8 ?slp8 ?slq8 ?slk8 ?slo8 ?sle8 ?_ ?sls8 ?slt8 ?slz8; (case slF8 => exact F5); (case slN8 => exact N5); (case sll8 => exact News.isList N5 (by k_mem)); (case slp8 => exact IsPart.int _ _); (case slq8 => exact IsPart.int _ _); (case slk8 => exact IsPart.int _ _); (case slo8 => decide); (case sle8 => exact rfl); (case sls8 => with_unfolding_all rfl); (case slt8 => intro _; with_unfolding_all rfl); (case slz8 => rw [List.size_toArray, hI.length, sizeLine_eq]; omega))
  intro D6 h6 F6 N6 l6
  obtain ⟨ns6, hI6, hn6, hm6⟩ := slice_facts hI (some 2) (some 8) (some 2)
  have h46 : ns6.length ≤ 4 := hI6.length ▸ slice_len4 ys.toArray 2 (by decide)
  revert N6 hI6
  generalize (slicePick ys.toArray (some 2) (some 8) (some 2)).toList = zs6
  intro N6 hI6
  k_dflt (refine LCg.CompSrc.ledger (by rfl) F6 N6 (List.Mem.head _) (by rw [List.size_toArray, hI6.length, sizeLine_eq]; omega) ?_)
  intro g'
  refine comp_list (fun v y => ∀ k t, v = Value.int k t → ∃ t', y = Value.int (k.fmod 5) t') ?_ ?_
  · intro v I oI C oC D m₂ ys' h tk E' hv hC hx F7 N7 off ne
    obtain ⟨k, t, rfl, hk⟩ := ints_mem hI6 hv
    k_steps
    unfold Hold
    exact LCg.CompEnd.intro F7 N7 _ (fun p hp => hp) off (.inr ⟨_, List.Mem.head _, rfl, _, rfl⟩) ⟨rfl, fun k' t' e => by cases e; exact ⟨_, rfl⟩⟩
  intro rs0 hps
  obtain ⟨rs, hIrs, hlrs, hbrs⟩ : ∃ qs, IntsAre rs0 qs ∧ qs.length ≤ 4 ∧ ∀ q ∈ qs, 0 ≤ q ∧ q < 5 := ⟨_, paired_ints (g := fun k => k.fmod 5) hI6 (fun k t y h => h k t rfl) hps, by (rw [List.length_map]; exact h46), fun q hq => by (obtain ⟨k, _, e⟩ := List.mem_map.mp hq); rw [← e]; exact fmod_in k 5 (by decide)⟩
  unfold LCg.FinA
  intro D8 h8 tk8 F8 N8 o8
  have N8' := cb_drop N8 (List.forall_mem_cons.mpr ⟨List.Mem.head _, List.forall_mem_cons.mpr ⟨List.Mem.tail _ (List.Mem.tail _ (List.Mem.head _)), List.forall_mem_nil _⟩⟩)
  clear N8 F5 N5 F6 N6 hps o8 l6 hI6 hm6 hn6
  dsimp only
  k_steps
  unfold Hold
  refine wpAny_execs_cons ?_
  (rename Fr _ _ _ _ => F5); (rename News _ _ _ _ => N5)
  k_dflt (refine LCg.Assign_ListComp_U (F₀ := F5) (by rfl) (by with_unfolding_all rfl) (by rfl) (by decide) (by rfl) (by decide) (by rfl) (by rfl) (by rfl) ?_)
  walk1
  k_dflt (refine LCg.CompSrc.ledger (by rfl) F5 N5 (List.Mem.tail _ (List.Mem.head _)) (by rw [List.size_toArray, hIps.length, sizeLine_eq]; omega) ?_)
  intro g'
  refine comp_list (fun v y => ∀ k t, v = Value.int k t → y = Value.ref (jAddr.getD k.toNat 28)) ?_ ?_
  · intro v I oI C oC D m₂ ys' h tk E' hv hC hx F7 N7 off ne
    obtain ⟨k, t, rfl, hk⟩ := ints_mem hIps hv
    have hk15 := hbps k hk
    k_steps
    (rename Fr _ _ _ _ => F8); (rename News _ _ _ _ => N8)
    unfold Hold
    k_dflt (refine item_litK (vs := jAddr.map Value.ref) (News.isList N8 (List.Mem.head _)) hk15.1 (by omega) (jud_item hk15) ?_)
    k_steps
    unfold Hold
    exact LCg.CompEnd.intro F8 N8 _ (fun p hp => List.mem_cons_of_mem _ hp) off (.inr ⟨_, List.Mem.tail _ (List.Mem.head _), rfl, _, rfl⟩) ⟨rfl, fun k' t' e => by cases e; rfl⟩
  intro bs0 hbs
  have hJ := paired_juds hIps hbps (fun k t y h => h k t rfl) hbs
  unfold LCg.FinA
  intro D7 h7 tk7 F7 N7 o7
  clear F5 N5 hbs o7
  dsimp only
  k_steps
  unfold Hold
  refine wpAny_execs_cons ?_
  k_steps
  unfold Hold
  (rename Fr _ _ _ _ => F5); (rename News _ _ _ _ => N5)
  k_dflt (refine ListComp_2 F5 (fun v items => ∀ k t, v = Value.int k t → IntsAre items (placesT.getD k.toNat [])) (by rfl) (by decide) (by rfl) (by decide) (by rfl) (by rfl) (by decide) (by intro _; rfl) (by intro _ _; rfl) ?_)
  k_steps
  (rename IntsAre _ ([0] ++ ps) => hIq); (rename Fr _ _ _ _ => F6); (rename News _ _ _ _ => N6)
  have hq15 : ∀ q ∈ [0] ++ ps, 0 ≤ q ∧ q < 15 := by
    intro q hq
    rcases List.mem_append.mp hq with hq | hq
    · rw [List.mem_singleton.mp hq]; decide
    · exact hbps q hq
  refine ⟨_, _, _, _, rfl, rfl, F6, N6, List.Mem.head _, by (rw [hIq.length, List.length_append, List.length_singleton]; omega), ?_, ?_⟩
  · intro v I oI C oC D m₂ ys' h tk E' hv hC hx F8 N8 off ne
    obtain ⟨k, t, rfl, hk⟩ := ints_mem hIq hv
    have hk15 := hq15 k hk
    clear F6 N6
    k_steps
    (rename Fr _ _ _ _ => FA); (rename News _ _ _ _ => NA); (rename ∀ j : Nat, j < 15 → _ => wp); (rename (_, listOf _ _) ∈ _ => mp); (rename ∀ p ∈ _, ∀ q ∈ _, _ => lp)
    unfold Hold
    obtain ⟨b, items, n', hv', hm', hit⟩ := wp k.toNat (by omega)
    k_dflt (refine item_litK (News.isList NA (List.mem_append_left _ mp)) hk15.1 (by omega) hv' ?_)
    k_steps
    refine ⟨_, _, b, n', items, rfl, FA, ?_, ?_, rfl, ?_, ?_⟩
    · intro p hp
      rcases List.mem_cons.mp hp with rfl | hp
      · exact NA _ (List.mem_append_left _ hm')
      · exact NA _ (List.mem_append_right _ hp)
    · intro p hp q
      have := lp _ hm' p hp
      rw [q] at this
      exact Nat.lt_irrefl _ this
    · rw [hit.length]
      exact Nat.le_trans (places_len _) (by decide)
    · intro k' t' e
      cases e
      exact hit
  intro D6 h6 tk6 yss hP F8 N8 o8
  have hIt := paired_flat hIq (fun k t it h => h k t rfl) hP
  have hTl := turns_len ([0] ++ ps)
  rw [List.length_append, List.length_singleton] at hTl
  clear F6 N6 hP
  dsimp only
  k_steps
  unfold Hold
  (rename Fr _ _ _ _ => F6); (rename News _ _ _ _ => N6)
  k_dflt (refine kso_sorted F6 N6 (News.isList N6 (List.Mem.head _)) hIt (by omega) ?_)
  intro D5 ts0 ts c5 h5 F5 N5' l5 hIts hlts hperm hsort _
  have N5 := cb_drop N5' (List.forall_mem_cons.mpr ⟨List.Mem.head _, fun p hp => List.Mem.tail _ (List.Mem.tail _ (List.Mem.tail _ (List.Mem.tail _ hp)))⟩)
  clear F6 N6 N5'
  dsimp only
  k_steps
  unfold Hold
  refine wpAny_execs_cons ?_
  have hrs4 : ∀ c ∈ rs, 0 ≤ c ∧ c ≤ 4 := fun c hc => by have := hbrs c hc; omega
  have hts : ts.length < 1000 := by omega
  have hfin := plain_law hl1 rs hbps hperm hsort
  k_steps
  unfold Hold
  refine wpAny_execs_cons ?_
  k_steps
  unfold Hold
  rw [hfin]
  have fr2 : Free2 := Free2.mk
  walk1
  rw [beq_self_eq_true]
  k_steps
end Mine
set_option maxRecDepth 100000 in
theorem PySem.Challenge.cw_il0032_01_holds : PySem.Challenge.rw_il0032_01.Holds := by
  exact Mine.fin0
