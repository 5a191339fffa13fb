import PyProof.Rows.All
import Wide.All
import OpenK.AllK
import Wide.FinOn
import Lean
import PySem.Challenge.RW_jb0007_01
open PySem PySem.W PySem.Calls PyProof.Rows
set_option Elab.async false
set_option maxRecDepth 100000
set_option maxHeartbeats 8000000
namespace Mine

/-! ## part Hd -/
open_top hd for PySem.Challenge.rw_jb0007_01

/-! ## part C1 -/
/-- a claim about a call from any def's frame: level n bounds the depth -/
abbrev Clm (prog : Program) (w : World) (K : Frag) (p : Program) (loose : List Str) (mean : ExcName → Option Value) (mg mb : Str → Option Value) (f : Value) (n : Nat) (news : List (Addr × Obj)) (vs : List Value)
    (Ret : Heap → Addr → (Str → Option Value) → Shared → (Value → Shared → Prop) → Prop) : Prop :=
  ∀ (dp un : Nat) (gd : Option (List Code)) (cn : Str) (cs : Scope) (a : Addr) (ccd : Value) (cl : List (Str × Addr)) (outer : List Env) (A₀ : Around) (base h₀ : Heap) (L : Addr) (m : Str → Option Value) (s : Shared) (Q E : Value → Shared → Prop),
    Below A₀ base outer h₀ → Fr h₀ L s.heap m → K.In h₀ → News h₀ L s.heap news → Top p loose mean mg mb h₀ → cs.kind = .function →
    dp + n < recursionLimit → un + 20 * n < cLine → Ret h₀ L m s Q →
      wpAny (model prog w) (ktrTop dp un gd cn cs L a ccd cl outer) (call f vs) Q E s

abbrev RetV (news : List (Addr × Obj)) (R : Tok → Value) (h₀ : Heap) (L : Addr) (m : Str → Option Value) (s : Shared) (Q : Value → Shared → Prop) : Prop :=
  ∀ (t : Tok) (h' : Heap) (tk' : Nat), Fr h₀ L h' m → News h₀ L h' news → Q (R t) { s with heap := h', toks := tk' }

def leapB (y : Int) : Bool := decide (Int.fmod y 4 = 0) && (!decide (Int.fmod y 100 = 0) || decide (Int.fmod y 400 = 0))

theorem leapB_a {y : Int} (h : Int.fmod y 4 = 0) (h' : Int.fmod y 100 ≠ 0) : (Int.fmod y 100 != 0) = leapB y := by simp [leapB, h, h']
theorem leapB_b {y : Int} (h : Int.fmod y 4 = 0) (h' : Int.fmod y 100 = 0) : (Int.fmod y 400 == 0) = leapB y := by simp [leapB, h, h']; exact Bool.eq_iff_iff.mpr (by simp)
theorem leapB_c {y : Int} (h : Int.fmod y 4 ≠ 0) : (Int.fmod y 4 == 0) = leapB y := by simp [leapB, h]

theorem isleap_c {w : World} {p : Program} {loose : List Str} {mean : ExcName → Option Value} {mg mb : Str → Option Value} {news : List (Addr × Obj)} {y : Int} {ty : Tok} :
    Clm PySem.Challenge.rw_jb0007_01.row.prog w (hd.heap_39 w.params) p loose mean mg mb (.ref 21) 1 news [.int y ty] (RetV news fun _ => .bool (leapB y)) := by
  dsimp only [Clm, RetV]
  k_fill
  intros
  rename_i hret
  refine wpAny_call ?_
  k_dflt cell_enter
  k_steps
  all_goals (refine cb_retB hret ?_ (by k_asm) (by k_asm))
  all_goals first | exact leapB_a (by assumption) (by assumption) | exact leapB_b (by assumption) (by assumption) | exact leapB_c (by assumption)


theorem cl_use (prog : Program) {w : World} {K : Frag} {p : Program} {loose : List Str} {mean : ExcName → Option Value} {mg mb : Str → Option Value} {f : Value} {n : Nat} {news : List (Addr × Obj)} {vs : List Value} {Ret : Heap → Addr → (Str → Option Value) → Shared → (Value → Shared → Prop) → Prop}
    {dp un : Nat} {gd : Option (List Code)} {cn : Str} {cs : Scope} {a : Addr} {ccd : Value} {cl : List (Str × Addr)} {outer : List Env} {A₀ : Around} {base h₀ : Heap} {L : Addr} {m : Str → Option Value} {s : Shared} {Q E : Value → Shared → Prop}
    (B : Below A₀ base outer h₀) (F : Fr h₀ L s.heap m) (X : K.In h₀) (N : News h₀ L s.heap news) (T : Top p loose mean mg mb h₀) (C : Clm prog w K p loose mean mg mb f n news vs Ret) (hk : cs.kind = .function)
    (hd : dp + n < recursionLimit) (hu : un + 20 * n < cLine) (ret : Ret h₀ L m s Q) :
    wpAny (model prog w) (ktrTop dp un gd cn cs L a ccd cl outer) (call f vs) Q E s := C _ _ _ _ _ _ _ _ _ _ _ _ _ _ _ _ _ B F X N T hk hd hu ret

theorem room_d {dp N n : Nat} (h : dp + N < recursionLimit) (hn : n + 1 ≤ N) : dp + 1 + n < recursionLimit := Nat.lt_of_le_of_lt (by omega) h
theorem room_u {un N n : Nat} (h : un + 20 * N < cLine) (hn : n + 1 ≤ N) : un + 3 + 20 * n < cLine := Nat.lt_of_le_of_lt (by omega) h
local macro_rules | `(tactic| walk_at "use!") => `(tactic| (
  (case k1 => k_asm); (case k2 => k_asm); (case k3 => k_asm); (case k4 => k_asm); (case k5 => k_asm); (case kK => first | exact rfl | assumption); (case kd => first | exact room_d (by assumption) (by decide) | ktr_room); (case ku => first | exact room_u (by assumption) (by decide) | ktr_units)))
local macro_rules | `(tactic| walk_at "eval Call") => `(tactic| ((with_reducible show wpAny _ _ (eval (Expr.Call (Expr.Name "isleap" _) _ _ _) _) _ _ _); k_dflt (refine Call_ ?_)))
local macro_rules | `(tactic| walk_at "call ref") => `(tactic| (k_here; (with_reducible show wpAny _ _ (call (Value.ref 21) [Value.int _ _]) _ _ _); k_dflt (refine' cl_use _ ?k1 ?k2 ?k3 ?k4 ?k5 isleap_c ?kK ?kd ?ku ?_; walk_at "use!"); intro t9 h9 tk9 F9 N9; (try dsimp only); (try k_fold)))

theorem inTop {prog : Program} {w : World} {A : Around} {E : Value → Shared → Prop} {s : Shared} {h₀ : Heap} {L a : Addr} {m : Str → Option Value} {K : Frag} {n : Nat} {l : List Value} {dd : Option Addr} {sl : Array (Option Value)} {ns : List Int} {x : Int} {u : Tok} {Q : Value → Shared → Prop}
    (F : Fr h₀ L s.heap m) (X₀ : K.In h₀) (hl : K.lookup a = some ⟨.type "tuple", dd, .seq l.toArray n, sl⟩) (hi : IntsAre l ns) (h : Q (.bool (ns.any (· == x))) s) : wpAny (model prog w) A (compareOp .In (.int x u) (.ref a)) Q E s :=
  in_tuple_ints (tupK (X₀.keeps F.keep) hl) (by simpa using hi) h
local macro_rules | `(tactic| walk_at "compareOp In int ref") => `(tactic| (k_here; k_dflt (refine' inTop ?F ?X ?l ?i ?_; (case F => k_asm); (case X => k_asm); (case l => k_is); (case i => l_intsW)); simp only [List.any_cons, List.any_nil, Bool.or_false]))

theorem legal_c {w : World} {p : Program} {loose : List Str} {mean : ExcName → Option Value} {mg mb : Str → Option Value} {news : List (Addr × Obj)} {y mo d : Int} {ty tm td : Tok} (h1 : 1 ≤ mo) (h2 : mo ≤ 12) (h3 : 1 ≤ d) (h4 : d ≤ 28) :
    Clm PySem.Challenge.rw_jb0007_01.row.prog w (hd.heap_39 w.params) p loose mean mg mb (.ref 29) 2 news [.int y ty, .int mo tm, .int d td] (RetV news fun _ => .bool true) := by
  dsimp only [Clm, RetV]
  k_fill
  intros
  rename_i hret
  refine wpAny_call ?_
  k_dflt cell_enter
  k_steps
  all_goals (refine cb_retB hret rfl (by k_asm) (by k_asm))

def gAdj (y m : Int) : Int := if m ≤ 2 then 0 else if leapB y = true then -1 else -2
def gJd (y m d : Int) : Int := 1721426 - 1 + 365 * (y - 1) + Int.fdiv (y - 1) 4 + -(Int.fdiv (y - 1) 100) + Int.fdiv (y - 1) 400 + (Int.fdiv (367 * m - 362) 12 + gAdj y m + d)

local macro_rules | `(tactic| walk_at "call ref") => `(tactic| (k_here; (with_reducible show wpAny _ _ (call (Value.ref 29) [Value.int _ _, Value.int _ _, Value.int _ _]) _ _ _); k_dflt (refine' cl_use _ ?k1 ?k2 ?k3 ?k4 ?k5 (legal_c ?h1 ?h2 ?h3 ?h4) ?kK ?kd ?ku ?_; (case h1 => omega); (case h2 => omega); (case h3 => omega); (case h4 => omega); walk_at "use!"); intro t9 h9 tk9 F9 N9; (try dsimp only); (try k_fold)))

theorem gAdj_a {y m : Int} (h : m ≤ 2) : gAdj y m = 0 := if_pos h
theorem gAdj_b {y m : Int} (h : ¬ m ≤ 2) (h' : leapB y = true) : gAdj y m = -1 := by unfold gAdj; rw [if_neg h, if_pos h']
theorem gAdj_c {y m : Int} (h : ¬ m ≤ 2) (h' : leapB y = false) : gAdj y m = -2 := by unfold gAdj; rw [if_neg h, h']; rfl

theorem gtojd_c {w : World} {p : Program} {loose : List Str} {mean : ExcName → Option Value} {mg mb : Str → Option Value} {news : List (Addr × Obj)} {y mo d : Int} {ty tm td : Tok} (h1 : 1 ≤ mo) (h2 : mo ≤ 12) (h3 : 1 ≤ d) (h4 : d ≤ 28) :
    Clm PySem.Challenge.rw_jb0007_01.row.prog w (hd.heap_39 w.params) p loose mean mg mb (.ref 36) 3 news [.int y ty, .int mo tm, .int d td] (RetV news fun t => .int (gJd y mo d) t) := by
  dsimp only [Clm, RetV]
  k_fill
  intros
  rename_i hret
  refine wpAny_call ?_
  k_dflt cell_enter
  k_steps
  all_goals (refine cb_retI hret ?_ (by k_asm) (by k_asm); unfold gJd; first | rw [gAdj_a (by assumption)] | rw [gAdj_b (by assumption) (by assumption)] | rw [gAdj_c (by assumption) (by assumption)])

/-! ## part G1 -/
theorem fd {a : Int} (n : Int) (h : 0 < n := by decide) : Int.fdiv a n = a / n := Int.fdiv_eq_ediv_of_nonneg _ (Int.le_of_lt h)
theorem fm {a : Int} (n : Int) (h : 0 < n := by decide) : Int.fmod a n = a % n := Int.fmod_eq_emod_of_nonneg _ (Int.le_of_lt h)
def lp (y : Int) : Int := if leapB y = true then 1 else 0
theorem leapB_iff {y : Int} : leapB y = true ↔ y % 4 = 0 ∧ (y % 100 ≠ 0 ∨ y % 400 = 0) := by
  unfold leapB; rw [fm 4, fm 100, fm 400]; simp
theorem lp_cases (y : Int) : (leapB y = true ∧ lp y = 1 ∧ y % 4 = 0 ∧ (y % 100 ≠ 0 ∨ y % 400 = 0)) ∨ (leapB y = false ∧ lp y = 0 ∧ ¬ (y % 4 = 0 ∧ (y % 100 ≠ 0 ∨ y % 400 = 0))) := by
  by_cases h : leapB y = true
  · left; exact ⟨h, by unfold lp; rw [if_pos h], leapB_iff.mp h⟩
  · right; exact ⟨by simpa using h, by unfold lp; rw [if_neg h], fun q => h (leapB_iff.mpr q)⟩
theorem lp01 (y : Int) : 0 ≤ lp y ∧ lp y ≤ 1 := by
  rcases lp_cases y with ⟨_, e, _⟩ | ⟨_, e, _⟩ <;> rw [e] <;> decide
/-- the first of January -/
def jan (y : Int) : Int := 1721426 + 365 * (y - 1) + (y - 1) / 4 - (y - 1) / 100 + (y - 1) / 400
theorem gJd_jan (y : Int) : gJd y 1 1 = jan y := by
  unfold gJd jan; rw [gAdj_a (by decide), fd 4, fd 100, fd 400, fd 12]
  generalize (y - 1) / 4 = a; generalize (y - 1) / 100 = b; generalize (y - 1) / 400 = c
  lia
/-- the same number, told by the day before -/
theorem div_pred (n y : Int) (h : 1 < n) : y / n = (y - 1) / n + if y % n = 0 then 1 else 0 := by
  have e := Int.mul_ediv_add_emod (y - 1) n
  have l := Int.emod_lt_of_pos (y - 1) (Int.lt_trans Int.zero_lt_one h)
  have g := Int.emod_nonneg (y - 1) (Int.ne_of_gt (Int.lt_trans Int.zero_lt_one h))
  generalize (y - 1) / n = q at *
  generalize (y - 1) % n = r at *
  by_cases c : r + 1 = n
  · have k : y = n * (q + 1) := by rw [Int.mul_add, Int.mul_one]; lia
    subst k
    rw [Int.mul_ediv_cancel_left _ (by lia), if_pos (Int.mul_emod_right _ _)]
  · have k : y = (r + 1) + n * q := by lia
    subst k
    rw [Int.add_mul_ediv_left _ _ (by lia), Int.add_mul_emod_self_left, Int.ediv_eq_zero_of_lt (by lia) (by lia), Int.emod_eq_of_lt (by lia) (by lia), if_neg (by lia), Int.zero_add, Int.add_zero]
theorem lp_sum (y : Int) : lp y = (if y % 4 = 0 then 1 else 0) - (if y % 100 = 0 then 1 else 0) + (if y % 400 = 0 then 1 else 0) := by
  have h1 : y % 400 = 0 → y % 100 = 0 := fun h => Int.emod_eq_zero_of_dvd (Int.dvd_trans (by decide) (Int.dvd_of_emod_eq_zero h))
  have h2 : y % 100 = 0 → y % 4 = 0 := fun h => Int.emod_eq_zero_of_dvd (Int.dvd_trans (by decide) (Int.dvd_of_emod_eq_zero h))
  unfold lp
  simp only [leapB_iff]
  by_cases a : y % 400 = 0
  · have b := h1 a; have c := h2 b; rw [if_pos ⟨c, .inr a⟩, if_pos a, if_pos b, if_pos c]; rfl
  · by_cases b : y % 100 = 0
    · have c := h2 b; rw [if_neg (fun q => Or.elim q.2 (fun x => x b) a), if_neg a, if_pos b, if_pos c]; rfl
    · by_cases c : y % 4 = 0
      · rw [if_pos ⟨c, .inl b⟩, if_neg a, if_neg b, if_pos c]; rfl
      · rw [if_neg (fun q => c q.1), if_neg a, if_neg b, if_neg c]; rfl
theorem jan_succ (y : Int) : jan (y + 1) = jan y + 365 + lp y := by
  unfold jan
  rw [Int.add_sub_cancel, div_pred 4 y (by decide), div_pred 100 y (by decide), div_pred 400 y (by decide), lp_sum]
  generalize (y - 1) / 4 = a; generalize (y - 1) / 100 = b; generalize (y - 1) / 400 = c
  generalize (if y % 4 = 0 then 1 else 0 : Int) = a'; generalize (if y % 100 = 0 then 1 else 0 : Int) = b'; generalize (if y % 400 = 0 then 1 else 0 : Int) = c'
  lia
theorem jan_mono {a b : Int} (h : a ≤ b) : jan a + 365 * (b - a) ≤ jan b := by
  obtain ⟨n, rfl⟩ : ∃ n : Nat, b = a + n := ⟨(b - a).toNat, by lia⟩
  clear h
  induction n with
  | zero => simp
  | succ n ih =>
    have s := jan_succ (a + n)
    have l := lp01 (a + n)
    rw [show a + ((n + 1 : Nat) : Int) = (a + n) + 1 by lia, s]
    lia

def gE0 (jd : Int) : Int := Int.fdiv (jd - 1721426) 146097 * 400 + Int.fdiv (Int.fmod (jd - 1721426) 146097) 36524 * 100 + Int.fdiv (Int.fmod (Int.fmod (jd - 1721426) 146097) 36524) 1461 * 4 + Int.fdiv (Int.fmod (Int.fmod (Int.fmod (jd - 1721426) 146097) 36524) 1461) 365
def gCent (jd : Int) : Int := Int.fdiv (Int.fmod (jd - 1721426) 146097) 36524
def gYi (jd : Int) : Int := Int.fdiv (Int.fmod (Int.fmod (Int.fmod (jd - 1721426) 146097) 36524) 1461) 365
def gY (jd : Int) : Int := if gCent jd = 4 ∨ gYi jd = 4 then gE0 jd else gE0 jd + 1

theorem gY_a {jd : Int} (h : Int.fdiv (Int.fmod (jd - 1721426) 146097) 36524 = 4) : gE0 jd = gY jd := by
  unfold gY; exact (if_pos (Or.inl h)).symm
theorem gY_b {jd : Int} (h : Int.fdiv (Int.fmod (Int.fmod (Int.fmod (jd - 1721426) 146097) 36524) 1461) 365 = 4) : gE0 jd = gY jd := by
  unfold gY; exact (if_pos (Or.inr h)).symm
theorem gY_c {jd : Int} (h : Int.fdiv (Int.fmod (jd - 1721426) 146097) 36524 ≠ 4) (h' : Int.fdiv (Int.fmod (Int.fmod (Int.fmod (jd - 1721426) 146097) 36524) 1461) 365 ≠ 4) : gE0 jd + 1 = gY jd := by
  unfold gY; exact (if_neg (fun q => Or.elim q h h')).symm
theorem div_is {a n k r : Int} (h : a = r + n * k) (h0 : 0 ≤ r) (h1 : r < n) : a / n = k := by
  subst h
  rw [Int.add_mul_ediv_left _ _ (by lia), Int.ediv_eq_zero_of_lt h0 h1, Int.zero_add]
/-- the first of January by its place in the great cycle -/
theorem jan_at {q c d i : Int} (c0 : 0 ≤ c) (c1 : c ≤ 3) (d0 : 0 ≤ d) (d1 : d ≤ 24) (i0 : 0 ≤ i) (i1 : i ≤ 3) : jan (400 * q + 100 * c + 4 * d + i + 1) = 1721426 + (146097 * q + 36524 * c + 1461 * d + 365 * i) := by
  unfold jan
  rw [Int.add_sub_cancel, div_is (n := 4) (k := 100 * q + 25 * c + d) (r := i) (by lia) i0 (by lia), div_is (n := 100) (k := 4 * q + c) (r := 4 * d + i) (by lia) (by lia) (by lia), div_is (n := 400) (k := q) (r := 100 * c + 4 * d + i) (by lia) (by lia) (by lia)]
  lia
theorem lp_one {y : Int} (h : y % 4 = 0) (h' : y % 100 ≠ 0 ∨ y % 400 = 0) : lp y = 1 := if_pos (leapB_iff.mpr ⟨h, h'⟩)
theorem gY_key {jd q c d i r : Int} (h : jd - 1721426 = 146097 * q + (36524 * c + (1461 * d + (365 * i + r)))) (r0 : 0 ≤ r) (r1 : r < 365) (i0 : 0 ≤ i) (i1 : 365 * i + r < 1461) (d0 : 0 ≤ d) (d1 : 1461 * d + (365 * i + r) < 36524) (c0 : 0 ≤ c) (c1 : 36524 * c + (1461 * d + (365 * i + r)) < 146097) :
    jan (if c = 4 ∨ i = 4 then q * 400 + c * 100 + d * 4 + i else q * 400 + c * 100 + d * 4 + i + 1) ≤ jd ∧ jd ≤ jan (if c = 4 ∨ i = 4 then q * 400 + c * 100 + d * 4 + i else q * 400 + c * 100 + d * 4 + i + 1) + 364 + lp (if c = 4 ∨ i = 4 then q * 400 + c * 100 + d * 4 + i else q * 400 + c * 100 + d * 4 + i + 1) := by
  by_cases hc : c = 4
  · rw [if_pos (Or.inl hc)]
    obtain rfl : d = 0 := by lia
    obtain rfl : i = 0 := by lia
    rw [show q * 400 + c * 100 + 0 * 4 + 0 = 400 * q + 100 * 3 + 4 * 24 + 3 + 1 by lia, jan_at (by decide) (by decide) (by decide) (by decide) (by decide) (by decide), lp_one (by lia) (.inr (by lia))]
    lia
  · by_cases hi : i = 4
    · rw [if_pos (Or.inr hi)]
      subst hi
      rw [show q * 400 + c * 100 + d * 4 + 4 = 400 * q + 100 * c + 4 * d + 3 + 1 by lia, jan_at c0 (by lia) d0 (by lia) (by decide) (by decide), lp_one (by lia) (.inl (by lia))]
      lia
    · rw [if_neg (fun h => Or.elim h hc hi)]
      rw [show q * 400 + c * 100 + d * 4 + i + 1 = 400 * q + 100 * c + 4 * d + i + 1 by lia, jan_at c0 (by lia) d0 (by lia) i0 (by lia)]
      have l := (lp01 (400 * q + 100 * c + 4 * d + i + 1)).1
      lia
theorem gY_bounds (jd : Int) : jan (gY jd) ≤ jd ∧ jd ≤ jan (gY jd) + 364 + lp (gY jd) := by
  unfold gY gE0 gCent gYi
  simp only [fd 146097, fd 36524, fd 1461, fd 365, fm 146097, fm 36524, fm 1461]
  have m1 := Int.mul_ediv_add_emod (jd - 1721426) 146097
  have m2 := Int.mul_ediv_add_emod ((jd - 1721426) % 146097) 36524
  have m3 := Int.mul_ediv_add_emod ((jd - 1721426) % 146097 % 36524) 1461
  have m4 := Int.mul_ediv_add_emod ((jd - 1721426) % 146097 % 36524 % 1461) 365
  have l1 := Int.emod_lt_of_pos (jd - 1721426) (show (0 : Int) < 146097 by decide)
  have l2 := Int.emod_lt_of_pos ((jd - 1721426) % 146097) (show (0 : Int) < 36524 by decide)
  have l3 := Int.emod_lt_of_pos ((jd - 1721426) % 146097 % 36524) (show (0 : Int) < 1461 by decide)
  refine gY_key (r := (jd - 1721426) % 146097 % 36524 % 1461 % 365) ?_ (Int.emod_nonneg _ (by decide)) (Int.emod_lt_of_pos _ (by decide)) (Int.ediv_nonneg (Int.emod_nonneg _ (by decide)) (by decide)) ?_ (Int.ediv_nonneg (Int.emod_nonneg _ (by decide)) (by decide)) ?_ (Int.ediv_nonneg (Int.emod_nonneg _ (by decide)) (by decide)) ?_
  · rw [m4, m3, m2, m1]
  · rw [m4]; exact l3
  · rw [m4, m3]; exact l2
  · rw [m4, m3, m2]; exact l1
theorem gY_eq {jd k : Int} (h1 : jan k ≤ jd) (h2 : jd < jan (k + 1)) : gY jd = k := by
  have b := gY_bounds jd
  have s := jan_succ (gY jd)
  by_cases h : gY jd < k
  · have := jan_mono (show gY jd + 1 ≤ k by lia); lia
  · by_cases h' : k < gY jd
    · have := jan_mono (show k + 1 ≤ gY jd by lia); lia
    · lia
theorem gY_two {jd k : Int} (h1 : jan k ≤ jd) (h2 : jd < jan (k + 2)) : gY jd = k ∨ gY jd = k + 1 := by
  by_cases h : jd < jan (k + 1)
  · exact .inl (gY_eq h1 h)
  · exact .inr (gY_eq (by lia) (by rw [show k + 1 + 1 = k + 2 by lia]; exact h2))

/-! ## part C2 -/

theorem mon_a {E jd : Int} (hE : E = gY jd) : 1 ≤ Int.fdiv ((jd - jan E + 0) * 12 + 373) 367 ∧ Int.fdiv ((jd - jan E + 0) * 12 + 373) 367 ≤ 12 := by
  subst hE
  have := gY_bounds jd
  rw [fd 367]; rcases lp_cases (gY jd) with ⟨_, e, _⟩ | ⟨_, e, _⟩ <;> rw [e] at this <;> lia
theorem mon_b {E jd : Int} (hE : E = gY jd) : 1 ≤ Int.fdiv ((jd - jan E + 1) * 12 + 373) 367 ∧ Int.fdiv ((jd - jan E + 1) * 12 + 373) 367 ≤ 12 := by
  subst hE
  have := gY_bounds jd
  rw [fd 367]; rcases lp_cases (gY jd) with ⟨_, e, _⟩ | ⟨_, e, _⟩ <;> rw [e] at this <;> lia
theorem mon_c {E jd : Int} (hE : E = gY jd) (h : leapB E = false) : 1 ≤ Int.fdiv ((jd - jan E + 2) * 12 + 373) 367 ∧ Int.fdiv ((jd - jan E + 2) * 12 + 373) 367 ≤ 12 := by
  subst hE
  have := gY_bounds jd
  rw [fd 367]; rcases lp_cases (gY jd) with ⟨e, _⟩ | ⟨_, e, _⟩
  · rw [h] at e; cases e
  · rw [e] at this; lia
def gAdj2 (jd : Int) : Int := if jd - jan (gY jd) < 58 + lp (gY jd) then 0 else if leapB (gY jd) = true then 1 else 2
def gM (jd : Int) : Int := Int.fdiv ((jd - jan (gY jd) + gAdj2 jd) * 12 + 373) 367
def gD (jd : Int) : Int := jd - gJd (gY jd) (gM jd) 1 + 1

theorem gM_a {E jd : Int} (hE : E = gY jd) (h : jd - jan E < 58 + if leapB E = true then 1 else 0) : Int.fdiv ((jd - jan E + 0) * 12 + 373) 367 = gM jd := by
  subst hE
  unfold gM gAdj2 lp; rw [if_pos h]
theorem gM_b {E jd : Int} (hE : E = gY jd) (h : ¬ jd - jan E < 58 + if leapB E = true then 1 else 0) (h' : leapB E = true) : Int.fdiv ((jd - jan E + 1) * 12 + 373) 367 = gM jd := by
  subst hE
  unfold gM gAdj2 lp; rw [if_neg h, if_pos h']
theorem gM_c {E jd : Int} (hE : E = gY jd) (h : ¬ jd - jan E < 58 + if leapB E = true then 1 else 0) (h' : leapB E = false) : Int.fdiv ((jd - jan E + 2) * 12 + 373) 367 = gM jd := by
  subst hE
  unfold gM gAdj2 lp; rw [if_neg h, h']; rfl

abbrev tup3 (a b c : Int) (t u v : Tok) (n : Nat) : Obj := { cls := .type "tuple", data := .seq #[.int a t, .int b u, .int c v] n }
abbrev RetT3 (news : List (Addr × Obj)) (a b c : Int) (h₀ : Heap) (L : Addr) (m : Str → Option Value) (s : Shared) (Q : Value → Shared → Prop) : Prop :=
  ∀ (x : Addr) (t u v : Tok) (n : Nat) (h' : Heap) (tk' : Nat), Fr h₀ L h' m → News h₀ L h' ((x, tup3 a b c t u v n) :: news) → (∀ p ∈ news, p.1 < x) → Q (.ref x) { s with heap := h', toks := tk' }

theorem gtojd1_c {w : World} {p : Program} {loose : List Str} {mean : ExcName → Option Value} {mg mb : Str → Option Value} {news : List (Addr × Obj)} {y : Int} {ty tm td : Tok} :
    Clm PySem.Challenge.rw_jb0007_01.row.prog w (hd.heap_39 w.params) p loose mean mg mb (.ref 36) 3 news [.int y ty, .int 1 tm, .int 1 td] (RetV news fun t => .int (jan y) t) := by
  rw [← gJd_jan]; exact gtojd_c (by decide) (by decide) (by decide) (by decide)

local macro_rules | `(tactic| walk_at "call ref") => `(tactic| (k_here; (with_reducible show wpAny _ _ (call (Value.ref 36) [Value.int _ _, Value.int _ _, Value.int _ _]) _ _ _); k_dflt (refine' cl_use _ ?k1 ?k2 ?k3 ?k4 ?k5 (gtojd_c ?h1 ?h2 ?h3 ?h4) ?kK ?kd ?ku ?_; (case h1 => first | exact (mon_a (by assumption)).1 | exact (mon_b (by assumption)).1 | exact (mon_c (by assumption) (by assumption)).1); (case h2 => first | exact (mon_a (by assumption)).2 | exact (mon_b (by assumption)).2 | exact (mon_c (by assumption) (by assumption)).2); (case h3 => decide); (case h4 => decide); walk_at "use!"); intro t9 h9 tk9 F9 N9; (try dsimp only); (try k_fold)))
local macro_rules | `(tactic| walk_at "call ref") => `(tactic| (k_here; (with_reducible show wpAny _ _ (call (Value.ref 36) [Value.int _ _, Value.int 1 _, Value.int 1 _]) _ _ _); (first | (have hyE := gY_a (by assumption)) | (have hyE := gY_b (by assumption)) | (have hyE := gY_c (by assumption) (by assumption))); unfold gE0 at hyE; k_dflt (refine' cl_use _ ?k1 ?k2 ?k3 ?k4 ?k5 gtojd1_c ?kK ?kd ?ku ?_; walk_at "use!"); intro t9 h9 tk9 F9 N9; (try dsimp only); (try k_fold)))

theorem ret3 {news : List (Addr × Obj)} {E jd M : Int} {h₀ : Heap} {L : Addr} {m : Str → Option Value} {s : Shared} {Q : Value → Shared → Prop} {x : Addr} {t u v : Tok} {n : Nat} {h' : Heap} {tk' : Nat}
    (hret : RetT3 news (gY jd) (gM jd) (gD jd) h₀ L m s Q) (hE : E = gY jd) (e : M = gM jd) (F : Fr h₀ L h' m) (N : News h₀ L h' ((x, tup3 E M (jd - gJd E M 1 + 1) t u v n) :: news)) (l : ∀ p ∈ news, p.1 < x) : Q (.ref x) { s with heap := h', toks := tk' } := by
  subst hE e; exact hret x t u v n h' tk' F N l

theorem gfromjd_c {w : World} {p : Program} {loose : List Str} {mean : ExcName → Option Value} {mg mb : Str → Option Value} {news : List (Addr × Obj)} {jd : Int} {tj : Tok} :
    Clm PySem.Challenge.rw_jb0007_01.row.prog w (hd.heap_39 w.params) p loose mean mg mb (.ref 43) 4 news [.int jd tj] (RetT3 news (gY jd) (gM jd) (gD jd)) := by
  dsimp only [Clm, RetT3]
  k_fill
  intros
  rename_i hret
  refine wpAny_call ?_
  k_dflt cell_enter
  k_steps
  all_goals (refine ret3 hret (by assumption) ?_ (by k_asm) (by k_asm) (by k_asm); first | exact gM_a (by assumption) (by assumption) | exact gM_b (by assumption) (by assumption) (by assumption) | exact gM_c (by assumption) (by assumption) (by assumption))

/-! ## part C3 -/

def marchL (y : Int) : Int := 2451605 + 146097 * Int.fdiv (y - 2000) 400 + 365 * Int.fmod (y - 2000) 400 + Int.fdiv (Int.fmod (y - 2000) 400) 4 - Int.fdiv (Int.fmod (y - 2000) 400) 100
theorem march_c {w : World} {p : Program} {loose : List Str} {mean : ExcName → Option Value} {mg mb : Str → Option Value} {news : List (Addr × Obj)} {y : Int} {ty : Tok} :
    Clm PySem.Challenge.rw_jb0007_01.row.prog w (hd.heap_39 w.params) p loose mean mg mb (.ref 108) 2 news [.int y ty] (RetV news fun t => .int (marchL y) t) := by
  dsimp only [Clm, RetV]
  k_fill
  intros
  rename_i hret
  refine wpAny_call ?_
  k_dflt cell_enter
  k_steps
  all_goals (refine cb_retI hret ?_ (by k_asm) (cb_drop (by k_asm) (by kcj_all)); first | rfl)

/-! ## part C4 -/
section

structure FirstOK (w : World) (p : Program) (loose : List Str) (mean : ExcName → Option Value) (mg mb : Str → Option Value) (fv : Addr) (news : List (Addr × Obj)) (F : Int → Int) : Prop where
  fn : ∃ oc od fd sl, (fv, (⟨oc, od, .func fd, sl⟩ : Obj)) ∈ news
  run : ∀ news', (∀ q ∈ news, q ∈ news') → ∀ (o : Int) (t : Tok), Clm PySem.Challenge.rw_jb0007_01.row.prog w (hd.heap_39 w.params) p loose mean mg mb (.ref fv) 2 news' [.int o t] (RetV news' fun t' => .int (F o) t')

def bodyOf : Stmt → List Stmt
  | .FunctionDef _ _ b _ _ _ _ _ _ _ => b
  | _ => []
def scopeOf : Stmt → Scope
  | .FunctionDef _ _ _ _ _ _ s _ _ _ => s
  | _ => { kind := .function, names := [], isGenerator := false, isCoroutine := false, more := [] }
def argsOf : Stmt → Arguments
  | .FunctionDef _ a _ _ _ _ _ _ _ _ => a
  | _ => { posonlyargs := [], args := [], vararg := none, kwonlyargs := [], kw_defaults := [], kwarg := none, defaults := [] }
def firstStmt : Stmt := (bodyOf (PySem.Challenge.pw_jb0007_01.main.body.getLast (by decide))).getD 5 (.Pass ⟨0, 0, 0, 0⟩)

def firstF (year start : Int) (odd : List Int) (o : Int) : Int :=
  if 0 ≤ o - year then start + 365 * (o - year) + (odd.take (if 8 < o - year then 8 else o - year).toNat).sum + Int.fdiv (if o - year - 8 > 0 then o - year - 8 else 0) 4
  else start + 365 * (o - year) - ((odd.drop 8).take (if 8 < -(o - year) then 8 else -(o - year)).toNat).sum - Int.fdiv (if -(o - year) - 8 > 0 then -(o - year) - 8 else 0) 4
theorem firstF_a {year start : Int} {odd : List Int} {o : Int} (h : 0 ≤ o - year) :
    start + 365 * (o - year) + (odd.take (if 8 < o - year then 8 else o - year).toNat).sum + Int.fdiv (if o - year - 8 > 0 then o - year - 8 else 0) 4 = firstF year start odd o := by
  unfold firstF; rw [if_pos h]
theorem firstF_b {year start : Int} {odd : List Int} {o : Int} (h16 : 16 ≤ odd.length) (h : ¬ 0 ≤ o - year) :
    start + 365 * (o - year) - ((odd.drop 8).take (min (8 + if 8 < -(o - year) then 8 else -(o - year)).toNat odd.length - 8)).sum - Int.fdiv (if -(o - year) - 8 > 0 then -(o - year) - 8 else 0) 4 = firstF year start odd o := by
  unfold firstF; rw [if_neg h]
  have e : min (8 + if 8 < -(o - year) then 8 else -(o - year)).toNat odd.length - 8 = (if 8 < -(o - year) then 8 else -(o - year)).toNat := by split <;> lia
  rw [e]

local macro_rules | `(tactic| news_mem) => `(tactic| assumption)
local macro_rules | `(tactic| walk_at "eval Name") => `(tactic| (k_here; k_dflt (refine' nameX_F ?N ?c ?m ?d ?_ ?a ?b; (case a => rfl); (case b => rfl); (case N => k_asm); (case c => rfl); (case m => k_mem); (case d => k_asm); k_whole)))

theorem first_ok {w : World} {p : Program} {loose : List Str} {mean : ExcName → Option Value} {mg mb : Str → Option Value} {news : List (Addr × Obj)}
    {f c' lo cO cS cY : Addr} {oc oO oS oY : Obj} {vs : Array Value} {qual : Str} {t tS tY : Tok} {doc pm ctv : Value} {ws : List Value} {odd : List Int} {n : Nat} {start year : Int}
    (hf : (f, fnMade "first" qual (argsOf firstStmt) (bodyOf firstStmt) (scopeOf firstStmt) [("year", cY), ("start", cS), ("odd", cO)] doc pm c' ctv) ∈ news)
    (hc : (c', oc) ∈ news) (d1 : oc.data = .fields vs) (d2 : vs[1]? = some (.str qual t))
    (hO : (cO, oO) ∈ news) (dO : oO.data = .cell (some (.ref lo))) (hS : (cS, oS) ∈ news) (dS : oS.data = .cell (some (.int start tS))) (hY : (cY, oY) ∈ news) (dY : oY.data = .cell (some (.int year tY)))
    (hl : (lo, W.listOf ws.toArray n) ∈ news) (hI : IntsAre ws odd) (h16 : 16 ≤ odd.length) (hlen : odd.length ≤ 100) : FirstOK w p loose mean mg mb f news (firstF year start odd) := by
  refine ⟨⟨_, _, _, _, hf⟩, ?_⟩
  intro news' sub o to
  have hf := sub _ hf
  have hc := sub _ hc
  have hO := sub _ hO
  have hS := sub _ hS
  have hY := sub _ hY
  have hl := sub _ hl
  clear sub
  dsimp only [Clm, RetV]
  k_fill
  intros
  rename_i hret
  refine wpAny_call ?_
  k_dflt (refine' code_nest ?k1 ?k2 ?k3 ?k4 ?k5 ?kA ?kF ?kK ?k6 ?k7 ?k8 ?k9 ?kB ?_ ?c2 ?c3 ?c4 ?c5; (case kA => exact rfl); (case kF => exact rfl); (case kK => assumption); (case k1 => k_asm); (case k2 => k_asm); (case k3 => k_asm); (case k4 => k_asm); (case k5 => k_asm); (case k6 => exact hf); (case k7 => exact codeRec_news (by k_asm) hc d1 d2); (case k8 => ktr_room); (case k9 => exact BindsTo.of_eq rfl); (case c5 => decide); (case kB => exact locs rfl); (case c2 => exact rfl); (case c3 => exact rfl); (case c4 => exact rfl); k_whole)
  intro g' L' h' FG' F' N' B' X' T'
  (try dsimp only)
  (try k_lift B')
  refine wpAny_execs_cons ?_
  (try k_fold)
  k_steps
  all_goals (refine cb_retI hret ?_ (by k_asm) (cb_drop (by k_asm) (by kcj_all)); first | exact firstF_a (by assumption) | exact firstF_b h16 (by assumption))
end

/-! ## part C5 -/

section
variable {w : World} {p : Program} {loose : List Str} {mean : ExcName → Option Value} {mg mb : Str → Option Value} {news : List (Addr × Obj)} {f : Addr} {F : Int → Int}
theorem FirstOK.fnAt (hF : FirstOK w p loose mean mg mb f news F) {news' : List (Addr × Obj)} {h₀ h : Heap} {L : Addr} (N : News h₀ L h news') (sub : ∀ q ∈ news, q ∈ news') : FnAt f h := by
  obtain ⟨oc, od, fd, sl, hm⟩ := hF.fn
  exact FnAt.of N (sub _ hm)
theorem FirstOK.more (hF : FirstOK w p loose mean mg mb f news F) {news' : List (Addr × Obj)} (sub : ∀ q ∈ news, q ∈ news') : FirstOK w p loose mean mg mb f news' F := by
  obtain ⟨oc, od, fd, sl, hm⟩ := hF.fn
  exact ⟨⟨oc, od, fd, sl, sub _ hm⟩, fun n' s' => hF.run n' fun q hq => s' q (sub q hq)⟩
end

local macro_rules | `(tactic| walk_at "eval Call") => `(tactic| ((with_reducible show wpAny _ _ (eval (Expr.Call (Expr.Name _ _) _ _ _) _) _ _ _); k_dflt (refine Call_ ?_)))
local macro_rules | `(tactic| walk_at "FnAt") => `(tactic| (k_dflt (exact FirstOK.fnAt (by assumption) (by k_asm) (by kcj_all))))
local macro_rules | `(tactic| walk_at "callWith ref") => `(tactic| (k_here; k_dflt (refine' callWith_F ?k1 ?_; (case k1 => exact FirstOK.fnAt (by assumption) (by k_asm) (by kcj_all)); k_whole)))
local macro_rules | `(tactic| walk_at "call ref") => `(tactic| (k_here; (with_reducible show wpAny _ _ (call (Value.ref 43) [Value.int _ _]) _ _ _); k_dflt (refine' cl_use _ ?k1 ?k2 ?k3 ?k4 ?k5 gfromjd_c ?kK ?kd ?ku ?_; walk_at "use!"); intro x9 t9 u9 v9 n9 h9 tk9 F9 N9 l9; (try dsimp only); (try k_fold)))
local macro_rules | `(tactic| walk_at "call ref") => `(tactic| (k_here; (with_reducible show wpAny _ _ (call (Value.ref _) [Value.int _ _]) _ _ _); k_dflt (refine' cl_use _ ?k1 ?k2 ?k3 ?k4 ?k5 (FirstOK.run ?hF _ ?sub _ _) ?kK ?kd ?ku ?_; (case hF => assumption); walk_at "use!"; (case sub => kcj_all)); intro t9 h9 tk9 F9 N9; (try dsimp only); (try k_fold)))

local macro_rules | `(tactic| walk_at "exec While Compare cons nil") => `(tactic| (k_here; k_dflt (refine whl_start 30 ?_)))
local macro_rules | `(tactic| walk_at "exec While UnaryOp cons nil") => `(tactic| (k_here; k_dflt (refine whl_start 30 ?_)))
theorem ndec_t {P : Prop} [Decidable P] (h : ¬ P) : (!decide P) = true := by rw [decide_eq_false h]; rfl
theorem ndec_f {P : Prop} [Decidable P] (h : P) : (!decide P) = false := by rw [decide_eq_true h]; rfl
local macro_rules | `(tactic| walk_at "WhlIf") => `(tactic| (first | (refine WhlIf.yes (decide_eq_true (by omega)) ?_) | (refine WhlIf.no (decide_eq_false (by omega)) ?_) | (refine WhlIf.yes (ndec_t (by omega)) ?_) | (refine WhlIf.no (ndec_f (by omega)) ?_)))
local macro_rules | `(tactic| walk_at "first!") => `(tactic| (k_here; (try dsimp only [List.nil_append, List.cons_append]); k_dflt (refine' cl_use _ ?k1 ?k2 ?k3 ?k4 ?k5 (FirstOK.run ?hF _ ?sub _ _) ?kK ?kd ?ku ?_; (case hF => assumption); walk_at "use!"; (case sub => kcj_all)); intro t9 h9 tk9 F9 N9; (try dsimp only); (try k_fold)))
theorem lasteq_c {w : World} {p : Program} {loose : List Str} {mean : ExcName → Option Value} {mg mb : Str → Option Value} {news : List (Addr × Obj)} {f : Addr} {F : Int → Int} (hF : FirstOK w p loose mean mg mb f news F)
    {jd k : Int} {tj : Tok} (h1 : F k ≤ jd) (h2 : jd < F (k + 1)) (hG : gY jd = k ∨ gY jd = k + 1) :
    Clm PySem.Challenge.rw_jb0007_01.row.prog w (hd.heap_39 w.params) p loose mean mg mb (.ref 59) 5 news [.int jd tj, .ref f] (RetV news fun t => .int (F k - 1) t) := by
  have hk : k = gY jd ∨ k = gY jd - 1 := by omega
  have h3 : k = gY jd - 1 → jd < F (gY jd) := fun e => by subst e; rwa [show gY jd - 1 + 1 = gY jd by omega] at h2
  clear hG
  dsimp only [Clm, RetV]
  k_fill
  rcases hk with rfl | rfl
  · clear h3
    intros
    rename_i hret
    refine wpAny_call ?_
    k_dflt cell_enter
    k_steps
    all_goals try walk_at "first!"
    k_steps
    all_goals try walk_at "first!"
    k_steps
    all_goals try walk_at "first!"
    k_steps
    all_goals try walk_at "first!"
    k_steps
    all_goals (refine cb_retI hret rfl (by k_asm) (cb_drop (by k_asm) (by kcj_all)))
  · replace h3 := h3 rfl
    intros
    rename_i hret
    refine wpAny_call ?_
    k_dflt cell_enter
    k_steps
    all_goals try walk_at "first!"
    k_steps
    all_goals try walk_at "first!"
    k_steps
    all_goals try walk_at "first!"
    k_steps
    all_goals try walk_at "first!"
    k_steps
    all_goals (refine cb_retI hret rfl (by k_asm) (cb_drop (by k_asm) (by kcj_all)))

/-! ## part C6 -/
def pyOf (e : Int) : Int := Int.fdiv ((2 * (e - 1948321) - 1) * 100000000 + 36524219878) (2 * 36524219878) + 1
structure Good (F : Int → Int) (jd k : Int) : Prop where
  lo : F k ≤ jd
  hi : jd < F (k + 1)
  gy : gY jd = k ∨ gY jd = k + 1
  py : pyOf (F k - 1) = k - 621
theorem Good.cast {F : Int → Int} {jd jd' k : Int} (g : Good F jd k) (e : jd = jd') : Good F jd' k := e ▸ g
abbrev tup2 (a b : Int) (t u : Tok) (n : Nat) : Obj := { cls := .type "tuple", data := .seq #[.int a t, .int b u] n }
abbrev RetT2 (news : List (Addr × Obj)) (a b : Int) (h₀ : Heap) (L : Addr) (m : Str → Option Value) (s : Shared) (Q : Value → Shared → Prop) : Prop :=
  ∀ (x : Addr) (t u : Tok) (n : Nat) (h' : Heap) (tk' : Nat), Fr h₀ L h' m → News h₀ L h' ((x, tup2 a b t u n) :: news) → (∀ p ∈ news, p.1 < x) → Q (.ref x) { s with heap := h', toks := tk' }
theorem ret2 {news : List (Addr × Obj)} {a b a' : Int} {h₀ : Heap} {L : Addr} {m : Str → Option Value} {s : Shared} {Q : Value → Shared → Prop} {x : Addr} {t u : Tok} {n : Nat} {h' : Heap} {tk' : Nat}
    (hret : RetT2 news a b h₀ L m s Q) (e : a' = a) (F : Fr h₀ L h' m) (N : News h₀ L h' ((x, tup2 a' b t u n) :: news)) (l : ∀ p ∈ news, p.1 < x) : Q (.ref x) { s with heap := h', toks := tk' } := by
  subst e; exact hret x t u n h' tk' F N l

local macro_rules | `(tactic| walk_at "call ref") => `(tactic| (k_here; (with_reducible show wpAny _ _ (call (Value.ref 59) [Value.int _ _, Value.ref _]) _ _ _); k_dflt (refine' cl_use _ ?k1 ?k2 ?k3 ?k4 ?k5 (lasteq_c (FirstOK.more ?hF ?sub) (Good.lo ?g) (Good.hi ?g) (Good.gy ?g)) ?kK ?kd ?ku ?_; (case hF => assumption); (case g => assumption); walk_at "use!"; (case sub => kcj_all)); intro t9 h9 tk9 F9 N9; (try dsimp only); (try k_fold)))

theorem pyear_c {w : World} {p : Program} {loose : List Str} {mean : ExcName → Option Value} {mg mb : Str → Option Value} {news : List (Addr × Obj)} {f : Addr} {F : Int → Int} (hF : FirstOK w p loose mean mg mb f news F)
    {jd k : Int} {tj : Tok} (g : Good F jd k) :
    Clm PySem.Challenge.rw_jb0007_01.row.prog w (hd.heap_39 w.params) p loose mean mg mb (.ref 66) 6 news [.int jd tj, .ref f] (RetT2 news (k - 621) (F k - 1)) := by
  dsimp only [Clm, RetT2]
  k_fill
  intros
  rename_i hret
  refine wpAny_call ?_
  k_dflt cell_enter
  k_steps
  all_goals (refine ret2 hret g.py (by k_asm) (by k_asm) (by k_asm))

def pM (yd : Int) : Int := if yd ≤ 186 then -(Int.fdiv (-yd) 31) else -(Int.fdiv (-(yd - 6)) 30)
def pD (yd : Int) : Int := if yd ≤ 186 then yd - (pM yd - 1) * 31 else yd - (pM yd - 1) * 30 - 6
theorem pM_a {yd : Int} (h : yd ≤ 186) : -(Int.fdiv (-yd) 31) = pM yd := (if_pos h).symm
theorem pM_b {yd : Int} (h : ¬ yd ≤ 186) : -(Int.fdiv (-(yd - 6)) 30) = pM yd := (if_neg h).symm
theorem pD_a {yd : Int} (h : yd ≤ 186) : yd - (-(Int.fdiv (-yd) 31) - 1) * 31 = pD yd := by unfold pD; rw [if_pos h, pM_a h]
theorem pD_b {yd : Int} (h : ¬ yd ≤ 186) : yd - (-(Int.fdiv (-(yd - 6)) 30) - 1) * 30 - 6 = pD yd := by unfold pD; rw [if_neg h, pM_b h]
theorem ret3e {news : List (Addr × Obj)} {a b c a' b' c' : Int} {h₀ : Heap} {L : Addr} {m : Str → Option Value} {s : Shared} {Q : Value → Shared → Prop} {x : Addr} {t u v : Tok} {n : Nat} {h' : Heap} {tk' : Nat}
    (hret : RetT3 news a b c h₀ L m s Q) (e1 : a' = a) (e2 : b' = b) (e3 : c' = c) (F : Fr h₀ L h' m) (N : News h₀ L h' ((x, tup3 a' b' c' t u v n) :: news)) (l : ∀ p ∈ news, p.1 < x) : Q (.ref x) { s with heap := h', toks := tk' } := by
  subst e1 e2 e3; exact hret x t u v n h' tk' F N l
theorem pfromjd_c {w : World} {p : Program} {loose : List Str} {mean : ExcName → Option Value} {mg mb : Str → Option Value} {news : List (Addr × Obj)} {f : Addr} {F : Int → Int} (hF : FirstOK w p loose mean mg mb f news F)
    {jd k : Int} {tj : Tok} (g : Good F jd k) :
    Clm PySem.Challenge.rw_jb0007_01.row.prog w (hd.heap_39 w.params) p loose mean mg mb (.ref 80) 6 news [.int jd tj, .ref f] (RetT3 news (k - 621) (pM (jd - (F k - 1))) (pD (jd - (F k - 1)))) := by
  dsimp only [Clm, RetT3]
  k_fill
  intros
  rename_i hret
  refine wpAny_call ?_
  k_dflt cell_enter
  k_steps
  · refine ret3e hret g.py (pM_a (by assumption)) (pD_a (by assumption)) (by k_asm) (by k_asm) (by k_asm)
  · refine ret3e hret g.py (pM_b (by assumption)) (pD_b (by assumption)) (by k_asm) (by k_asm) (by k_asm)

def guess0 (y : Int) : Int := 1948321 - 1 + Int.fdiv (36524219878 * (y - 1 - 1)) 100000000
structure ToOK (F : Int → Int) (y : Int) : Prop where
  st : Good F (guess0 y) (y + 619) ∨ Good F (guess0 y) (y + 620)
  n1 : Good F (F (y + 619) - 1 + 365 + 2) (y + 619 + 1)
  n2 : Good F (F (y + 620) - 1 + 365 + 2) (y + 620 + 1)
def mOff (m : Int) : Int := if m ≤ 7 then (m - 1) * 31 else (m - 1) * 30 + 6

local macro_rules | `(tactic| walk_at "call ref") => `(tactic| (k_here; (with_reducible show wpAny _ _ (call (Value.ref 66) [Value.int _ _, Value.ref _]) _ _ _); k_dflt (refine' cl_use _ ?k1 ?k2 ?k3 ?k4 ?k5 (pyear_c (FirstOK.more ?hF ?sub) ?g) ?kK ?kd ?ku ?_; (case hF => assumption); (case g => assumption); walk_at "use!"; (case sub => kcj_all)); intro x9 t9 u9 n9 h9 tk9 F9 N9 l9; (try dsimp only); (try k_fold)))
theorem tj_a {F : Int → Int} {k y mo d : Int} (hk : k = y + 621) (h : mo ≤ 7) : F k - 1 + (mo - 1) * 31 + d = F (y + 621) - 1 + mOff mo + d := by unfold mOff; rw [if_pos h, hk]
theorem tj_b {F : Int → Int} {k y mo d : Int} (hk : k = y + 621) (h : ¬ mo ≤ 7) : F k - 1 + ((mo - 1) * 30 + 6) + d = F (y + 621) - 1 + mOff mo + d := by unfold mOff; rw [if_neg h, hk]
theorem ptojd_c {w : World} {p : Program} {loose : List Str} {mean : ExcName → Option Value} {mg mb : Str → Option Value} {news : List (Addr × Obj)} {f : Addr} {F : Int → Int} (hF : FirstOK w p loose mean mg mb f news F)
    {y mo d : Int} {ty tm td : Tok} (g : ToOK F y) :
    Clm PySem.Challenge.rw_jb0007_01.row.prog w (hd.heap_39 w.params) p loose mean mg mb (.ref 73) 7 news [.int y ty, .int mo tm, .int d td, .ref f] (RetV news fun t => .int (F (y + 621) - 1 + mOff mo + d) t) := by
  have g1 := g.n1
  have g2 := g.n2
  have g0 := g.st
  dsimp only [Clm, RetV]
  k_fill
  rcases g0 with g0 | g0
  · have g3 : Good F (F (y + 619 + 1) - 1 + 365 + 2) (y + 619 + 1 + 1) := by rw [show y + 619 + 1 = y + 620 by omega]; exact g2
    clear g2 g
    intros
    rename_i hret
    refine wpAny_call ?_
    k_dflt cell_enter
    k_steps
    all_goals (refine cb_retI hret ?_ (by k_asm) (cb_drop (by k_asm) (by kcj_all)); first | exact tj_a (by omega) (by assumption) | exact tj_b (by omega) (by assumption))
  · clear g1 g
    intros
    rename_i hret
    refine wpAny_call ?_
    k_dflt cell_enter
    k_steps
    all_goals (refine cb_retI hret ?_ (by k_asm) (cb_drop (by k_asm) (by kcj_all)); first | exact tj_a (by omega) (by assumption) | exact tj_b (by omega) (by assumption))

/-! ## part C7 -/

local macro_rules | `(tactic| walk_at "call ref") => `(tactic| (k_here; (with_reducible show wpAny _ _ (call (Value.ref 73) [Value.int _ _, Value.int _ _, Value.int _ _, Value.ref _]) _ _ _); k_dflt (refine' cl_use _ ?k1 ?k2 ?k3 ?k4 ?k5 (ptojd_c (FirstOK.more ?hF ?sub) ?g) ?kK ?kd ?ku ?_; (case hF => assumption); (case g => assumption); walk_at "use!"; (case sub => kcj_all)); intro t9 h9 tk9 F9 N9; (try dsimp only); (try k_fold)))

def pLeap (F : Int → Int) (y : Int) : Bool := decide (F (y + 1 + 621) - F (y + 621) > 365)
theorem pLeap_a {F : Int → Int} {y : Int} : decide (F (y + 1 + 621) - 1 + mOff 1 + 1 - (F (y + 621) - 1 + mOff 1 + 1) > 365) = pLeap F y := by
  unfold pLeap mOff; apply decide_eq_decide.mpr; simp only [show (1 : Int) ≤ 7 by decide, if_true]; lia
theorem pleap_c {w : World} {p : Program} {loose : List Str} {mean : ExcName → Option Value} {mg mb : Str → Option Value} {news : List (Addr × Obj)} {f : Addr} {F : Int → Int} (hF : FirstOK w p loose mean mg mb f news F)
    {y : Int} {ty : Tok} (g0 : ToOK F y) (g1 : ToOK F (y + 1)) :
    Clm PySem.Challenge.rw_jb0007_01.row.prog w (hd.heap_39 w.params) p loose mean mg mb (.ref 52) 8 news [.int y ty, .ref f] (RetV news fun _ => .bool (pLeap F y)) := by
  dsimp only [Clm, RetV]
  k_fill
  intros
  rename_i hret
  refine wpAny_call ?_
  k_dflt cell_enter
  k_steps
  all_goals (refine cb_retB hret ?_ (by k_asm) (cb_drop (by k_asm) (by kcj_all)); first | exact pLeap_a)

local macro_rules | `(tactic| walk_at "call ref") => `(tactic| (k_here; (with_reducible show wpAny _ _ (call (Value.ref 52) [Value.int _ _, Value.ref _]) _ _ _); k_dflt (refine' cl_use _ ?k1 ?k2 ?k3 ?k4 ?k5 (pleap_c (FirstOK.more ?hF ?sub) ?g ?g') ?kK ?kd ?ku ?_; (case hF => assumption); (case g => assumption); (case g' => assumption); walk_at "use!"; (case sub => kcj_all)); intro t9 h9 tk9 F9 N9; (try dsimp only); (try k_fold)))

def in30 (mo : Int) : Bool := 7 == mo || (8 == mo || (9 == mo || (10 == mo || 11 == mo)))
def in31 (mo : Int) : Bool := 1 == mo || (2 == mo || (3 == mo || (4 == mo || (5 == mo || 6 == mo))))
def mLen (F : Int → Int) (y mo : Int) : Int := if in30 mo = true then 30 else if mo = 12 ∧ pLeap F y = true then 30 else if in31 mo = true then 31 else 29
theorem mLen_a {F : Int → Int} {y mo : Int} (h : in30 mo = true) : 30 = mLen F y mo := by unfold mLen; rw [if_pos h]
theorem mLen_b {F : Int → Int} {y mo : Int} (h : in30 mo = false) (h1 : mo = 12) (h2 : pLeap F y = true) : 30 = mLen F y mo := by unfold mLen; rw [if_neg (by rw [h]; decide), if_pos ⟨h1, h2⟩]
theorem mLen_c {F : Int → Int} {y mo : Int} (h : in30 mo = false) (h2 : ¬ (mo = 12 ∧ pLeap F y = true)) (h3 : in31 mo = true) : 31 = mLen F y mo := by unfold mLen; rw [if_neg (by rw [h]; decide), if_neg h2, if_pos h3]
theorem mLen_d {F : Int → Int} {y mo : Int} (h : in30 mo = false) (h2 : ¬ (mo = 12 ∧ pLeap F y = true)) (h3 : in31 mo = false) : 29 = mLen F y mo := by unfold mLen; rw [if_neg (by rw [h]; decide), if_neg h2, if_neg (by rw [h3]; decide)]
theorem nleap_a {F : Int → Int} {y mo : Int} (h : pLeap F y = false) : ¬ (mo = 12 ∧ pLeap F y = true) := fun q => by rw [h] at q; exact absurd q.2 (by decide)
theorem nleap_b {F : Int → Int} {y mo : Int} (h : mo ≠ 12) : ¬ (mo = 12 ∧ pLeap F y = true) := fun q => h q.1
theorem pmlen_c {w : World} {p : Program} {loose : List Str} {mean : ExcName → Option Value} {mg mb : Str → Option Value} {news : List (Addr × Obj)} {f : Addr} {F : Int → Int} (hF : FirstOK w p loose mean mg mb f news F)
    {y mo : Int} {ty tm : Tok} (g0 : ToOK F y) (g1 : ToOK F (y + 1)) :
    Clm PySem.Challenge.rw_jb0007_01.row.prog w (hd.heap_39 w.params) p loose mean mg mb (.ref 101) 9 news [.int y ty, .int mo tm, .ref f] (RetV news fun t => .int (mLen F y mo) t) := by
  dsimp only [Clm, RetV]
  k_fill
  intros
  rename_i hret
  refine wpAny_call ?_
  k_dflt cell_enter
  k_steps
  all_goals (refine cb_retI hret ?_ (by k_asm) (cb_drop (by k_asm) (by kcj_all)); first | exact mLen_a (by assumption) | exact mLen_b (by assumption) (by assumption) (by assumption) | exact mLen_c (by assumption) (nleap_a (by assumption)) (by assumption) | exact mLen_c (by assumption) (nleap_b (by assumption)) (by assumption) | exact mLen_d (by assumption) (nleap_a (by assumption)) (by assumption) | exact mLen_d (by assumption) (nleap_b (by assumption)) (by assumption))


theorem ptogreg_c {w : World} {p : Program} {loose : List Str} {mean : ExcName → Option Value} {mg mb : Str → Option Value} {news : List (Addr × Obj)} {f : Addr} {F : Int → Int} (hF : FirstOK w p loose mean mg mb f news F)
    {y mo d : Int} {ty tm td : Tok} (g : ToOK F y) :
    Clm PySem.Challenge.rw_jb0007_01.row.prog w (hd.heap_39 w.params) p loose mean mg mb (.ref 94) 8 news [.int y ty, .int mo tm, .int d td, .ref f] (RetT3 news (gY (F (y + 621) - 1 + mOff mo + d)) (gM (F (y + 621) - 1 + mOff mo + d)) (gD (F (y + 621) - 1 + mOff mo + d))) := by
  dsimp only [Clm, RetT3]
  k_fill
  intros
  rename_i hret
  refine wpAny_call ?_
  k_dflt cell_enter
  k_steps
  all_goals (refine ret3e hret rfl rfl rfl (by k_asm) (by k_asm) (by k_asm))

local macro_rules | `(tactic| walk_at "call ref") => `(tactic| (k_here; (with_reducible show wpAny _ _ (call (Value.ref 36) [Value.int _ _, Value.int _ _, Value.int _ _]) _ _ _); k_dflt (refine' cl_use _ ?k1 ?k2 ?k3 ?k4 ?k5 (gtojd_c ?h1 ?h2 ?h3 ?h4) ?kK ?kd ?ku ?_; (case h1 => assumption); (case h2 => assumption); (case h3 => assumption); (case h4 => assumption); walk_at "use!"); intro t9 h9 tk9 F9 N9; (try dsimp only); (try k_fold)))
local macro_rules | `(tactic| walk_at "call ref") => `(tactic| (k_here; (with_reducible show wpAny _ _ (call (Value.ref 80) [Value.int _ _, Value.ref _]) _ _ _); k_dflt (refine' cl_use _ ?k1 ?k2 ?k3 ?k4 ?k5 (pfromjd_c (FirstOK.more ?hF ?sub) ?g) ?kK ?kd ?ku ?_; (case hF => assumption); (case g => assumption); walk_at "use!"; (case sub => kcj_all)); intro x9 t9 u9 v9 n9 h9 tk9 F9 N9 l9; (try dsimp only); (try k_fold)))
theorem pfromgreg_c {w : World} {p : Program} {loose : List Str} {mean : ExcName → Option Value} {mg mb : Str → Option Value} {news : List (Addr × Obj)} {f : Addr} {F : Int → Int} (hF : FirstOK w p loose mean mg mb f news F)
    {y mo d k : Int} {ty tm td : Tok} (h1 : 1 ≤ mo) (h2 : mo ≤ 12) (h3 : 1 ≤ d) (h4 : d ≤ 28) (g : Good F (gJd y mo d) k) :
    Clm PySem.Challenge.rw_jb0007_01.row.prog w (hd.heap_39 w.params) p loose mean mg mb (.ref 87) 7 news [.int y ty, .int mo tm, .int d td, .ref f] (RetT3 news (k - 621) (pM (gJd y mo d - (F k - 1))) (pD (gJd y mo d - (F k - 1)))) := by
  dsimp only [Clm, RetT3]
  k_fill
  intros
  rename_i hret
  refine wpAny_call ?_
  k_dflt cell_enter
  k_steps
  all_goals (refine ret3e hret rfl rfl rfl (by k_asm) (by k_asm) (by k_asm))

/-! ## part G2 -/
theorem march_jan (y : Int) : marchL y = jan y + 59 + lp y := by
  have s := jan_succ y
  have m := Int.mul_ediv_add_emod (y - 2000) 400
  have l := Int.emod_lt_of_pos (y - 2000) (show (0 : Int) < 400 by decide)
  have g := Int.emod_nonneg (y - 2000) (show (400 : Int) ≠ 0 by decide)
  unfold marchL
  rw [fd 400, fm 400, fd 4, fd 100]
  generalize (y - 2000) / 400 = q at *
  generalize (y - 2000) % 400 = p at *
  have e1 : y / 4 = p / 4 + (500 + 100 * q) := by rw [show y = p + 4 * (500 + 100 * q) by lia, Int.add_mul_ediv_left _ _ (by decide)]
  have e2 : y / 100 = p / 100 + (20 + 4 * q) := by rw [show y = p + 100 * (20 + 4 * q) by lia, Int.add_mul_ediv_left _ _ (by decide)]
  have e3 : y / 400 = 5 + q := div_is (r := p) (by lia) g l
  have k : jan (y + 1) = 1721426 + 365 * y + y / 4 - y / 100 + y / 400 := by unfold jan; rw [Int.add_sub_cancel]
  rw [e1, e2, e3] at k
  generalize p / 4 = a at *
  generalize p / 100 = b at *
  clear e1 e2 e3 l g
  lia

theorem pyOf_eq {e k : Int} (h0 : -2100 ≤ k) (h1 : k ≤ 10100) (h2 : jan k + 60 ≤ e) (h3 : e ≤ jan k + 100) : pyOf e = k - 621 := by
  unfold pyOf
  rw [show (2 * 36524219878 : Int) = 73048439756 by decide, fd 73048439756]
  unfold jan at h2 h3
  omega

theorem good_of {F : Int → Int} {jd k : Int} (h0 : -2100 ≤ k) (h1 : k ≤ 10100) (e1 : jan k + 70 ≤ F k) (e2 : F k ≤ jan k + 90) (e3 : F (k + 1) ≤ jan (k + 1) + 90) (lo : F k ≤ jd) (hi : jd < F (k + 1)) : Good F jd k := by
  refine ⟨lo, hi, ?_, pyOf_eq h0 h1 (by lia) (by lia)⟩
  have s := jan_succ (k + 1)
  rw [show k + 1 + 1 = k + 2 by lia] at s
  refine gY_two (by lia) ?_
  rcases lp_cases (k + 1) with ⟨_, e, _⟩ | ⟨_, e, _⟩ <;> rw [e] at s <;> lia

/-- what the law's year says of `first` -/
structure Near (F : Int → Int) (Y st : Int) : Prop where
  y0 : -2000 ≤ Y
  y1 : Y ≤ 10000
  s0 : jan Y + 78 ≤ st
  s1 : st ≤ jan Y + 81
  f0 : F Y = st
  p1 : F (Y + 1) = st + 365 ∨ F (Y + 1) = st + 366
  p2 : F (Y + 1 + 1) = F (Y + 1) + 365 ∨ F (Y + 1 + 1) = F (Y + 1) + 366
  m1 : F (Y - 1) = st - 365 ∨ F (Y - 1) = st - 366
  m2 : F (Y - 2) = F (Y - 1) - 365 ∨ F (Y - 2) = F (Y - 1) - 366

section
variable {F : Int → Int} {Y st : Int}
theorem Near.good (n : Near F Y st) {jd : Int} (lo : st ≤ jd) (hi : jd < F (Y + 1)) : Good F jd Y := by
  obtain ⟨y0, y1, s0, s1, f0, p1, _, _, _⟩ := n
  have s := jan_succ Y
  have l := (lp01 Y).1
  rw [← f0] at s0 s1 lo p1
  exact good_of (Int.le_trans (by decide) y0) (Int.le_trans y1 (by decide)) (Int.le_trans (Int.add_le_add_left (by decide) _) s0) (Int.le_trans s1 (Int.add_le_add_left (by decide) _)) (by clear y0 y1 f0 s0; lia) lo hi
theorem bnd_up {F : Int → Int} {k a b : Int} (h : jan k + a ≤ F k ∧ F k ≤ jan k + b) (p : F (k + 1) = F k + 365 ∨ F (k + 1) = F k + 366) : jan (k + 1) + (a - 1) ≤ F (k + 1) ∧ F (k + 1) ≤ jan (k + 1) + (b + 1) := by
  have s := jan_succ k
  have l := lp01 k
  constructor <;> lia
theorem bnd_dn {F : Int → Int} {k a b : Int} (h : jan (k + 1) + a ≤ F (k + 1) ∧ F (k + 1) ≤ jan (k + 1) + b) (p : F (k + 1) = F k + 365 ∨ F (k + 1) = F k + 366) : jan k + (a - 1) ≤ F k ∧ F k ≤ jan k + (b + 1) := by
  have s := jan_succ k
  have l := lp01 k
  constructor <;> lia
theorem back {a b : Int} (h : a = b - 365 ∨ a = b - 366) : b = a + 365 ∨ b = a + 366 := by lia
structure In2 (F : Int → Int) (k : Int) : Prop where
  lo : jan k + 70 ≤ F k
  hi : F k ≤ jan k + 90
theorem in2 {F : Int → Int} {k a b : Int} (h : jan k + a ≤ F k ∧ F k ≤ jan k + b) (ha : 70 ≤ a) (hb : b ≤ 90) : In2 F k := ⟨Int.le_trans (Int.add_le_add_left ha _) h.1, Int.le_trans h.2 (Int.add_le_add_left hb _)⟩
theorem Near.bounds (n : Near F Y st) : In2 F (Y - 2) ∧ In2 F (Y - 1) ∧ In2 F Y ∧ In2 F (Y + 1) ∧ In2 F (Y + 1 + 1) := by
  have h0 : jan Y + 78 ≤ F Y ∧ F Y ≤ jan Y + 81 := by rw [n.f0]; exact ⟨n.s0, n.s1⟩
  have e1 : Y - 1 + 1 = Y := Int.sub_add_cancel Y 1
  have e2 : Y - 2 + 1 = Y - 1 := by lia
  have h1 := bnd_up h0 (by rw [n.f0]; exact n.p1)
  have h2 := bnd_up h1 n.p2
  have g1 := bnd_dn (k := Y - 1) (by rw [e1]; exact h0) (by rw [e1, n.f0]; exact back n.m1)
  have g2 := bnd_dn (k := Y - 2) (by rw [e2]; exact g1) (by rw [e2]; exact back n.m2)
  exact ⟨in2 g2 (by decide) (by decide), in2 g1 (by decide) (by decide), in2 h0 (by decide) (by decide), in2 h1 (by decide) (by decide), in2 h2 (by decide) (by decide)⟩
theorem good_in {F : Int → Int} {jd k : Int} (h0 : -2002 ≤ k) (h1 : k ≤ 10002) (a : In2 F k) (b : In2 F (k + 1)) (lo : F k ≤ jd) (hi : jd < F (k + 1)) : Good F jd k :=
  good_of (Int.le_trans (by decide) h0) (Int.le_trans h1 (by decide)) a.1 a.2 b.2 lo hi
theorem guess_a {y : Int} (h0 : -2700 ≤ y) (h1 : y ≤ 9500) : jan (y + 619) + 92 ≤ guess0 y ∧ guess0 y ≤ jan (y + 621) + 60 := by
  unfold guess0 jan
  rw [fd 100000000]
  lia
theorem ToOK.of {y : Int} (h0 : -2621 ≤ y) (h1 : y ≤ 9380) (a : In2 F (y + 619)) (b : In2 F (y + 620)) (c : In2 F (y + 621)) (p : F (y + 620) = F (y + 619) + 365 ∨ F (y + 620) = F (y + 619) + 366) (q : F (y + 621) = F (y + 620) + 365 ∨ F (y + 621) = F (y + 620) + 366) (r : F (y + 620 + 1 + 1) = F (y + 621) + 365 ∨ F (y + 620 + 1 + 1) = F (y + 621) + 366) (d2 : In2 F (y + 620 + 1 + 1)) : ToOK F y := by
  have g := guess_a (y := y) (by lia) (by lia)
  have e1 : y + 619 + 1 = y + 620 := by lia
  have e2 : y + 620 + 1 = y + 621 := by lia
  rw [e2] at d2 r
  refine ⟨?_, ?_, ?_⟩
  · by_cases h : F (y + 620) ≤ guess0 y
    · right
      exact good_in (by lia) (by lia) b (by rw [e2]; exact c) h (by rw [e2]; have := c.1; have := g.2; clear p q r; lia)
    · left
      exact good_in (by lia) (by lia) a (by rw [e1]; exact b) (by have := a.2; have := g.1; clear p q r; lia) (by rw [e1]; lia)
  · rw [e1]
    exact good_in (by lia) (by lia) b (by rw [e2]; exact c) (by clear q r g; lia) (by rw [e2]; clear r g; lia)
  · rw [e2]
    exact good_in (by lia) (by lia) c d2 (by clear p r g; lia) (by clear p g; lia)
/-- the persian year of Y -/
theorem Near.to0 (n : Near F Y st) : ToOK F (Y - 621) := by
  obtain ⟨b1, b2, b3, b4, b5⟩ := n.bounds
  have e1 : Y - 621 + 619 = Y - 2 := by lia
  have e2 : Y - 621 + 620 = Y - 1 := by lia
  have e3 : Y - 621 + 621 = Y := by lia
  have e4 : Y - 1 + 1 = Y := by lia
  have y0 := n.y0
  have y1 := n.y1
  refine ToOK.of (by lia) (by lia) ?_ ?_ ?_ ?_ ?_ ?_ ?_
  · rw [e1]; exact b1
  · rw [e2]; exact b2
  · rw [e3]; exact b3
  · rw [e1, e2]; exact back n.m2
  · rw [e2, e3, n.f0]; exact back n.m1
  · rw [e2, e3, e4, n.f0]; exact n.p1
  · rw [e2, e4]; exact b4
theorem Near.to1 (n : Near F Y st) : ToOK F (Y - 621 + 1) := by
  obtain ⟨b1, b2, b3, b4, b5⟩ := n.bounds
  have e1 : Y - 621 + 1 + 619 = Y - 1 := by lia
  have e2 : Y - 621 + 1 + 620 = Y := by lia
  have e3 : Y - 621 + 1 + 621 = Y + 1 := by lia
  have y0 := n.y0
  have y1 := n.y1
  refine ToOK.of (by lia) (by lia) ?_ ?_ ?_ ?_ ?_ ?_ ?_
  · rw [e1]; exact b2
  · rw [e2]; exact b3
  · rw [e3]; exact b4
  · rw [e1, e2, n.f0]; exact back n.m1
  · rw [e2, e3, n.f0]; exact n.p1
  · rw [e2, e3]; exact n.p2
  · rw [e2]; exact b5
end

theorem near_first {Y sp : Int} {odd : List Int} (y0 : -2000 ≤ Y) (y1 : Y ≤ 10000) (h0 : 0 ≤ sp) (h1 : sp ≤ 2) (h16 : 16 ≤ odd.length) (hb : ∀ x ∈ odd, x = 0 ∨ x = 1) :
    Near (firstF Y (marchL Y + 19 + sp) odd) Y (marchL Y + 19 + sp) := by
  have mj := march_jan Y
  have l := lp01 Y
  obtain ⟨a, b, r, hr⟩ : ∃ a b r, odd = a :: b :: r := by
    match odd, h16 with
    | a :: b :: r, _ => exact ⟨a, b, r, rfl⟩
    | [_], h => simp at h
    | [], h => simp at h
  obtain ⟨c, d, r', hr'⟩ : ∃ c d r', odd.drop 8 = c :: d :: r' := by
    have hl : (odd.drop 8).length = odd.length - 8 := List.length_drop
    match hq : odd.drop 8 with
    | c :: d :: r => exact ⟨c, d, r, rfl⟩
    | [_] => rw [hq] at hl; simp at hl; lia
    | [] => rw [hq] at hl; simp at hl; lia
  have ha : a = 0 ∨ a = 1 := hb a (by rw [hr]; simp)
  have hb' : b = 0 ∨ b = 1 := hb b (by rw [hr]; simp)
  have hc : c = 0 ∨ c = 1 := hb c (List.mem_of_mem_drop (i := 8) (by rw [hr']; simp))
  have hd : d = 0 ∨ d = 1 := hb d (List.mem_of_mem_drop (i := 8) (by rw [hr']; simp))
  have E0 : firstF Y (marchL Y + 19 + sp) odd Y = marchL Y + 19 + sp := by
    unfold firstF
    rw [show Y - Y = 0 by lia]
    simp
  have E1 : firstF Y (marchL Y + 19 + sp) odd (Y + 1) = marchL Y + 19 + sp + 365 + a := by
    unfold firstF
    rw [show Y + 1 - Y = 1 by lia, hr]
    simp
  have E2 : firstF Y (marchL Y + 19 + sp) odd (Y + 1 + 1) = marchL Y + 19 + sp + 730 + (a + b) := by
    unfold firstF
    rw [show Y + 1 + 1 - Y = 2 by lia, hr]
    simp
  have M1 : firstF Y (marchL Y + 19 + sp) odd (Y - 1) = marchL Y + 19 + sp - 365 - c := by
    unfold firstF
    rw [show Y - 1 - Y = -1 by lia, hr']
    simp; lia
  have M2 : firstF Y (marchL Y + 19 + sp) odd (Y - 2) = marchL Y + 19 + sp - 730 - (c + d) := by
    unfold firstF
    rw [show Y - 2 - Y = -2 by lia, hr']
    simp; lia
  exact ⟨y0, y1, by lia, by lia, E0, by rw [E1]; lia, by rw [E1, E2]; lia, by rw [M1]; lia, by rw [M1, M2]; lia⟩

/-! ## part G3 -/
def WInv (len place month day : Int) : Prop := (1 ≤ month ∧ month ≤ 12) ∧ (1 ≤ day ∧ 0 ≤ place ∧ place < len) ∧ (len = 365 ∨ len = 366) ∧ (month ≤ 7 → place + 1 = (month - 1) * 31 + day) ∧ (7 < month → place + 1 = (month - 1) * 30 + 6 + day)
abbrev lensOf (L : Int) : List Int := [31, 31, 31, 31, 31, 31, 30, 30, 30, 30, 30, L - 336]
theorem lens_get {L m : Int} (h : 1 ≤ m ∧ m ≤ 12) : (lensOf L).getD (m - 1).toNat 0 = if m ≤ 6 then 31 else if m ≤ 11 then 30 else L - 336 := by
  have hm : m = 1 ∨ m = 2 ∨ m = 3 ∨ m = 4 ∨ m = 5 ∨ m = 6 ∨ m = 7 ∨ m = 8 ∨ m = 9 ∨ m = 10 ∨ m = 11 ∨ m = 12 := by lia
  rcases hm with rfl | rfl | rfl | rfl | rfl | rfl | rfl | rfl | rfl | rfl | rfl | rfl <;> rfl
theorem w_start {L p d : Int} (h0 : 0 ≤ p) (h1 : p < L) (hL : L = 365 ∨ L = 366) (hd : d = p + 1) : WInv L p 1 d := by
  unfold WInv; refine ⟨by decide, ⟨by lia, h0, h1⟩, hL, fun _ => by lia, fun h => by lia⟩
theorem w_step {L p m d : Int} (w : WInv L p m d) (h : d > (lensOf L).getD (m - 1).toNat 0) : WInv L p (m + 1) (d - (lensOf L).getD (m - 1).toNat 0) := by
  obtain ⟨a, b, c, e, f⟩ := w
  rw [lens_get a] at h ⊢
  unfold WInv
  split at h
  · rename_i h6; rw [if_pos h6]; refine ⟨by lia, by lia, c, fun _ => by lia, fun _ => by lia⟩
  · rename_i h6
    rw [if_neg h6]
    split at h
    · rename_i h7; rw [if_pos h7]; refine ⟨by lia, by lia, c, fun _ => by lia, fun _ => by lia⟩
    · exfalso; lia
theorem w_less {L p m d : Int} (w : WInv L p m d) (h : d > (lensOf L).getD (m - 1).toNat 0) : (12 - (m + 1)).toNat < (12 - m).toNat := by
  obtain ⟨a, b, c, e, f⟩ := w
  rw [lens_get a] at h
  split at h
  · lia
  · split at h <;> lia
theorem w_end {L p m d : Int} (w : WInv L p m d) (h : ¬ d > (lensOf L).getD (m - 1).toNat 0) : pM (p + 1) = m ∧ pD (p + 1) = d ∧ mOff m + d = p + 1 := by
  obtain ⟨a, b, c, e, f⟩ := w
  rw [lens_get a] at h
  have k1 : mOff m + d = p + 1 := by
    unfold mOff
    split
    · have := e (by assumption); lia
    · have := f (by lia); lia
  refine ⟨?_, ?_, k1⟩
  · unfold pM
    rw [fd 31, fd 30]
    by_cases h6 : m ≤ 6
    · rw [if_pos h6] at h
      have := e (by lia)
      rw [if_pos (by lia)]; lia
    · have h7 : d ≤ 30 := by rw [if_neg h6] at h; split at h <;> lia
      by_cases m7 : m = 7
      · subst m7
        have := e (by lia)
        rw [if_neg (by lia)]; lia
      · have := f (by lia)
        rw [if_neg (by lia)]; lia
  · by_cases h6 : m ≤ 6
    · rw [if_pos h6] at h
      have := e (by lia)
      have q : p + 1 ≤ 186 := by lia
      unfold pD pM
      rw [if_pos q, if_pos q, fd 31]; lia
    · have h7 : d ≤ 30 := by rw [if_neg h6] at h; split at h <;> lia
      have q : ¬ p + 1 ≤ 186 := by
        by_cases m7 : m = 7
        · subst m7; have := e (by lia); lia
        · have := f (by lia); lia
      unfold pD pM
      rw [if_neg q, if_neg q, fd 30]
      by_cases m7 : m = 7
      · subst m7; have := e (by lia); lia
      · have := f (by lia); lia

/-- the law's own ends -/
theorem w_month {L p m d st FY : Int} (w : WInv L p m d) (h : ¬ d > (lensOf L).getD (m - 1).toNat 0) (e : FY = st) : pM (st + p - (FY - 1)) = m ∧ pD (st + p - (FY - 1)) = d := by
  have k := w_end w h
  rw [show st + p - (FY - 1) = p + 1 by lia]
  exact ⟨k.1, k.2.1⟩
theorem w_tojd {F : Int → Int} {L p m d st Y : Int} (w : WInv L p m d) (h : ¬ d > (lensOf L).getD (m - 1).toNat 0) (e : F Y = st) : F (Y - 621 + 621) - 1 + mOff m + d = st + p := by
  have k := w_end w h
  rw [show Y - 621 + 621 = Y by lia, e]; lia
theorem item_ints {prog : Program} {w : World} {A : Around} {E : Value → Shared → Prop} {s : Shared} {value slice : PySem.Expr} {l : Addr} {vs : List Value} {ns : List Int} {k : Int} {u : Tok} {Q : Value → Shared → Prop}
    (hl : s.heap.IsList l vs.toArray) (hi : IntsAre vs ns) (h0 : 0 ≤ k) (h1 : k < ns.length) (h2 : k < 2 ^ 63) (h : ∀ t, Q (.int (ns.getD k.toNat 0) t) s)
    (hs : subscripted slice false (.ref l) (.int k u) = operate [.ref l, .int k u] (getItem (.ref l) (.int k u)) := by with_unfolding_all rfl) :
    wpAny (model prog w) A (subscriptTail value slice (.ref l) (.int k u)) Q E s := by
  have hlen := IntsAre.length hi
  obtain ⟨v, hv⟩ : ∃ v, vs[k.toNat]? = some v := ⟨vs[k.toNat]'(by lia), List.getElem?_eq_getElem (by lia)⟩
  obtain ⟨t, rfl⟩ := IntsAre.int_at hi _ _ hv
  exact tail_any hl.typeIs slot_list_getitem.lookup (wpAny_getItem_list hl h0 h2 (by simpa using hv) (h t)) hs

/-! ## part G4 -/
theorem w_leap {F : Int → Int} {Y st L : Int} (n : Near F Y st) (h : F (Y + 1) - st = L) (hL : L = 365 ∨ L = 366) : pLeap F (Y - 621) = (L == 366) := by
  unfold pLeap
  rw [show Y - 621 + 1 + 621 = Y + 1 by lia, show Y - 621 + 621 = Y by lia, n.f0]
  rcases hL with rfl | rfl
  · rw [decide_eq_false (by lia)]; rfl
  · rw [decide_eq_true (by lia)]; rfl
theorem gJd_mar {Y d : Int} : gJd Y 3 d = jan Y + 59 + lp Y + d - 1 := by
  unfold gJd jan
  rw [fd 4, fd 100, fd 400, fd 12]
  rcases lp_cases Y with ⟨h, e, _⟩ | ⟨h, e, _⟩
  · rw [e, gAdj_b (by decide) h]; lia
  · rw [e, gAdj_c (by decide) h]; lia
theorem gM_st {Y sp st : Int} (h0 : 0 ≤ sp) (h1 : sp ≤ 2) (hs : st = marchL Y + 19 + sp) : gY st = Y ∧ gM st = 3 ∧ gD st = 20 + sp := by
  have mj := march_jan Y
  have l := lp01 Y
  have s := jan_succ Y
  have gy : gY st = Y := gY_eq (by lia) (by lia)
  have gm : gM st = 3 := by
    unfold gM gAdj2
    rw [gy, fd 367]
    rw [if_neg (by lia)]
    rcases lp_cases Y with ⟨h, e, _⟩ | ⟨h, e, _⟩
    · rw [if_pos h]; lia
    · rw [h]; simp only [Bool.false_eq_true, if_false]; lia
  refine ⟨gy, gm, ?_⟩
  unfold gD
  rw [gy, gm, gJd_mar]; lia
theorem w_greg {F : Int → Int} {Y sp : Int} (n : Near F Y (marchL Y + 19 + sp)) (h0 : 0 ≤ sp) (h1 : sp ≤ 2) :
    gY (F (Y - 621 + 621) - 1 + mOff 1 + 1) = Y ∧ gM (F (Y - 621 + 621) - 1 + mOff 1 + 1) = 3 ∧ gD (F (Y - 621 + 621) - 1 + mOff 1 + 1) = 20 + sp := by
  have e : F (Y - 621 + 621) - 1 + mOff 1 + 1 = marchL Y + 19 + sp := by
    rw [show Y - 621 + 621 = Y by lia, n.f0]
    have : mOff 1 = 0 := rfl
    lia
  rw [e]; exact gM_st h0 h1 rfl
theorem gJd_st {Y sp : Int} : gJd Y 3 (20 + sp) = marchL Y + 19 + sp := by rw [gJd_mar, march_jan]; lia
theorem w_fgood {F : Int → Int} {Y sp L : Int} (n : Near F Y (marchL Y + 19 + sp)) (h : F (Y + 1) - (marchL Y + 19 + sp) = L) (hL : L = 365 ∨ L = 366) : Good F (gJd Y 3 (20 + sp)) Y := by
  rw [gJd_st]; exact n.good (by lia) (by lia)
theorem w_from {F : Int → Int} {Y sp : Int} (n : Near F Y (marchL Y + 19 + sp)) : pM (gJd Y 3 (20 + sp) - (F Y - 1)) = 1 ∧ pD (gJd Y 3 (20 + sp) - (F Y - 1)) = 1 := by
  rw [gJd_st, n.f0, show marchL Y + 19 + sp - (marchL Y + 19 + sp - 1) = 1 by lia]; exact ⟨rfl, rfl⟩
theorem w_mlens {F : Int → Int} {Y st L : Int} (n : Near F Y st) (h : F (Y + 1) - st = L) (hL : L = 365 ∨ L = 366) :
    [mLen F (Y - 621) 1, mLen F (Y - 621) 2, mLen F (Y - 621) 3, mLen F (Y - 621) 4, mLen F (Y - 621) 5, mLen F (Y - 621) 6, mLen F (Y - 621) 7, mLen F (Y - 621) 8, mLen F (Y - 621) 9, mLen F (Y - 621) 10, mLen F (Y - 621) 11, mLen F (Y - 621) 12] = lensOf L := by
  have hl := w_leap n h hL
  have e12 : mLen F (Y - 621) 12 = L - 336 := by
    unfold mLen
    rw [hl]
    rcases hL with rfl | rfl <;> rfl
  rw [e12]
  have a : ∀ mo : Int, mo ≠ 12 → mLen F (Y - 621) mo = if in30 mo = true then 30 else if in31 mo = true then 31 else 29 := by
    intro mo hm
    unfold mLen
    split
    · rfl
    · rw [if_neg (fun q => hm q.1)]
  rw [a 1 (by decide), a 2 (by decide), a 3 (by decide), a 4 (by decide), a 5 (by decide), a 6 (by decide), a 7 (by decide), a 8 (by decide), a 9 (by decide), a 10 (by decide), a 11 (by decide)]
  rfl
theorem w_mlensK {F : Int → Int} {Y st L : Int} (n : Near F Y st) (h : F (Y + 1) - st = L) (hL : L = 365 ∨ L = 366) : List.map (fun k' => mLen F (Y - 621) k') (rangeKs 1 (13 - 1 : Int).toNat) = [31, 31, 31, 31, 31, 31, 30, 30, 30, 30, 30, L - 336] := by
  have e : rangeKs 1 (13 - 1 : Int).toNat = [1, 2, 3, 4, 5, 6, 7, 8, 9, 10, 11, 12] := by decide
  rw [e]; exact w_mlens n h hL

/-! ## part W5 -/
theorem fmod_b {a n : Int} (hn : 0 < n) : 0 ≤ Int.fmod a n ∧ Int.fmod a n < n := by
  rw [Int.fmod_eq_emod_of_nonneg _ (by lia)]; exact ⟨Int.emod_nonneg _ (by lia), Int.emod_lt_of_pos _ hn⟩
theorem year_b {a Y : Int} (h : Int.fmod a 12001 - 2000 = Y) : -2000 ≤ Y ∧ Y ≤ 10000 := by have := fmod_b (a := a) (n := 12001) (by decide); lia
theorem spare_b {a sp : Int} (h : Int.fmod a 3 = sp) : 0 ≤ sp ∧ sp ≤ 2 := by have := fmod_b (a := a) (n := 3) (by decide); lia
theorem odd_bits (l : List Int) : ∀ x ∈ l.map (fun k => Int.fmod k 2) ++ [0, 0, 0, 1, 0, 0, 0, 1, 0, 0, 0, 1, 0, 0, 0, 1], x = 0 ∨ x = 1 := by
  intro x hx
  rcases List.mem_append.mp hx with h | h
  · obtain ⟨k, _, rfl⟩ := List.mem_map.mp h
    have := fmod_b (a := k) (n := 2) (by decide); lia
  · simp only [List.mem_cons, List.not_mem_nil, or_false] at h; lia
theorem odd_len (l : List Int) (n : Nat) : 16 ≤ ((l.take (min 19 n - 3)).map (fun k => Int.fmod k 2) ++ [0, 0, 0, 1, 0, 0, 0, 1, 0, 0, 0, 1, 0, 0, 0, 1]).length ∧ ((l.take (min 19 n - 3)).map (fun k => Int.fmod k 2) ++ [0, 0, 0, 1, 0, 0, 0, 1, 0, 0, 0, 1, 0, 0, 0, 1]).length ≤ 100 := by
  simp only [List.length_append, List.length_map, List.length_take, List.length_cons, List.length_nil]; lia

theorem place_b {a n P : Int} (h : Int.fmod a n = P) (hn : 0 < n) : 0 ≤ P ∧ P < n := by have := fmod_b (a := a) hn; lia
theorem w_h0 {L p m d : Int} (w : WInv L p m d) : 0 ≤ m - 1 := by obtain ⟨a, _⟩ := w; lia
theorem w_h1 {L p m d x : Int} (w : WInv L p m d) : m - 1 < (([31, 31, 31, 31, 31, 31, 30, 30, 30, 30, 30, x] : List Int).length : Int) := by obtain ⟨a, _⟩ := w; show m - 1 < 12; lia
theorem w_h2 {L p m d : Int} (w : WInv L p m d) : m - 1 < 2 ^ 63 := by obtain ⟨a, _⟩ := w; lia
theorem w_good {F : Int → Int} {L p m d Y st : Int} (w : WInv L p m d) (n : Near F Y st) (h : F (Y + 1) - st = L) : Good F (st + p) Y := by
  obtain ⟨_, ⟨_, h0, h1⟩, _⟩ := w
  exact n.good (by lia) (by lia)
theorem mod_pos {prog : Program} {w : World} {A : Around} {E : Value → Shared → Prop} {s : Shared} {a b : Int} {t u : Tok} {Q : Value → Shared → Prop} (hb : b = 365 ∨ b = 366)
    (h : ∀ P : Int, 0 ≤ P → P < b → Q (.int P s.toks) { s with toks := s.toks + 1 }) : wpAny (model prog w) A (binaryOp .Mod (.int a t) (.int b u)) Q E s :=
  mod_int (by lia) (h _ (fmod_b (by lia)).1 (fmod_b (by lia)).2)
theorem first_use {w : World} {p : Program} {loose : List Str} {mean : ExcName → Option Value} {mg mb : Str → Option Value} {news : List (Addr × Obj)} {A : Around} {Q E : Value → Shared → Prop} {s : Shared} {h₀ : Heap} {L : Addr} {m : Str → Option Value}
    {f c' lo cO cS cY : Addr} {oc oO oS oY : Obj} {vs : Array Value} {qual : Str} {t tS tY to : Tok} {doc pm ctv : Value} {ws : List Value} {odd : List Int} {n : Nat} {sp year o : Int}
    (T : Top p loose mean mg mb h₀) (_F : Fr h₀ L s.heap m) (_N : News h₀ L s.heap news)
    (hf : (f, fnMade "first" qual (argsOf firstStmt) (bodyOf firstStmt) (scopeOf firstStmt) [("year", cY), ("start", cS), ("odd", cO)] doc pm c' ctv) ∈ news)
    (hc : (c', oc) ∈ news) (d1 : oc.data = .fields vs) (d2 : vs[1]? = some (.str qual t))
    (hO : (cO, oO) ∈ news) (dO : oO.data = .cell (some (.ref lo))) (hS : (cS, oS) ∈ news) (dS : oS.data = .cell (some (.int (marchL year + 19 + sp) tS))) (hY : (cY, oY) ∈ news) (dY : oY.data = .cell (some (.int year tY)))
    (hl : (lo, W.listOf ws.toArray n) ∈ news) (hI : IntsAre ws odd) (h16 : 16 ≤ odd.length ∧ odd.length ≤ 100) (hb : ∀ x ∈ odd, x = 0 ∨ x = 1)
    (hy0 : -2000 ≤ year) (hy1 : year ≤ 10000) (hs0 : 0 ≤ sp) (hs1 : sp ≤ 2)
    (h : ∀ F, FirstOK w p loose mean mg mb f news F → Near F year (marchL year + 19 + sp) → ToOK F (year - 621) → ToOK F (year - 621 + 1) → (F (year + 1) = marchL year + 19 + sp + 365 ∨ F (year + 1) = marchL year + 19 + sp + 366) →
      wpAny (model PySem.Challenge.rw_jb0007_01.row.prog w) A (call (.ref f) [.int o to]) Q E s) :
    wpAny (model PySem.Challenge.rw_jb0007_01.row.prog w) A (call (.ref f) [.int o to]) Q E s := by
  have nr := near_first (odd := odd) hy0 hy1 hs0 hs1 h16.1 hb
  exact h _ (first_ok hf hc d1 d2 hO dO hS dS hY dY hl hI h16.1 h16.2) nr nr.to0 nr.to1 nr.p1

local macro_rules | `(tactic| walk_at "call ref") => `(tactic| (k_here; (with_reducible show wpAny _ _ (call (Value.ref _) [Value.int _ _]) _ _ _); (fail_if_success (rename FirstOK _ _ _ _ _ _ _ _ _ => hq8)); k_dflt (refine' first_use ?T ?F ?N ?hf ?hc ?d1 ?d2 ?hO ?dO ?hS ?dS ?hY ?dY ?hl ?hI ?h16 ?hb ?y0 ?y1 ?s0 ?s1 ?_; (case T => k_asm); (case F => k_asm); (case N => k_asm); (case hf => k_mem); (case hc => k_mem); (case d1 => assumption); (case d2 => assumption); (case hO => k_mem); (case dO => assumption); (case hS => k_mem); (case dS => assumption); (case hY => k_mem); (case dY => assumption); (case hl => k_mem); (case hI => assumption); (case h16 => exact odd_len _ _); (case hb => exact odd_bits _); (case y0 => assumption); (case y1 => assumption); (case s0 => assumption); (case s1 => assumption)); intro F8 hF8 hN8 hT0 hT1 hp1))
local macro_rules | `(tactic| walk_at "call ref") => `(tactic| (k_here; (with_reducible show wpAny _ _ (call (Value.ref 108) [Value.int _ _]) _ _ _); k_dflt (refine' cl_use _ ?k1 ?k2 ?k3 ?k4 ?k5 march_c ?kK ?kd ?ku ?_; walk_at "use!"); intro t9 h9 tk9 F9 N9; (try dsimp only); (try k_fold)))
local macro_rules | `(tactic| walk_at "storeName int") => `(tactic| (k_here; (with_reducible show wpAny _ _ (storeName _ (PySem.Str.ofString "year") (Value.int (Int.fmod _ 12001 - 2000) _)) _ _ _); generalize hY8 : Int.fmod _ 12001 - 2000 = Y8; have hB8 := year_b hY8; obtain ⟨hB0, hB1⟩ := hB8; clear hY8))
local macro_rules | `(tactic| walk_at "storeName int") => `(tactic| (k_here; (with_reducible show wpAny _ _ (storeName _ (PySem.Str.ofString "spare") (Value.int (Int.fmod _ 3) _)) _ _ _); generalize hY8 : Int.fmod _ 3 = sp8; have hB8 := spare_b hY8; obtain ⟨hB0, hB1⟩ := hB8; clear hY8))
local macro_rules | `(tactic| walk_at "storeName int") => `(tactic| (k_here; (with_reducible show wpAny _ _ (storeName _ (PySem.Str.ofString "length") (Value.int (_ - _) _)) _ _ _); generalize hL8 : (_ : Int) - _ = L8; have hL9 : L8 = 365 ∨ L8 = 366 := by omega))
local macro_rules | `(tactic| walk_at "binaryOp Mod int int") => `(tactic| (k_here; k_dflt (refine' mod_pos ?hb ?_; (case hb => assumption)); intro P8 hB0 hB1; (try dsimp only)))

theorem pfromjd2_c {w : World} {p : Program} {loose : List Str} {mean : ExcName → Option Value} {mg mb : Str → Option Value} {news : List (Addr × Obj)} {f : Addr} {F : Int → Int} (hF : FirstOK w p loose mean mg mb f news F)
    {jd k M D : Int} {tj : Tok} (g : Good F jd k) (e : pM (jd - (F k - 1)) = M ∧ pD (jd - (F k - 1)) = D) :
    Clm PySem.Challenge.rw_jb0007_01.row.prog w (hd.heap_39 w.params) p loose mean mg mb (.ref 80) 6 news [.int jd tj, .ref f] (RetT3 news (k - 621) M D) := by
  obtain ⟨rfl, rfl⟩ := e; exact pfromjd_c hF g
theorem ptojd2_c {w : World} {p : Program} {loose : List Str} {mean : ExcName → Option Value} {mg mb : Str → Option Value} {news : List (Addr × Obj)} {f : Addr} {F : Int → Int} (hF : FirstOK w p loose mean mg mb f news F)
    {y mo d V : Int} {ty tm td : Tok} (g : ToOK F y) (e : F (y + 621) - 1 + mOff mo + d = V) :
    Clm PySem.Challenge.rw_jb0007_01.row.prog w (hd.heap_39 w.params) p loose mean mg mb (.ref 73) 7 news [.int y ty, .int mo tm, .int d td, .ref f] (RetV news fun t => .int V t) := by
  subst e; exact ptojd_c hF g
local macro_rules | `(tactic| walk_at "exec While Compare cons nil") => `(tactic| (k_here; k_while_given ["place", "length"] (fun place len script month day => WInv len place month day) (fun place len script month day => (12 - month).toNat) "month" "day"))
local macro_rules | `(tactic| walk_at "subscriptTail Name BinOp ref int") => `(tactic| (k_here; (with_reducible show wpAny _ _ (subscriptTail _ _ (Value.ref _) (Value.int (_ - 1) _)) _ _ _); k_dflt (refine' item_ints ?hl ?hi ?h0 ?h1 ?h2 ?_; (case hl => exact News.isList (by k_asm) (by k_mem)); (case hi => l_intsW); (case h0 => exact w_h0 (by assumption)); (case h1 => exact w_h1 (by assumption)); (case h2 => exact w_h2 (by assumption))); intro t9; (try dsimp only)))
local macro_rules | `(tactic| walk_at "call ref") => `(tactic| (k_here; (with_reducible show wpAny _ _ (call (Value.ref 80) [Value.int _ _, Value.ref _]) _ _ _); k_dflt (refine' cl_use _ ?k1 ?k2 ?k3 ?k4 ?k5 (pfromjd2_c (FirstOK.more ?hF ?sub) ?g ?e) ?kK ?kd ?ku ?_; (case hF => assumption); (case g => exact w_good (by assumption) (by assumption) (by assumption)); (case e => exact w_month (by assumption) (by assumption) (Near.f0 (by assumption))); walk_at "use!"; (case sub => kcj_all)); intro x9 t9 u9 v9 n9 h9 tk9 F9 N9 l9; (try dsimp only); (try k_fold)))
local macro_rules | `(tactic| walk_at "call ref") => `(tactic| (k_here; (with_reducible show wpAny _ _ (call (Value.ref 73) [Value.int _ _, Value.int _ _, Value.int _ _, Value.ref _]) _ _ _); k_dflt (refine' cl_use _ ?k1 ?k2 ?k3 ?k4 ?k5 (ptojd2_c (FirstOK.more ?hF ?sub) ?g ?e) ?kK ?kd ?ku ?_; (case hF => assumption); (case g => assumption); (case e => exact w_tojd (by assumption) (by assumption) (Near.f0 (by assumption))); walk_at "use!"; (case sub => kcj_all)); intro t9 h9 tk9 F9 N9; (try dsimp only); (try k_fold)))
theorem pleap2_c {w : World} {p : Program} {loose : List Str} {mean : ExcName → Option Value} {mg mb : Str → Option Value} {news : List (Addr × Obj)} {f : Addr} {F : Int → Int} (hF : FirstOK w p loose mean mg mb f news F)
    {y : Int} {ty : Tok} {B : Bool} (g0 : ToOK F y) (g1 : ToOK F (y + 1)) (e : pLeap F y = B) :
    Clm PySem.Challenge.rw_jb0007_01.row.prog w (hd.heap_39 w.params) p loose mean mg mb (.ref 52) 8 news [.int y ty, .ref f] (RetV news fun _ => .bool B) := by
  subst e; exact pleap_c hF g0 g1
theorem ptogreg2_c {w : World} {p : Program} {loose : List Str} {mean : ExcName → Option Value} {mg mb : Str → Option Value} {news : List (Addr × Obj)} {f : Addr} {F : Int → Int} (hF : FirstOK w p loose mean mg mb f news F)
    {y mo d a b c : Int} {ty tm td : Tok} (g : ToOK F y) (e : gY (F (y + 621) - 1 + mOff mo + d) = a ∧ gM (F (y + 621) - 1 + mOff mo + d) = b ∧ gD (F (y + 621) - 1 + mOff mo + d) = c) :
    Clm PySem.Challenge.rw_jb0007_01.row.prog w (hd.heap_39 w.params) p loose mean mg mb (.ref 94) 8 news [.int y ty, .int mo tm, .int d td, .ref f] (RetT3 news a b c) := by
  obtain ⟨rfl, rfl, rfl⟩ := e; exact ptogreg_c hF g
theorem pfromgreg2_c {w : World} {p : Program} {loose : List Str} {mean : ExcName → Option Value} {mg mb : Str → Option Value} {news : List (Addr × Obj)} {f : Addr} {F : Int → Int} (hF : FirstOK w p loose mean mg mb f news F)
    {y mo d k a b : Int} {ty tm td : Tok} (h : (1 ≤ mo ∧ mo ≤ 12) ∧ 1 ≤ d ∧ d ≤ 28) (g : Good F (gJd y mo d) k) (e : pM (gJd y mo d - (F k - 1)) = a ∧ pD (gJd y mo d - (F k - 1)) = b) :
    Clm PySem.Challenge.rw_jb0007_01.row.prog w (hd.heap_39 w.params) p loose mean mg mb (.ref 87) 7 news [.int y ty, .int mo tm, .int d td, .ref f] (RetT3 news (k - 621) a b) := by
  obtain ⟨rfl, rfl⟩ := e; exact pfromgreg_c hF h.1.1 h.1.2 h.2.1 h.2.2 g
theorem sp_d {sp : Int} (h0 : 0 ≤ sp) (h1 : sp ≤ 2) : (1 ≤ (3 : Int) ∧ (3 : Int) ≤ 12) ∧ 1 ≤ 20 + sp ∧ 20 + sp ≤ 28 := by omega
local macro_rules | `(tactic| walk_at "call ref") => `(tactic| (k_here; (with_reducible show wpAny _ _ (call (Value.ref 52) [Value.int _ _, Value.ref _]) _ _ _); k_dflt (refine' cl_use _ ?k1 ?k2 ?k3 ?k4 ?k5 (pleap2_c (FirstOK.more ?hF ?sub) ?g ?g' ?e) ?kK ?kd ?ku ?_; (case hF => assumption); (case g => assumption); (case g' => assumption); (case e => exact w_leap (by assumption) (by assumption) (by assumption)); walk_at "use!"; (case sub => kcj_all)); intro t9 h9 tk9 F9 N9; (try dsimp only); (try k_fold)))
local macro_rules | `(tactic| walk_at "call ref") => `(tactic| (k_here; (with_reducible show wpAny _ _ (call (Value.ref 101) [Value.int _ _, Value.int _ _, Value.ref _]) _ _ _); k_dflt (refine' cl_use _ ?k1 ?k2 ?k3 ?k4 ?k5 (pmlen_c (FirstOK.more ?hF ?sub) ?g ?g') ?kK ?kd ?ku ?_; (case hF => assumption); (case g => assumption); (case g' => assumption); walk_at "use!"; (case sub => kcj_all)); intro t9 h9 tk9 F9 N9; (try dsimp only); (try k_fold)))
local macro_rules | `(tactic| walk_at "call ref") => `(tactic| (k_here; (with_reducible show wpAny _ _ (call (Value.ref 94) [Value.int _ _, Value.int _ _, Value.int _ _, Value.ref _]) _ _ _); k_dflt (refine' cl_use _ ?k1 ?k2 ?k3 ?k4 ?k5 (ptogreg2_c (FirstOK.more ?hF ?sub) ?g ?e) ?kK ?kd ?ku ?_; (case hF => assumption); (case g => assumption); (case e => exact w_greg (by assumption) (by assumption) (by assumption)); walk_at "use!"; (case sub => kcj_all)); intro x9 t9 u9 v9 n9 h9 tk9 F9 N9 l9; (try dsimp only); (try k_fold)))
local macro_rules | `(tactic| walk_at "call ref") => `(tactic| (k_here; (with_reducible show wpAny _ _ (call (Value.ref 87) [Value.int _ _, Value.int _ _, Value.int _ _, Value.ref _]) _ _ _); k_dflt (refine' cl_use _ ?k1 ?k2 ?k3 ?k4 ?k5 (pfromgreg2_c (FirstOK.more ?hF ?sub) ?h ?g ?e) ?kK ?kd ?ku ?_; (case hF => assumption); (case h => exact sp_d (by assumption) (by assumption)); (case g => exact w_fgood (by assumption) (by assumption) (by assumption)); (case e => exact w_from (by assumption)); walk_at "use!"; (case sub => kcj_all)); intro x9 t9 u9 v9 n9 h9 tk9 F9 N9 l9; (try dsimp only); (try k_fold)))
theorem ne_intsK2 {prog : Program} {w : World} {A : Around} {E : Value → Shared → Prop} {s : Shared} {a b : Addr} {vs us : List Value} {ns ms : List Int} {Q : Value → Shared → Prop} (hl : s.heap.IsList a vs.toArray) (hi : IntsAre vs ns) (hl' : s.heap.IsList b us.toArray) (hi' : IntsAre us ms) (hu : A.units + 64 < cLine)
    (e : ns = ms) (h : Q (.bool false) s) : wpAny (model prog w) A (compareOp .NotEq (.ref a) (.ref b)) Q E s :=
  ne_intsK hl hi hl' hi' hu (by rw [decide_eq_true e]; exact h)
theorem ne_same {prog : Program} {w : World} {A : Around} {E : Value → Shared → Prop} {s : Shared} {a : Int} {t u : Tok} {Q : Value → Shared → Prop} (h : Q (.bool false) s) : wpAny (model prog w) A (compareOp .NotEq (.int a t) (.int a u)) Q E s :=
  ne_int (by rw [show (a != a) = false by simp]; exact h)
theorem ne_sameB {prog : Program} {w : World} {A : Around} {E : Value → Shared → Prop} {s : Shared} {a : Bool} {Q : Value → Shared → Prop} (h : Q (.bool false) s) : wpAny (model prog w) A (compareOp .NotEq (.bool a) (.bool a)) Q E s :=
  ne_bool (by rw [show (a != a) = false by simp]; exact h)
local macro_rules | `(tactic| walk_at "compareOp NotEq bool bool") => `(tactic| (k_here; k_dflt (refine' ne_sameB ?_)))
local macro_rules | `(tactic| walk_at "compareOp NotEq int int") => `(tactic| (k_here; k_dflt (refine' ne_same ?_)))
local macro_rules | `(tactic| walk_at "compareOp NotEq ref ref") => `(tactic| (k_here; (with_reducible show wpAny _ _ (compareOp CmpOp.NotEq (Value.ref _) (Value.ref _)) _ _ _); k_dflt (refine' ne_intsK2 ?k1 ?k2 ?k3 ?k4 ?k5 ?e ?_; (case k1 => exact News.isList (by k_asm) (by k_mem)); (case k2 => assumption); (case k3 => exact News.isList (by k_asm) (by k_mem)); (case k4 => l_intsW); (case k5 => units_room); (case e => exact w_mlensK (by assumption) (by assumption) (by assumption)))))
local macro_rules | `(tactic| walk_at "callWith ref") => `(tactic| (k_here; (first | (with_reducible show wpAny _ _ (callWith _ (Value.ref 52) _ _ _) _ _ _) | (with_reducible show wpAny _ _ (callWith _ (Value.ref 73) _ _ _) _ _ _) | (with_reducible show wpAny _ _ (callWith _ (Value.ref 80) _ _ _) _ _ _) | (with_reducible show wpAny _ _ (callWith _ (Value.ref 87) _ _ _) _ _ _) | (with_reducible show wpAny _ _ (callWith _ (Value.ref 94) _ _ _) _ _ _) | (with_reducible show wpAny _ _ (callWith _ (Value.ref 101) _ _ _) _ _ _) | (with_reducible show wpAny _ _ (callWith _ (Value.ref 108) _ _ _) _ _ _)); k_dflt (refine' callWith_K ?k1 ?k2 ?_; (case k1 => k_asm); (case k2 => k_is); k_whole)))
theorem w1 : PySem.Challenge.rw_jb0007_01.Holds := hd (by
  k_with "state" => first | exact w_step (by assumption) (by assumption) | exact w_start (by omega) (by omega) (by assumption) (by omega)
  k_with "measure" => exact w_less (by assumption) (by assumption)
  k_go0
  (all_goals try k_fold)
  k_steps
  done)
end Mine

theorem PySem.Challenge.cw_jb0007_01_holds : PySem.Challenge.rw_jb0007_01.Holds := by
  exact Mine.w1
