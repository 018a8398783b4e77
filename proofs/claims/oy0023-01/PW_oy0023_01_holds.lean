import PyProof.Rows.All
import Wide.All
import OpenK.AllK
import Wide.FinOn
import PySem.Challenge.RW_oy0023_01
set_option Elab.async false

section
open PySem PySem.W PyProof.Rows
set_option maxRecDepth 100000
set_option maxHeartbeats 8000000
namespace Mine
open_top hd for PySem.Challenge.rw_oy0023_01
end Mine
end

section
open PySem PySem.W PyProof.Rows PySem.Calls PySem.Spec
set_option maxRecDepth 100000
namespace Mine
/-- what a call of the def at f does, from any caller's frame and any ledger -/
def Con (prog : Program) (w : World) (p : Program) (loose : List Str) (mean : ExcName → Option Value) (mg mb : Str → Option Value) (f D U : Nat) (args : List Value) (news : List (Addr × Obj)) (Post : List (Addr × Obj) → Value → Prop) : Prop :=
  ∀ (dp un : Nat) (gd : Option (List Code)) (cn : Str) (cs : Scope) (a : Addr) (ccd : Value) (cl : List (Str × Addr)) (outer : List Env) (A₀ : Around) (base h₀ : Heap) (L : Addr) (m : Str → Option Value) (s : Shared) (Q E : Value → Shared → Prop),
    Below A₀ base outer h₀ → Fr h₀ L s.heap m → (Mine.hd.heap_39 w.params).In h₀ → News h₀ L s.heap news → Top p loose mean mg mb h₀ → cs.kind = .function →
    dp + D < recursionLimit → un + U < cLine →
    (∀ v h' tk' news', Fr h₀ L h' m → News h₀ L h' news' → Post news' v → Q v { s with heap := h', toks := tk' }) →
    wpAny (model prog w) (ktrTop dp un gd cn cs L a ccd cl outer) (call (.ref f) args) Q E s
theorem con_use {prog : Program} {w : World} {p : Program} {loose : List Str} {mean : ExcName → Option Value} {mg mb : Str → Option Value} {f D U : Nat} {args : List Value} {news : List (Addr × Obj)} {Post : List (Addr × Obj) → Value → Prop}
    {dp un : Nat} {gd : Option (List Code)} {cn : Str} {cs : Scope} {a : Addr} {ccd : Value} {cl : List (Str × Addr)} {outer : List Env} {A₀ : Around} {base h₀ : Heap} {L : Addr} {m : Str → Option Value} {s : Shared} {Q E : Value → Shared → Prop}
    (C : Con prog w p loose mean mg mb f D U args news Post) (B : Below A₀ base outer h₀) (F : Fr h₀ L s.heap m) (X : (Mine.hd.heap_39 w.params).In h₀) (N : News h₀ L s.heap news) (T : Top p loose mean mg mb h₀) (hk : cs.kind = .function)
    (hd : dp + D < recursionLimit) (hu : un + U < cLine)
    (ret : ∀ v h' tk' news', Fr h₀ L h' m → News h₀ L h' news' → Post news' v → Q v { s with heap := h', toks := tk' }) :
    wpAny (model prog w) (ktrTop dp un gd cn cs L a ccd cl outer) (call (.ref f) args) Q E s := C _ _ _ _ _ _ _ _ _ _ _ _ _ _ _ _ _ B F X N T hk hd hu ret
theorem eq_ints {vs : List Value} {xs ys : List Int} (h : IntsAre vs xs) (e : xs = ys) : IntsAre vs ys := e ▸ h
theorem news_sub {h₀ : Heap} {L : Addr} {h : Heap} {l l' : List (Addr × Obj)} (N : News h₀ L h l) (hs : ∀ p ∈ l', p ∈ l) : News h₀ L h l' := fun p hp => N p (hs p hp)
end Mine
end

section
open PySem PySem.W PyProof.Rows PySem.Calls PySem.Spec
set_option maxRecDepth 100000
set_option maxHeartbeats 8000000
namespace Mine
local macro_rules | `(tactic| k_all) => `(tactic| assumption)

theorem shr1 {prog : Program} {w : World} {A : Around} {E : Value → Shared → Prop} {s : Shared} {a : Int} {t u : Tok} {Q : Value → Shared → Prop} (h : ∀ t' k, Q (.int (a / 2) t') { s with toks := k }) :
    wpAny (model prog w) A (binaryOp .RShift (.int a t) (.int 1 u)) Q E s := by
  refine rshift_int (by decide) ?_
  have e : a.fdiv (2 ^ Int.toNat 1) = a / 2 := by
    rw [Int.fdiv_eq_ediv_of_nonneg _ (by decide)]; rfl
  rw [e]
  exact h _ _
local macro_rules | `(tactic| walk_at "binaryOp RShift int int") => `(tactic| (refine shr1 ?_; intro _ _))

def sdF (x : Int) (xs : List Int) (pos : Nat) : List Int :=
  if _h : 0 < pos then
    if x < xs.getD ((pos - 1) / 2) 0 then sdF x (xs.set pos (xs.getD ((pos - 1) / 2) 0)) ((pos - 1) / 2) else xs.set pos x
  else xs.set pos x
termination_by pos
decreasing_by omega

theorem sdF_0 {x : Int} {xs : List Int} {q : Int} (h : ¬ 0 < q) : sdF x xs q.toNat = xs.set q.toNat x := by
  rw [sdF, dif_neg (by omega)]
theorem sd_i {q : Int} (h : 0 < q) : ((q - 1) / 2).toNat = (q.toNat - 1) / 2 := by omega
theorem sdF_1 {x : Int} {xs : List Int} {q : Int} (h : 0 < q) (h1 : ¬ x < xs.getD ((q - 1) / 2).toNat 0) : sdF x xs q.toNat = xs.set q.toNat x := by
  rw [sd_i h] at h1
  rw [sdF, dif_pos (by omega), if_neg h1]
theorem sdF_2 {x : Int} {xs : List Int} {q : Int} (h : 0 < q) (h1 : x < xs.getD ((q - 1) / 2).toNat 0) : sdF x (xs.set q.toNat (xs.getD ((q - 1) / 2).toNat 0)) ((q - 1) / 2).toNat = sdF x xs q.toNat := by
  rw [sd_i h] at h1 ⊢
  rw [sdF.eq_def x xs q.toNat, dif_pos (by omega), if_pos h1]

set_option pp.deepTerms false
set_option pp.maxSteps 3000
theorem sd_spec {prog : Program} {w : World} {p : Program} {loose : List Str} {mean : ExcName → Option Value} {mg mb : Str → Option Value}
    (l : Addr) (vs : List Value) (xs : List Int) (nn : Nat) (news : List (Addr × Obj)) (pos : Int) (t1 t2 : Tok) (hi : IntsAre vs xs) (hlen : xs.length < 2 ^ 20) (h0 : 0 ≤ pos) (h1 : pos < xs.length) (hne : ∀ q ∈ news, q.1 ≠ l) :
    Con prog w p loose mean mg mb 79 1 8 [.ref l, .int 0 t1, .int pos t2] ((l, listOf vs.toArray nn) :: news) (fun news' v => v = .none ∧ ∃ vs' nn', news' = (l, listOf vs'.toArray nn') :: news ∧ IntsAre vs' (sdF (xs.getD pos.toNat 0) xs pos.toNat)) := by
  w_top off
  k_with_none
  intro dp un gd cn cs a ccd cl outer A₀ base h₀ L m s Q E hB hF hK hN hT hcs hdp hun hret
  refine wpAny_call ?_
  k_dflt cell_enter
  k_with "exec While Compare cons nil" => k_while (fun _ hp q => 0 ≤ q ∧ q < (xs.length : Int) ∧ hp.length = xs.length ∧ sdF (xs.getD pos.toNat 0) hp q.toNat = sdF (xs.getD pos.toNat 0) xs pos.toNat) (fun _ _ q => q.toNat) "heap" "pos"
  k_with "state" => (refine ⟨by omega, by omega, by simpa using by assumption, ?_⟩; exact (sdF_2 (by omega) (by assumption)).trans (by assumption))
  k_steps
  all_goals k_with_none
  all_goals (refine hret _ _ _ _ (by k_asm) (by k_asm) ⟨rfl, _, _, rfl, ?_⟩)
  all_goals (refine eq_ints (by assumption) (.trans ?_ (by assumption)))
  · exact (sdF_1 (by assumption) (by assumption)).symm
  · exact (sdF_0 (by assumption)).symm
end Mine
end

section
open PySem PySem.W PyProof.Rows PySem.Calls PySem.Spec
set_option maxRecDepth 100000
set_option maxHeartbeats 8000000
namespace Mine
local macro_rules | `(tactic| k_all) => `(tactic| assumption)
local macro_rules | `(tactic| ktr_unf) => `(tactic| ((case B => k_asm); (case F => k_asm); (case X => k_asm); (case N => k_asm); (case T => k_asm); (case k => exact rfl); (case d => ktr_room); (case u => ktr_units)))
def pushF (xs : List Int) (x : Int) : List Int := sdF x (xs ++ [x]) xs.length
set_option pp.deepTerms false
set_option pp.maxSteps 3000
theorem push_spec {prog : Program} {w : World} {p : Program} {loose : List Str} {mean : ExcName → Option Value} {mg mb : Str → Option Value}
    (l : Addr) (vs : List Value) (xs : List Int) (nn : Nat) (news : List (Addr × Obj)) (x : Int) (t1 : Tok) (hi : IntsAre vs xs) (hlen : xs.length < 2 ^ 19) (hne : ∀ q ∈ news, q.1 ≠ l) :
    Con prog w p loose mean mg mb 65 2 16 [.ref l, .int x t1] ((l, listOf vs.toArray nn) :: news) (fun news' v => v = .none ∧ ∃ vs' nn', news' = (l, listOf vs'.toArray nn') :: news ∧ IntsAre vs' (pushF xs x)) := by
  w_top off
  k_with_none
  intro dp un gd cn cs a ccd cl outer A₀ base h₀ L m s Q E hB hF hK hN hT hcs hdp hun hret
  have hvl : vs.length = xs.length := hi.length
  refine wpAny_call ?_
  k_dflt cell_enter
  k_steps
  refine' con_use (sd_spec l _ (xs ++ [x]) _ news _ _ _ ?i ?n ?h0 ?h1 hne) ?B ?F ?X ?N ?T ?k ?d ?u ?_
  ktr_unf
  case i => exact hi.append (.cons _ _ .nil)
  case n => simp; omega
  case h0 => omega
  case h1 => simp; omega
  rintro v h' tk' news' F' N' ⟨rfl, vs', nn', rfl, hi'⟩
  (try dsimp only)
  k_steps
  refine hret _ _ _ _ (by k_asm) (by k_asm) ⟨rfl, _, _, rfl, ?_⟩
  refine eq_ints hi' ?_
  have e : ((↑(xs.length + 1) : Int) - 1).toNat = xs.length := by omega
  rw [e]
  simp [pushF]
end Mine
end

section
open PySem PySem.W PyProof.Rows PySem.Calls PySem.Spec
set_option maxRecDepth 100000
set_option maxHeartbeats 1000000
namespace Mine
local macro_rules | `(tactic| k_all) => `(tactic| assumption)
local macro_rules | `(tactic| ktr_unf) => `(tactic| ((case B => k_asm); (case F => k_asm); (case X => k_asm); (case N => k_asm); (case T => k_asm); (case k => exact rfl); (case d => ktr_room); (case u => ktr_units)))
def suC (xs : List Int) (pos : Nat) : Nat := if 2 * pos + 2 < xs.length ∧ ¬ xs.getD (2 * pos + 1) 0 < xs.getD (2 * pos + 2) 0 then 2 * pos + 2 else 2 * pos + 1
theorem suC_gt (xs : List Int) (pos : Nat) : pos < suC xs pos := by unfold suC; split <;> omega
theorem suC_lt {xs : List Int} {pos : Nat} (h : 2 * pos + 1 < xs.length) : suC xs pos < xs.length := by unfold suC; split <;> omega
def suF (xs : List Int) (pos : Nat) : List Int × Nat :=
  if _h : 2 * pos + 1 < xs.length then suF (xs.set pos (xs.getD (suC xs pos) 0)) (suC xs pos) else (xs, pos)
termination_by xs.length - pos
decreasing_by
  have := suC_gt xs pos
  have := suC_lt _h
  simp only [List.length_set]
  omega
theorem suF_0 {xs : List Int} {q c : Int} {n : Nat} (hl : xs.length = n) (hc : c = 2 * q + 1) (h : ¬ c < (n : Int)) (hq : 0 ≤ q) : suF xs q.toNat = (xs, q.toNat) := by
  subst hl
  rw [suF, dif_neg (by omega)]
theorem suF_A {xs : List Int} {q c : Int} {n : Nat} (hl : xs.length = n) (hc : c = 2 * q + 1) (h : c < (n : Int)) (hq : 0 ≤ q) (h1 : ¬ (c + 1 < (n : Int) ∧ ¬ xs.getD c.toNat 0 < xs.getD (c + 1).toNat 0)) :
    suF (xs.set q.toNat (xs.getD c.toNat 0)) c.toNat = suF xs q.toNat := by
  subst hl hc
  have i1 : (2 * q + 1).toNat = 2 * q.toNat + 1 := by omega
  have i2 : (2 * q + 1 + 1).toNat = 2 * q.toNat + 2 := by omega
  rw [i1, i2] at h1
  have e2 : (2 * q + 1).toNat = suC xs q.toNat := by unfold suC; rw [if_neg (fun hh => h1 ⟨by omega, hh.2⟩)]; omega
  rw [e2, suF.eq_def xs q.toNat, dif_pos (by omega)]
theorem suF_B {xs : List Int} {q c : Int} {n : Nat} (hl : xs.length = n) (hc : c = 2 * q + 1) (h : c + 1 < (n : Int)) (hq : 0 ≤ q) (h1 : ¬ xs.getD c.toNat 0 < xs.getD (c + 1).toNat 0) :
    suF (xs.set q.toNat (xs.getD (c + 1).toNat 0)) (c + 1).toNat = suF xs q.toNat := by
  subst hl hc
  have i1 : (2 * q + 1).toNat = 2 * q.toNat + 1 := by omega
  have i2 : (2 * q + 1 + 1).toNat = 2 * q.toNat + 2 := by omega
  rw [i1, i2] at h1
  have e2 : (2 * q + 1 + 1).toNat = suC xs q.toNat := by unfold suC; rw [if_pos ⟨by omega, h1⟩]; omega
  rw [e2, suF.eq_def xs q.toNat, dif_pos (by omega)]
theorem suF_len (xs : List Int) (pos : Nat) : (suF xs pos).1.length = xs.length := by
  induction xs, pos using suF.induct with
  | case1 xs pos h ih => rw [suF, dif_pos h, ih, List.length_set]
  | case2 xs pos h => rw [suF, dif_neg h]
theorem suF_lt (xs : List Int) (pos : Nat) (h0 : pos < xs.length) : (suF xs pos).2 < xs.length := by
  induction xs, pos using suF.induct with
  | case1 xs pos h ih =>
    rw [suF, dif_pos h]
    have := ih (by rw [List.length_set]; exact suC_lt h)
    rwa [List.length_set] at this
  | case2 xs pos h => rw [suF, dif_neg h]; exact h0
def siftupF (xs : List Int) : List Int := sdF (xs.getD 0 0) ((suF xs 0).1.set (suF xs 0).2 (xs.getD 0 0)) (suF xs 0).2

theorem su_end {hp xs : List Int} {q c : Int} (hsu : suF hp q.toNat = suF xs 0) (hl : hp.length = xs.length) (hc : c = 2 * q + 1) (hnc : ¬ c < (xs.length : Int)) (hq0 : 0 ≤ q) (hq1 : q < xs.length) :
    sdF ((hp.set q.toNat (xs.getD (Int.toNat 0) 0)).getD q.toNat 0) (hp.set q.toNat (xs.getD (Int.toNat 0) 0)) q.toNat = siftupF xs := by
  have e0 := suF_0 hl hc hnc hq0
  have e1 : (hp.set q.toNat (xs.getD (Int.toNat 0) 0)).getD q.toNat 0 = xs.getD 0 0 := by
    rw [List.getD_eq_getElem?_getD, List.getElem?_set_self (by omega)]; rfl
  unfold siftupF
  rw [e1, ← hsu, e0]
  rfl
set_option pp.deepTerms false
set_option pp.maxSteps 1000
theorem su_spec {prog : Program} {w : World} {p : Program} {loose : List Str} {mean : ExcName → Option Value} {mg mb : Str → Option Value}
    (l : Addr) (vs : List Value) (xs : List Int) (nn : Nat) (news : List (Addr × Obj)) (t1 : Tok) (hi : IntsAre vs xs) (hlen : xs.length < 2 ^ 19) (h0 : 0 < xs.length) (hne : ∀ q ∈ news, q.1 ≠ l) :
    Con prog w p loose mean mg mb 86 2 16 [.ref l, .int 0 t1] ((l, listOf vs.toArray nn) :: news) (fun news' v => v = .none ∧ ∃ vs' nn', news' = (l, listOf vs'.toArray nn') :: news ∧ IntsAre vs' (siftupF xs)) := by
  w_top off
  k_with_none
  intro dp un gd cn cs a ccd cl outer A₀ base h₀ L m s Q E hB hF hK hN hT hcs hdp hun hret
  have hvl : vs.length = xs.length := hi.length
  refine wpAny_call ?_
  k_dflt cell_enter
  k_with "exec While Compare cons nil" => k_while (fun _ hp q c => 0 ≤ q ∧ c = 2 * q + 1 ∧ q < (xs.length : Int) ∧ hp.length = xs.length ∧ suF hp q.toNat = suF xs 0) (fun _ _ q _ => xs.length - q.toNat) "heap" "pos" "childpos"
  k_with "state" => (first
    | exact ⟨Int.le_refl 0, rfl, by omega, rfl, rfl⟩
    | exact ⟨by omega, by omega, by omega, (List.length_set ..).trans (by assumption), (suF_B (by assumption) (by assumption) (by assumption) (by assumption) (by assumption)).trans (by assumption)⟩
    | exact ⟨by omega, by omega, by omega, (List.length_set ..).trans (by assumption), (suF_A (by assumption) (by assumption) (by assumption) (by assumption) (fun h => absurd (by assumption) h.2)).trans (by assumption)⟩
    | exact ⟨by omega, by omega, by omega, (List.length_set ..).trans (by assumption), (suF_A (by assumption) (by assumption) (by assumption) (by assumption) (fun h => absurd h.1 (by assumption))).trans (by assumption)⟩)
  k_steps
  k_with_none
  refine' con_use (sd_spec l _ _ _ news _ _ _ ?i ?n ?h0 ?h1 hne) ?B ?F ?X ?N ?T ?k ?d ?u ?_
  ktr_unf
  case i => assumption
  case n => omega
  case h0 => assumption
  case h1 => omega
  rintro v h' tk' news' F' N' ⟨rfl, vs', nn', rfl, hi'⟩
  (try dsimp only)
  k_steps
  refine hret _ _ _ _ (by k_asm) (by k_asm) ⟨rfl, _, _, rfl, ?_⟩
  exact eq_ints hi' (su_end (by assumption) (by assumption) (by assumption) (by assumption) (by assumption) (by assumption))
end Mine
end

section
open PySem PySem.W PyProof.Rows PySem.Calls PySem.Spec
set_option maxRecDepth 100000
set_option maxHeartbeats 1000000
namespace Mine
local macro_rules | `(tactic| k_all) => `(tactic| assumption)
local macro_rules | `(tactic| ktr_unf) => `(tactic| ((case B => k_asm); (case F => k_asm); (case X => k_asm); (case N => k_asm); (case T => k_asm); (case k => exact rfl); (case d => ktr_room); (case u => ktr_units)))
local macro_rules | `(tactic| l_fit) => `(tactic| (simp only [List.length_dropLast, List.length_set]; omega))
local macro_rules | `(tactic| l_idx) => `(tactic| (simp only [List.length_dropLast, List.length_set] at *; omega))
/-- heappop: the item handed back, and the list behind it -/
def popV (xs : List Int) : Int := xs.getD 0 0
def popF (xs : List Int) : List Int := if xs.dropLast = [] then [] else siftupF (xs.dropLast.set 0 (xs.getLastD 0))
theorem pop_v1 {xs : List Int} (h : 0 < xs.dropLast.length) : xs.dropLast.getD (Int.toNat 0) 0 = popV xs := by
  match xs, h with
  | [_], h => exact absurd h (by simp)
  | a :: b :: r, _ => rfl
theorem pop_v2 {xs : List Int} (h : ¬ 0 < xs.dropLast.length) (h0 : 0 < xs.length) : xs.getLastD 0 = popV xs := by
  match xs, h, h0 with
  | [_], _, _ => rfl
  | a :: b :: r, h, _ => exact absurd (by simp) h
theorem pop_f1 {xs : List Int} (h : 0 < xs.dropLast.length) : siftupF (xs.dropLast.set (Int.toNat 0) (xs.getLastD 0)) = popF xs := by
  unfold popF
  rw [if_neg (by intro e; rw [e] at h; exact absurd h (by simp))]
  rfl
theorem pop_f2 {xs : List Int} (h : ¬ 0 < xs.dropLast.length) : xs.dropLast = popF xs := by
  have e : xs.dropLast = [] := List.eq_nil_of_length_eq_zero (by omega)
  unfold popF
  rw [if_pos e, e]
set_option pp.deepTerms false
set_option pp.maxSteps 1000
theorem pop_spec {prog : Program} {w : World} {p : Program} {loose : List Str} {mean : ExcName → Option Value} {mg mb : Str → Option Value}
    (l : Addr) (vs : List Value) (xs : List Int) (nn : Nat) (news : List (Addr × Obj)) (hi : IntsAre vs xs) (hlen : xs.length < 2 ^ 19) (h0 : 0 < xs.length) (hne : ∀ q ∈ news, q.1 ≠ l) :
    Con prog w p loose mean mg mb 72 3 24 [.ref l] ((l, listOf vs.toArray nn) :: news) (fun news' v => (∃ t, v = .int (popV xs) t) ∧ ∃ vs' nn', news' = (l, listOf vs'.toArray nn') :: news ∧ IntsAre vs' (popF xs)) := by
  w_top off
  k_with_none
  intro dp un gd cn cs a ccd cl outer A₀ base h₀ L m s Q E hB hF hK hN hT hcs hdp hun hret
  have hvl : vs.length = xs.length := hi.length
  refine wpAny_call ?_
  k_dflt cell_enter
  k_steps
  · refine' con_use (su_spec l _ _ _ news _ ?i ?n ?h0 hne) ?B ?F ?X ?N ?T ?k ?d ?u ?_
    ktr_unf
    case i => assumption
    case n => simp only [List.length_dropLast, List.length_set]; omega
    case h0 => rw [List.length_set]; assumption
    rintro v h' tk' news' F' N' ⟨rfl, vs', nn', rfl, hi'⟩
    (try dsimp only)
    k_steps
    refine hret _ _ _ _ (by k_asm) (by k_asm) ⟨⟨_, congrArg (Value.int · _) (pop_v1 (by assumption))⟩, _, _, rfl, ?_⟩
    exact eq_ints hi' (pop_f1 (by assumption))
  · refine hret _ _ _ _ (by k_asm) (by k_asm) ⟨⟨_, congrArg (Value.int · _) (pop_v2 (by assumption) (by assumption))⟩, _, _, rfl, ?_⟩
    exact eq_ints (by assumption) (pop_f2 (by assumption))
end Mine
end

section
namespace Mine
/-- x is written with k of the figures to the base, none of them a leading nought -/
inductive NumD (base : Int) (figs : List Int) : Nat → Int → Prop
  | one {f : Int} : f ∈ figs → f ≠ 0 → NumD base figs 1 f
  | more {k : Nat} {x f : Int} : NumD base figs k x → f ∈ figs → NumD base figs (k + 1) (base * x + f)

/-- no child lies below its parent -/
def IsHp (xs : List Int) : Prop := ∀ i, 0 < i → i < xs.length → xs.getD ((i - 1) / 2) 0 ≤ xs.getD i 0

structure Par (base : Int) (figs : List Int) (div : Int) : Prop where
  b0 : 16 ≤ base
  b1 : base ≤ 64
  d0 : 2 ≤ div
  d1 : div ≤ 10
  fl : figs.length ≤ 3
  fb : ∀ f ∈ figs, 0 ≤ f ∧ f < base

structure Inv (base : Int) (figs : List Int) (div : Int) (hp found seen : List Int) : Prop where
  hpI : IsHp hp
  seenE : seen = found.map (· % div)
  nd : seen.Nodup
  asc : found.Pairwise (· < ·)
  low : ∀ x ∈ found, ∀ y ∈ hp, x ≤ y
  numH : ∀ x ∈ hp, ∃ k, k ≤ found.length + 1 ∧ NumD base figs k x
  numF : ∀ x ∈ found, ∃ k, k ≤ found.length ∧ NumD base figs k x
  cov1 : ∀ f ∈ figs, f ≠ 0 → f ∈ hp ∨ ∃ m ∈ found, m ≤ f ∧ m % div = f % div
  cov2 : ∀ n ∈ found, ∀ f ∈ figs, base * n + f ∈ hp ∨ ∃ m ∈ found, m ≤ base * n + f ∧ m % div = (base * n + f) % div
  len : hp.length ≤ 3 * (found.length + 1)

def startH (figs : List Int) : List Int := figs.foldl (fun h f => if f = 0 then h else pushF h f) []
def turnH (base : Int) (figs : List Int) (x : Int) (h : List Int) : List Int := figs.foldl (fun h f => pushF h (base * x + f)) h
def meas (figs : List Int) (div : Int) (hp found : List Int) : Nat := hp.length + (div.toNat - found.length) * figs.length
end Mine
end

section
set_option maxRecDepth 10000
namespace Mine
theorem gs_self {xs : List Int} {i : Nat} {v : Int} (h : i < xs.length) : (xs.set i v).getD i 0 = v := by
  rw [List.getD_eq_getElem?_getD, List.getElem?_set_self h]; rfl
theorem gs_ne {xs : List Int} {i j : Nat} {v : Int} (h : i ≠ j) : (xs.set i v).getD j 0 = xs.getD j 0 := by
  rw [List.getD_eq_getElem?_getD, List.getElem?_set_ne h, ← List.getD_eq_getElem?_getD]
theorem gd_get {xs : List Int} {i : Nat} (h : i < xs.length) : xs.getD i 0 = xs[i] := by
  rw [List.getD_eq_getElem?_getD, List.getElem?_eq_getElem h]; rfl
theorem swp {xs : List Int} {i j : Nat} {x : Int} (hne : i ≠ j) (hi : i < xs.length) (hj : j < xs.length) : ((xs.set i (xs.getD j 0)).set j x).Perm (xs.set i x) := by
  rw [List.perm_iff_count]
  intro a
  rw [List.count_set (by rw [List.length_set]; exact hj), List.count_set hi, List.count_set hi, List.getElem_set_ne hne, gd_get hj]
  omega
theorem sdF_perm (x : Int) (xs : List Int) (pos : Nat) (hp : pos < xs.length) : (sdF x xs pos).Perm (xs.set pos x) := by
  induction xs, pos using sdF.induct (x := x) with
  | case1 xs pos h h1 ih =>
    rw [sdF, dif_pos h, if_pos h1]
    exact (ih (by rw [List.length_set]; omega)).trans (swp (by omega) hp (by omega))
  | case2 xs pos h h1 => rw [sdF, dif_pos h, if_neg h1]
  | case3 xs pos h => rw [sdF, dif_neg h]
theorem pushF_perm (xs : List Int) (x : Int) : (pushF xs x).Perm (x :: xs) := by
  unfold pushF
  refine (sdF_perm x (xs ++ [x]) xs.length (by simp)).trans ?_
  rw [List.set_append_right _ _ (Nat.le_refl _), Nat.sub_self]
  exact List.perm_append_singleton x xs
theorem suF_perm (xs : List Int) (pos : Nat) (hp : pos < xs.length) (x : Int) : ((suF xs pos).1.set (suF xs pos).2 x).Perm (xs.set pos x) := by
  induction xs, pos using suF.induct with
  | case1 xs pos h ih =>
    rw [suF, dif_pos h]
    exact (ih (by rw [List.length_set]; exact suC_lt h)).trans (swp (Nat.ne_of_lt (suC_gt xs pos)) hp (suC_lt h))
  | case2 xs pos h => rw [suF, dif_neg h]
theorem siftupF_perm (xs : List Int) (h0 : 0 < xs.length) : (siftupF xs).Perm xs := by
  unfold siftupF
  refine (sdF_perm _ _ _ (by rw [List.length_set, suF_len]; exact suF_lt xs 0 h0)).trans ?_
  rw [List.set_set]
  refine (suF_perm xs 0 h0 _).trans ?_
  match xs, h0 with
  | a :: r, _ => exact List.Perm.refl _
theorem pop_perm (xs : List Int) (h0 : 0 < xs.length) : xs.Perm (popV xs :: popF xs) := by
  match xs, h0 with
  | [a], _ => exact List.Perm.refl _
  | a :: b :: r, _ =>
    have hd : (a :: b :: r).dropLast = a :: (b :: r).dropLast := rfl
    unfold popF popV
    rw [if_neg (by rw [hd]; exact List.cons_ne_nil _ _)]
    refine List.Perm.trans ?_ ((siftupF_perm _ (by rw [hd]; simp)).symm.cons _)
    rw [hd]
    refine List.Perm.cons a ?_
    have hl : (a :: b :: r).getLastD 0 = (b :: r).getLast (List.cons_ne_nil _ _) := by simp [List.getLastD]
    rw [hl]
    show (b :: r).Perm ((b :: r).getLast (List.cons_ne_nil _ _) :: (b :: r).dropLast)
    conv => lhs; rw [← List.dropLast_concat_getLast (List.cons_ne_nil b r)]
    exact List.perm_append_singleton _ _
/-- x at pos: the heap's order but for pos against its parent -/
structure HolD (x : Int) (xs : List Int) (pos : Nat) : Prop where
  o : ∀ i, 0 < i → i < xs.length → i ≠ pos → (i - 1) / 2 ≠ pos → xs.getD ((i - 1) / 2) 0 ≤ xs.getD i 0
  c : ∀ i, 0 < i → i < xs.length → (i - 1) / 2 = pos → x ≤ xs.getD i 0
  g : ∀ i, 0 < i → i < xs.length → (i - 1) / 2 = pos → 0 < pos → xs.getD ((pos - 1) / 2) 0 ≤ xs.getD i 0
theorem hold_end {x : Int} {xs : List Int} {pos : Nat} (hp : pos < xs.length) (H : HolD x xs pos) (hx : 0 < pos → xs.getD ((pos - 1) / 2) 0 ≤ x) : IsHp (xs.set pos x) := by
  intro i h0 h1
  rw [List.length_set] at h1
  by_cases e : i = pos
  · subst e
    rw [gs_self hp, gs_ne (by omega)]
    exact hx h0
  · rw [gs_ne (Ne.symm e)]
    by_cases e2 : (i - 1) / 2 = pos
    · rw [e2, gs_self hp]; exact H.c i h0 h1 e2
    · rw [gs_ne (Ne.symm e2)]; exact H.o i h0 h1 e e2
theorem sdF_hp (x : Int) (xs : List Int) (pos : Nat) (hp : pos < xs.length) (H : HolD x xs pos) : IsHp (sdF x xs pos) := by
  induction xs, pos using sdF.induct (x := x) with
  | case1 xs pos h h1 ih =>
    rw [sdF, dif_pos h, if_pos h1]
    refine ih (by rw [List.length_set]; omega) ⟨?_, ?_, ?_⟩
    · intro i i0 i1 i2 i3
      rw [List.length_set] at i1
      have e : i ≠ pos := by intro e; subst e; exact i3 rfl
      rw [gs_ne (Ne.symm e)]
      by_cases e2 : (i - 1) / 2 = pos
      · rw [e2, gs_self hp]; exact H.g i i0 i1 e2 h
      · rw [gs_ne (Ne.symm e2)]; exact H.o i i0 i1 e e2
    · intro i i0 i1 i2
      rw [List.length_set] at i1
      by_cases e : i = pos
      · subst e; rw [gs_self hp]; omega
      · rw [gs_ne (Ne.symm e)]
        have := H.o i i0 i1 e (by omega)
        rw [i2] at this
        omega
    · intro i i0 i1 i2 i3
      rw [List.length_set] at i1
      have a := H.o ((pos - 1) / 2) i3 (by omega) (by omega) (by omega)
      rw [gs_ne (by omega)]
      by_cases e : i = pos
      · subst e; rw [gs_self hp]; exact a
      · rw [gs_ne (Ne.symm e)]
        have := H.o i i0 i1 e (by omega)
        rw [i2] at this
        omega
  | case2 xs pos h h1 => rw [sdF, dif_pos h, if_neg h1]; exact hold_end hp H (fun _ => by omega)
  | case3 xs pos h => rw [sdF, dif_neg h]; exact hold_end hp H (fun h' => absurd h' h)
theorem pushF_hp {xs : List Int} (x : Int) (H : IsHp xs) : IsHp (pushF xs x) := by
  unfold pushF
  refine sdF_hp _ _ _ (by simp) ⟨?_, ?_, ?_⟩
  · intro i h0 h1 h2 _
    rw [List.length_append, List.length_singleton] at h1
    have hi : i < xs.length := by omega
    have e : ∀ j, j < xs.length → (xs ++ [x]).getD j 0 = xs.getD j 0 := by
      intro j hj
      rw [List.getD_eq_getElem?_getD, List.getElem?_append_left hj, ← List.getD_eq_getElem?_getD]
    rw [e i hi, e _ (by omega)]
    exact H i h0 hi
  · intro i h0 h1 h2
    rw [List.length_append, List.length_singleton] at h1
    omega
  · intro i h0 h1 h2
    rw [List.length_append, List.length_singleton] at h1
    omega
/-- a hole at pos -/
structure HolU (xs : List Int) (pos : Nat) : Prop where
  o : ∀ i, 0 < i → i < xs.length → i ≠ pos → (i - 1) / 2 ≠ pos → xs.getD ((i - 1) / 2) 0 ≤ xs.getD i 0
  g : ∀ i, 0 < i → i < xs.length → (i - 1) / 2 = pos → 0 < pos → xs.getD ((pos - 1) / 2) 0 ≤ xs.getD i 0
theorem suC_par (xs : List Int) (pos : Nat) : (suC xs pos - 1) / 2 = pos := by unfold suC; split <;> omega
theorem suC_min {xs : List Int} {pos i : Nat} (h0 : 0 < i) (h1 : i < xs.length) (h2 : (i - 1) / 2 = pos) : xs.getD (suC xs pos) 0 ≤ xs.getD i 0 := by
  have hi : i = 2 * pos + 1 ∨ i = 2 * pos + 2 := by omega
  unfold suC
  split
  · rename_i h
    rcases hi with e | e
    · rw [e]; omega
    · rw [e]; omega
  · rename_i h
    rcases hi with e | e
    · rw [e]; omega
    · rw [e]
      have : ¬ ¬ xs.getD (2 * pos + 1) 0 < xs.getD (2 * pos + 2) 0 := fun hh => h ⟨by omega, hh⟩
      omega
theorem suF_hol (xs : List Int) (pos : Nat) (hp : pos < xs.length) (H : HolU xs pos) : HolU (suF xs pos).1 (suF xs pos).2 ∧ ¬ 2 * (suF xs pos).2 + 1 < xs.length := by
  induction xs, pos using suF.induct with
  | case1 xs pos h ih =>
    rw [suF, dif_pos h]
    have hc := suC_lt h
    have hg := suC_gt xs pos
    have hpar := suC_par xs pos
    have r := ih (by rw [List.length_set]; exact hc) ⟨?_, ?_⟩
    · rw [List.length_set] at r; exact r
    · intro i i0 i1 i2 i3
      rw [List.length_set] at i1
      by_cases e : i = pos
      · subst e
        rw [gs_self hp, gs_ne (by omega)]
        exact H.g _ (by omega) hc hpar i0
      · rw [gs_ne (Ne.symm e)]
        by_cases e2 : (i - 1) / 2 = pos
        · rw [e2, gs_self hp]; exact suC_min i0 i1 e2
        · rw [gs_ne (Ne.symm e2)]; exact H.o i i0 i1 e e2
    · intro i i0 i1 i2 i3
      rw [List.length_set] at i1
      rw [hpar, gs_self hp, gs_ne (by omega)]
      have := H.o i i0 i1 (by omega) (by omega)
      rw [i2] at this
      exact this
  | case2 xs pos h => rw [suF, dif_neg h]; exact ⟨H, h⟩
theorem siftupF_hp {xs : List Int} (h0 : 0 < xs.length) (H : HolU xs 0) : IsHp (siftupF xs) := by
  unfold siftupF
  obtain ⟨r, e⟩ := suF_hol xs 0 h0 H
  have hl := suF_lt xs 0 h0
  refine sdF_hp _ _ _ (by rw [List.length_set, suF_len]; exact hl) ⟨?_, ?_, ?_⟩
  · intro i i0 i1 i2 i3
    rw [List.length_set] at i1
    rw [gs_ne (Ne.symm i2), gs_ne (Ne.symm i3)]
    exact r.o i i0 i1 i2 i3
  · intro i i0 i1 i2
    rw [List.length_set, suF_len] at i1
    omega
  · intro i i0 i1 i2
    rw [List.length_set, suF_len] at i1
    omega
theorem popF_hp {xs : List Int} (H : IsHp xs) : IsHp (popF xs) := by
  unfold popF
  split
  · intro i h0 h1; simp at h1
  · rename_i hne
    have hl : 0 < xs.dropLast.length := List.length_pos_iff.mpr hne
    refine siftupF_hp (by rw [List.length_set]; exact hl) ⟨?_, ?_⟩
    · intro i i0 i1 i2 i3
      rw [List.length_set] at i1
      rw [gs_ne (Ne.symm i2), gs_ne (Ne.symm i3)]
      have hx : i < xs.length := by rw [List.length_dropLast] at i1; omega
      rw [gd_get i1, gd_get (by omega : (i - 1) / 2 < xs.dropLast.length), List.getElem_dropLast, List.getElem_dropLast]
      have := H i i0 hx
      rw [gd_get hx, gd_get (by omega)] at this
      exact this
    · intro i i0 i1 i2 i3; omega
theorem hp_min {xs : List Int} (H : IsHp xs) : ∀ i, i < xs.length → popV xs ≤ xs.getD i 0 := by
  intro i
  induction i using Nat.strongRecOn with
  | _ i ih =>
    intro hi
    by_cases e : i = 0
    · subst e; exact Int.le_refl _
    · exact Int.le_trans (ih ((i - 1) / 2) (by omega) (by omega)) (H i (by omega) hi)
theorem hp_min' {xs : List Int} (H : IsHp xs) {y : Int} (hy : y ∈ xs) : popV xs ≤ y := by
  obtain ⟨i, hi, rfl⟩ := List.getElem_of_mem hy
  rw [← gd_get hi]
  exact hp_min H i hi
end Mine
end

section
namespace Mine
theorem sdF_len (x : Int) (xs : List Int) (pos : Nat) : (sdF x xs pos).length = xs.length := by
  induction xs, pos using sdF.induct (x := x) with
  | case1 xs pos h h1 ih => rw [sdF, dif_pos h, if_pos h1, ih, List.length_set]
  | case2 xs pos h h1 => rw [sdF, dif_pos h, if_neg h1, List.length_set]
  | case3 xs pos h => rw [sdF, dif_neg h, List.length_set]
theorem pushF_len (xs : List Int) (x : Int) : (pushF xs x).length = xs.length + 1 := by
  unfold pushF; rw [sdF_len]; simp
theorem siftupF_len (xs : List Int) : (siftupF xs).length = xs.length := by
  unfold siftupF; rw [sdF_len, List.length_set, suF_len]
theorem popF_len (xs : List Int) : (popF xs).length = xs.length - 1 := by
  unfold popF
  split
  · rename_i h
    have := congrArg List.length h
    simp at this ⊢
    omega
  · rw [siftupF_len, List.length_set, List.length_dropLast]
theorem startH_snoc (pre : List Int) (n : Int) : startH (pre ++ [n]) = if n = 0 then startH pre else pushF (startH pre) n := by simp [startH]
theorem turnH_snoc (base : Int) (pre : List Int) (n x : Int) (h : List Int) : turnH base (pre ++ [n]) x h = pushF (turnH base pre x h) (base * x + n) := by simp [turnH]
theorem turnH_len (base : Int) (figs : List Int) (x : Int) (h : List Int) : (turnH base figs x h).length = h.length + figs.length := by
  induction figs generalizing h with
  | nil => rfl
  | cons f r ih => show (turnH base r x (pushF h (base * x + f))).length = _; rw [ih, pushF_len]; simp; omega
theorem st_push {h pre : List Int} {n : Int} (e : h = startH pre) (hl : h.length ≤ pre.length) (hn : ¬ n = 0) : pushF h n = startH (pre ++ [n]) ∧ (pushF h n).length ≤ (pre ++ [n]).length := by
  refine ⟨?_, ?_⟩
  · rw [startH_snoc, if_neg hn, e]
  · rw [pushF_len]; simp; omega
theorem st_skip {h pre : List Int} {n : Int} (e : h = startH pre) (hl : h.length ≤ pre.length) (hn : n = 0) : h = startH (pre ++ [n]) ∧ h.length ≤ (pre ++ [n]).length := by
  refine ⟨?_, ?_⟩
  · rw [startH_snoc, if_pos hn, e]
  · simp; omega
theorem tu_push {h h1 pre : List Int} {n x base : Int} (e : h = turnH base pre x h1) (hl : h.length = h1.length + pre.length) : pushF h (base * x + n) = turnH base (pre ++ [n]) x h1 ∧ (pushF h (base * x + n)).length = h1.length + (pre ++ [n]).length := by
  refine ⟨?_, ?_⟩
  · rw [turnH_snoc, e]
  · rw [pushF_len]; simp; omega
/-- what the while's word says -/
def Wrd (base : Int) (figs : List Int) (div : Int) (hp found seen : List Int) : Prop :=
  Inv base figs div hp found seen ∧ found.length ≤ 10 ∧ hp.length ≤ 33 ∧ seen.length = found.length
theorem numD_pos {base div : Int} {figs : List Int} (hP : Par base figs div) {k : Nat} {x : Int} (h : NumD base figs k x) : 0 < x := by
  induction h with
  | one hf h0 => have := (hP.fb _ hf).1; omega
  | more h hf ih =>
    have h1 := (hP.fb _ hf).1
    have h2 : 0 < base * _ := Int.mul_pos (by have := hP.b0; omega) ih
    omega
theorem mem_push {xs : List Int} {x y : Int} : y ∈ pushF xs x ↔ y = x ∨ y ∈ xs := by rw [(pushF_perm xs x).mem_iff, List.mem_cons]
theorem startH_ok (figs : List Int) : ∀ h : List Int, IsHp h → IsHp (figs.foldl (fun h f => if f = 0 then h else pushF h f) h) ∧ (∀ y, y ∈ figs.foldl (fun h f => if f = 0 then h else pushF h f) h ↔ y ∈ h ∨ (y ∈ figs ∧ y ≠ 0)) ∧ (figs.foldl (fun h f => if f = 0 then h else pushF h f) h).length ≤ h.length + figs.length := by
  induction figs with
  | nil => intro h H; exact ⟨H, fun y => by simp, by simp⟩
  | cons f r ih =>
    intro h H
    rw [List.foldl_cons]
    by_cases e : f = 0
    · rw [if_pos e]
      obtain ⟨a, b, c⟩ := ih h H
      refine ⟨a, fun y => ?_, by rw [List.length_cons]; omega⟩
      rw [b y, List.mem_cons]
      constructor
      · rintro (h | ⟨h, h'⟩)
        · exact .inl h
        · exact .inr ⟨.inr h, h'⟩
      · rintro (h | ⟨h | h, h'⟩)
        · exact .inl h
        · exact absurd (h.trans e) h'
        · exact .inr ⟨h, h'⟩
    · rw [if_neg e]
      obtain ⟨a, b, c⟩ := ih (pushF h f) (pushF_hp f H)
      refine ⟨a, fun y => ?_, by rw [pushF_len] at c; rw [List.length_cons]; omega⟩
      rw [b y, List.mem_cons, mem_push]
      constructor
      · rintro ((h | h) | ⟨h, h'⟩)
        · exact .inr ⟨.inl h, h ▸ e⟩
        · exact .inl h
        · exact .inr ⟨.inr h, h'⟩
      · rintro (h | ⟨h | h, h'⟩)
        · exact .inl (.inr h)
        · exact .inl (.inl h)
        · exact .inr ⟨h, h'⟩
theorem turnH_ok (base x : Int) (figs : List Int) : ∀ h : List Int, IsHp h → IsHp (turnH base figs x h) ∧ (∀ y, y ∈ turnH base figs x h ↔ y ∈ h ∨ ∃ f ∈ figs, y = base * x + f) := by
  induction figs with
  | nil => intro h H; exact ⟨H, fun y => by simp [turnH]⟩
  | cons f r ih =>
    intro h H
    obtain ⟨a, b⟩ := ih (pushF h (base * x + f)) (pushF_hp _ H)
    refine ⟨a, fun y => ?_⟩
    show y ∈ turnH base r x (pushF h (base * x + f)) ↔ _
    rw [b y, mem_push]
    constructor
    · rintro ((h | h) | ⟨g, hg, h⟩)
      · exact .inr ⟨f, .head _, h⟩
      · exact .inl h
      · exact .inr ⟨g, .tail _ hg, h⟩
    · rintro (h | ⟨g, hg, h⟩)
      · exact .inl (.inr h)
      · rcases List.mem_cons.mp hg with e | hg
        · exact .inl (.inl (e ▸ h))
        · exact .inr ⟨g, hg, h⟩
theorem res_len {div : Int} {l : List Int} (hd : 0 < div) (nd : (l.map (· % div)).Nodup) : l.length ≤ div.toNat := by
  have := nd.length_le_of_subset (l₂ := (List.range div.toNat).map (fun (i : Nat) => (i : Int))) (by
    intro y hy
    obtain ⟨x, _, rfl⟩ := List.mem_map.mp hy
    have h0 := Int.emod_nonneg x (b := div) (by omega)
    have h1 := Int.emod_lt_of_pos x hd
    exact List.mem_map.mpr ⟨(x % div).toNat, List.mem_range.mpr (by omega), by omega⟩)
  simpa using this
theorem wrd_start {base div : Int} {figs h : List Int} (hP : Par base figs div) (e : h = startH figs) : Wrd base figs div h [] [] := by
  obtain ⟨a, b, c⟩ := startH_ok figs [] (fun i _ h1 => absurd h1 (by simp))
  have hf := hP.fl
  change IsHp (startH figs) at a
  change ∀ y, y ∈ startH figs ↔ _ at b
  change (startH figs).length ≤ _ at c
  rw [← e] at a b c
  rw [List.length_nil] at c
  refine ⟨⟨a, rfl, .nil, .nil, fun x hx => absurd hx (by simp), ?_, fun x hx => absurd hx (by simp), ?_, fun x hx => absurd hx (by simp), ?_⟩, by simp, by omega, rfl⟩
  · intro x hx
    rcases (b x).mp hx with h | ⟨h, h'⟩
    · exact nomatch h
    · exact ⟨1, Nat.le_refl _, .one h h'⟩
  · intro f hf h0; exact .inl ((b f).mpr (.inr ⟨hf, h0⟩))
  · simp; omega
theorem any_of {l : List Int} {x : Int} (h : (l.any fun y => y == x) = true) : x ∈ l := by simpa using h
theorem any_no {l : List Int} {x : Int} (h : (l.any fun y => y == x) = false) : x ∉ l := by
  intro hm
  rw [List.any_eq_false] at h
  exact h x hm (by simp)
theorem wrd_skip {base div : Int} {figs h fo se : List Int} (hP : Par base figs div) (W : Wrd base figs div h fo se) (hn : decide (h = []) = false) (hs : (se.any fun x => x == popV h % div) = true) : Wrd base figs div (popF h) fo se := by
  obtain ⟨I, w1, w2, w3⟩ := W
  have hl : 0 < h.length := List.length_pos_iff.mpr (of_decide_eq_false hn)
  have pm := pop_perm h hl
  have mem : ∀ y, y ∈ h ↔ y = popV h ∨ y ∈ popF h := fun y => by rw [pm.mem_iff, List.mem_cons]
  have hx : popV h ∈ h := (mem _).mpr (.inl rfl)
  have hs' := any_of hs
  rw [I.seenE] at hs'
  obtain ⟨m, hm, hme⟩ := List.mem_map.mp hs'
  have hlow := I.low m hm _ hx
  refine ⟨⟨popF_hp I.hpI, I.seenE, I.nd, I.asc, fun x hx y hy => I.low x hx y ((mem y).mpr (.inr hy)), fun x hx => I.numH x ((mem x).mpr (.inr hx)), I.numF, ?_, ?_, ?_⟩, w1, by rw [popF_len]; omega, w3⟩
  · intro f hf h0
    rcases I.cov1 f hf h0 with h | h
    · rcases (mem f).mp h with e | h
      · exact .inr ⟨m, hm, e ▸ hlow, e ▸ hme⟩
      · exact .inl h
    · exact .inr h
  · intro n hn f hf
    rcases I.cov2 n hn f hf with h | h
    · rcases (mem _).mp h with e | h
      · exact .inr ⟨m, hm, e ▸ hlow, e ▸ hme⟩
      · exact .inl h
    · exact .inr h
  · rw [popF_len]; have := I.len; omega
theorem keep_nd {base div : Int} {figs h fo se : List Int} (hP : Par base figs div) (W : Wrd base figs div h fo se) (hs : (se.any fun x => x == popV h % div) = false) : ((fo ++ [popV h]).map (· % div)).Nodup ∧ fo.length + 1 ≤ div.toNat := by
  have nd : ((fo ++ [popV h]).map (· % div)).Nodup := by
    have := any_no hs
    rw [List.map_append, ← W.1.seenE, List.map_cons, List.map_nil]
    refine List.nodup_append.mpr ⟨W.1.nd, by simp, ?_⟩
    intro a ha b hb e
    rw [List.mem_singleton] at hb
    exact this (hb ▸ e ▸ ha)
  refine ⟨nd, ?_⟩
  have := res_len (by have := hP.d0; omega) nd
  rw [List.length_append, List.length_singleton] at this
  exact this
theorem wrd_keep {base div : Int} {figs h h' fo se : List Int} (hP : Par base figs div) (W : Wrd base figs div h fo se) (hn : decide (h = []) = false) (hs : (se.any fun x => x == popV h % div) = false) (e : h' = turnH base figs (popV h) (popF h)) :
    Wrd base figs div h' (fo ++ [popV h]) (se ++ [popV h % div]) := by
  obtain ⟨nd, hfl⟩ := keep_nd hP W hs
  obtain ⟨I, w1, w2, w3⟩ := W
  have hl : 0 < h.length := List.length_pos_iff.mpr (of_decide_eq_false hn)
  have pm := pop_perm h hl
  have mem : ∀ y, y ∈ h ↔ y = popV h ∨ y ∈ popF h := fun y => by rw [pm.mem_iff, List.mem_cons]
  have hx : popV h ∈ h := (mem _).mpr (.inl rfl)
  have hmin : ∀ y ∈ popF h, popV h ≤ y := fun y hy => hp_min' I.hpI ((mem y).mpr (.inr hy))
  obtain ⟨k, hk, hnum⟩ := I.numH _ hx
  have hpos := numD_pos hP hnum
  have hno := any_no hs
  rw [I.seenE] at hno
  obtain ⟨tH, tM⟩ := turnH_ok base (popV h) figs (popF h) (popF_hp I.hpI)
  rw [← e] at tH tM
  have el : h'.length = h.length - 1 + figs.length := by rw [e, turnH_len, popF_len]
  have hb := hP.b0
  have hf3 := hP.fl
  have hd1 := hP.d1
  have hlen := I.len
  have hgrow : ∀ f ∈ figs, popV h ≤ base * popV h + f := by
    intro f hf
    have h1 := (hP.fb f hf).1
    have h2 : 1 * popV h ≤ base * popV h := Int.mul_le_mul_of_nonneg_right (by omega) (by omega)
    omega
  have lx : ∀ m ∈ fo, m ≤ popV h := fun m hm => I.low m hm _ hx
  refine ⟨⟨tH, ?_, ?_, ?_, ?_, ?_, ?_, ?_, ?_, ?_⟩, ?_, ?_, ?_⟩
  · rw [List.map_append, I.seenE]; rfl
  · rw [I.seenE]
    rw [List.map_append] at nd
    exact nd
  · refine List.pairwise_append.mpr ⟨I.asc, List.pairwise_singleton _ _, ?_⟩
    intro a ha b hb
    rw [List.mem_singleton] at hb
    have h1 := lx a ha
    have h2 : a ≠ popV h := fun ee => hno (List.mem_map.mpr ⟨a, ha, by rw [ee]⟩)
    omega
  · intro x hx' y hy
    have hxx : x ≤ popV h := by
      rcases List.mem_append.mp hx' with hx' | hx'
      · exact lx x hx'
      · rw [List.mem_singleton] at hx'; omega
    rcases (tM y).mp hy with hy | ⟨f, hf, rfl⟩
    · have := hmin y hy; omega
    · have := hgrow f hf; omega
  · intro x hx'
    rw [List.length_append, List.length_singleton]
    rcases (tM x).mp hx' with hy | ⟨f, hf, rfl⟩
    · obtain ⟨j, hj, hn⟩ := I.numH x ((mem x).mpr (.inr hy))
      exact ⟨j, by omega, hn⟩
    · exact ⟨k + 1, by omega, .more hnum hf⟩
  · intro x hx'
    rw [List.length_append, List.length_singleton]
    rcases List.mem_append.mp hx' with hx' | hx'
    · obtain ⟨j, hj, hn⟩ := I.numF x hx'
      exact ⟨j, by omega, hn⟩
    · rw [List.mem_singleton] at hx'
      exact ⟨k, hk, hx' ▸ hnum⟩
  · intro f hf h0
    rcases I.cov1 f hf h0 with hh | ⟨m, hm, hh⟩
    · rcases (mem f).mp hh with ee | hh
      · exact .inr ⟨popV h, List.mem_append.mpr (.inr (List.mem_singleton.mpr rfl)), by omega, by rw [ee]⟩
      · exact .inl ((tM f).mpr (.inl hh))
    · exact .inr ⟨m, List.mem_append.mpr (.inl hm), hh⟩
  · intro n hn f hf
    rcases List.mem_append.mp hn with hn | hn
    · rcases I.cov2 n hn f hf with hh | ⟨m, hm, hh⟩
      · rcases (mem _).mp hh with ee | hh
        · exact .inr ⟨popV h, List.mem_append.mpr (.inr (List.mem_singleton.mpr rfl)), by omega, by rw [ee]⟩
        · exact .inl ((tM _).mpr (.inl hh))
      · exact .inr ⟨m, List.mem_append.mpr (.inl hm), hh⟩
    · rw [List.mem_singleton] at hn
      subst hn
      exact .inl ((tM _).mpr (.inr ⟨f, hf, rfl⟩))
  · rw [List.length_append, List.length_singleton]; omega
  · rw [List.length_append, List.length_singleton]; omega
  · omega
  · rw [List.length_append, List.length_append, w3]; rfl
theorem meas_skip {figs h fo : List Int} {div : Int} (hn : decide (h = []) = false) : meas figs div (popF h) fo < meas figs div h fo := by
  have : 0 < h.length := List.length_pos_iff.mpr (of_decide_eq_false hn)
  unfold meas
  rw [popF_len]
  omega
theorem meas_keep {base div : Int} {figs h h' fo se : List Int} (hP : Par base figs div) (W : Wrd base figs div h fo se) (hn : decide (h = []) = false) (hs : (se.any fun x => x == popV h % div) = false) (e : h' = turnH base figs (popV h) (popF h)) :
    meas figs div h' (fo ++ [popV h]) < meas figs div h fo := by
  obtain ⟨_, hfl⟩ := keep_nd hP W hs
  have hl : 0 < h.length := List.length_pos_iff.mpr (of_decide_eq_false hn)
  have el : h'.length = h.length - 1 + figs.length := by rw [e, turnH_len, popF_len]
  unfold meas
  rw [el, List.length_append, List.length_singleton]
  obtain ⟨d, hd⟩ : ∃ d, div.toNat = fo.length + 1 + d := ⟨div.toNat - (fo.length + 1), by omega⟩
  rw [hd]
  have e1 : fo.length + 1 + d - (fo.length + 1) = d := by omega
  have e2 : fo.length + 1 + d - fo.length = d + 1 := by omega
  rw [e1, e2, Nat.succ_mul]
  omega
end Mine
end

section
open PySem PySem.W PyProof.Rows PySem.Calls PySem.Spec
set_option maxRecDepth 100000
set_option maxHeartbeats 1000000
namespace Mine
theorem allLt_ne {d : Nat} {l : List (Addr × Obj)} (h : AllLt d l) : ∀ q ∈ l, q.1 ≠ d := by
  induction l with
  | nil => exact fun _ h => nomatch h
  | cons p r ih =>
    intro q hq
    rcases List.mem_cons.mp hq with rfl | hq
    · exact Nat.ne_of_lt h.1
    · exact ih h.2 q hq
local macro_rules | `(tactic| k_all) => `(tactic| first | assumption | exact allLt_ne (by assumption) | exact allLt_ne (And.right (by assumption)))
local macro_rules | `(tactic| ktr_unf) => `(tactic| ((case B => k_asm); (case F => k_asm); (case X => k_asm); (case N => k_asm); (case T => k_asm); (case k => exact rfl); (case d => ktr_room); (case u => ktr_units)))
def unF (kept : List Int) (x : Int) : List Int := if x ∈ kept then kept else kept ++ [x]
def unlikeF (xs : List Int) : List Int := xs.foldl unF []
theorem unlikeF_snoc (xs : List Int) (x : Int) : unlikeF (xs ++ [x]) = unF (unlikeF xs) x := by simp [unlikeF]
theorem un_in {kept pre : List Int} {n : Int} (e : kept = unlikeF pre) (hl : kept.length ≤ pre.length) (h : (kept.any fun x => x == n) = true) : kept = unlikeF (pre ++ [n]) ∧ kept.length ≤ (pre ++ [n]).length := by
  have hm : n ∈ kept := by simpa using h
  refine ⟨?_, by simp; omega⟩
  rw [unlikeF_snoc, ← e, unF, if_pos hm]
theorem un_out {kept pre : List Int} {n : Int} (e : kept = unlikeF pre) (hl : kept.length ≤ pre.length) (h : (kept.any fun x => x == n) = false) : kept ++ [n] = unlikeF (pre ++ [n]) ∧ (kept ++ [n]).length ≤ (pre ++ [n]).length := by
  have hm : n ∉ kept := by intro hm; rw [List.any_eq_false] at h; exact h n hm (by simp)
  refine ⟨?_, by simp; omega⟩
  rw [unlikeF_snoc, ← e, unF, if_neg hm]
set_option pp.deepTerms false
set_option pp.maxSteps 1000
theorem un_spec {prog : Program} {w : World} {p : Program} {loose : List Str} {mean : ExcName → Option Value} {mg mb : Str → Option Value}
    (l : Addr) (vs : List Value) (xs : List Int) (nn : Nat) (news : List (Addr × Obj)) (hi : IntsAre vs xs) (hlen : xs.length < 2 ^ 18) :
    Con prog w p loose mean mg mb 100 1 8 [.ref l] ((l, listOf vs.toArray nn) :: news) (fun news' v => ∃ r vs' nn', v = .ref r ∧ news' = (r, listOf vs'.toArray nn') :: (l, listOf vs.toArray nn) :: news ∧ IntsAre vs' (unlikeF xs)) := by
  w_top off
  k_with_none
  intro dp un gd cn cs a ccd cl outer A₀ base h₀ L m s Q E hB hF hK hN hT hcs hdp hun hret
  have hvl : vs.length = xs.length := hi.length
  refine wpAny_call ?_
  k_dflt cell_enter
  k_with "pyIter ref" => k_state (fun pre kept => kept = unlikeF pre ∧ kept.length ≤ pre.length) "kept"
  k_with "state" => (first
    | exact ⟨rfl, Nat.le_refl _⟩
    | exact un_in (by assumption) (by assumption) (by assumption)
    | exact un_out (by assumption) (by assumption) (by assumption))
  k_steps
  all_goals k_with_none
  refine hret _ _ _ _ (by k_asm) (by k_asm) ⟨_, _, _, rfl, rfl, ?_⟩
  exact eq_ints (by assumption) (by assumption)
end Mine
end

section
open PySem PySem.W PyProof.Rows PySem.Calls PySem.Spec
set_option maxRecDepth 100000
set_option maxHeartbeats 1000000
namespace Mine
theorem news_pull3 {h₀ : Heap} {L : Addr} {h : Heap} {a b c d : Addr × Obj} {r : List (Addr × Obj)} (N : News h₀ L h (a :: b :: c :: d :: r)) : News h₀ L h (d :: b :: c :: r) :=
  news_sub N (by intro p hp; simp only [List.mem_cons] at hp ⊢; rcases hp with h | h | h | h <;> simp [h])
theorem news_end3 {h₀ : Heap} {L : Addr} {h : Heap} {a b c d : Addr × Obj} {r : List (Addr × Obj)} (N : News h₀ L h (a :: b :: c :: d :: r)) : News h₀ L h (c :: r) :=
  news_sub N (by intro p hp; simp only [List.mem_cons] at hp ⊢; rcases hp with h | h <;> simp [h])
local macro_rules | `(tactic| k_all) => `(tactic| first | assumption | exact allLt_ne (by assumption) | exact allLt_ne (And.right (by assumption)) | exact allLt_ne (And.right (And.right (by assumption))) | exact allLt_ne (And.right (And.right (And.right (by assumption)))) | exact OwnOff.ne (by assumption) (by simp) | exact List.forall_mem_append.mpr ⟨by k_all, by k_all⟩ | exact List.forall_mem_cons.mpr ⟨by k_ne, by k_all⟩)
local macro_rules | `(tactic| ktr_unf) => `(tactic| ((case B => k_asm); (case F => k_asm); (case X => k_asm); (case N => first | k_asm | exact news_pull3 (by k_asm)); (case T => k_asm); (case k => exact rfl); (case d => ktr_room); (case u => ktr_units)))
theorem mod_pos {prog : Program} {w : World} {A : Around} {E : Value → Shared → Prop} {s : Shared} {a b : Int} {t u : Tok} {Q : Value → Shared → Prop} (hb : 0 < b) (h : ∀ t' k, 0 ≤ a % b → a % b < b → Q (.int (a % b) t') { s with toks := k }) :
    wpAny (model prog w) A (binaryOp .Mod (.int a t) (.int b u)) Q E s := by
  refine mod_int' (by omega) ?_
  rw [Int.fmod_eq_emod_of_nonneg _ (by omega)]
  exact h _ _ (Int.emod_nonneg _ (by omega)) (Int.emod_lt_of_pos _ hb)
local macro_rules | `(tactic| walk_at "binaryOp Mod int int") => `(tactic| ((refine mod_pos ?hb ?_; (case hb => omega)); intro _ _ _ _))
theorem turnH_nil (base x : Int) (h : List Int) : turnH base [] x h = h := rfl
theorem wrd_end {base div : Int} {figs h fo se : List Int} (W : Wrd base figs div h fo se) (e : decide (h = []) = true) : Inv base figs div [] fo se := (of_decide_eq_true e) ▸ W.1

local macro_rules | `(tactic| units_room) => `(tactic| ktr_units)
theorem wrd_all {base div : Int} {figs h fo se : List Int} (W : Wrd base figs div h fo se) : Wrd base figs div h fo se ∧ fo.length ≤ 10 ∧ h.length ≤ 33 ∧ se.length = fo.length := ⟨W, W.2⟩
set_option pp.deepTerms false
set_option pp.maxSteps 1000
theorem fo_spec {prog : Program} {w : World} {p : Program} {loose : List Str} {mean : ExcName → Option Value} {mg mb : Str → Option Value}
    (l : Addr) (vs : List Value) (figs : List Int) (nn : Nat) (news : List (Addr × Obj)) (base div : Int) (t1 t2 : Tok) (hi : IntsAre vs figs) (hP : Par base figs div) :
    Con prog w p loose mean mg mb 107 4 200 [.int base t1, .ref l, .int div t2] ((l, listOf vs.toArray nn) :: news) (fun news' v => ∃ r vs' nn' found seen, v = .ref r ∧ news' = (r, listOf vs'.toArray nn') :: (l, listOf vs.toArray nn) :: news ∧ IntsAre vs' found ∧ Inv base figs div [] found seen) := by
  w_top off
  k_with_none
  intro dp un gd cn cs a ccd cl outer A₀ base₀ h₀ L m s Q E hB hF hK hN hT hcs hdp hun hret
  have hvl : vs.length = figs.length := hi.length
  have hfl : figs.length ≤ 3 := hP.fl
  have hb0 := hP.b0
  have hb1 := hP.b1
  have hd0 := hP.d0
  have hd1 := hP.d1
  refine wpAny_call ?_
  k_dflt cell_enter
  k_with "pyIter ref" => (first
    | ((rename Wrd _ _ _ _ _ _ => hI); (rename News _ _ _ _ => nQ); (simp only [List.push_toArray] at nQ); k_state_given ["heap!", "number"] (fun h1 x pre h => h = turnH base pre x h1 ∧ h.length = h1.length + pre.length) "heap")
    | ((fail_if_success (rename Wrd _ _ _ _ _ _ => hI)); k_state (fun pre h => h = startH pre ∧ h.length ≤ pre.length) "heap"))
  k_with "exec While Compare cons nil" => k_while (fun _ hp fo se => Wrd base figs div hp fo se ∧ fo.length ≤ 10 ∧ hp.length ≤ 33 ∧ se.length = fo.length) (fun _ hp fo _ => meas figs div hp fo) "heap" "found" "seen"
  k_with "state" => (first
    | exact ⟨rfl, Nat.le_refl _⟩
    | exact ⟨(turnH_nil _ _ _).symm, rfl⟩
    | exact st_push (by assumption) (by assumption) (by assumption)
    | exact st_skip (by assumption) (by assumption) (by assumption)
    | exact st_skip (by assumption) (by assumption) (Decidable.of_not_not (by assumption))
    | exact tu_push (by assumption) (by assumption)
    | exact wrd_all (wrd_start hP (by assumption))
    | exact wrd_all (wrd_skip hP (by assumption) (by assumption) (by assumption))
    | exact wrd_all (wrd_keep hP (by assumption) (by assumption) (by assumption) (by assumption)))
  k_with "measure" => (first
    | exact meas_skip (by assumption)
    | exact meas_keep hP (by assumption) (by assumption) (by assumption) (by assumption))
  k_steps
  · refine' con_use (push_spec _ _ _ _ _ _ _ ?i ?n ?ne) ?B ?F ?X ?N ?T ?k ?d ?u ?_
    ktr_unf
    case i => assumption
    case n => omega
    case ne => k_all
    rintro v h' tk' news' F' N' ⟨rfl, vs', nn', rfl, hi'⟩
    (try dsimp only)
    k_steps
  · refine hret _ _ _ _ (by k_asm) (news_end3 (by k_asm)) ⟨_, _, _, _, _, rfl, rfl, ?_, wrd_end (by assumption) (by assumption)⟩
    assumption
  · refine' con_use (pop_spec _ _ _ _ _ ?i ?n ?h0 ?ne) ?B ?F ?X ?N ?T ?k ?d ?u ?_
    ktr_unf
    case i => assumption
    case n => omega
    case h0 => exact List.length_pos_iff.mpr (of_decide_eq_false (by assumption))
    case ne => k_all
    rintro v h' tk' news' F' N' ⟨⟨t, rfl⟩, vs', nn', rfl, hi'⟩
    have hvl' := hi'.length
    rw [popF_len] at hvl'
    (try dsimp only)
    k_steps
    refine' con_use (push_spec _ _ _ _ _ _ _ ?i ?n ?ne) ?B ?F ?X ?N ?T ?k ?d ?u ?_
    ktr_unf
    case i => assumption
    case n => omega
    case ne => k_all
    rintro v h' tk' news' F' N' ⟨rfl, vs', nn', rfl, hi'⟩
    (try dsimp only)
    k_steps
end Mine
end

section
namespace Mine
def put (div : Int) (T : List Int) (n : Int) : List Int := if T.getD (n % div).toNat 0 = 0 ∨ n < T.getD (n % div).toNat 0 then T.set (n % div).toNat n else T
def startT (div : Int) (figs : List Int) : List Int := figs.foldl (fun T f => if f = 0 then T else put div T f) (List.replicate div.toNat 0)
def figsT (base div r : Int) (figs : List Int) (T : List Int) : List Int := figs.foldl (fun T f => put div T (base * T.getD r.toNat 0 + f)) T
def restT (base div : Int) (figs : List Int) (T : List Int) (r : Int) : List Int := if T.getD r.toNat 0 = 0 then T else figsT base div r figs T
def restsT (base div : Int) (figs : List Int) (rs : List Int) (T : List Int) : List Int := rs.foldl (restT base div figs) T
def turnsT (base div : Int) (figs : List Int) (n : Nat) (ts : List Int) (T : List Int) : List Int := ts.foldl (fun T _ => restsT base div figs (PySem.W.rangeKs 0 n) T) T
end Mine
namespace Mine
theorem put_len (div : Int) (T : List Int) (n : Int) : (put div T n).length = T.length := by unfold put; split <;> simp
theorem put_1 {div : Int} {T : List Int} {n : Int} (h : T.getD (n % div).toNat 0 = 0) : put div T n = T.set (n % div).toNat n := by unfold put; rw [if_pos (.inl h)]
theorem put_2 {div : Int} {T : List Int} {n : Int} (h : n < T.getD (n % div).toNat 0) : put div T n = T.set (n % div).toNat n := by unfold put; rw [if_pos (.inr h)]
theorem put_3 {div : Int} {T : List Int} {n : Int} (h : ¬ T.getD (n % div).toNat 0 = 0) (h2 : ¬ n < T.getD (n % div).toNat 0) : put div T n = T := by unfold put; rw [if_neg (by intro hh; exact hh.elim h h2)]
theorem startT_snoc (div : Int) (pre : List Int) (n : Int) : startT div (pre ++ [n]) = if n = 0 then startT div pre else put div (startT div pre) n := by simp [startT]
theorem figsT_snoc (base div r : Int) (pre : List Int) (n : Int) (T : List Int) : figsT base div r (pre ++ [n]) T = put div (figsT base div r pre T) (base * (figsT base div r pre T).getD r.toNat 0 + n) := by simp [figsT]
theorem restsT_snoc (base div : Int) (figs pre : List Int) (n : Int) (T : List Int) : restsT base div figs (pre ++ [n]) T = restT base div figs (restsT base div figs pre T) n := by simp [restsT]
theorem turnsT_snoc (base div : Int) (figs : List Int) (m : Nat) (pre : List Int) (n : Int) (T : List Int) : turnsT base div figs m (pre ++ [n]) T = restsT base div figs (PySem.W.rangeKs 0 m) (turnsT base div figs m pre T) := by simp [turnsT]

section
variable {base div n r : Int} {figs T T0 T' pre : List Int}
theorem l1_start : (List.replicate div.toNat [(0 : Int)]).flatten = startT div [] ∧ (List.replicate div.toNat [(0 : Int)]).flatten.length = div.toNat := by
  have e : (List.replicate div.toNat [(0 : Int)]).flatten = List.replicate div.toNat 0 := by
    induction div.toNat with
    | zero => rfl
    | succ k ih => rw [List.replicate_succ, List.flatten_cons, ih]; rfl
  exact ⟨e, by rw [e]; simp⟩
theorem l1_zero (e : T = startT div pre) (hl : T.length = div.toNat) (hn : n = 0) : T = startT div (pre ++ [n]) ∧ T.length = div.toNat := ⟨by rw [startT_snoc, if_pos hn]; exact e, hl⟩
theorem l1_set (e : T = startT div pre) (hl : T.length = div.toNat) (hn : n ≠ 0) (h : put div T n = T') : T' = startT div (pre ++ [n]) ∧ T'.length = div.toNat :=
  ⟨by rw [startT_snoc, if_neg hn, ← e]; exact h.symm, by rw [← h, put_len]; exact hl⟩
theorem l4_start (hl : T.length = div.toNat) : T = figsT base div r [] T ∧ T.length = div.toNat := ⟨rfl, hl⟩
theorem l4_set (e : T = figsT base div r pre T0) (hl : T.length = div.toNat) (h : put div T (base * T.getD r.toNat 0 + n) = T') : T' = figsT base div r (pre ++ [n]) T0 ∧ T'.length = div.toNat :=
  ⟨by rw [figsT_snoc, ← e]; exact h.symm, by rw [← h, put_len]; exact hl⟩
theorem l3_start (hl : T.length = div.toNat) : T = restsT base div figs [] T ∧ T.length = div.toNat := ⟨rfl, hl⟩
theorem l3_zero (e : T = restsT base div figs pre T0) (hl : T.length = div.toNat) (h : T.getD n.toNat 0 = 0) : T = restsT base div figs (pre ++ [n]) T0 ∧ T.length = div.toNat :=
  ⟨by rw [restsT_snoc, ← e, restT, if_pos h], hl⟩
theorem l3_go (e : T = restsT base div figs pre T0) (hl : T'.length = div.toNat) (h : T.getD n.toNat 0 ≠ 0) (h' : T' = figsT base div n figs T) : T' = restsT base div figs (pre ++ [n]) T0 ∧ T'.length = div.toNat :=
  ⟨by rw [restsT_snoc, ← e, restT, if_neg h]; exact h', hl⟩
theorem l2_start {m : Nat} (hl : T.length = div.toNat) : T = turnsT base div figs m [] T ∧ T.length = div.toNat := ⟨rfl, hl⟩
theorem l2_go {m : Nat} (e : T = turnsT base div figs m pre T0) (hl : T'.length = div.toNat) (h' : T' = restsT base div figs (PySem.W.rangeKs 0 m) T) : T' = turnsT base div figs m (pre ++ [n]) T0 ∧ T'.length = div.toNat :=
  ⟨by rw [turnsT_snoc, ← e]; exact h', hl⟩
end
end Mine
end

section
open PySem PySem.W PyProof.Rows PySem.Calls PySem.Spec
set_option maxRecDepth 100000
set_option maxHeartbeats 1000000
namespace Mine
local macro_rules | `(tactic| k_all) => `(tactic| first | assumption | exact allLt_ne (by assumption) | exact allLt_ne (And.right (by assumption)) | exact allLt_ne (And.right (And.right (by assumption))) | exact allLt_ne (And.right (And.right (And.right (by assumption)))) | exact OwnOff.ne (by assumption) (by simp) | exact List.forall_mem_append.mpr ⟨by k_all, by k_all⟩ | exact List.forall_mem_cons.mpr ⟨by k_ne, by k_all⟩)
local macro_rules | `(tactic| walk_at "binaryOp Mod int int") => `(tactic| ((refine mod_pos ?hb ?_; (case hb => omega)); intro _ _ _ _))
local macro_rules | `(tactic| units_room) => `(tactic| ktr_units)
/-- what is handed back: the table's numbers but nought, in rising order -/
def LowRes (base div : Int) (figs res : List Int) : Prop :=
  res.Perm ((turnsT base div figs (div - 0).toNat (rangeKs 0 (div - 0).toNat) (startT div figs)).filter (fun a => a != 0)) ∧ res.Pairwise (· ≤ ·)
theorem ints_id {vs : List Value} {xs : List Int} (h : CarriedAll vs (xs.map PyData.int)) : IntsAre vs xs := eq_ints (CarriedAll.intsOf (f := fun x => x) h) (by simp)
theorem lo_end {base div : Int} {figs T T0 res : List Int} (e0 : T0 = startT div figs) (e : T = turnsT base div figs (div - 0).toNat (rangeKs 0 (div - 0).toNat) T0) (p : res.Perm (T.filter (fun a => a != 0))) (o : res.Pairwise (· ≤ ·)) : LowRes base div figs res := by
  subst e0 e
  exact ⟨p, o⟩
theorem filt_len {T : List Int} {div : Int} (h : T.length = div.toNat) (hd : div ≤ 10) : (T.filter (fun a => a != 0)).length < 64 := by
  have := List.length_filter_le (fun a : Int => a != 0) T
  omega
theorem news_endK {h₀ : Heap} {L : Addr} {h : Heap} {a b c : Addr × Obj} {r : List (Addr × Obj)} (N : News h₀ L h (a :: b :: c :: r)) : News h₀ L h (a :: r) :=
  news_sub N (by intro p hp; simp only [List.mem_cons] at hp ⊢; rcases hp with h | h <;> simp [h])
set_option pp.deepTerms false
set_option pp.maxSteps 1000
theorem lo_spec {prog : Program} {w : World} {p : Program} {loose : List Str} {mean : ExcName → Option Value} {mg mb : Str → Option Value}
    (l : Addr) (vs : List Value) (figs : List Int) (nn : Nat) (news : List (Addr × Obj)) (base div : Int) (t1 t2 : Tok) (hi : IntsAre vs figs) (hP : Par base figs div) :
    Con prog w p loose mean mg mb 112 4 200 [.int base t1, .ref l, .int div t2] ((l, listOf vs.toArray nn) :: news) (fun news' v => ∃ r vs' nn' res, v = .ref r ∧ news' = (r, listOf vs'.toArray nn') :: (l, listOf vs.toArray nn) :: news ∧ IntsAre vs' res ∧ LowRes base div figs res) := by
  w_top off
  k_with_none
  intro dp un gd cn cs a ccd cl outer A₀ base₀ h₀ L m s Q E hB hF hK hN hT hcs hdp hun hret
  have hvl : vs.length = figs.length := hi.length
  have hfl : figs.length ≤ 3 := hP.fl
  have hb0 := hP.b0
  have hb1 := hP.b1
  have hd0 := hP.d0
  have hd1 := hP.d1
  refine wpAny_call ?_
  k_dflt cell_enter
  k_with "pyIter ref" => (first
    | (k_of "turn" => k_state_given ["least!"] (fun T0 pre T => T = turnsT base div figs (div - 0).toNat pre T0 ∧ T.length = div.toNat) "least")
    | (k_of "rest" => k_state_given ["least!"] (fun T0 pre T => T = restsT base div figs pre T0 ∧ T.length = div.toNat) "least")
    | ((rename _ = restsT _ _ _ _ _ => hI); k_state_given ["least!", "rest"] (fun T0 r pre T => T = figsT base div r pre T0 ∧ T.length = div.toNat) "least")
    | ((fail_if_success (rename _ = restsT _ _ _ _ _ => hI)); k_of "figure" => k_state (fun pre T => T = startT div pre ∧ T.length = div.toNat) "least"))
  k_with "state" => (first
    | exact l1_start
    | exact l1_zero (by assumption) (by assumption) (by assumption)
    | exact l1_zero (by assumption) (by assumption) (Decidable.of_not_not (by assumption))
    | exact l1_set (by assumption) (by assumption) (by assumption) (put_1 (by assumption))
    | exact l1_set (by assumption) (by assumption) (by assumption) (put_2 (by assumption))
    | exact l1_set (by assumption) (by assumption) (by assumption) (put_3 (by assumption) (by assumption))
    | exact l2_start (by assumption)
    | exact l3_start (by assumption)
    | exact l4_start (by assumption)
    | exact l4_set (by assumption) (by assumption) (put_1 (by assumption))
    | exact l4_set (by assumption) (by assumption) (put_2 (by assumption))
    | exact l4_set (by assumption) (by assumption) (put_3 (by assumption) (by assumption))
    | exact l3_zero (by assumption) (by assumption) (by assumption)
    | exact l3_zero (by assumption) (by assumption) (Decidable.of_not_not (by assumption))
    | exact l3_go (by assumption) (by assumption) (by assumption) (by assumption)
    | exact l2_go (by assumption) (by assumption) (by assumption))
  k_steps
  refine' kso_sorted ?k1 ?k2 ?k3 ?k4 ?k5 ?_
  case k1 => k_asm
  case k2 => k_asm
  case k3 => assumption
  case k4 => exact ints_id (by assumption)
  case k5 => exact filt_len (by assumption) hd1
  intro D' v' n' c' h' F' N' l1 i' e' p' o' b'
  k_steps
  refine hret _ _ _ _ (by k_asm) (news_endK (by k_asm)) ⟨_, _, _, _, rfl, rfl, i', lo_end (by assumption) (by assumption) p' o'⟩
end Mine
end

section
open PySem PySem.W PyProof.Rows PySem.Calls PySem.Spec
set_option maxRecDepth 100000
set_option maxHeartbeats 1000000
namespace Mine
local macro_rules | `(tactic| k_all) => `(tactic| first | assumption | exact allLt_ne (by assumption) | exact allLt_ne (And.right (by assumption)) | exact allLt_ne (And.right (And.right (by assumption))) | exact allLt_ne (And.right (And.right (And.right (by assumption)))) | exact OwnOff.ne (by assumption) (by simp) | exact List.forall_mem_append.mpr ⟨by k_all, by k_all⟩ | exact List.forall_mem_cons.mpr ⟨by k_ne, by k_all⟩)
local macro_rules | `(tactic| units_room) => `(tactic| ktr_units)
def valF (base : Int) (rs : List Int) : Int := rs.foldl (fun v f => base * v + f) 0
theorem valF_snoc (base : Int) (rs : List Int) (n : Int) : valF base (rs ++ [n]) = base * valF base rs + n := by simp [valF]
theorem val_go {base v n : Int} {pre : List Int} (e : v = valF base pre) : base * v + n = valF base (pre ++ [n]) := by rw [valF_snoc, e]
theorem sp_no {figs rs : List Int} {n : Int} {P : Prop} (hin : ∀ f ∈ rs, f ∈ figs) (hm : n ∈ rs) (h : (figs.any fun x => x == n) = false) : P := by
  rw [List.any_eq_false] at h
  exact absurd (by simp) (h n (hin n hm))
theorem news_drop2 {h₀ : Heap} {L : Addr} {h : Heap} {a b : Addr × Obj} {r : List (Addr × Obj)} (N : News h₀ L h (a :: b :: r)) : News h₀ L h r :=
  news_sub N (by intro p hp; simp only [List.mem_cons]; simp [hp])
set_option pp.deepTerms false
set_option pp.maxSteps 1000
theorem sp_spec {prog : Program} {w : World} {p : Program} {loose : List Str} {mean : ExcName → Option Value} {mg mb : Str → Option Value}
    (l lr : Addr) (vs vr : List Value) (figs rs : List Int) (nn nr : Nat) (news : List (Addr × Obj)) (base num : Int) (t1 t2 : Tok) (hi : IntsAre vs figs) (hr : IntsAre vr rs) (hb0 : 16 ≤ base) (hb1 : base ≤ 64) (hfl : figs.length ≤ 3) (hrl : rs.length ≤ 12)
    (hin : ∀ f ∈ rs, f ∈ figs) (hv : valF base rs = num) (hh : ¬ rs.take 1 = [0]) :
    Con prog w p loose mean mg mb 119 2 200 [.ref lr, .int base t1, .ref l, .int num t2] ((lr, listOf vr.toArray nr) :: (l, listOf vs.toArray nn) :: news) (fun news' v => v = .bool true ∧ news' = (lr, listOf vr.toArray nr) :: (l, listOf vs.toArray nn) :: news) := by
  w_top off
  k_with_none
  intro dp un gd cn cs a ccd cl outer A₀ base₀ h₀ L m s Q E hB hF hK hN hT hcs hdp hun hret
  have hvl : vs.length = figs.length := hi.length
  have hvr : vr.length = rs.length := hr.length
  refine wpAny_call ?_
  k_dflt cell_enter
  k_with "pyIter ref" => k_state (fun pre v => v = valF base pre) "value"
  k_with "state" => (first | exact rfl | exact val_go (by assumption))
  k_steps
  · exact sp_no hin (by assumption) (by assumption)
  · refine hret _ _ _ _ (by k_asm) (news_drop2 (by k_asm)) ⟨congrArg Value.bool (beq_iff_eq.mpr (.trans (by assumption) hv)), rfl⟩
end Mine
end

section
open PySem PySem.W PyProof.Rows PySem.Calls PySem.Spec
set_option maxRecDepth 100000
set_option maxHeartbeats 1000000
namespace Mine
/-- the figures of n to the base b + 2, the highest first -/
def digF (b : Nat) (n : Nat) : List Int := if _h : n = 0 then [] else digF b (n / (b + 2)) ++ [((n % (b + 2) : Nat) : Int)]
termination_by n
decreasing_by exact Nat.div_lt_self (by omega) (by omega)
def apL (n : Nat) : List Int := (digF 14 n).map (65 + ·)
theorem apL_0 : apL 0 = [] := by unfold apL; rw [digF]; rfl
theorem apL_s {n : Nat} (h : n ≠ 0) : apL n = apL (n / 16) ++ [65 + ((n % 16 : Nat) : Int)] := by unfold apL; rw [digF, dif_neg h]; simp
theorem fm16 (q : Int) : q.fmod 16 = q % 16 := Int.fmod_eq_emod_of_nonneg _ (by decide)
theorem fd16 (q : Int) : q.fdiv 16 = q / 16 := Int.fdiv_eq_ediv_of_nonneg _ (by decide)
theorem ap_cut : ∀ m : Nat, m < 16 → ([65, 66, 67, 68, 69, 70, 71, 72, 73, 74, 75, 76, 77, 78, 79, 80].drop (clipAt 16 (m : Int))).take (clipAt 16 ((m : Int) + 1) - clipAt 16 (m : Int)) = [65 + (m : Int)] := by decide +kernel
theorem ap_sl {prog : Program} {w : World} {A : Around} {E : Value → Shared → Prop} {s : Shared} {value slice : PySem.Expr} {t u1 u2 : Tok} {h₀ : Heap} {L : Addr} {m : PySem.Str → Option Value} {news : List (Addr × Obj)} {Q : Value → Shared → Prop} {q : Int}
    (hF : Fr h₀ L s.heap m) (hN : News h₀ L s.heap news)
    (h : ∀ h' t' k c, Fr h₀ L h' m → News h₀ L h' news → KBw.bInts c = [65 + q % 16] → Q (.bytes c t') { s with heap := h', toks := k })
    (hs : subscripted slice false (.bytes #[65, 66, 67, 68, 69, 70, 71, 72, 73, 74, 75, 76, 77, 78, 79, 80] t) (.ref s.heap.objs.size) = operate [.ref s.heap.objs.size, .bytes #[65, 66, 67, 68, 69, 70, 71, 72, 73, 74, 75, 76, 77, 78, 79, 80] t] (getItem (.bytes #[65, 66, 67, 68, 69, 70, 71, 72, 73, 74, 75, 76, 77, 78, 79, 80] t) (.ref s.heap.objs.size)) := by with_unfolding_all rfl)
    (ht : ∀ r, letTemporaryGo value (.bytes #[65, 66, 67, 68, 69, 70, 71, 72, 73, 74, 75, 76, 77, 78, 79, 80] t) r = pure () := by intro _; with_unfolding_all rfl) :
    wpAny (model prog w) A (subscriptTail value slice (.bytes #[65, 66, 67, 68, 69, 70, 71, 72, 73, 74, 75, 76, 77, 78, 79, 80] t) (.ref s.heap.objs.size)) Q E { s with heap := s.heap.push { cls := .type "slice", data := .fields #[.int (q.fmod 16) u1, .int (q.fmod 16 + 1) u2, .none] } } := by
  refine KBc.slice_K hF hN (ks := [65, 66, 67, 68, 69, 70, 71, 72, 73, 74, 75, 76, 77, 78, 79, 80]) rfl (.int _ _) (.int _ _) (by decide) ?_ hs ht
  intro h' t' k F' N' e
  refine h h' t' k _ F' N' (e.trans ?_)
  rw [fm16]
  have h0 : 0 ≤ q % 16 := Int.emod_nonneg _ (by decide)
  have h1 : q % 16 < 16 := Int.emod_lt_of_pos _ (by decide)
  obtain ⟨k, hk⟩ := Int.eq_ofNat_of_zero_le h0
  rw [hk] at h1 ⊢
  exact ap_cut k (by omega)
theorem ap_go {q num : Int} {bs c : Array UInt8} (h0 : 0 ≤ q) (h1 : q ≤ num) (e : apL q.toNat ++ KBw.bInts bs = apL num.toNat) (hq : q ≠ 0) (hc : KBw.bInts (c ++ bs) = [65 + q % 16] ++ KBw.bInts bs) :
    0 ≤ q.fdiv 16 ∧ q.fdiv 16 ≤ num ∧ apL (q.fdiv 16).toNat ++ KBw.bInts (c ++ bs) = apL num.toNat := by
  rw [fd16]
  refine ⟨by omega, by omega, ?_⟩
  rw [hc, ← e, apL_s (n := q.toNat) (by omega), List.append_assoc]
  have e1 : (q / 16).toNat = q.toNat / 16 := by omega
  have e2 : ((q.toNat % 16 : Nat) : Int) = q % 16 := by omega
  rw [e1, e2]
theorem ap_sz {q num : Int} {bs : Array UInt8} (e : apL q.toNat ++ KBw.bInts bs = apL num.toNat) (hl : (apL num.toNat).length ≤ 12) : [65 + q % 16].length + (KBw.bInts bs).length ≤ 16777216 := by
  have := congrArg List.length e
  rw [List.length_append] at this
  simp only [List.length_cons, List.length_nil]
  omega
theorem ap_start {num : Int} (h0 : 0 ≤ num) : 0 ≤ (if num < 0 then -num else num) ∧ (if num < 0 then -num else num) ≤ num ∧ apL (if num < 0 then -num else num).toNat ++ KBw.bInts #[] = apL num.toNat := by
  rw [if_neg (by omega)]
  exact ⟨h0, Int.le_refl _, List.append_nil _⟩
theorem ap_fin {q num : Int} {bs : Array UInt8} (e : apL q.toNat ++ KBw.bInts bs = apL num.toNat) (hq : q = 0) : KBw.bInts bs = apL num.toNat := by
  rw [← e, hq]
  show _ = apL 0 ++ _
  rw [apL_0]
  rfl
theorem ap_ms {q : Int} (h0 : 0 ≤ q) (hq : q ≠ 0) : (q.fdiv 16).toNat < q.toNat := by rw [fd16]; omega
set_option pp.deepTerms false
set_option pp.maxSteps 1000
theorem ap_spec {prog : Program} {w : World} {p : Program} {loose : List Str} {mean : ExcName → Option Value} {mg mb : Str → Option Value}
    (news : List (Addr × Obj)) (num : Int) (t1 : Tok) (h0 : 0 ≤ num) (hl : (apL num.toNat).length ≤ 12) :
    Con prog w p loose mean mg mb 28 2 200 [.int num t1] news (fun news' v => ∃ bs t, v = .bytes bs t ∧ news' = news ∧ KBw.bInts bs = apL num.toNat) := by
  w_top off
  k_with_none
  intro dp un gd cn cs a ccd cl outer A₀ base₀ h₀ L m s Q E hB hF hK hN hT hcs hdp hun hret
  refine wpAny_call ?_
  k_dflt cell_enter
  k_with "exec While Name cons nil" => k_while (fun _ q bs => 0 ≤ q ∧ q ≤ num ∧ apL q.toNat ++ KBw.bInts bs = apL num.toNat) (fun _ q _ => q.toNat) "num" "val"
  k_with "state" => (first | exact ap_start h0 | exact ap_go (by assumption) (by assumption) (by assumption) (by assumption) (by assumption))
  k_with "measure" => exact ap_ms (by assumption) (by assumption)
  k_with "subscriptTail" => ((with_reducible show wpAny _ _ (subscriptTail _ (Expr.Slice _ _ none _) (Value.bytes _ _) (Value.ref _)) _ _ _); (rename Fr _ _ _ _ => F'); (rename News _ _ _ _ => N'); (refine ap_sl (s := ⟨_, _, _, _, _⟩) F' N' ?_); intro _ _ _ _ _ _ kCut)
  k_with "binaryOp Add bytes bytes" => ((refine KBa.add_K (by assumption) rfl (ap_sz (by assumption) hl) ?_); intro _ _ kApp)
  k_steps
  exact hret _ _ _ _ (by k_asm) (by k_asm) ⟨_, _, rfl, rfl, ap_fin (by assumption) (by assumption)⟩
end Mine
end

section
open PySem PySem.W PyProof.Rows PySem.Calls PySem.Spec
set_option maxRecDepth 100000
set_option maxHeartbeats 1000000
namespace Mine
set_option pp.deepTerms false
set_option pp.maxSteps 1000
theorem bu_spec {prog : Program} {w : World} {p : Program} {loose : List Str} {mean : ExcName → Option Value} {mg mb : Str → Option Value}
    (news : List (Addr × Obj)) (bs : Array UInt8) (t1 : Tok) :
    Con prog w p loose mean mg mb 35 1 100 [.bytes bs t1] news (fun news' v => v = .bytes bs t1 ∧ news' = news) := by
  w_top off
  k_with_none
  intro dp un gd cn cs a ccd cl outer A₀ base₀ h₀ L m s Q E hB hF hK hN hT hcs hdp hun hret
  refine wpAny_call ?_
  k_dflt cell_enter
  k_with "call type:type" => (refine call_type_of (Tx := "bytes") (typeIs_bytes _ _ _) (by decide +kernel) ?_)
  k_steps
  exact hret _ _ _ _ (by k_asm) (by k_asm) ⟨rfl, rfl⟩
theorem tr_spec {prog : Program} {w : World} {p : Program} {loose : List Str} {mean : ExcName → Option Value} {mg mb : Str → Option Value}
    (news : List (Addr × Obj)) :
    Con prog w p loose mean mg mb 42 1 100 [.bool false] news (fun news' v => v = .bool false ∧ news' = news) := by
  w_top off
  k_with_none
  intro dp un gd cn cs a ccd cl outer A₀ base₀ h₀ L m s Q E hB hF hK hN hT hcs hdp hun hret
  refine wpAny_call ?_
  k_dflt cell_enter
  k_steps
  exact hret _ _ _ _ (by k_asm) (by k_asm) ⟨rfl, rfl⟩
end Mine
end

section
namespace Mine
/-- every entry is nought, or a number with the place as its remainder -/
structure Good (base div : Int) (figs T : List Int) : Prop where
  len : T.length = div.toNat
  ent : ∀ i, i < div.toNat → T.getD i 0 = 0 ∨ ((∃ k, NumD base figs k (T.getD i 0)) ∧ T.getD i 0 % div = (i : Int))
/-- the table holds a number with n's remainder, none greater than n -/
def Has (div : Int) (T : List Int) (n : Int) : Prop := T.getD (n % div).toNat 0 ≠ 0 ∧ T.getD (n % div).toNat 0 ≤ n
theorem has_le {div : Int} {T : List Int} {a b : Int} (h : Has div T a) (hl : a ≤ b) (hm : a % div = b % div) : Has div T b := by
  unfold Has at h ⊢
  rw [← hm]
  exact ⟨h.1, Int.le_trans h.2 hl⟩
theorem put_ok {base div n : Int} {figs T : List Int} {k : Nat} (hP : Par base figs div) (G : Good base div figs T) (hn : NumD base figs k n) :
    Good base div figs (put div T n) ∧ Has div (put div T n) n ∧ ∀ m, Has div T m → Has div (put div T n) m := by
  have hpos := numD_pos hP hn
  have hd := hP.d0
  have r0 := Int.emod_nonneg n (b := div) (by omega)
  have r1 := Int.emod_lt_of_pos n (b := div) (by omega)
  have hi : (n % div).toNat < T.length := by rw [G.len]; omega
  unfold put
  split
  · rename_i h
    refine ⟨⟨by rw [List.length_set]; exact G.len, ?_⟩, ?_, ?_⟩
    · intro i hi'
      by_cases e : (n % div).toNat = i
      · subst e; rw [gs_self hi]; exact .inr ⟨⟨k, hn⟩, by omega⟩
      · rw [gs_ne e]; exact G.ent i hi'
    · unfold Has; rw [gs_self hi]; omega
    · intro m hm
      unfold Has at hm ⊢
      by_cases e : (n % div).toNat = (m % div).toNat
      · rw [← e, gs_self hi]; rw [← e] at hm; omega
      · rw [gs_ne e]; exact hm
  · rename_i h
    refine ⟨G, ?_, fun m hm => hm⟩
    unfold Has
    omega
theorem start_ok {base div : Int} {figs : List Int} (hP : Par base figs div) : ∀ (fs T : List Int), (∀ f ∈ fs, f ∈ figs) → Good base div figs T →
    Good base div figs (fs.foldl (fun T f => if f = 0 then T else put div T f) T) ∧ (∀ f ∈ fs, f ≠ 0 → Has div (fs.foldl (fun T f => if f = 0 then T else put div T f) T) f) ∧ ∀ m, Has div T m → Has div (fs.foldl (fun T f => if f = 0 then T else put div T f) T) m := by
  intro fs
  induction fs with
  | nil => intro T _ G; exact ⟨G, fun f h => absurd h (by simp), fun m h => h⟩
  | cons g r ih =>
    intro T hs G
    rw [List.foldl_cons]
    by_cases e : g = 0
    · rw [if_pos e]
      obtain ⟨a, b, c⟩ := ih T (fun f h => hs f (.tail _ h)) G
      refine ⟨a, fun f hf h0 => ?_, c⟩
      rcases List.mem_cons.mp hf with rfl | hf
      · exact absurd e h0
      · exact b f hf h0
    · rw [if_neg e]
      obtain ⟨pg, ph, pm⟩ := put_ok hP G (.one (hs g (.head _)) e)
      obtain ⟨a, b, c⟩ := ih _ (fun f h => hs f (.tail _ h)) pg
      refine ⟨a, fun f hf h0 => ?_, fun m hm => c m (pm m hm)⟩
      rcases List.mem_cons.mp hf with rfl | hf
      · exact c _ ph
      · exact b f hf h0
theorem good_zero {base div : Int} {figs : List Int} : Good base div figs (List.replicate div.toNat 0) := by
  refine ⟨by simp, fun i hi => .inl ?_⟩
  rw [List.getD_eq_getElem?_getD, List.getElem?_replicate]
  split <;> rfl
theorem figs_ok {base div r : Int} {figs : List Int} (hP : Par base figs div) (hr0 : 0 ≤ r) (hr1 : r < div) : ∀ (fs T : List Int), (∀ f ∈ fs, f ∈ figs) → Good base div figs T → T.getD r.toNat 0 ≠ 0 →
    Good base div figs (figsT base div r fs T) ∧ (∀ m, Has div T m → Has div (figsT base div r fs T) m) ∧ ∀ x, x % div = r → Has div T x → ∀ f ∈ fs, Has div (figsT base div r fs T) (base * x + f) := by
  intro fs
  induction fs with
  | nil => intro T _ G _; exact ⟨G, fun m h => h, fun x _ _ f h => absurd h (by simp)⟩
  | cons g rs ih =>
    intro T hs G h0
    show Good base div figs (figsT base div r rs (put div T (base * T.getD r.toNat 0 + g))) ∧ (∀ m, Has div T m → Has div (figsT base div r rs (put div T (base * T.getD r.toNat 0 + g))) m) ∧ ∀ x, x % div = r → Has div T x → ∀ f ∈ g :: rs, Has div (figsT base div r rs (put div T (base * T.getD r.toNat 0 + g))) (base * x + f)
    obtain ⟨⟨k, hk⟩, hm⟩ := (G.ent r.toNat (by omega)).resolve_left h0
    generalize hv : T.getD r.toNat 0 = v at *
    have hvr : v % div = r := by omega
    obtain ⟨pg, ph, pm⟩ := put_ok hP G (.more hk (hs g (.head _)))
    have hT : Has div T v := by
      unfold Has
      rw [hvr, hv]
      exact ⟨h0, Int.le_refl _⟩
    have h0' : (put div T (base * v + g)).getD r.toNat 0 ≠ 0 := by
      have := (pm v hT).1
      rwa [hvr] at this
    obtain ⟨a, b, c⟩ := ih _ (fun f h => hs f (.tail _ h)) pg h0'
    refine ⟨a, fun m hm => b m (pm m hm), fun x hx hh f hf => ?_⟩
    rcases List.mem_cons.mp hf with rfl | hf
    · have hvx : v ≤ x := by
        have := hh.2
        rwa [hx, hv] at this
      refine has_le (b _ ph) ?_ ?_
      · have := Int.mul_le_mul_of_nonneg_left hvx (by have := hP.b0; omega : 0 ≤ base)
        omega
      · rw [Int.add_emod, Int.mul_emod, hvr, ← hx, ← Int.mul_emod, ← Int.add_emod]
    · exact c x hx (pm x hh) f hf
theorem rest_ok {base div r : Int} {figs : List Int} (hP : Par base figs div) (hr0 : 0 ≤ r) (hr1 : r < div) (T : List Int) (G : Good base div figs T) :
    Good base div figs (restT base div figs T r) ∧ (∀ m, Has div T m → Has div (restT base div figs T r) m) ∧ ∀ x, x % div = r → Has div T x → ∀ f ∈ figs, Has div (restT base div figs T r) (base * x + f) := by
  unfold restT
  split
  · rename_i h
    refine ⟨G, fun m h => h, fun x hx hh => ?_⟩
    have := hh.1
    rw [hx] at this
    exact absurd h this
  · rename_i h
    exact figs_ok hP hr0 hr1 figs T (fun f h => h) G h
theorem rests_ok {base div : Int} {figs : List Int} (hP : Par base figs div) : ∀ (rs T : List Int), (∀ r ∈ rs, 0 ≤ r ∧ r < div) → Good base div figs T →
    Good base div figs (restsT base div figs rs T) ∧ (∀ m, Has div T m → Has div (restsT base div figs rs T) m) ∧ ∀ x, x % div ∈ rs → Has div T x → ∀ f ∈ figs, Has div (restsT base div figs rs T) (base * x + f) := by
  intro rs
  induction rs with
  | nil => intro T _ G; exact ⟨G, fun m h => h, fun x h => absurd h (by simp)⟩
  | cons r rs ih =>
    intro T hs G
    show Good base div figs (restsT base div figs rs (restT base div figs T r)) ∧ (∀ m, Has div T m → Has div (restsT base div figs rs (restT base div figs T r)) m) ∧ ∀ x, x % div ∈ r :: rs → Has div T x → ∀ f ∈ figs, Has div (restsT base div figs rs (restT base div figs T r)) (base * x + f)
    obtain ⟨pg, pm, ph⟩ := rest_ok hP (hs r (.head _)).1 (hs r (.head _)).2 T G
    obtain ⟨a, b, c⟩ := ih _ (fun f h => hs f (.tail _ h)) pg
    refine ⟨a, fun m hm => b m (pm m hm), fun x hx hh f hf => ?_⟩
    rcases List.mem_cons.mp hx with e | hx
    · exact b _ (ph x e hh f hf)
    · exact c x hx (pm x hh) f hf
theorem numD_k {base : Int} {figs : List Int} {k : Nat} {x : Int} (h : NumD base figs k x) : 0 < k := by cases h <;> omega
theorem turns_ok {base div : Int} {figs : List Int} (hP : Par base figs div) : ∀ (ts T : List Int) (j : Nat), Good base div figs T → (∀ k x, k ≤ j + 1 → NumD base figs k x → Has div T x) →
    Good base div figs (turnsT base div figs (div - 0).toNat ts T) ∧ ∀ k x, k ≤ j + ts.length + 1 → NumD base figs k x → Has div (turnsT base div figs (div - 0).toNat ts T) x := by
  intro ts
  induction ts with
  | nil => intro T j G H; exact ⟨G, fun k x hk h => H k x hk h⟩
  | cons t ts ih =>
    intro T j G H
    have hd := hP.d0
    obtain ⟨pg, pm, ph⟩ := rests_ok hP (PySem.W.rangeKs 0 (div - 0).toNat) T (fun r hr => by have := PySem.W.mem_rangeKs hr; omega) G
    obtain ⟨a, b⟩ := ih _ (j + 1) pg (by
      intro k x hk h
      cases h with
      | one hf h0 => exact pm _ (H 1 _ (by omega) (.one hf h0))
      | @more k' x' f h' hf =>
        refine ph x' ?_ (H k' x' (by omega) h') f hf
        have r0 := Int.emod_nonneg x' (b := div) (by omega)
        have r1 := Int.emod_lt_of_pos x' (b := div) (by omega)
        exact List.mem_map.mpr ⟨(x' % div).toNat, List.mem_range.mpr (by omega), by omega⟩)
    exact ⟨a, fun k x hk h => b k x (by rw [List.length_cons] at hk; omega) h⟩
theorem table_ok {base div : Int} {figs : List Int} (hP : Par base figs div) :
    Good base div figs (turnsT base div figs (div - 0).toNat (PySem.W.rangeKs 0 (div - 0).toNat) (startT div figs)) ∧
    ∀ k x, k ≤ div.toNat + 1 → NumD base figs k x → Has div (turnsT base div figs (div - 0).toNat (PySem.W.rangeKs 0 (div - 0).toNat) (startT div figs)) x := by
  obtain ⟨a, b, c⟩ := start_ok hP figs (List.replicate div.toNat 0) (fun f h => h) good_zero
  obtain ⟨d, e⟩ := turns_ok hP (PySem.W.rangeKs 0 (div - 0).toNat) (startT div figs) 0 a (by
    intro k x hk h
    cases h with
    | one hf h0 => exact b _ hf h0
    | more h' hf => have := numD_k h'; omega)
  refine ⟨d, fun k x hk h => e k x ?_ h⟩
  rw [PySem.W.rangeKs_length]
  omega
theorem found_min {base div : Int} {figs found seen : List Int} (hP : Par base figs div) (I : Inv base figs div [] found seen) {k : Nat} {x : Int} (h : NumD base figs k x) : ∃ m ∈ found, m ≤ x ∧ m % div = x % div := by
  induction h with
  | one hf h0 => exact (I.cov1 _ hf h0).resolve_left (by simp)
  | @more k x f h hf ih =>
    obtain ⟨m, hm, hle, hmod⟩ := ih
    obtain ⟨n, hn, hle2, hmod2⟩ := (I.cov2 m hm f hf).resolve_left (by simp)
    refine ⟨n, hn, ?_, ?_⟩
    · have := Int.mul_le_mul_of_nonneg_left hle (by have := hP.b0; omega : 0 ≤ base)
      omega
    · rw [hmod2, Int.add_emod, Int.mul_emod, hmod, ← Int.mul_emod, ← Int.add_emod]
theorem map_inj {f : Int → Int} : ∀ {l : List Int}, (l.map f).Nodup → ∀ a ∈ l, ∀ b ∈ l, f a = f b → a = b
  | [], _, a, ha, _, _, _ => absurd ha (by simp)
  | c :: r, nd, a, ha, b, hb, e => by
    rw [List.map_cons, List.nodup_cons] at nd
    rcases List.mem_cons.mp ha with ea | ha'
    · rcases List.mem_cons.mp hb with eb | hb'
      · exact ea.trans eb.symm
      · exact absurd (List.mem_map.mpr ⟨b, hb', e.symm.trans (congrArg f ea)⟩) nd.1
    · rcases List.mem_cons.mp hb with eb | hb'
      · exact absurd (List.mem_map.mpr ⟨a, ha', e.trans (congrArg f eb)⟩) nd.1
      · exact map_inj nd.2 a ha' b hb' e
theorem table_found {base div : Int} {figs found seen T : List Int} (hP : Par base figs div) (I : Inv base figs div [] found seen) (G : Good base div figs T) (H : ∀ k x, k ≤ div.toNat + 1 → NumD base figs k x → Has div T x) :
    (T.filter (fun a => a != 0)).Nodup ∧ ∀ y, y ∈ T.filter (fun a => a != 0) ↔ y ∈ found := by
  have hd := hP.d0
  have nd : (found.map (· % div)).Nodup := I.seenE ▸ I.nd
  have hfl := res_len (by omega) nd
  have hH : ∀ m ∈ found, Has div T m := by
    intro m hm
    obtain ⟨k, hk, hn⟩ := I.numF m hm
    exact H k m (by omega) hn
  have ent : ∀ i (hi : i < T.length), T[i] ≠ 0 → (∃ k, NumD base figs k T[i]) ∧ T[i] % div = (i : Int) := by
    intro i hi h0
    have := G.ent i (by rw [← G.len]; exact hi)
    rw [gd_get hi] at this
    exact this.resolve_left h0
  refine ⟨?_, fun y => ⟨fun hy => ?_, fun hy => ?_⟩⟩
  · unfold List.Nodup
    rw [List.pairwise_filter, List.pairwise_iff_getElem]
    intro i j hi hj hij h1 h2 e
    have e1 := (ent i hi (by simpa using h1)).2
    have e2 := (ent j hj (by simpa using h2)).2
    rw [e] at e1
    omega
  · obtain ⟨hy, h0⟩ := List.mem_filter.mp hy
    obtain ⟨i, hi, rfl⟩ := List.getElem_of_mem hy
    obtain ⟨⟨k, hn⟩, hr⟩ := ent i hi (by simpa using h0)
    obtain ⟨m, hm, hle, hmod⟩ := found_min hP I hn
    have := (hH m hm).2
    rw [hmod, hr, Int.toNat_natCast, gd_get hi] at this
    have e : T[i] = m := by omega
    rw [e]; exact hm
  · have r0 := Int.emod_nonneg y (b := div) (by omega)
    have r1 := Int.emod_lt_of_pos y (b := div) (by omega)
    have hi : (y % div).toNat < T.length := by rw [G.len]; omega
    obtain ⟨h0, hle⟩ := hH y hy
    rw [gd_get hi] at h0 hle
    obtain ⟨⟨k, hn⟩, hr⟩ := ent _ hi h0
    obtain ⟨m, hm, hle2, hmod⟩ := found_min hP I hn
    have e : m = y := map_inj nd m hm y hy (by omega)
    have e2 : T[(y % div).toNat] = y := by omega
    refine List.mem_filter.mpr ⟨?_, by simpa using (e2 ▸ h0)⟩
    have := List.getElem_mem hi
    rwa [e2] at this
theorem sorted_eq {xs ys : List Int} (p : xs.Perm ys) (hx : xs.Pairwise (· ≤ ·)) (hy : ys.Pairwise (· ≤ ·)) : xs = ys :=
  List.Perm.eq_of_pairwise (fun _ _ _ _ h1 h2 => Int.le_antisymm h1 h2) hx hy p
theorem nodup_perm {xs ys : List Int} (hx : xs.Nodup) (hy : ys.Nodup) (h : ∀ a, a ∈ xs ↔ a ∈ ys) : xs.Perm ys := by
  rw [List.perm_iff_count]
  intro a
  rw [hx.count, hy.count]
  simp only [h a]
theorem low_eq' {base div : Int} {figs found seen res : List Int} (hP : Par base figs div) (I : Inv base figs div [] found seen)
    (p : res.Perm ((turnsT base div figs (div - 0).toNat (PySem.W.rangeKs 0 (div - 0).toNat) (startT div figs)).filter (fun a => a != 0))) (o : res.Pairwise (· ≤ ·)) : res = found := by
  obtain ⟨G, H⟩ := table_ok hP
  obtain ⟨nd, mem⟩ := table_found hP I G H
  refine sorted_eq (p.trans (nodup_perm nd ?_ mem)) o (I.asc.imp (fun h => Int.le_of_lt h))
  exact I.asc.imp (fun h => Int.ne_of_lt h)
end Mine
end

section
open PySem PySem.W PyProof.Rows PySem.Calls PySem.Spec
namespace Mine
theorem unF_sub {kept : List Int} {x y : Int} (h : y ∈ unF kept x) : y ∈ kept ∨ y = x := by
  unfold unF at h
  split at h
  · exact .inl h
  · rcases List.mem_append.mp h with h | h
    · exact .inl h
    · exact .inr (List.mem_singleton.mp h)
theorem unF_len (kept : List Int) (x : Int) : (unF kept x).length ≤ kept.length + 1 := by
  unfold unF
  split
  · omega
  · simp
theorem un_fold (xs : List Int) : ∀ kept : List Int, (∀ y ∈ xs.foldl unF kept, y ∈ kept ∨ y ∈ xs) ∧ (xs.foldl unF kept).length ≤ kept.length + xs.length := by
  induction xs with
  | nil => intro kept; exact ⟨fun y h => .inl h, by simp⟩
  | cons x r ih =>
    intro kept
    obtain ⟨a, b⟩ := ih (unF kept x)
    refine ⟨fun y hy => ?_, ?_⟩
    · rcases a y hy with h | h
      · rcases unF_sub h with h | h
        · exact .inl h
        · exact .inr (h ▸ .head _)
      · exact .inr (.tail _ h)
    · have := unF_len kept x
      rw [List.foldl_cons, List.length_cons]
      omega
theorem par_un {base div : Int} {xs : List Int} (b0 : 16 ≤ base) (b1 : base ≤ 64) (d0 : 2 ≤ div) (d1 : div ≤ 10) (hl : xs.length ≤ 3) (hb : ∀ x ∈ xs, 0 ≤ x ∧ x < base) : Par base (unlikeF xs) div := by
  obtain ⟨a, b⟩ := un_fold xs []
  refine ⟨b0, b1, d0, d1, ?_, ?_⟩
  · unfold unlikeF; simp at b; omega
  · intro f hf
    rcases a f hf with h | h
    · exact absurd h (by simp)
    · exact hb f h
theorem par_16 {div : Int} {xs : List Int} (d0 : 2 ≤ div) (d1 : div ≤ 10) (hl : xs.length ≤ 3) : Par 16 (unlikeF (List.map (fun k' => Int.fmod k' 16) xs)) div := by
  refine par_un (by decide) (by decide) d0 d1 (by simpa using hl) ?_
  intro x hx
  obtain ⟨y, _, rfl⟩ := List.mem_map.mp hx
  rw [Int.fmod_eq_emod_of_nonneg _ (by decide)]
  omega
theorem par_64 {div : Int} {xs : List Int} (d0 : 2 ≤ div) (d1 : div ≤ 10) (hl : xs.length ≤ 3) : Par 64 (unlikeF (List.map (fun k' => Int.fmod (Int.fdiv k' 16) 64) xs)) div := by
  refine par_un (by decide) (by decide) d0 d1 (by simpa using hl) ?_
  intro x hx
  obtain ⟨y, _, rfl⟩ := List.mem_map.mp hx
  rw [Int.fmod_eq_emod_of_nonneg _ (by decide)]
  omega
theorem low_eq {base div : Int} {figs found seen res : List Int} (hP : Par base figs div) (I : Inv base figs div [] found seen) (R : LowRes base div figs res) : res = found := low_eq' hP I R.1 R.2
end Mine
end

section
open PySem PySem.W PyProof.Rows PySem.Calls PySem.Spec
namespace Mine
def b64L : List Int := [65, 66, 67, 68, 69, 70, 71, 72, 73, 74, 75, 76, 77, 78, 79, 80, 81, 82, 83, 84, 85, 86, 87, 88, 89, 90, 97, 98, 99, 100, 101, 102, 103, 104, 105, 106, 107, 108, 109, 110, 111, 112, 113, 114, 115, 116, 117, 118, 119, 120, 121, 122, 48, 49, 50, 51, 52, 53, 54, 55, 56, 57, 43, 47]
def ch (d : Int) : Int := b64L.getD d.toNat 0
/-- w figures of v to the base 64, the highest first -/
def dgB : Nat → Int → List Int
  | 0, _ => []
  | w + 1, v => dgB w (v / 64) ++ [v % 64]
theorem dgB_len : ∀ (w : Nat) (v : Int), (dgB w v).length = w
  | 0, _ => rfl
  | w + 1, v => by rw [dgB, List.length_append, dgB_len w]; rfl
theorem land_zero (n m : Nat) (h : m < 256) : (n * 256) &&& m = 0 := by
  apply Nat.eq_of_testBit_eq
  intro i
  rw [Nat.testBit_and, Nat.zero_testBit]
  by_cases hi : i < 8
  · have e : n * 256 = 2 ^ 8 * n := by omega
    rw [e, Nat.testBit_two_pow_mul]
    simp; omega
  · have hp : 2 ^ 8 ≤ 2 ^ i := Nat.pow_le_pow_right (by decide) (by omega)
    have : m.testBit i = false := Nat.testBit_lt_two_pow (Nat.lt_of_lt_of_le h hp)
    rw [this]; simp
theorem or_256 {a b : Int} (ha : 0 ≤ a) (hb : 0 ≤ b) (hb1 : b < 256) : Builtin.bitOr (a * 256) b = a * 256 + b := by
  rw [bitOr_and]
  have e : Builtin.bitAnd (a * 256) b = 0 := by
    unfold Builtin.bitAnd
    rw [decide_eq_true (by omega : 0 ≤ a * 256), decide_eq_true hb]
    show (((a * 256).toNat &&& b.toNat : Nat) : Int) = 0
    have e1 : (a * 256).toNat = a.toNat * 256 := by omega
    rw [e1, land_zero _ _ (by omega)]
    rfl
  omega
section
variable {prog : Program} {w : World} {A : Around} {E : Value → Shared → Prop} {s : Shared} {a b n : Int} {t u : Tok} {Q : Value → Shared → Prop}
theorem shl8 (h0 : 0 ≤ a) (h1 : a < 65536) (h : ∀ t' k, Q (.int (a * 256) t') { s with toks := k }) : wpAny (model prog w) A (binaryOp .LShift (.int a t) (.int 8 u)) Q E s := by
  refine lshift_int_small (by decide) (by decide) (by omega) ?_
  exact h _ _
theorem or8 (ha : 0 ≤ a) (hb : 0 ≤ b) (hb1 : b < 256) (h : ∀ t' k, Q (.int (a * 256 + b) t') { s with toks := k }) : wpAny (model prog w) A (binaryOp .BitOr (.int (a * 256) t) (.int b u)) Q E s := by
  refine or_int ?_
  rw [or_256 ha hb hb1]
  exact h _ _
theorem and16 (h : ∀ t' k, 0 ≤ a % 65536 → a % 65536 < 65536 → Q (.int (a % 65536) t') { s with toks := k }) : wpAny (model prog w) A (binaryOp .BitAnd (.int a t) (.int 65535 u)) Q E s := by
  refine and_int ?_
  rw [bitAnd_m16]
  exact h _ _ (by omega) (by omega)
theorem and6 (h : ∀ t' k, 0 ≤ a % 64 → a % 64 < 64 → Q (.int (a % 64) t') { s with toks := k }) : wpAny (model prog w) A (binaryOp .BitAnd (.int a t) (.int 63 u)) Q E s := by
  refine and_int ?_
  rw [bitAnd_m6]
  exact h _ _ (by omega) (by omega)
theorem shrN (hn : 0 ≤ n) (h : ∀ t' k, Q (.int (a / 2 ^ n.toNat) t') { s with toks := k }) : wpAny (model prog w) A (binaryOp .RShift (.int a t) (.int n u)) Q E s := by
  refine rshift_int hn ?_
  rw [Int.fdiv_eq_ediv_of_nonneg _ (Int.le_of_lt (Int.pow_pos (by decide)))]
  exact h _ _
end
theorem valF_nn {base : Int} (hb : 0 ≤ base) : ∀ (rs : List Int), (∀ f ∈ rs, 0 ≤ f) → 0 ≤ valF base rs := by
  intro rs
  unfold valF
  have : ∀ (rs : List Int) (v : Int), 0 ≤ v → (∀ f ∈ rs, 0 ≤ f) → 0 ≤ rs.foldl (fun v f => base * v + f) v := by
    intro rs
    induction rs with
    | nil => intro v h _; exact h
    | cons f r ih =>
      intro v h hf
      refine ih _ (Int.add_nonneg (Int.mul_nonneg hb h) (hf f (.head _))) fun g hg => hf g (.tail _ hg)
  exact fun h => this rs 0 (by omega) h

/-- between the turns of b2a_base64's outer loop -/
def B64 (V : Int) (n : Nat) (lb : Int) (out : List Int) : Prop := 0 ≤ lb ∧ lb + 6 * (out.length : Int) = 8 * (n : Int) ∧ out = (dgB out.length (V / 2 ^ lb.toNat)).map ch
theorem b64_start : B64 (valF 256 []) 0 0 [] := ⟨by decide, rfl, rfl⟩
theorem dd (a : Int) {b c : Int} (hb : 0 ≤ b) : a / b / c = a / (b * c) := by
  rw [Int.ediv_ediv, if_neg (by omega)]
  omega
theorem b64_in {n : Int} {pre : List Int} {lb : Int} {out : List Int} (hn0 : 0 ≤ n) (hn1 : n < 256) (h : B64 (valF 256 pre) pre.length lb out) : B64 (valF 256 (pre ++ [n])) (pre.length + 1) (lb + 8) out := by
  obtain ⟨h0, h1, h2⟩ := h
  refine ⟨by omega, by omega, h2.trans ?_⟩
  rw [valF_snoc]
  have e : (lb + 8).toNat = 8 + lb.toNat := by omega
  rw [e, Int.pow_add, ← dd (256 * valF 256 pre + n) (by decide : (0 : Int) ≤ 2 ^ 8)]
  have e3 : (256 * valF 256 pre + n) / 2 ^ 8 = valF 256 pre := by
    show (256 * valF 256 pre + n) / 256 = _
    omega
  rw [e3]
theorem b64_step {V lb : Int} {n : Nat} {out : List Int} (h : B64 V n lb out) (hl : 6 ≤ lb) (hh : lb < 14) : B64 V n (lb - 6) (out ++ [ch (V % 65536 / 2 ^ (lb - 6).toNat % 64)]) := by
  obtain ⟨h0, h1, h2⟩ := h
  refine ⟨by omega, by rw [List.length_append]; simp only [List.length_cons, List.length_nil]; omega, ?_⟩
  have el : (out ++ [ch (V % 65536 / 2 ^ (lb - 6).toNat % 64)]).length = out.length + 1 := by simp
  rw [el, dgB, List.map_append]
  have e1 : V / 2 ^ (lb - 6).toNat / 64 = V / 2 ^ lb.toNat := by
    rw [dd _ (Int.le_of_lt (Int.pow_pos (by decide)))]
    have : lb.toNat = (lb - 6).toNat + 6 := by omega
    rw [this, Int.pow_add]
    rfl
  have e2 : V % 65536 / 2 ^ (lb - 6).toNat % 64 = V / 2 ^ (lb - 6).toNat % 64 := by
    generalize hj : (lb - 6).toNat = j
    have : j = 0 ∨ j = 1 ∨ j = 2 ∨ j = 3 ∨ j = 4 ∨ j = 5 ∨ j = 6 ∨ j = 7 := by omega
    rcases this with rfl | rfl | rfl | rfl | rfl | rfl | rfl | rfl <;> simp only [Int.reducePow] <;> omega
  rw [e1, e2, ← h2]
  rfl
end Mine
end

section
open PySem PySem.W PyProof.Rows PySem.Calls PySem.Spec
namespace Mine
theorem digF_step {b : Nat} {base x f : Int} (hb : base = (b : Int) + 2) (hx : 0 ≤ x) (hf0 : 0 ≤ f) (hf1 : f < base) (h : 0 < base * x + f) : digF b (base * x + f).toNat = digF b x.toNat ++ [f] := by
  have hp : 0 ≤ base * x := Int.mul_nonneg (by omega) hx
  rw [digF, dif_neg (by omega)]
  have ex : ((x.toNat : Nat) : Int) = x := by omega
  have ef : ((f.toNat : Nat) : Int) = f := by omega
  have en : (base * x + f).toNat = (b + 2) * x.toNat + f.toNat := by
    have : (((b + 2) * x.toNat : Nat) : Int) = base * x := by rw [Int.natCast_mul, ex, hb]; rfl
    omega
  have hlt : f.toNat < b + 2 := by omega
  rw [en, Nat.mul_add_div (by omega), Nat.mul_add_mod, Nat.div_eq_of_lt hlt, Nat.mod_eq_of_lt hlt, Nat.add_zero, ef]
theorem digF_0 (b : Nat) : digF b 0 = [] := by rw [digF]; rfl
theorem dig_num {b : Nat} {base div : Int} {figs : List Int} (hb : base = (b : Int) + 2) (hP : Par base figs div) {k : Nat} {x : Int} (h : NumD base figs k x) :
    (digF b x.toNat).length = k ∧ (∀ f ∈ digF b x.toNat, f ∈ figs) ∧ valF base (digF b x.toNat) = x ∧ ¬ (digF b x.toNat).take 1 = [0] := by
  induction h with
  | @one f hf h0 =>
    obtain ⟨f0, f1⟩ := hP.fb f hf
    have := digF_step (b := b) (x := 0) hb (by omega) f0 f1 (by rw [Int.mul_zero]; omega)
    rw [Int.mul_zero, Int.zero_add] at this
    rw [this, show (0 : Int).toNat = 0 from rfl, digF_0]
    refine ⟨rfl, fun g hg => ?_, ?_, ?_⟩
    · rw [List.nil_append, List.mem_singleton] at hg; exact hg ▸ hf
    · show base * 0 + f = f; rw [Int.mul_zero]; omega
    · simpa using h0
  | @more k x f h hf ih =>
    obtain ⟨f0, f1⟩ := hP.fb f hf
    obtain ⟨a, c, d, e⟩ := ih
    have hx := numD_pos hP h
    have hk := numD_k h
    rw [digF_step hb (by omega) f0 f1 (numD_pos hP (.more h hf))]
    refine ⟨by rw [List.length_append, a]; rfl, fun g hg => ?_, by rw [valF_snoc, d], ?_⟩
    · rcases List.mem_append.mp hg with hg | hg
      · exact c g hg
      · rw [List.mem_singleton] at hg; exact hg ▸ hf
    · rw [List.take_append_of_le_length (by omega)]; exact e
/-- a number found: its figures -/
theorem dig_found {b : Nat} {base div : Int} {figs found seen : List Int} (hb : base = (b : Int) + 2) (hP : Par base figs div) (I : Inv base figs div [] found seen) {x : Int} (hx : x ∈ found) :
    0 < x ∧ 0 < (digF b x.toNat).length ∧ (digF b x.toNat).length ≤ 10 ∧ (∀ f ∈ digF b x.toNat, f ∈ figs) ∧ valF base (digF b x.toNat) = x ∧ ¬ (digF b x.toNat).take 1 = [0] := by
  have hd := hP.d0
  have hd1 := hP.d1
  have nd : (found.map (· % div)).Nodup := I.seenE ▸ I.nd
  have hfl := res_len (by omega) nd
  obtain ⟨k, hk, hn⟩ := I.numF x hx
  obtain ⟨a, c, d, e⟩ := dig_num hb hP hn
  have := numD_k hn
  exact ⟨numD_pos hP hn, by omega, by omega, c, d, e⟩
theorem apL_len (n : Nat) : (apL n).length = (digF 14 n).length := by unfold apL; simp
theorem apL_back (n : Nat) : (apL n).map (fun k => k - 65) = digF 14 n := by
  unfold apL
  rw [List.map_map]
  refine (List.map_congr_left fun a _ => ?_).trans (List.map_id _)
  show 65 + a - 65 = a
  omega
/-- a number below base ^ k in k places: noughts, and its figures behind -/
theorem dgB_dig : ∀ (w : Nat) (x : Int), 0 ≤ x → (digF 62 x.toNat).length ≤ w → dgB w x = List.replicate (w - (digF 62 x.toNat).length) 0 ++ digF 62 x.toNat
  | 0, x, _, hl => by
    have : digF 62 x.toNat = [] := List.eq_nil_of_length_eq_zero (by omega)
    rw [this]; rfl
  | w + 1, x, h0, hl => by
    by_cases e : x = 0
    · subst e
      have ih := dgB_dig w 0 (by omega) (by rw [show (0 : Int).toNat = 0 from rfl, digF_0]; simp)
      rw [show (0 : Int).toNat = 0 from rfl, digF_0] at ih ⊢
      rw [dgB, show (0 : Int) / 64 = 0 from rfl, ih]
      simp [List.replicate_succ']
    · have es : digF 62 x.toNat = digF 62 (x / 64).toNat ++ [x % 64] := by
        have := digF_step (b := 62) (base := 64) (x := x / 64) (f := x % 64) rfl (by omega) (by omega) (by omega) (by omega)
        rwa [show 64 * (x / 64) + x % 64 = x by omega] at this
      rw [es, List.length_append, List.length_singleton] at hl
      rw [dgB, dgB_dig w (x / 64) (by omega) (by omega), es, List.length_append, List.length_singleton, List.append_assoc]
      have : w + 1 - ((digF 62 (x / 64).toNat).length + 1) = w - (digF 62 (x / 64).toNat).length := by omega
      rw [this]
end Mine
end

section
open PySem PySem.W PyProof.Rows PySem.Calls PySem.Spec
set_option maxRecDepth 100000
set_option maxHeartbeats 1000000
namespace Mine
theorem lt_ne {l : List (Addr × Obj)} {d : Addr} (h : ∀ p ∈ l, p.1 < d) : ∀ q ∈ l, q.1 ≠ d := fun q hq => Nat.ne_of_lt (h q hq)
theorem own_ne {own l : List (Addr × Obj)} {b : Addr} {o : Obj} (h : OwnOff own (List.map (fun x => x.1) ((b, o) :: l))) : ∀ p ∈ own, p.1 ≠ b := OwnOff.ne h (List.Mem.head _)
local macro_rules | `(tactic| k_all) => `(tactic| first | assumption | exact lt_ne (by assumption) | exact own_ne (by assumption) | exact allLt_ne (by assumption) | exact allLt_ne (And.right (by assumption)) | ((with_reducible refine List.forall_mem_append.mpr ⟨?_, ?_⟩) <;> k_all))
local macro_rules | `(tactic| ktr_unf) => `(tactic| ((case B => k_asm); (case F => k_asm); (case X => k_asm); (case N => k_asm); (case T => k_asm); (case k => exact rfl); (case d => ktr_room); (case u => ktr_units)))
structure BW (pre : List Int) (lc lb : Int) (out : List Int) : Prop where
  e : lc = valF 256 pre % 65536
  c0 : 0 ≤ lc
  c1 : lc < 65536
  l1 : lb < 6
  b : B64 (valF 256 pre) pre.length lb out
structure BI (pre : List Int) (n lb : Int) (out : List Int) : Prop where
  b : B64 (valF 256 (pre ++ [n])) (pre.length + 1) lb out
theorem bw_start : BW [] 0 0 [] ∧ (0 : Int) ≤ 0 ∧ (0 : Int) < 6 ∧ ([] : List Int).length ≤ 12 := ⟨⟨rfl, by decide, by decide, by decide, b64_start⟩, by decide, by decide, by decide⟩
theorem b6_in {n lc lb : Int} {pre out : List Int} (h : BW pre lc lb out) (hn0 : 0 ≤ n) (hn1 : n < 256) (h0 : 0 ≤ lb) (hl : pre.length < 9) :
    BI pre n (lb + 8) out ∧ 0 ≤ lb + 8 ∧ lb + 8 < 14 ∧ out.length ≤ 12 := by
  refine ⟨⟨b64_in hn0 hn1 h.b⟩, by omega, by have := h.l1; omega, ?_⟩
  have := h.b.2.1
  omega
theorem b6_step {n lb lc l₀ : Int} {pre out o₀ : List Int} (h : BI pre n lb out) (w : BW pre lc l₀ o₀) (h0 : 0 ≤ lb) (h1 : lb < 14) (h6 : lb ≥ 6) (hl : pre.length < 9) :
    BI pre n (lb - 6) (out ++ [b64L.getD ((lc * 256 + n) % 65536 / 2 ^ (lb - 6).toNat % 64).toNat 0]) ∧ 0 ≤ lb - 6 ∧ lb - 6 < 14 ∧ (out ++ [b64L.getD ((lc * 256 + n) % 65536 / 2 ^ (lb - 6).toNat % 64).toNat 0]).length ≤ 12 := by
  have e2 : (lc * 256 + n) % 65536 = valF 256 (pre ++ [n]) % 65536 := by rw [valF_snoc, w.e]; omega
  have st := b64_step h.b h6 h1
  rw [e2]
  refine ⟨⟨st⟩, by omega, by omega, ?_⟩
  have := st.2.1
  have q : (out ++ [ch (valF 256 (pre ++ [n]) % 65536 / 2 ^ (lb - 6).toNat % 64)]).length ≤ 12 := by omega
  exact q
theorem b6_out {n lb lc l₀ : Int} {pre out o₀ : List Int} (h : BI pre n lb out) (w : BW pre lc l₀ o₀) (h0 : 0 ≤ lb) (hl : out.length ≤ 12) (h6 : lb < 6) :
    BW (pre ++ [n]) ((lc * 256 + n) % 65536) lb out ∧ 0 ≤ lb ∧ lb < 6 ∧ out.length ≤ 12 := by
  have e2 : (lc * 256 + n) % 65536 = valF 256 (pre ++ [n]) % 65536 := by rw [valF_snoc, w.e]; omega
  have el : (pre ++ [n]).length = pre.length + 1 := by simp
  exact ⟨⟨e2, by omega, by omega, h6, by rw [el]; exact h.b⟩, h0, h6, hl⟩
theorem fr_two {h₀ h : Heap} {L : Addr} {a b : Str} {u v : Value} (F : Fr h₀ L h (fun y => List.lookup y [(a, u), (b, v)])) : Fr h₀ L h (fun y => if y = a then some u else if y = b then some v else none) := by
  have e : (fun y => if y = a then some u else if y = b then some v else none) = (fun y => List.lookup y [(a, u), (b, v)]) := by
    funext y
    simp only [List.lookup]
    by_cases h1 : y = a
    · subst h1; simp
    · rw [if_neg h1, beq_eq_false_iff_ne.mpr h1]
      by_cases h2 : y = b
      · subst h2; simp
      · rw [if_neg h2, beq_eq_false_iff_ne.mpr h2]
  rw [e]
  exact F
local macro_rules | `(tactic| walk_at "binaryOp RShift int int") => `(tactic| ((refine shrN ?hn ?_; (case hn => omega)); intro _ _))
theorem b64_item {prog : Program} {w : World} {A : Around} {E : Value → Shared → Prop} {s : Shared} {value slice : PySem.Expr} {b : Array UInt8} {t ui : Tok} {i : Int} {Q : Value → Shared → Prop} (hb : KBw.bInts b = b64L) (h0 : 0 ≤ i) (h1 : i < 64)
    (h : ∀ t' k, Q (.int (b64L.getD i.toNat 0) t') { s with toks := k })
    (hs : subscripted slice false (.bytes b t) (.int i ui) = operate [.bytes b t, .int i ui] (getItem (.bytes b t) (.int i ui)) := by with_unfolding_all rfl)
    (ht : ∀ r, letTemporaryGo value (.bytes b t) r = pure () := by intro _; with_unfolding_all rfl) : wpAny (model prog w) A (subscriptTail value slice (.bytes b t) (.int i ui)) Q E s :=
  KBw.item_K hb (by decide) h0 h1 (fun t' k _ _ => h t' k) hs ht
local macro_rules | `(tactic| walk_at "subscriptTail") => `(tactic| ((with_reducible show wpAny _ _ (subscriptTail _ _ (Value.bytes _ _) (Value.int _ _)) _ _ _); (refine b64_item ?hb ?h0 ?h1 ?_; (case hb => with_unfolding_all rfl); (case h0 => assumption); (case h1 => assumption)); intro _ _))
theorem bw_end {ds out : List Int} {lc lb : Int} (h : BW ds lc lb out) (hl : ds.length = 9) : lb = 0 ∧ out.length = 12 ∧ out = (dgB 12 (valF 256 ds)).map ch := by
  have h1 := h.b.1
  have h2 := h.b.2.1
  have h3 := h.l1
  rw [hl] at h2
  have e0 : lb = 0 := by omega
  subst e0
  have el : out.length = 12 := by omega
  refine ⟨rfl, el, ?_⟩
  have := h.b.2.2
  rw [el] at this
  simpa using this
theorem dg_in (w : Nat) (v : Int) : KBa.In ((dgB w v).map ch) := by
  intro n hn
  obtain ⟨d, _, rfl⟩ := List.mem_map.mp hn
  have : ∀ k : Nat, k < 64 → 0 ≤ b64L.getD k 0 ∧ b64L.getD k 0 < 256 := by decide +kernel
  unfold ch
  by_cases hk : d.toNat < 64
  · exact this _ hk
  · have e : b64L.getD d.toNat 0 = 0 := by rw [List.getD_eq_getElem?_getD, List.getElem?_eq_none (by show 64 ≤ _; omega)]; rfl
    rw [e]; decide
def ConK (prog : Program) (w : World) (p : Program) (loose : List Str) (mean : ExcName → Option Value) (mg mb : Str → Option Value) (f D U : Nat) (args : List Value) (kw : List (Str × Value)) (news : List (Addr × Obj)) (Post : List (Addr × Obj) → Value → Prop) : Prop :=
  ∀ (dp un : Nat) (gd : Option (List Code)) (cn : Str) (cs : Scope) (a : Addr) (ccd : Value) (cl : List (Str × Addr)) (outer : List Env) (A₀ : Around) (base h₀ : Heap) (L : Addr) (m : Str → Option Value) (s : Shared) (Q E : Value → Shared → Prop),
    Below A₀ base outer h₀ → Fr h₀ L s.heap m → (Mine.hd.heap_39 w.params).In h₀ → News h₀ L s.heap news → Top p loose mean mg mb h₀ → cs.kind = .function →
    dp + D < recursionLimit → un + U < cLine →
    (∀ v h' tk' news', Fr h₀ L h' m → News h₀ L h' news' → Post news' v → Q v { s with heap := h', toks := tk' }) →
    wpAny (model prog w) (ktrTop dp un gd cn cs L a ccd cl outer) (call (.ref f) args kw) Q E s
set_option pp.deepTerms false
set_option pp.maxSteps 4000
theorem b2_spec {prog : Program} {w : World} {p : Program} {loose : List Str} {mean : ExcName → Option Value} {mg mb : Str → Option Value}
    (news : List (Addr × Obj)) (bs : Array UInt8) (t1 : Tok) (ds : List Int) (hds : KBw.bInts bs = ds) (hl : ds.length = 9) :
    ConK prog w p loose mean mg mb 50 3 150 [.bytes bs t1] [(Str.ofString "newline", .bool false)] news (fun news' v => ∃ cs t, v = .bytes cs t ∧ news' = news ∧ KBw.bInts cs = (dgB 12 (valF 256 ds)).map ch) := by
  w_top off
  k_with_none
  intro dp un gd cn cs a ccd cl outer A₀ base₀ h₀ L m s Q E hB hF hK hN hT hcs hdp hun hret
  refine wpAny_call ?_
  k_dflt cell_enter
  rename Fr _ _ _ (fun y => _) => FF
  replace FF := fr_two (a := Str.ofString "newline") (u := .bool false) (b := Str.ofString "data") (v := .bytes bs t1) FF
  k_steps
  refine' con_use (bu_spec _ _ _) ?B ?F ?X ?N ?T ?k ?d ?u ?_
  ktr_unf
  rintro v h' tk' news' F' N' ⟨rfl, rfl⟩
  (try dsimp only)
  k_steps
  refine' con_use (tr_spec _) ?B ?F ?X ?N ?T ?k ?d ?u ?_
  ktr_unf
  rintro v h' tk' news' F' N' ⟨rfl, rfl⟩
  (try dsimp only)
  k_with "pyIterx bytes" => k_state (fun pre lc lb out => BW pre lc lb out ∧ 0 ≤ lb ∧ lb < 6 ∧ out.length ≤ 12) "leftchar" "leftbits" "out"
  k_with "exec While Compare cons nil" => k_while (fun _ lb out => BI kPre kN lb out ∧ 0 ≤ lb ∧ lb < 14 ∧ out.length ≤ 12) (fun _ lb _ => lb.toNat) "leftbits" "out"
  k_with "binaryOp LShift int int" => ((refine shl8 (BW.c0 (by assumption)) (BW.c1 (by assumption)) ?_); intro _ _)
  k_with "binaryOp BitOr int int" => ((refine or8 (BW.c0 (by assumption)) (by omega) (by omega) ?_); intro _ _)
  k_with "binaryOp BitAnd int int" => first | ((refine and16 ?_); intro _ _ _ _) | ((refine and6 ?_); intro _ _ _ _)
  k_with "binaryOp RShift int int" => ((refine shrN (by omega) ?_); intro _ _)
  k_with "state" => first
    | exact bw_start
    | exact b6_in (by assumption) (by assumption) (by assumption) (by assumption) (by omega)
    | exact b6_step (by assumption) (by assumption) (by assumption) (by assumption) (by omega) (by omega)
    | exact b6_out (by assumption) (by assumption) (by assumption) (by assumption) (by omega)
  repeat' (first | (k_unfold; (try dsimp only)) | (k_end; wrow_close) | ((fail_if_success (with_reducible show wpAny _ _ (pyIter _) _ _ _)); first | walk1 | (dsimp only; walk1)) | (leave1; walk_say "STEP leave1"; try dsimp only) | fail "no step")
  rename Fr _ _ _ _ => lF'
  rename News _ _ _ _ => lN'
  refine' KStb.kst_bytes (σ := Int × Nat × Int × Nat × List Value × List Int × Nat) (fun c => (_, listOf c.2.2.2.2.1.toArray c.2.2.2.2.2.2) :: news') (fun c => [(Str.ofString "leftchar", .int c.1 c.2.1), (Str.ofString "leftbits", .int c.2.2.1 c.2.2.2.1)]) (fun c => IntsAre c.2.2.2.2.1 c.2.2.2.2.2.1) [] (fun pre c => BW pre c.1 c.2.2.1 c.2.2.2.2.2.1 ∧ 0 ≤ c.2.2.1 ∧ c.2.2.1 < 6 ∧ c.2.2.2.2.2.1.length ≤ 12) (0, _, 0, _, [], [], 0) hds rfl rfl lF' lN' .nil ?kK9 bw_start ?_ ?_
  case kK9 => exact List.forall_mem_cons.mpr ⟨by with_unfolding_all rfl, List.forall_mem_cons.mpr ⟨by with_unfolding_all rfl, List.forall_mem_nil _⟩⟩
  trace "one"
  all_goals clear lF' lN'
  · rintro ⟨lc, tlc, lb, tlb, ov, out, on⟩ kPre kPost kN kT kU kH kTk kOwn kEq kLen kLo kHi kOff kFacts ⟨kW, kL0, kL1, kOl⟩ kFr kNews
    dsimp only at kFacts kW kL0 kL1 kOl kFr kNews
    have kMark := kstMark
    have kLenO := kFacts.length
    (try k_fold)
    k_steps
    all_goals ((rename News _ _ _ _ => nE'); (try simp only [List.push_toArray] at nE'); (refine ksw_end ⟨_, _, _, _, _⟩ (by assumption) nE' (by kst_in) (by kst_facts) (by kst_all) ?zz ?pp ?mm))
    case zz => intro z h2 h3; have h2' := h2 _ (List.Mem.head _); exact (if_neg h2').trans ((if_neg h2').trans rfl)
    case pp => dsimp only; exact b6_step (by assumption) (by assumption) (by assumption) (by assumption) (by omega) (by omega)
    case mm => dsimp only; omega
  · rintro ⟨lc, tlc, lb, tlb, ov, out, on⟩ kU kH kTk kLen kFacts ⟨kW, kL0, kL1, kOl⟩ kFr kNews
    dsimp only at kFacts kW kL0 kL1 kOl kFr kNews
    have kMark := kstMark
    have kLenO := kFacts.length
    obtain ⟨rfl, kOl2, kOe⟩ := bw_end kW hl
    (try dsimp only)
    (try k_fold)
    k_steps
    subst kOe
    refine' KBa.make_K ?kbaF ?kbaN ?kbah ?kbal ?kbai ?kbar ?kban ?_
    case kbaF => k_asm
    case kbaN => k_asm
    case kbah => rfl
    case kbal => exact PySem.IsL.isList ((by k_asm : News _ _ _ _) _ (List.Mem.head _)).1
    case kbai => exact kFacts
    case kbar => exact dg_in _ _
    case kban => rw [kOl2]; decide
    intro h9 t9 k9 F9 N9 I9
    k_steps
    exact hret _ _ _ _ (by k_asm) (news_sub (by k_asm) (fun _ h => List.Mem.tail _ h)) ⟨_, _, rfl, rfl, KBa.ints_make I9⟩
end Mine
end

section
open PySem PySem.W PyProof.Rows PySem.Calls PySem.Spec
set_option maxRecDepth 100000
set_option maxHeartbeats 1000000
namespace Mine
local macro_rules | `(tactic| ktr_unf) => `(tactic| ((case B => k_asm); (case F => k_asm); (case X => k_asm); (case N => k_asm); (case T => k_asm); (case k => exact rfl); (case d => ktr_room); (case u => ktr_units)))
theorem conK_use {prog : Program} {w : World} {p : Program} {loose : List Str} {mean : ExcName → Option Value} {mg mb : Str → Option Value} {f D U : Nat} {args : List Value} {kw : List (Str × Value)} {news : List (Addr × Obj)} {Post : List (Addr × Obj) → Value → Prop}
    {dp un : Nat} {gd : Option (List Code)} {cn : Str} {cs : Scope} {a : Addr} {ccd : Value} {cl : List (Str × Addr)} {outer : List Env} {A₀ : Around} {base h₀ : Heap} {L : Addr} {m : Str → Option Value} {s : Shared} {Q E : Value → Shared → Prop}
    (C : ConK prog w p loose mean mg mb f D U args kw news Post) (B : Below A₀ base outer h₀) (F : Fr h₀ L s.heap m) (X : (Mine.hd.heap_39 w.params).In h₀) (N : News h₀ L s.heap news) (T : Top p loose mean mg mb h₀) (hk : cs.kind = .function)
    (hd : dp + D < recursionLimit) (hu : un + U < cLine)
    (ret : ∀ v h' tk' news', Fr h₀ L h' m → News h₀ L h' news' → Post news' v → Q v { s with heap := h', toks := tk' }) :
    wpAny (model prog w) (ktrTop dp un gd cn cs L a ccd cl outer) (call (.ref f) args kw) Q E s := C _ _ _ _ _ _ _ _ _ _ _ _ _ _ _ _ _ B F X N T hk hd hu ret
set_option pp.deepTerms false
set_option pp.maxSteps 1000
theorem be_spec {prog : Program} {w : World} {p : Program} {loose : List Str} {mean : ExcName → Option Value} {mg mb : Str → Option Value}
    (news : List (Addr × Obj)) (bs : Array UInt8) (t1 : Tok) (ds : List Int) (hds : KBw.bInts bs = ds) (hl : ds.length = 9) :
    Con prog w p loose mean mg mb 58 4 160 [.bytes bs t1] news (fun news' v => ∃ cs t, v = .bytes cs t ∧ news' = news ∧ KBw.bInts cs = (dgB 12 (valF 256 ds)).map ch) := by
  w_top off
  k_with_none
  intro dp un gd cn cs a ccd cl outer A₀ base₀ h₀ L m s Q E hB hF hK hN hT hcs hdp hun hret
  refine wpAny_call ?_
  k_dflt (refine' code_def ?k1 ?k2 ?k3 ?k4 ?k5 ?kA ?kF ?kK ?k6 ?k7 ?k8 ?k9 ?kB ?_ ?c2 ?c3 ?c4 ?c5; (case kA => exact rfl); (case kF => exact rfl); (case kK => assumption); (case k1 => k_asm); (case k2 => k_asm); (case k3 => k_asm); (case k4 => k_asm); (case k5 => k_asm); (case k6 => k_is); (case k7 => k_is); (case k8 => ktr_room); (case k9 => first | exact BindsTo.of_eq rfl | exact binds_K (by k_in) rfl (by k_is) rfl rfl rfl); (case c5 => decide); (case kB => exact locs rfl); (case c2 => exact rfl); (case c3 => exact rfl); (case c4 => exact rfl); k_whole; intro g' L' h' FG' F' N' B' X' T'; (try dsimp only); (try k_lift B'); (try k_fold))
  k_steps
  refine' conK_use (b2_spec _ bs t1 ds hds hl) ?B ?F ?X ?N ?T ?k ?d ?u ?_
  ktr_unf
  rintro v h' tk' news' F' N' ⟨cs', t', rfl, rfl, e'⟩
  (try dsimp only)
  k_steps
  exact hret _ _ _ _ (by k_asm) (by k_asm) ⟨_, _, rfl, rfl, e'⟩
end Mine
end

section
open PySem PySem.W PyProof.Rows PySem.Calls PySem.Spec
namespace Mine
theorem down_rg {k : Int} (h : k ∈ (List.range 9).map (fun (i : Nat) => (8 : Int) + i * (-1))) : 0 ≤ k ∧ k ≤ 8 := by
  obtain ⟨i, hi, rfl⟩ := List.mem_map.mp h
  have := List.mem_range.mp hi
  omega
section
variable {prog : Program} {w : World} {A : Around} {E : Value → Shared → Prop} {s : Shared} {a n : Int} {t u : Tok} {Q : Value → Shared → Prop}
theorem pow256 (h0 : 0 ≤ n) (h1 : n ≤ 8) (h : ∀ t' k, Q (.int (256 ^ n.toNat) t') { s with toks := k }) : wpAny (model prog w) A (binaryOp .Pow (.int 256 t) (.int n u)) Q E s :=
  pow_int_small h0 (by omega) (by decide) (h _ _)
theorem fd256 {j : Nat} (hj : j ≤ 8) (h : ∀ t' k, Q (.int (a.fdiv (256 ^ j)) t') { s with toks := k }) : wpAny (model prog w) A (binaryOp .FloorDiv (.int a t) (.int (256 ^ j) u)) Q E s :=
  floordiv_int (Int.ne_of_gt (Int.pow_pos (by decide))) (h _ _) (Or.inl (PyProof.noPylong_of_log2 (by
    have : ∀ j : Nat, j ≤ 8 → ((256 : Int) ^ j).natAbs.log2 < 9000 := by decide +kernel
    exact this j hj)))
end
/-- the nine octets -/
def octs (n : Int) : List Int := ((List.range 9).map (fun (i : Nat) => (8 : Int) + i * (-1))).map (fun k => (n.fdiv (256 ^ k.toNat)).fmod 256)
theorem octs_len (n : Int) : (octs n).length = 9 := rfl
theorem octs_eq (n : Int) : octs n = [n / 256 ^ 8 % 256, n / 256 ^ 7 % 256, n / 256 ^ 6 % 256, n / 256 ^ 5 % 256, n / 256 ^ 4 % 256, n / 256 ^ 3 % 256, n / 256 ^ 2 % 256, n / 256 % 256, n % 256] := by
  have e : ∀ j : Nat, (n.fdiv (256 ^ j)).fmod 256 = n / 256 ^ j % 256 := fun j => by
    rw [Int.fmod_eq_emod_of_nonneg _ (by decide), Int.fdiv_eq_ediv_of_nonneg _ (Int.le_of_lt (Int.pow_pos (by decide)))]
  have : octs n = [8, 7, 6, 5, 4, 3, 2, 1, 0].map (fun k : Int => (n.fdiv (256 ^ k.toNat)).fmod 256) := rfl
  rw [this]
  simp only [List.map_cons, List.map_nil, e]
  simp
theorem octs_in (n : Int) : ∀ k ∈ octs n, 0 ≤ k ∧ k < 256 := by
  rw [octs_eq]
  intro k hk
  simp only [List.mem_cons, List.not_mem_nil, or_false] at hk
  omega
theorem octs_val {n : Int} (h0 : 0 ≤ n) (h1 : n < 256 ^ 9) : valF 256 (octs n) = n := by
  rw [octs_eq]
  simp only [valF, List.foldl_cons, List.foldl_nil, Int.reducePow] at h1 ⊢
  omega
theorem valF_lt {base : Int} (hb : 0 < base) (rs : List Int) (h : ∀ f ∈ rs, 0 ≤ f ∧ f < base) : valF base rs < base ^ rs.length := by
  have key : ∀ (rs : List Int) (v : Int), (∀ f ∈ rs, 0 ≤ f ∧ f < base) → rs.foldl (fun v f => base * v + f) v < (v + 1) * base ^ rs.length := by
    intro rs
    induction rs with
    | nil => intro v _; rw [List.foldl_nil, List.length_nil, Int.pow_zero]; omega
    | cons f r ih =>
      intro v h
      have h1 := ih (base * v + f) fun g hg => h g (.tail _ hg)
      have h2 := (h f (.head _)).2
      have h3 : (base * v + f + 1) * base ^ r.length ≤ (base * (v + 1)) * base ^ r.length := Int.mul_le_mul_of_nonneg_right (by rw [Int.mul_add]; omega) (Int.le_of_lt (Int.pow_pos hb))
      rw [List.length_cons, Int.pow_succ]
      have h4 : (base * (v + 1)) * base ^ r.length = (v + 1) * (base ^ r.length * base) := by
        rw [Int.mul_comm base (v + 1), Int.mul_assoc, Int.mul_comm base (base ^ _)]
      exact Int.lt_of_lt_of_le h1 (h4 ▸ h3)
  have := key rs 0 h
  rw [Int.zero_add, Int.one_mul] at this
  exact this
theorem found_lt {div : Int} {figs found seen : List Int} (hP : Par 64 figs div) (I : Inv 64 figs div [] found seen) {x : Int} (hx : x ∈ found) : x < 256 ^ 9 := by
  obtain ⟨_, _, h2, h3, h4, _⟩ := dig_found (b := 62) (base := 64) rfl hP I hx
  have := valF_lt (base := 64) (by decide) (digF 62 x.toNat) fun f hf => hP.fb f (h3 f hf)
  rw [h4] at this
  have h5 : ∀ l : Nat, l ≤ 10 → (64 : Int) ^ l ≤ 256 ^ 9 := by decide +kernel
  have h6 := h5 _ h2
  omega
end Mine
end

section
open PySem PySem.W PyProof.Rows PySem.Calls PySem.Spec
set_option maxRecDepth 100000
namespace Mine
theorem bf_owner : Manifest.owners.lookup (String.ofList ['s', 'e', 't', 'y', 'b'].reverse) = some Manifest.sig_bytes := by kernel_rfl
theorem bf_slot : Slot "bytes" "find" "bytes.find" :=
  .of (owner := "bytes") (n := "find") (by rw [typeLookup_type, builtinLookup_eq_fast]; kernel_rfl) (by decide +kernel) (by decide +kernel) (by decide +kernel)
    (by first | exact .inl (by decide +kernel) | exact .inr (by decide +kernel)) (by rw [isSubtype_type]; kernel_rfl)
theorem bf_type : typeOf (.builtin "bytes.find") = pure (.type "method_descriptor") := by show builtinType _ = _; rw [builtinType_eq_fast]; kernel_rfl
theorem bf_entry : entryFor table "bytes.find" = some Builtin.«bytes.find» := entryFor_of_tree (by kernel_rfl)
theorem bf_args (a b : Value) : argsOk "bytes.find" ⟨[a, b], []⟩ := by
  unfold argsOk; rw [signature?_of (id := "bytes.find") (n := ['d', 'n', 'i', 'f']) (o := ['s', 'e', 't', 'y', 'b']) (by kernel_rfl) bf_owner]; kernel_rfl
theorem bf_window (n : Nat) : Builtin.Bytes.window n none none = (0, (n : Int)) := by
  unfold Builtin.Bytes.window
  have h : ¬ ((n : Int) < 0) := by omega
  simp [h]
theorem bf_meets {b c : Array UInt8} {t u : Tok} {i : Nat} (hsz : c.size ≤ b.size) (hf : Builtin.Bytes.find? b c 0 b.size = some i) :
    Meets (Builtin.«bytes.find» ⟨[.bytes b t, .bytes c u], []⟩) (fun _ R s => ∀ t' k, R (.ok (.ret (.int (i : Int) t'))) { s with toks := k }) := by
  refine .of_wp fun prog w A R s hS => ?_
  unfold Builtin.«bytes.find» Builtin.Bytes.searchM
  refine wpAny_bind ?_
  unfold Builtin.Bytes.searchArgs
  refine wpAny_bind (wpAny_of_eq (a := (Value.bytes b t, [Value.bytes c u])) rfl ?_)
  refine wpAny_bind (wpAny_of_eq (a := none) rfl ?_)
  refine wpAny_bind (wpAny_of_eq (a := none) rfl ?_)
  show wpAny _ _ (Builtin.Bytes.buffer? _ (.bytes c u) >>= fun r => _) _ _ s
  refine wpAny_bind (wpAny_of_eq KBy.buffer_eq ?_)
  show wpAny _ _ (pure c >>= fun r => _) _ _ s
  refine wpAny_bind (wpAny_pure ?_)
  refine wpAny_bind (wpAny_of_eq (a := b) rfl ?_)
  rw [bf_window]
  have hlt : ¬ ((b.size : Int) - 0 < (c.size : Int)) := by omega
  show wpAny _ _ (pure (b, c, if (b.size : Int) - 0 < (c.size : Int) then none else some ((0 : Int).toNat, (b.size : Int).toNat))) _ _ s
  rw [if_neg hlt]
  refine wpAny_pure ?_
  show wpAny _ _ (match Builtin.Bytes.find? b c 0 b.size with | some i => retInt i | none => _) _ _ s
  rw [hf]
  exact wpAny_bind (wpAny_mkInt (wpAny_pure ⟨_, rfl, hS _ _⟩))
section
variable {prog : Program} {w : World} {A : Around} {E : Value → Shared → Prop} {s : Shared} {b c : Array UInt8} {t u : Tok} {i : Nat}
theorem bf_call {Q : Value → Shared → Prop} (hsz : c.size ≤ b.size) (hf : Builtin.Bytes.find? b c 0 b.size = some i) (h : ∀ t' k, Q (.int (i : Int) t') { s with toks := k }) :
    wpAny (model prog w) A (call (.builtin "bytes.find") [.bytes b t, .bytes c u]) Q E s :=
  call_meets bf_slot (typeIs_bytes _ _ _) bf_entry (bf_args _ _) (bf_meets hsz hf) h
theorem bf_method {M : Model} {pl : Sem Bool} {Q : Value × List Value → Shared → Prop} (h : Q (.builtin "bytes.find", [.bytes b t]) s) : wpAny M A (getMethod (.bytes b t) "find" pl) Q E s :=
  KBd.method_of (.bytes b t) (typeIs_bytes _ _ _) bf_slot bf_type KBd.noRef h
end
def b64A : Array UInt8 := #[65, 66, 67, 68, 69, 70, 71, 72, 73, 74, 75, 76, 77, 78, 79, 80, 81, 82, 83, 84, 85, 86, 87, 88, 89, 90, 97, 98, 99, 100, 101, 102, 103, 104, 105, 106, 107, 108, 109, 110, 111, 112, 113, 114, 115, 116, 117, 118, 119, 120, 121, 122, 48, 49, 50, 51, 52, 53, 54, 55, 56, 57, 43, 47]
theorem b64A_ints : KBw.bInts b64A = b64L := by decide +kernel
theorem b64A_find : ∀ d : Nat, d < 64 → Builtin.Bytes.find? b64A #[(b64L.getD d 0).toNat.toUInt8] 0 64 = some d := by decide +kernel
theorem b64L_at : ∀ d : Nat, d < 64 → 0 ≤ b64L.getD d 0 ∧ b64L.getD d 0 < 256 := by decide +kernel
theorem one_of {c : Array UInt8} {n : Int} (h : KBw.bInts c = [n]) : c = #[n.toNat.toUInt8] := by
  obtain ⟨l⟩ := c
  have h2 : l.map (fun x => (x.toNat : Int)) = [n] := by rw [← h]; exact (KBw.ints_list l).symm
  match l, h2 with
  | [x], h2 =>
    have e : (x.toNat : Int) = n := by simpa using h2
    rw [← e]
    simp
theorem sign_find {prog : Program} {w : World} {A : Around} {E : Value → Shared → Prop} {s : Shared} {c : Array UInt8} {t u : Tok} {d : Int} {Q : Value → Shared → Prop} (h0 : 0 ≤ d) (h1 : d < 64) (hc : KBw.bInts c = [ch d]) (h : ∀ t' k, Q (.int d t') { s with toks := k }) :
    wpAny (model prog w) A (call (.builtin "bytes.find") [.bytes b64A t, .bytes c u]) Q E s := by
  obtain ⟨k, rfl⟩ := Int.eq_ofNat_of_zero_le h0
  have hk : k < 64 := by omega
  have e : c = #[(b64L.getD k 0).toNat.toUInt8] := one_of hc
  subst e
  exact bf_call (i := k) (Nat.le_of_ble_eq_true rfl) (b64A_find k hk) h
end Mine
end

section
open PySem PySem.W PyProof.Rows PySem.Calls PySem.Spec
set_option maxRecDepth 100000
namespace Mine
theorem dgB_in : ∀ (w : Nat) (v : Int), ∀ f ∈ dgB w v, 0 ≤ f ∧ f < 64
  | 0, _, f, h => nomatch h
  | w + 1, v, f, h => by
    rw [dgB] at h
    rcases List.mem_append.mp h with h | h
    · exact dgB_in w _ f h
    · rw [List.mem_singleton] at h
      omega
theorem dgB_at (w : Nat) (v : Int) (k : Nat) : 0 ≤ (dgB w v).getD k 0 ∧ (dgB w v).getD k 0 < 64 := by
  by_cases h : k < (dgB w v).length
  · rw [List.getD_eq_getElem?_getD, List.getElem?_eq_getElem h]
    exact dgB_in w v _ (List.getElem_mem h)
  · rw [List.getD_eq_getElem?_getD, List.getElem?_eq_none (by omega)]
    decide
theorem cut_one {ds : List Int} {k : Nat} (h : k < ds.length) : ((ds.map ch).drop k).take 1 = [ch (ds.getD k 0)] := by
  rw [List.drop_eq_getElem_cons (by simpa using h), List.take_succ_cons, List.take_zero, List.getElem_map, List.getD_eq_getElem?_getD, List.getElem?_eq_getElem h]
  rfl
section
variable {prog : Program} {w : World} {A : Around} {E : Value → Shared → Prop} {s : Shared} {value slice : PySem.Expr} {b : Array UInt8} {t u1 u2 : Tok} {h₀ : Heap} {L : Addr} {m : PySem.Str → Option Value} {news : List (Addr × Obj)} {Q : Value → Shared → Prop} {k n : Int}
theorem text_sl (hF : Fr h₀ L s.heap m) (hN : News h₀ L s.heap news) (hb : KBw.bInts b = (dgB 12 n).map ch) (h0 : 0 ≤ k) (h1 : k < 12)
    (h : ∀ h' t' k' c, Fr h₀ L h' m → News h₀ L h' news → KBw.bInts c = [ch ((dgB 12 n).getD k.toNat 0)] → Q (.bytes c t') { s with heap := h', toks := k' })
    (hs : subscripted slice false (.bytes b t) (.ref s.heap.objs.size) = operate [.ref s.heap.objs.size, .bytes b t] (getItem (.bytes b t) (.ref s.heap.objs.size)) := by with_unfolding_all rfl)
    (ht : ∀ r, letTemporaryGo value (.bytes b t) r = pure () := by intro _; with_unfolding_all rfl) :
    wpAny (model prog w) A (subscriptTail value slice (.bytes b t) (.ref s.heap.objs.size)) Q E { s with heap := s.heap.push { cls := .type "slice", data := .fields #[.int k u1, .int (k + 1) u2, .none] } } := by
  have hl : ((dgB 12 n).map ch).length = 12 := by rw [List.length_map, dgB_len]
  refine KBc.slice_K hF hN hb (.int _ _) (.int _ _) (by rw [hl]; decide) ?_ hs ht
  intro h' t' k' F' N' e
  refine h h' t' k' _ F' N' (e.trans ?_)
  rw [hl]
  obtain ⟨j, rfl⟩ := Int.eq_ofNat_of_zero_le h0
  show ((List.map ch (dgB 12 n)).drop (clipAt 12 (j : Int))).take (clipAt 12 ((j : Int) + 1) - clipAt 12 (j : Int)) = _
  have e2 : ((j : Int) + 1) = ((j + 1 : Nat) : Int) := rfl
  have hj : j < 12 := by omega
  rw [e2, clipAt_nat, clipAt_nat]
  have e3 : min j 12 = j := by omega
  have e4 : min (j + 1) 12 - min j 12 = 1 := by omega
  rw [e4, e3]
  exact cut_one (by rw [dgB_len]; exact hj)
theorem len12 (hb : KBw.bInts b = (dgB 12 n).map ch) (h : ∀ t' k, Q (.int 12 t') { s with toks := k }) : wpAny (model prog w) A (call (.builtin "len") [.bytes b t]) Q E s := by
  have hl : ((dgB 12 n).map ch).length = 12 := by rw [List.length_map, dgB_len]
  refine KBw.len_K hb (by rw [hl]; decide) ?_
  rw [hl]
  exact h _ _
theorem find_sign {c : Array UInt8} {u : Tok} {j : Nat} (hc : KBw.bInts c = [ch ((dgB 12 n).getD j 0)]) (h : ∀ t' k, Q (.int ((dgB 12 n).getD j 0) t') { s with toks := k }) :
    wpAny (model prog w) A (call (.builtin "bytes.find") [.bytes b64A t, .bytes c u]) Q E s := sign_find (dgB_at _ _ _).1 (dgB_at _ _ _).2 hc h
end
theorem range_map {ds : List Int} {n : Nat} (h : ds.length = n) : (rangeKs 0 n).map (fun k => ds.getD k.toNat 0) = ds := by
  subst h
  refine List.ext_getElem (by simp [rangeKs]) fun i h1 h2 => ?_
  simp [rangeKs, List.getElem?_eq_getElem h2]
end Mine
namespace Mine
theorem strip_eq {rs ds : List Int} : ∀ (j k : Nat), List.replicate j 0 ++ rs = List.replicate k 0 ++ ds → ¬ rs.take 1 = [0] → ¬ ds.take 1 = [0] → rs = ds
  | 0, 0, e, _, _ => e
  | 0, k + 1, e, h, _ => absurd (by rw [show rs = 0 :: (List.replicate k 0 ++ ds) from e]; rfl) h
  | j + 1, 0, e, _, h => absurd (by rw [← show 0 :: (List.replicate j 0 ++ rs) = ds from e]; rfl) h
  | j + 1, k + 1, e, h, h' => strip_eq j k (List.cons.inj (show 0 :: (List.replicate j 0 ++ rs) = 0 :: (List.replicate k 0 ++ ds) from e)).2 h h'
/-- the row, its leading noughts off -/
theorem row_done {n : Int} {rs : List Int} (h0 : 0 ≤ n) (hl : (digF 62 n.toNat).length ≤ 10) (hd : ¬ (digF 62 n.toNat).take 1 = [0]) (h : ∃ j, dgB 12 n = List.replicate j 0 ++ rs) (ht : ¬ rs.take 1 = [0]) : rs = digF 62 n.toNat := by
  obtain ⟨j, e⟩ := h
  rw [dgB_dig 12 n h0 (by omega)] at e
  exact strip_eq j _ e.symm ht hd
theorem row_step {n : Int} {rs : List Int} (h : ∃ j, dgB 12 n = List.replicate j 0 ++ rs) (ht : rs.take 1 = [0]) : (∃ j, dgB 12 n = List.replicate j 0 ++ rs.drop 1) ∧ (rs.drop 1).length < rs.length := by
  obtain ⟨j, e⟩ := h
  match rs, ht with
  | a :: r, ht =>
    have ha : a = 0 := by simpa using ht
    subst ha
    refine ⟨⟨j + 1, ?_⟩, by simp⟩
    rw [e]
    simp [List.replicate_succ', List.append_assoc]
end Mine
end

section
open PySem PySem.W PyProof.Rows PySem.Calls PySem.Spec
set_option maxRecDepth 100000
namespace Mine
/-- a turn's end: the frame but for yl, the two cells' contents, all else as it stood -/
def CellEnd (h₀ : Heap) (L : Addr) (yl : Str) (m₀ : Str → Option Value) (I : Addr) (oI : Obj) (c c2 : Addr) (rest : List (Addr × Obj)) (s₁ s₂ : Shared) : Prop :=
  ∃ h' tk' m' o' o2' v' v2', s₂ = { s₁ with heap := h', toks := tk' } ∧ Fr h₀ L h' m' ∧ (∀ y, y ≠ yl → m' y = m₀ y) ∧ News h₀ L h' ((I, oI) :: (c, o') :: (c2, o2') :: rest) ∧ o'.data = .cell v' ∧ o2'.data = .cell v2'
def CellPost (h₀ : Heap) (L : Addr) (yl : Str) (m₀ : Str → Option Value) (I : Addr) (oI : Obj) (c c2 : Addr) (rest : List (Addr × Obj)) (s₁ : Shared) (f : Flow) (s₂ : Shared) : Prop :=
  match f with
  | .ret _ => False
  | .brk => False
  | _ => CellEnd h₀ L yl m₀ I oI c c2 rest s₁ s₂
theorem but_eq {yl : Str} {m₀ m' : Str → Option Value} (h : ∀ y, y ≠ yl → m' y = m₀ y) : m' = fun y => if y = yl then m' y else m₀ y := by
  funext y
  by_cases e : y = yl
  · rw [if_pos e]
  · rw [if_neg e]; exact h y e
section
variable {prog : Program} {w : World} {A : Around} {E : Value → Shared → Prop} {s : Shared} {env : Env} {h₀ : Heap} {x : Str} {px pos : Pos} {iter : Expr} {body : List Stmt} {Q : Flow → Shared → Prop}
theorem for_cells (yl : Str) {l c c2 : Addr} {vs : List Value} {ns : List Int} {nn : Nat} {m₀ : Str → Option Value} {oc oc2 : Obj} {vc vc2 : Option Value} {rest : List (Addr × Obj)}
    (hh : A.handled = none) (hk : env.scope.kind = .function) (hx : env.kindOf x = some .cell) (hc : env.cells.lookup x = some c)
    (F : Fr h₀ env.locals s.heap m₀) (N : News h₀ env.locals s.heap ((c, oc) :: (c2, oc2) :: rest)) (hd : oc.data = .cell vc) (hd2 : oc2.data = .cell vc2)
    (hne : c ≠ c2) (hcr : ∀ p ∈ rest, p.1 ≠ c) (hl : (l, listOf vs.toArray nn) ∈ rest) (hi : IntsAre vs ns)
    (hit : ∀ Q' : Value → Shared → Prop, Q' (.ref l) s → wpAny (model prog w) A (eval iter env) Q' E s)
    (turn : ∀ n t (u : Str → Option Value) h tk I oI o o2 v2, n ∈ ns → AllLt I ((c, oc) :: (c2, oc2) :: rest) → o.data = .cell (some (.int n t)) → o2.data = .cell v2 →
      Fr h₀ env.locals h (fun y => if y = yl then u y else m₀ y) → News h₀ env.locals h ((I, oI) :: (c, o) :: (c2, o2) :: rest) →
      wpAny (model prog w) A (execs body env) (CellPost h₀ env.locals yl m₀ I oI c c2 rest { s with heap := h, toks := tk }) (fun _ _ => False) { s with heap := h, toks := tk })
    (done : ∀ (u : Str → Option Value) h tk o o2 v v2, o.data = .cell v → o2.data = .cell v2 → Fr h₀ env.locals h (fun y => if y = yl then u y else m₀ y) → News h₀ env.locals h ((c, o) :: (c2, o2) :: rest) → Q .next { s with heap := h, toks := tk })
    (hs : ∀ x, foldedSetIterable iter env x = pure x := by intro _; rfl) :
    wpAny (model prog w) A (exec (.For (.Name x px) iter body [] pos) env) Q E s := by
  have hol : s.heap.get? l = some (listOf vs.toArray nn) := (N _ (.tail _ (.tail _ hl))).1
  have hls : s.heap.IsList l vs.toArray := ⟨_, hol, rfl, nn, rfl⟩
  have hlI : l ≠ s.heap.objs.size := Nat.ne_of_lt (Heap.lt_size hol)
  have hLI : env.locals ≠ s.heap.objs.size := Nat.ne_of_lt F.ns.lt
  have hLl : env.locals ≠ l := fun e => (N _ (.tail _ (.tail _ hl))).2.1 e.symm
  have hLc : env.locals ≠ c := fun e => (N _ (.head _)).2.1 e.symm
  have hlt : ∀ p ∈ (c, oc) :: (c2, oc2) :: rest, p.1 < s.heap.objs.size := fun p hp => Heap.lt_size (N p hp).1
  have hcI : c ≠ s.heap.objs.size := Nat.ne_of_lt (hlt _ (.head _))
  have hI0 : h₀.get? s.heap.objs.size = none := next_is_new F
  have hc0 : h₀.get? c = none := (N _ (.head _)).2.2
  have hlc : l ≠ c := hcr _ hl
  refine wpAny_For (hit _ (wpAny_pyIter_list hls ?_)) hs
  have W := Walks.list (prog := prog) (w := w) hh s.heap.objs.size l hlI vs.toArray
  have hsz : vs.toArray.size = ns.length := by simp [hi.length]
  rw [hsz] at W
  refine codeAny_forLoop
    (fun k s' => ∃ h' tk i m' o o2 v v2, s' = { s with heap := h', toks := tk } ∧ (h'.IsListIter s.heap.objs.size l i ∧ h'.IsList l vs.toArray) ∧ Fr h₀ env.locals h' m' ∧ (∀ y, y ≠ yl → m' y = m₀ y) ∧
      News h₀ env.locals h' ((c, o) :: (c2, o2) :: rest) ∧ o.data = .cell v ∧ o2.data = .cell v2 ∧ i ≤ ns.length ∧ k = ns.length + 1 - i) ?_ (ns.length + 1)
    ⟨_, s.toks, 0, m₀, oc, oc2, vc, vc2, rfl, ⟨⟨_, Heap.get?_push_size _ rfl, rfl, rfl⟩, hls.at fun o e => Heap.get?_push_of_some _ e⟩, F.push _, fun _ _ => rfl, fun p hp => ⟨Heap.get?_push_of_some _ (N p hp).1, (N p hp).2⟩, hd, hd2, Nat.zero_le _, rfl⟩
  rintro k s' ⟨h', tk, i, m', o, o2, v, v2, rfl, hst, F', hm', N', hd', hd2', hile, rfl⟩
  have next : ∀ h₁ : Heap, (∀ b o, b ∉ [s.heap.objs.size] → h'.get? b = some o → h₁.get? b = some o) → Fr h₀ env.locals h₁ m' ∧ News h₀ env.locals h₁ ((c, o) :: (c2, o2) :: rest) := fun h₁ hk₁ => by
    refine ⟨⟨F'.ns.at' fun o e => hk₁ _ o (by simpa using hLI) e, fun b o e => hk₁ b o (fun hm => ?_) (F'.keep b o e), F'.above⟩, fun p hp => ⟨hk₁ _ _ ?_ (N' p hp).1, (N' p hp).2⟩⟩
    · rw [List.mem_singleton.mp hm, hI0] at e; cases e
    · intro hm
      rw [List.mem_singleton] at hm
      have hpa : p.1 ∈ ((c, oc) :: (c2, oc2) :: rest).map (·.1) := by
        have : p.1 ∈ ((c, o) :: (c2, o2) :: rest).map (·.1) := List.mem_map_of_mem hp
        simpa using this
      obtain ⟨q, hq, hqe⟩ := List.mem_map.mp hpa
      exact Nat.ne_of_lt (hlt q hq) (hqe.trans hm)
  by_cases hlti : i < ns.length
  · refine W.item i _ _ _ hlti hst fun v₁ h₁ tk₁ hP hst₁ hk₁ => ?_
    obtain ⟨F₁, N₁⟩ := next h₁ hk₁
    obtain ⟨t, hxt⟩ := hi.get i ns[i] (by simp [hlti])
    have hv : v₁ = .int ns[i] t := by
      have hP' : vs[i]? = some v₁ := by simpa using hP
      rw [hxt] at hP'; exact (Option.some.inj hP').symm
    subst hv
    have hcell : h₁.IsCell c v := ⟨o, (N₁ _ (.head _)).1, hd'⟩
    refine wpAny_assign_Name (wpAny_storeName_cell hk hx hc hcell fun h₂ hv₂ hs₂ => ?_)
    obtain ⟨o₂, ho₂, hd₂⟩ := hv₂
    have F₂ : Fr h₀ env.locals h₂ m' := ⟨F₁.ns.sameBut hs₂ hLc, fun b ob e => (hs₂.2 b (fun q => by rw [q, hc0] at e; cases e)).trans (F₁.keep b ob e), F₁.above⟩
    obtain ⟨oI, heI, hIc, hId⟩ := hst₁.1
    have heI₂ : h₂.get? s.heap.objs.size = some oI := (hs₂.2 _ (Ne.symm hcI)).trans heI
    have N₂ : News h₀ env.locals h₂ ((s.heap.objs.size, oI) :: (c, o₂) :: (c2, o2) :: rest) := by
      intro p hp
      rcases List.mem_cons.mp hp with rfl | hp
      · exact ⟨heI₂, Ne.symm hLI, hI0⟩
      rcases List.mem_cons.mp hp with rfl | hp
      · exact ⟨ho₂, (N₁ (c, o) (.head _)).2⟩
      rcases List.mem_cons.mp hp with rfl | hp
      · have z := N₁ (c2, o2) (.tail _ (.head _))
        exact ⟨(hs₂.2 _ (Ne.symm hne)).trans z.1, z.2⟩
      · have z := N₁ p (.tail _ (.tail _ hp))
        exact ⟨(hs₂.2 _ (hcr p hp)).trans z.1, z.2⟩
    have F₃ : Fr h₀ env.locals h₂ (fun y => if y = yl then m' y else m₀ y) := (but_eq hm') ▸ F₂
    refine wpAny_mono (wpAny_noRaise (turn ns[i] t m' h₂ _ s.heap.objs.size oI o₂ o2 v2 (List.getElem_mem _) (allLt_of hlt) hd₂ hd2' F₃ N₂)) (fun f s₃ h₃ => ?_) fun _ _ e => e
    have fin : CellEnd h₀ env.locals yl m₀ s.heap.objs.size oI c c2 rest { s with heap := h₂, toks := tk₁ } s₃ → ∃ m, m < ns.length + 1 - i ∧ ∃ h' tk i m' o o2 v v2, s₃ = { s with heap := h', toks := tk } ∧ (h'.IsListIter s.heap.objs.size l i ∧ h'.IsList l vs.toArray) ∧ Fr h₀ env.locals h' m' ∧ (∀ y, y ≠ yl → m' y = m₀ y) ∧
        News h₀ env.locals h' ((c, o) :: (c2, o2) :: rest) ∧ o.data = .cell v ∧ o2.data = .cell v2 ∧ i ≤ ns.length ∧ m = ns.length + 1 - i := by
      rintro ⟨h₄, tk₄, m₄, o₄, o24, v₄, v24, rfl, F₄, hm₄, N₄, hd₄, hd24⟩
      refine ⟨ns.length + 1 - (i + 1), by omega, h₄, tk₄, i + 1, m₄, o₄, o24, v₄, v24, rfl, ⟨⟨oI, (N₄ _ (.head _)).1, hIc, hId⟩, ⟨_, (N₄ _ (.tail _ (.tail _ (.tail _ hl)))).1, rfl, nn, rfl⟩⟩, F₄, hm₄, fun p hp => N₄ p (.tail _ hp), hd₄, hd24, hlti, rfl⟩
    cases f with
    | ret v => exact False.elim h₃
    | brk => exact False.elim h₃
    | cont => exact fin h₃
    | next => exact fin h₃
  · have hin : i = ns.length := by omega
    subst hin
    refine W.done _ _ _ hst fun h₁ tk₁ hk₁ => wpAny_execs_nil ?_
    obtain ⟨F₁, N₁⟩ := next h₁ hk₁
    exact done m' h₁ tk₁ o o2 v v2 hd' hd2' ((but_eq hm') ▸ F₁) N₁
end
end Mine
end

section
open PySem PySem.W PyProof.Rows PySem.Calls PySem.Spec
set_option maxRecDepth 100000
namespace Mine
section
variable {prog : Program} {w : World} {A : Around} {E : Value → Shared → Prop} {s : Shared} {h₀ : Heap} {L : Addr} {m : Str → Option Value} {env : Env}
/-- a source's walk, item by item, and what is asked of it -/
def SrcBy (prog : Program) (w : World) (A : Around) (E : Value → Shared → Prop) (h₀ : Heap) (L : Addr) (m : Str → Option Value) (env : Env) (elt : Expr) (x : Str) (scope : Scope) (cl : List (Str × Addr)) (Q : Value → Shared → Prop) (xv : Value) (s₁ : Shared) : Prop :=
  ∃ (ks : List Int) (P : Nat → Value → Prop) (St : Addr → Nat → Heap → Prop) (it : Obj) (news : List (Addr × Obj)) (g : Int → Int), it.isFreed = false ∧
    (∀ Q' : Value → Shared → Prop, Q' (.ref s₁.heap.objs.size) { s₁ with heap := s₁.heap.push it } → wpAny (model prog w) A (pyIter xv) Q' E s₁) ∧
    (∀ I, Walks prog w A I [I] [I] ks.length P (St I)) ∧ (∀ I i h, St I i h → ∃ o, h.get? I = some o) ∧
    (∀ I i h h' o, St I i h → h.get? I = some o → h'.get? I = some o → St I i h') ∧ (∀ h I, h.get? I = some it → St I 0 h) ∧
    (∀ i v, i < ks.length → P i v → ∃ k t, ks[i]? = some k ∧ v = .int k t) ∧ ks.length ≤ sizeLine ∧ Fr h₀ L s₁.heap m ∧ News h₀ L s₁.heap news ∧
    (∀ k t I oI C oC D m₂ ys h tk (E' : Value → Shared → Prop), k ∈ ks → LCg.NsObj oC m₂ → m₂ x = some (.int k t) → Fr h₀ L h m → News h₀ L h ((I, oI) :: (C, oC) :: (D, LCg.lst ys) :: news) → LCg.Off3 I C D news → ((@Ne Nat I C) ∧ (@Ne Nat I D) ∧ (@Ne Nat C D)) → KPfMark →
      wpAny (model prog w) A (eval elt (compEnvC scope cl C env)) (LCg.CompEnd h₀ L m { s₁ with heap := h, toks := tk } I oI C oC D (LCg.lst ys) (fun _ => True) (fun y news' => KCfEl news (g k) y news')) E' { s₁ with heap := h, toks := tk }) ∧
    (∀ D ys h tk, IntsAre ys (ks.map g) → Fr h₀ L h m → News h₀ L h ((D, listOf ys.toArray ys.length) :: news) → LCg.Off1 D news → Q (.ref D) { s₁ with heap := h, toks := tk })
/-- a list comprehension whose source's walk is given -/
theorem comp_by {elt iter : Expr} {x : Str} {px : Pos} {scope : Scope} {cl : List (Str × Addr)} {pos : Pos} {Q : Value → Shared → Prop} (_F : Fr h₀ L s.heap m)
    (hclos : closureFor scope env = pure cl) (hcell : ∀ y ∈ scope.names, y.2 ≠ .cell) (hkind : scope.kind = .function)
    (hnames : ∀ y ∈ scope.names, y.2 = .local → scope.names.lookup y.1 = some .local) (hx : scope.names.lookup x = some .local)
    (hs : ∀ x, foldedSetIterable iter env x = pure x)
    (h : wpAny (model prog w) A (eval iter env) (SrcBy prog w A E h₀ L m env elt x scope cl Q) E s) :
    wpAny (model prog w) A (eval (.ListComp elt [⟨.Name x px, iter, [], 0⟩] scope pos) env) Q E s := by
  rw [eval_ListComp]
  refine wpAny_comprehension_free (use := none) rfl hs hclos hkind hnames (wpAny_mono h (fun xv s₁ h₁ => ?_) fun _ _ e => e)
  obtain ⟨ks, P, St, it, news, g, hfr, hpy, W, hIo, hSt, hst, hP, hsz, F, N, turn, done⟩ := h₁
  refine hpy _ ?_
  have up : ∀ b o, s₁.heap.get? b = some o → (s₁.heap.push it).get? b = some o := fun b o e => Heap.get?_push_of_some _ e
  refine LCg.block_U (S := fun _ => True) (Fin := fun ys nw => nw = news ∧ IntsAre ys (ks.map g)) (W s₁.heap.objs.size) hsz (hIo _) (fun i h h' o nw st e e' _ _ _ => hSt _ i h h' o st e e') hcell hkind hx (hst _ _ (Heap.get?_push_size _ hfr)) (fun b hb => ?_)
    (F.keeps up) (N.grown up) (Nat.ne_of_lt F.ns.lt) (next_is_new F) (fun p hp => Nat.ne_of_lt (Heap.lt_size (N p hp).1)) trivial ?_ ?_
  · rw [List.mem_singleton.mp hb]
    show s₁.heap.objs.size < (s₁.heap.push it).objs.size
    rw [Heap.size_push]; exact Nat.lt_succ_self _
  · exact kcf_rest g rfl hP (fun k t I oI C oC D m₂ ys h tk E' hk hC hx' F' N' off ne mk => turn k t I oI C oC D m₂ ys h tk E' hk hC hx' F' N' off ne mk) (fun ys hy => ⟨rfl, hy⟩)
  · rintro D C h tk m' ys news' F' N' o1 hn hC₀ hD₀ hCL hDL hCD offC ⟨rfl, hy⟩
    refine ⟨m', hn, fun h'' hs'' => done D ys h'' tk hy (F'.change hs'' hCL hC₀) (fun p hp => ?_) o1⟩
    refine ⟨hs''.extBut _ _ ?_ (N' p hp).1, (N' p hp).2⟩
    rcases List.mem_cons.mp hp with rfl | hp
    · exact Ne.symm hCD
    · exact offC p hp
/-- over bytes -/
theorem src_bytes {elt : Expr} {x : Str} {scope : Scope} {cl : List (Str × Addr)} {Q : Value → Shared → Prop} {news : List (Addr × Obj)} {ks : List Int} {b : Array UInt8} {tb : Tok} {s₁ : Shared} (g : Int → Int)
    (hh : A.handled = none) (hb : KBw.bInts b = ks) (hsz : ks.length ≤ sizeLine) (F : Fr h₀ L s₁.heap m) (N : News h₀ L s₁.heap news)
    (turn : ∀ k t I oI C oC D m₂ ys h tk (E' : Value → Shared → Prop), k ∈ ks → LCg.NsObj oC m₂ → m₂ x = some (.int k t) → Fr h₀ L h m → News h₀ L h ((I, oI) :: (C, oC) :: (D, LCg.lst ys) :: news) → LCg.Off3 I C D news → ((@Ne Nat I C) ∧ (@Ne Nat I D) ∧ (@Ne Nat C D)) → KPfMark →
      wpAny (model prog w) A (eval elt (compEnvC scope cl C env)) (LCg.CompEnd h₀ L m { s₁ with heap := h, toks := tk } I oI C oC D (LCg.lst ys) (fun _ => True) (fun y news' => KCfEl news (g k) y news')) E' { s₁ with heap := h, toks := tk })
    (done : ∀ D ys h tk, IntsAre ys (ks.map g) → Fr h₀ L h m → News h₀ L h ((D, listOf ys.toArray ys.length) :: news) → LCg.Off1 D news → Q (.ref D) { s₁ with heap := h, toks := tk }) :
    SrcBy prog w A E h₀ L m env elt x scope cl Q (.bytes b tb) s₁ := by
  subst hb
  refine ⟨_, fun i v => ∃ c u, b[i]? = some c ∧ v = .int (c.toNat : Int) u, fun I i h => KBw.IsBytesIter h I b tb i, { cls := .type "bytes_iterator", data := .fields #[.bytes b tb, .int 0 0] }, news, g, rfl,
    fun Q' hq => KBw.pyIter_bytes hq, fun I => ?_, fun I i h st => ?_, fun I i h h' o st e e' => ?_, fun h I e => ⟨_, e, rfl, rfl⟩, fun i v hi hp => ?_, hsz, F, N, turn, done⟩
  · rw [KBw.ints_length]
    exact KBw.walks hh I b tb
  · obtain ⟨o, e, _⟩ := st; exact ⟨o, e⟩
  · obtain ⟨o', q, r⟩ := st; rw [e] at q; cases q; exact ⟨o, e', r⟩
  · obtain ⟨c, u, hc, rfl⟩ := hp
    exact ⟨_, u, KBw.ints_get hc, rfl⟩
/-- over a range down by ones -/
theorem src_down {elt : Expr} {x : Str} {scope : Scope} {cl : List (Str × Addr)} {Q : Value → Shared → Prop} {news : List (Addr × Obj)} {r : Addr} {a b : Int} {t u v : Tok} {s₁ : Shared} (n : Nat) (g : Int → Int)
    (hh : A.handled = none) (hr : IsRange s₁.heap r a b (-1) t u v) (hsm : Builtin.Range.small a b (-1) = true) (hn : Builtin.Range.rangeSize a b (-1) = ((n : Nat) : Int))
    (hsz : n ≤ sizeLine) (F : Fr h₀ L s₁.heap m) (N : News h₀ L s₁.heap news)
    (turn : ∀ k t I oI C oC D m₂ ys h tk (E' : Value → Shared → Prop), k ∈ (List.range n).map (fun (i : Nat) => a + i * (-1)) → LCg.NsObj oC m₂ → m₂ x = some (.int k t) → Fr h₀ L h m → News h₀ L h ((I, oI) :: (C, oC) :: (D, LCg.lst ys) :: news) → LCg.Off3 I C D news → ((@Ne Nat I C) ∧ (@Ne Nat I D) ∧ (@Ne Nat C D)) → KPfMark →
      wpAny (model prog w) A (eval elt (compEnvC scope cl C env)) (LCg.CompEnd h₀ L m { s₁ with heap := h, toks := tk } I oI C oC D (LCg.lst ys) (fun _ => True) (fun y news' => KCfEl news (g k) y news')) E' { s₁ with heap := h, toks := tk })
    (done : ∀ D ys h tk, IntsAre ys (((List.range n).map (fun (i : Nat) => a + i * (-1))).map g) → Fr h₀ L h m → News h₀ L h ((D, listOf ys.toArray ys.length) :: news) → LCg.Off1 D news → Q (.ref D) { s₁ with heap := h, toks := tk }) :
    SrcBy prog w A E h₀ L m env elt x scope cl Q (.ref r) s₁ := by
  refine ⟨(List.range n).map (fun (i : Nat) => a + i * (-1)), fun i v => i < n ∧ ∃ t, v = .int (a + i * (-1)) t, fun I i h => IsRangeIter h I (a + (i : Nat) * (-1)) ((n : Int) - (i : Nat)) (-1), { cls := .type "range_iterator", data := .fields #[rawInt a, rawInt (n : Int), rawInt (-1)] }, news, g, rfl,
    fun Q' hq => wpAny_pyIter_range hr hsm (by rw [hn]; exact hq), fun I => ?_, fun I i h st => ⟨_, st⟩, fun I i h h' o st e e' => ?_, fun h I e => ?_, fun i v hi hp => ?_, by simpa using hsz, F, N, turn, done⟩
  · rw [List.length_map, List.length_range]
    exact (Walks.range hh I a (-1) n).bound
  · have st' : h.get? I = some _ := st
    show h'.get? I = some _
    rw [e', ← e]; exact st'
  · show h.get? I = some _
    simpa using e
  · obtain ⟨hi', t, rfl⟩ := hp
    exact ⟨_, t, by simp [hi'], rfl⟩
end
end Mine
end

section
open PySem PySem.W PyProof.Rows PySem.Calls PySem.Spec
set_option maxRecDepth 100000
set_option maxHeartbeats 1000000
namespace Mine
set_option pp.deepTerms false
set_option pp.maxSteps 1000
theorem si_spec {prog : Program} {w : World} {p : Program} {loose : List Str} {mean : ExcName → Option Value} {mg mb : Str → Option Value}
    (news : List (Addr × Obj)) :
    Con prog w p loose mean mg mb 93 1 100 [] news (fun news' v => (∃ t, v = .bytes b64A t) ∧ news' = news) := by
  w_top off
  k_with_none
  intro dp un gd cn cs a ccd cl outer A₀ base₀ h₀ L m s Q E hB hF hK hN hT hcs hdp hun hret
  refine wpAny_call ?_
  k_dflt cell_enter
  k_steps
  exact hret _ _ _ _ (by k_asm) (by k_asm) ⟨⟨_, rfl⟩, rfl⟩
end Mine
end

section
open PySem PySem.W PyProof.Rows PySem.Calls PySem.Spec
set_option maxRecDepth 100000
set_option maxHeartbeats 8000000
namespace Mine
set_option pp.deepTerms false
set_option pp.maxSteps 120
def CutI (s : Shared) (h₀ : Heap) (L : Addr) (m : Str → Option Value) (news : List (Addr × Obj)) (P : Int → Prop) (v : Value) (s' : Shared) : Prop :=
  ∃ d u h' k, v = .int d u ∧ P d ∧ s' = { s with heap := h', toks := k } ∧ Fr h₀ L h' m ∧ News h₀ L h' news
theorem cut_int {M : Model} {A : Around} {t : Sem Value} {Q E : _} {s : Shared} {h₀ : Heap} {L : Addr} {m : Str → Option Value} {news : List (Addr × Obj)} (P : Int → Prop)
    (_ : Fr h₀ L s.heap m) (_ : News h₀ L s.heap news)
    (h : wpAny M A t (CutI s h₀ L m news P) (fun _ _ => False) s)
    (hQ : ∀ d u h' k, P d → Fr h₀ L h' m → News h₀ L h' news → Q (.int d u) { s with heap := h', toks := k }) : wpAny M A t Q E s :=
  wpAny_mono h (by rintro _ _ ⟨d, u, h', k, rfl, p, rfl, f, n⟩; exact hQ d u h' k p f n) (fun _ _ h => h.elim)
def CutL (s : Shared) (h₀ : Heap) (L : Addr) (m : Str → Option Value) (news : List (Addr × Obj)) (P : List Int → Prop) (v : Value) (s' : Shared) : Prop :=
  ∃ r vs xs h' k, v = .ref r ∧ P xs ∧ IntsAre vs xs ∧ s' = { s with heap := h', toks := k } ∧ Fr h₀ L h' m ∧ News h₀ L h' ((r, listOf vs.toArray 0) :: news)
theorem cut_list {M : Model} {A : Around} {t : Sem Value} {Q E : _} {s : Shared} {h₀ : Heap} {L : Addr} {m : Str → Option Value} {news : List (Addr × Obj)} (P : List Int → Prop)
    (_ : Fr h₀ L s.heap m) (_ : News h₀ L s.heap news)
    (h : wpAny M A t (CutL s h₀ L m news P) (fun _ _ => False) s)
    (hQ : ∀ r vs xs h' k, P xs → IntsAre vs xs → Fr h₀ L h' m → News h₀ L h' ((r, listOf vs.toArray 0) :: news) → Q (.ref r) { s with heap := h', toks := k }) : wpAny M A t Q E s :=
  wpAny_mono h (by rintro _ _ ⟨r, vs, xs, h', k, rfl, p, i, rfl, f, n⟩; exact hQ r vs xs h' k p i f n) (fun _ _ h => h.elim)
theorem news_tl {h₀ : Heap} {L : Addr} {h : Heap} {a : Addr × Obj} {r : List (Addr × Obj)} (N : News h₀ L h (a :: r)) : News h₀ L h r := news_sub N (fun _ hp => .tail _ hp)
theorem news_tl2 {h₀ : Heap} {L : Addr} {h : Heap} {a b : Addr × Obj} {r : List (Addr × Obj)} (N : News h₀ L h (a :: b :: r)) : News h₀ L h (a :: r) :=
  news_sub N (by intro p hp; simp only [List.mem_cons] at hp ⊢; rcases hp with h | h <;> simp [h])
theorem news_t3 {h₀ : Heap} {L : Addr} {h : Heap} {s a l b c : Addr × Obj} {r : List (Addr × Obj)} (N : News h₀ L h (s :: a :: l :: b :: c :: r)) : News h₀ L h (l :: s :: r) :=
  news_sub N (by intro p hp; simp only [List.mem_cons] at hp ⊢; rcases hp with h | h | h <;> simp [h])
theorem news_sw2 {h₀ : Heap} {L : Addr} {h : Heap} {a b : Addr × Obj} {r : List (Addr × Obj)} (N : News h₀ L h (a :: b :: r)) : News h₀ L h (b :: a :: r) :=
  news_sub N (by intro p hp; simp only [List.mem_cons] at hp ⊢; rcases hp with h | h | h <;> simp [h])
theorem len_no {xs : List Int} {P : Prop} (h : decide (xs = []) = false) (h' : 0 < -(xs.length : Int) ∨ (xs.length : Int) ≤ 0) : P := by
  have := List.length_pos_iff.mpr (of_decide_eq_false h)
  omega
theorem div_rg (x : Int) : 2 ≤ 2 + x.fmod 9 ∧ 2 + x.fmod 9 ≤ 10 := by
  rw [Int.fmod_eq_emod_of_nonneg _ (by decide)]
  omega
theorem ne_cell {h₀ : Heap} {L : Addr} {h : Heap} {news : List (Addr × Obj)} {c l : Addr} {o : Obj} {v : Option Value} {vs : List Value} {nn : Nat} (N : News h₀ L h news) (hc : (c, o) ∈ news) (hd : o.data = .cell v) (hl : (l, listOf vs.toArray nn) ∈ news) : @Ne Nat l c := by
  rintro rfl
  have h1 := (N _ hc).1
  have h2 := (N _ hl).1
  rw [h1] at h2
  cases h2
  cases hd
theorem cut13 {h₀ : Heap} {L : Addr} {h : Heap} {r : Addr × Obj} {rL rF rS a1 a2 a3 : Addr} {o1 o2 o3 : Obj} {v1 v2 v3 : Option Value} {vl vf vs : List Value} {nl nf ns : Nat}
    (N : News h₀ L h [r, (rL, listOf vl.toArray nl), (rF, listOf vf.toArray nf), (rS, listOf vs.toArray ns), (a3, o3), (a2, o2), (a1, o1)]) (d3 : o3.data = .cell v3) (d2 : o2.data = .cell v2) (d1 : o1.data = .cell v1) :
    ∃ w1 w2 w3, o1.data = .cell w1 ∧ o2.data = .cell w2 ∧ o3.data = .cell w3 ∧
    News h₀ L h [(a1, o1), (a3, o3), (a2, o2), (rL, listOf vl.toArray nl), (rF, listOf vf.toArray nf), (rS, listOf vs.toArray ns)] ∧
    (@Ne Nat rL a1 ∧ @Ne Nat rL a2 ∧ @Ne Nat rL a3) ∧ (@Ne Nat rF a1 ∧ @Ne Nat rF a2 ∧ @Ne Nat rF a3) ∧ (@Ne Nat rS a1 ∧ @Ne Nat rS a2 ∧ @Ne Nat rS a3) := by
  refine ⟨v1, v2, v3, d1, d2, d3, news_sub N (by intro p hp; simp only [List.mem_cons] at hp ⊢; rcases hp with h | h | h | h | h | h | h <;> simp [h]), ⟨?_, ?_, ?_⟩, ⟨?_, ?_, ?_⟩, ⟨?_, ?_, ?_⟩⟩
  · exact ne_cell N (o := o1) (by simp) d1 (vs := vl) (nn := nl) (by simp)
  · exact ne_cell N (o := o2) (by simp) d2 (vs := vl) (nn := nl) (by simp)
  · exact ne_cell N (o := o3) (by simp) d3 (vs := vl) (nn := nl) (by simp)
  · exact ne_cell N (o := o1) (by simp) d1 (vs := vf) (nn := nf) (by simp)
  · exact ne_cell N (o := o2) (by simp) d2 (vs := vf) (nn := nf) (by simp)
  · exact ne_cell N (o := o3) (by simp) d3 (vs := vf) (nn := nf) (by simp)
  · exact ne_cell N (o := o1) (by simp) d1 (vs := vs) (nn := ns) (by simp)
  · exact ne_cell N (o := o2) (by simp) d2 (vs := vs) (nn := ns) (by simp)
  · exact ne_cell N (o := o3) (by simp) d3 (vs := vs) (nn := ns) (by simp)
theorem fr_open5 {h₀ : Heap} {L : Addr} {h : Heap} {m : Str → Option Value} {n1 n2 n3 n4 n5 : Str} {v1 v2 v3 v4 v5 : Option Value} (F : Fr h₀ L h (fun y => if y = n1 then v1 else if y = n2 then v2 else if y = n3 then v3 else if y = n4 then v4 else if y = n5 then v5 else m y)) :
    ∃ m : Str → Option Value, Fr h₀ L h (fun y => if y = n1 then v1 else if y = n2 then v2 else if y = n3 then v3 else if y = n4 then v4 else if y = n5 then v5 else m y) := ⟨_, F⟩
theorem news_sr {h₀ : Heap} {L : Addr} {h : Heap} {a b r d i x y z s g : Addr × Obj} (N : News h₀ L h [a, b, r, d, i, x, y, z, s, g]) : News h₀ L h (r :: s :: [i, x, y, z, g]) :=
  news_sub N (by intro p hp; simp only [List.mem_cons] at hp ⊢; rcases hp with h | h | h | h | h | h | h | h <;> simp_all)
theorem news_st {h₀ : Heap} {L : Addr} {h : Heap} {r i x y z s g : Addr × Obj} (N : News h₀ L h (r :: s :: [i, x, y, z, g])) : News h₀ L h [i, x, y, z, s, g] :=
  news_sub N (by intro p hp; simp only [List.mem_cons] at hp ⊢; rcases hp with h | h | h | h | h | h | h <;> simp_all)
theorem mem_kw {α : Type} {x a b r : α} {rest : List α} : ∀ p ∈ x :: rest, p ∈ x :: a :: b :: r :: rest := by
  intro p hp
  rcases List.mem_cons.mp hp with rfl | hp
  · exact .head _
  · exact .tail _ (.tail _ (.tail _ (.tail _ hp)))
theorem lt12 {k : Int} (h : k < 0 + (((12 - 0 : Int).toNat : Nat) : Int)) : k < 12 := h
theorem news_fo {h₀ : Heap} {L : Addr} {h : Heap} {a b c l f s : Addr × Obj} (N : News h₀ L h [a, b, c, l, f, s]) : News h₀ L h (s :: [a, b, c]) :=
  news_sub N (by intro p hp; simp only [List.mem_cons] at hp ⊢; rcases hp with h | h | h | h | h <;> simp_all)
theorem cut2 {h₀ : Heap} {L : Addr} {h : Heap} {r : Addr × Obj} {rF rS a1 a2 a3 : Addr} {o1 o2 o3 : Obj} {v1 v2 v3 : Option Value} {vf vs : List Value} {nf ns : Nat}
    (N : News h₀ L h [r, (rS, listOf vs.toArray ns), (rF, listOf vf.toArray nf), (a1, o1), (a3, o3), (a2, o2)]) (d1 : o1.data = .cell v1) (d3 : o3.data = .cell v3) (d2 : o2.data = .cell v2) :
    News h₀ L h [(a1, o1), (a3, o3), (a2, o2), (rS, listOf vs.toArray ns), (rF, listOf vf.toArray nf)] ∧ (@Ne Nat rF a1 ∧ @Ne Nat rF a2 ∧ @Ne Nat rF a3) := by
  refine ⟨news_sub N (by intro p hp; simp only [List.mem_cons] at hp ⊢; rcases hp with h | h | h | h | h | h <;> simp_all), ?_, ?_, ?_⟩
  · exact ne_cell N (o := o1) (by simp) d1 (vs := vf) (nn := nf) (by simp)
  · exact ne_cell N (o := o2) (by simp) d2 (vs := vf) (nn := nf) (by simp)
  · exact ne_cell N (o := o3) (by simp) d3 (vs := vf) (nn := nf) (by simp)
theorem news_sp {h₀ : Heap} {L : Addr} {h : Heap} {d i a b c l f s : Addr × Obj} (N : News h₀ L h [d, i, a, b, c, l, f, s]) : News h₀ L h (d :: l :: [i, a, b, c, f, s]) :=
  news_sub N (by intro p hp; simp only [List.mem_cons] at hp ⊢; rcases hp with h | h | h | h | h | h | h | h | h <;> simp_all)
theorem news_sq {h₀ : Heap} {L : Addr} {h : Heap} {d i a b c l f s : Addr × Obj} (N : News h₀ L h (d :: l :: [i, a, b, c, f, s])) : News h₀ L h [i, a, b, c, l, f, s] :=
  news_sub N (by intro p hp; simp only [List.mem_cons] at hp ⊢; rcases hp with h | h | h | h | h | h | h | h <;> simp_all)
local macro_rules | `(tactic| k_steps) => `(tactic| repeat' (first | (k_unfold; (try dsimp only)) | (k_end; wrow_close) | ((fail_if_success (with_reducible show wpAny _ _ (call (Value.ref _) _ _) _ _ _)); (fail_if_success (with_reducible show wpAny _ _ (exec (Stmt.For _ _ _ _ _) _) _ _ _)); (fail_if_success (with_reducible show wpAny _ _ (exec (Stmt.While _ _ _ _) _) _ _ _)); (fail_if_success (with_reducible show wpAny _ _ (PySem.eval (Expr.IfExp _ _ _ _) _) _ _ _)); (fail_if_success (with_reducible show wpAny _ _ (PySem.eval (Expr.BoolOp _ _ _) _) _ _ _)); (fail_if_success (with_reducible show wpAny _ _ (PySem.eval (Expr.ListComp (Expr.BinOp _ Operator.Sub _ _) _ _ _) _) _ _ _)); (fail_if_success (with_reducible show wpAny _ _ (PySem.eval (Expr.ListComp (Expr.BinOp (Expr.BinOp _ _ (Expr.BinOp _ _ _ _) _) _ _ _) _ _ _) _) _ _ _)); first | walk1 | (dsimp only; walk1)) | (leave1; walk_say "STEP leave1"; try dsimp only) | fail "no step"))
local macro_rules | `(tactic| walk_at "binaryOp Pow int int") => `(tactic| ((refine pow256 ?h0 ?h1 ?_; (case h0 => exact (And.left (by assumption))); (case h1 => exact (And.right (by assumption)))); intro _ _))
local macro_rules | `(tactic| walk_at "binaryOp FloorDiv int int") => `(tactic| ((refine fd256 ?hj ?_; (case hj => omega)); intro _ _))
local macro_rules | `(tactic| walk_at "call builtin:len") => `(tactic| ((refine' len12 ?hb ?_; (case hb => assumption)); intro _ _))
local macro_rules | `(tactic| walk_at "call builtin:bytes.find") => `(tactic| ((refine' find_sign ?hc ?_; (case hc => assumption)); intro _ _))
local macro_rules | `(tactic| walk_at "subscriptTail") => `(tactic| ((with_reducible show wpAny _ _ (subscriptTail _ (Expr.Slice _ _ none _) (Value.bytes _ _) (Value.ref _)) _ _ _); (rename Fr _ _ _ _ => F'); (rename News _ _ _ _ => N'); (refine' text_sl (s := ⟨_, _, _, _, _⟩) F' N' ?hb ?h0 ?h1 ?_; (case hb => assumption); (case h0 => assumption); (case h1 => exact lt12 (by assumption))); intro _ _ _ _ _ _ kCut))
local macro_rules | `(tactic| walk_at "getMethod bytes") => `(tactic| (refine bf_method ?_))
local macro_rules | `(tactic| ktr_unf) => `(tactic| ((case zB => k_asm); (case zF => k_asm); (case zX => k_asm); (case zN => k_asm); (case zT => k_asm); (case zk => exact rfl); (case zd => ktr_room); (case zu => ktr_units)))
theorem go : PySem.Challenge.rw_oy0023_01.Holds := by
  w_top off
  k_with_none
  refine hd ?_
  k_go0
  all_goals try k_fold
  k_steps
  rename Fr _ _ _ _ => F0
  rename News _ _ _ _ => N0
  refine cut_int (s := ⟨_, _, _, _, _⟩) (fun d => 2 ≤ d ∧ d ≤ 10) F0 N0 ?_ ?_
  · walk1
    k_steps
    · exact ⟨_, _, _, _, rfl, ⟨by decide, by decide⟩, rfl, by k_asm, news_tl (by k_asm)⟩
    · exact len_no (by assumption) (by assumption)
    · exact ⟨_, _, _, _, rfl, div_rg _, rfl, by k_asm, news_tl (by k_asm)⟩
  clear F0 N0
  rintro d u h' k ⟨d0, d1⟩ F' N'
  (try dsimp only)
  k_steps
  rename Fr _ _ _ _ => F0
  rename News _ _ _ _ => N0
  refine cut_list (s := ⟨_, _, _, _, _⟩) (fun xs => 0 < xs.length ∧ xs.length ≤ 3) F0 N0 ?_ ?_
  · walk1
    k_steps
    · exact ⟨_, _, _, _, _, rfl, ⟨by assumption, by omega⟩, by assumption, rfl, by k_asm, by k_asm⟩
    · walk1
      k_steps
      exact ⟨_, _, [35, 1000], _, _, rfl, ⟨by decide, by decide⟩, .cons _ _ (.cons _ _ .nil), rfl, by k_asm, news_tl2 (by k_asm)⟩
  clear F0 N0
  rintro r0 vs0 xs0 h' k ⟨x0, x1⟩ I0 F' N'
  have hvl0 : vs0.length = xs0.length := I0.length
  (try dsimp only)
  k_steps
  refine' con_use (un_spec _ _ _ _ _ ?zi ?zn) ?zB ?zF ?zX ?zN ?zT ?zk ?zd ?zu ?_
  ktr_unf
  case zi => assumption
  case zn => simp; omega
  rintro v h' tk' news' F' N' ⟨rL, vL, nL, rfl, rfl, iL⟩
  have kL := iL.length
  have PL := par_16 (div := d) d0 d1 x1
  generalize hfL : unlikeF (List.map (fun k' => Int.fmod k' 16) xs0) = fL at iL kL PL
  clear hfL
  (try dsimp only)
  k_steps
  refine' con_use (un_spec _ _ _ _ _ ?zi ?zn) ?zB ?zF ?zX ?zN ?zT ?zk ?zd ?zu ?_
  ktr_unf
  case zi => assumption
  case zn => simp; omega
  rintro v h' tk' news' F' N' ⟨rS, vS, nS, rfl, rfl, iS⟩
  have kS := iS.length
  have PS := par_64 (div := d) d0 d1 x1
  generalize hfS : unlikeF (List.map (fun k' => Int.fmod (Int.fdiv k' 16) 64) xs0) = fS at iS kS PS
  clear hfS
  replace N' := news_t3 N'
  (try dsimp only)
  k_steps
  refine' con_use (fo_spec _ _ _ _ _ _ _ _ _ iL PL) ?zB ?zF ?zX ?zN ?zT ?zk ?zd ?zu ?_
  ktr_unf
  rintro v h' tk' news' F' N' ⟨rF, vF, nF, fo, se, rfl, rfl, iF, hF⟩
  have kF := iF.length
  (try dsimp only)
  k_steps
  refine' con_use (lo_spec _ _ _ _ _ _ _ _ _ iL PL) ?zB ?zF ?zX (news_sw2 ?zN) ?zT ?zk ?zd ?zu ?_
  ktr_unf
  rintro v h' tk' news' F' N' ⟨rR, vR, nR, res, rfl, rfl, iR, hR⟩
  obtain rfl := low_eq PL hF hR
  have kR := iR.length
  (try dsimp only)
  k_steps
  rename Fr _ _ _ _ => F0
  rename News _ _ _ _ => N0
  obtain ⟨c1, c2, c3, q1, q2, q3, N1, ⟨nL1, nL2, nL3⟩, ⟨nF1, nF2, nF3⟩, nS1, nS2, nS3⟩ := cut13 N0 (by assumption) (by assumption) (by assumption)
  clear N0
  obtain ⟨mB, F0⟩ := fr_open5 F0
  revert F0 N1 q1 q2 q3
  repeat (rename Fr _ _ _ _ => zz; clear zz)
  repeat (rename News _ _ _ _ => zz; clear zz)
  repeat (rename List.length _ = List.length _ => zz; clear zz)
  repeat (rename _ = Data.cell _ => zz; clear zz)
  intro q1 q2 q3 N1 F0

  refine' for_cells (Str.ofString "word") (l := rF) (nn := nF) rfl rfl rfl rfl F0 N1 q1 q3 ?ne ?cr ?hl iF ?hit ?turn ?done
  case ne => k_ne
  case cr => exact List.forall_mem_cons.mpr ⟨Nat.succ_ne_self _, List.forall_mem_cons.mpr ⟨nL1, List.forall_mem_cons.mpr ⟨nF1, List.forall_mem_cons.mpr ⟨nS1, List.forall_mem_nil _⟩⟩⟩⟩
  case hl => k_mem
  case hit =>
    intro Q' hq
    k_steps
    exact hq
  case turn =>
    clear N1 F0 q1 q3
    intro n t u h tk I oI o o2 v2 hn hAll hd hd2 F' N'
    simp only [AllLt] at hAll
    obtain ⟨x0, x1, x2, x3, x4, x5⟩ := dig_found (b := 14) (base := 16) rfl PL hF hn
    (try dsimp only)
    k_steps
    refine' con_use (ap_spec _ n t ?z0 ?z1) ?zB ?zF ?zX ?zN ?zT ?zk ?zd ?zu ?_
    ktr_unf
    case z0 => omega
    case z1 => rw [apL_len]; omega
    rintro v h' tk' news' F' N' ⟨bs, tb, rfl, rfl, hb⟩
    (try dsimp only)
    k_steps
    refine comp_by (by k_asm) (by with_unfolding_all rfl) (by decide) rfl (by decide) rfl (by intro _; rfl) ?_
    k_steps
    rename Fr _ _ _ _ => F0
    rename News _ _ _ _ => N0
    refine' src_bytes (fun k => k - 65) rfl hb ?hsz F0 N0 ?turn2 ?done2
    case hsz => rw [apL_len, PySem.sizeLine_eq]; omega
    case turn2 =>
      clear N0 F0
      intro k' t' I' oI' C' oC' D' m' ys' h' tk' E' hk' hC' hx' F' N' off' ne' hMark'
      simp only [LCg.Off3, and_true] at off'
      (try dsimp only)
      k_steps
    case done2 =>
      clear N0 F0
      intro D' ys' h' tk' hy' F' N' o1'
      have hy2 := eq_ints hy' (apL_back n.toNat)
      simp only [LCg.Off1, and_true] at o1'
      (try dsimp only)
      k_steps
      refine' con_use (sp_spec rL D' _ _ _ _ _ _ _ 16 n _ _ iL hy2 (by decide) (by decide) PL.fl (by omega) x3 x4 x5) ?zB ?zF ?zX (news_sp ?zN) ?zT ?zk ?zd ?zu ?_
      ktr_unf
      rintro v h' tk' news' F' N' ⟨rfl, rfl⟩
      (try dsimp only)
      k_steps
      exact ⟨_, _, _, _, _, _, _, rfl, F', (fun y hy => by simp only [if_neg hy]), news_sq N', hd, hd2⟩
  case done =>
    clear N1 F0 q1 q3
    intro u h tk o o2 v v2 hd hd2 F' N'
    (try dsimp only)
    k_steps
    refine' con_use (si_spec _) ?zB ?zF ?zX ?zN ?zT ?zk ?zd ?zu ?_
    ktr_unf
    rintro v' h' tk' news' F' N' ⟨⟨t, rfl⟩, rfl⟩
    (try dsimp only)
    k_steps
    rename _ = Data.cell (some (Value.bytes _ _)) => dS
    refine' con_use (fo_spec _ _ _ _ _ _ _ _ _ iS PS) ?zB ?zF ?zX (news_fo ?zN) ?zT ?zk ?zd ?zu ?_
    ktr_unf
    rintro v h' tk' news' F' N' ⟨rG, vG, nG, fo, se, rfl, rfl, iG, hG⟩
    have kG := iG.length
    (try dsimp only)
    k_steps
    refine' con_use (lo_spec _ _ _ _ _ _ _ _ _ iS PS) ?zB ?zF ?zX (news_sw2 ?zN) ?zT ?zk ?zd ?zu ?_
    ktr_unf
    rintro v h' tk' news' F' N' ⟨rR, vR, nR, res, rfl, rfl, iR, hR⟩
    obtain rfl := low_eq PS hG hR
    have kR := iR.length
    (try dsimp only)
    k_steps
    rename Fr _ _ _ _ => F0
    rename News _ _ _ _ => N0
    obtain ⟨N1, nG1, nG2, nG3⟩ := cut2 N0 hd hd2 dS
    clear N0
    revert F0 N1
    repeat (rename Fr _ _ _ _ => zz; clear zz)
    repeat (rename News _ _ _ _ => zz; clear zz)
    repeat (rename List.length _ = List.length _ => zz; clear zz)
    intro F0 N1
    refine' for_cells (Str.ofString "row") (l := rG) (nn := nG) rfl rfl rfl rfl F0 N1 hd hd2 ?ne ?cr ?hl iG ?hit ?turn ?done
    case ne => k_ne
    case cr => exact List.forall_mem_cons.mpr ⟨Nat.succ_ne_self _, List.forall_mem_cons.mpr ⟨nS1, List.forall_mem_cons.mpr ⟨nG1, List.forall_mem_nil _⟩⟩⟩
    case hl => k_mem
    case hit =>
      intro Q' hq
      k_steps
      exact hq
    case turn =>
      clear N1 F0
      intro n t u h tk I oI o o2 v2 hn hAll hd hd2 F' N'
      simp only [AllLt] at hAll
      obtain ⟨x0, x1, x2, x3, x4, x5⟩ := dig_found (b := 62) (base := 64) rfl PS hG hn
      (try dsimp only)
      k_steps
      refine comp_by (by k_asm) (by with_unfolding_all rfl) (by decide) rfl (by decide) rfl (by intro _; rfl) ?_
      k_steps
      rename IsRange _ _ _ _ _ _ _ _ => rgX
      rename Fr _ _ _ _ => F0
      rename News _ _ _ _ => N0
      refine' src_down 9 (fun k => (n.fdiv (256 ^ k.toNat)).fmod 256) rfl rgX ?sm ?hn ?hsz F0 N0 ?turn2 ?done2
      case sm => decide
      case hn => rfl
      case hsz => rw [PySem.sizeLine_eq]; omega
      case turn2 =>
        clear N0 F0 rgX
        intro k' t' I' oI' C' oC' D' m' ys' h' tk' E' hk' hC' hx' F' N' off' ne' hMark'
        simp only [LCg.Off3, and_true] at off'
        have hk2 := down_rg hk'
        (try dsimp only)
        k_steps
      case done2 =>
        clear N0 F0 rgX
        intro D' ys' h' tk' hy' F' N' o1'
        have hy2 : IntsAre ys' (octs n) := hy'
        clear hy'
        simp only [LCg.Off1, and_true] at o1'
        (try dsimp only)
        k_steps
        refine' KBa.make_K ?kbaF ?kbaN ?kbah ?kbal hy2 (octs_in n) ?kban ?_
        case kbaF => k_asm
        case kbaN => k_asm
        case kbah => rfl
        case kbal => exact ⟨_, (N' _ (List.Mem.head _)).1, rfl, _, rfl⟩
        case kban => rw [octs_len]; decide
        intro h9 t9 k9 F9 N9 I9
        have hby := KBa.ints_make I9
        clear I9 hy2
        (try dsimp only)
        k_steps
        refine' con_use (be_spec _ _ _ _ hby (octs_len n)) ?zB ?zF ?zX ?zN ?zT ?zk ?zd ?zu ?_
        ktr_unf
        rintro v h' tk' news' F' N' ⟨cs, t2, rfl, rfl, hcs⟩
        rw [octs_val (by omega) (found_lt PS hG hn)] at hcs
        clear hby
        (try dsimp only)
        k_steps
        · rename _ ≠ (12 : Int) => hne
          exact absurd rfl hne
        rename Fr _ _ _ _ => F0
        rename News _ _ _ _ => N0
        rename IntsAre _ (List.map _ (rangeKs _ _)) => iY
        have iY2 := eq_ints iY (range_map (n := 12) (dgB_len 12 n))
        refine' ksw_while (σ := Addr × List Value × List Int × Nat) (fun c => (c.1, listOf c.2.1.toArray c.2.2.2) :: _) (fun c => [(Str.ofString "row", .ref c.1)]) (fun c => IntsAre c.2.1 c.2.2.1) [] (fun c => (∃ j, dgB 12 n = List.replicate j 0 ++ c.2.2.1) ∧ c.2.2.1.length ≤ 12) (fun c => c.2.2.1.length) (_, _, _, _) F0 N0 iY2 ?hk ⟨⟨0, rfl⟩, Nat.le_of_eq (dgB_len 12 n)⟩ ?turn3
        case hk => exact List.forall_mem_cons.mpr ⟨by with_unfolding_all rfl, List.forall_mem_nil _⟩
        case turn3 =>
          clear F0 N0 iY iY2
          rintro ⟨rr, rv, rs, rn⟩ u h tk hI hP F N
          simp only [kstB, List.contains_nil, Bool.false_eq_true, if_false] at hI hP F N
          have hIl := hI.length
          obtain ⟨hP, hP2⟩ := hP
          dsimp only
          k_steps
          · rename Fr _ _ _ _ => F1
            rename News _ _ _ _ => N1
            rename List.take 1 rs = [0] => ht
            rename IntsAre _ (List.drop _ _) => iD
            obtain ⟨g1, g2⟩ := row_step hP ht
            refine' ksw_end (_, _, rs.drop 1, _) F1 N1 ?m1 iD ?m2 ?m3 ⟨g1, Nat.le_trans (Nat.le_of_lt g2) hP2⟩ g2
            case m1 => exact mem_kw
            case m2 => exact List.forall_mem_cons.mpr ⟨by with_unfolding_all rfl, List.forall_mem_nil _⟩
            case m3 =>
              intro z h2 _
              have h2' : z ≠ Str.ofString "row" := h2 _ (List.Mem.head _)
              simp only [if_neg h2']
          · rename ¬ List.take 1 rs = [0] => ht
            have hI2 := eq_ints hI (row_done (by omega) x2 x5 hP ht)
            refine' con_use (sp_spec rS rr _ _ _ _ _ _ _ 64 n _ _ iS hI2 (by decide) (by decide) PS.fl (by omega) x3 x4 x5) ?zB ?zF ?zX (news_sr ?zN) ?zT ?zk ?zd ?zu ?_
            ktr_unf
            rintro v h' tk' news' F' N' ⟨rfl, rfl⟩
            (try dsimp only)
            k_steps
            exact ⟨_, _, _, _, _, _, _, rfl, F', (fun y hy => by simp only [if_neg hy]), news_st N', hd, by assumption⟩
    case done =>
      clear N1 F0
      intro u h tk o o2 v v2 hd hd2 F' N'
      (try dsimp only)
      k_steps
end Mine
end

theorem PySem.Challenge.cw_oy0023_01_holds : PySem.Challenge.rw_oy0023_01.Holds :=
  Mine.go
