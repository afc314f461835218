import PyProof.Rows.All
import Wide.All
import OpenK.AllK
import Wide.FinOn
import Lean
import PySem.Challenge.RW_ez0167_01
open PySem PySem.W PyProof.Rows
set_option Elab.async false
namespace Mine
set_option maxRecDepth 100000 in
set_option maxHeartbeats 8000000 in
open_top hd for PySem.Challenge.rw_ez0167_01
end Mine
namespace Mine
def laV (ns : List Int) (i : Int) : Int := if (ns.length : Int) ≤ i then -1 else ns.getD i.toNat 0
abbrev strmD (ha hb : Int) (ta tb : Tok) (l : Addr) (i : Int) (ti : Tok) : Obj :=
  dictOf [⟨ha, .str (Str.ofString "data") ta, .ref l⟩, ⟨hb, .str (Str.ofString "index") tb, .int i ti⟩] 2
abbrev strmL (x dx l : Addr) (ha hb : Int) (ta tb : Tok) (vs : List Value) (nn : Nat) (i : Int) (ti : Tok) (rest : List (Addr × Obj)) : List (Addr × Obj) :=
  (x, instObj 52 dx) :: (dx, strmD ha hb ta tb l i ti) :: (l, listOf vs.toArray nn) :: rest

local macro_rules | `(tactic| k_all) => `(tactic| assumption)

section
variable {w : World} {loose : List Str} {mean : ExcName → Option Value} {mg mb : Str → Option Value}
  {dp un : Nat} {gd : Option (List Code)} {cn : Str} {cs : Scope} {a : Addr} {ccd : Value} {cl : List (Str × Addr)} {outer : List Env} {A₀ : Around} {base h₀ : Heap} {L : Addr} {m : Str → Option Value} {s : Shared} {Q E : Value → Shared → Prop}
  {x dx l lx dlx : Addr} {ha hb hc : Int} {ta tb tc : Tok} {vs : List Value} {ns : List Int} {nn : Nat} {i : Int} {ti t1 : Tok} {rest : List (Addr × Obj)}

set_option maxRecDepth 100000 in
set_option maxHeartbeats 8000000 in
theorem LA_spec
  (B : Below A₀ base outer h₀) (F : Fr h₀ L s.heap m) (X : (hd.heap_39 w.params).In h₀)
  (N : News h₀ L s.heap (strmL x dx l ha hb ta tb vs nn i ti rest))
  (T : Top hd.view_39 loose mean mg mb h₀) (hk : cs.kind = .function) (hI : IntsAre vs ns) (hlen : ns.length < 10000) (h0 : 0 ≤ i) (h1 : i < 10000)
  (hdp : dp + 1 < recursionLimit) (hun : un + 8 < cLine)
  (hret : ∀ t h' tk', Fr h₀ L h' m → News h₀ L h' (strmL x dx l ha hb ta tb vs nn i ti rest) → Q (.int (laV ns i) t) { s with heap := h', toks := tk' }) :
  wpAny (model PySem.Challenge.rw_ez0167_01.row.prog w) (ktrTop dp un gd cn cs L a ccd cl outer) (call (.ref 42) [.ref x, .int 1 t1]) Q E s := by
  revert X; k_fill; intro X
  refine wpAny_call ?_
  k_dflt ktr_enter
  k_steps
  all_goals (refine cb_retI (x := laV ns i) (Q := Q) hret ?_ (by k_asm) (by k_asm))
  all_goals (unfold laV; split <;> first | rfl | omega | (congr 1; omega))

set_option maxRecDepth 100000 in
set_option maxHeartbeats 8000000 in
theorem consume_spec
  (B : Below A₀ base outer h₀) (F : Fr h₀ L s.heap m) (X : (hd.heap_39 w.params).In h₀)
  (N : News h₀ L s.heap (strmL x dx l ha hb ta tb vs nn i ti rest)) (hx : @Ne Nat x dx) (hl : @Ne Nat l dx) (hr : ∀ p ∈ rest, p.1 ≠ dx)
  (T : Top hd.view_39 loose mean mg mb h₀) (hk : cs.kind = .function) (hI : IntsAre vs ns) (hlen : ns.length < 10000) (h0 : 0 ≤ i) (h1 : i < ns.length)
  (hdp : dp + 1 < recursionLimit) (hun : un + 8 < cLine)
  (hret : ∀ t h' tk', Fr h₀ L h' m → News h₀ L h' (strmL x dx l ha hb ta tb vs nn (i + 1) t rest) → Q .none { s with heap := h', toks := tk' }) :
  wpAny (model PySem.Challenge.rw_ez0167_01.row.prog w) (ktrTop dp un gd cn cs L a ccd cl outer) (call (.ref 49) [.ref x]) Q E s := by
  revert X; k_fill; intro X
  refine wpAny_call ?_
  k_dflt ktr_enter
  k_steps
  all_goals first | omega | exact hret _ _ _ (by k_asm) (by k_asm)
end
end Mine
namespace Mine
local macro_rules | `(tactic| k_all) => `(tactic| assumption)
theorem laV_lt {ns : List Int} {j c : Int} (h : laV ns j = c) (hc : c ≠ -1) : j < ns.length := by
  unfold laV at h; split at h <;> omega
local macro_rules | `(tactic| walk_at "mine lt") => `(tactic| (have hlt9 := laV_lt (by assumption) (by decide); omega))
local macro_rules | `(tactic| walk_at "mine while?") => `(tactic| with_reducible show wpAny _ _ (exec (Stmt.While _ _ _ _) _) _ _ _)
local macro_rules | `(tactic| walk_at "mine steps") => `(tactic| repeat' ((fail_if_success (walk_at "mine while?")); (first | (k_unfold; (try dsimp only)) | (k_end; wrow_close) | walk1 | (dsimp only; walk1) | (leave1; walk_say "STEP leave1"; try dsimp only) | fail "no step")))
/-- the ledger's entries may be taken in any order -/
local macro_rules | `(tactic| walk_at "call ref") => `(tactic| (k_here; (with_reducible show wpAny _ _ (call (Value.ref 42) _) _ _ _); k_dflt (refine' LA_spec ?k1 ?k2 ?k3 ?k4 ?k5 ?k6 ?k7 ?k8 ?k9 ?k10 ?k11 ?k12 ?_; (case k1 => k_asm); (case k2 => k_asm); (case k3 => k_asm); (case k4 => k_asm); (case k5 => k_asm); (case k6 => first | assumption | exact rfl); (case k7 => assumption); (case k8 => omega); (case k9 => first | omega | walk_at "mine lt"); (case k10 => first | omega | walk_at "mine lt"); (case k11 => ktr_room); (case k12 => ktr_units); k_whole; intro t9 h9 tk9 F9 N9; dsimp only [strmL, strmD] at N9; (try dsimp only); (try k_sweep))))

local macro_rules | `(tactic| walk_at "call ref") => `(tactic| (k_here; (with_reducible show wpAny _ _ (call (Value.ref 49) _) _ _ _); k_dflt (refine' consume_spec ?k1 ?k2 ?k3 ?k4 ?kx ?kl ?kr ?k5 ?k6 ?k7 ?k8 ?k9 ?k10 ?k11 ?k12 ?_; (case k1 => k_asm); (case k2 => k_asm); (case k3 => k_asm); (case k4 => k_asm); (case kx => first | assumption | omega); (case kl => first | assumption | omega); (case kr => k_all); (case k5 => k_asm); (case k6 => first | assumption | exact rfl); (case k7 => assumption); (case k8 => omega); (case k9 => first | omega | walk_at "mine lt"); (case k10 => first | omega | walk_at "mine lt"); (case k11 => ktr_room); (case k12 => ktr_units); k_whole; intro t9 h9 tk9 F9 N9; dsimp only [strmL, strmD] at N9; (try dsimp only); (try k_sweep))))

def SkipRel (ns : List Int) (i j r : Int) : Prop :=
  i < j ∧ j ≤ ns.length ∧ (∀ k, i < k → k < j → ns.getD k.toNat 0 = 61) ∧ laV ns j ≠ 61 ∧ r = if laV ns j = laV ns i then j - i + 1 else if j = i + 1 then 1 else 0
theorem skip_step {ns : List Int} {i c j : Int} (h2 : laV ns j = 61) (h1 : c = j - (i+1)) (h3 : i + 1 ≤ j) (h4 : j ≤ ns.length) (h : ∀ k, i < k → k < j → ns.getD k.toNat 0 = 61) :
    c + 1 = j + 1 - (i+1) ∧ i + 1 ≤ j + 1 ∧ j + 1 ≤ ns.length ∧ (∀ k, i < k → k < j + 1 → ns.getD k.toNat 0 = 61) := by
  have h3 := laV_lt h2 (by decide)
  refine ⟨by omega, by omega, by omega, fun k h4 h5 => ?_⟩
  by_cases h6 : k < j
  · exact h k h4 h6
  · have : k = j := by omega
    subst this
    unfold laV at h2; rw [if_neg (by omega)] at h2; exact h2
theorem skip_end1 {ns : List Int} {i c j r : Int} (h2 : laV ns j ≠ 61) (h1 : c = j - (i+1)) (h3 : i + 1 ≤ j) (h4 : j ≤ ns.length) (h : ∀ k, i < k → k < j → ns.getD k.toNat 0 = 61)
   (he : laV ns j = laV ns i) (hr : r = c + 2) : SkipRel ns i j r := ⟨by omega, h4, h, h2, by rw [if_pos he]; omega⟩
theorem skip_end2 {ns : List Int} {i c j r : Int} (h2 : laV ns j ≠ 61) (h1 : c = j - (i+1)) (h3 : i + 1 ≤ j) (h4 : j ≤ ns.length) (h : ∀ k, i < k → k < j → ns.getD k.toNat 0 = 61)
   (he : laV ns j ≠ laV ns i) (hc : c = 0) (hr : r = 1) : SkipRel ns i j r := ⟨by omega, h4, h, h2, by rw [if_neg he, if_pos (by omega)]; exact hr⟩
theorem skip_end3 {ns : List Int} {i c j r : Int} (h2 : laV ns j ≠ 61) (h1 : c = j - (i+1)) (h3 : i + 1 ≤ j) (h4 : j ≤ ns.length) (h : ∀ k, i < k → k < j → ns.getD k.toNat 0 = 61)
   (he : laV ns j ≠ laV ns i) (hc : c ≠ 0) (hr : r = 0) : SkipRel ns i j r := ⟨by omega, h4, h, h2, by rw [if_neg he, if_neg (by omega)]; exact hr⟩

section
variable {w : World} {loose : List Str} {mean : ExcName → Option Value} {mg mb : Str → Option Value}
  {dp un : Nat} {gd : Option (List Code)} {cn : Str} {cs : Scope} {a : Addr} {ccd : Value} {cl : List (Str × Addr)} {outer : List Env} {A₀ : Around} {base h₀ : Heap} {L : Addr} {m : Str → Option Value} {s : Shared} {Q E : Value → Shared → Prop}
  {x dx l lx dlx : Addr} {ha hb hc : Int} {ta tb tc : Tok} {vs : List Value} {ns : List Int} {nn : Nat} {i : Int} {ti t1 : Tok} {rest : List (Addr × Obj)} {slf : Value}

set_option maxRecDepth 100000 in
set_option maxHeartbeats 8000000 in
theorem skip_spec
  (B : Below A₀ base outer h₀) (F : Fr h₀ L s.heap m) (X : (hd.heap_39 w.params).In h₀)
  (N : News h₀ L s.heap (strmL x dx l ha hb ta tb vs nn i ti rest)) (hx : @Ne Nat x dx) (hl : @Ne Nat l dx) (hr : ∀ p ∈ rest, p.1 ≠ dx)
  (T : Top hd.view_39 loose mean mg mb h₀) (hk : cs.kind = .function) (hI : IntsAre vs ns) (hlen : ns.length < 10000) (h0 : 0 ≤ i) (h1 : i < ns.length)
  (hdp : dp + 2 < recursionLimit) (hun : un + 16 < cLine)
  (hret : ∀ j r t t' h' tk', Fr h₀ L h' m → News h₀ L h' (strmL x dx l ha hb ta tb vs nn j t rest) → SkipRel ns i j r → Q (.int r t') { s with heap := h', toks := tk' }) :
  wpAny (model PySem.Challenge.rw_ez0167_01.row.prog w) (ktrTop dp un gd cn cs L a ccd cl outer) (call (.ref 91) [slf, .ref x]) Q E s := by
  revert X; k_fill; intro X
  dsimp only [strmL, strmD] at N
  k_with_none
  refine wpAny_call ?_
  k_dflt ktr_enter
  walk_at "mine steps"
  k_while (fun _ c j => c = j - (i+1) ∧ i + 1 ≤ j ∧ j ≤ ns.length ∧ (∀ k, i < k → k < j → ns.getD k.toNat 0 = 61)) (fun _ c j => (ns.length - j).toNat) "count" "cs.index"
  k_with "state" => exact skip_step (by assumption) (by assumption) (by assumption) (by assumption) (by assumption)
  k_with "measure" => walk_at "mine lt"
  walk_at "mine steps"
  all_goals exact hret _ _ _ _ _ _ (by k_asm) (by k_asm) (by first
    | exact skip_end1 (by assumption) (by assumption) (by assumption) (by assumption) (by assumption) (by assumption) rfl
    | exact skip_end2 (by assumption) (by assumption) (by assumption) (by assumption) (by assumption) (by assumption) (by assumption) rfl
    | exact skip_end3 (by assumption) (by assumption) (by assumption) (by assumption) (by assumption) (by assumption) (by assumption) rfl)
end
end Mine
namespace Mine
local macro_rules | `(tactic| k_all) => `(tactic| assumption)
theorem laV_ne_lt {ns : List Int} {j : Int} (h : laV ns j ≠ -1) : j < ns.length := by
  by_cases h' : j < ns.length
  · exact h'
  · exact absurd (by unfold laV; rw [if_pos (by omega)]) h
theorem skip_lt {ns : List Int} {sep j j' r : Int} (hv : laV ns j = 93) (S : SkipRel ns j j' r) (hr : r = sep) (hs : 2 ≤ sep) : j' < ns.length := by
  obtain ⟨s1, s2, s3, s4, s5⟩ := S
  have he : laV ns j' = laV ns j := by
    by_cases he : laV ns j' = laV ns j
    · exact he
    · rw [if_neg he] at s5; split at s5 <;> omega
  exact laV_lt (he.trans hv) (by decide)
theorem le_10k {j n : Int} (h : j < n) (hn : n < 10000) : j < 10000 := by omega
local macro_rules | `(tactic| walk_at "mine lt") => `(tactic| first | omega | exact laV_lt (by assumption) (by decide) | exact laV_ne_lt (by assumption) | exact skip_lt (by assumption) (by assumption) (by assumption) (by assumption))
local macro_rules | `(tactic| walk_at "mine while?") => `(tactic| with_reducible show wpAny _ _ (exec (Stmt.While _ _ _ _) _) _ _ _)
local macro_rules | `(tactic| walk_at "mine steps") => `(tactic| repeat' ((fail_if_success (walk_at "mine while?")); (first | (k_unfold; (try dsimp only)) | (k_end; wrow_close) | walk1 | (dsimp only; walk1) | (leave1; walk_say "STEP leave1"; try dsimp only) | fail "no step")))
local macro_rules | `(tactic| walk_at "call ref") => `(tactic| (k_here; (with_reducible show wpAny _ _ (call (Value.ref 42) _) _ _ _); k_dflt (refine' LA_spec ?k1 ?k2 ?k3 ?k4 ?k5 ?k6 ?k7 ?k8 ?k9 ?k10 ?k11 ?k12 ?_; (case k1 => k_asm); (case k2 => k_asm); (case k3 => k_asm); (case k4 => k_asm); (case k5 => k_asm); (case k6 => first | assumption | exact rfl); (case k7 => assumption); (case k8 => omega); (case k9 => omega); (case k10 => omega); (case k11 => ktr_room); (case k12 => ktr_units); k_whole; intro t9 h9 tk9 F9 N9; dsimp only [strmL, strmD] at N9; (try dsimp only); (try k_sweep))))
local macro_rules | `(tactic| walk_at "call ref") => `(tactic| (k_here; (with_reducible show wpAny _ _ (call (Value.ref 49) _) _ _ _); k_dflt (refine' consume_spec ?k1 ?k2 ?k3 ?k4 ?kx ?kl ?kr ?k5 ?k6 ?k7 ?k8 ?k9 ?k10 ?k11 ?k12 ?_; (case k1 => k_asm); (case k2 => k_asm); (case k3 => k_asm); (case k4 => k_asm); (case kx => first | assumption | omega); (case kl => first | assumption | omega); (case kr => k_all); (case k5 => k_asm); (case k6 => first | assumption | exact rfl); (case k7 => assumption); (case k8 => omega); (case k9 => walk_at "mine lt"); (case k10 => walk_at "mine lt"); (case k11 => ktr_room); (case k12 => ktr_units); k_whole; intro t9 h9 tk9 F9 N9; dsimp only [strmL, strmD] at N9; (try dsimp only); (try k_sweep))))
local macro_rules | `(tactic| walk_at "call ref") => `(tactic| (k_here; (with_reducible show wpAny _ _ (call (Value.ref 91) _) _ _ _); k_dflt (refine' skip_spec ?k1 ?k2 ?k3 ?k4 ?kx ?kl ?kr ?k5 ?k6 ?k7 ?k8 ?k9 ?k10 ?k11 ?k12 ?_; (case k1 => k_asm); (case k2 => k_asm); (case k3 => k_asm); (case k4 => k_asm); (case kx => first | assumption | omega); (case kl => first | assumption | omega); (case kr => k_all); (case k5 => k_asm); (case k6 => first | assumption | exact rfl); (case k7 => assumption); (case k8 => omega); (case k9 => walk_at "mine lt"); (case k10 => walk_at "mine lt"); (case k11 => ktr_room); (case k12 => ktr_units); k_whole; intro j9 r9 t9 u9 h9 tk9 F9 N9 S9; have S9a := S9.1; have S9b := S9.2.1; dsimp only [strmL, strmD] at N9; (try dsimp only); (try k_sweep))))

def CloseAt (ns : List Int) (sep q : Int) : Prop :=
  0 ≤ q ∧ q + sep ≤ ns.length ∧ ns.getD q.toNat 0 = 93 ∧ (∀ k, q < k → k < q + sep - 1 → ns.getD k.toNat 0 = 61) ∧ ns.getD (q + sep - 1).toNat 0 = 93
def RL (ns : List Int) (sep i e : Int) : Prop :=
  (∃ q, i ≤ q ∧ CloseAt ns sep q ∧ e = q + sep ∧ ∀ q', i ≤ q' → q' < q → ¬ CloseAt ns sep q') ∨ (e = ns.length ∧ ∀ q, i ≤ q → ¬ CloseAt ns sep q)

abbrev RInv (ns : List Int) (sep i : Int) (d : Bool) (j : Int) : Prop :=
  i + 1 ≤ j ∧ j ≤ ns.length ∧ (d = false → ∀ q, i + 1 ≤ q → q < j → ¬ CloseAt ns sep q) ∧ (d = true → RL ns sep (i + 1) j)

theorem laV_in {ns : List Int} {j : Int} (h : j < ns.length) : laV ns j = ns.getD j.toNat 0 := by
  unfold laV; rw [if_neg (by omega)]
theorem getD_pos {ns : List Int} (hp : ∀ n ∈ ns, 0 ≤ n) (k : Nat) : 0 ≤ ns.getD k 0 := by
  rw [List.getD_eq_getElem?_getD]
  cases h : ns[k]? with
  | none => simp
  | some v => exact hp v (List.mem_of_getElem? h)
theorem laV_end {ns : List Int} {j : Int} (hp : ∀ n ∈ ns, 0 ≤ n) (h : laV ns j = -1) : ns.length ≤ j := by
  unfold laV at h
  split at h
  · assumption
  · have := getD_pos hp j.toNat; omega

theorem r_way1 {ns : List Int} {sep i j : Int} (hs : 2 ≤ sep) (hp : ∀ n ∈ ns, 0 ≤ n) (h1 : i + 1 ≤ j) (h2 : j ≤ ns.length) (h3 : ∀ q, i + 1 ≤ q → q < j → ¬ CloseAt ns sep q) (hv : laV ns j = -1) :
    RInv ns sep i true j := by
  have h4 := laV_end hp hv
  refine ⟨h1, h2, fun h => (nomatch h), fun _ => .inr ⟨by omega, fun q h5 h6 => ?_⟩⟩
  by_cases h7 : q < j
  · exact h3 q h5 h7 h6
  · have := h6.2.1; omega
theorem close_skip {ns : List Int} {sep j j' r : Int} (hs : 2 ≤ sep) (h0 : 0 ≤ j) (hv : laV ns j = 93) (S : SkipRel ns j j' r) : (r = sep ↔ CloseAt ns sep j) := by
  obtain ⟨s1, s2, s3, s4, s5⟩ := S
  have hj : j < ns.length := laV_lt hv (by decide)
  have hg : ns.getD j.toNat 0 = 93 := by rw [← laV_in hj]; exact hv
  constructor
  · intro hr
    rw [hv] at s5
    have he : laV ns j' = 93 := by
      by_cases he : laV ns j' = 93
      · exact he
      · rw [if_neg he] at s5; split at s5 <;> omega
    rw [if_pos he] at s5
    have hj' : j' < ns.length := laV_lt he (by decide)
    have e : j + sep - 1 = j' := by omega
    refine ⟨h0, by omega, hg, fun k k1 k2 => s3 k k1 (by omega), ?_⟩
    rw [e, ← laV_in hj']; exact he
  · rintro ⟨_, c2, _, c4, c5⟩
    have hin : j + sep - 1 < ns.length := by omega
    have e : j' = j + sep - 1 := by
      rcases Int.lt_trichotomy j' (j + sep - 1) with h | h | h
      · exact absurd (by rw [laV_in (by omega)]; exact c4 j' s1 h) s4
      · exact h
      · have := s3 (j + sep - 1) (by omega) h; omega
    have he : laV ns j' = laV ns j := by rw [hv, e, laV_in hin]; exact c5
    rw [if_pos he] at s5; omega
theorem r_way1' {ns : List Int} {sep i j : Int} {d : Bool} (hs : 2 ≤ sep) (hp : ∀ n ∈ ns, 0 ≤ n) (hv : laV ns j = -1) (h1 : i + 1 ≤ j) (h2 : j ≤ ns.length) (hd : d = false) (h3 : d = false → ∀ q, i + 1 ≤ q → q < j → ¬ CloseAt ns sep q) :
    RInv ns sep i true j := r_way1 hs hp h1 h2 (h3 hd) hv
theorem r_way2 {ns : List Int} {sep i j j' r : Int} (hs : 2 ≤ sep) (h0 : 0 ≤ i) (hv : laV ns j = 93) (h1 : i + 1 ≤ j) (S : SkipRel ns j j' r) (hr : r = sep) (h3 : ∀ q, i + 1 ≤ q → q < j → ¬ CloseAt ns sep q) :
    RInv ns sep i true (j' + 1) ∧ j' < ns.length := by
  have hc := (close_skip hs (by omega) hv S).mp hr
  obtain ⟨s1, s2, s3, s4, s5⟩ := S
  have he : laV ns j' = laV ns j := by
    by_cases he : laV ns j' = laV ns j
    · exact he
    · rw [if_neg he] at s5; split at s5 <;> omega
  rw [if_pos he] at s5
  have hj' : j' < ns.length := laV_lt (he.trans hv) (by decide)
  exact ⟨⟨by omega, by omega, fun h => (nomatch h), fun _ => .inl ⟨j, h1, hc, by omega, h3⟩⟩, hj'⟩
theorem r_way3 {ns : List Int} {sep i j j' r : Int} (hs : 2 ≤ sep) (h0 : 0 ≤ i) (hv : laV ns j = 93) (h1 : i + 1 ≤ j) (S : SkipRel ns j j' r) (hr : r ≠ sep) (h3 : ∀ q, i + 1 ≤ q → q < j → ¬ CloseAt ns sep q) :
    RInv ns sep i false j' := by
  have hc := fun h => hr ((close_skip hs (by omega) hv S).mpr h)
  obtain ⟨s1, s2, s3, s4, s5⟩ := S
  refine ⟨by omega, s2, fun _ q q1 q2 => ?_, fun h => (nomatch h)⟩
  rcases Int.lt_trichotomy q j with h | h | h
  · exact h3 q q1 h
  · rw [h]; exact hc
  · intro c; have := c.2.2.1; have := s3 q h q2; omega
theorem r_way4 {ns : List Int} {sep i j : Int} (hp : ∀ n ∈ ns, 0 ≤ n) (h0 : 0 ≤ i) (hv : laV ns j ≠ 93) (hv2 : laV ns j ≠ -1) (h1 : i + 1 ≤ j) (h2 : j ≤ ns.length) (h3 : ∀ q, i + 1 ≤ q → q < j → ¬ CloseAt ns sep q) :
    RInv ns sep i false (j + 1) ∧ j < ns.length := by
  have hj : j < ns.length := by
    by_cases h : j < ns.length
    · exact h
    · exact absurd (by unfold laV; rw [if_pos (by omega)]) hv2
  refine ⟨⟨by omega, by omega, fun _ q q1 q2 => ?_, fun h => (nomatch h)⟩, hj⟩
  by_cases h : q < j
  · exact h3 q q1 h
  · have e : q = j := by omega
    subst e
    intro c; exact hv (by rw [laV_in hj]; exact c.2.2.1)
theorem r_way2' {ns : List Int} {sep i j j' r : Int} {d : Bool} (hs : 2 ≤ sep) (h0 : 0 ≤ i) (S : SkipRel ns j j' r) (hv : laV ns j = 93) (h1 : i + 1 ≤ j) (hr : r = sep) (hd : d = false) (h3 : d = false → ∀ q, i + 1 ≤ q → q < j → ¬ CloseAt ns sep q) :
    RInv ns sep i true (j' + 1) := (r_way2 hs h0 hv h1 S hr (h3 hd)).1
theorem r_way3' {ns : List Int} {sep i j j' r : Int} {d : Bool} (hs : 2 ≤ sep) (h0 : 0 ≤ i) (S : SkipRel ns j j' r) (hv : laV ns j = 93) (h1 : i + 1 ≤ j) (hr : r ≠ sep) (hd : d = false) (h3 : d = false → ∀ q, i + 1 ≤ q → q < j → ¬ CloseAt ns sep q) :
    RInv ns sep i d j' := by subst hd; exact r_way3 hs h0 hv h1 S hr (h3 rfl)
theorem r_way4' {ns : List Int} {sep i j : Int} {d : Bool} (hp : ∀ n ∈ ns, 0 ≤ n) (h0 : 0 ≤ i) (hv : laV ns j ≠ 93) (hv2 : laV ns j ≠ -1) (h1 : i + 1 ≤ j) (h2 : j ≤ ns.length) (hd : d = false) (h3 : d = false → ∀ q, i + 1 ≤ q → q < j → ¬ CloseAt ns sep q) :
    RInv ns sep i d (j + 1) := by subst hd; exact (r_way4 hp h0 hv hv2 h1 h2 (h3 rfl)).1
theorem r_meas1 {n j : Int} {d : Bool} (hd : d = false) : (if true = true then 0 else (n - j).toNat + 1) < (if d = true then 0 else (n - j).toNat + 1) := by subst hd; simp
theorem r_meas1' {n j j' : Int} {d : Bool} (hd : d = false) : (if true = true then 0 else (n - j').toNat + 1) < (if d = true then 0 else (n - j).toNat + 1) := by subst hd; simp
theorem r_meas2 {ns : List Int} {j j' r : Int} {d : Bool} (hd : d = false) (hv : laV ns j = 93) (S : SkipRel ns j j' r) : (if d = true then 0 else (ns.length - j').toNat + 1) < (if d = true then 0 else (ns.length - j).toNat + 1) := by
  subst hd
  have := laV_lt hv (by decide)
  obtain ⟨s1, s2, _⟩ := S
  simp only [Bool.false_eq_true, if_false]; omega
theorem r_meas3 {ns : List Int} {j : Int} {d : Bool} (hd : d = false) (hv : laV ns j ≠ -1) : (if d = true then 0 else (ns.length - (j + 1)).toNat + 1) < (if d = true then 0 else (ns.length - j).toNat + 1) := by
  subst hd
  have := laV_ne_lt hv
  simp only [Bool.false_eq_true, if_false]; omega

section
variable {w : World} {loose : List Str} {mean : ExcName → Option Value} {mg mb : Str → Option Value}
  {dp un : Nat} {gd : Option (List Code)} {cn : Str} {cs : Scope} {a : Addr} {ccd : Value} {cl : List (Str × Addr)} {outer : List Env} {A₀ : Around} {base h₀ : Heap} {L : Addr} {m : Str → Option Value} {s : Shared} {Q E : Value → Shared → Prop}
  {x dx l lx dlx : Addr} {ha hb hc : Int} {ta tb tc : Tok} {vs : List Value} {ns : List Int} {nn : Nat} {i sep : Int} {ti t1 : Tok} {rest : List (Addr × Obj)} {slf : Value}

abbrev lexL (lx dlx x : Addr) (hc : Int) (tc : Tok) (rest : List (Addr × Obj)) : List (Addr × Obj) :=
  (lx, instObj 101 dlx) :: (dlx, dictOf [⟨hc, .str (Str.ofString "_input") tc, .ref x⟩] 1) :: rest

set_option maxRecDepth 100000 in
set_option maxHeartbeats 8000000 in
theorem rls_spec
  (B : Below A₀ base outer h₀) (F : Fr h₀ L s.heap m) (X : (hd.heap_39 w.params).In h₀)
  (N : News h₀ L s.heap (strmL x dx l ha hb ta tb vs nn i ti (lexL lx dlx x hc tc rest))) (hx : @Ne Nat x dx) (hl : @Ne Nat l dx) (hlx : @Ne Nat lx dx) (hdlx : @Ne Nat dlx dx) (hr : ∀ p ∈ rest, p.1 ≠ dx)
  (T : Top hd.view_39 loose mean mg mb h₀) (hk : cs.kind = .function) (hI : IntsAre vs ns) (hlen : ns.length < 10000) (hp : ∀ n ∈ ns, 0 ≤ n) (h0 : 0 ≤ i) (h1 : i < ns.length) (hs : 2 ≤ sep)
  (hdp : dp + 3 < recursionLimit) (hun : un + 24 < cLine)
  (hret : ∀ j t h' tk', Fr h₀ L h' m → News h₀ L h' (strmL x dx l ha hb ta tb vs nn j t (lexL lx dlx x hc tc rest)) → RL ns sep (i + 1) j → j ≤ ns.length → i + 1 ≤ j → Q .none { s with heap := h', toks := tk' }) :
  wpAny (model PySem.Challenge.rw_ez0167_01.row.prog w) (ktrTop dp un gd cn cs L a ccd cl outer) (call (.ref 84) [.ref lx, .ref x, .int sep t1]) Q E s := by
  revert X; k_fill; intro X
  dsimp only [strmL, strmD, lexL] at N
  k_with_none
  refine wpAny_call ?_
  k_dflt ktr_enter
  walk_at "mine steps"
  k_with "state" => first
    | exact ⟨by omega, by omega, (fun _ q q1 q2 => absurd q2 (by omega)), (fun h => nomatch h)⟩
    | exact r_way1' hs hp (by assumption) (by assumption) (by assumption) (by assumption) (by assumption)
    | exact r_way2' hs h0 (by assumption) (by assumption) (by assumption) (by assumption) (by assumption) (by assumption)
    | exact r_way3' hs h0 (by assumption) (by assumption) (by assumption) (by assumption) (by assumption) (by assumption)
    | exact r_way4' hp h0 (by assumption) (by assumption) (by assumption) (by assumption) (by assumption) (by assumption)
    | (exfalso; omega)
  k_with "measure" => first
    | exact r_meas1' (by assumption)
    | exact r_meas2 (by assumption) (by assumption) (by assumption)
    | exact r_meas3 (by assumption) (by assumption)
    | (exfalso; omega)
  k_while (fun _ d j => RInv ns sep i d j) (fun _ d j => if d = true then 0 else (ns.length - j).toNat + 1) "done" "cs.index"
  walk_at "mine steps"
  all_goals first | contradiction | exact hret _ _ _ _ (by k_asm) (by k_asm) ((by assumption : _ = true → RL ns sep (i + 1) _) (by assumption)) (by assumption) (by assumption)
end
end Mine
namespace Mine
local macro_rules | `(tactic| k_all) => `(tactic| assumption)
local macro_rules | `(tactic| walk_at "mine lt") => `(tactic| first | omega | exact laV_lt (by assumption) (by decide) | exact laV_ne_lt (by assumption) | exact skip_lt (by assumption) (by assumption) (by assumption) (by assumption))
local macro_rules | `(tactic| walk_at "mine while?") => `(tactic| with_reducible show wpAny _ _ (exec (Stmt.While _ _ _ _) _) _ _ _)
local macro_rules | `(tactic| walk_at "mine steps") => `(tactic| repeat' ((fail_if_success (walk_at "mine while?")); (first | (k_unfold; (try dsimp only)) | (k_end; wrow_close) | walk1 | (dsimp only; walk1) | (leave1; walk_say "STEP leave1"; try dsimp only) | fail "no step")))
local macro_rules | `(tactic| walk_at "call ref") => `(tactic| (k_here; (with_reducible show wpAny _ _ (call (Value.ref 42) _) _ _ _); k_dflt (refine' LA_spec ?k1 ?k2 ?k3 ?k4 ?k5 ?k6 ?k7 ?k8 ?k9 ?k10 ?k11 ?k12 ?_; (case k1 => k_asm); (case k2 => k_asm); (case k3 => k_asm); (case k4 => k_asm); (case k5 => k_asm); (case k6 => first | assumption | exact rfl); (case k7 => assumption); (case k8 => omega); (case k9 => omega); (case k10 => omega); (case k11 => ktr_room); (case k12 => ktr_units); k_whole; intro t9 h9 tk9 F9 N9; dsimp only [strmL, strmD] at N9; (try dsimp only); (try k_sweep))))
local macro_rules | `(tactic| walk_at "call ref") => `(tactic| (k_here; (with_reducible show wpAny _ _ (call (Value.ref 49) _) _ _ _); k_dflt (refine' consume_spec ?k1 ?k2 ?k3 ?k4 ?kx ?kl ?kr ?k5 ?k6 ?k7 ?k8 ?k9 ?k10 ?k11 ?k12 ?_; (case k1 => k_asm); (case k2 => k_asm); (case k3 => k_asm); (case k4 => k_asm); (case kx => first | assumption | omega); (case kl => first | assumption | omega); (case kr => k_all); (case k5 => k_asm); (case k6 => first | assumption | exact rfl); (case k7 => assumption); (case k8 => omega); (case k9 => walk_at "mine lt"); (case k10 => walk_at "mine lt"); (case k11 => ktr_room); (case k12 => ktr_units); k_whole; intro t9 h9 tk9 F9 N9; dsimp only [strmL, strmD] at N9; (try dsimp only); (try k_sweep))))
local macro_rules | `(tactic| walk_at "call ref") => `(tactic| (k_here; (with_reducible show wpAny _ _ (call (Value.ref 91) _) _ _ _); k_dflt (refine' skip_spec ?k1 ?k2 ?k3 ?k4 ?kx ?kl ?kr ?k5 ?k6 ?k7 ?k8 ?k9 ?k10 ?k11 ?k12 ?_; (case k1 => k_asm); (case k2 => k_asm); (case k3 => k_asm); (case k4 => k_asm); (case kx => first | assumption | omega); (case kl => first | assumption | omega); (case kr => k_all); (case k5 => k_asm); (case k6 => first | assumption | exact rfl); (case k7 => assumption); (case k8 => omega); (case k9 => walk_at "mine lt"); (case k10 => walk_at "mine lt"); (case k11 => ktr_room); (case k12 => ktr_units); k_whole; intro j9 r9 t9 u9 h9 tk9 F9 N9 S9; have S9a := S9.1; have S9b := S9.2.1; dsimp only [strmL, strmD] at N9; (try dsimp only); (try k_sweep))))

local macro_rules | `(tactic| walk_at "call ref") => `(tactic| (k_here; (with_reducible show wpAny _ _ (call (Value.ref 84) _) _ _ _); k_dflt (refine' rls_spec ?k1 ?k2 ?k3 ?k4 ?kx ?kl ?km ?kn ?kr ?k5 ?k6 ?k7 ?k8 ?kp ?k9 ?k10 ?ks ?k11 ?k12 ?_; (case k1 => k_asm); (case k2 => k_asm); (case k3 => k_asm); (case k4 => k_asm); (case kx => first | assumption | omega); (case kl => first | assumption | omega); (case km => first | assumption | omega); (case kn => first | assumption | omega); (case kr => k_all); (case k5 => k_asm); (case k6 => first | assumption | exact rfl); (case k7 => assumption); (case k8 => omega); (case kp => assumption); (case k9 => walk_at "mine lt"); (case k10 => walk_at "mine lt"); (case ks => omega); (case k11 => ktr_room); (case k12 => ktr_units); k_whole; intro j9 t9 h9 tk9 F9 N9 S9 S9a S9b; dsimp only [strmL, strmD, lexL] at N9; (try dsimp only); (try k_sweep))))

def Run (ns : List Int) (i j : Int) : Prop := i < j ∧ j ≤ ns.length ∧ (∀ k, i < k → k < j → ns.getD k.toNat 0 = 61) ∧ laV ns j ≠ 61
def NL (ns : List Int) (i e : Int) : Prop := i ≤ e ∧ e ≤ ns.length ∧ (∀ k, i ≤ k → k < e → ns.getD k.toNat 0 ≠ 10) ∧ (laV ns e = 10 ∨ e = ns.length)
def HRel (ns : List Int) (i e : Int) : Prop :=
  (∃ j, Run ns i j ∧ laV ns i = 91 ∧ laV ns j = 91 ∧ RL ns (j - i + 1) (j + 1) e) ∨ ((laV ns i ≠ 91 ∨ ∃ j, Run ns i j ∧ laV ns j ≠ 91) ∧ NL ns i e)
/-- what the last loop of HandleComment holds -/
abbrev HInv (ns : List Int) (i j : Int) : Prop := i ≤ j ∧ j ≤ ns.length ∧ (laV ns i ≠ 91 ∨ ∃ j, Run ns i j ∧ laV ns j ≠ 91) ∧ (∀ k, i ≤ k → k < j → ns.getD k.toNat 0 ≠ 10)
theorem skip_run {ns : List Int} {i j r : Int} (S : SkipRel ns i j r) : Run ns i j := ⟨S.1, S.2.1, S.2.2.1, S.2.2.2.1⟩
theorem skip_ge {ns : List Int} {i j r : Int} (S : SkipRel ns i j r) (h : 2 ≤ r) : laV ns j = laV ns i ∧ r = j - i + 1 := by
  obtain ⟨s1, s2, s3, s4, s5⟩ := S
  split at s5
  · rename_i he; exact ⟨he, s5⟩
  · split at s5 <;> omega
theorem skip_lt2 {ns : List Int} {i j r : Int} (S : SkipRel ns i j r) (hv : laV ns i = 91) (h : 2 ≤ r) : j < ns.length := laV_lt ((skip_ge S h).1.trans hv) (by decide)
theorem h_start1 {ns : List Int} {i : Int} (h : i ≤ ns.length) (hv : laV ns i ≠ 91) : HInv ns i i := ⟨Int.le_refl _, h, .inl hv, fun k k1 k2 => absurd k2 (by omega)⟩
theorem h_start2 {ns : List Int} {i j r : Int} (S : SkipRel ns i j r) (hv : laV ns i = 91) (hr : ¬ 2 ≤ r) : HInv ns i j := by
  obtain ⟨s1, s2, s3, s4, s5⟩ := S
  have hne : laV ns j ≠ laV ns i := by intro e; rw [if_pos e] at s5; omega
  refine ⟨by omega, s2, .inr ⟨j, ⟨s1, s2, s3, s4⟩, by rw [← hv]; exact hne⟩, fun k k1 k2 => ?_⟩
  by_cases e : k = i
  · subst e
    have := laV_lt hv (by decide)
    rw [laV_in this] at hv; omega
  · have := s3 k (by omega) k2; omega
theorem h_step {ns : List Int} {i j : Int} (hv : laV ns j ≠ 10) (hv2 : laV ns j ≠ -1) (h1 : i ≤ j) (h2 : j ≤ ns.length) (h3 : laV ns i ≠ 91 ∨ ∃ j, Run ns i j ∧ laV ns j ≠ 91) (h4 : ∀ k, i ≤ k → k < j → ns.getD k.toNat 0 ≠ 10) : HInv ns i (j + 1) := by
  have hj := laV_ne_lt hv2
  refine ⟨by omega, by omega, h3, fun k k1 k2 => ?_⟩
  by_cases h : k < j
  · exact h4 k k1 h
  · have e : k = j := by omega
    subst e; rw [← laV_in hj]; exact hv
theorem h_end1 {ns : List Int} {i j : Int} (hv : laV ns j = 10) (h1 : i ≤ j) (h2 : j ≤ ns.length) (h3 : laV ns i ≠ 91 ∨ ∃ j, Run ns i j ∧ laV ns j ≠ 91) (h4 : ∀ k, i ≤ k → k < j → ns.getD k.toNat 0 ≠ 10) : HRel ns i j :=
  .inr ⟨h3, h1, h2, h4, .inl hv⟩
theorem h_end2 {ns : List Int} {i j : Int} (hp : ∀ n ∈ ns, 0 ≤ n) (hv : laV ns j = -1) (h1 : i ≤ j) (h2 : j ≤ ns.length) (h3 : laV ns i ≠ 91 ∨ ∃ j, Run ns i j ∧ laV ns j ≠ 91) (h4 : ∀ k, i ≤ k → k < j → ns.getD k.toNat 0 ≠ 10) : HRel ns i j :=
  .inr ⟨h3, h1, h2, h4, .inr (by have := laV_end hp hv; omega)⟩
theorem h_end3 {ns : List Int} {i j r e : Int} (S : SkipRel ns i j r) (hv : laV ns i = 91) (hr : 2 ≤ r) (R : RL ns r (j + 1) e) : HRel ns i e := by
  obtain ⟨h1, h2⟩ := skip_ge S hr
  subst h2
  exact .inl ⟨j, skip_run S, hv, h1.trans hv, R⟩
local macro_rules | `(tactic| walk_at "mine lt") => `(tactic| first | omega | exact laV_lt (by assumption) (by decide) | exact laV_ne_lt (by assumption) | exact skip_lt2 (by assumption) (by assumption) (by assumption))
section
variable {w : World} {loose : List Str} {mean : ExcName → Option Value} {mg mb : Str → Option Value}
  {dp un : Nat} {gd : Option (List Code)} {cn : Str} {cs : Scope} {a : Addr} {ccd : Value} {cl : List (Str × Addr)} {outer : List Env} {A₀ : Around} {base h₀ : Heap} {L : Addr} {m : Str → Option Value} {s : Shared} {Q E : Value → Shared → Prop}
  {x dx l lx dlx : Addr} {ha hb hc : Int} {ta tb tc : Tok} {vs : List Value} {ns : List Int} {nn : Nat} {i sep : Int} {ti t1 : Tok} {rest : List (Addr × Obj)} {slf : Value}

set_option maxRecDepth 100000 in
set_option maxHeartbeats 8000000 in
theorem hc_spec
  (B : Below A₀ base outer h₀) (F : Fr h₀ L s.heap m) (X : (hd.heap_39 w.params).In h₀)
  (N : News h₀ L s.heap (strmL x dx l ha hb ta tb vs nn i ti (lexL lx dlx x hc tc rest))) (hx : @Ne Nat x dx) (hl : @Ne Nat l dx) (hlx : @Ne Nat lx dx) (hdlx : @Ne Nat dlx dx) (hr : ∀ p ∈ rest, p.1 ≠ dx)
  (T : Top hd.view_39 loose mean mg mb h₀) (hk : cs.kind = .function) (hI : IntsAre vs ns) (hlen : ns.length < 9000) (hp : ∀ n ∈ ns, 0 ≤ n) (h0 : 0 ≤ i) (h1 : i ≤ ns.length)
  (hdp : dp + 4 < recursionLimit) (hun : un + 32 < cLine)
  (hret : ∀ j t h' tk', Fr h₀ L h' m → News h₀ L h' (strmL x dx l ha hb ta tb vs nn j t (lexL lx dlx x hc tc rest)) → HRel ns i j → Q .none { s with heap := h', toks := tk' }) :
  wpAny (model PySem.Challenge.rw_ez0167_01.row.prog w) (ktrTop dp un gd cn cs L a ccd cl outer) (call (.ref 77) [.ref lx]) Q E s := by
  revert X; k_fill; intro X
  dsimp only [strmL, strmD, lexL] at N
  k_with_none
  refine wpAny_call ?_
  k_dflt ktr_enter
  walk_at "mine steps"
  k_with "state" => first
    | exact h_start1 (by assumption) (by assumption)
    | exact h_start2 (by assumption) (by assumption) (by assumption)
    | exact h_step (by assumption) (by assumption) (by assumption) (by assumption) (by assumption) (by assumption)
  k_with "measure" => (have hm9 := laV_ne_lt (by assumption); omega)
  all_goals (try (k_while (fun _ j => HInv ns i j) (fun _ j => (ns.length - j).toNat) "cs.index"))
  all_goals (walk_at "mine steps")
  all_goals exact hret _ _ _ _ (by k_asm) (by k_asm) (by first
    | exact h_end3 (by assumption) (by assumption) (by assumption) (by assumption)
    | exact h_end1 (by assumption) (by assumption) (by assumption) (by assumption) (by assumption)
    | exact h_end2 hp (by assumption) (by assumption) (by assumption) (by assumption) (by assumption))
end
end Mine
namespace Mine
open PySem.Builtin PySem.Builtin.Str
def codes (x : Str) : List Int := x.cps.toList.map (fun n : Nat => (n : Int))
theorem codes_len (x : Str) : (codes x).length = x.length := by simp [codes, Str.length]
theorem codes_getD (x : Str) (k : Nat) : (codes x).getD k 0 = ((x.cps.toList.getD k 0 : Nat) : Int) := by
  simp only [codes, List.getD_eq_getElem?_getD, List.getElem?_map]
  cases x.cps.toList[k]? <;> rfl
theorem codes_pos (x : Str) : ∀ n ∈ codes x, 0 ≤ n := by
  intro n h
  obtain ⟨a, _, rfl⟩ := List.mem_map.mp h
  omega
theorem idx_beyond (len : Nat) {i j : Int} (h : (len : Int) ≤ i) (h2 : (len : Int) ≤ j) : strSliceIndices (some i) (some j) 1 len = strSliceIndices (some (len : Int)) (some (len : Int)) 1 len := by
  have a1 : ¬ i < 0 := by omega
  have a2 : ¬ ((len : Int) < 0) := by omega
  have a3 : ¬ j < 0 := by omega
  have e1 : max (0 : Int) (min i (len : Int)) = len := by omega
  have e2 : max (0 : Int) (min (len : Int) (len : Int)) = len := by omega
  have e3 : max (0 : Int) (min j (len : Int)) = len := by omega
  simp [strSliceIndices, a1, a2, a3, e1, e2, e3]
theorem slice_ss {x : Str} {i j : Int} (h0 : 0 ≤ i) (h1 : i ≤ j) (h2 : j ≤ x.length) : Txt.slice x (some i) (some j) = ⟨((x.cps.toList.drop i.toNat).take (j - i).toNat).toArray⟩ := by
  have := slice_closesL (x := x) h0 h1 h2
  exact eq_of_beq this
theorem slice_far {x : Str} {i j : Int} (h : (x.length : Int) ≤ i) (h2 : (x.length : Int) ≤ j) : Txt.slice x (some i) (some j) = ⟨#[]⟩ := by
  have e : Txt.slice x (some i) (some j) = Txt.slice x (some (x.length : Int)) (some (x.length : Int)) := by
    show StrLaws.sliceText x (some i) (some j) = StrLaws.sliceText x _ _
    unfold StrLaws.sliceText
    rw [idx_beyond x.length h h2]
  rw [e, slice_ss (by omega) (Int.le_refl _) (Int.le_refl _)]
  simp
theorem str_len_list (x : Str) : x.cps.toList.length = x.length := by simp [Str.length]
/-- the sign at a place, as the text's one-sign slice and as the stream's number -/
theorem slice_sign {x : Str} {j : Int} {c : Nat} (h0 : 0 ≤ j) : (Txt.slice x (some j) (some (j + 1)) == (⟨#[c]⟩ : Str)) = true ↔ laV (codes x) j = (c : Int) := by
  by_cases h : j < x.length
  · have hl := str_len_list x
    have hj : j.toNat < x.cps.toList.length := by omega
    rw [slice_ss h0 (by omega) (by omega), laV_in (by rw [codes_len]; exact h), codes_getD]
    have e1 : (j + 1 - j).toNat = 1 := by omega
    have e2 : (x.cps.toList.drop j.toNat).take 1 = [x.cps.toList.getD j.toNat 0] := by
      rw [List.take_one, List.head?_drop, List.getD_eq_getElem?_getD, List.getElem?_eq_getElem hj]
      rfl
    rw [e1, e2, beq_iff_eq]
    constructor
    · intro h
      injection h with h
      have h' : [x.cps.toList.getD j.toNat 0] = [c] := congrArg Array.toList h
      injection h' with h' _
      rw [h']
    · intro h
      have : x.cps.toList.getD j.toNat 0 = c := by omega
      rw [this]
  · rw [slice_far (by omega) (by omega)]
    have e : laV (codes x) j = -1 := by unfold laV; rw [if_pos (by rw [codes_len]; omega)]
    rw [e]
    constructor
    · intro h
      rw [beq_iff_eq] at h
      injection h with h
      have := congrArg Array.size h
      simp at this
    · intro h; omega
theorem sign_eq : (Str.ofString "=") = ⟨#[61]⟩ := by decide +kernel
theorem sign_open : (Str.ofString "[") = ⟨#[91]⟩ := by decide +kernel
theorem sign_close : (Str.ofString "]") = ⟨#[93]⟩ := by decide +kernel
theorem sign_nl : (Str.ofString "\n") = ⟨#[10]⟩ := by decide +kernel
theorem sign_dash : (Str.ofString "--") = ⟨#[45, 45]⟩ := by decide +kernel
theorem take_drop_getD (l : List Nat) : ∀ (n a k : Nat), k < n → a + n ≤ l.length → ((l.drop a).take n).getD k 0 = l.getD (a + k) 0 := by
  intro n a k hk hn
  simp only [List.getD_eq_getElem?_getD]
  rw [List.getElem?_take_of_lt hk, List.getElem?_drop]
/-- where a sub-text stands: sign by sign -/
theorem at_iff {x y : Str} {i : Nat} : StrLaws.At x y x.length i ↔ i + y.length ≤ x.length ∧ ∀ k, k < y.length → x.cps.toList.getD (i + k) 0 = y.cps.toList.getD k 0 := by
  unfold StrLaws.At
  rw [StrLaws.subAt_eq, beq_iff_eq]
  have hl := str_len_list x
  have hy := str_len_list y
  constructor
  · rintro ⟨h1, h2⟩
    refine ⟨h1, fun k hk => ?_⟩
    rw [← h2, take_drop_getD _ _ _ _ hk (by omega)]
  · rintro ⟨h1, h2⟩
    refine ⟨h1, ?_⟩
    apply List.ext_getElem?
    intro k
    by_cases hk : k < y.length
    · have a1 : k < ((x.cps.toList.drop i).take y.length).length := by rw [List.length_take, List.length_drop]; omega
      have a2 : k < y.cps.toList.length := by omega
      have := h2 k hk
      rw [← take_drop_getD _ _ _ _ hk (by omega)] at this
      simp only [List.getD_eq_getElem?_getD] at this
      rw [List.getElem?_eq_getElem a1, List.getElem?_eq_getElem a2] at this ⊢
      simpa using this
    · rw [List.getElem?_eq_none (by rw [List.length_take, List.length_drop]; omega), List.getElem?_eq_none (by omega)]
theorem find3_cases (x y : Str) {i : Int} (h0 : 0 ≤ i) :
    (Txt.find3 x y i < 0 ∧ ∀ k : Nat, i ≤ k → ¬ StrLaws.At x y x.length k) ∨
    (∃ k : Nat, Txt.find3 x y i = (k : Int) ∧ i ≤ k ∧ StrLaws.At x y x.length k ∧ ∀ v : Nat, i ≤ v → v < k → ¬ StrLaws.At x y x.length v) := by
  have hf : fromIndex x.length i = i.toNat := by
    unfold fromIndex
    rw [if_neg (by omega)]
    congr 1; omega
  unfold Txt.find3
  rcases StrLaws.occ_head_from x y (fromIndex x.length i) 1 (Nat.le_refl 1) with ⟨h, hn⟩ | ⟨k, r, h, hlo, hk, hn⟩
  · rw [h]
    exact .inl ⟨by decide, fun k hk => hn k (by omega)⟩
  · rw [h]
    exact .inr ⟨k, rfl, by omega, hk, fun v hv hv2 => hn v (by omega) hv2⟩
end Mine
namespace Mine
open PySem.Builtin PySem.Builtin.Str
/-- what the scan over the equals signs of the law's own reading holds -/
abbrev EInv (text : Str) (i j : Int) : Prop := i + 1 ≤ j ∧ (j ≤ text.length ∨ j = i + 1) ∧ (∀ k, i < k → k < j → (codes text).getD k.toNat 0 = 61)
theorem e_start {text : Str} {i : Int} : EInv text i (i + 1) := ⟨Int.le_refl _, .inr rfl, fun k k1 k2 => absurd k2 (by omega)⟩
theorem e_step {text : Str} {i j : Int} (h0 : 0 ≤ i) (hv : (Txt.slice text (some j) (some (j + 1)) == Str.ofString "=") = true) (h1 : i + 1 ≤ j) (h3 : ∀ k, i < k → k < j → (codes text).getD k.toNat 0 = 61) : EInv text i (j + 1) := by
  rw [sign_eq] at hv
  have hv := (slice_sign (by omega)).mp hv
  have hj := laV_lt hv (by decide)
  have hc := codes_len text
  refine ⟨by omega, .inl (by omega), fun k k1 k2 => ?_⟩
  by_cases h : k < j
  · exact h3 k k1 h
  · have e : k = j := by omega
    subst e; rw [← laV_in hj]; exact hv
theorem e_meas {text : Str} {i j : Int} (h0 : 0 ≤ i) (hv : (Txt.slice text (some j) (some (j + 1)) == Str.ofString "=") = true) (h1 : i + 1 ≤ j) : (text.length + 1 - (j + 1)).toNat < ((text.length : Int) + 1 - j).toNat := by
  rw [sign_eq] at hv
  have hv := (slice_sign (by omega)).mp hv
  have hj := laV_lt hv (by decide)
  have hc := codes_len text
  omega
theorem e_run {text : Str} {i j : Int} (h0 : 0 ≤ i) (hv : laV (codes text) i = 91) (hn : (Txt.slice text (some j) (some (j + 1)) == Str.ofString "=") = false) (h1 : i + 1 ≤ j) (h2 : j ≤ text.length ∨ j = i + 1) (h3 : ∀ k, i < k → k < j → (codes text).getD k.toNat 0 = 61) :
    Run (codes text) i j := by
  have hi := laV_lt hv (by decide)
  refine ⟨by omega, by rw [codes_len] at hi ⊢; omega, h3, fun h => ?_⟩
  rw [sign_eq] at hn
  rw [(slice_sign (c := 61) (by omega)).mpr h] at hn
  cases hn
theorem e_no {text : Str} {j : Int} {c : Nat} (h0 : 0 ≤ j) (h : (Txt.slice text (some j) (some (j + 1)) == (⟨#[c]⟩ : Str)) = false) : laV (codes text) j ≠ c := by
  intro e
  rw [(slice_sign h0).mpr e] at h
  cases h
theorem close_len {text : Str} {i j : Int} (h0 : 0 ≤ i) (R : Run (codes text) i j) : ((Txt.slice text (some (i + 1)) (some j)).length : Int) = j - i - 1 := by
  obtain ⟨r1, r2, _⟩ := R
  rw [codes_len] at r2
  have := fact_slice_ss text (i + 1) j (by omega) (by omega) r2
  omega
theorem close_list {text : Str} {i j : Int} (h0 : 0 ≤ i) (R : Run (codes text) i j) :
    (Str.ofString "]" ++ Txt.slice text (some (i + 1)) (some j) ++ Str.ofString "]").cps.toList = 93 :: (List.replicate (j - i - 1).toNat 61 ++ [93]) := by
  obtain ⟨r1, r2, r3, _⟩ := R
  rw [codes_len] at r2
  have hl := str_len_list text
  rw [sign_close, slice_ss (by omega) (by omega) r2]
  simp only [Str.cps_append, Array.toList_append]
  have e : (text.cps.toList.drop (i + 1).toNat).take (j - (i + 1)).toNat = List.replicate (j - i - 1).toNat 61 := by
    rw [List.eq_replicate_iff]
    refine ⟨by rw [List.length_take, List.length_drop]; omega, fun b hb => ?_⟩
    obtain ⟨k, hk⟩ := List.getElem?_of_mem hb
    have hlt : k < (j - (i + 1)).toNat := by
      have := (List.getElem?_eq_some_iff.mp hk).1
      rw [List.length_take] at this; omega
    have := r3 (i + 1 + k) (by omega) (by omega)
    rw [codes_getD, show (i + 1 + (k : Int)).toNat = (i + 1).toNat + k by omega, ← take_drop_getD _ (j - (i + 1)).toNat _ _ hlt (by omega), List.getD_eq_getElem?_getD, hk] at this
    simp at this
    omega
  rw [e]
  rfl
theorem close_at {text : Str} {i j : Int} (h0 : 0 ≤ i) (R : Run (codes text) i j) (q : Nat) :
    StrLaws.At text (Str.ofString "]" ++ Txt.slice text (some (i + 1)) (some j) ++ Str.ofString "]") text.length q ↔ CloseAt (codes text) (j - i + 1) q := by
  have hc := close_list h0 R
  rw [at_iff]
  generalize (Str.ofString "]" ++ Txt.slice text (some (i + 1)) (some j) ++ Str.ofString "]") = y at hc
  have hy : y.length = (j - i - 1).toNat + 2 := by rw [← str_len_list y, hc]; simp
  have r1 := R.1
  have hg : ∀ k, k < y.length → y.cps.toList.getD k 0 = if k = 0 ∨ k + 1 = y.length then 93 else 61 := by
    intro k hk
    rw [hc, hy]
    rw [hy] at hk
    cases k with
    | zero => simp
    | succ k =>
      rw [List.getD_cons_succ]
      simp only [List.getD_eq_getElem?_getD]
      by_cases h : k < (j - i - 1).toNat
      · rw [List.getElem?_append_left (by rw [List.length_replicate]; exact h), List.getElem?_replicate_of_lt h, if_neg (by omega)]; rfl
      · have e : k = (j - i - 1).toNat := by omega
        rw [List.getElem?_append_right (by rw [List.length_replicate]; omega), List.length_replicate, e, if_pos (by omega)]
        simp
  unfold CloseAt
  constructor
  · rintro ⟨h1, h2⟩
    have hh : ∀ k, k < y.length → (codes text).getD (q + k) 0 = if k = 0 ∨ k + 1 = y.length then 93 else 61 := by
      intro k hk
      rw [codes_getD, h2 k hk, hg k hk]; split <;> rfl
    refine ⟨by omega, by rw [codes_len]; omega, ?_, fun k k1 k2 => ?_, ?_⟩
    · have := hh 0 (by omega)
      simpa using this
    · have := hh (k.toNat - q) (by omega)
      rw [if_neg (by omega), show q + (k.toNat - q) = k.toNat by omega] at this
      exact this
    · have := hh (y.length - 1) (by omega)
      rw [if_pos (by omega), show q + (y.length - 1) = ((q : Int) + (j - i + 1) - 1).toNat by omega] at this
      exact this
  · rintro ⟨_, h1, h2, h3, h4⟩
    rw [codes_len] at h1
    refine ⟨by omega, fun k hk => ?_⟩
    rw [hg k hk]
    have key : ((text.cps.toList.getD (q + k) 0 : Nat) : Int) = if k = 0 ∨ k + 1 = y.length then 93 else 61 := by
      rw [← codes_getD]
      by_cases e0 : k = 0
      · subst e0; rw [if_pos (.inl rfl)]; simpa using h2
      · by_cases e1 : k + 1 = y.length
        · rw [if_pos (.inr e1), show q + k = ((q : Int) + (j - i + 1) - 1).toNat by omega]; exact h4
        · rw [if_neg (by omega)]
          have := h3 (q + k) (by omega) (by omega)
          rw [show ((q : Int) + (k : Int)).toNat = q + k by omega] at this
          exact this
    split at key <;> simp_all <;> omega
theorem nl_at {text : Str} {q : Nat} : StrLaws.At text (Str.ofString "\n") text.length q ↔ laV (codes text) q = 10 := by
  rw [at_iff, sign_nl]
  have hl : (⟨#[10]⟩ : Str).length = 1 := rfl
  rw [hl]
  constructor
  · rintro ⟨h1, h2⟩
    have := h2 0 (by omega)
    rw [laV_in (by rw [codes_len]; omega), codes_getD]
    simp at this ⊢; omega
  · intro h
    have hq := laV_lt h (by decide)
    rw [laV_in hq, codes_getD] at h
    rw [codes_len] at hq
    refine ⟨by omega, fun k hk => ?_⟩
    have : k = 0 := by omega
    subst this
    simp at h ⊢; omega
theorem e_nl_none {text : Str} {i : Int} (h0 : 0 ≤ i) (h1 : i ≤ text.length) (h : Txt.find3 text (Str.ofString "\n") i < 0) : NL (codes text) i text.length := by
  rcases find3_cases text (Str.ofString "\n") h0 with ⟨_, hn⟩ | ⟨k, e, _⟩
  · refine ⟨h1, by rw [codes_len]; exact Int.le_refl _, fun k k1 k2 hk => ?_, .inr (by rw [codes_len])⟩
    refine hn k.toNat (by omega) (nl_at.mpr ?_)
    rw [show ((k.toNat : Nat) : Int) = k by omega, laV_in (by rw [codes_len]; exact k2)]
    exact hk
  · omega
theorem e_nl_some {text : Str} {i : Int} (h0 : 0 ≤ i) (h : ¬ Txt.find3 text (Str.ofString "\n") i < 0) : NL (codes text) i (Txt.find3 text (Str.ofString "\n") i) := by
  rcases find3_cases text (Str.ofString "\n") h0 with ⟨h', _⟩ | ⟨q, e, hq, hat, hn⟩
  · exact absurd h' h
  · rw [e]
    have hv := nl_at.mp hat
    have hlt := laV_lt hv (by decide)
    refine ⟨hq, by omega, fun k k1 k2 hk => ?_, .inl hv⟩
    refine hn k.toNat (by omega) (by omega) (nl_at.mpr ?_)
    rw [show ((k.toNat : Nat) : Int) = k by omega, laV_in (by omega)]
    exact hk
theorem e_rl_none {text : Str} {i j : Int} (h0 : 0 ≤ i) (R : Run (codes text) i j)
    (h : Txt.find3 text (Str.ofString "]" ++ Txt.slice text (some (i + 1)) (some j) ++ Str.ofString "]") (j + 1) < 0) : RL (codes text) (j - i + 1) (j + 1) text.length := by
  have r1 := R.1
  rcases find3_cases text (Str.ofString "]" ++ Txt.slice text (some (i + 1)) (some j) ++ Str.ofString "]") (i := j + 1) (by omega) with ⟨_, hn⟩ | ⟨k, e, _⟩
  · refine .inr ⟨by rw [codes_len], fun q hq c => ?_⟩
    refine hn q.toNat (by omega) ((close_at h0 R _).mpr ?_)
    rw [show ((q.toNat : Nat) : Int) = q by omega]; exact c
  · omega
theorem e_rl_some {text : Str} {i j e : Int} (h0 : 0 ≤ i) (R : Run (codes text) i j)
    (h : ¬ Txt.find3 text (Str.ofString "]" ++ Txt.slice text (some (i + 1)) (some j) ++ Str.ofString "]") (j + 1) < 0)
    (he : e = Txt.find3 text (Str.ofString "]" ++ Txt.slice text (some (i + 1)) (some j) ++ Str.ofString "]") (j + 1) + ((Str.ofString "]").length + (Txt.slice text (some (i + 1)) (some j)).length + (Str.ofString "]").length : Nat)) : RL (codes text) (j - i + 1) (j + 1) e := by
  have r1 := R.1
  rcases find3_cases text (Str.ofString "]" ++ Txt.slice text (some (i + 1)) (some j) ++ Str.ofString "]") (i := j + 1) (by omega) with ⟨h', _⟩ | ⟨q, e', hq, hat, hn⟩
  · exact absurd h' h
  · have hc := (close_at h0 R _).mp hat
    refine .inl ⟨q, hq, hc, ?_, fun q' h1 h2 c => ?_⟩
    · have hl := close_len h0 R
      have h1 : (Str.ofString "]").length = 1 := by rw [sign_close]; rfl
      rw [he, e', h1]
      omega
    · refine hn q'.toNat (by omega) (by omega) ((close_at h0 R _).mpr ?_)
      rw [show ((q'.toNat : Nat) : Int) = q' by omega]; exact c

theorem run_uniq {ns : List Int} {i j j' : Int} (h0 : 0 ≤ i) (a : Run ns i j) (b : Run ns i j') : j = j' := by
  obtain ⟨a1, a2, a3, a4⟩ := a
  obtain ⟨b1, b2, b3, b4⟩ := b
  rcases Int.lt_trichotomy j j' with h | h | h
  · exact absurd (by rw [laV_in (by omega)]; exact b3 j a1 h) a4
  · exact h
  · exact absurd (by rw [laV_in (by omega)]; exact a3 j' b1 h) b4
theorem nl_uniq {ns : List Int} {i e e' : Int} (h0 : 0 ≤ i) (a : NL ns i e) (b : NL ns i e') : e = e' := by
  have key : ∀ {e e' : Int}, NL ns i e → NL ns i e' → e < e' → False := by
    intro e e' a b h
    obtain ⟨a1, a2, a3, a4⟩ := a
    obtain ⟨b1, b2, b3, b4⟩ := b
    rcases a4 with a4 | a4
    · rw [laV_in (by omega)] at a4
      exact b3 e a1 h a4
    · omega
  rcases Int.lt_trichotomy e e' with h | h | h
  · exact (key a b h).elim
  · exact h
  · exact (key b a h).elim
theorem rl_uniq {ns : List Int} {sep i e e' : Int} (a : RL ns sep i e) (b : RL ns sep i e') : e = e' := by
  rcases a with ⟨q, q1, q2, q3, q4⟩ | ⟨e1, e2⟩ <;> rcases b with ⟨p, p1, p2, p3, p4⟩ | ⟨f1, f2⟩
  · have : q = p := by
      rcases Int.lt_trichotomy q p with h | h | h
      · exact absurd q2 (p4 q q1 h)
      · exact h
      · exact absurd p2 (q4 p p1 h)
    omega
  · exact absurd q2 (f2 q q1)
  · exact absurd p2 (e2 p p1)
  · omega
theorem hrel_uniq {ns : List Int} {i e e' : Int} (h0 : 0 ≤ i) (a : HRel ns i e) (b : HRel ns i e') : e = e' := by
  rcases a with ⟨j, r, h1, h2, h3⟩ | ⟨h1, h2⟩ <;> rcases b with ⟨k, t, g1, g2, g3⟩ | ⟨g1, g2⟩
  · have := run_uniq h0 r t
    subst this
    exact rl_uniq h3 g3
  · rcases g1 with g1 | ⟨k, t, g⟩
    · exact absurd h1 g1
    · have := run_uniq h0 r t
      subst this
      exact absurd h2 g
  · rcases h1 with h1 | ⟨j, r, h⟩
    · exact absurd g1 h1
    · have := run_uniq h0 r t
      subst this
      exact absurd g2 h
  · exact nl_uniq h0 h2 g2
theorem hrel_le {ns : List Int} {i e : Int} (a : HRel ns i e) : i ≤ e ∧ e ≤ ns.length := by
  rcases a with ⟨j, r, h1, h2, h3⟩ | ⟨h1, h2⟩
  · rcases h3 with ⟨q, q1, q2, q3, q4⟩ | ⟨e1, e2⟩
    · have := r.1
      have := q2.2.1
      omega
    · have := r.1; have := r.2.1; omega
  · exact ⟨h2.1, h2.2.1⟩
section
variable {text : Str} {i j : Int}
theorem end1 (h0 : 0 ≤ i) (hs : (Txt.slice text (some j) (some (j + 1)) == Str.ofString "=") = false) (ho : (Txt.slice text (some i) (some (i + 1)) == Str.ofString "[") = true) (hp : (Txt.slice text (some j) (some (j + 1)) == Str.ofString "[") = true)
    (h1 : i + 1 ≤ j) (h2 : j ≤ text.length ∨ j = i + 1) (h3 : ∀ k, i < k → k < j → (codes text).getD k.toNat 0 = 61) (hf : Txt.find3 text (Str.ofString "]" ++ Txt.slice text (some (i + 1)) (some j) ++ Str.ofString "]") (j + 1) < 0) : HRel (codes text) i text.length := by
  rw [sign_open] at ho hp
  have hv := (slice_sign h0).mp ho
  have R := e_run h0 hv hs h1 h2 h3
  exact .inl ⟨j, R, hv, (slice_sign (by omega)).mp hp, e_rl_none h0 R hf⟩
theorem end2 (h0 : 0 ≤ i) (hs : (Txt.slice text (some j) (some (j + 1)) == Str.ofString "=") = false) (ho : (Txt.slice text (some i) (some (i + 1)) == Str.ofString "[") = true) (hp : (Txt.slice text (some j) (some (j + 1)) == Str.ofString "[") = true)
    (h1 : i + 1 ≤ j) (h2 : j ≤ text.length ∨ j = i + 1) (h3 : ∀ k, i < k → k < j → (codes text).getD k.toNat 0 = 61) (hf : ¬ Txt.find3 text (Str.ofString "]" ++ Txt.slice text (some (i + 1)) (some j) ++ Str.ofString "]") (j + 1) < 0) :
    HRel (codes text) i (Txt.find3 text (Str.ofString "]" ++ Txt.slice text (some (i + 1)) (some j) ++ Str.ofString "]") (j + 1) + ((Str.ofString "]").length + (Txt.slice text (some (i + 1)) (some j)).length + (Str.ofString "]").length : Nat)) := by
  rw [sign_open] at ho hp
  have hv := (slice_sign h0).mp ho
  have R := e_run h0 hv hs h1 h2 h3
  exact .inl ⟨j, R, hv, (slice_sign (by omega)).mp hp, e_rl_some h0 R hf rfl⟩
theorem end3 (h0 : 0 ≤ i) (hi : i ≤ text.length) (hs : (Txt.slice text (some j) (some (j + 1)) == Str.ofString "=") = false) (ho : (Txt.slice text (some i) (some (i + 1)) == Str.ofString "[") = true) (hp : (Txt.slice text (some j) (some (j + 1)) == Str.ofString "[") = false)
    (h1 : i + 1 ≤ j) (h2 : j ≤ text.length ∨ j = i + 1) (h3 : ∀ k, i < k → k < j → (codes text).getD k.toNat 0 = 61) (hf : Txt.find3 text (Str.ofString "\n") i < 0) : HRel (codes text) i text.length := by
  rw [sign_open] at ho hp
  have hv := (slice_sign h0).mp ho
  exact .inr ⟨.inr ⟨j, e_run h0 hv hs h1 h2 h3, e_no (by omega) hp⟩, e_nl_none h0 hi hf⟩
theorem end4 (h0 : 0 ≤ i) (hi : i ≤ text.length) (hs : (Txt.slice text (some j) (some (j + 1)) == Str.ofString "=") = false) (ho : (Txt.slice text (some i) (some (i + 1)) == Str.ofString "[") = true) (hp : (Txt.slice text (some j) (some (j + 1)) == Str.ofString "[") = false)
    (h1 : i + 1 ≤ j) (h2 : j ≤ text.length ∨ j = i + 1) (h3 : ∀ k, i < k → k < j → (codes text).getD k.toNat 0 = 61) (hf : ¬ Txt.find3 text (Str.ofString "\n") i < 0) : HRel (codes text) i (Txt.find3 text (Str.ofString "\n") i) := by
  rw [sign_open] at ho hp
  have hv := (slice_sign h0).mp ho
  exact .inr ⟨.inr ⟨j, e_run h0 hv hs h1 h2 h3, e_no (by omega) hp⟩, e_nl_some h0 hf⟩
theorem end5 (h0 : 0 ≤ i) (hi : i ≤ text.length) (ho : (Txt.slice text (some i) (some (i + 1)) == Str.ofString "[") = false) (hf : Txt.find3 text (Str.ofString "\n") i < 0) : HRel (codes text) i text.length := by
  rw [sign_open] at ho
  exact .inr ⟨.inl (e_no h0 ho), e_nl_none h0 hi hf⟩
theorem end6 (h0 : 0 ≤ i) (ho : (Txt.slice text (some i) (some (i + 1)) == Str.ofString "[") = false) (hf : ¬ Txt.find3 text (Str.ofString "\n") i < 0) : HRel (codes text) i (Txt.find3 text (Str.ofString "\n") i) := by
  rw [sign_open] at ho
  exact .inr ⟨.inl (e_no h0 ho), e_nl_some h0 hf⟩
end
end Mine
namespace Mine
local macro_rules | `(tactic| k_all) => `(tactic| assumption)
local macro_rules | `(tactic| walk_at "mine while?") => `(tactic| with_reducible show wpAny _ _ (exec (Stmt.While _ _ _ _) _) _ _ _)
local macro_rules | `(tactic| walk_at "mine steps") => `(tactic| repeat' ((fail_if_success (walk_at "mine while?")); (first | (k_unfold; (try dsimp only)) | (k_end; wrow_close) | walk1 | (dsimp only; walk1) | (leave1; walk_say "STEP leave1"; try dsimp only) | fail "no step")))
section
variable {w : World} {loose : List Str} {mean : ExcName → Option Value} {mg mb : Str → Option Value}
  {dp un : Nat} {gd : Option (List Code)} {cn : Str} {cs : Scope} {a : Addr} {ccd : Value} {cl : List (Str × Addr)} {outer : List Env} {A₀ : Around} {base h₀ : Heap} {L : Addr} {m : Str → Option Value} {s : Shared} {Q E : Value → Shared → Prop}
  {rest : List (Addr × Obj)} {text : Str} {at' : Int} {tt ta : Tok}

set_option maxRecDepth 100000 in
set_option maxHeartbeats 8000000 in
theorem end_spec
  (B : Below A₀ base outer h₀) (F : Fr h₀ L s.heap m) (X : (hd.heap_39 w.params).In h₀)
  (N : News h₀ L s.heap rest)
  (T : Top hd.view_39 loose mean mg mb h₀) (hk : cs.kind = .function) (hlen : text.length < 8000) (h0 : 0 ≤ at') (h1 : at' ≤ text.length)
  (hdp : dp + 1 < recursionLimit) (hun : un + 8 < cLine)
  (hret : ∀ e t h' tk', Fr h₀ L h' m → News h₀ L h' rest → HRel (codes text) at' e → Q (.int e t) { s with heap := h', toks := tk' }) :
  wpAny (model PySem.Challenge.rw_ez0167_01.row.prog w) (ktrTop dp un gd cn cs L a ccd cl outer) (call (.ref 112) [.str text tt, .int at' ta]) Q E s := by
  revert X; k_fill; intro X
  k_with_none
  refine wpAny_call ?_
  k_dflt ktr_enter
  walk_at "mine steps"
  k_with "state" => first
    | exact e_start
    | exact e_step h0 (by assumption) (by assumption) (by assumption)
  k_with "measure" => exact e_meas h0 (by assumption) (by assumption)
  k_while (fun _ j => EInv text at' j) (fun _ j => ((text.length : Int) + 1 - j).toNat) "size"
  walk_at "mine steps"
  all_goals exact hret _ _ _ _ (by k_asm) (by k_asm) (by first
    | exact end1 h0 (by assumption) (by assumption) (by assumption) (by assumption) (by assumption) (by assumption) (by assumption)
    | exact end2 h0 (by assumption) (by assumption) (by assumption) (by assumption) (by assumption) (by assumption) (by assumption)
    | exact end3 h0 h1 (by assumption) (by assumption) (by assumption) (by assumption) (by assumption) (by assumption) (by assumption)
    | exact end4 h0 h1 (by assumption) (by assumption) (by assumption) (by assumption) (by assumption) (by assumption) (by assumption)
    | exact end5 h0 h1 (by assumption) (by assumption)
    | exact end6 h0 (by assumption) (by assumption))
end
end Mine
namespace Mine
theorem ints_of : ∀ (l : List Nat) (vs ys : List Value), vs.length = l.length → (∀ (j : Nat) (v : Value), vs[j]? = some v → ∃ (c : Nat) (u : Tok), l[j]? = some c ∧ v = Value.str ⟨#[c]⟩ u) →
    Paired (fun v r => ∃ (c : Nat) (u u' : Tok), v = Value.str ⟨#[c]⟩ u ∧ r = Value.int (c : Nat) u') vs ys → IntsAre ys (l.map fun n : Nat => (n : Int))
  | [], [], _, _, _, h => by cases h; exact .nil
  | c :: l, v :: vs, _, hl, hv, h => by
    cases h with
    | cons hd ht =>
      obtain ⟨c', u, u', e, rfl⟩ := hd
      obtain ⟨c'', u'', e1, e2⟩ := hv 0 v rfl
      have e3 : c = c'' := by simpa using e1
      have e4 : c' = c'' := by
        rw [e] at e2
        injection e2 with e2 _
        injection e2 with e2
        have := congrArg Array.toList e2
        simpa using this
      rw [e4, ← e3]
      exact .cons _ _ (ints_of l vs _ (by simpa using hl) (fun j v hj => hv (j + 1) v hj) ht)
  | [], _ :: _, _, hl, _, _ => by simp at hl
  | _ :: _, [], _, hl, _, _ => by simp at hl

section
variable {prog : Program} {w : World} {A : Around} {E : Value → Shared → Prop} {s₁ : Shared} {K : Frag} {h₀ : Heap} {L : Addr} {m mg mb : Str → Option Value} {news : List (Addr × Obj)} {p : Program} {loose : List Str} {mean : ExcName → Option Value}
set_option maxHeartbeats 4000000 in
theorem ord_comp {env : Env} {scope : Scope} {z : Str} {p1 p2 p3 : Pos} {Q : Value → Shared → Prop} {y : Str} {t : Tok} (q1 : scope.kind = .function) (q2 : ∀ C, (compEnv scope C env).kindOf (Str.ofString "ord") = some .globalImplicit) (q3 : ∀ C, (compEnv scope C env).kindOf z = some .local) (q4 : (z == ("__debug__" : Str)) = false)
    (hg : env.globals = mainGlobals) (hb : env.builtins = builtinsNs)
    (hh : A.handled = none) (F : Fr h₀ L s₁.heap m) (N : News h₀ L s₁.heap news) (X : K.In h₀) (T : Top p loose mean mg mb h₀) (e : nsIn K mainGlobals (Str.ofString "ord") = some none)
    (g3 : ∀ D vs nn h' tk, Fr h₀ L h' m → News h₀ L h' ((D, listOf vs.toArray nn) :: news) → IntsAre vs (codes y) → Q (.ref D) { s₁ with heap := h', toks := tk }) (hsz : y.length ≤ sizeLine) :
    wpAny (model prog w) A (pyIter (.str y t)) (CompPost prog w A env scope z [] (.Call (.Name (Str.ofString "ord") p1) [.Name z p2] [] p3) Q) E s₁ := by
  unfold CompPost
  refine wpAny_pyIter_str fun o St W hst => ?_
  have up : ∀ (h' : Heap), (∀ b o', b ∉ [s₁.heap.objs.size] → (s₁.heap.push o).get? b = some o' → h'.get? b = some o') → ∀ b o', s₁.heap.get? b = some o' → h'.get? b = some o' :=
    fun h' hk b o' e => hk b o' (old_not_new e) (Heap.get?_push_of_some _ e)
  refine ⟨fun _ => true, fun v r => ∃ (c : Nat) (u u' : Tok), v = Value.str ⟨#[c]⟩ u ∧ r = Value.int (c : Nat) u', s₁.heap.objs.size, [s₁.heap.objs.size], [s₁.heap.objs.size], y.cps.size, SignAt y, St, rfl, W A hh, hsz, hst, ?_, ⟨?_, ?_⟩, ?_⟩
  · intro b hb
    show b < (s₁.heap.push o).objs.size
    rw [Heap.size_push, List.mem_singleton.mp hb]
    exact Nat.lt_succ_self _
  · intro C i v s₃ m₃ E' hP hn hm _ htk
    exact wpAny_pure ⟨rfl, _, _, rfl, fun _ _ e => e⟩
  · intro C i v s₃ m₃ E' hP _ hn hm hk htk
    obtain ⟨c, u, _, rfl⟩ := hP
    have hk' := up s₃.heap hk
    have hk0 : ∀ b o', h₀.get? b = some o' → s₃.heap.get? b = some o' := fun b o' q => hk' b o' (F.keep b o' q)
    have hmg := mg_none_of X T.g e
    clear X
    walk1
    refine PySem.Calls.Name_function_global q1 (q2 C) (PySem.Calls.loadGlobal_builtin (env := compEnv scope C env) (show s₃.heap.Ns env.globals mg from hg ▸ (T.keeps hk0).g) hmg (show s₃.heap.Ns env.builtins mb from hb ▸ (T.keeps hk0).b) ((T.builtins _ (by decide)).trans (by boot_fast)) ?_) (by decide)
    walk1
    walk1
    refine wpAny_Name (wpAny_loadName_local q1 (q3 C) hn hm ?_) q4
    walk1
    refine P.ord_of_char ?_
    exact ⟨⟨c, u, _, rfl, rfl⟩, _, _, rfl, fun _ _ e => e⟩
  · intro D h' tk ys vs hnew hlD hplD hlen hP hF hk
    have k0 := up h' hk
    have hi : IntsAre ys.toList (codes y) := by
      refine ints_of y.cps.toList vs ys.toList (by simpa using hlen) (fun j v hj => ?_) (by rw [List.filter_eq_self.mpr (fun _ _ => rfl)] at hF; exact hF)
      obtain ⟨c, u, hc, rfl⟩ := hP j v hj
      exact ⟨c, u, by simpa using hc, rfl⟩
    have np : NewPlain h' news D ys.toList.toArray := ⟨by rw [Array.toArray_toList]; exact hplD, fun p hp e => by rw [← e, Heap.get?_push_of_some _ (N p hp).1] at hnew; cases hnew⟩
    have hn0 : h₀.get? D = none := by
      cases e : h₀.get? D with
      | none => rfl
      | some o' => rw [Heap.get?_push_of_some _ (F.keep _ _ e)] at hnew; cases hnew
    obtain ⟨n, N'⟩ := made_enters np (F.keeps k0) (N.grown k0) hn0
    exact g3 D _ n h' tk (F.keeps k0) N' hi
end
end Mine
namespace Mine
abbrev PairD (p : Int × Int) : Dat := .tuple [.int p.1, .int p.2]
def PairsIn (news : List (Addr × Obj)) (vs : List Value) (ps : List (Int × Int)) : Prop := DatAll news vs (ps.map PairD)
theorem PairsIn.mono {news news' : List (Addr × Obj)} {vs : List Value} {ps : List (Int × Int)} (h : PairsIn news vs ps) (hs : ∀ p ∈ news, p ∈ news') : PairsIn news' vs ps := DatAll.mono hs h
theorem datAll_snoc {news : List (Addr × Obj)} {v : Value} {d : Dat} (hd : DatIn news v d) : ∀ {vs : List Value} {ds : List Dat}, DatAll news vs ds → DatAll news (vs ++ [v]) (ds ++ [d])
  | _, _, .nil => .cons hd .nil
  | _, _, .cons h r => .cons h (datAll_snoc hd r)
theorem PairsIn.snoc {news : List (Addr × Obj)} {vs : List Value} {ps : List (Int × Int)} {a : Addr} {n : Nat} {p q : Int} {t u : Tok} (h : PairsIn news vs ps)
    (hm : (a, ({ cls := .type "tuple", data := .seq [Value.int p t, Value.int q u].toArray n } : Obj)) ∈ news) : PairsIn news (vs ++ [.ref a]) (ps ++ [(p, q)]) := by
  unfold PairsIn
  rw [List.map_append]
  exact datAll_snoc (.tuple hm (.cons (.int _ _) (.cons (.int _ _) .nil))) h
theorem PairsIn.length {news : List (Addr × Obj)} {vs : List Value} {ps : List (Int × Int)} (h : PairsIn news vs ps) : vs.length = ps.length := by
  have : ∀ {vs : List Value} {ds : List Dat}, DatAll news vs ds → vs.length = ds.length := by
    intro vs
    induction vs with
    | nil => intro ds h; cases h; rfl
    | cons v vs ih => intro ds h; cases h with | cons h1 h2 => rw [List.length_cons, List.length_cons, ih h2]
  have := this h
  simpa using this
theorem PairsIn.snoc' {news : List (Addr × Obj)} {vs : List Value} {ps : List (Int × Int)} {a : Addr} {n : Nat} {p q q' : Int} {t u : Tok} (h : PairsIn news vs ps)
    (hm : (a, ({ cls := .type "tuple", data := .seq [Value.int p t, Value.int q' u].toArray n } : Obj)) ∈ news) (e : q' = q) : PairsIn news (vs ++ [.ref a]) (ps ++ [(p, q)]) := by subst e; exact h.snoc hm
theorem pairs_ok (ps : List (Int × Int)) : ∀ d ∈ ps.map PairD, kqdOk 8 d = true := by
  intro d hd
  obtain ⟨p, _, rfl⟩ := List.mem_map.mp hd
  rfl
section
variable {prog : Program} {w : World} {A : Around} {E : Value → Shared → Prop} {s : Shared} {h₀ : Heap} {L a b : Addr} {news : List (Addr × Obj)} {xs ys : List Value} {ka kb : Nat} {ps : List (Int × Int)} {Q : Value → Shared → Prop}
theorem pairs_ne (N : News h₀ L s.heap news) (ma : (a, listOf xs.toArray ka) ∈ news) (mb : (b, listOf ys.toArray kb) ∈ news) (Da : PairsIn news xs ps) (Db : PairsIn news ys ps) (hu : A.units + 64 < cLine)
    (h : Q (.bool false) s) : wpAny (model prog w) A (compareOp .NotEq (.ref a) (.ref b)) Q E s :=
  kqd_ne N ma rfl rfl Da (fun _ h => h) mb rfl rfl Db (fun _ h => h) (pairs_ok ps) (pairs_ok ps) hu (by simpa using h)
theorem pairs_eq (N : News h₀ L s.heap news) (ma : (a, listOf xs.toArray ka) ∈ news) (mb : (b, listOf ys.toArray kb) ∈ news) (Da : PairsIn news xs ps) (Db : PairsIn news ys ps) (hu : A.units + 64 < cLine)
    (h : Q (.bool true) s) : wpAny (model prog w) A (compareOp .Eq (.ref a) (.ref b)) Q E s :=
  kqd_eq N ma rfl rfl Da (fun _ h => h) mb rfl rfl Db (fun _ h => h) (pairs_ok ps) (pairs_ok ps) hu (by simpa using h)
end

abbrev loopL (told due x dx D lx dlx : Addr) (ha hb hc : Int) (ta tb tc : Tok) (vs : List Value) (nn : Nat) (i : Int) (ti : Tok) (vt vd : List Value) (nt nd : Nat) (tups : List (Addr × Obj)) : List (Addr × Obj) :=
  strmL x dx D ha hb ta tb vs nn i ti (lexL lx dlx x hc tc ((told, listOf vt.toArray nt) :: (due, listOf vd.toArray nd) :: tups))
def LoopMeas (n : Int) (k : Int) : Nat := if k < 0 then 0 else (n - k + 1).toNat
/-- what the law's loop holds of its numbers: the place sought next, the stream's place, how many were told -/
abbrev LoopInv (n k i : Int) (c : Nat) : Prop := 0 ≤ i ∧ i ≤ n ∧ -1 ≤ k ∧ (c : Int) ≤ n ∧ (0 ≤ k → i ≤ k ∧ k + 2 ≤ n ∧ (c : Int) ≤ k)

section
variable {prog : Program} {w : World} {A : Around} {E : Value → Shared → Prop} {Q : Flow → Shared → Prop} {s : Shared} {env : Env} {h₀ : Heap} {L : Addr}
  {told due x dx D lx dlx : Addr} {ha hb hc : Int} {ta tb tc : Tok} {vs : List Value} {nn : Nat} {m₀ : Str → Option Value}
def LoopEnd (h₀ : Heap) (L : Addr) (s : Shared) (m₀ : Str → Option Value) (told due x dx D lx dlx : Addr) (ha hb hc : Int) (ta tb tc : Tok) (vs : List Value) (nn : Nat) (n : Int) (k₀ : Int) (s₂ : Shared) : Prop :=
  ∃ (k i : Int) (tk ti : Tok) (vt vd : List Value) (nt nd : Nat) (ps : List (Int × Int)) (tups : List (Addr × Obj)) (h' : Heap) (tk' : Nat) (m' : Str → Option Value), s₂ = { s with heap := h', toks := tk' } ∧ Fr h₀ L h' m' ∧
    News h₀ L h' (loopL told due x dx D lx dlx ha hb hc ta tb tc vs nn i ti vt vd nt nd tups) ∧ m' (Str.ofString "at") = some (.int k tk) ∧ (∀ y, y ≠ Str.ofString "at" → y ≠ Str.ofString "end" → m' y = m₀ y) ∧
    PairsIn tups vt ps ∧ PairsIn tups vd ps ∧ (∀ p ∈ tups, p.1 ≠ told ∧ p.1 ≠ due ∧ p.1 ≠ dx) ∧ LoopInv n k i ps.length ∧ LoopMeas n k < LoopMeas n k₀
def LoopPost (h₀ : Heap) (L : Addr) (s : Shared) (m₀ : Str → Option Value) (told due x dx D lx dlx : Addr) (ha hb hc : Int) (ta tb tc : Tok) (vs : List Value) (nn : Nat) (n : Int) (Q : Flow → Shared → Prop) (k₀ : Int) (f : Flow) (s₂ : Shared) : Prop :=
  match f with
  | .ret v => Q (.ret v) s₂
  | .brk => Q .next s₂
  | _ => LoopEnd h₀ L s m₀ told due x dx D lx dlx ha hb hc ta tb tc vs nn n k₀ s₂
theorem main_loop {test : Expr} {body : List Stmt} {pos : Pos} {sl : Addr} {osl : Obj} {t0 ti0 : Tok} (n : Int)
    (F : Fr h₀ L s.heap m₀) (N : News h₀ L s.heap [(due, listOf #[] 0), (told, listOf #[] 0), (lx, instObj 101 dlx), (dlx, dictOf [⟨hc, .str (Str.ofString "_input") tc, .ref x⟩] 1), (x, instObj 52 dx), (dx, strmD ha hb ta tb D 0 ti0), (D, listOf vs.toArray nn), (sl, osl)])
    (hm : m₀ (Str.ofString "at") = some (.int 0 t0)) (hn : 2 ≤ n) (o1 : @LT.lt Nat _ sl told) (o2 : @LT.lt Nat _ sl due) (o3 : @LT.lt Nat _ sl dx)
    (turn : ∀ (k i : Int) (tk ti : Tok) (vt vd : List Value) (nt nd : Nat) (ps : List (Int × Int)) (tups : List (Addr × Obj)) (u : Str → Option Value) h tk', LoopInv n k i ps.length → PairsIn tups vt ps → PairsIn tups vd ps → (∀ p ∈ tups, p.1 ≠ told) → (∀ p ∈ tups, p.1 ≠ due) → (∀ p ∈ tups, p.1 ≠ dx) →
      Fr h₀ L h (fun y => if y = Str.ofString "at" then some (.int k tk) else if y = Str.ofString "end" then u y else m₀ y) → News h₀ L h (loopL told due x dx D lx dlx ha hb hc ta tb tc vs nn i ti vt vd nt nd tups) →
      wpAny (model prog w) A (isTrue test env (eval test env)) (fun b s₂ =>
        if b = true then wpAny (model prog w) A (execs body env) (LoopPost h₀ L s m₀ told due x dx D lx dlx ha hb hc ta tb tc vs nn n Q k) E s₂ else Q .next s₂) E { s with heap := h, toks := tk' })
    (hE : PassesOwn (model prog w) A env E := by passes_own) :
    wpAny (model prog w) A (exec (.While test body [] pos) env) Q E s := by
  refine While_inv2 (fun q m nx => ∃ (k i : Int) (tk ti : Tok) (vt vd : List Value) (nt nd : Nat) (ps : List (Int × Int)) (tups : List (Addr × Obj)), nx = loopL told due x dx D lx dlx ha hb hc ta tb tc vs nn i ti vt vd nt nd tups ∧
      m (Str.ofString "at") = some (.int k tk) ∧ (∀ y, y ≠ Str.ofString "at" → y ≠ Str.ofString "end" → m y = m₀ y) ∧ PairsIn tups vt ps ∧ PairsIn tups vd ps ∧ (∀ p ∈ tups, p.1 ≠ told ∧ p.1 ≠ due ∧ p.1 ≠ dx) ∧ LoopInv n k i ps.length ∧ q = LoopMeas n k)
    (news := loopL told due x dx D lx dlx ha hb hc ta tb tc vs nn 0 ti0 [] [] 0 0 [(sl, osl)]) F (kst_newsOf N ?_) ⟨0, 0, t0, ti0, [], [], 0, 0, [], [(sl, osl)], rfl, hm, fun _ _ _ => rfl, .nil, .nil, ?_, ⟨Int.le_refl _, by omega, by omega, by simp; omega, fun _ => ⟨Int.le_refl _, by omega, Int.le_refl _⟩⟩, rfl⟩ ?_ hE
  · intro p hp
    simp only [loopL, strmL, lexL, List.mem_cons, List.not_mem_nil, or_false] at hp ⊢
    rcases hp with h | h | h | h | h | h | h | h <;> simp [h]
  · intro p hp
    rw [List.mem_singleton.mp hp]
    exact ⟨Nat.ne_of_lt o1, Nat.ne_of_lt o2, Nat.ne_of_lt o3⟩
  · rintro q m₁ nx h tk' F₁ N₁ ⟨k, i, tk, ti, vt, vd, nt, nd, ps, tups, rfl, h1, h2, h3, h4, h5, h6, rfl⟩
    have em : (fun y => if y = Str.ofString "at" then some (.int k tk) else if y = Str.ofString "end" then m₁ y else m₀ y) = m₁ := by
      funext y
      by_cases e1 : y = Str.ofString "at"
      · rw [if_pos e1, e1, h1]
      · rw [if_neg e1]
        by_cases e2 : y = Str.ofString "end"
        · rw [if_pos e2]
        · rw [if_neg e2]; exact (h2 y e1 e2).symm
    refine wpAny_mono (turn k i tk ti vt vd nt nd ps tups m₁ h tk' h6 h3 h4 (fun p hp => (h5 p hp).1) (fun p hp => (h5 p hp).2.1) (fun p hp => (h5 p hp).2.2) (by rw [em]; exact F₁) N₁) (fun b s₂ p => ?_) fun _ _ x => x
    cases b with
    | false => simpa using p
    | true =>
      simp only [if_true] at p ⊢
      refine wpAny_mono p (fun f s₃ q => ?_) fun _ _ x => x
      cases f with
      | ret v => exact q
      | brk => exact q
      | next =>
        obtain ⟨k', i', tk1, ti', vt', vd', nt', nd', ps', tups', h', tk'', m', rfl, F', N', g1, g2, g3, g4, g5, g6, g7⟩ := q
        exact ⟨h', tk'', m', _, _, rfl, F', N', g7, k', i', tk1, ti', vt', vd', nt', nd', ps', tups', rfl, g1, g2, g3, g4, g5, g6, rfl⟩
      | cont =>
        obtain ⟨k', i', tk1, ti', vt', vd', nt', nd', ps', tups', h', tk'', m', rfl, F', N', g1, g2, g3, g4, g5, g6, g7⟩ := q
        exact ⟨h', tk'', m', _, _, rfl, F', N', g7, k', i', tk1, ti', vt', vd', nt', nd', ps', tups', rfl, g1, g2, g3, g4, g5, g6, rfl⟩
end
end Mine
namespace Mine
theorem item_code {text : Str} {e : Int} (h0 : 0 ≤ e) (h : e < text.length) : (((Txt.item text e).cps.getD 0 0 : Nat) : Int) = laV (codes text) e := by
  have hl := str_len_list text
  have h1 : e.toNat < text.cps.toList.length := by omega
  have hn : text.cps[e.toNat]? = some (text.cps.toList.getD e.toNat 0) := by
    rw [← Array.getElem?_toList, List.getD_eq_getElem?_getD, List.getElem?_eq_getElem h1]; rfl
  rw [item_meets h0 hn, laV_in (by rw [codes_len]; exact h), codes_getD]
  rfl
theorem item_none {text : Str} {e : Int} (h : ¬ e < text.length) : (-1 : Int) = laV (codes text) e := by
  unfold laV; rw [if_pos (by rw [codes_len]; omega)]
theorem find3_ge (x y : Str) (i : Int) : -1 ≤ Txt.find3 x y i := by
  unfold Txt.find3; split <;> omega
theorem next_at {text : Str} {i k j : Int} {c : Nat} (hk : 0 ≤ k) (h1 : k + 2 ≤ j) (h2 : j ≤ text.length) (h3 : (c : Int) ≤ k) :
    LoopInv text.length (Txt.find3 text (Str.ofString "--") j) j (c + 1) ∧ LoopMeas text.length (Txt.find3 text (Str.ofString "--") j) < LoopMeas text.length k := by
  have hg := find3_ge text (Str.ofString "--") j
  have hd : (Str.ofString "--").length = 2 := by rw [sign_dash]; rfl
  rcases find3_cases text (Str.ofString "--") (i := j) (by omega) with ⟨h, _⟩ | ⟨q, e, hq, hat, _⟩
  · refine ⟨⟨by omega, h2, hg, by omega, fun h' => absurd h (by omega)⟩, ?_⟩
    unfold LoopMeas
    rw [if_pos h, if_neg (by omega)]; omega
  · have hq2 := hat.1
    rw [hd] at hq2
    rw [e]
    refine ⟨⟨by omega, h2, by omega, by omega, fun _ => ⟨hq, by omega, by omega⟩⟩, ?_⟩
    unfold LoopMeas
    rw [if_neg (by omega), if_neg (by omega)]; omega
section
variable {s : Shared} {h₀ h' : Heap} {L T1 T2 : Addr} {told due x dx D lx dlx : Addr} {ha hb hc : Int} {ta tb tc tj t1 t2 t3 t4 tk : Tok} {vs vt vd : List Value} {nn nt nd tk' n1 n2 : Nat} {m₀ m' : Str → Option Value} {tups : List (Addr × Obj)}
  {ps : List (Int × Int)} {i j k v : Int} {text : Str}
theorem loop_close (F : Fr h₀ L h' m')
    (N : News h₀ L h' ((T2, ({ cls := .type "tuple", data := .seq #[Value.int j t3, Value.int v t4] n2 } : Obj)) :: (T1, ({ cls := .type "tuple", data := .seq #[Value.int j t1, Value.int (laV (codes text) j) t2] n1 } : Obj)) ::
      (x, instObj 52 dx) :: (dx, strmD ha hb ta tb D j tj) :: (D, listOf vs.toArray nn) :: (lx, instObj 101 dlx) :: (dlx, dictOf [⟨hc, .str (Str.ofString "_input") tc, .ref x⟩] 1) ::
      (told, listOf (vt.toArray.push (.ref T1)) (nt + 1)) :: (due, listOf (vd.toArray.push (.ref T2)) (nd + 1)) :: tups))
    (hv : v = laV (codes text) j) (hm : m' (Str.ofString "at") = some (.int (Txt.find3 text (Str.ofString "--") j) tk)) (hr : ∀ y, y ≠ Str.ofString "at" → y ≠ Str.ofString "end" → m' y = m₀ y)
    (hpt : PairsIn tups vt ps) (hpd : PairsIn tups vd ps) (d1 : ∀ p ∈ tups, p.1 ≠ told) (d2 : ∀ p ∈ tups, p.1 ≠ due) (d3 : ∀ p ∈ tups, p.1 ≠ dx)
    (o1 : @Ne Nat T1 told ∧ @Ne Nat T1 due ∧ @Ne Nat T1 dx) (o2 : @Ne Nat T2 told ∧ @Ne Nat T2 due ∧ @Ne Nat T2 dx)
    (hk : 0 ≤ k) (h1 : k + 2 ≤ j) (h2 : j ≤ text.length) (h3 : (ps.length : Int) ≤ k) :
    LoopEnd h₀ L s m₀ told due x dx D lx dlx ha hb hc ta tb tc vs nn text.length k { s with heap := h', toks := tk' } := by
  have hn := next_at (text := text) (i := j) (c := ps.length) hk h1 h2 h3
  subst hv
  refine ⟨_, j, tk, tj, vt ++ [.ref T1], vd ++ [.ref T2], nt + 1, nd + 1, ps ++ [(j, laV (codes text) j)],
    (T2, ({ cls := .type "tuple", data := .seq #[Value.int j t3, Value.int (laV (codes text) j) t4] n2 } : Obj)) :: (T1, ({ cls := .type "tuple", data := .seq #[Value.int j t1, Value.int (laV (codes text) j) t2] n1 } : Obj)) :: tups, h', tk', m', rfl, F, ?_, hm, hr, ?_, ?_, ?_, ?_, hn.2⟩
  · simp only [List.push_toArray] at N
    refine kst_newsOf N fun p hp => ?_
    simp only [loopL, strmL, lexL, List.mem_cons] at hp ⊢
    rcases hp with h | h | h | h | h | h | h | h | h | h <;> simp [h]
  · exact (hpt.mono fun p hp => .tail _ (.tail _ hp)).snoc (.tail _ (.head _))
  · exact (hpd.mono fun p hp => .tail _ (.tail _ hp)).snoc (.head _)
  · intro p hp
    rcases List.mem_cons.mp hp with rfl | hp
    · exact o2
    · rcases List.mem_cons.mp hp with rfl | hp
      · exact o1
      · exact ⟨d1 p hp, d2 p hp, d3 p hp⟩
  · rw [List.length_append, List.length_singleton]
    exact hn.1
end
end Mine
namespace Mine
local macro_rules | `(tactic| k_all) => `(tactic| assumption)
local macro_rules | `(tactic| walk_at "mine while?") => `(tactic| with_reducible first | show wpAny _ _ (exec (Stmt.While _ _ _ _) _) _ _ _ | show wpAny _ _ (compareOp CmpOp.NotEq _ _) _ _ _)
local macro_rules | `(tactic| walk_at "mine steps") => `(tactic| repeat' ((fail_if_success (walk_at "mine while?")); (first | (k_unfold; (try dsimp only)) | (k_end; wrow_close) | walk1 | (dsimp only; walk1) | (leave1; walk_say "STEP leave1"; try dsimp only) | fail "no step")))
local macro_rules | `(tactic| walk_at "mine lt") => `(tactic| omega)
local macro_rules | `(tactic| walk_at "call ref") => `(tactic| (k_here; (with_reducible show wpAny _ _ (call (Value.ref 42) _) _ _ _); k_dflt (refine' LA_spec ?k1 ?k2 ?k3 ?k4 ?k5 ?k6 ?k7 ?k8 ?k9 ?k10 ?k11 ?k12 ?_; (case k1 => k_asm); (case k2 => k_asm); (case k3 => k_asm); (case k4 => k_asm); (case k5 => k_asm); (case k6 => first | assumption | exact rfl); (case k7 => assumption); (case k8 => omega); (case k9 => omega); (case k10 => omega); (case k11 => ktr_room); (case k12 => ktr_units); k_whole; intro t9 h9 tk9 F9 N9; dsimp only [strmL, strmD] at N9; (try dsimp only); (try k_sweep))))
local macro_rules | `(tactic| walk_at "call ref") => `(tactic| (k_here; (with_reducible show wpAny _ _ (call (Value.ref 49) _) _ _ _); k_dflt (refine' consume_spec ?k1 ?k2 ?k3 ?k4 ?kx ?kl ?kr ?k5 ?k6 ?k7 ?k8 ?k9 ?k10 ?k11 ?k12 ?_; (case k1 => k_asm); (case k2 => k_asm); (case k3 => k_asm); (case k4 => k_asm); (case kx => first | assumption | omega); (case kl => first | assumption | omega); (case kr => k_all); (case k5 => k_asm); (case k6 => first | assumption | exact rfl); (case k7 => assumption); (case k8 => omega); (case k9 => walk_at "mine lt"); (case k10 => walk_at "mine lt"); (case k11 => ktr_room); (case k12 => ktr_units); k_whole; intro t9 h9 tk9 F9 N9; dsimp only [strmL, strmD] at N9; (try dsimp only); (try k_sweep))))


section
variable {w : World} {loose : List Str} {mean : ExcName → Option Value} {mg mb : Str → Option Value}
  {dp un : Nat} {gd : Option (List Code)} {cn : Str} {cs : Scope} {a : Addr} {ccd : Value} {cl : List (Str × Addr)} {outer : List Env} {A₀ : Around} {base h₀ : Heap} {L : Addr} {m : Str → Option Value} {s : Shared} {Q E : Value → Shared → Prop}
  {rest : List (Addr × Obj)} {text : Str} {at' e : Int} {tt ta : Tok}
theorem end_known {i' : Int} (H : HRel (codes text) i' e) (he : at' = i')
  (B : Below A₀ base outer h₀) (F : Fr h₀ L s.heap m) (X : (hd.heap_39 w.params).In h₀) (N : News h₀ L s.heap rest)
  (T : Top hd.view_39 loose mean mg mb h₀) (hk : cs.kind = .function) (hlen : text.length < 8000) (h0 : 0 ≤ at') (h1 : at' ≤ text.length)
  (hdp : dp + 1 < recursionLimit) (hun : un + 8 < cLine)
  (hret : ∀ t h' tk', Fr h₀ L h' m → News h₀ L h' rest → Q (.int e t) { s with heap := h', toks := tk' }) :
  wpAny (model PySem.Challenge.rw_ez0167_01.row.prog w) (ktrTop dp un gd cn cs L a ccd cl outer) (call (.ref 112) [.str text tt, .int at' ta]) Q E s :=
  end_spec B F X N T hk hlen h0 h1 hdp hun fun e' t h' tk' F' N' H' => by
    have e1 := hrel_uniq h0 H' (he ▸ H)
    subst e1
    exact hret t h' tk' F' N'
end
local macro_rules | `(tactic| walk_at "call ref") => `(tactic| (k_here; (with_reducible show wpAny _ _ (call (Value.ref 77) _) _ _ _); k_dflt (refine' hc_spec ?k1 ?k2 ?k3 ?k4 ?kx ?kl ?km ?kn ?kr ?k5 ?k6 ?k7 ?k8 ?kp ?k9 ?k10 ?k11 ?k12 ?_; (case k1 => k_asm); (case k2 => k_asm); (case k3 => k_asm); (case k4 => k_asm); (case kx => omega); (case kl => omega); (case km => omega); (case kn => omega); (case kr => k_all); (case k5 => k_asm); (case k6 => first | assumption | exact rfl); (case k7 => assumption); (case k8 => omega); (case kp => exact codes_pos _); (case k9 => omega); (case k10 => omega); (case k11 => ktr_room); (case k12 => ktr_units); k_whole; intro j9 t9 h9 tk9 F9 N9 S9; have S9a := (hrel_le S9).1; have S9b := (hrel_le S9).2; dsimp only [strmL, strmD, lexL] at N9; (try dsimp only); (try k_sweep))))
local macro_rules | `(tactic| walk_at "call ref") => `(tactic| (k_here; (with_reducible show wpAny _ _ (call (Value.ref 112) _) _ _ _); k_dflt (refine' end_known ?kH ?ke ?k1 ?k2 ?k3 ?k4 ?k5 ?k6 ?k8 ?k9 ?k10 ?k11 ?k12 ?_; (case k1 => k_asm); (case k2 => k_asm); (case k3 => k_asm); (case k4 => k_asm); (case k5 => k_asm); (case k6 => first | assumption | exact rfl); (case kH => assumption); (case ke => omega); (case k8 => omega); (case k9 => omega); (case k10 => omega); (case k11 => ktr_room); (case k12 => ktr_units); k_whole; intro t9 h9 tk9 F9 N9; (try dsimp only); (try k_sweep))))
local macro_rules | `(tactic| walk_at "eval ListComp") => `(tactic| (k_here; (with_reducible apply ListComp_rowsP); (case hfree => decide); (case hcell => decide); (case hkind => with_unfolding_all rfl); (case hnames => decide); (case hx => with_unfolding_all rfl); (case hs => intro _; with_unfolding_all rfl)))
local macro_rules | `(tactic| walk_at "pyIter str") => `(tactic| (k_here; k_dflt (refine' ord_comp ?q1 ?q2 ?q3 ?q4 ?k1 ?k2 ?kh ?kF ?kN ?kX ?kT ?ke ?_ ?ks; (case q1 => exact rfl); (case q2 => exact fun _ => rfl); (case q3 => exact fun _ => rfl); (case q4 => decide); (case k1 => exact rfl); (case k2 => exact rfl); (case kh => exact rfl); (case kF => k_asm); (case kN => k_asm); (case kX => k_asm); (case kT => k_asm); (case ke => k_is); (case ks => (rw [sizeLine_eq]; omega)); k_whole; intro D9 vs9 nn9 h9 tk9 F9 N9 I9; (try dsimp only); (try k_sweep))))
local macro_rules | `(tactic| size_fits) => `(tactic| ((simp only [List.size_toArray]); (rw [PySem.sizeLine_eq]); omega))
local macro_rules | `(tactic| walk_at "mine pairs") => `(tactic| first | exact PairsIn.mono (by assumption) (by intro p9 h9; kst_mem) | exact PairsIn.snoc (PairsIn.mono (by assumption) (by intro p9 h9; kst_mem)) (by k_mem) | exact PairsIn.snoc' (PairsIn.mono (by assumption) (by intro p9 h9; kst_mem)) (by k_mem) (by walk_at "mine sign"))
local macro_rules | `(tactic| walk_at "compareOp Eq ref ref") => `(tactic| (k_here; (with_reducible show wpAny _ _ (compareOp CmpOp.Eq (Value.ref _) (Value.ref _)) _ _ _); k_dflt (refine' pairs_eq ?kN ?ka ?kb ?kd ?ke ?ku ?_; (case kN => k_asm); (case ka => k_mem); (case kb => k_mem); (case kd => walk_at "mine pairs"); (case ke => walk_at "mine pairs"); (case ku => k_units); k_whole)))
local macro_rules | `(tactic| walk_at "compareOp NotEq ref ref") => `(tactic| (k_here; (with_reducible show wpAny _ _ (compareOp CmpOp.NotEq (Value.ref _) (Value.ref _)) _ _ _); k_dflt (refine' pairs_ne ?kN ?ka ?kb ?kd ?ke ?ku ?_; (case kN => k_asm); (case ka => k_mem); (case kb => k_mem); (case kd => walk_at "mine pairs"); (case ke => walk_at "mine pairs"); (case ku => k_units); k_whole)))
set_option maxRecDepth 100000 in
set_option maxHeartbeats 8000000 in
theorem law_holds : PySem.Challenge.rw_ez0167_01.Holds := hd (by
  k_with_none
  k_with "pyIter ref" => k_state (fun pre text => 2 ≤ text.length ∧ text.length ≤ 2 + 2 * pre.length) "text"
  k_go0
  all_goals try k_fold
  walk_at "mine steps"
  (rename Fr _ _ _ _ => F1)
  (rename News _ _ _ _ => N1)
  (rename PySem.Str => text)
  have hcl := codes_len text
  with_unfolding_all refine' main_loop (text.length : Int) F1 N1 ?hm ?hn ?o1 ?o2 ?o3 ?turn
  case hm => exact rfl
  case hn => omega
  case o1 => omega
  case o2 => omega
  case o3 => omega
  clear F1 N1
  intro k i tk ti vt vd nt nd ps tups u hh tk' hinv hpt hpd ht1 ht2 ht3 F2 N2
  obtain ⟨hi1, hi2, hi3, hi5, hi4⟩ := hinv
  have hvt : vt.toArray.size ≤ sizeLine := by rw [List.size_toArray, hpt.length, sizeLine_eq]; omega
  have hvd : vd.toArray.size ≤ sizeLine := by rw [List.size_toArray, hpd.length, sizeLine_eq]; omega
  dsimp only [loopL, strmL, strmD, lexL] at N2
  try k_fold
  walk_at "mine steps"
  k_while (fun _ j => i ≤ j ∧ j ≤ k + 2) (fun _ j => (k + 2 - j).toNat) "stream.index"
  walk_at "mine steps"
  all_goals (
    (rename Fr _ _ _ _ => F3)
    (rename News _ _ _ _ => N3)
    have N4 := N3
    simp only [List.push_toArray] at N4
    refine pairs_ne N4 (by k_mem) (by k_mem) (PairsIn.snoc (hpt.mono (by intro p9 h9; kst_mem)) (by k_mem)) (PairsIn.snoc' (hpd.mono (by intro p9 h9; kst_mem)) (by k_mem) (by first | exact item_code (by omega) (by assumption) | exact item_none (by assumption))) (by k_units) ?_
    clear N4
    walk_at "mine steps"
    exact loop_close F3 N3 (by first | exact item_code (by omega) (by assumption) | exact item_none (by assumption)) rfl (by intro y e1 e2; simp [e1, e2]) hpt hpd ht1 ht2 ht3 ⟨by omega, by omega, by omega⟩ ⟨by omega, by omega, by omega⟩ (by omega) (by omega) (by omega) (by omega)))
end Mine
theorem PySem.Challenge.cw_ez0167_01_holds : PySem.Challenge.rw_ez0167_01.Holds :=
  Mine.law_holds
