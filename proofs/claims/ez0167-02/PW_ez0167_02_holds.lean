import PyProof.Rows.All
import Wide.All
import OpenK.AllK
import Wide.FinOn
import Lean
import PySem.Challenge.RW_ez0167_02
open PySem PySem.W PyProof.Rows
set_option Elab.async false
namespace Mine
set_option maxRecDepth 100000 in
set_option maxHeartbeats 8000000 in
open_top hd for PySem.Challenge.rw_ez0167_02
end Mine
namespace Mine
def laV (ns : List Int) (i : Int) : Int := if (ns.length : Int) ≤ i then -1 else ns.getD i.toNat 0
abbrev strmD (ha hb : Int) (ta tb : Tok) (l : Addr) (i : Int) (ti : Tok) : Obj :=
  dictOf [⟨ha, .str (Str.ofString "data") ta, .ref l⟩, ⟨hb, .str (Str.ofString "index") tb, .int i ti⟩] 2
abbrev strmL (x dx l : Addr) (ha hb : Int) (ta tb : Tok) (vs : List Value) (nn : Nat) (i : Int) (ti : Tok) (rest : List (Addr × Obj)) : List (Addr × Obj) :=
  (x, instObj 52 dx) :: (dx, strmD ha hb ta tb l i ti) :: (l, listOf vs.toArray nn) :: rest

local macro_rules | `(tactic| k_all) => `(tactic| assumption)

section
variable {w : World} {loose : List Str} {mean : ExcName → Option Value} {mg mb : Str → Option Value}
  {dp un : Nat} {gd : Option (List Code)} {cn : Str} {cs : Scope} {a : Addr} {ccd : Value} {cl : List (Str × Addr)} {outer : List Env} {A₀ : Around} {base h₀ : Heap} {L : Addr} {m : Str → Option Value} {s : Shared} {Q E : Value → Shared → Prop}
  {x dx l lx dlx : Addr} {ha hb hc : Int} {ta tb tc : Tok} {vs : List Value} {ns : List Int} {nn : Nat} {i : Int} {ti t1 : Tok} {rest : List (Addr × Obj)}

set_option maxRecDepth 100000 in
set_option maxHeartbeats 8000000 in
theorem LA_spec
  (B : Below A₀ base outer h₀) (F : Fr h₀ L s.heap m) (X : (hd.heap_39 w.params).In h₀)
  (N : News h₀ L s.heap (strmL x dx l ha hb ta tb vs nn i ti rest))
  (T : Top hd.view_39 loose mean mg mb h₀) (hk : cs.kind = .function) (hI : IntsAre vs ns) (hlen : ns.length < 10000) (h0 : 0 ≤ i) (h1 : i < 10000)
  (hdp : dp + 1 < recursionLimit) (hun : un + 8 < cLine)
  (hret : ∀ t h' tk', Fr h₀ L h' m → News h₀ L h' (strmL x dx l ha hb ta tb vs nn i ti rest) → Q (.int (laV ns i) t) { s with heap := h', toks := tk' }) :
  wpAny (model PySem.Challenge.rw_ez0167_02.row.prog w) (ktrTop dp un gd cn cs L a ccd cl outer) (call (.ref 42) [.ref x, .int 1 t1]) Q E s := by
  revert X; k_fill; intro X
  refine wpAny_call ?_
  k_dflt ktr_enter
  k_steps
  all_goals (refine cb_retI (x := laV ns i) (Q := Q) hret ?_ (by k_asm) (by k_asm))
  all_goals (unfold laV; split <;> first | rfl | omega | (congr 1; omega))

set_option maxRecDepth 100000 in
set_option maxHeartbeats 8000000 in
theorem consume_spec
  (B : Below A₀ base outer h₀) (F : Fr h₀ L s.heap m) (X : (hd.heap_39 w.params).In h₀)
  (N : News h₀ L s.heap (strmL x dx l ha hb ta tb vs nn i ti rest)) (hx : @Ne Nat x dx) (hl : @Ne Nat l dx) (hr : ∀ p ∈ rest, p.1 ≠ dx)
  (T : Top hd.view_39 loose mean mg mb h₀) (hk : cs.kind = .function) (hI : IntsAre vs ns) (hlen : ns.length < 10000) (h0 : 0 ≤ i) (h1 : i < ns.length)
  (hdp : dp + 1 < recursionLimit) (hun : un + 8 < cLine)
  (hret : ∀ t h' tk', Fr h₀ L h' m → News h₀ L h' (strmL x dx l ha hb ta tb vs nn (i + 1) t rest) → Q .none { s with heap := h', toks := tk' }) :
  wpAny (model PySem.Challenge.rw_ez0167_02.row.prog w) (ktrTop dp un gd cn cs L a ccd cl outer) (call (.ref 49) [.ref x]) Q E s := by
  revert X; k_fill; intro X
  refine wpAny_call ?_
  k_dflt ktr_enter
  k_steps
  all_goals first | omega | exact hret _ _ _ (by k_asm) (by k_asm)
end
end Mine
namespace Mine
local macro_rules | `(tactic| k_all) => `(tactic| assumption)
theorem laV_lt {ns : List Int} {j c : Int} (h : laV ns j = c) (hc : c ≠ -1) : j < ns.length := by
  unfold laV at h; split at h <;> omega
local macro_rules | `(tactic| walk_at "mine lt") => `(tactic| (have hlt9 := laV_lt (by assumption) (by decide); omega))
local macro_rules | `(tactic| walk_at "mine while?") => `(tactic| with_reducible show wpAny _ _ (exec (Stmt.While _ _ _ _) _) _ _ _)
local macro_rules | `(tactic| walk_at "mine steps") => `(tactic| repeat' ((fail_if_success (walk_at "mine while?")); (first | (k_unfold; (try dsimp only)) | (k_end; wrow_close) | walk1 | (dsimp only; walk1) | (leave1; walk_say "STEP leave1"; try dsimp only) | fail "no step")))
/-- the ledger's entries may be taken in any order -/
local macro_rules | `(tactic| walk_at "call ref") => `(tactic| (k_here; (with_reducible show wpAny _ _ (call (Value.ref 42) _) _ _ _); k_dflt (refine' LA_spec ?k1 ?k2 ?k3 ?k4 ?k5 ?k6 ?k7 ?k8 ?k9 ?k10 ?k11 ?k12 ?_; (case k1 => k_asm); (case k2 => k_asm); (case k3 => k_asm); (case k4 => k_asm); (case k5 => k_asm); (case k6 => first | assumption | exact rfl); (case k7 => assumption); (case k8 => omega); (case k9 => first | omega | walk_at "mine lt"); (case k10 => first | omega | walk_at "mine lt"); (case k11 => ktr_room); (case k12 => ktr_units); k_whole; intro t9 h9 tk9 F9 N9; dsimp only [strmL, strmD] at N9; (try dsimp only); (try k_sweep))))

local macro_rules | `(tactic| walk_at "call ref") => `(tactic| (k_here; (with_reducible show wpAny _ _ (call (Value.ref 49) _) _ _ _); k_dflt (refine' consume_spec ?k1 ?k2 ?k3 ?k4 ?kx ?kl ?kr ?k5 ?k6 ?k7 ?k8 ?k9 ?k10 ?k11 ?k12 ?_; (case k1 => k_asm); (case k2 => k_asm); (case k3 => k_asm); (case k4 => k_asm); (case kx => first | assumption | omega); (case kl => first | assumption | omega); (case kr => k_all); (case k5 => k_asm); (case k6 => first | assumption | exact rfl); (case k7 => assumption); (case k8 => omega); (case k9 => first | omega | walk_at "mine lt"); (case k10 => first | omega | walk_at "mine lt"); (case k11 => ktr_room); (case k12 => ktr_units); k_whole; intro t9 h9 tk9 F9 N9; dsimp only [strmL, strmD] at N9; (try dsimp only); (try k_sweep))))

def SkipRel (ns : List Int) (i j r : Int) : Prop :=
  i < j ∧ j ≤ ns.length ∧ (∀ k, i < k → k < j → ns.getD k.toNat 0 = 61) ∧ laV ns j ≠ 61 ∧ r = if laV ns j = laV ns i then j - i + 1 else if j = i + 1 then 1 else 0
theorem skip_step {ns : List Int} {i c j : Int} (h2 : laV ns j = 61) (h1 : c = j - (i+1)) (h3 : i + 1 ≤ j) (h4 : j ≤ ns.length) (h : ∀ k, i < k → k < j → ns.getD k.toNat 0 = 61) :
    c + 1 = j + 1 - (i+1) ∧ i + 1 ≤ j + 1 ∧ j + 1 ≤ ns.length ∧ (∀ k, i < k → k < j + 1 → ns.getD k.toNat 0 = 61) := by
  have h3 := laV_lt h2 (by decide)
  refine ⟨by omega, by omega, by omega, fun k h4 h5 => ?_⟩
  by_cases h6 : k < j
  · exact h k h4 h6
  · have : k = j := by omega
    subst this
    unfold laV at h2; rw [if_neg (by omega)] at h2; exact h2
theorem skip_end1 {ns : List Int} {i c j r : Int} (h2 : laV ns j ≠ 61) (h1 : c = j - (i+1)) (h3 : i + 1 ≤ j) (h4 : j ≤ ns.length) (h : ∀ k, i < k → k < j → ns.getD k.toNat 0 = 61)
   (he : laV ns j = laV ns i) (hr : r = c + 2) : SkipRel ns i j r := ⟨by omega, h4, h, h2, by rw [if_pos he]; omega⟩
theorem skip_end2 {ns : List Int} {i c j r : Int} (h2 : laV ns j ≠ 61) (h1 : c = j - (i+1)) (h3 : i + 1 ≤ j) (h4 : j ≤ ns.length) (h : ∀ k, i < k → k < j → ns.getD k.toNat 0 = 61)
   (he : laV ns j ≠ laV ns i) (hc : c = 0) (hr : r = 1) : SkipRel ns i j r := ⟨by omega, h4, h, h2, by rw [if_neg he, if_pos (by omega)]; exact hr⟩
theorem skip_end3 {ns : List Int} {i c j r : Int} (h2 : laV ns j ≠ 61) (h1 : c = j - (i+1)) (h3 : i + 1 ≤ j) (h4 : j ≤ ns.length) (h : ∀ k, i < k → k < j → ns.getD k.toNat 0 = 61)
   (he : laV ns j ≠ laV ns i) (hc : c ≠ 0) (hr : r = 0) : SkipRel ns i j r := ⟨by omega, h4, h, h2, by rw [if_neg he, if_neg (by omega)]; exact hr⟩

section
variable {w : World} {loose : List Str} {mean : ExcName → Option Value} {mg mb : Str → Option Value}
  {dp un : Nat} {gd : Option (List Code)} {cn : Str} {cs : Scope} {a : Addr} {ccd : Value} {cl : List (Str × Addr)} {outer : List Env} {A₀ : Around} {base h₀ : Heap} {L : Addr} {m : Str → Option Value} {s : Shared} {Q E : Value → Shared → Prop}
  {x dx l lx dlx : Addr} {ha hb hc : Int} {ta tb tc : Tok} {vs : List Value} {ns : List Int} {nn : Nat} {i : Int} {ti t1 : Tok} {rest : List (Addr × Obj)} {slf : Value}

set_option maxRecDepth 100000 in
set_option maxHeartbeats 8000000 in
theorem skip_spec
  (B : Below A₀ base outer h₀) (F : Fr h₀ L s.heap m) (X : (hd.heap_39 w.params).In h₀)
  (N : News h₀ L s.heap (strmL x dx l ha hb ta tb vs nn i ti rest)) (hx : @Ne Nat x dx) (hl : @Ne Nat l dx) (hr : ∀ p ∈ rest, p.1 ≠ dx)
  (T : Top hd.view_39 loose mean mg mb h₀) (hk : cs.kind = .function) (hI : IntsAre vs ns) (hlen : ns.length < 10000) (h0 : 0 ≤ i) (h1 : i < ns.length)
  (hdp : dp + 2 < recursionLimit) (hun : un + 16 < cLine)
  (hret : ∀ j r t t' h' tk', Fr h₀ L h' m → News h₀ L h' (strmL x dx l ha hb ta tb vs nn j t rest) → SkipRel ns i j r → Q (.int r t') { s with heap := h', toks := tk' }) :
  wpAny (model PySem.Challenge.rw_ez0167_02.row.prog w) (ktrTop dp un gd cn cs L a ccd cl outer) (call (.ref 91) [slf, .ref x]) Q E s := by
  revert X; k_fill; intro X
  dsimp only [strmL, strmD] at N
  k_with_none
  refine wpAny_call ?_
  k_dflt ktr_enter
  walk_at "mine steps"
  k_while (fun _ c j => c = j - (i+1) ∧ i + 1 ≤ j ∧ j ≤ ns.length ∧ (∀ k, i < k → k < j → ns.getD k.toNat 0 = 61)) (fun _ c j => (ns.length - j).toNat) "count" "cs.index"
  k_with "state" => exact skip_step (by assumption) (by assumption) (by assumption) (by assumption) (by assumption)
  k_with "measure" => walk_at "mine lt"
  walk_at "mine steps"
  all_goals exact hret _ _ _ _ _ _ (by k_asm) (by k_asm) (by first
    | exact skip_end1 (by assumption) (by assumption) (by assumption) (by assumption) (by assumption) (by assumption) rfl
    | exact skip_end2 (by assumption) (by assumption) (by assumption) (by assumption) (by assumption) (by assumption) (by assumption) rfl
    | exact skip_end3 (by assumption) (by assumption) (by assumption) (by assumption) (by assumption) (by assumption) (by assumption) rfl)
end
end Mine
namespace Mine
local macro_rules | `(tactic| k_all) => `(tactic| assumption)
theorem laV_ne_lt {ns : List Int} {j : Int} (h : laV ns j ≠ -1) : j < ns.length := by
  by_cases h' : j < ns.length
  · exact h'
  · exact absurd (by unfold laV; rw [if_pos (by omega)]) h
theorem skip_lt {ns : List Int} {sep j j' r : Int} (hv : laV ns j = 93) (S : SkipRel ns j j' r) (hr : r = sep) (hs : 2 ≤ sep) : j' < ns.length := by
  obtain ⟨s1, s2, s3, s4, s5⟩ := S
  have he : laV ns j' = laV ns j := by
    by_cases he : laV ns j' = laV ns j
    · exact he
    · rw [if_neg he] at s5; split at s5 <;> omega
  exact laV_lt (he.trans hv) (by decide)
theorem le_10k {j n : Int} (h : j < n) (hn : n < 10000) : j < 10000 := by omega
local macro_rules | `(tactic| walk_at "mine lt") => `(tactic| first | omega | exact laV_lt (by assumption) (by decide) | exact laV_ne_lt (by assumption) | exact skip_lt (by assumption) (by assumption) (by assumption) (by assumption))
local macro_rules | `(tactic| walk_at "mine while?") => `(tactic| with_reducible show wpAny _ _ (exec (Stmt.While _ _ _ _) _) _ _ _)
local macro_rules | `(tactic| walk_at "mine steps") => `(tactic| repeat' ((fail_if_success (walk_at "mine while?")); (first | (k_unfold; (try dsimp only)) | (k_end; wrow_close) | walk1 | (dsimp only; walk1) | (leave1; walk_say "STEP leave1"; try dsimp only) | fail "no step")))
local macro_rules | `(tactic| walk_at "call ref") => `(tactic| (k_here; (with_reducible show wpAny _ _ (call (Value.ref 42) _) _ _ _); k_dflt (refine' LA_spec ?k1 ?k2 ?k3 ?k4 ?k5 ?k6 ?k7 ?k8 ?k9 ?k10 ?k11 ?k12 ?_; (case k1 => k_asm); (case k2 => k_asm); (case k3 => k_asm); (case k4 => k_asm); (case k5 => k_asm); (case k6 => first | assumption | exact rfl); (case k7 => assumption); (case k8 => omega); (case k9 => omega); (case k10 => omega); (case k11 => ktr_room); (case k12 => ktr_units); k_whole; intro t9 h9 tk9 F9 N9; dsimp only [strmL, strmD] at N9; (try dsimp only); (try k_sweep))))
local macro_rules | `(tactic| walk_at "call ref") => `(tactic| (k_here; (with_reducible show wpAny _ _ (call (Value.ref 49) _) _ _ _); k_dflt (refine' consume_spec ?k1 ?k2 ?k3 ?k4 ?kx ?kl ?kr ?k5 ?k6 ?k7 ?k8 ?k9 ?k10 ?k11 ?k12 ?_; (case k1 => k_asm); (case k2 => k_asm); (case k3 => k_asm); (case k4 => k_asm); (case kx => first | assumption | omega); (case kl => first | assumption | omega); (case kr => k_all); (case k5 => k_asm); (case k6 => first | assumption | exact rfl); (case k7 => assumption); (case k8 => omega); (case k9 => walk_at "mine lt"); (case k10 => walk_at "mine lt"); (case k11 => ktr_room); (case k12 => ktr_units); k_whole; intro t9 h9 tk9 F9 N9; dsimp only [strmL, strmD] at N9; (try dsimp only); (try k_sweep))))
local macro_rules | `(tactic| walk_at "call ref") => `(tactic| (k_here; (with_reducible show wpAny _ _ (call (Value.ref 91) _) _ _ _); k_dflt (refine' skip_spec ?k1 ?k2 ?k3 ?k4 ?kx ?kl ?kr ?k5 ?k6 ?k7 ?k8 ?k9 ?k10 ?k11 ?k12 ?_; (case k1 => k_asm); (case k2 => k_asm); (case k3 => k_asm); (case k4 => k_asm); (case kx => first | assumption | omega); (case kl => first | assumption | omega); (case kr => k_all); (case k5 => k_asm); (case k6 => first | assumption | exact rfl); (case k7 => assumption); (case k8 => omega); (case k9 => walk_at "mine lt"); (case k10 => walk_at "mine lt"); (case k11 => ktr_room); (case k12 => ktr_units); k_whole; intro j9 r9 t9 u9 h9 tk9 F9 N9 S9; have S9a := S9.1; have S9b := S9.2.1; dsimp only [strmL, strmD] at N9; (try dsimp only); (try k_sweep))))

def CloseAt (ns : List Int) (sep q : Int) : Prop :=
  0 ≤ q ∧ q + sep ≤ ns.length ∧ ns.getD q.toNat 0 = 93 ∧ (∀ k, q < k → k < q + sep - 1 → ns.getD k.toNat 0 = 61) ∧ ns.getD (q + sep - 1).toNat 0 = 93
def RL (ns : List Int) (sep i e : Int) : Prop :=
  (∃ q, i ≤ q ∧ CloseAt ns sep q ∧ e = q + sep ∧ ∀ q', i ≤ q' → q' < q → ¬ CloseAt ns sep q') ∨ (e = ns.length ∧ ∀ q, i ≤ q → ¬ CloseAt ns sep q)

abbrev RInv (ns : List Int) (sep i : Int) (d : Bool) (j : Int) : Prop :=
  i + 1 ≤ j ∧ j ≤ ns.length ∧ (d = false → ∀ q, i + 1 ≤ q → q < j → ¬ CloseAt ns sep q) ∧ (d = true → RL ns sep (i + 1) j)

theorem laV_in {ns : List Int} {j : Int} (h : j < ns.length) : laV ns j = ns.getD j.toNat 0 := by
  unfold laV; rw [if_neg (by omega)]
theorem getD_pos {ns : List Int} (hp : ∀ n ∈ ns, 0 ≤ n) (k : Nat) : 0 ≤ ns.getD k 0 := by
  rw [List.getD_eq_getElem?_getD]
  cases h : ns[k]? with
  | none => simp
  | some v => exact hp v (List.mem_of_getElem? h)
theorem laV_end {ns : List Int} {j : Int} (hp : ∀ n ∈ ns, 0 ≤ n) (h : laV ns j = -1) : ns.length ≤ j := by
  unfold laV at h
  split at h
  · assumption
  · have := getD_pos hp j.toNat; omega

theorem r_way1 {ns : List Int} {sep i j : Int} (hs : 2 ≤ sep) (hp : ∀ n ∈ ns, 0 ≤ n) (h1 : i + 1 ≤ j) (h2 : j ≤ ns.length) (h3 : ∀ q, i + 1 ≤ q → q < j → ¬ CloseAt ns sep q) (hv : laV ns j = -1) :
    RInv ns sep i true j := by
  have h4 := laV_end hp hv
  refine ⟨h1, h2, fun h => (nomatch h), fun _ => .inr ⟨by omega, fun q h5 h6 => ?_⟩⟩
  by_cases h7 : q < j
  · exact h3 q h5 h7 h6
  · have := h6.2.1; omega
theorem close_skip {ns : List Int} {sep j j' r : Int} (hs : 2 ≤ sep) (h0 : 0 ≤ j) (hv : laV ns j = 93) (S : SkipRel ns j j' r) : (r = sep ↔ CloseAt ns sep j) := by
  obtain ⟨s1, s2, s3, s4, s5⟩ := S
  have hj : j < ns.length := laV_lt hv (by decide)
  have hg : ns.getD j.toNat 0 = 93 := by rw [← laV_in hj]; exact hv
  constructor
  · intro hr
    rw [hv] at s5
    have he : laV ns j' = 93 := by
      by_cases he : laV ns j' = 93
      · exact he
      · rw [if_neg he] at s5; split at s5 <;> omega
    rw [if_pos he] at s5
    have hj' : j' < ns.length := laV_lt he (by decide)
    have e : j + sep - 1 = j' := by omega
    refine ⟨h0, by omega, hg, fun k k1 k2 => s3 k k1 (by omega), ?_⟩
    rw [e, ← laV_in hj']; exact he
  · rintro ⟨_, c2, _, c4, c5⟩
    have hin : j + sep - 1 < ns.length := by omega
    have e : j' = j + sep - 1 := by
      rcases Int.lt_trichotomy j' (j + sep - 1) with h | h | h
      · exact absurd (by rw [laV_in (by omega)]; exact c4 j' s1 h) s4
      · exact h
      · have := s3 (j + sep - 1) (by omega) h; omega
    have he : laV ns j' = laV ns j := by rw [hv, e, laV_in hin]; exact c5
    rw [if_pos he] at s5; omega
theorem r_way1' {ns : List Int} {sep i j : Int} {d : Bool} (hs : 2 ≤ sep) (hp : ∀ n ∈ ns, 0 ≤ n) (hv : laV ns j = -1) (h1 : i + 1 ≤ j) (h2 : j ≤ ns.length) (hd : d = false) (h3 : d = false → ∀ q, i + 1 ≤ q → q < j → ¬ CloseAt ns sep q) :
    RInv ns sep i true j := r_way1 hs hp h1 h2 (h3 hd) hv
theorem r_way2 {ns : List Int} {sep i j j' r : Int} (hs : 2 ≤ sep) (h0 : 0 ≤ i) (hv : laV ns j = 93) (h1 : i + 1 ≤ j) (S : SkipRel ns j j' r) (hr : r = sep) (h3 : ∀ q, i + 1 ≤ q → q < j → ¬ CloseAt ns sep q) :
    RInv ns sep i true (j' + 1) ∧ j' < ns.length := by
  have hc := (close_skip hs (by omega) hv S).mp hr
  obtain ⟨s1, s2, s3, s4, s5⟩ := S
  have he : laV ns j' = laV ns j := by
    by_cases he : laV ns j' = laV ns j
    · exact he
    · rw [if_neg he] at s5; split at s5 <;> omega
  rw [if_pos he] at s5
  have hj' : j' < ns.length := laV_lt (he.trans hv) (by decide)
  exact ⟨⟨by omega, by omega, fun h => (nomatch h), fun _ => .inl ⟨j, h1, hc, by omega, h3⟩⟩, hj'⟩
theorem r_way3 {ns : List Int} {sep i j j' r : Int} (hs : 2 ≤ sep) (h0 : 0 ≤ i) (hv : laV ns j = 93) (h1 : i + 1 ≤ j) (S : SkipRel ns j j' r) (hr : r ≠ sep) (h3 : ∀ q, i + 1 ≤ q → q < j → ¬ CloseAt ns sep q) :
    RInv ns sep i false j' := by
  have hc := fun h => hr ((close_skip hs (by omega) hv S).mpr h)
  obtain ⟨s1, s2, s3, s4, s5⟩ := S
  refine ⟨by omega, s2, fun _ q q1 q2 => ?_, fun h => (nomatch h)⟩
  rcases Int.lt_trichotomy q j with h | h | h
  · exact h3 q q1 h
  · rw [h]; exact hc
  · intro c; have := c.2.2.1; have := s3 q h q2; omega
theorem r_way4 {ns : List Int} {sep i j : Int} (hp : ∀ n ∈ ns, 0 ≤ n) (h0 : 0 ≤ i) (hv : laV ns j ≠ 93) (hv2 : laV ns j ≠ -1) (h1 : i + 1 ≤ j) (h2 : j ≤ ns.length) (h3 : ∀ q, i + 1 ≤ q → q < j → ¬ CloseAt ns sep q) :
    RInv ns sep i false (j + 1) ∧ j < ns.length := by
  have hj : j < ns.length := by
    by_cases h : j < ns.length
    · exact h
    · exact absurd (by unfold laV; rw [if_pos (by omega)]) hv2
  refine ⟨⟨by omega, by omega, fun _ q q1 q2 => ?_, fun h => (nomatch h)⟩, hj⟩
  by_cases h : q < j
  · exact h3 q q1 h
  · have e : q = j := by omega
    subst e
    intro c; exact hv (by rw [laV_in hj]; exact c.2.2.1)
theorem r_way2' {ns : List Int} {sep i j j' r : Int} {d : Bool} (hs : 2 ≤ sep) (h0 : 0 ≤ i) (S : SkipRel ns j j' r) (hv : laV ns j = 93) (h1 : i + 1 ≤ j) (hr : r = sep) (hd : d = false) (h3 : d = false → ∀ q, i + 1 ≤ q → q < j → ¬ CloseAt ns sep q) :
    RInv ns sep i true (j' + 1) := (r_way2 hs h0 hv h1 S hr (h3 hd)).1
theorem r_way3' {ns : List Int} {sep i j j' r : Int} {d : Bool} (hs : 2 ≤ sep) (h0 : 0 ≤ i) (S : SkipRel ns j j' r) (hv : laV ns j = 93) (h1 : i + 1 ≤ j) (hr : r ≠ sep) (hd : d = false) (h3 : d = false → ∀ q, i + 1 ≤ q → q < j → ¬ CloseAt ns sep q) :
    RInv ns sep i d j' := by subst hd; exact r_way3 hs h0 hv h1 S hr (h3 rfl)
theorem r_way4' {ns : List Int} {sep i j : Int} {d : Bool} (hp : ∀ n ∈ ns, 0 ≤ n) (h0 : 0 ≤ i) (hv : laV ns j ≠ 93) (hv2 : laV ns j ≠ -1) (h1 : i + 1 ≤ j) (h2 : j ≤ ns.length) (hd : d = false) (h3 : d = false → ∀ q, i + 1 ≤ q → q < j → ¬ CloseAt ns sep q) :
    RInv ns sep i d (j + 1) := by subst hd; exact (r_way4 hp h0 hv hv2 h1 h2 (h3 rfl)).1
theorem r_meas1 {n j : Int} {d : Bool} (hd : d = false) : (if true = true then 0 else (n - j).toNat + 1) < (if d = true then 0 else (n - j).toNat + 1) := by subst hd; simp
theorem r_meas1' {n j j' : Int} {d : Bool} (hd : d = false) : (if true = true then 0 else (n - j').toNat + 1) < (if d = true then 0 else (n - j).toNat + 1) := by subst hd; simp
theorem r_meas2 {ns : List Int} {j j' r : Int} {d : Bool} (hd : d = false) (hv : laV ns j = 93) (S : SkipRel ns j j' r) : (if d = true then 0 else (ns.length - j').toNat + 1) < (if d = true then 0 else (ns.length - j).toNat + 1) := by
  subst hd
  have := laV_lt hv (by decide)
  obtain ⟨s1, s2, _⟩ := S
  simp only [Bool.false_eq_true, if_false]; omega
theorem r_meas3 {ns : List Int} {j : Int} {d : Bool} (hd : d = false) (hv : laV ns j ≠ -1) : (if d = true then 0 else (ns.length - (j + 1)).toNat + 1) < (if d = true then 0 else (ns.length - j).toNat + 1) := by
  subst hd
  have := laV_ne_lt hv
  simp only [Bool.false_eq_true, if_false]; omega

section
variable {w : World} {loose : List Str} {mean : ExcName → Option Value} {mg mb : Str → Option Value}
  {dp un : Nat} {gd : Option (List Code)} {cn : Str} {cs : Scope} {a : Addr} {ccd : Value} {cl : List (Str × Addr)} {outer : List Env} {A₀ : Around} {base h₀ : Heap} {L : Addr} {m : Str → Option Value} {s : Shared} {Q E : Value → Shared → Prop}
  {x dx l lx dlx : Addr} {ha hb hc : Int} {ta tb tc : Tok} {vs : List Value} {ns : List Int} {nn : Nat} {i sep : Int} {ti t1 : Tok} {rest : List (Addr × Obj)} {slf : Value}

abbrev lexL (lx dlx x : Addr) (hc : Int) (tc : Tok) (rest : List (Addr × Obj)) : List (Addr × Obj) :=
  (lx, instObj 101 dlx) :: (dlx, dictOf [⟨hc, .str (Str.ofString "_input") tc, .ref x⟩] 1) :: rest

set_option maxRecDepth 100000 in
set_option maxHeartbeats 8000000 in
theorem rls_spec
  (B : Below A₀ base outer h₀) (F : Fr h₀ L s.heap m) (X : (hd.heap_39 w.params).In h₀)
  (N : News h₀ L s.heap (strmL x dx l ha hb ta tb vs nn i ti (lexL lx dlx x hc tc rest))) (hx : @Ne Nat x dx) (hl : @Ne Nat l dx) (hlx : @Ne Nat lx dx) (hdlx : @Ne Nat dlx dx) (hr : ∀ p ∈ rest, p.1 ≠ dx)
  (T : Top hd.view_39 loose mean mg mb h₀) (hk : cs.kind = .function) (hI : IntsAre vs ns) (hlen : ns.length < 10000) (hp : ∀ n ∈ ns, 0 ≤ n) (h0 : 0 ≤ i) (h1 : i < ns.length) (hs : 2 ≤ sep)
  (hdp : dp + 3 < recursionLimit) (hun : un + 24 < cLine)
  (hret : ∀ j t h' tk', Fr h₀ L h' m → News h₀ L h' (strmL x dx l ha hb ta tb vs nn j t (lexL lx dlx x hc tc rest)) → RL ns sep (i + 1) j → j ≤ ns.length → i + 1 ≤ j → Q .none { s with heap := h', toks := tk' }) :
  wpAny (model PySem.Challenge.rw_ez0167_02.row.prog w) (ktrTop dp un gd cn cs L a ccd cl outer) (call (.ref 84) [.ref lx, .ref x, .int sep t1]) Q E s := by
  revert X; k_fill; intro X
  dsimp only [strmL, strmD, lexL] at N
  k_with_none
  refine wpAny_call ?_
  k_dflt ktr_enter
  walk_at "mine steps"
  k_with "state" => first
    | exact ⟨by omega, by omega, (fun _ q q1 q2 => absurd q2 (by omega)), (fun h => nomatch h)⟩
    | exact r_way1' hs hp (by assumption) (by assumption) (by assumption) (by assumption) (by assumption)
    | exact r_way2' hs h0 (by assumption) (by assumption) (by assumption) (by assumption) (by assumption) (by assumption)
    | exact r_way3' hs h0 (by assumption) (by assumption) (by assumption) (by assumption) (by assumption) (by assumption)
    | exact r_way4' hp h0 (by assumption) (by assumption) (by assumption) (by assumption) (by assumption) (by assumption)
    | (exfalso; omega)
  k_with "measure" => first
    | exact r_meas1' (by assumption)
    | exact r_meas2 (by assumption) (by assumption) (by assumption)
    | exact r_meas3 (by assumption) (by assumption)
    | (exfalso; omega)
  k_while (fun _ d j => RInv ns sep i d j) (fun _ d j => if d = true then 0 else (ns.length - j).toNat + 1) "done" "cs.index"
  walk_at "mine steps"
  all_goals first | contradiction | exact hret _ _ _ _ (by k_asm) (by k_asm) ((by assumption : _ = true → RL ns sep (i + 1) _) (by assumption)) (by assumption) (by assumption)
end
end Mine
namespace Mine
local macro_rules | `(tactic| k_all) => `(tactic| assumption)
local macro_rules | `(tactic| walk_at "mine lt") => `(tactic| first | omega | exact laV_lt (by assumption) (by decide) | exact laV_ne_lt (by assumption) | exact skip_lt (by assumption) (by assumption) (by assumption) (by assumption))
local macro_rules | `(tactic| walk_at "mine while?") => `(tactic| with_reducible show wpAny _ _ (exec (Stmt.While _ _ _ _) _) _ _ _)
local macro_rules | `(tactic| walk_at "mine steps") => `(tactic| repeat' ((fail_if_success (walk_at "mine while?")); (first | (k_unfold; (try dsimp only)) | (k_end; wrow_close) | walk1 | (dsimp only; walk1) | (leave1; walk_say "STEP leave1"; try dsimp only) | fail "no step")))
local macro_rules | `(tactic| walk_at "call ref") => `(tactic| (k_here; (with_reducible show wpAny _ _ (call (Value.ref 42) _) _ _ _); k_dflt (refine' LA_spec ?k1 ?k2 ?k3 ?k4 ?k5 ?k6 ?k7 ?k8 ?k9 ?k10 ?k11 ?k12 ?_; (case k1 => k_asm); (case k2 => k_asm); (case k3 => k_asm); (case k4 => k_asm); (case k5 => k_asm); (case k6 => first | assumption | exact rfl); (case k7 => assumption); (case k8 => omega); (case k9 => omega); (case k10 => omega); (case k11 => ktr_room); (case k12 => ktr_units); k_whole; intro t9 h9 tk9 F9 N9; dsimp only [strmL, strmD] at N9; (try dsimp only); (try k_sweep))))
local macro_rules | `(tactic| walk_at "call ref") => `(tactic| (k_here; (with_reducible show wpAny _ _ (call (Value.ref 49) _) _ _ _); k_dflt (refine' consume_spec ?k1 ?k2 ?k3 ?k4 ?kx ?kl ?kr ?k5 ?k6 ?k7 ?k8 ?k9 ?k10 ?k11 ?k12 ?_; (case k1 => k_asm); (case k2 => k_asm); (case k3 => k_asm); (case k4 => k_asm); (case kx => first | assumption | omega); (case kl => first | assumption | omega); (case kr => k_all); (case k5 => k_asm); (case k6 => first | assumption | exact rfl); (case k7 => assumption); (case k8 => omega); (case k9 => walk_at "mine lt"); (case k10 => walk_at "mine lt"); (case k11 => ktr_room); (case k12 => ktr_units); k_whole; intro t9 h9 tk9 F9 N9; dsimp only [strmL, strmD] at N9; (try dsimp only); (try k_sweep))))
local macro_rules | `(tactic| walk_at "call ref") => `(tactic| (k_here; (with_reducible show wpAny _ _ (call (Value.ref 91) _) _ _ _); k_dflt (refine' skip_spec ?k1 ?k2 ?k3 ?k4 ?kx ?kl ?kr ?k5 ?k6 ?k7 ?k8 ?k9 ?k10 ?k11 ?k12 ?_; (case k1 => k_asm); (case k2 => k_asm); (case k3 => k_asm); (case k4 => k_asm); (case kx => first | assumption | omega); (case kl => first | assumption | omega); (case kr => k_all); (case k5 => k_asm); (case k6 => first | assumption | exact rfl); (case k7 => assumption); (case k8 => omega); (case k9 => walk_at "mine lt"); (case k10 => walk_at "mine lt"); (case k11 => ktr_room); (case k12 => ktr_units); k_whole; intro j9 r9 t9 u9 h9 tk9 F9 N9 S9; have S9a := S9.1; have S9b := S9.2.1; dsimp only [strmL, strmD] at N9; (try dsimp only); (try k_sweep))))

local macro_rules | `(tactic| walk_at "call ref") => `(tactic| (k_here; (with_reducible show wpAny _ _ (call (Value.ref 84) _) _ _ _); k_dflt (refine' rls_spec ?k1 ?k2 ?k3 ?k4 ?kx ?kl ?km ?kn ?kr ?k5 ?k6 ?k7 ?k8 ?kp ?k9 ?k10 ?ks ?k11 ?k12 ?_; (case k1 => k_asm); (case k2 => k_asm); (case k3 => k_asm); (case k4 => k_asm); (case kx => first | assumption | omega); (case kl => first | assumption | omega); (case km => first | assumption | omega); (case kn => first | assumption | omega); (case kr => k_all); (case k5 => k_asm); (case k6 => first | assumption | exact rfl); (case k7 => assumption); (case k8 => omega); (case kp => assumption); (case k9 => walk_at "mine lt"); (case k10 => walk_at "mine lt"); (case ks => omega); (case k11 => ktr_room); (case k12 => ktr_units); k_whole; intro j9 t9 h9 tk9 F9 N9 S9 S9a S9b; dsimp only [strmL, strmD, lexL] at N9; (try dsimp only); (try k_sweep))))

def Run (ns : List Int) (i j : Int) : Prop := i < j ∧ j ≤ ns.length ∧ (∀ k, i < k → k < j → ns.getD k.toNat 0 = 61) ∧ laV ns j ≠ 61
def NL (ns : List Int) (i e : Int) : Prop := i ≤ e ∧ e ≤ ns.length ∧ (∀ k, i ≤ k → k < e → ns.getD k.toNat 0 ≠ 10) ∧ (laV ns e = 10 ∨ e = ns.length)
def HRel (ns : List Int) (i e : Int) : Prop :=
  (∃ j, Run ns i j ∧ laV ns i = 91 ∧ laV ns j = 91 ∧ RL ns (j - i + 1) (j + 1) e) ∨ ((laV ns i ≠ 91 ∨ ∃ j, Run ns i j ∧ laV ns j ≠ 91) ∧ NL ns i e)
/-- what the last loop of HandleComment holds -/
abbrev HInv (ns : List Int) (i j : Int) : Prop := i ≤ j ∧ j ≤ ns.length ∧ (laV ns i ≠ 91 ∨ ∃ j, Run ns i j ∧ laV ns j ≠ 91) ∧ (∀ k, i ≤ k → k < j → ns.getD k.toNat 0 ≠ 10)
theorem skip_run {ns : List Int} {i j r : Int} (S : SkipRel ns i j r) : Run ns i j := ⟨S.1, S.2.1, S.2.2.1, S.2.2.2.1⟩
theorem skip_ge {ns : List Int} {i j r : Int} (S : SkipRel ns i j r) (h : 2 ≤ r) : laV ns j = laV ns i ∧ r = j - i + 1 := by
  obtain ⟨s1, s2, s3, s4, s5⟩ := S
  split at s5
  · rename_i he; exact ⟨he, s5⟩
  · split at s5 <;> omega
theorem skip_lt2 {ns : List Int} {i j r : Int} (S : SkipRel ns i j r) (hv : laV ns i = 91) (h : 2 ≤ r) : j < ns.length := laV_lt ((skip_ge S h).1.trans hv) (by decide)
theorem h_start1 {ns : List Int} {i : Int} (h : i ≤ ns.length) (hv : laV ns i ≠ 91) : HInv ns i i := ⟨Int.le_refl _, h, .inl hv, fun k k1 k2 => absurd k2 (by omega)⟩
theorem h_start2 {ns : List Int} {i j r : Int} (S : SkipRel ns i j r) (hv : laV ns i = 91) (hr : ¬ 2 ≤ r) : HInv ns i j := by
  obtain ⟨s1, s2, s3, s4, s5⟩ := S
  have hne : laV ns j ≠ laV ns i := by intro e; rw [if_pos e] at s5; omega
  refine ⟨by omega, s2, .inr ⟨j, ⟨s1, s2, s3, s4⟩, by rw [← hv]; exact hne⟩, fun k k1 k2 => ?_⟩
  by_cases e : k = i
  · subst e
    have := laV_lt hv (by decide)
    rw [laV_in this] at hv; omega
  · have := s3 k (by omega) k2; omega
theorem h_step {ns : List Int} {i j : Int} (hv : laV ns j ≠ 10) (hv2 : laV ns j ≠ -1) (h1 : i ≤ j) (h2 : j ≤ ns.length) (h3 : laV ns i ≠ 91 ∨ ∃ j, Run ns i j ∧ laV ns j ≠ 91) (h4 : ∀ k, i ≤ k → k < j → ns.getD k.toNat 0 ≠ 10) : HInv ns i (j + 1) := by
  have hj := laV_ne_lt hv2
  refine ⟨by omega, by omega, h3, fun k k1 k2 => ?_⟩
  by_cases h : k < j
  · exact h4 k k1 h
  · have e : k = j := by omega
    subst e; rw [← laV_in hj]; exact hv
theorem h_end1 {ns : List Int} {i j : Int} (hv : laV ns j = 10) (h1 : i ≤ j) (h2 : j ≤ ns.length) (h3 : laV ns i ≠ 91 ∨ ∃ j, Run ns i j ∧ laV ns j ≠ 91) (h4 : ∀ k, i ≤ k → k < j → ns.getD k.toNat 0 ≠ 10) : HRel ns i j :=
  .inr ⟨h3, h1, h2, h4, .inl hv⟩
theorem h_end2 {ns : List Int} {i j : Int} (hp : ∀ n ∈ ns, 0 ≤ n) (hv : laV ns j = -1) (h1 : i ≤ j) (h2 : j ≤ ns.length) (h3 : laV ns i ≠ 91 ∨ ∃ j, Run ns i j ∧ laV ns j ≠ 91) (h4 : ∀ k, i ≤ k → k < j → ns.getD k.toNat 0 ≠ 10) : HRel ns i j :=
  .inr ⟨h3, h1, h2, h4, .inr (by have := laV_end hp hv; omega)⟩
theorem h_end3 {ns : List Int} {i j r e : Int} (S : SkipRel ns i j r) (hv : laV ns i = 91) (hr : 2 ≤ r) (R : RL ns r (j + 1) e) : HRel ns i e := by
  obtain ⟨h1, h2⟩ := skip_ge S hr
  subst h2
  exact .inl ⟨j, skip_run S, hv, h1.trans hv, R⟩
local macro_rules | `(tactic| walk_at "mine lt") => `(tactic| first | omega | exact laV_lt (by assumption) (by decide) | exact laV_ne_lt (by assumption) | exact skip_lt2 (by assumption) (by assumption) (by assumption))
section
variable {w : World} {loose : List Str} {mean : ExcName → Option Value} {mg mb : Str → Option Value}
  {dp un : Nat} {gd : Option (List Code)} {cn : Str} {cs : Scope} {a : Addr} {ccd : Value} {cl : List (Str × Addr)} {outer : List Env} {A₀ : Around} {base h₀ : Heap} {L : Addr} {m : Str → Option Value} {s : Shared} {Q E : Value → Shared → Prop}
  {x dx l lx dlx : Addr} {ha hb hc : Int} {ta tb tc : Tok} {vs : List Value} {ns : List Int} {nn : Nat} {i sep : Int} {ti t1 : Tok} {rest : List (Addr × Obj)} {slf : Value}

set_option maxRecDepth 100000 in
set_option maxHeartbeats 8000000 in
theorem hc_spec
  (B : Below A₀ base outer h₀) (F : Fr h₀ L s.heap m) (X : (hd.heap_39 w.params).In h₀)
  (N : News h₀ L s.heap (strmL x dx l ha hb ta tb vs nn i ti (lexL lx dlx x hc tc rest))) (hx : @Ne Nat x dx) (hl : @Ne Nat l dx) (hlx : @Ne Nat lx dx) (hdlx : @Ne Nat dlx dx) (hr : ∀ p ∈ rest, p.1 ≠ dx)
  (T : Top hd.view_39 loose mean mg mb h₀) (hk : cs.kind = .function) (hI : IntsAre vs ns) (hlen : ns.length < 9000) (hp : ∀ n ∈ ns, 0 ≤ n) (h0 : 0 ≤ i) (h1 : i ≤ ns.length)
  (hdp : dp + 4 < recursionLimit) (hun : un + 32 < cLine)
  (hret : ∀ j t h' tk', Fr h₀ L h' m → News h₀ L h' (strmL x dx l ha hb ta tb vs nn j t (lexL lx dlx x hc tc rest)) → HRel ns i j → Q .none { s with heap := h', toks := tk' }) :
  wpAny (model PySem.Challenge.rw_ez0167_02.row.prog w) (ktrTop dp un gd cn cs L a ccd cl outer) (call (.ref 77) [.ref lx]) Q E s := by
  revert X; k_fill; intro X
  dsimp only [strmL, strmD, lexL] at N
  k_with_none
  refine wpAny_call ?_
  k_dflt ktr_enter
  walk_at "mine steps"
  k_with "state" => first
    | exact h_start1 (by assumption) (by assumption)
    | exact h_start2 (by assumption) (by assumption) (by assumption)
    | exact h_step (by assumption) (by assumption) (by assumption) (by assumption) (by assumption) (by assumption)
  k_with "measure" => (have hm9 := laV_ne_lt (by assumption); omega)
  all_goals (try (k_while (fun _ j => HInv ns i j) (fun _ j => (ns.length - j).toNat) "cs.index"))
  all_goals (walk_at "mine steps")
  all_goals exact hret _ _ _ _ (by k_asm) (by k_asm) (by first
    | exact h_end3 (by assumption) (by assumption) (by assumption) (by assumption)
    | exact h_end1 (by assumption) (by assumption) (by assumption) (by assumption) (by assumption)
    | exact h_end2 hp (by assumption) (by assumption) (by assumption) (by assumption) (by assumption))
end
end Mine
namespace Mine
open PySem.Builtin PySem.Builtin.Str
def codes (x : Str) : List Int := x.cps.toList.map (fun n : Nat => (n : Int))
theorem codes_len (x : Str) : (codes x).length = x.length := by simp [codes, Str.length]
theorem codes_getD (x : Str) (k : Nat) : (codes x).getD k 0 = ((x.cps.toList.getD k 0 : Nat) : Int) := by
  simp only [codes, List.getD_eq_getElem?_getD, List.getElem?_map]
  cases x.cps.toList[k]? <;> rfl
theorem codes_pos (x : Str) : ∀ n ∈ codes x, 0 ≤ n := by
  intro n h
  obtain ⟨a, _, rfl⟩ := List.mem_map.mp h
  omega
theorem idx_beyond (len : Nat) {i j : Int} (h : (len : Int) ≤ i) (h2 : (len : Int) ≤ j) : strSliceIndices (some i) (some j) 1 len = strSliceIndices (some (len : Int)) (some (len : Int)) 1 len := by
  have a1 : ¬ i < 0 := by omega
  have a2 : ¬ ((len : Int) < 0) := by omega
  have a3 : ¬ j < 0 := by omega
  have e1 : max (0 : Int) (min i (len : Int)) = len := by omega
  have e2 : max (0 : Int) (min (len : Int) (len : Int)) = len := by omega
  have e3 : max (0 : Int) (min j (len : Int)) = len := by omega
  simp [strSliceIndices, a1, a2, a3, e1, e2, e3]
theorem slice_ss {x : Str} {i j : Int} (h0 : 0 ≤ i) (h1 : i ≤ j) (h2 : j ≤ x.length) : Txt.slice x (some i) (some j) = ⟨((x.cps.toList.drop i.toNat).take (j - i).toNat).toArray⟩ := by
  have := slice_closesL (x := x) h0 h1 h2
  exact eq_of_beq this
theorem slice_far {x : Str} {i j : Int} (h : (x.length : Int) ≤ i) (h2 : (x.length : Int) ≤ j) : Txt.slice x (some i) (some j) = ⟨#[]⟩ := by
  have e : Txt.slice x (some i) (some j) = Txt.slice x (some (x.length : Int)) (some (x.length : Int)) := by
    show StrLaws.sliceText x (some i) (some j) = StrLaws.sliceText x _ _
    unfold StrLaws.sliceText
    rw [idx_beyond x.length h h2]
  rw [e, slice_ss (by omega) (Int.le_refl _) (Int.le_refl _)]
  simp
theorem str_len_list (x : Str) : x.cps.toList.length = x.length := by simp [Str.length]
/-- the sign at a place, as the text's one-sign slice and as the stream's number -/
theorem slice_sign {x : Str} {j : Int} {c : Nat} (h0 : 0 ≤ j) : (Txt.slice x (some j) (some (j + 1)) == (⟨#[c]⟩ : Str)) = true ↔ laV (codes x) j = (c : Int) := by
  by_cases h : j < x.length
  · have hl := str_len_list x
    have hj : j.toNat < x.cps.toList.length := by omega
    rw [slice_ss h0 (by omega) (by omega), laV_in (by rw [codes_len]; exact h), codes_getD]
    have e1 : (j + 1 - j).toNat = 1 := by omega
    have e2 : (x.cps.toList.drop j.toNat).take 1 = [x.cps.toList.getD j.toNat 0] := by
      rw [List.take_one, List.head?_drop, List.getD_eq_getElem?_getD, List.getElem?_eq_getElem hj]
      rfl
    rw [e1, e2, beq_iff_eq]
    constructor
    · intro h
      injection h with h
      have h' : [x.cps.toList.getD j.toNat 0] = [c] := congrArg Array.toList h
      injection h' with h' _
      rw [h']
    · intro h
      have : x.cps.toList.getD j.toNat 0 = c := by omega
      rw [this]
  · rw [slice_far (by omega) (by omega)]
    have e : laV (codes x) j = -1 := by unfold laV; rw [if_pos (by rw [codes_len]; omega)]
    rw [e]
    constructor
    · intro h
      rw [beq_iff_eq] at h
      injection h with h
      have := congrArg Array.size h
      simp at this
    · intro h; omega
theorem sign_eq : (Str.ofString "=") = ⟨#[61]⟩ := by decide +kernel
theorem sign_open : (Str.ofString "[") = ⟨#[91]⟩ := by decide +kernel
theorem sign_close : (Str.ofString "]") = ⟨#[93]⟩ := by decide +kernel
theorem sign_nl : (Str.ofString "\n") = ⟨#[10]⟩ := by decide +kernel
theorem sign_dash : (Str.ofString "--") = ⟨#[45, 45]⟩ := by decide +kernel
theorem take_drop_getD (l : List Nat) : ∀ (n a k : Nat), k < n → a + n ≤ l.length → ((l.drop a).take n).getD k 0 = l.getD (a + k) 0 := by
  intro n a k hk hn
  simp only [List.getD_eq_getElem?_getD]
  rw [List.getElem?_take_of_lt hk, List.getElem?_drop]
/-- where a sub-text stands: sign by sign -/
theorem at_iff {x y : Str} {i : Nat} : StrLaws.At x y x.length i ↔ i + y.length ≤ x.length ∧ ∀ k, k < y.length → x.cps.toList.getD (i + k) 0 = y.cps.toList.getD k 0 := by
  unfold StrLaws.At
  rw [StrLaws.subAt_eq, beq_iff_eq]
  have hl := str_len_list x
  have hy := str_len_list y
  constructor
  · rintro ⟨h1, h2⟩
    refine ⟨h1, fun k hk => ?_⟩
    rw [← h2, take_drop_getD _ _ _ _ hk (by omega)]
  · rintro ⟨h1, h2⟩
    refine ⟨h1, ?_⟩
    apply List.ext_getElem?
    intro k
    by_cases hk : k < y.length
    · have a1 : k < ((x.cps.toList.drop i).take y.length).length := by rw [List.length_take, List.length_drop]; omega
      have a2 : k < y.cps.toList.length := by omega
      have := h2 k hk
      rw [← take_drop_getD _ _ _ _ hk (by omega)] at this
      simp only [List.getD_eq_getElem?_getD] at this
      rw [List.getElem?_eq_getElem a1, List.getElem?_eq_getElem a2] at this ⊢
      simpa using this
    · rw [List.getElem?_eq_none (by rw [List.length_take, List.length_drop]; omega), List.getElem?_eq_none (by omega)]
theorem find3_cases (x y : Str) {i : Int} (h0 : 0 ≤ i) :
    (Txt.find3 x y i < 0 ∧ ∀ k : Nat, i ≤ k → ¬ StrLaws.At x y x.length k) ∨
    (∃ k : Nat, Txt.find3 x y i = (k : Int) ∧ i ≤ k ∧ StrLaws.At x y x.length k ∧ ∀ v : Nat, i ≤ v → v < k → ¬ StrLaws.At x y x.length v) := by
  have hf : fromIndex x.length i = i.toNat := by
    unfold fromIndex
    rw [if_neg (by omega)]
    congr 1; omega
  unfold Txt.find3
  rcases StrLaws.occ_head_from x y (fromIndex x.length i) 1 (Nat.le_refl 1) with ⟨h, hn⟩ | ⟨k, r, h, hlo, hk, hn⟩
  · rw [h]
    exact .inl ⟨by decide, fun k hk => hn k (by omega)⟩
  · rw [h]
    exact .inr ⟨k, rfl, by omega, hk, fun v hv hv2 => hn v (by omega) hv2⟩
end Mine
namespace Mine
open PySem.Builtin PySem.Builtin.Str
/-- what the scan over the equals signs of the law's own reading holds -/
abbrev EInv (text : Str) (i j : Int) : Prop := i + 1 ≤ j ∧ (j ≤ text.length ∨ j = i + 1) ∧ (∀ k, i < k → k < j → (codes text).getD k.toNat 0 = 61)
theorem e_start {text : Str} {i : Int} : EInv text i (i + 1) := ⟨Int.le_refl _, .inr rfl, fun k k1 k2 => absurd k2 (by omega)⟩
theorem e_step {text : Str} {i j : Int} (h0 : 0 ≤ i) (hv : (Txt.slice text (some j) (some (j + 1)) == Str.ofString "=") = true) (h1 : i + 1 ≤ j) (h3 : ∀ k, i < k → k < j → (codes text).getD k.toNat 0 = 61) : EInv text i (j + 1) := by
  rw [sign_eq] at hv
  have hv := (slice_sign (by omega)).mp hv
  have hj := laV_lt hv (by decide)
  have hc := codes_len text
  refine ⟨by omega, .inl (by omega), fun k k1 k2 => ?_⟩
  by_cases h : k < j
  · exact h3 k k1 h
  · have e : k = j := by omega
    subst e; rw [← laV_in hj]; exact hv
theorem e_meas {text : Str} {i j : Int} (h0 : 0 ≤ i) (hv : (Txt.slice text (some j) (some (j + 1)) == Str.ofString "=") = true) (h1 : i + 1 ≤ j) : (text.length + 1 - (j + 1)).toNat < ((text.length : Int) + 1 - j).toNat := by
  rw [sign_eq] at hv
  have hv := (slice_sign (by omega)).mp hv
  have hj := laV_lt hv (by decide)
  have hc := codes_len text
  omega
theorem e_run {text : Str} {i j : Int} (h0 : 0 ≤ i) (hv : laV (codes text) i = 91) (hn : (Txt.slice text (some j) (some (j + 1)) == Str.ofString "=") = false) (h1 : i + 1 ≤ j) (h2 : j ≤ text.length ∨ j = i + 1) (h3 : ∀ k, i < k → k < j → (codes text).getD k.toNat 0 = 61) :
    Run (codes text) i j := by
  have hi := laV_lt hv (by decide)
  refine ⟨by omega, by rw [codes_len] at hi ⊢; omega, h3, fun h => ?_⟩
  rw [sign_eq] at hn
  rw [(slice_sign (c := 61) (by omega)).mpr h] at hn
  cases hn
theorem e_no {text : Str} {j : Int} {c : Nat} (h0 : 0 ≤ j) (h : (Txt.slice text (some j) (some (j + 1)) == (⟨#[c]⟩ : Str)) = false) : laV (codes text) j ≠ c := by
  intro e
  rw [(slice_sign h0).mpr e] at h
  cases h
theorem close_len {text : Str} {i j : Int} (h0 : 0 ≤ i) (R : Run (codes text) i j) : ((Txt.slice text (some (i + 1)) (some j)).length : Int) = j - i - 1 := by
  obtain ⟨r1, r2, _⟩ := R
  rw [codes_len] at r2
  have := fact_slice_ss text (i + 1) j (by omega) (by omega) r2
  omega
theorem close_list {text : Str} {i j : Int} (h0 : 0 ≤ i) (R : Run (codes text) i j) :
    (Str.ofString "]" ++ Txt.slice text (some (i + 1)) (some j) ++ Str.ofString "]").cps.toList = 93 :: (List.replicate (j - i - 1).toNat 61 ++ [93]) := by
  obtain ⟨r1, r2, r3, _⟩ := R
  rw [codes_len] at r2
  have hl := str_len_list text
  rw [sign_close, slice_ss (by omega) (by omega) r2]
  simp only [Str.cps_append, Array.toList_append]
  have e : (text.cps.toList.drop (i + 1).toNat).take (j - (i + 1)).toNat = List.replicate (j - i - 1).toNat 61 := by
    rw [List.eq_replicate_iff]
    refine ⟨by rw [List.length_take, List.length_drop]; omega, fun b hb => ?_⟩
    obtain ⟨k, hk⟩ := List.getElem?_of_mem hb
    have hlt : k < (j - (i + 1)).toNat := by
      have := (List.getElem?_eq_some_iff.mp hk).1
      rw [List.length_take] at this; omega
    have := r3 (i + 1 + k) (by omega) (by omega)
    rw [codes_getD, show (i + 1 + (k : Int)).toNat = (i + 1).toNat + k by omega, ← take_drop_getD _ (j - (i + 1)).toNat _ _ hlt (by omega), List.getD_eq_getElem?_getD, hk] at this
    simp at this
    omega
  rw [e]
  rfl
theorem close_at {text : Str} {i j : Int} (h0 : 0 ≤ i) (R : Run (codes text) i j) (q : Nat) :
    StrLaws.At text (Str.ofString "]" ++ Txt.slice text (some (i + 1)) (some j) ++ Str.ofString "]") text.length q ↔ CloseAt (codes text) (j - i + 1) q := by
  have hc := close_list h0 R
  rw [at_iff]
  generalize (Str.ofString "]" ++ Txt.slice text (some (i + 1)) (some j) ++ Str.ofString "]") = y at hc
  have hy : y.length = (j - i - 1).toNat + 2 := by rw [← str_len_list y, hc]; simp
  have r1 := R.1
  have hg : ∀ k, k < y.length → y.cps.toList.getD k 0 = if k = 0 ∨ k + 1 = y.length then 93 else 61 := by
    intro k hk
    rw [hc, hy]
    rw [hy] at hk
    cases k with
    | zero => simp
    | succ k =>
      rw [List.getD_cons_succ]
      simp only [List.getD_eq_getElem?_getD]
      by_cases h : k < (j - i - 1).toNat
      · rw [List.getElem?_append_left (by rw [List.length_replicate]; exact h), List.getElem?_replicate_of_lt h, if_neg (by omega)]; rfl
      · have e : k = (j - i - 1).toNat := by omega
        rw [List.getElem?_append_right (by rw [List.length_replicate]; omega), List.length_replicate, e, if_pos (by omega)]
        simp
  unfold CloseAt
  constructor
  · rintro ⟨h1, h2⟩
    have hh : ∀ k, k < y.length → (codes text).getD (q + k) 0 = if k = 0 ∨ k + 1 = y.length then 93 else 61 := by
      intro k hk
      rw [codes_getD, h2 k hk, hg k hk]; split <;> rfl
    refine ⟨by omega, by rw [codes_len]; omega, ?_, fun k k1 k2 => ?_, ?_⟩
    · have := hh 0 (by omega)
      simpa using this
    · have := hh (k.toNat - q) (by omega)
      rw [if_neg (by omega), show q + (k.toNat - q) = k.toNat by omega] at this
      exact this
    · have := hh (y.length - 1) (by omega)
      rw [if_pos (by omega), show q + (y.length - 1) = ((q : Int) + (j - i + 1) - 1).toNat by omega] at this
      exact this
  · rintro ⟨_, h1, h2, h3, h4⟩
    rw [codes_len] at h1
    refine ⟨by omega, fun k hk => ?_⟩
    rw [hg k hk]
    have key : ((text.cps.toList.getD (q + k) 0 : Nat) : Int) = if k = 0 ∨ k + 1 = y.length then 93 else 61 := by
      rw [← codes_getD]
      by_cases e0 : k = 0
      · subst e0; rw [if_pos (.inl rfl)]; simpa using h2
      · by_cases e1 : k + 1 = y.length
        · rw [if_pos (.inr e1), show q + k = ((q : Int) + (j - i + 1) - 1).toNat by omega]; exact h4
        · rw [if_neg (by omega)]
          have := h3 (q + k) (by omega) (by omega)
          rw [show ((q : Int) + (k : Int)).toNat = q + k by omega] at this
          exact this
    split at key <;> simp_all <;> omega
theorem nl_at {text : Str} {q : Nat} : StrLaws.At text (Str.ofString "\n") text.length q ↔ laV (codes text) q = 10 := by
  rw [at_iff, sign_nl]
  have hl : (⟨#[10]⟩ : Str).length = 1 := rfl
  rw [hl]
  constructor
  · rintro ⟨h1, h2⟩
    have := h2 0 (by omega)
    rw [laV_in (by rw [codes_len]; omega), codes_getD]
    simp at this ⊢; omega
  · intro h
    have hq := laV_lt h (by decide)
    rw [laV_in hq, codes_getD] at h
    rw [codes_len] at hq
    refine ⟨by omega, fun k hk => ?_⟩
    have : k = 0 := by omega
    subst this
    simp at h ⊢; omega
theorem e_nl_none {text : Str} {i : Int} (h0 : 0 ≤ i) (h1 : i ≤ text.length) (h : Txt.find3 text (Str.ofString "\n") i < 0) : NL (codes text) i text.length := by
  rcases find3_cases text (Str.ofString "\n") h0 with ⟨_, hn⟩ | ⟨k, e, _⟩
  · refine ⟨h1, by rw [codes_len]; exact Int.le_refl _, fun k k1 k2 hk => ?_, .inr (by rw [codes_len])⟩
    refine hn k.toNat (by omega) (nl_at.mpr ?_)
    rw [show ((k.toNat : Nat) : Int) = k by omega, laV_in (by rw [codes_len]; exact k2)]
    exact hk
  · omega
theorem e_nl_some {text : Str} {i : Int} (h0 : 0 ≤ i) (h : ¬ Txt.find3 text (Str.ofString "\n") i < 0) : NL (codes text) i (Txt.find3 text (Str.ofString "\n") i) := by
  rcases find3_cases text (Str.ofString "\n") h0 with ⟨h', _⟩ | ⟨q, e, hq, hat, hn⟩
  · exact absurd h' h
  · rw [e]
    have hv := nl_at.mp hat
    have hlt := laV_lt hv (by decide)
    refine ⟨hq, by omega, fun k k1 k2 hk => ?_, .inl hv⟩
    refine hn k.toNat (by omega) (by omega) (nl_at.mpr ?_)
    rw [show ((k.toNat : Nat) : Int) = k by omega, laV_in (by omega)]
    exact hk
theorem e_rl_none {text : Str} {i j : Int} (h0 : 0 ≤ i) (R : Run (codes text) i j)
    (h : Txt.find3 text (Str.ofString "]" ++ Txt.slice text (some (i + 1)) (some j) ++ Str.ofString "]") (j + 1) < 0) : RL (codes text) (j - i + 1) (j + 1) text.length := by
  have r1 := R.1
  rcases find3_cases text (Str.ofString "]" ++ Txt.slice text (some (i + 1)) (some j) ++ Str.ofString "]") (i := j + 1) (by omega) with ⟨_, hn⟩ | ⟨k, e, _⟩
  · refine .inr ⟨by rw [codes_len], fun q hq c => ?_⟩
    refine hn q.toNat (by omega) ((close_at h0 R _).mpr ?_)
    rw [show ((q.toNat : Nat) : Int) = q by omega]; exact c
  · omega
theorem e_rl_some {text : Str} {i j e : Int} (h0 : 0 ≤ i) (R : Run (codes text) i j)
    (h : ¬ Txt.find3 text (Str.ofString "]" ++ Txt.slice text (some (i + 1)) (some j) ++ Str.ofString "]") (j + 1) < 0)
    (he : e = Txt.find3 text (Str.ofString "]" ++ Txt.slice text (some (i + 1)) (some j) ++ Str.ofString "]") (j + 1) + ((Str.ofString "]").length + (Txt.slice text (some (i + 1)) (some j)).length + (Str.ofString "]").length : Nat)) : RL (codes text) (j - i + 1) (j + 1) e := by
  have r1 := R.1
  rcases find3_cases text (Str.ofString "]" ++ Txt.slice text (some (i + 1)) (some j) ++ Str.ofString "]") (i := j + 1) (by omega) with ⟨h', _⟩ | ⟨q, e', hq, hat, hn⟩
  · exact absurd h' h
  · have hc := (close_at h0 R _).mp hat
    refine .inl ⟨q, hq, hc, ?_, fun q' h1 h2 c => ?_⟩
    · have hl := close_len h0 R
      have h1 : (Str.ofString "]").length = 1 := by rw [sign_close]; rfl
      rw [he, e', h1]
      omega
    · refine hn q'.toNat (by omega) (by omega) ((close_at h0 R _).mpr ?_)
      rw [show ((q'.toNat : Nat) : Int) = q' by omega]; exact c

theorem run_uniq {ns : List Int} {i j j' : Int} (h0 : 0 ≤ i) (a : Run ns i j) (b : Run ns i j') : j = j' := by
  obtain ⟨a1, a2, a3, a4⟩ := a
  obtain ⟨b1, b2, b3, b4⟩ := b
  rcases Int.lt_trichotomy j j' with h | h | h
  · exact absurd (by rw [laV_in (by omega)]; exact b3 j a1 h) a4
  · exact h
  · exact absurd (by rw [laV_in (by omega)]; exact a3 j' b1 h) b4
theorem nl_uniq {ns : List Int} {i e e' : Int} (h0 : 0 ≤ i) (a : NL ns i e) (b : NL ns i e') : e = e' := by
  have key : ∀ {e e' : Int}, NL ns i e → NL ns i e' → e < e' → False := by
    intro e e' a b h
    obtain ⟨a1, a2, a3, a4⟩ := a
    obtain ⟨b1, b2, b3, b4⟩ := b
    rcases a4 with a4 | a4
    · rw [laV_in (by omega)] at a4
      exact b3 e a1 h a4
    · omega
  rcases Int.lt_trichotomy e e' with h | h | h
  · exact (key a b h).elim
  · exact h
  · exact (key b a h).elim
theorem rl_uniq {ns : List Int} {sep i e e' : Int} (a : RL ns sep i e) (b : RL ns sep i e') : e = e' := by
  rcases a with ⟨q, q1, q2, q3, q4⟩ | ⟨e1, e2⟩ <;> rcases b with ⟨p, p1, p2, p3, p4⟩ | ⟨f1, f2⟩
  · have : q = p := by
      rcases Int.lt_trichotomy q p with h | h | h
      · exact absurd q2 (p4 q q1 h)
      · exact h
      · exact absurd p2 (q4 p p1 h)
    omega
  · exact absurd q2 (f2 q q1)
  · exact absurd p2 (e2 p p1)
  · omega
theorem hrel_uniq {ns : List Int} {i e e' : Int} (h0 : 0 ≤ i) (a : HRel ns i e) (b : HRel ns i e') : e = e' := by
  rcases a with ⟨j, r, h1, h2, h3⟩ | ⟨h1, h2⟩ <;> rcases b with ⟨k, t, g1, g2, g3⟩ | ⟨g1, g2⟩
  · have := run_uniq h0 r t
    subst this
    exact rl_uniq h3 g3
  · rcases g1 with g1 | ⟨k, t, g⟩
    · exact absurd h1 g1
    · have := run_uniq h0 r t
      subst this
      exact absurd h2 g
  · rcases h1 with h1 | ⟨j, r, h⟩
    · exact absurd g1 h1
    · have := run_uniq h0 r t
      subst this
      exact absurd g2 h
  · exact nl_uniq h0 h2 g2
theorem hrel_le {ns : List Int} {i e : Int} (a : HRel ns i e) : i ≤ e ∧ e ≤ ns.length := by
  rcases a with ⟨j, r, h1, h2, h3⟩ | ⟨h1, h2⟩
  · rcases h3 with ⟨q, q1, q2, q3, q4⟩ | ⟨e1, e2⟩
    · have := r.1
      have := q2.2.1
      omega
    · have := r.1; have := r.2.1; omega
  · exact ⟨h2.1, h2.2.1⟩
section
variable {text : Str} {i j : Int}
theorem end1 (h0 : 0 ≤ i) (hs : (Txt.slice text (some j) (some (j + 1)) == Str.ofString "=") = false) (ho : (Txt.slice text (some i) (some (i + 1)) == Str.ofString "[") = true) (hp : (Txt.slice text (some j) (some (j + 1)) == Str.ofString "[") = true)
    (h1 : i + 1 ≤ j) (h2 : j ≤ text.length ∨ j = i + 1) (h3 : ∀ k, i < k → k < j → (codes text).getD k.toNat 0 = 61) (hf : Txt.find3 text (Str.ofString "]" ++ Txt.slice text (some (i + 1)) (some j) ++ Str.ofString "]") (j + 1) < 0) : HRel (codes text) i text.length := by
  rw [sign_open] at ho hp
  have hv := (slice_sign h0).mp ho
  have R := e_run h0 hv hs h1 h2 h3
  exact .inl ⟨j, R, hv, (slice_sign (by omega)).mp hp, e_rl_none h0 R hf⟩
theorem end2 (h0 : 0 ≤ i) (hs : (Txt.slice text (some j) (some (j + 1)) == Str.ofString "=") = false) (ho : (Txt.slice text (some i) (some (i + 1)) == Str.ofString "[") = true) (hp : (Txt.slice text (some j) (some (j + 1)) == Str.ofString "[") = true)
    (h1 : i + 1 ≤ j) (h2 : j ≤ text.length ∨ j = i + 1) (h3 : ∀ k, i < k → k < j → (codes text).getD k.toNat 0 = 61) (hf : ¬ Txt.find3 text (Str.ofString "]" ++ Txt.slice text (some (i + 1)) (some j) ++ Str.ofString "]") (j + 1) < 0) :
    HRel (codes text) i (Txt.find3 text (Str.ofString "]" ++ Txt.slice text (some (i + 1)) (some j) ++ Str.ofString "]") (j + 1) + ((Str.ofString "]").length + (Txt.slice text (some (i + 1)) (some j)).length + (Str.ofString "]").length : Nat)) := by
  rw [sign_open] at ho hp
  have hv := (slice_sign h0).mp ho
  have R := e_run h0 hv hs h1 h2 h3
  exact .inl ⟨j, R, hv, (slice_sign (by omega)).mp hp, e_rl_some h0 R hf rfl⟩
theorem end3 (h0 : 0 ≤ i) (hi : i ≤ text.length) (hs : (Txt.slice text (some j) (some (j + 1)) == Str.ofString "=") = false) (ho : (Txt.slice text (some i) (some (i + 1)) == Str.ofString "[") = true) (hp : (Txt.slice text (some j) (some (j + 1)) == Str.ofString "[") = false)
    (h1 : i + 1 ≤ j) (h2 : j ≤ text.length ∨ j = i + 1) (h3 : ∀ k, i < k → k < j → (codes text).getD k.toNat 0 = 61) (hf : Txt.find3 text (Str.ofString "\n") i < 0) : HRel (codes text) i text.length := by
  rw [sign_open] at ho hp
  have hv := (slice_sign h0).mp ho
  exact .inr ⟨.inr ⟨j, e_run h0 hv hs h1 h2 h3, e_no (by omega) hp⟩, e_nl_none h0 hi hf⟩
theorem end4 (h0 : 0 ≤ i) (hi : i ≤ text.length) (hs : (Txt.slice text (some j) (some (j + 1)) == Str.ofString "=") = false) (ho : (Txt.slice text (some i) (some (i + 1)) == Str.ofString "[") = true) (hp : (Txt.slice text (some j) (some (j + 1)) == Str.ofString "[") = false)
    (h1 : i + 1 ≤ j) (h2 : j ≤ text.length ∨ j = i + 1) (h3 : ∀ k, i < k → k < j → (codes text).getD k.toNat 0 = 61) (hf : ¬ Txt.find3 text (Str.ofString "\n") i < 0) : HRel (codes text) i (Txt.find3 text (Str.ofString "\n") i) := by
  rw [sign_open] at ho hp
  have hv := (slice_sign h0).mp ho
  exact .inr ⟨.inr ⟨j, e_run h0 hv hs h1 h2 h3, e_no (by omega) hp⟩, e_nl_some h0 hf⟩
theorem end5 (h0 : 0 ≤ i) (hi : i ≤ text.length) (ho : (Txt.slice text (some i) (some (i + 1)) == Str.ofString "[") = false) (hf : Txt.find3 text (Str.ofString "\n") i < 0) : HRel (codes text) i text.length := by
  rw [sign_open] at ho
  exact .inr ⟨.inl (e_no h0 ho), e_nl_none h0 hi hf⟩
theorem end6 (h0 : 0 ≤ i) (ho : (Txt.slice text (some i) (some (i + 1)) == Str.ofString "[") = false) (hf : ¬ Txt.find3 text (Str.ofString "\n") i < 0) : HRel (codes text) i (Txt.find3 text (Str.ofString "\n") i) := by
  rw [sign_open] at ho
  exact .inr ⟨.inl (e_no h0 ho), e_nl_some h0 hf⟩
end
end Mine
namespace Mine
theorem ints_of : ∀ (l : List Nat) (vs ys : List Value), vs.length = l.length → (∀ (j : Nat) (v : Value), vs[j]? = some v → ∃ (c : Nat) (u : Tok), l[j]? = some c ∧ v = Value.str ⟨#[c]⟩ u) →
    Paired (fun v r => ∃ (c : Nat) (u u' : Tok), v = Value.str ⟨#[c]⟩ u ∧ r = Value.int (c : Nat) u') vs ys → IntsAre ys (l.map fun n : Nat => (n : Int))
  | [], [], _, _, _, h => by cases h; exact .nil
  | c :: l, v :: vs, _, hl, hv, h => by
    cases h with
    | cons hd ht =>
      obtain ⟨c', u, u', e, rfl⟩ := hd
      obtain ⟨c'', u'', e1, e2⟩ := hv 0 v rfl
      have e3 : c = c'' := by simpa using e1
      have e4 : c' = c'' := by
        rw [e] at e2
        injection e2 with e2 _
        injection e2 with e2
        have := congrArg Array.toList e2
        simpa using this
      rw [e4, ← e3]
      exact .cons _ _ (ints_of l vs _ (by simpa using hl) (fun j v hj => hv (j + 1) v hj) ht)
  | [], _ :: _, _, hl, _, _ => by simp at hl
  | _ :: _, [], _, hl, _, _ => by simp at hl

section
variable {prog : Program} {w : World} {A : Around} {E : Value → Shared → Prop} {s₁ : Shared} {K : Frag} {h₀ : Heap} {L : Addr} {m mg mb : Str → Option Value} {news : List (Addr × Obj)} {p : Program} {loose : List Str} {mean : ExcName → Option Value}
set_option maxHeartbeats 4000000 in
theorem ord_comp {env : Env} {scope : Scope} {z : Str} {p1 p2 p3 : Pos} {Q : Value → Shared → Prop} {y : Str} {t : Tok} (q1 : scope.kind = .function) (q2 : ∀ C, (compEnv scope C env).kindOf (Str.ofString "ord") = some .globalImplicit) (q3 : ∀ C, (compEnv scope C env).kindOf z = some .local) (q4 : (z == ("__debug__" : Str)) = false)
    (hg : env.globals = mainGlobals) (hb : env.builtins = builtinsNs)
    (hh : A.handled = none) (F : Fr h₀ L s₁.heap m) (N : News h₀ L s₁.heap news) (X : K.In h₀) (T : Top p loose mean mg mb h₀) (e : nsIn K mainGlobals (Str.ofString "ord") = some none)
    (g3 : ∀ D vs nn h' tk, Fr h₀ L h' m → News h₀ L h' ((D, listOf vs.toArray nn) :: news) → IntsAre vs (codes y) → Q (.ref D) { s₁ with heap := h', toks := tk }) (hsz : y.length ≤ sizeLine) :
    wpAny (model prog w) A (pyIter (.str y t)) (CompPost prog w A env scope z [] (.Call (.Name (Str.ofString "ord") p1) [.Name z p2] [] p3) Q) E s₁ := by
  unfold CompPost
  refine wpAny_pyIter_str fun o St W hst => ?_
  have up : ∀ (h' : Heap), (∀ b o', b ∉ [s₁.heap.objs.size] → (s₁.heap.push o).get? b = some o' → h'.get? b = some o') → ∀ b o', s₁.heap.get? b = some o' → h'.get? b = some o' :=
    fun h' hk b o' e => hk b o' (old_not_new e) (Heap.get?_push_of_some _ e)
  refine ⟨fun _ => true, fun v r => ∃ (c : Nat) (u u' : Tok), v = Value.str ⟨#[c]⟩ u ∧ r = Value.int (c : Nat) u', s₁.heap.objs.size, [s₁.heap.objs.size], [s₁.heap.objs.size], y.cps.size, SignAt y, St, rfl, W A hh, hsz, hst, ?_, ⟨?_, ?_⟩, ?_⟩
  · intro b hb
    show b < (s₁.heap.push o).objs.size
    rw [Heap.size_push, List.mem_singleton.mp hb]
    exact Nat.lt_succ_self _
  · intro C i v s₃ m₃ E' hP hn hm _ htk
    exact wpAny_pure ⟨rfl, _, _, rfl, fun _ _ e => e⟩
  · intro C i v s₃ m₃ E' hP _ hn hm hk htk
    obtain ⟨c, u, _, rfl⟩ := hP
    have hk' := up s₃.heap hk
    have hk0 : ∀ b o', h₀.get? b = some o' → s₃.heap.get? b = some o' := fun b o' q => hk' b o' (F.keep b o' q)
    have hmg := mg_none_of X T.g e
    clear X
    walk1
    refine PySem.Calls.Name_function_global q1 (q2 C) (PySem.Calls.loadGlobal_builtin (env := compEnv scope C env) (show s₃.heap.Ns env.globals mg from hg ▸ (T.keeps hk0).g) hmg (show s₃.heap.Ns env.builtins mb from hb ▸ (T.keeps hk0).b) ((T.builtins _ (by decide)).trans (by boot_fast)) ?_) (by decide)
    walk1
    walk1
    refine wpAny_Name (wpAny_loadName_local q1 (q3 C) hn hm ?_) q4
    walk1
    refine P.ord_of_char ?_
    exact ⟨⟨c, u, _, rfl, rfl⟩, _, _, rfl, fun _ _ e => e⟩
  · intro D h' tk ys vs hnew hlD hplD hlen hP hF hk
    have k0 := up h' hk
    have hi : IntsAre ys.toList (codes y) := by
      refine ints_of y.cps.toList vs ys.toList (by simpa using hlen) (fun j v hj => ?_) (by rw [List.filter_eq_self.mpr (fun _ _ => rfl)] at hF; exact hF)
      obtain ⟨c, u, hc, rfl⟩ := hP j v hj
      exact ⟨c, u, by simpa using hc, rfl⟩
    have np : NewPlain h' news D ys.toList.toArray := ⟨by rw [Array.toArray_toList]; exact hplD, fun p hp e => by rw [← e, Heap.get?_push_of_some _ (N p hp).1] at hnew; cases hnew⟩
    have hn0 : h₀.get? D = none := by
      cases e : h₀.get? D with
      | none => rfl
      | some o' => rw [Heap.get?_push_of_some _ (F.keep _ _ e)] at hnew; cases hnew
    obtain ⟨n, N'⟩ := made_enters np (F.keeps k0) (N.grown k0) hn0
    exact g3 D _ n h' tk (F.keeps k0) N' hi
end
end Mine
namespace Mine
local macro_rules | `(tactic| k_all) => `(tactic| assumption)
section
variable {w : World} {loose : List Str} {mean : ExcName → Option Value} {mg mb : Str → Option Value}
  {dp un : Nat} {gd : Option (List Code)} {cn : Str} {cs : Scope} {a : Addr} {ccd : Value} {cl : List (Str × Addr)} {outer : List Env} {A₀ : Around} {base h₀ : Heap} {L : Addr} {m : Str → Option Value} {s : Shared} {Q E : Value → Shared → Prop}
  {hand cells : Addr} {cvs : List Value} {ns : List Int} {nn nc : Nat} {turn tail many : Int} {tt tu tm : Tok} {rest : List (Addr × Obj)}
abbrev handL (hand cells : Addr) (cvs : List Value) (nn nc : Nat) (turn tail : Int) (tt tu : Tok) (rest : List (Addr × Obj)) : List (Addr × Obj) :=
  (hand, listOf [Value.ref cells, Value.int turn tt, Value.int tail tu].toArray nn) :: (cells, listOf cvs.toArray nc) :: rest
set_option maxRecDepth 100000 in
set_option maxHeartbeats 8000000 in
theorem draw_spec
  (B : Below A₀ base outer h₀) (F : Fr h₀ L s.heap m) (X : (hd.heap_39 w.params).In h₀)
  (N : News h₀ L s.heap (handL hand cells cvs nn nc turn tail tt tu rest)) (hne : @Ne Nat cells hand) (hr : ∀ p ∈ rest, p.1 ≠ hand)
  (T : Top hd.view_39 loose mean mg mb h₀) (hk : cs.kind = .function) (hI : IntsAre cvs ns) (hlen : ns.length < 10000) (h0 : 0 ≤ turn) (ht : turn < 10000) (h1 : 0 ≤ tail) (h2 : tail < 1009) (hm : 0 < many) (hm2 : many < 100)
  (hdp : dp + 1 < recursionLimit) (hun : un + 8 < cLine)
  (hret : ∀ r turn' tail' t tt' tu' nn' h' tk', Fr h₀ L h' m → News h₀ L h' (handL hand cells cvs nn' nc turn' tail' tt' tu' rest) → 0 ≤ r → r < many → 0 ≤ turn' → turn' ≤ turn + 1 → 0 ≤ tail' → tail' < 1009 → Q (.int r t) { s with heap := h', toks := tk' }) :
  wpAny (model PySem.Challenge.rw_ez0167_02.row.prog w) (ktrTop dp un gd cn cs L a ccd cl outer) (call (.ref 112) [.ref hand, .int many tm]) Q E s := by
  revert X; k_fill; intro X
  dsimp only [handL] at N
  k_with_none
  refine wpAny_call ?_
  k_dflt ktr_enter
  k_steps
  all_goals exact hret _ _ _ _ _ _ _ _ _ (by k_asm) (by k_asm) (fmod_lo _ hm) (fmod_hi _ hm) (by omega) (by omega) (by first | assumption | exact fmod_lo _ (by decide)) (by first | assumption | exact fmod_hi _ (by decide))
end
end Mine
namespace Mine
theorem news_app {h₀ h : Heap} {L : Addr} {l l' : List (Addr × Obj)} (N : News h₀ L h l) (hs : ∀ p ∈ l', p ∈ l) : News h₀ L h l' := fun p hp => N p (hs p hp)
/-- the state of the loop that draws a text -/
structure TS where
  turn : Int
  tail : Int
  tt : Tok
  tu : Tok
  nn : Nat
  text : Str
  tx : Tok
/-- the state of the loops that make the whole -/
structure WS where
  whole : Str
  tw : Tok
  vS : List Value
  S : List Int
  nS : Nat
  vW : List Value
  D : List Int
  nW : Nat
abbrev tsL (hand cells : Addr) (cvs : List Value) (nc : Nat) (rest : List (Addr × Obj)) (c : TS) : List (Addr × Obj) := handL hand cells cvs c.nn nc c.turn c.tail c.tt c.tu rest
abbrev wsL (e1 e2 : Addr × Obj) (starts wanted : Addr) (rest : List (Addr × Obj)) (c : WS) : List (Addr × Obj) := e1 :: e2 :: (starts, listOf c.vS.toArray c.nS) :: (wanted, listOf c.vW.toArray c.nW) :: rest
abbrev osL (hand cells : Addr) (cvs : List Value) (nc : Nat) (starts wanted : Addr) (rest : List (Addr × Obj)) (c : TS × WS) : List (Addr × Obj) := tsL hand cells cvs nc ((starts, listOf c.2.vS.toArray c.2.nS) :: (wanted, listOf c.2.vW.toArray c.2.nW) :: rest) c.1
abbrev osP (c : TS × WS) : List (Str × Value) := [(Str.ofString "whole", .str c.2.whole c.2.tw)]
abbrev wsF (c : WS) : Prop := IntsAre c.vS c.S ∧ IntsAre c.vW c.D
abbrev tsP (c : TS) : List (Str × Value) := [(Str.ofString "text", .str c.text c.tx)]
abbrev wsP (c : WS) : List (Str × Value) := [(Str.ofString "whole", .str c.whole c.tw)]
/-- turns drawn so far, the text's length -/
abbrev TInv (t₀ : Int) (pre : List Int) (c : TS) : Prop := 0 ≤ c.turn ∧ c.turn ≤ t₀ + pre.length ∧ 0 ≤ c.tail ∧ c.tail < 1009 ∧ c.text.length ≤ pre.length

section
variable {prog : Program} {w : World} {A : Around} {E : Value → Shared → Prop} {Q : Flow → Shared → Prop} {s : Shared} {env : Env} {h₀ : Heap} {x : Str} {body : List Stmt} {m₀ : Str → Option Value}
  {hand cells starts wanted r : Addr} {cvs : List Value} {nc : Nat} {rest : List (Addr × Obj)} {b₀ : Int} {t₀ u₀ v₀ : Tok} {n : Nat}
theorem text_loop (c₀ : TS) (hh : A.handled = none) (hr : IsRange s.heap r 0 b₀ 1 t₀ u₀ v₀) (hsmall : Builtin.Range.small 0 b₀ 1 = true) (hn : Builtin.Range.rangeSize 0 b₀ 1 = (n : Int))
    (F : Fr h₀ env.locals s.heap m₀) (N : News h₀ env.locals s.heap (tsL hand cells cvs nc rest c₀)) (hm : m₀ (Str.ofString "text") = some (.str c₀.text c₀.tx)) (hp : TInv c₀.turn [] c₀)
    (turn : ∀ (c : TS) (pre : List Int) (k : Int) t (u : Str → Option Value) h tk own, pre.length < n → TInv c₀.turn pre c → (∀ p ∈ own, p.1 ≠ hand) →
      Fr h₀ env.locals h (fun y => if y = x then some (.int k t) else if y = Str.ofString "text" then some (.str c.text c.tx) else m₀ y) → News h₀ env.locals h (tsL hand cells cvs nc (rest ++ own) c) →
      wpAny (model prog w) A (execs body env) (InvPostN h₀ env.locals (KstS (tsL hand cells cvs nc rest) tsP (fun _ => True) x [] m₀ (TInv c₀.turn) (pre ++ [k])) own ((tsL hand cells cvs nc rest c₀).map (·.1)) { s with heap := h, toks := tk } Q) E { s with heap := h, toks := tk })
    (done : ∀ (c : TS) (u : Str → Option Value) h tk, 0 ≤ c.turn → c.turn ≤ c₀.turn + n → 0 ≤ c.tail → c.tail < 1009 → c.text.length ≤ n → Fr h₀ env.locals h (fun y => if y = x then u y else if y = Str.ofString "text" then some (.str c.text c.tx) else m₀ y) → News h₀ env.locals h (tsL hand cells cvs nc rest c) → Q .next { s with heap := h, toks := tk }) :
    wpAny (model prog w) A (pyIter (.ref r)) (fun it s₂ => LoopAtV prog w A h₀ env x body Q E it s₂) E s := by
  refine kst_range (tsL hand cells cvs nc rest) tsP (fun _ => True) [] (TInv c₀.turn) c₀ hh hr hsmall hn F N trivial (fun p hp => by rw [List.mem_singleton.mp hp]; exact hm) hp ?_ ?_
  · intro c pre k t u h tk own _ hlt hoff _ hP F' N'
    refine turn c pre k t u h tk own hlt hP (hoff.ne (by simp)) ?_ N'
    refine (show (fun y => if y = x then some (.int k t) else kstB (fun z => if ([] : List Str).contains z then u z else m₀ z) (tsP c) y) = _ from ?_) ▸ F'
    funext y; simp [kstB]
  · intro c u h tk _ hP F' N'
    obtain ⟨p1, p2, p3, p4, p5⟩ := hP
    rw [rangeKs_length] at p2 p5
    refine done c u h tk p1 p2 p3 p4 p5 ?_ N'
    refine (show (fun y => if y = x then u y else kstB (fun z => if ([] : List Str).contains z then u z else m₀ z) (tsP c) y) = _ from ?_) ▸ F'
    funext y; simp [kstB]
theorem text_close {c₀ : TS} {L : Addr} {m' : Str → Option Value} {own : List (Addr × Obj)} {s₁ : Shared} {h' : Heap} {tk' : Nat} {pre : List Int} {k : Int} (c : TS) (F : Fr h₀ L h' m') (N : News h₀ L h' (tsL hand cells cvs nc (rest ++ own) c))
    (hm : m' (Str.ofString "text") = some (.str c.text c.tx)) (hr : ∀ y, y ≠ x → y ≠ Str.ofString "text" → m' y = m₀ y) (hp : TInv c₀.turn (pre ++ [k]) c) :
    InvEndN h₀ L (KstS (tsL hand cells cvs nc rest) tsP (fun _ => True) x [] m₀ (TInv c₀.turn) (pre ++ [k])) own ((tsL hand cells cvs nc rest c₀).map (·.1)) s₁ { s₁ with heap := h', toks := tk' } := by
  refine kst_end c F N ?_ ?_ rfl trivial (fun p hp => by rw [List.mem_singleton.mp hp]; exact hm) (fun z z1 z2 _ => hr z z1 (z2 _ (List.mem_singleton.mpr rfl))) hp
  · intro p hp
    simp only [tsL, handL, List.mem_cons, List.mem_append] at hp ⊢
    rcases hp with h | h | h <;> simp [h]
  · intro p hp
    simp only [tsL, handL, List.mem_cons, List.mem_append]
    exact .inr (.inr (.inr hp))
theorem grow_range (P : List Int → WS → Prop) (c₀ : WS) (stored : List Str) {e1 e2 : Addr × Obj} (hh : A.handled = none) (hr : IsRange s.heap r 0 b₀ 1 t₀ u₀ v₀) (hsmall : Builtin.Range.small 0 b₀ 1 = true) (hn : Builtin.Range.rangeSize 0 b₀ 1 = (n : Int))
    (F : Fr h₀ env.locals s.heap m₀) (N : News h₀ env.locals s.heap (wsL e1 e2 starts wanted rest c₀)) (hm : m₀ (Str.ofString "whole") = some (.str c₀.whole c₀.tw)) (hf : wsF c₀) (hp : P [] c₀)
    (turn : ∀ (c : WS) (pre : List Int) (k : Int) t (u : Str → Option Value) h tk own, k = (pre.length : Int) → pre.length < n → P pre c → IntsAre c.vS c.S → IntsAre c.vW c.D → (∀ p ∈ own, p.1 ≠ starts) → (∀ p ∈ own, p.1 ≠ wanted) →
      Fr h₀ env.locals h (fun y => if y = x then some (.int k t) else if y = Str.ofString "whole" then some (.str c.whole c.tw) else if stored.contains y then u y else m₀ y) → News h₀ env.locals h (wsL e1 e2 starts wanted (rest ++ own) c) →
      wpAny (model prog w) A (execs body env) (InvPostN h₀ env.locals (KstS (wsL e1 e2 starts wanted rest) wsP wsF x stored m₀ P (pre ++ [k])) own ((wsL e1 e2 starts wanted rest c₀).map (·.1)) { s with heap := h, toks := tk } Q) E { s with heap := h, toks := tk })
    (done : ∀ (c : WS) (pre : List Int) (u : Str → Option Value) h tk, pre.length = n → P pre c → IntsAre c.vS c.S → IntsAre c.vW c.D → Fr h₀ env.locals h (fun y => if y = x then u y else if y = Str.ofString "whole" then some (.str c.whole c.tw) else if stored.contains y then u y else m₀ y) → News h₀ env.locals h (wsL e1 e2 starts wanted rest c) → Q .next { s with heap := h, toks := tk }) :
    wpAny (model prog w) A (pyIter (.ref r)) (fun it s₂ => LoopAtV prog w A h₀ env x body Q E it s₂) E s := by
  refine kst_range (wsL e1 e2 starts wanted rest) wsP wsF stored P c₀ hh hr hsmall hn F N hf (fun p hp => by rw [List.mem_singleton.mp hp]; exact hm) hp ?_ ?_
  · intro c pre k t u h tk own hk hlt hoff hF hP F' N'
    exact turn c pre k t u h tk own (by omega) hlt hP hF.1 hF.2 (hoff.ne (by simp)) (hoff.ne (by simp)) F' N'
  · intro c u h tk hF hP F' N'
    exact done c _ u h tk (rangeKs_length _ _) hP hF.1 hF.2 F' N'
theorem grow_close {P : List Int → WS → Prop} {c₀ : WS} {stored : List Str} {e1 e2 : Addr × Obj} {L : Addr} {m' : Str → Option Value} {own : List (Addr × Obj)} {s₁ : Shared} {h' : Heap} {tk' : Nat} {pre : List Int} (c : WS) (F : Fr h₀ L h' m') (N : News h₀ L h' (wsL e1 e2 starts wanted (rest ++ own) c))
    (h1 : IntsAre c.vS c.S) (h2 : IntsAre c.vW c.D) (hm : m' (Str.ofString "whole") = some (.str c.whole c.tw)) (hr : ∀ y, y ≠ x → y ≠ Str.ofString "whole" → stored.contains y = false → m' y = m₀ y) (hp : P pre c) :
    InvEndN h₀ L (KstS (wsL e1 e2 starts wanted rest) wsP wsF x stored m₀ P pre) own ((wsL e1 e2 starts wanted rest c₀).map (·.1)) s₁ { s₁ with heap := h', toks := tk' } := by
  refine kst_end c F N ?_ ?_ rfl ⟨h1, h2⟩ (fun p hp => by rw [List.mem_singleton.mp hp]; exact hm) (fun z z1 z2 z3 => hr z z1 (z2 _ (List.mem_singleton.mpr rfl)) z3) hp
  · intro p hp
    simp only [wsL, List.mem_cons, List.mem_append] at hp ⊢
    rcases hp with h | h | h | h | h <;> simp [h]
  · intro p hp
    simp only [wsL, List.mem_cons, List.mem_append]
    exact .inr (.inr (.inr (.inr (.inr hp))))
theorem outer_loop (P : List Int → TS × WS → Prop) (c₀ : TS × WS) (stored : List Str) (hh : A.handled = none) (hr : IsRange s.heap r 0 b₀ 1 t₀ u₀ v₀) (hsmall : Builtin.Range.small 0 b₀ 1 = true) (hn : Builtin.Range.rangeSize 0 b₀ 1 = (n : Int))
    (F : Fr h₀ env.locals s.heap m₀) (N : News h₀ env.locals s.heap (osL hand cells cvs nc starts wanted rest c₀)) (hm : m₀ (Str.ofString "whole") = some (.str c₀.2.whole c₀.2.tw)) (hf : wsF c₀.2) (hp : P [] c₀)
    (turn : ∀ (c : TS × WS) (pre : List Int) (k : Int) t (u : Str → Option Value) h tk own, pre.length < n → P pre c → IntsAre c.2.vS c.2.S → IntsAre c.2.vW c.2.D → (∀ p ∈ own, p.1 ≠ hand) → (∀ p ∈ own, p.1 ≠ starts) → (∀ p ∈ own, p.1 ≠ wanted) →
      Fr h₀ env.locals h (fun y => if y = x then some (.int k t) else if y = Str.ofString "whole" then some (.str c.2.whole c.2.tw) else if stored.contains y then u y else m₀ y) → News h₀ env.locals h (osL hand cells cvs nc starts wanted (rest ++ own) c) →
      wpAny (model prog w) A (execs body env) (InvPostN h₀ env.locals (KstS (osL hand cells cvs nc starts wanted rest) osP (fun c => wsF c.2) x stored m₀ P (pre ++ [k])) own ((osL hand cells cvs nc starts wanted rest c₀).map (·.1)) { s with heap := h, toks := tk } Q) E { s with heap := h, toks := tk })
    (done : ∀ (c : TS × WS) (pre : List Int) (u : Str → Option Value) h tk, pre.length = n → P pre c → IntsAre c.2.vS c.2.S → IntsAre c.2.vW c.2.D → Fr h₀ env.locals h (fun y => if y = x then u y else if y = Str.ofString "whole" then some (.str c.2.whole c.2.tw) else if stored.contains y then u y else m₀ y) → News h₀ env.locals h (osL hand cells cvs nc starts wanted rest c) → Q .next { s with heap := h, toks := tk }) :
    wpAny (model prog w) A (pyIter (.ref r)) (fun it s₂ => LoopAtV prog w A h₀ env x body Q E it s₂) E s := by
  refine kst_range (osL hand cells cvs nc starts wanted rest) osP (fun c => wsF c.2) stored P c₀ hh hr hsmall hn F N hf (fun p hp => by rw [List.mem_singleton.mp hp]; exact hm) hp ?_ ?_
  · intro c pre k t u h tk own hk hlt hoff hF hP F' N'
    exact turn c pre k t u h tk own hlt hP hF.1 hF.2 (hoff.ne (by simp)) (hoff.ne (by simp)) (hoff.ne (by simp)) F' N'
  · intro c u h tk hF hP F' N'
    exact done c _ u h tk (rangeKs_length _ _) hP hF.1 hF.2 F' N'
theorem outer_close {P : List Int → TS × WS → Prop} {c₀ : TS × WS} {stored : List Str} {L : Addr} {m' : Str → Option Value} {own : List (Addr × Obj)} {s₁ : Shared} {h' : Heap} {tk' : Nat} {pre : List Int} (c : TS × WS) {more : List (Addr × Obj)} (F : Fr h₀ L h' m') (N : News h₀ L h' (more ++ osL hand cells cvs nc starts wanted (rest ++ own) c))
    (h1 : IntsAre c.2.vS c.2.S) (h2 : IntsAre c.2.vW c.2.D) (hm : m' (Str.ofString "whole") = some (.str c.2.whole c.2.tw)) (hr : ∀ y, y ≠ x → y ≠ Str.ofString "whole" → stored.contains y = false → m' y = m₀ y) (hp : P pre c) :
    InvEndN h₀ L (KstS (osL hand cells cvs nc starts wanted rest) osP (fun c => wsF c.2) x stored m₀ P pre) own ((osL hand cells cvs nc starts wanted rest c₀).map (·.1)) s₁ { s₁ with heap := h', toks := tk' } := by
  refine kst_end c F N ?_ ?_ rfl ⟨h1, h2⟩ (fun p hp => by rw [List.mem_singleton.mp hp]; exact hm) (fun z z1 z2 z3 => hr z z1 (z2 _ (List.mem_singleton.mpr rfl)) z3) hp
  · intro p hp
    simp only [osL, tsL, handL, List.mem_cons, List.mem_append] at hp ⊢
    rcases hp with h | h | h | h | h <;> simp [h]
  · intro p hp
    simp only [osL, tsL, handL, List.mem_cons, List.mem_append]
    exact .inr (.inr (.inr (.inr (.inr (.inr hp)))))
theorem allLt_mem {d : Addr} : ∀ {l : List (Addr × Obj)}, AllLt d l → ∀ p ∈ l, p.1 ≠ d
  | [], _, _, h => nomatch h
  | _ :: _, h, p, hp => by
    rcases List.mem_cons.mp hp with rfl | hp
    · exact Nat.ne_of_lt h.1
    · exact allLt_mem h.2 p hp
theorem grow_list (P : List Int → WS → Prop) (R : Str → Prop) (c₀ : WS) (stored : List Str) {e1 e2 : Addr × Obj} {lst : Addr} {its : List Value} {nl : Nat} (hh : A.handled = none)
    (F : Fr h₀ env.locals s.heap m₀) (N : News h₀ env.locals s.heap ((lst, listOf its.toArray nl) :: wsL e1 e2 starts wanted rest c₀)) (hits : ∀ (i : Nat) v, its[i]? = some v → ∃ op t, v = .str op t ∧ R op)
    (hne : ∀ p ∈ wsL e1 e2 starts wanted rest c₀, p.1 ≠ lst) (hm : m₀ (Str.ofString "whole") = some (.str c₀.whole c₀.tw)) (hf : wsF c₀) (hp : P [] c₀)
    (turn : ∀ (c : WS) (pre : List Int) (op : Str) t (u : Str → Option Value) h tk own, pre.length < its.length → R op → P pre c → IntsAre c.vS c.S → IntsAre c.vW c.D → (∀ p ∈ own, p.1 ≠ starts) → (∀ p ∈ own, p.1 ≠ wanted) →
      Fr h₀ env.locals h (fun y => if y = x then some (.str op t) else if y = Str.ofString "whole" then some (.str c.whole c.tw) else if stored.contains y then u y else m₀ y) → News h₀ env.locals h (wsL e1 e2 starts wanted (rest ++ own) c) →
      wpAny (model prog w) A (execs body env) (InvPostN h₀ env.locals (KstS (wsL e1 e2 starts wanted rest) wsP wsF x stored m₀ P (pre ++ [(pre.length : Int)])) own ((wsL e1 e2 starts wanted rest c₀).map (·.1)) { s with heap := h, toks := tk } Q) E { s with heap := h, toks := tk })
    (done : ∀ (c : WS) (pre : List Int) (u : Str → Option Value) h tk, pre.length = its.length → P pre c → IntsAre c.vS c.S → IntsAre c.vW c.D → Fr h₀ env.locals h (fun y => if y = x then u y else if y = Str.ofString "whole" then some (.str c.whole c.tw) else if stored.contains y then u y else m₀ y) → News h₀ env.locals h (wsL e1 e2 starts wanted rest c) → Q .next { s with heap := h, toks := tk }) :
    wpAny (model prog w) A (pyIter (.ref lst)) (fun it s₂ => LoopAtV prog w A h₀ env x body Q E it s₂) E s := by
  have hol : s.heap.get? lst = some (listOf its.toArray nl) := (N _ (.head _)).1
  have hls : s.heap.IsList lst its.toArray := ⟨_, hol, rfl, nl, rfl⟩
  have hneI : lst ≠ s.heap.objs.size := Nat.ne_of_lt (Heap.lt_size hol)
  have hlst0 : h₀.get? lst = none := (N _ (.head _)).2.2
  have N1 : News h₀ env.locals s.heap (wsL e1 e2 starts wanted rest c₀) := fun p hp => N p (.tail _ hp)
  refine wpAny_pyIter_list hls ?_
  have W := Walks.list (prog := prog) (w := w) hh s.heap.objs.size lst hneI its.toArray
  refine loop_invN (fun i m nx => KstS (wsL e1 e2 starts wanted rest) wsP wsF x stored m₀ P (rangeKs 0 i) m nx) (news := wsL e1 e2 starts wanted rest c₀) W ?_ ?_ ?_ ?_ ⟨⟨_, Heap.get?_push_size _ rfl, rfl, rfl⟩, hls.at fun o e => Heap.get?_push_of_some _ e⟩ (F.push _) (fun p hp => ⟨Heap.get?_push_of_some _ (N1 p hp).1, (N1 p hp).2⟩) ?_ ?_ ?_
  · intro hm
    rcases List.mem_cons.mp hm with e | hm
    · exact absurd F.ns.lt (e ▸ Nat.lt_irrefl _)
    · exact (N _ (.head _)).2.1 ((List.mem_singleton.mp hm).symm)
  · intro b hb
    rw [List.mem_singleton.mp hb]
    exact next_is_new F
  · intro p hp hI
    exact absurd (Heap.lt_size (N1 p hp).1) ((List.mem_singleton.mp hI) ▸ Nat.lt_irrefl _)
  · intro p hp hI
    rcases List.mem_cons.mp hI with e | hI
    · exact absurd (Heap.lt_size (N1 p hp).1) (e ▸ Nat.lt_irrefl _)
    · exact hne p hp (List.mem_singleton.mp hI)
  · exact ⟨c₀, rfl, hf, fun p hp => by rw [List.mem_singleton.mp hp]; exact hm, fun _ _ _ _ => rfl, hp⟩
  · rintro i v m₁ nx h tk own hi hv _ hoff ⟨c, rfl, hF, h1, h2, hP⟩ F' N'
    obtain ⟨op, t, rfl, hR⟩ := hits i v (by simpa using hv)
    have hl : (rangeKs 0 i).length = i := rangeKs_length _ _
    have hs : rangeKs 0 (i + 1) = rangeKs 0 i ++ [((rangeKs 0 i).length : Int)] := by rw [hl]; simp [rangeKs, List.range_succ]
    rw [hs]
    exact turn c (rangeKs 0 i) op t m₁ h tk own (by rw [hl]; simpa using hi) hR hP hF.1 hF.2 (hoff.ne (by simp)) (hoff.ne (by simp)) (kst_fr h1 h2 F') N'
  · rintro m₁ nx h tk ⟨c, rfl, hF, h1, h2, hP⟩ F' N'
    exact done c _ m₁ h tk (by rw [rangeKs_length]; simp) hP hF.1 hF.2 (kst_frOut h1 h2 F') N'
end
end Mine
namespace Mine
open PySem.Builtin PySem.Builtin.Str
theorem gl {a b : List Int} {k : Nat} (h : k < a.length) : (a ++ b).getD k 0 = a.getD k 0 := by
  simp only [List.getD_eq_getElem?_getD]; rw [List.getElem?_append_left h]
theorem gr {a b : List Int} {k : Nat} (h : a.length ≤ k) : (a ++ b).getD k 0 = b.getD (k - a.length) 0 := by
  simp only [List.getD_eq_getElem?_getD]; rw [List.getElem?_append_right h]
theorem g0 {a : List Int} {x : Int} : (x :: a).getD 0 0 = x := rfl
theorem gs {a : List Int} {x : Int} {k : Nat} : (x :: a).getD (k + 1) 0 = a.getD k 0 := by simp
theorem grep {n k : Nat} {x : Int} (h : k < n) : (List.replicate n x).getD k 0 = x := by
  simp only [List.getD_eq_getElem?_getD]; rw [List.getElem?_replicate_of_lt h]; rfl
/-- the comment behind place i ends at e, whatever follows the text -/
def HIn (ns : List Int) (i e : Int) : Prop := ∀ zs, HRel (ns ++ zs) i e
theorem HIn.app {ns : List Int} {i e : Int} (h : HIn ns i e) (ys : List Int) : HIn (ns ++ ys) i e := fun zs => by rw [List.append_assoc]; exact h _
theorem HIn.rel {ns : List Int} {i e : Int} (h : HIn ns i e) : HRel ns i e := by have := h []; rwa [List.append_nil] at this
def MatchAt (l c : List Int) (f : Nat) : Prop := f + c.length ≤ l.length ∧ ∀ k, k < c.length → l.getD (f + k) 0 = c.getD k 0
def longO (n : Nat) : List Int := 91 :: (List.replicate n 61 ++ [91])
def longC (n : Nat) : List Int := 93 :: (List.replicate n 61 ++ [93])
theorem longO_len (n : Nat) : (longO n).length = n + 2 := by simp [longO]
theorem longC_len (n : Nat) : (longC n).length = n + 2 := by simp [longC]
theorem longO_at (n k : Nat) (h : k < n + 2) : (longO n).getD k 0 = if k = 0 ∨ k = n + 1 then 91 else 61 := by
  unfold longO
  cases k with
  | zero => simp
  | succ k =>
    rw [gs]
    by_cases h1 : k < n
    · rw [gl (by rw [List.length_replicate]; exact h1), grep h1, if_neg (by omega)]
    · have e : k = n := by omega
      rw [gr (by rw [List.length_replicate]; omega), List.length_replicate, e, if_pos (by omega)]
      simp
theorem longC_at (n k : Nat) (h : k < n + 2) : (longC n).getD k 0 = if k = 0 ∨ k = n + 1 then 93 else 61 := by
  unfold longC
  cases k with
  | zero => simp
  | succ k =>
    rw [gs]
    by_cases h1 : k < n
    · rw [gl (by rw [List.length_replicate]; exact h1), grep h1, if_neg (by omega)]
    · have e : k = n := by omega
      rw [gr (by rw [List.length_replicate]; omega), List.length_replicate, e, if_pos (by omega)]
      simp
/-- a whole long bracket closes at the first closing bracket of its own level -/
theorem long_piece (w t : List Int) (n f : Nat) (hf : MatchAt (t ++ longC n) (longC n) f) (hn : ∀ v, v < f → ¬ MatchAt (t ++ longC n) (longC n) v) :
    HIn (w ++ longO n ++ t ++ longC n) w.length (w.length + (n + 2) + f + (n + 2)) := by
  intro zs
  have hO := longO_len n
  have hC := longC_len n
  have hf1 := hf.1
  rw [List.length_append, hC] at hf1
  have hlen : (w ++ longO n ++ t ++ longC n ++ zs).length = w.length + (n + 2) + t.length + (n + 2) + zs.length := by
    simp only [List.length_append, hO, hC]
  have inO : ∀ k, k < n + 2 → (w ++ longO n ++ t ++ longC n ++ zs).getD (w.length + k) 0 = (longO n).getD k 0 := by
    intro k hk
    rw [List.append_assoc, List.append_assoc, List.append_assoc, gr (by omega), show w.length + k - w.length = k by omega, gl (by omega)]
  have inB : ∀ k, k < t.length + (n + 2) → (w ++ longO n ++ t ++ longC n ++ zs).getD (w.length + (n + 2) + k) 0 = (t ++ longC n).getD k 0 := by
    intro k hk
    rw [List.append_assoc (w ++ longO n) t, gl (by simp only [List.length_append, hO, hC]; omega), gr (by simp only [List.length_append, hO]; omega)]
    congr 1
    simp only [List.length_append, hO]; omega
  generalize w ++ longO n ++ t ++ longC n ++ zs = ns at hlen inO inB
  have j : Int := w.length + (n + 1)
  have clos : ∀ q : Nat, q + (n + 2) ≤ t.length + (n + 2) → (CloseAt ns (n + 2) (w.length + (n + 2) + q) ↔ MatchAt (t ++ longC n) (longC n) q) := by
    intro q hq
    unfold CloseAt MatchAt
    constructor
    · rintro ⟨_, _, c3, c4, c5⟩
      refine ⟨by rw [List.length_append, hC]; exact hq, fun k hk => ?_⟩
      rw [hC] at hk
      rw [longC_at n k hk, ← inB (q + k) (by omega)]
      by_cases e0 : k = 0
      · subst e0
        rw [if_pos (.inl rfl)]
        rw [show ((w.length : Int) + (n + 2) + q).toNat = w.length + (n + 2) + q by omega] at c3
        exact c3
      · by_cases e1 : k = n + 1
        · subst e1
          rw [if_pos (.inr rfl)]
          rw [show ((w.length : Int) + (n + 2) + q + (n + 2) - 1).toNat = w.length + (n + 2) + (q + (n + 1)) by omega] at c5
          exact c5
        · rw [if_neg (by omega)]
          have := c4 ((w.length : Int) + (n + 2) + q + k) (by omega) (by omega)
          rw [show ((w.length : Int) + (n + 2) + q + k).toNat = w.length + (n + 2) + (q + k) by omega] at this
          exact this
    · rintro ⟨_, c2⟩
      rw [hC] at c2
      have key : ∀ k, k < n + 2 → ns.getD (w.length + (n + 2) + (q + k)) 0 = if k = 0 ∨ k = n + 1 then 93 else 61 := by
        intro k hk
        rw [inB (q + k) (by omega), c2 k hk, longC_at n k hk]
      refine ⟨by omega, by omega, ?_, fun k k1 k2 => ?_, ?_⟩
      · have := key 0 (by omega)
        rw [if_pos (.inl rfl)] at this
        rw [show ((w.length : Int) + (n + 2) + q).toNat = w.length + (n + 2) + (q + 0) by omega]
        exact this
      · have := key (k.toNat - (w.length + (n + 2) + q)) (by omega)
        rw [if_neg (by omega), show w.length + (n + 2) + (q + (k.toNat - (w.length + (n + 2) + q))) = k.toNat by omega] at this
        exact this
      · have := key (n + 1) (by omega)
        rw [if_pos (.inr rfl)] at this
        rw [show ((w.length : Int) + (n + 2) + q + (n + 2) - 1).toNat = w.length + (n + 2) + (q + (n + 1)) by omega]
        exact this
  refine .inl ⟨w.length + (n + 1), ⟨by omega, by omega, fun k k1 k2 => ?_, ?_⟩, ?_, ?_, .inl ⟨w.length + (n + 2) + f, by omega, ?_, by omega, fun q q1 q2 => ?_⟩⟩
  · have := inO (k.toNat - w.length) (by omega)
    rw [longO_at n _ (by omega), if_neg (by omega), show w.length + (k.toNat - w.length) = k.toNat by omega] at this
    exact this
  · rw [laV_in (by omega), show ((w.length : Int) + (n + 1)).toNat = w.length + (n + 1) by omega, inO (n + 1) (by omega), longO_at n _ (by omega), if_pos (.inr rfl)]
    decide
  · rw [laV_in (by omega), show ((w.length : Int)).toNat = w.length + 0 by omega, inO 0 (by omega), longO_at n _ (by omega), if_pos (.inl rfl)]
  · rw [laV_in (by omega), show ((w.length : Int) + (n + 1)).toNat = w.length + (n + 1) by omega, inO (n + 1) (by omega), longO_at n _ (by omega), if_pos (.inr rfl)]
  · rw [show (w.length : Int) + (n + 1) - w.length + 1 = n + 2 by omega]
    exact (clos f (by omega)).mpr hf
  · rw [show (w.length : Int) + (n + 1) - w.length + 1 = n + 2 by omega]
    intro c
    have := (clos (q.toNat - (w.length + (n + 2))) (by omega)).mp (by rw [show (w.length : Int) + (n + 2) + ((q.toNat - (w.length + (n + 2)) : Nat) : Int) = q by omega]; exact c)
    exact hn _ (by omega) this
/-- a remark of one row ends ahead of the row's end -/
theorem short_piece (w o t : List Int) (f : Nat) (ho : o = [] ∨ ∃ n, o = 91 :: List.replicate n 61) (hf : f ≤ t.length) (hf1 : (t ++ [10]).getD f 0 = 10) (hn : ∀ v, v < f → (t ++ [10]).getD v 0 ≠ 10) :
    HIn (w ++ o ++ [97] ++ t ++ [10]) w.length (w.length + o.length + 1 + f) := by
  intro zs
  have hlen : (w ++ o ++ [97] ++ t ++ [10] ++ zs).length = w.length + o.length + 1 + t.length + 1 + zs.length := by
    simp only [List.length_append, List.length_singleton]
  have inO : ∀ k, k < o.length → (w ++ o ++ [97] ++ t ++ [10] ++ zs).getD (w.length + k) 0 = o.getD k 0 := by
    intro k hk
    rw [List.append_assoc, List.append_assoc, List.append_assoc, List.append_assoc, gr (by omega), show w.length + k - w.length = k by omega, gl hk]
  have inA : (w ++ o ++ [97] ++ t ++ [10] ++ zs).getD (w.length + o.length) 0 = 97 := by
    rw [List.append_assoc, List.append_assoc, List.append_assoc (w ++ o), gr (by rw [List.length_append]; omega), List.length_append, show w.length + o.length - (w.length + o.length) = 0 by omega]
    rfl
  have inT : ∀ k, k < t.length + 1 → (w ++ o ++ [97] ++ t ++ [10] ++ zs).getD (w.length + o.length + 1 + k) 0 = (t ++ [10]).getD k 0 := by
    intro k hk
    rw [List.append_assoc (w ++ o ++ [97]) t, gl (by simp only [List.length_append, List.length_singleton]; omega), gr (by simp only [List.length_append, List.length_singleton]; omega)]
    congr 1
    simp only [List.length_append, List.length_singleton]; omega
  generalize w ++ o ++ [97] ++ t ++ [10] ++ zs = ns at hlen inO inA inT
  have oAt : ∀ k, k < o.length → o.getD k 0 = if k = 0 then 91 else 61 := by
    intro k hk
    rcases ho with e | ⟨n, e⟩
    · rw [e] at hk; simp at hk
    · rw [e] at hk ⊢
      simp only [List.length_cons, List.length_replicate] at hk
      cases k with
      | zero => simp
      | succ k => rw [gs, grep (by omega), if_neg (by omega)]
  have hnl : NL ns w.length (w.length + o.length + 1 + f) := by
    refine ⟨by omega, by omega, fun k k1 k2 => ?_, .inl ?_⟩
    · by_cases a : k.toNat < w.length + o.length
      · have := inO (k.toNat - w.length) (by omega)
        rw [oAt _ (by omega), show w.length + (k.toNat - w.length) = k.toNat by omega] at this
        rw [this]; split <;> decide
      · by_cases b : k.toNat = w.length + o.length
        · rw [b, inA]; decide
        · have := inT (k.toNat - (w.length + o.length + 1)) (by omega)
          rw [show w.length + o.length + 1 + (k.toNat - (w.length + o.length + 1)) = k.toNat by omega] at this
          rw [this]
          exact hn _ (by omega)
    · rw [laV_in (by omega), show ((w.length : Int) + o.length + 1 + f).toNat = w.length + o.length + 1 + f by omega, inT f (by omega)]
      exact hf1
  refine .inr ⟨?_, hnl⟩
  rcases ho with e | ⟨n, e⟩
  · refine .inl ?_
    rw [laV_in (by omega), show ((w.length : Int)).toNat = w.length + o.length by rw [e]; simp, inA]
    decide
  · have ol : o.length = n + 1 := by rw [e]; simp
    refine .inr ⟨w.length + o.length, ⟨by omega, by omega, fun k k1 k2 => ?_, ?_⟩, ?_⟩
    · have := inO (k.toNat - w.length) (by omega)
      rw [oAt _ (by omega), if_neg (by omega), show w.length + (k.toNat - w.length) = k.toNat by omega] at this
      exact this
    · rw [laV_in (by omega), show ((w.length : Int) + o.length).toNat = w.length + o.length by omega, inA]; decide
    · rw [laV_in (by omega), show ((w.length : Int) + o.length).toNat = w.length + o.length by omega, inA]; decide
end Mine
namespace Mine
open PySem.Builtin PySem.Builtin.Str
theorem codes_app (x y : Str) : codes (x ++ y) = codes x ++ codes y := by
  simp [codes, Str.cps_append]
theorem codes_get (x : Str) (k : Nat) : (codes x).getD k 0 = ((x.cps.toList.getD k 0 : Nat) : Int) := codes_getD x k
theorem match_iff {x y : Str} {f : Nat} : StrLaws.At x y x.length f ↔ MatchAt (codes x) (codes y) f := by
  rw [at_iff]
  unfold MatchAt
  rw [codes_len, codes_len]
  constructor
  · rintro ⟨h1, h2⟩
    exact ⟨h1, fun k hk => by rw [codes_getD, codes_getD, h2 k hk]⟩
  · rintro ⟨h1, h2⟩
    refine ⟨h1, fun k hk => ?_⟩
    have := h2 k hk
    rw [codes_getD, codes_getD] at this
    omega
theorem find_cases (x y : Str) : (Txt.find x y = -1 ∧ ∀ k : Nat, ¬ MatchAt (codes x) (codes y) k) ∨ (∃ k : Nat, Txt.find x y = (k : Int) ∧ MatchAt (codes x) (codes y) k ∧ ∀ v : Nat, v < k → ¬ MatchAt (codes x) (codes y) v) := by
  unfold Txt.find
  rcases StrLaws.occ_head x y 1 (Nat.le_refl 1) with ⟨h, hn⟩ | ⟨k, r, h, hk, hn⟩
  · rw [h]; exact .inl ⟨rfl, fun k hk => hn k (match_iff.mpr hk)⟩
  · rw [h]; exact .inr ⟨k, rfl, match_iff.mp hk, fun v hv hm => hn v hv (match_iff.mpr hm)⟩
theorem match_end (t c : List Int) : MatchAt (t ++ c) c t.length := by
  refine ⟨by rw [List.length_append]; exact Nat.le_refl _, fun k _ => ?_⟩
  rw [gr (by omega), show t.length + k - t.length = k by omega]
theorem long_str {W text O C : Str} {n : Nat} (hO : codes O = longO n) (hC : codes C = longC n) :
    HIn (codes (W ++ O ++ text ++ C)) W.length ((W.length : Int) + O.length + Txt.find (text ++ C) C + C.length) ∧ 0 ≤ Txt.find (text ++ C) C ∧ Txt.find (text ++ C) C ≤ text.length := by
  have lO : O.length = n + 2 := by rw [← codes_len, hO, longO_len]
  have lC : C.length = n + 2 := by rw [← codes_len, hC, longC_len]
  have hx : codes (text ++ C) = codes text ++ longC n := by rw [codes_app, hC]
  rcases find_cases (text ++ C) C with ⟨_, hn⟩ | ⟨k, e, hk, hn⟩
  · exact absurd (by rw [hx, hC]; exact match_end _ _) (hn (codes text).length)
  · rw [hx, hC] at hk hn
    have hp := long_piece (codes W) (codes text) n k hk hn
    have hk1 := hk.1
    rw [List.length_append, longC_len, codes_len] at hk1
    rw [codes_app, codes_app, codes_app, hO, hC, lO, lC, e]
    rw [codes_len] at hp
    refine ⟨?_, by omega, by omega⟩
    have e2 : (W.length : Int) + ((n + 2 : Nat) : Int) + (k : Int) + ((n + 2 : Nat) : Int) = (W.length : Int) + (n + 2) + k + (n + 2) := by omega
    rw [e2]; exact hp
theorem codes_nl : codes (Str.ofString "\n") = [10] := by decide +kernel
theorem codes_a : codes (Str.ofString "a") = [97] := by decide +kernel
theorem short_str {W text O : Str} (ho : codes O = [] ∨ ∃ n, codes O = 91 :: List.replicate n 61) :
    HIn (codes (W ++ O ++ Str.ofString "a" ++ text ++ Str.ofString "\n")) W.length ((W.length : Int) + O.length + 1 + Txt.find (text ++ Str.ofString "\n") (Str.ofString "\n")) ∧
      0 ≤ Txt.find (text ++ Str.ofString "\n") (Str.ofString "\n") ∧ Txt.find (text ++ Str.ofString "\n") (Str.ofString "\n") ≤ text.length := by
  have hx : codes (text ++ Str.ofString "\n") = codes text ++ [10] := by rw [codes_app, codes_nl]
  have one : ∀ v, MatchAt (codes text ++ [10]) [10] v ↔ v ≤ (codes text).length ∧ (codes text ++ [10]).getD v 0 = 10 := by
    intro v
    unfold MatchAt
    rw [List.length_append, List.length_singleton]
    constructor
    · rintro ⟨h1, h2⟩; exact ⟨by omega, h2 0 (by omega)⟩
    · rintro ⟨h1, h2⟩
      refine ⟨by omega, fun k hk => ?_⟩
      have : k = 0 := by omega
      subst this; exact h2
  rcases find_cases (text ++ Str.ofString "\n") (Str.ofString "\n") with ⟨_, hn⟩ | ⟨k, e, hk, hn⟩
  · exact absurd (by rw [hx, codes_nl]; exact match_end _ _) (hn (codes text).length)
  · rw [hx, codes_nl] at hk hn
    have hk1 := (one k).mp hk
    have hp := short_piece (codes W) (codes O) (codes text) k ho hk1.1 hk1.2 fun v hv h => hn v hv ((one v).mpr ⟨by omega, h⟩)
    rw [codes_app, codes_app, codes_app, codes_app, codes_a, codes_nl, e]
    rw [codes_len, codes_len] at hp
    have := hk1.1
    rw [codes_len] at this
    exact ⟨hp, by omega, by omega⟩
theorem foldl_reps (k : Nat) : ∀ acc : Array Nat, ((List.replicate k #[61]).foldl (· ++ ·) acc).toList = acc.toList ++ List.replicate k 61 := by
  induction k with
  | zero => intro acc; simp
  | succ k ih => intro acc; rw [List.replicate_succ, List.foldl_cons, ih, Array.toList_append, List.append_assoc]; rfl
theorem mul_codes {n : Int} (h0 : 0 ≤ n) : codes (Txt.mul (Str.ofString "=") n) = List.replicate n.toNat 61 := by
  unfold Txt.mul
  rw [sign_eq]
  split
  · rw [show n.toNat = 0 by omega]; rfl
  · split
    · rename_i h1 h2
      simp only [Bool.or_eq_true, beq_iff_eq] at h2
      rcases h2 with h2 | h2
      · subst h2; rfl
      · exact absurd h2 (by decide)
    · unfold codes
      rw [foldl_reps]
      simp
theorem open_codes {n : Int} (h0 : 0 ≤ n) : codes (Str.ofString "[" ++ Txt.mul (Str.ofString "=") n ++ Str.ofString "[") = longO n.toNat := by
  rw [codes_app, codes_app, mul_codes h0, sign_open]; rfl
theorem close_codes {n : Int} (h0 : 0 ≤ n) : codes (Str.ofString "]" ++ Txt.mul (Str.ofString "=") n ++ Str.ofString "]") = longC n.toNat := by
  rw [codes_app, codes_app, mul_codes h0, sign_close]; rfl
/-- starts and ends, one behind the other -/
def Chain (ns : List Int) : Int → List Int → List Int → Prop
  | lo, [], [] => lo ≤ ns.length
  | lo, a :: as, b :: bs => lo ≤ a ∧ HIn ns a b ∧ Chain ns b as bs
  | _, _, _ => False
theorem Chain.app {ns : List Int} (ys : List Int) : ∀ {lo : Int} {S D : List Int}, Chain ns lo S D → Chain (ns ++ ys) lo S D
  | lo, [], [], h => by unfold Chain at h ⊢; rw [List.length_append]; omega
  | lo, a :: as, b :: bs, h => by
    unfold Chain at h ⊢
    exact ⟨h.1, h.2.1.app ys, Chain.app ys h.2.2⟩
  | lo, [], _ :: _, h => by unfold Chain at h; exact h.elim
  | lo, _ :: _, [], h => by unfold Chain at h; exact h.elim
theorem Chain.snoc {ns ys : List Int} {a b : Int} (ha : ns.length ≤ a) (h : HIn (ns ++ ys) a b) : ∀ {lo : Int} {S D : List Int}, Chain ns lo S D → Chain (ns ++ ys) lo (S ++ [a]) (D ++ [b])
  | lo, [], [], c => by
    unfold Chain at c
    show Chain (ns ++ ys) lo [a] [b]
    unfold Chain
    refine ⟨by omega, h, ?_⟩
    unfold Chain
    exact (hrel_le h.rel).2
  | lo, x :: as, y :: bs, c => by
    unfold Chain at c
    show Chain (ns ++ ys) lo (x :: (as ++ [a])) (y :: (bs ++ [b]))
    unfold Chain
    exact ⟨c.1, c.2.1.app ys, Chain.snoc ha h c.2.2⟩
  | lo, [], _ :: _, c => by unfold Chain at c; exact c.elim
  | lo, _ :: _, [], c => by unfold Chain at c; exact c.elim
theorem Chain.len {ns : List Int} : ∀ {lo : Int} {S D : List Int}, Chain ns lo S D → S.length = D.length
  | _, [], [], _ => rfl
  | _, _ :: _, _ :: _, h => by unfold Chain at h; simp [Chain.len h.2.2]
  | _, [], _ :: _, h => by unfold Chain at h; exact h.elim
  | _, _ :: _, [], h => by unfold Chain at h; exact h.elim
/-- what the law's last loop holds -/
def FInv (ns S D pre told : List Int) (i : Int) : Prop := ∃ post wpost, S = pre ++ post ∧ D = told ++ wpost ∧ Chain ns i post wpost ∧ 0 ≤ i
theorem FInv.start {ns S D : List Int} (h : Chain ns 0 S D) : FInv ns S D [] [] 0 := ⟨S, D, rfl, rfl, h, Int.le_refl _⟩
theorem FInv.item {ns S D pre told : List Int} {i n : Int} {post : List Int} (h : FInv ns S D pre told i) (e : S = pre ++ n :: post) : 0 ≤ i ∧ i ≤ n ∧ n ≤ ns.length := by
  obtain ⟨p, w, h1, h2, h3, h4⟩ := h
  rw [e] at h1
  have hp := List.append_cancel_left h1
  subst hp
  cases w with
  | nil => unfold Chain at h3; exact h3.elim
  | cons b w => unfold Chain at h3; have := hrel_le h3.2.1.rel; exact ⟨h4, h3.1, by omega⟩
theorem FInv.step {ns S D pre told : List Int} {i n n' e : Int} {post : List Int} (h : FInv ns S D pre told i) (hS : S = pre ++ n :: post) (hn : n' = n) (he : HRel ns n' e) : FInv ns S D (pre ++ [n]) (told ++ [e]) e := by
  subst hn
  obtain ⟨p, w, h1, h2, h3, h4⟩ := h
  rw [hS] at h1
  have hp := List.append_cancel_left h1
  subst hp
  cases w with
  | nil => unfold Chain at h3; exact h3.elim
  | cons b w =>
    unfold Chain at h3
    have e1 := hrel_uniq (by omega) he h3.2.1.rel
    subst e1
    have := hrel_le he
    exact ⟨post, w, by rw [hS, List.append_assoc]; rfl, by rw [h2, List.append_assoc]; rfl, h3.2.2, by omega⟩
theorem FInv.done {ns S D told : List Int} {i : Int} (h : FInv ns S D S told i) : told = D := by
  obtain ⟨p, w, h1, h2, h3, h4⟩ := h
  have hp : p = [] := by
    have := congrArg List.length h1
    rw [List.length_append] at this
    exact List.eq_nil_of_length_eq_zero (by omega)
  subst hp
  cases w with
  | nil => rw [h2, List.append_nil]
  | cons b w => unfold Chain at h3; exact h3.elim
theorem FInv.len {ns S D pre told : List Int} {i : Int} (h : FInv ns S D pre told i) : told.length ≤ D.length := by
  obtain ⟨p, w, h1, h2, h3, h4⟩ := h
  rw [h2, List.length_append]; omega
end Mine
namespace Mine
theorem chain_more {W X : Str} {S D : List Int} {a b : Int} (hc : Chain (codes W) 0 S D) (hx : ∃ ys, codes X = codes W ++ ys) (ha : W.length ≤ a) (h : HIn (codes X) a b) : Chain (codes X) 0 (S ++ [a]) (D ++ [b]) := by
  obtain ⟨ys, e⟩ := hx
  rw [e] at h ⊢
  exact Chain.snoc (by rw [codes_len]; exact ha) h hc
abbrev lvO (k : Int) : Str := Str.ofString "[" ++ Txt.mul (Str.ofString "=") k ++ Str.ofString "["
abbrev lvC (k : Int) : Str := Str.ofString "]" ++ Txt.mul (Str.ofString "=") k ++ Str.ofString "]"
theorem lvO_len {k : Int} (h0 : 0 ≤ k) : (lvO k).length = k.toNat + 2 := by rw [← codes_len, open_codes h0, longO_len]
theorem lvC_len {k : Int} (h0 : 0 ≤ k) : (lvC k).length = k.toNat + 2 := by rw [← codes_len, close_codes h0, longC_len]
theorem mul_le {k : Int} (h0 : 0 ≤ k) (h4 : k < 4) : (Txt.mul (Str.ofString "=") k).length ≤ 3 := by rw [← codes_len, mul_codes h0, List.length_replicate]; omega
theorem dd_len : (Str.ofString "--").length = 2 := by rw [sign_dash]; rfl
theorem level_step {W text : Str} {k : Int} {S D : List Int} {wl sl : Nat} {pre : List Int} (h0 : 0 ≤ k) (h4 : k < 4) (ht : text.length ≤ 7) (hc : Chain (codes W) 0 S D) (h1 : W.length ≤ wl + 20 * pre.length) (h2 : S.length ≤ sl + pre.length) :
    Chain (codes (W ++ Str.ofString "--" ++ lvO k ++ text ++ lvC k)) 0 (S ++ [((W ++ Str.ofString "--").length : Int)])
      (D ++ [((W ++ Str.ofString "--").length : Int) + (lvO k).length + Txt.find (text ++ lvC k) (lvC k) + (lvC k).length]) ∧
    (W ++ Str.ofString "--" ++ lvO k ++ text ++ lvC k).length ≤ wl + 20 * (pre ++ [k]).length ∧ (S ++ [((W ++ Str.ofString "--").length : Int)]).length ≤ sl + (pre ++ [k]).length := by
  refine ⟨chain_more hc ⟨codes (Str.ofString "--") ++ codes (lvO k) ++ codes text ++ codes (lvC k), ?_⟩ ?_ (long_str (open_codes h0) (close_codes h0)).1, ?_, ?_⟩
  · simp only [codes_app, List.append_assoc]
  · rw [Str.length_append]; omega
  · rw [Str.length_append, Str.length_append, Str.length_append, Str.length_append, lvO_len h0, lvC_len h0, dd_len, List.length_append, List.length_singleton]; omega
  · rw [List.length_append, List.length_append, List.length_singleton, List.length_singleton]; omega
abbrev OpR (op : Str) : Prop := (codes op = [] ∨ ∃ n, codes op = 91 :: List.replicate n 61) ∧ op.length ≤ 3
theorem opR0 : OpR (Str.ofString "") := ⟨.inl (by decide +kernel), by decide +kernel⟩
theorem opR1 : OpR (Str.ofString "[") := ⟨.inr ⟨0, by decide +kernel⟩, by decide +kernel⟩
theorem opR2 : OpR (Str.ofString "[=") := ⟨.inr ⟨1, by decide +kernel⟩, by decide +kernel⟩
theorem opR3 : OpR (Str.ofString "[==") := ⟨.inr ⟨2, by decide +kernel⟩, by decide +kernel⟩
theorem one_a : (Str.ofString "a").length = 1 := by decide +kernel
theorem one_nl : (Str.ofString "\n").length = 1 := by decide +kernel
theorem open_step {W text op : Str} {k : Int} {S D : List Int} {wl sl : Nat} {pre : List Int} (ho : OpR op) (ht : text.length ≤ 7) (hc : Chain (codes W) 0 S D) (h1 : W.length ≤ wl + 20 * pre.length) (h2 : S.length ≤ sl + pre.length) :
    Chain (codes (W ++ Str.ofString "--" ++ op ++ Str.ofString "a" ++ text ++ Str.ofString "\n")) 0 (S ++ [((W ++ Str.ofString "--").length : Int)])
      (D ++ [((W ++ Str.ofString "--").length : Int) + op.length + 1 + Txt.find (text ++ Str.ofString "\n") (Str.ofString "\n")]) ∧
    (W ++ Str.ofString "--" ++ op ++ Str.ofString "a" ++ text ++ Str.ofString "\n").length ≤ wl + 20 * (pre ++ [k]).length ∧ (S ++ [((W ++ Str.ofString "--").length : Int)]).length ≤ sl + (pre ++ [k]).length := by
  refine ⟨chain_more hc ⟨codes (Str.ofString "--") ++ codes op ++ codes (Str.ofString "a") ++ codes text ++ codes (Str.ofString "\n"), ?_⟩ ?_ (short_str ho.1).1, ?_, ?_⟩
  · simp only [codes_app, List.append_assoc]
  · rw [Str.length_append]; omega
  · have := ho.2
    rw [Str.length_append, Str.length_append, Str.length_append, Str.length_append, Str.length_append, dd_len, one_a, one_nl, List.length_append, List.length_singleton]; omega
  · rw [List.length_append, List.length_append, List.length_singleton, List.length_singleton]; omega
section
variable {prog : Program} {w : World} {A : Around} {E : Value → Shared → Prop} {s : Shared} {x y : Str} {t u : Tok} {N M : Nat}
theorem fast_add {Q : Value → Shared → Prop} (hx : x.length ≤ N) (hy : y.length ≤ M) (hs : N + M ≤ 10000) (h : ∀ t' tk, (x ++ y).length ≤ N + M → Q (.str (x ++ y) t') { s with toks := tk }) :
    wpAny (model prog w) A (binaryOp .Add (.str x t) (.str y u)) Q E s :=
  PyProof.Rows.add_str (fun t' tk => h t' tk (by rw [Str.length_append]; omega)) (by rw [sizeLine_eq]; omega)
theorem fast_len {Q : Value → Shared → Prop} (hx : x.length ≤ N) (hs : N ≤ 10000) (h : Q (.int (x.length : Nat) (s.toks + 1)) { s with toks := s.toks + 1 + 1 }) :
    wpAny (model prog w) A (call (.builtin "len") [.str x t]) Q E s := PyProof.Rows.len_str (by omega) h
end
section
variable {prog : Program} {w : World} {A : Around} {E : Value → Shared → Prop} {s : Shared} {a b : Addr} {xs ys : List Value} {ns : List Int} {Q : Value → Shared → Prop}
theorem same_ints (ha : s.heap.IsList a xs.toArray) (hb : s.heap.IsList b ys.toArray) (hi : IntsAre xs ns) (hj : IntsAre ys ns) (hu : A.units + 64 < cLine) (h : Q (.bool true) s) : wpAny (model prog w) A (compareOp .Eq (.ref a) (.ref b)) Q E s :=
  ke_eq_ints ha hb hi hj hu (by rw [decide_eq_true rfl]; exact h)
end
end Mine
namespace Mine
/-- the state of the law's last loop -/
structure FS where
  vT : List Value
  T : List Int
  nT : Nat
  i : Int
  ti : Tok
abbrev fsL (x dx D lx dlx told starts wanted : Addr) (ha hb hc : Int) (ta tb tc : Tok) (vs : List Value) (nn : Nat) (r1 r2 : Addr × Obj) (vS vW : List Value) (nS nW : Nat) (own : List (Addr × Obj)) (c : FS) : List (Addr × Obj) :=
  strmL x dx D ha hb ta tb vs nn c.i c.ti (lexL lx dlx x hc tc ((told, listOf c.vT.toArray c.nT) :: r1 :: r2 :: (starts, listOf vS.toArray nS) :: (wanted, listOf vW.toArray nW) :: own))
section
variable {prog : Program} {w : World} {A : Around} {E : Value → Shared → Prop} {Q : Flow → Shared → Prop} {s : Shared} {env : Env} {h₀ : Heap} {z : Str} {body : List Stmt} {m₀ : Str → Option Value}
  {x dx D lx dlx told starts wanted : Addr} {ha hb hc : Int} {ta tb tc : Tok} {vs : List Value} {nn : Nat} {r1 r2 : Addr × Obj} {vS vW : List Value} {nS nW : Nat} {S W ns : List Int}
theorem final_loop {t0 : Tok} (hh : A.handled = none) (F : Fr h₀ env.locals s.heap m₀)
    (N : News h₀ env.locals s.heap [(told, listOf #[] 0), (lx, instObj 101 dlx), (dlx, dictOf [⟨hc, .str (Str.ofString "_input") tc, .ref x⟩] 1), (x, instObj 52 dx), (dx, strmD ha hb ta tb D 0 t0), (D, listOf vs.toArray nn), r1, r2, (starts, listOf vS.toArray nS), (wanted, listOf vW.toArray nW)])
    (hS : IntsAre vS S) (hC : Chain ns 0 S W)
    (turn : ∀ (c : FS) (pre post : List Int) (n : Int) t (u : Str → Option Value) h tk own, S = pre ++ n :: post → IntsAre c.vT c.T → FInv ns S W pre c.T c.i → (∀ p ∈ own, p.1 ≠ dx) → (∀ p ∈ own, p.1 ≠ told) →
      Fr h₀ env.locals h (fun y => if y = z then some (.int n t) else m₀ y) → News h₀ env.locals h (fsL x dx D lx dlx told starts wanted ha hb hc ta tb tc vs nn r1 r2 vS vW nS nW own c) →
      wpAny (model prog w) A (execs body env) (InvPostN h₀ env.locals (KstS (fsL x dx D lx dlx told starts wanted ha hb hc ta tb tc vs nn r1 r2 vS vW nS nW []) (fun _ => []) (fun c => IntsAre c.vT c.T) z [] m₀ (fun pre c => FInv ns S W pre c.T c.i) (pre ++ [n])) own
        ((fsL x dx D lx dlx told starts wanted ha hb hc ta tb tc vs nn r1 r2 vS vW nS nW [] ⟨[], [], 0, 0, t0⟩).map (·.1)) { s with heap := h, toks := tk } Q) E { s with heap := h, toks := tk })
    (done : ∀ (c : FS) (u : Str → Option Value) h tk, IntsAre c.vT W → Fr h₀ env.locals h (fun y => if y = z then u y else m₀ y) → News h₀ env.locals h (fsL x dx D lx dlx told starts wanted ha hb hc ta tb tc vs nn r1 r2 vS vW nS nW [] c) → Q .next { s with heap := h, toks := tk }) :
    wpAny (model prog w) A (pyIter (.ref starts)) (fun it s₂ => LoopAtV prog w A h₀ env z body Q E it s₂) E s := by
  refine kst_listL (nn := nS) (fsL x dx D lx dlx told starts wanted ha hb hc ta tb tc vs nn r1 r2 vS vW nS nW []) (fun _ => []) (fun c => IntsAre c.vT c.T) [] (fun pre c => FInv ns S W pre c.T c.i) ⟨[], [], 0, 0, t0⟩ hh (fun c => by simp) hS F ?_ .nil (fun _ h => nomatch h) (FInv.start hC) ?_ ?_
  · intro p hp
    refine N p ?_
    simp only [fsL, strmL, lexL, List.mem_cons, List.not_mem_nil, or_false] at hp ⊢
    rcases hp with h | h | h | h | h | h | h | h | h | h <;> simp [h]
  · intro c pre post n t u h tk own hS' _ hoff hF hP F' N'
    refine turn c pre post n t u h tk own hS' hF hP (hoff.ne (by simp)) (hoff.ne (by simp)) ?_ ?_
    · refine (show (fun y => if y = z then some (.int n t) else kstB (fun q => if ([] : List Str).contains q then u q else m₀ q) [] y) = _ from ?_) ▸ F'
      funext y; simp [kstB]
    · exact N'
  · intro c u h tk hF hP F' N'
    have e := hP.done
    refine done c u h tk (e ▸ hF) ?_ N'
    refine (show (fun y => if y = z then u y else kstB (fun q => if ([] : List Str).contains q then u q else m₀ q) [] y) = _ from ?_) ▸ F'
    funext y; simp [kstB]
theorem final_close {c₀ : FS} {L : Addr} {m' : Str → Option Value} {own : List (Addr × Obj)} {s₁ : Shared} {h' : Heap} {tk' : Nat} {pre : List Int} (c : FS) (F : Fr h₀ L h' m') (N : News h₀ L h' (fsL x dx D lx dlx told starts wanted ha hb hc ta tb tc vs nn r1 r2 vS vW nS nW own c))
    (h1 : IntsAre c.vT c.T) (hr : ∀ y, y ≠ z → m' y = m₀ y) (hp : FInv ns S W pre c.T c.i) :
    InvEndN h₀ L (KstS (fsL x dx D lx dlx told starts wanted ha hb hc ta tb tc vs nn r1 r2 vS vW nS nW []) (fun _ => []) (fun c => IntsAre c.vT c.T) z [] m₀ (fun pre c => FInv ns S W pre c.T c.i) pre) own
      ((fsL x dx D lx dlx told starts wanted ha hb hc ta tb tc vs nn r1 r2 vS vW nS nW [] c₀).map (·.1)) s₁ { s₁ with heap := h', toks := tk' } := by
  refine kst_end c F N ?_ ?_ rfl h1 (fun _ h => nomatch h) (fun y y1 _ _ => hr y y1) hp
  · intro p hp
    simp only [fsL, strmL, lexL, List.mem_cons, List.not_mem_nil, or_false] at hp ⊢
    rcases hp with h | h | h | h | h | h | h | h | h | h <;> simp [h]
  · intro p hp
    simp only [fsL, strmL, lexL, List.mem_cons]
    exact .inr (.inr (.inr (.inr (.inr (.inr (.inr (.inr (.inr (.inr hp)))))))))
end
end Mine
namespace Mine
local macro_rules | `(tactic| k_all) => `(tactic| assumption)
local macro_rules | `(tactic| walk_at "mine while?") => `(tactic| with_reducible first | show wpAny _ _ (exec (Stmt.While _ _ _ _) _) _ _ _ | show wpAny _ _ (pyIter _) (fun it s₂ => LoopAtV _ _ _ _ _ _ _ _ _ it s₂) _ _ | show InvPostN _ _ _ _ _ _ _ _ _)
local macro_rules | `(tactic| walk_at "mine steps") => `(tactic| repeat' ((fail_if_success (walk_at "mine while?")); (first | (k_unfold; (try dsimp only)) | (k_end; wrow_close) | walk1 | (dsimp only; walk1) | (leave1; walk_say "STEP leave1"; try dsimp only) | fail "no step")))
local macro_rules | `(tactic| walk_at "exec For") => `(tactic| (k_here; (rename Fr _ _ _ _ => lF'); (with_unfolding_all refine' For_invVF lF' ?k1 ?k2 ?_; (case k1 => exact rfl); (case k2 => exact rfl); k_whole)))
local macro_rules | `(tactic| walk_at "exec For Name Call cons nil") => `(tactic| (k_here; (rename Fr _ _ _ _ => lF'); (with_unfolding_all refine' For_invVF lF' ?k1 ?k2 ?_; (case k1 => exact rfl); (case k2 => exact rfl); k_whole)))
local macro_rules | `(tactic| walk_at "exec For Name Name cons nil") => `(tactic| (k_here; (rename Fr _ _ _ _ => lF'); (with_unfolding_all refine' For_invVF lF' ?k1 ?k2 ?_; (case k1 => exact rfl); (case k2 => exact rfl); k_whole)))
local macro_rules | `(tactic| walk_at "exec For Name List cons nil") => `(tactic| (k_here; (rename Fr _ _ _ _ => lF'); (with_unfolding_all refine' For_invVF lF' ?k1 ?k2 ?_; (case k1 => exact rfl); (case k2 => exact rfl); k_whole)))
local macro_rules | `(tactic| walk_at "call ref") => `(tactic| (k_here; (with_reducible show wpAny _ _ (call (Value.ref 112) _) _ _ _); k_dflt (refine' draw_spec ?k1 ?k2 ?k3 ?k4 ?kx ?kr ?k5 ?k6 ?k7 ?k8 ?a1 ?a2 ?a3 ?a4 ?a5 ?a6 ?k11 ?k12 ?_; (case k1 => k_asm); (case k2 => k_asm); (case k3 => k_asm); (case k4 => k_asm); (case kx => omega); (case kr => k_all); (case k5 => k_asm); (case k6 => first | assumption | exact rfl); (case k7 => assumption); (case k8 => first | omega | (rw [List.length_take]; omega)); (case a1 => omega); (case a2 => omega); (case a3 => omega); (case a4 => omega); (case a5 => omega); (case a6 => omega); (case k11 => ktr_room); (case k12 => ktr_units); k_whole; intro r9 u9 v9 t9 t9' t9'' n9 h9 tk9 F9 N9 R9a R9b R9c R9d R9e R9f; dsimp only [handL] at N9; (try dsimp only); (try k_sweep))))
theorem draw_first {w : World} {loose : List Str} {mean : ExcName → Option Value} {mg mb : Str → Option Value}
  {dp un : Nat} {gd : Option (List Code)} {cn : Str} {cs : Scope} {a : Addr} {ccd : Value} {cl : List (Str × Addr)} {outer : List Env} {A₀ : Around} {base h₀ : Heap} {L : Addr} {m : Str → Option Value} {s : Shared} {Q E : Value → Shared → Prop}
  {hand cells starts wanted : Addr} {cvs : List Value} {ns : List Int} {nn nc : Nat} {turn tail many : Int} {tt tu tm : Tok}
  (B : Below A₀ base outer h₀) (F : Fr h₀ L s.heap m) (X : (hd.heap_39 w.params).In h₀)
  (N : News h₀ L s.heap [(wanted, listOf #[] 0), (starts, listOf #[] 0), (hand, listOf [Value.ref cells, Value.int turn tt, Value.int tail tu].toArray nn), (cells, listOf cvs.toArray nc)]) (hne : @Ne Nat cells hand) (h3 : @Ne Nat starts hand) (h4 : @Ne Nat wanted hand)
  (T : Top hd.view_39 loose mean mg mb h₀) (hk : cs.kind = .function) (hI : IntsAre cvs ns) (hlen : ns.length < 10000) (h0 : 0 ≤ turn) (ht : turn < 10000) (h1 : 0 ≤ tail) (h2 : tail < 1009) (hm : 0 < many) (hm2 : many < 100)
  (hdp : dp + 1 < recursionLimit) (hun : un + 8 < cLine)
  (hret : ∀ r turn' tail' t tt' tu' nn' h' tk', Fr h₀ L h' m → News h₀ L h' (handL hand cells cvs nn' nc turn' tail' tt' tu' [(starts, listOf #[] 0), (wanted, listOf #[] 0)]) → 0 ≤ r → r < many → 0 ≤ turn' → turn' ≤ turn + 1 → 0 ≤ tail' → tail' < 1009 → Q (.int r t) { s with heap := h', toks := tk' }) :
  wpAny (model PySem.Challenge.rw_ez0167_02.row.prog w) (ktrTop dp un gd cn cs L a ccd cl outer) (call (.ref 112) [.ref hand, .int many tm]) Q E s :=
  draw_spec (nn := nn) (tt := tt) (tu := tu) (turn := turn) (tail := tail) (cvs := cvs) (nc := nc) B F X (rest := [(starts, listOf #[] 0), (wanted, listOf #[] 0)]) (news_app N fun p hp => by
    simp only [handL, List.mem_cons, List.not_mem_nil, or_false] at hp ⊢
    rcases hp with h | h | h | h <;> simp [h]) hne (fun p hp => by
    simp only [List.mem_cons, List.not_mem_nil, or_false] at hp
    rcases hp with h | h <;> rw [h]
    · exact h3
    · exact h4) T hk hI hlen h0 ht h1 h2 hm hm2 hdp hun hret
local macro_rules | `(tactic| walk_at "call ref") => `(tactic| (k_here; (with_reducible show wpAny _ _ (call (Value.ref 112) _) _ _ _); k_dflt (refine' draw_first ?k1 ?k2 ?k3 ?k4 ?kx ?ky ?kz ?k5 ?k6 ?k7 ?k8 ?a1 ?a2 ?a3 ?a4 ?a5 ?a6 ?k11 ?k12 ?_; (case k1 => k_asm); (case k2 => k_asm); (case k3 => k_asm); (case k4 => k_asm); (case kx => omega); (case ky => omega); (case kz => omega); (case k5 => k_asm); (case k6 => first | assumption | exact rfl); (case k7 => assumption); (case k8 => first | omega | (rw [List.length_take]; omega)); (case a1 => omega); (case a2 => omega); (case a3 => omega); (case a4 => omega); (case a5 => omega); (case a6 => omega); (case k11 => ktr_room); (case k12 => ktr_units); k_whole; intro r9 u9 v9 t9 t9' t9'' n9 h9 tk9 F9 N9 R9a R9b R9c R9d R9e R9f; dsimp only [handL] at N9; (try dsimp only); (try k_sweep))))
local macro_rules | `(tactic| walk_at "call type:range") => `(tactic| (k_here; (with_reducible show wpAny _ _ (call _ [_]) _ _ _); (rename Fr _ _ _ _ => F'); (rename News _ _ _ _ => N'); (with_unfolding_all refine range1_rows F' N' ?_); intro h9 tk9 t9 u9 v9 R9 F9 N9 K9; (try dsimp only); (try k_sweep)))
abbrev OInv (pre : List Int) (c : TS × WS) : Prop :=
  0 ≤ c.1.turn ∧ c.1.turn ≤ 1 + 20 * pre.length ∧ 0 ≤ c.1.tail ∧ c.1.tail < 1009 ∧ Chain (codes c.2.whole) 0 c.2.S c.2.D ∧ c.2.whole.length ≤ 200 * pre.length ∧ c.2.S.length ≤ 8 * pre.length
abbrev GInv (wl sl g : Nat) (pre : List Int) (c : WS) : Prop :=
  Chain (codes c.whole) 0 c.S c.D ∧ c.whole.length ≤ wl + g * pre.length ∧ c.S.length ≤ sl + pre.length
local macro_rules | `(tactic| walk_at "eval ListComp") => `(tactic| (k_here; (with_reducible apply ListComp_rowsP); (case hfree => decide); (case hcell => decide); (case hkind => with_unfolding_all rfl); (case hnames => decide); (case hx => with_unfolding_all rfl); (case hs => intro _; with_unfolding_all rfl)))
local macro_rules | `(tactic| walk_at "pyIter str") => `(tactic| (k_here; k_dflt (refine' ord_comp ?q1 ?q2 ?q3 ?q4 ?k1 ?k2 ?kh ?kF ?kN ?kX ?kT ?ke ?_ ?ks; (case q1 => exact rfl); (case q2 => exact fun _ => rfl); (case q3 => exact fun _ => rfl); (case q4 => decide); (case k1 => exact rfl); (case k2 => exact rfl); (case kh => exact rfl); (case kF => k_asm); (case kN => k_asm); (case kX => k_asm); (case kT => k_asm); (case ke => k_is); (case ks => (rw [sizeLine_eq]; omega)); k_whole; intro D9 vs9 nn9 h9 tk9 F9 N9 I9; (try dsimp only); (try k_sweep))))
local macro_rules | `(tactic| walk_at "binaryOp Add str str") => `(tactic| ((with_reducible show wpAny _ _ (binaryOp Operator.Add (Value.str _ _) (Value.str _ _)) _ _ _); (refine' fast_add ?hx ?hy ?hs ?_; (case hx => first | with_reducible assumption | exact Nat.le_refl _); (case hy => first | with_reducible assumption | exact Nat.le_refl _); (case hs => with_unfolding_all exact Nat.le_of_ble_eq_true rfl); k_whole); intro t9 tk9 hl9))
local macro_rules | `(tactic| walk_at "call builtin:len") => `(tactic| ((with_reducible show wpAny _ _ (call (Value.builtin "len") [Value.str _ _]) _ _ _); (refine' fast_len ?hx ?hs ?_; (case hx => first | with_reducible assumption | exact Nat.le_refl _); (case hs => with_unfolding_all exact Nat.le_of_ble_eq_true rfl); k_whole)))
local macro_rules | `(tactic| walk_at "mine lt") => `(tactic| omega)
local macro_rules | `(tactic| walk_at "call ref") => `(tactic| (k_here; (with_reducible show wpAny _ _ (call (Value.ref 49) _) _ _ _); k_dflt (refine' consume_spec ?k1 ?k2 ?k3 ?k4 ?kx ?kl ?kr ?k5 ?k6 ?k7 ?k8 ?k9 ?k10 ?k11 ?k12 ?_; (case k1 => k_asm); (case k2 => k_asm); (case k3 => k_asm); (case k4 => k_asm); (case kx => first | assumption | omega); (case kl => first | assumption | omega); (case kr => k_all); (case k5 => k_asm); (case k6 => first | assumption | exact rfl); (case k7 => assumption); (case k8 => omega); (case k9 => walk_at "mine lt"); (case k10 => walk_at "mine lt"); (case k11 => ktr_room); (case k12 => ktr_units); k_whole; intro t9 h9 tk9 F9 N9; dsimp only [strmL, strmD] at N9; (try dsimp only); (try k_sweep))))
local macro_rules | `(tactic| walk_at "call ref") => `(tactic| (k_here; (with_reducible show wpAny _ _ (call (Value.ref 77) _) _ _ _); k_dflt (refine' hc_spec ?k1 ?k2 ?k3 ?k4 ?kx ?kl ?km ?kn ?kr ?k5 ?k6 ?k7 ?k8 ?kp ?k9 ?k10 ?k11 ?k12 ?_; (case k1 => k_asm); (case k2 => k_asm); (case k3 => k_asm); (case k4 => k_asm); (case kx => omega); (case kl => omega); (case km => omega); (case kn => omega); (case kr => k_all); (case k5 => k_asm); (case k6 => first | assumption | exact rfl); (case k7 => assumption); (case k8 => omega); (case kp => exact codes_pos _); (case k9 => omega); (case k10 => omega); (case k11 => ktr_room); (case k12 => ktr_units); k_whole; intro j9 t9 h9 tk9 F9 N9 S9; have S9a := (hrel_le S9).1; have S9b := (hrel_le S9).2; dsimp only [strmL, strmD, lexL] at N9; (try dsimp only); (try k_sweep))))
local macro_rules | `(tactic| walk_at "compareOp Eq ref ref") => `(tactic| (k_here; (with_reducible show wpAny _ _ (compareOp CmpOp.Eq (Value.ref _) (Value.ref _)) _ _ _); k_dflt (refine' same_ints ?ka ?kb ?ki ?kj ?ku ?_; (case ka => exact News.isList (by k_asm) (by k_mem)); (case kb => exact News.isList (by k_asm) (by k_mem)); (case ki => assumption); (case kj => assumption); (case ku => k_units); k_whole)))
local macro_rules | `(tactic| size_fits) => `(tactic| with_reducible assumption)
theorem fits_ints {vs : List Value} {ns : List Int} (h : IntsAre vs ns) (hl : ns.length ≤ 1000) : vs.toArray.size ≤ sizeLine := by
  rw [List.size_toArray, h.length, sizeLine_eq]; omega
theorem chain_nil : Chain (codes (Str.ofString "")) 0 [] [] := by unfold Chain; exact Int.natCast_nonneg _
set_option maxRecDepth 100000 in
set_option maxHeartbeats 8000000 in
theorem law_holds : PySem.Challenge.rw_ez0167_02.Holds := hd (by
  k_with_none
  k_go0
  all_goals try k_fold
  walk_at "mine steps"
  (rename Fr _ _ _ _ => F1)
  (rename News _ _ _ _ => N1)
  (rename IsRange _ _ _ _ _ _ _ _ => R1)
  with_unfolding_all refine' outer_loop OInv (⟨_, _, _, _, _, Str.empty, 0⟩, ⟨Str.ofString "", _, [], [], 0, [], [], 0⟩) [Str.ofString "text", Str.ofString "j", Str.ofString "level", Str.ofString "opening", Str.ofString "closing"] rfl R1 (small_one (by omega) (by omega) (by omega) (by omega)) (rangeSize_nat _ _) F1 N1 ?hm ?hf ?hp ?turn ?done
  case hm => exact rfl
  case hf => exact ⟨.nil, .nil⟩
  case hp => exact ⟨by omega, by (try dsimp only); omega, by omega, by omega, chain_nil, Nat.le_refl _, Nat.le_refl _⟩
  case turn =>
    clear F1 N1 R1
    rintro ⟨⟨turn, tail, tt, tu, nn, tx0, ttx⟩, ⟨whole, tw, vS, S, nS, vW, D, nW⟩⟩ pre k t u hh tk own hlt hP hS hD ho1 ho2 ho3 F2 N2
    dsimp only [osL, tsL, handL, List.nil_append] at N2 F2 hS hD
    obtain ⟨hP1, hP2, hP3, hP4, hP5, hP6, hP7⟩ := hP
    dsimp only at hP1 hP2 hP3 hP4 hP5 hP6 hP7
    have hc := hP5.len
    have hvS := fits_ints hS (by omega)
    have hvW := fits_ints hD (by omega)
    try k_fold
    walk_at "mine steps"
    (rename Fr _ _ _ _ => F3)
    (rename News _ _ _ _ => N3)
    (rename IsRange _ _ _ _ _ _ _ _ => R3)
    with_unfolding_all refine' text_loop ⟨_, _, _, _, _, Str.ofString "", _⟩ rfl R3 (small_one (by omega) (by omega) (by omega) (by omega)) (rangeSize_nat _ _) F3 N3 ?thm ?thp ?tturn ?tdone
    case thm => exact rfl
    case thp => exact ⟨by (try dsimp only); omega, by (try dsimp only); omega, by (try dsimp only); omega, by (try dsimp only); omega, Nat.le_refl _⟩
    case tturn =>
      clear F3 N3 R3
      rintro ⟨turn2, tail2, tt2, tu2, nn2, text, tx⟩ pre2 k2 t2 u2 hh2 tk2 own2 hlt2 hP2 hoff2 F4 N4
      dsimp only [tsL, handL, List.cons_append] at N4 F4
      obtain ⟨q1, q2, q3, q4, q5⟩ := hP2
      dsimp only at q1 q2 q3 q4 q5
      have hoa := List.forall_mem_append.mpr ⟨ho1, hoff2⟩
      have htx : text.length ≤ 7 := by omega
      try k_fold
      walk_at "mine steps"
      (rename Fr _ _ _ _ => F5)
      (rename News _ _ _ _ => N5)
      dsimp only [InvPostN]
      exact text_close ⟨_, _, _, _, _, _, _⟩ F5 N5 rfl (by intro y e1 e2; simp [e1, e2]) ⟨by (try dsimp only); omega, by (try dsimp only); rw [List.length_append, List.length_singleton]; omega, by (try dsimp only); omega, by (try dsimp only); omega, by (try dsimp only); rw [Str.length_append, List.length_append, List.length_singleton, len_item]; omega⟩
    case tdone =>
      clear F3 N3 R3
      rintro ⟨turn2, tail2, tt2, tu2, nn2, text, tx⟩ u2 hh2 tk2 q1 q2 q3 q4 q5 F4 N4
      dsimp only [tsL, handL] at N4 F4
      dsimp only at q1 q2 q3 q4 q5
      try k_fold
      walk_at "mine steps"
      (rename Fr _ _ _ _ => F5)
      (rename News _ _ _ _ => N5)
      (rename IsRange _ _ _ _ _ _ _ _ => R5)
      with_unfolding_all refine' grow_range (GInv whole.length S.length 20) ⟨whole, tw, vS, S, nS, vW, D, nW⟩ [Str.ofString "opening", Str.ofString "closing"] rfl R5 (small_one (by decide) (by decide) (by decide) (by decide)) (rangeSize_nat _ _) F5 N5 ?lhm ?lhf ?lhp ?lturn ?ldone
      case lhm => exact rfl
      case lhf => exact ⟨hS, hD⟩
      case lhp => exact ⟨hP5, Nat.le_refl _, Nat.le_refl _⟩
      case lturn =>
        clear F5 N5 R5
        rintro ⟨whole3, tw3, vS3, S3, nS3, vW3, D3, nW3⟩ pre3 k3 t3 u3 hh3 tk3 own3 hk3 hlt3 hP3' hS3 hD3 hoS3 hoW3 F6 N6
        dsimp only [wsL] at N6 F6 hS3 hD3
        obtain ⟨p1, p2, p3⟩ := hP3'
        dsimp only at p1 p2 p3
        have hc3 := p1.len
        have hvS3 := fits_ints hS3 (by omega)
        have hvW3 := fits_ints hD3 (by omega)
        have hoa := List.forall_mem_append.mpr ⟨ho2, hoS3⟩
        have hob := List.forall_mem_append.mpr ⟨ho3, hoW3⟩
        have hk0 : 0 ≤ k3 := by omega
        have hk4 : k3 < 4 := by omega
        have hml := mul_le hk0 hk4
        have htx : text.length ≤ 7 := by omega
        have hw3 : whole3.length ≤ 2000 := by omega
        try k_fold
        walk_at "mine steps"
        (rename Fr _ _ _ _ => F7)
        (rename News _ _ _ _ => N7)
        simp only [List.push_toArray] at N7
        have hst := level_step hk0 hk4 htx p1 p2 p3
        dsimp only [InvPostN]
        exact grow_close ⟨_, _, _, _, _, _, _, _⟩ F7 N7 (IntsAre.append hS3 (.cons _ _ .nil)) (IntsAre.append hD3 (.cons _ _ .nil)) rfl (by intro y e1 e2 e3; simp only [List.contains_cons, List.contains_nil, Bool.or_false, Bool.or_eq_false_iff, beq_eq_false_iff_ne, ne_eq] at e3; simp [e1, e2, e3]) hst
      case ldone =>
        clear F5 N5 R5
        rintro ⟨whole3, tw3, vS3, S3, nS3, vW3, D3, nW3⟩ pre3 u3 hh3 tk3 hlt3 hP3' hS3 hD3 F6 N6
        dsimp only [wsL] at N6 F6 hS3 hD3
        obtain ⟨p1, p2, p3⟩ := hP3'
        dsimp only at p1 p2 p3
        have hc3 := p1.len
        try k_fold
        walk_at "mine steps"
        (rename Fr _ _ _ _ => F7)
        (rename News _ _ _ _ => N7)
        with_unfolding_all refine' grow_list (GInv whole3.length S3.length 20) OpR ⟨whole3, tw3, vS3, S3, nS3, vW3, D3, nW3⟩ [] rfl F7 N7 ?ohi ?ohn ?ohm ?ohf ?ohp ?oturn ?odone
        case ohi =>
          intro i v hv
          match i, hv with
          | 0, hv => exact ⟨_, _, (Option.some.inj hv).symm, opR0⟩
          | 1, hv => exact ⟨_, _, (Option.some.inj hv).symm, opR1⟩
          | 2, hv => exact ⟨_, _, (Option.some.inj hv).symm, opR2⟩
          | 3, hv => exact ⟨_, _, (Option.some.inj hv).symm, opR3⟩
          | i + 4, hv => exact absurd hv (by simp)
        case ohn =>
          (rename _ ∧ _ ∧ _ ∧ _ ∧ AllLt _ _ => hl1)
          intro p hp
          simp only [wsL, List.mem_cons] at hp
          rcases hp with h | h | h | h | h
          · rw [h]; exact Nat.ne_of_lt (by omega)
          · rw [h]; exact Nat.ne_of_lt (by omega)
          · rw [h]; exact Nat.ne_of_lt (by omega)
          · rw [h]; exact Nat.ne_of_lt (by omega)
          · exact allLt_mem hl1.2.2.2.2 p h
        case ohm => exact rfl
        case ohf => exact ⟨hS3, hD3⟩
        case ohp => exact ⟨p1, Nat.le_refl _, Nat.le_refl _⟩
        case oturn =>
          clear F7 N7
          rintro ⟨whole4, tw4, vS4, S4, nS4, vW4, D4, nW4⟩ pre4 op t4 u4 hh4 tk4 own4 hlt4 hop hP4' hS4 hD4 hoS4 hoW4 F8 N8
          dsimp only [wsL] at N8 F8 hS4 hD4
          obtain ⟨g1, g2, g3⟩ := hP4'
          dsimp only at g1 g2 g3
          have hc4 := g1.len
          have hl4 : pre4.length < 4 := hlt4
          have hvS4 := fits_ints hS4 (by omega)
          have hvW4 := fits_ints hD4 (by omega)
          have hoa := List.forall_mem_append.mpr ⟨ho2, hoS4⟩
          have hob := List.forall_mem_append.mpr ⟨ho3, hoW4⟩
          have htx : text.length ≤ 7 := by omega
          have hw4 : whole4.length ≤ 2000 := by omega
          have hop3 := hop.2
          try k_fold
          walk_at "mine steps"
          (rename Fr _ _ _ _ => F9)
          (rename News _ _ _ _ => N9)
          simp only [List.push_toArray] at N9
          have hst := open_step (k := (pre4.length : Int)) hop htx g1 g2 g3
          dsimp only [InvPostN]
          exact grow_close ⟨_, _, _, _, _, _, _, _⟩ F9 N9 (IntsAre.append hS4 (.cons _ _ .nil)) (IntsAre.append hD4 (.cons _ _ .nil)) rfl (by intro y e1 e2 e3; simp [e1, e2]) hst
        case odone =>
          clear F7 N7
          rintro ⟨whole4, tw4, vS4, S4, nS4, vW4, D4, nW4⟩ pre4 u4 hh4 tk4 hlt4 hP4' hS4 hD4 F8 N8
          dsimp only [wsL] at N8 F8 hS4 hD4
          obtain ⟨g1, g2, g3⟩ := hP4'
          dsimp only at g1 g2 g3
          have hl4 : pre4.length = 4 := hlt4
          try k_fold
          walk_at "mine steps"
          dsimp only [InvPostN]
          exact outer_close (⟨_, _, _, _, _, Str.empty, 0⟩, ⟨_, _, _, _, _, _, _, _⟩) (more := []) F8 N8 hS4 hD4 rfl (by intro y e1 e2 e3; simp only [List.contains_cons, List.contains_nil, Bool.or_false, Bool.or_eq_false_iff, beq_eq_false_iff_ne, ne_eq] at e3; simp [e1, e2, e3]) ⟨by (try dsimp only); omega, by (try dsimp only); rw [List.length_append, List.length_singleton]; omega, by (try dsimp only); omega, by (try dsimp only); omega, g1, by (try dsimp only); rw [List.length_append, List.length_singleton]; omega, by (try dsimp only); rw [List.length_append, List.length_singleton]; omega⟩
  case done =>
    clear F1 N1 R1
    rintro ⟨⟨turn, tail, tt, tu, nn, tx0, ttx⟩, ⟨whole, tw, vS, S, nS, vW, D, nW⟩⟩ pre u hh tk hlt hP hS hD F2 N2
    dsimp only [osL, tsL, handL] at N2 F2 hS hD
    obtain ⟨hP1, hP2, hP3, hP4, hP5, hP6, hP7⟩ := hP
    dsimp only at hP1 hP2 hP3 hP4 hP5 hP6 hP7
    have hc := hP5.len
    have hcl := codes_len whole
    have hpl : pre.length ≤ 3 := by omega
    have hw9 : whole.length ≤ 600 := by omega
    have hS9 : S.length ≤ 24 := by omega
    clear hlt hP1 hP2 hP3 hP4 hP6 hP7
    try k_fold
    walk_at "mine steps"
    (rename Fr _ _ _ _ => F3)
    (rename News _ _ _ _ => N3)
    with_unfolding_all refine' final_loop rfl F3 N3 hS hP5 ?fturn ?fdone
    case fturn =>
      clear F3 N3
      rintro ⟨vT, T, nT, i, ti⟩ pre5 post5 n5 t5 u5 hh5 tk5 own5 hSe hT hF hox hot F4 N4
      dsimp only [fsL, strmL, strmD, lexL] at N4
      dsimp only at hT hF
      obtain ⟨f1, f2, f3⟩ := hF.item hSe
      rw [hcl] at f3
      have hlT := hF.len
      have hvT := fits_ints hT (by omega)
      try k_fold
      walk_at "mine steps"
      k_while (fun _ j => i ≤ j ∧ j ≤ n5) (fun _ j => (n5 - j).toNat) "stream.index"
      walk_at "mine steps"
      (rename Fr _ _ _ _ => F5)
      (rename News _ _ _ _ => N5)
      (rename HRel _ _ _ => hH)
      simp only [List.push_toArray] at N5
      dsimp only [InvPostN]
      exact final_close ⟨_, _, _, _, _⟩ F5 N5 (IntsAre.append hT (.cons _ _ .nil)) (by intro y e1; simp [e1]) (hF.step hSe (by omega) hH)
    case fdone =>
      clear F3 N3
      rintro ⟨vT, T, nT, i, ti⟩ u5 hh5 tk5 hT F4 N4
      dsimp only [fsL, strmL, strmD, lexL] at N4
      dsimp only at hT
      try k_fold
      walk_at "mine steps")
end Mine
theorem PySem.Challenge.cw_ez0167_02_holds : PySem.Challenge.rw_ez0167_02.Holds :=
  Mine.law_holds
