import PyProof.Rows.All
import Wide.All
import OpenK.AllK
import Wide.FinOn
import PySem.Challenge.RW_wn0053_01
open PySem PySem.W PySem.Calls PyProof.Rows
set_option Elab.async false
namespace Mine
set_option maxRecDepth 100000 in
set_option maxHeartbeats 8000000 in
open_top hd for PySem.Challenge.rw_wn0053_01
end Mine
namespace Mine
section
noncomputable abbrev LO : List Str := looseW Mine.hd.view_39 [Str.ofString "_twin_re_1", Str.ofString "_twin_re_2", Str.ofString "insort_right", Str.ofString "bisect_right", Str.ofString "bisect_left"]
/-- the summary of a call: whatever the frame, the ledger and what is wanted -/
abbrev Sum1 (w : World) (mean : ExcName → Option Value) (mg mb : Str → Option Value) (d : Nat) (f : Addr) (news news' : List (Addr × Obj)) (vs : List Value) (R : Tok → Value) : Prop :=
  ∀ (dp un : Nat) (gd : Option (List Code)) (cn : Str) (cs : Scope) (a : Addr) (ccd : Value) (cl : List (Str × Addr)) (outer : List Env) (A₀ : Around) (base h₀ : Heap) (L : Addr) (m : Str → Option Value) (s : Shared) (Q E : Value → Shared → Prop),
    Below A₀ base outer h₀ → Fr h₀ L s.heap m → (Mine.hd.heap_39 w.params).In h₀ → News h₀ L s.heap news →
    Top Mine.hd.view_39 LO mean mg mb h₀ → cs.kind = .function → dp + d < recursionLimit → un + 8 * d < cLine →
    (∀ (t : Tok) (h' : Heap) (tk' : Nat), Fr h₀ L h' m → News h₀ L h' news' → Q (R t) { s with heap := h', toks := tk' }) →
    wpAny (model PySem.Challenge.rw_wn0053_01.row.prog w) (ktrTop dp un gd cn cs L a ccd cl outer) (call (.ref f) vs) Q E s
theorem Sum1.use {w : World} {mean : ExcName → Option Value} {mg mb : Str → Option Value} {d : Nat} {f : Addr} {news news' : List (Addr × Obj)} {vs : List Value} {R : Tok → Value}
    {dp un : Nat} {gd : Option (List Code)} {cn : Str} {cs : Scope} {a : Addr} {ccd : Value} {cl : List (Str × Addr)} {outer : List Env} {A₀ : Around} {base h₀ : Heap} {L : Addr} {m : Str → Option Value} {s : Shared} {Q E : Value → Shared → Prop}
    (S : Sum1 w mean mg mb d f news news' vs R) (B : Below A₀ base outer h₀) (F : Fr h₀ L s.heap m) (X : (Mine.hd.heap_39 w.params).In h₀) (N : News h₀ L s.heap news)
    (T : Top Mine.hd.view_39 LO mean mg mb h₀) (hk : cs.kind = .function) (hd : dp + d < recursionLimit) (hu : un + 8 * d < cLine)
    (ret : ∀ (t : Tok) (h' : Heap) (tk' : Nat), Fr h₀ L h' m → News h₀ L h' news' → Q (R t) { s with heap := h', toks := tk' }) :
    wpAny (model PySem.Challenge.rw_wn0053_01.row.prog w) (ktrTop dp un gd cn cs L a ccd cl outer) (call (.ref f) vs) Q E s :=
  S _ _ _ _ _ _ _ _ _ _ _ _ _ _ _ _ _ B F X N T hk hd hu ret
theorem all_ne_of_lt {news : List (Addr × Obj)} {a d : Nat} (h : ∀ p ∈ news, @LT.lt Nat _ p.1 a) (hd : a ≤ d) : ∀ p ∈ news, p.1 ≠ d := fun p hp => Nat.ne_of_lt (Nat.lt_of_lt_of_le (h p hp) hd)

end
end Mine
namespace Mine
section
local macro_rules | `(tactic| is_list) => `(tactic| exact News.isList (by assumption) (by assumption))
local macro_rules | `(tactic| k_room) => `(tactic| ktr_room)
local macro_rules | `(tactic| ktr_enter) => `(tactic| (refine' code_def ?k1 ?k2 ?k3 ?k4 ?k5 ?kA ?kF ?kK ?k6 ?k7 ?k8 ?k9 ?kB ?_ ?c2 ?c3 ?c4 ?c5; (case kA => exact rfl); (case kF => exact rfl); (case kK => assumption); (case k1 => k_asm); (case k2 => k_asm); (case k3 => k_asm); (case k4 => k_asm); (case k5 => k_asm); (case k6 => k_is); (case k7 => k_is); (case k8 => ktr_room); (case k9 => (refine' kp_binds ?kx ?ke; (case kx => k_in); (case ke => exact fun _ => rfl))); (case c5 => decide); (case kB => exact locs rfl); (case c2 => exact rfl); (case c3 => exact rfl); (case c4 => exact rfl); k_whole; intro g' L' h' FG' F' N' B' X' T'; (try dsimp only); (try k_lift B'); (try k_fold)))
local macro_rules | `(tactic| walk_at "subscriptTail Name Name ref int") => `(tactic| ((with_reducible show wpAny _ _ (subscriptTail _ _ (Value.ref _) (Value.int _ _)) _ _ _); (with_unfolding_all refine' item_list_ints ?k1 ?k2 ?k3 ?k4 ?k5 ?_; (case k1 => is_list); (case k2 => l_ints); (case k3 => l_idx); (case k4 => l_idx); (case k5 => l_idx); k_whole); intro _))
local macro_rules | `(tactic| ktr_enter) => `(tactic| (refine' code_defC ?k1 ?k2 ?k3 ?k4 ?k5 ?kA ?kF ?kK ?k6 ?k7 ?k8 ?k9 ?kB ?kD ?_ ?c2 ?c3 ?c4; (case kA => exact rfl); (case kF => exact rfl); (case kK => assumption); (case k1 => k_asm); (case k2 => k_asm); (case k3 => k_asm); (case k4 => k_asm); (case k5 => k_asm); (case k6 => k_is); (case k7 => k_is); (case k8 => k_room); (case k9 => exact BindsTo.of_eq rfl); (case kB => exact rfl); (case kD => decide +kernel); (case c2 => exact rfl); (case c3 => exact rfl); (case c4 => exact rfl); k_whole; intro g' L' h' tk' cells' FG' F' N' Y' B' X' T' l1; (try k_lt l1); k_cells Y'; (try simp only [List.cons_append, List.nil_append] at N'); (try dsimp only); (try k_lift B'); (try k_fold)))
local macro_rules | `(tactic| k_all) => `(tactic| exact all_ne_of_lt (by assumption) (by omega))
local macro_rules | `(tactic| walk_at "CompEnd") => `(tactic| refine LCg.CompEnd.intro (by assumption) (by assumption) _ (fun _ h => h) (by assumption) (by first | exact True.intro | lcg_src) ?_)
local macro_rules | `(tactic| walk_at "InvEndN") => `(tactic| k_dflt kst_close)
local macro_rules | `(tactic| ktr_step) => `(tactic| repeat' ((fail_if_success (with_reducible show wpAny _ _ (pyIter _) _ _ _)); first | (k_unfold; (try dsimp only)) | (k_end; wrow_close) | walk1 | (dsimp only; walk1) | (leave1; walk_say "STEP leave1"; try dsimp only) | fail "no step"))
/-- bisect_right's loop, with fuel -/
def brl (ns : List Int) (x : Int) : Nat → Int → Int → Int
  | 0, lo, _ => lo
  | k + 1, lo, hi => if lo < hi then (if x < ns.getD (Int.fdiv (lo + hi) 2).toNat 0 then brl ns x k lo (Int.fdiv (lo + hi) 2) else brl ns x k (Int.fdiv (lo + hi) 2 + 1) hi) else lo
theorem mid_lt {lo hi : Int} (h : lo < hi) : lo ≤ Int.fdiv (lo + hi) 2 ∧ Int.fdiv (lo + hi) 2 < hi := by
  rw [Int.fdiv_eq_ediv_of_nonneg _ (by omega : (0 : Int) ≤ 2)]; omega
theorem brl_fuel (ns : List Int) (x : Int) : ∀ (k j : Nat) (lo hi : Int), (hi - lo).toNat ≤ k → (hi - lo).toNat ≤ j → brl ns x k lo hi = brl ns x j lo hi := by
  intro k
  induction k with
  | zero =>
    intro j lo hi h1 _
    cases j with
    | zero => rfl
    | succ j => unfold brl; rw [if_neg (by omega)]
  | succ k ih =>
    intro j lo hi h1 h2
    cases j with
    | zero => unfold brl; rw [if_neg (by omega)]
    | succ j =>
      unfold brl
      by_cases h : lo < hi
      · have m := mid_lt h
        rw [if_pos h, if_pos h]
        rw [ih j lo _ (by omega) (by omega), ih j _ hi (by omega) (by omega)]
      · rw [if_neg h, if_neg h]
def brs (ns : List Int) (x lo hi : Int) : Int := brl ns x (hi - lo).toNat lo hi
theorem brs_stop {ns : List Int} {x lo hi : Int} (h : ¬ lo < hi) : brs ns x lo hi = lo := by
  unfold brs
  rw [show (hi - lo).toNat = 0 from by omega]
  rfl
theorem brs_down {ns : List Int} {x lo hi : Int} (h : lo < hi) (hx : x < ns.getD (Int.fdiv (lo + hi) 2).toNat 0) : brs ns x lo (Int.fdiv (lo + hi) 2) = brs ns x lo hi := by
  have m := mid_lt h
  have e : brs ns x lo hi = brl ns x ((hi - lo).toNat - 1 + 1) lo hi := by unfold brs; rw [show (hi - lo).toNat - 1 + 1 = (hi - lo).toNat from by omega]
  rw [e]
  show _ = if lo < hi then _ else _
  rw [if_pos h, if_pos hx]
  exact brl_fuel _ _ _ _ _ _ (by omega) (by omega)
theorem brs_up {ns : List Int} {x lo hi : Int} (h : lo < hi) (hx : ¬ x < ns.getD (Int.fdiv (lo + hi) 2).toNat 0) : brs ns x (Int.fdiv (lo + hi) 2 + 1) hi = brs ns x lo hi := by
  have m := mid_lt h
  have e : brs ns x lo hi = brl ns x ((hi - lo).toNat - 1 + 1) lo hi := by unfold brs; rw [show (hi - lo).toNat - 1 + 1 = (hi - lo).toNat from by omega]
  rw [e]
  show _ = if lo < hi then _ else _
  rw [if_pos h, if_neg hx]
  exact brl_fuel _ _ _ _ _ _ (by omega) (by omega)
def bisR (ns : List Int) (x : Int) : Int := brs ns x 0 ns.length
theorem br_start {ns : List Int} {x : Int} : (0 : Int) ≤ 0 ∧ (0 : Int) ≤ (ns.length : Int) ∧ (ns.length : Int) ≤ (ns.length : Int) ∧ brs ns x 0 (ns.length : Int) = bisR ns x := ⟨Int.le_refl _, by omega, Int.le_refl _, rfl⟩
theorem br_dn {ns : List Int} {x lo hi r : Int} (h1 : 0 ≤ lo) (h3 : hi ≤ (ns.length : Int)) (h4 : brs ns x lo hi = r) (h : lo < hi) (hx : x < ns.getD (Int.fdiv (lo + hi) 2).toNat 0) :
    0 ≤ lo ∧ lo ≤ Int.fdiv (lo + hi) 2 ∧ Int.fdiv (lo + hi) 2 ≤ (ns.length : Int) ∧ brs ns x lo (Int.fdiv (lo + hi) 2) = r :=
  have m := mid_lt h
  ⟨h1, m.1, by omega, (brs_down h hx).trans h4⟩
theorem br_up {ns : List Int} {x lo hi r : Int} (h1 : 0 ≤ lo) (h3 : hi ≤ (ns.length : Int)) (h4 : brs ns x lo hi = r) (h : lo < hi) (hx : ¬ x < ns.getD (Int.fdiv (lo + hi) 2).toNat 0) :
    0 ≤ Int.fdiv (lo + hi) 2 + 1 ∧ Int.fdiv (lo + hi) 2 + 1 ≤ hi ∧ hi ≤ (ns.length : Int) ∧ brs ns x (Int.fdiv (lo + hi) 2 + 1) hi = r :=
  have m := mid_lt h
  ⟨by omega, by omega, h3, (brs_up h hx).trans h4⟩
theorem br_mdn {lo hi : Int} (h : lo < hi) : (Int.fdiv (lo + hi) 2 - lo).toNat < (hi - lo).toNat := by
  have m := mid_lt h
  omega
theorem br_mup {lo hi : Int} (h : lo < hi) : (hi - (Int.fdiv (lo + hi) 2 + 1)).toNat < (hi - lo).toNat := by
  have m := mid_lt h
  omega
set_option maxRecDepth 100000 in
set_option maxHeartbeats 4000000 in
theorem bisR_sum {w mean mg mb} (news : List (Addr × Obj)) (l : Addr) (n : Nat) (vs : List Value) (ns : List Int) (x : Int) (t : Tok)
    (hl : (l, W.listOf vs.toArray n) ∈ news) (hi : IntsAre vs ns) (hlen : ns.length < 2 ^ 20) : Sum1 w mean mg mb 1 66 news news [.ref l, .int x t] (fun t => .int (bisR ns x) t) := by
  w_on
  w_top off
  k_with_none
  unfold Sum1
  k_fill
  intro dp un gd cn cs a ccd cl outer A₀ base h₀ L m s Q E B F X N T hk hd hu hret
  refine wpAny_call ?_
  k_dflt ktr_enter
  k_with "exec While Compare cons nil" => k_while (fun ns lo hi => 0 ≤ lo ∧ lo ≤ hi ∧ hi ≤ (ns.length : Int) ∧ brs ns x lo hi = bisR ns x) (fun _ lo hi => (hi - lo).toNat) "lo" "hi"
  k_with "state" => (first | exact br_start | exact br_dn (by assumption) (by assumption) (by assumption) (by assumption) (by assumption) | exact br_up (by assumption) (by assumption) (by assumption) (by assumption) (by assumption))
  k_with "measure" => (first | exact br_mdn (by assumption) | exact br_mup (by assumption))
  k_steps
  refine cb_retI hret ?_ (by k_asm) (by k_asm)
  exact (brs_stop (by assumption)).symm.trans (by assumption)
set_option maxRecDepth 100000 in
set_option maxHeartbeats 4000000 in
theorem bisR_sum4 {w mean mg mb} (news : List (Addr × Obj)) (l : Addr) (n : Nat) (vs : List Value) (ns : List Int) (x : Int) (t t₀ : Tok)
    (hl : (l, W.listOf vs.toArray n) ∈ news) (hi : IntsAre vs ns) (hlen : ns.length < 2 ^ 20) : Sum1 w mean mg mb 1 66 news news [.ref l, .int x t, .int 0 t₀, .none] (fun t => .int (bisR ns x) t) := by
  w_on
  w_top off
  k_with_none
  unfold Sum1
  k_fill
  intro dp un gd cn cs a ccd cl outer A₀ base h₀ L m s Q E B F X N T hk hd hu hret
  refine wpAny_call ?_
  k_dflt ktr_enter
  k_with "exec While Compare cons nil" => k_while (fun ns lo hi => 0 ≤ lo ∧ lo ≤ hi ∧ hi ≤ (ns.length : Int) ∧ brs ns x lo hi = bisR ns x) (fun _ lo hi => (hi - lo).toNat) "lo" "hi"
  k_with "state" => (first | exact br_start | exact br_dn (by assumption) (by assumption) (by assumption) (by assumption) (by assumption) | exact br_up (by assumption) (by assumption) (by assumption) (by assumption) (by assumption))
  k_with "measure" => (first | exact br_mdn (by assumption) | exact br_mup (by assumption))
  k_steps
  refine cb_retI hret ?_ (by k_asm) (by k_asm)
  exact (brs_stop (by assumption)).symm.trans (by assumption)

end
end Mine
namespace Mine
section
local macro_rules | `(tactic| is_list) => `(tactic| exact News.isList (by assumption) (by assumption))
local macro_rules | `(tactic| k_room) => `(tactic| ktr_room)
local macro_rules | `(tactic| ktr_enter) => `(tactic| (refine' code_def ?k1 ?k2 ?k3 ?k4 ?k5 ?kA ?kF ?kK ?k6 ?k7 ?k8 ?k9 ?kB ?_ ?c2 ?c3 ?c4 ?c5; (case kA => exact rfl); (case kF => exact rfl); (case kK => assumption); (case k1 => k_asm); (case k2 => k_asm); (case k3 => k_asm); (case k4 => k_asm); (case k5 => k_asm); (case k6 => k_is); (case k7 => k_is); (case k8 => ktr_room); (case k9 => (refine' kp_binds ?kx ?ke; (case kx => k_in); (case ke => exact fun _ => rfl))); (case c5 => decide); (case kB => exact locs rfl); (case c2 => exact rfl); (case c3 => exact rfl); (case c4 => exact rfl); k_whole; intro g' L' h' FG' F' N' B' X' T'; (try dsimp only); (try k_lift B'); (try k_fold)))
local macro_rules | `(tactic| walk_at "subscriptTail Name Name ref int") => `(tactic| ((with_reducible show wpAny _ _ (subscriptTail _ _ (Value.ref _) (Value.int _ _)) _ _ _); (with_unfolding_all refine' item_list_ints ?k1 ?k2 ?k3 ?k4 ?k5 ?_; (case k1 => is_list); (case k2 => l_ints); (case k3 => l_idx); (case k4 => l_idx); (case k5 => l_idx); k_whole); intro _))
local macro_rules | `(tactic| ktr_enter) => `(tactic| (refine' code_defC ?k1 ?k2 ?k3 ?k4 ?k5 ?kA ?kF ?kK ?k6 ?k7 ?k8 ?k9 ?kB ?kD ?_ ?c2 ?c3 ?c4; (case kA => exact rfl); (case kF => exact rfl); (case kK => assumption); (case k1 => k_asm); (case k2 => k_asm); (case k3 => k_asm); (case k4 => k_asm); (case k5 => k_asm); (case k6 => k_is); (case k7 => k_is); (case k8 => k_room); (case k9 => exact BindsTo.of_eq rfl); (case kB => exact rfl); (case kD => decide +kernel); (case c2 => exact rfl); (case c3 => exact rfl); (case c4 => exact rfl); k_whole; intro g' L' h' tk' cells' FG' F' N' Y' B' X' T' l1; (try k_lt l1); k_cells Y'; (try simp only [List.cons_append, List.nil_append] at N'); (try dsimp only); (try k_lift B'); (try k_fold)))
local macro_rules | `(tactic| k_all) => `(tactic| exact all_ne_of_lt (by assumption) (by omega))
local macro_rules | `(tactic| walk_at "CompEnd") => `(tactic| refine LCg.CompEnd.intro (by assumption) (by assumption) _ (fun _ h => h) (by assumption) (by first | exact True.intro | lcg_src) ?_)
local macro_rules | `(tactic| walk_at "InvEndN") => `(tactic| k_dflt kst_close)
local macro_rules | `(tactic| ktr_step) => `(tactic| repeat' ((fail_if_success (with_reducible show wpAny _ _ (pyIter _) _ _ _)); first | (k_unfold; (try dsimp only)) | (k_end; wrow_close) | walk1 | (dsimp only; walk1) | (leave1; walk_say "STEP leave1"; try dsimp only) | fail "no step"))
local macro_rules | `(tactic| walk_at "call ref") => `(tactic| ((with_reducible show wpAny _ _ (call (Value.ref 66) [Value.ref _, Value.int _ _] _) _ _ _); k_dflt (refine' Sum1.use (bisR_sum _ _ _ _ _ _ _ ?sl ?si ?sn) ?k1 ?k2 ?k3 ?k4 ?k5 ?kK ?kd ?ku ?_; (case k1 => k_asm); (case k2 => k_asm); (case k3 => k_asm); (case k4 => k_asm); (case k5 => k_asm); (case sl => first | assumption | k_mem); (case si => l_ints); (case sn => l_fit); (case kK => first | exact rfl | assumption); (case kd => ktr_room); (case ku => ktr_units)); (intro t9 h9 tk9 F9 N9); (try dsimp only); (try k_fold)))
local macro_rules | `(tactic| walk_at "call ref") => `(tactic| ((with_reducible show wpAny _ _ (call (Value.ref 66) [Value.ref _, Value.int _ _, Value.int 0 _, Value.none] _) _ _ _); k_dflt (refine' Sum1.use (bisR_sum4 _ _ _ _ _ _ _ _ ?sl ?si ?sn) ?k1 ?k2 ?k3 ?k4 ?k5 ?kK ?kd ?ku ?_; (case k1 => k_asm); (case k2 => k_asm); (case k3 => k_asm); (case k4 => k_asm); (case k5 => k_asm); (case sl => first | assumption | k_mem); (case si => l_ints); (case sn => l_fit); (case kK => first | exact rfl | assumption); (case kd => ktr_room); (case ku => ktr_units)); (intro t9 h9 tk9 F9 N9); (try dsimp only); (try k_fold)))
/-- bisect_left's loop, with fuel -/
def bll (ns : List Int) (x : Int) : Nat → Int → Int → Int
  | 0, lo, _ => lo
  | k + 1, lo, hi => if lo < hi then (if ns.getD (Int.fdiv (lo + hi) 2).toNat 0 < x then bll ns x k (Int.fdiv (lo + hi) 2 + 1) hi else bll ns x k lo (Int.fdiv (lo + hi) 2)) else lo
theorem bll_fuel (ns : List Int) (x : Int) : ∀ (k j : Nat) (lo hi : Int), (hi - lo).toNat ≤ k → (hi - lo).toNat ≤ j → bll ns x k lo hi = bll ns x j lo hi := by
  intro k
  induction k with
  | zero =>
    intro j lo hi h1 _
    cases j with
    | zero => rfl
    | succ j => unfold bll; rw [if_neg (by omega)]
  | succ k ih =>
    intro j lo hi h1 h2
    cases j with
    | zero => unfold bll; rw [if_neg (by omega)]
    | succ j =>
      unfold bll
      by_cases h : lo < hi
      · have m := mid_lt h
        rw [if_pos h, if_pos h]
        rw [ih j _ hi (by omega) (by omega), ih j lo _ (by omega) (by omega)]
      · rw [if_neg h, if_neg h]
def bls (ns : List Int) (x lo hi : Int) : Int := bll ns x (hi - lo).toNat lo hi
theorem bls_stop {ns : List Int} {x lo hi : Int} (h : ¬ lo < hi) : bls ns x lo hi = lo := by
  unfold bls
  rw [show (hi - lo).toNat = 0 from by omega]
  rfl
theorem bls_down {ns : List Int} {x lo hi : Int} (h : lo < hi) (hx : ¬ ns.getD (Int.fdiv (lo + hi) 2).toNat 0 < x) : bls ns x lo (Int.fdiv (lo + hi) 2) = bls ns x lo hi := by
  have m := mid_lt h
  have e : bls ns x lo hi = bll ns x ((hi - lo).toNat - 1 + 1) lo hi := by unfold bls; rw [show (hi - lo).toNat - 1 + 1 = (hi - lo).toNat from by omega]
  rw [e]
  show _ = if lo < hi then _ else _
  rw [if_pos h, if_neg hx]
  exact bll_fuel _ _ _ _ _ _ (by omega) (by omega)
theorem bls_up {ns : List Int} {x lo hi : Int} (h : lo < hi) (hx : ns.getD (Int.fdiv (lo + hi) 2).toNat 0 < x) : bls ns x (Int.fdiv (lo + hi) 2 + 1) hi = bls ns x lo hi := by
  have m := mid_lt h
  have e : bls ns x lo hi = bll ns x ((hi - lo).toNat - 1 + 1) lo hi := by unfold bls; rw [show (hi - lo).toNat - 1 + 1 = (hi - lo).toNat from by omega]
  rw [e]
  show _ = if lo < hi then _ else _
  rw [if_pos h, if_pos hx]
  exact bll_fuel _ _ _ _ _ _ (by omega) (by omega)
def bisL (ns : List Int) (x : Int) : Int := bls ns x 0 ns.length
theorem bl_start {ns : List Int} {x : Int} : (0 : Int) ≤ 0 ∧ (0 : Int) ≤ (ns.length : Int) ∧ (ns.length : Int) ≤ (ns.length : Int) ∧ bls ns x 0 (ns.length : Int) = bisL ns x := ⟨Int.le_refl _, by omega, Int.le_refl _, rfl⟩
theorem bl_dn {ns : List Int} {x lo hi r : Int} (h1 : 0 ≤ lo) (h3 : hi ≤ (ns.length : Int)) (h4 : bls ns x lo hi = r) (h : lo < hi) (hx : ¬ ns.getD (Int.fdiv (lo + hi) 2).toNat 0 < x) :
    0 ≤ lo ∧ lo ≤ Int.fdiv (lo + hi) 2 ∧ Int.fdiv (lo + hi) 2 ≤ (ns.length : Int) ∧ bls ns x lo (Int.fdiv (lo + hi) 2) = r :=
  have m := mid_lt h
  ⟨h1, m.1, by omega, (bls_down h hx).trans h4⟩
theorem bl_up {ns : List Int} {x lo hi r : Int} (h1 : 0 ≤ lo) (h3 : hi ≤ (ns.length : Int)) (h4 : bls ns x lo hi = r) (h : lo < hi) (hx : ns.getD (Int.fdiv (lo + hi) 2).toNat 0 < x) :
    0 ≤ Int.fdiv (lo + hi) 2 + 1 ∧ Int.fdiv (lo + hi) 2 + 1 ≤ hi ∧ hi ≤ (ns.length : Int) ∧ bls ns x (Int.fdiv (lo + hi) 2 + 1) hi = r :=
  have m := mid_lt h
  ⟨by omega, by omega, h3, (bls_up h hx).trans h4⟩
theorem bl_mdn {lo hi : Int} (h : lo < hi) : (Int.fdiv (lo + hi) 2 - lo).toNat < (hi - lo).toNat := by
  have m := mid_lt h
  omega
theorem bl_mup {lo hi : Int} (h : lo < hi) : (hi - (Int.fdiv (lo + hi) 2 + 1)).toNat < (hi - lo).toNat := by
  have m := mid_lt h
  omega
set_option maxRecDepth 100000 in
set_option maxHeartbeats 4000000 in
theorem bisL_sum {w mean mg mb} (news : List (Addr × Obj)) (l : Addr) (n : Nat) (vs : List Value) (ns : List Int) (x : Int) (t : Tok)
    (hl : (l, W.listOf vs.toArray n) ∈ news) (hi : IntsAre vs ns) (hlen : ns.length < 2 ^ 20) : Sum1 w mean mg mb 1 75 news news [.ref l, .int x t] (fun t => .int (bisL ns x) t) := by
  w_on
  w_top off
  k_with_none
  unfold Sum1
  k_fill
  intro dp un gd cn cs a ccd cl outer A₀ base h₀ L m s Q E B F X N T hk hd hu hret
  refine wpAny_call ?_
  k_dflt ktr_enter
  k_with "exec While Compare cons nil" => k_while (fun ns lo hi => 0 ≤ lo ∧ lo ≤ hi ∧ hi ≤ (ns.length : Int) ∧ bls ns x lo hi = bisL ns x) (fun _ lo hi => (hi - lo).toNat) "lo" "hi"
  k_with "state" => (first | exact bl_start | exact bl_dn (by assumption) (by assumption) (by assumption) (by assumption) (by assumption) | exact bl_up (by assumption) (by assumption) (by assumption) (by assumption) (by assumption))
  k_with "measure" => (first | exact bl_mdn (by assumption) | exact bl_mup (by assumption))
  k_steps
  refine cb_retI hret ?_ (by k_asm) (by k_asm)
  exact (bls_stop (by assumption)).symm.trans (by assumption)

end
end Mine
namespace Mine
section
local macro_rules | `(tactic| is_list) => `(tactic| exact News.isList (by assumption) (by assumption))
local macro_rules | `(tactic| k_room) => `(tactic| ktr_room)
local macro_rules | `(tactic| ktr_enter) => `(tactic| (refine' code_def ?k1 ?k2 ?k3 ?k4 ?k5 ?kA ?kF ?kK ?k6 ?k7 ?k8 ?k9 ?kB ?_ ?c2 ?c3 ?c4 ?c5; (case kA => exact rfl); (case kF => exact rfl); (case kK => assumption); (case k1 => k_asm); (case k2 => k_asm); (case k3 => k_asm); (case k4 => k_asm); (case k5 => k_asm); (case k6 => k_is); (case k7 => k_is); (case k8 => ktr_room); (case k9 => (refine' kp_binds ?kx ?ke; (case kx => k_in); (case ke => exact fun _ => rfl))); (case c5 => decide); (case kB => exact locs rfl); (case c2 => exact rfl); (case c3 => exact rfl); (case c4 => exact rfl); k_whole; intro g' L' h' FG' F' N' B' X' T'; (try dsimp only); (try k_lift B'); (try k_fold)))
local macro_rules | `(tactic| walk_at "subscriptTail Name Name ref int") => `(tactic| ((with_reducible show wpAny _ _ (subscriptTail _ _ (Value.ref _) (Value.int _ _)) _ _ _); (with_unfolding_all refine' item_list_ints ?k1 ?k2 ?k3 ?k4 ?k5 ?_; (case k1 => is_list); (case k2 => l_ints); (case k3 => l_idx); (case k4 => l_idx); (case k5 => l_idx); k_whole); intro _))
local macro_rules | `(tactic| ktr_enter) => `(tactic| (refine' code_defC ?k1 ?k2 ?k3 ?k4 ?k5 ?kA ?kF ?kK ?k6 ?k7 ?k8 ?k9 ?kB ?kD ?_ ?c2 ?c3 ?c4; (case kA => exact rfl); (case kF => exact rfl); (case kK => assumption); (case k1 => k_asm); (case k2 => k_asm); (case k3 => k_asm); (case k4 => k_asm); (case k5 => k_asm); (case k6 => k_is); (case k7 => k_is); (case k8 => k_room); (case k9 => exact BindsTo.of_eq rfl); (case kB => exact rfl); (case kD => decide +kernel); (case c2 => exact rfl); (case c3 => exact rfl); (case c4 => exact rfl); k_whole; intro g' L' h' tk' cells' FG' F' N' Y' B' X' T' l1; (try k_lt l1); k_cells Y'; (try simp only [List.cons_append, List.nil_append] at N'); (try dsimp only); (try k_lift B'); (try k_fold)))
local macro_rules | `(tactic| k_all) => `(tactic| exact all_ne_of_lt (by assumption) (by omega))
local macro_rules | `(tactic| walk_at "CompEnd") => `(tactic| refine LCg.CompEnd.intro (by assumption) (by assumption) _ (fun _ h => h) (by assumption) (by first | exact True.intro | lcg_src) ?_)
local macro_rules | `(tactic| walk_at "InvEndN") => `(tactic| k_dflt kst_close)
local macro_rules | `(tactic| ktr_step) => `(tactic| repeat' ((fail_if_success (with_reducible show wpAny _ _ (pyIter _) _ _ _)); first | (k_unfold; (try dsimp only)) | (k_end; wrow_close) | walk1 | (dsimp only; walk1) | (leave1; walk_say "STEP leave1"; try dsimp only) | fail "no step"))
local macro_rules | `(tactic| walk_at "call ref") => `(tactic| ((with_reducible show wpAny _ _ (call (Value.ref 66) [Value.ref _, Value.int _ _] _) _ _ _); k_dflt (refine' Sum1.use (bisR_sum _ _ _ _ _ _ _ ?sl ?si ?sn) ?k1 ?k2 ?k3 ?k4 ?k5 ?kK ?kd ?ku ?_; (case k1 => k_asm); (case k2 => k_asm); (case k3 => k_asm); (case k4 => k_asm); (case k5 => k_asm); (case sl => first | assumption | k_mem); (case si => l_ints); (case sn => l_fit); (case kK => first | exact rfl | assumption); (case kd => ktr_room); (case ku => ktr_units)); (intro t9 h9 tk9 F9 N9); (try dsimp only); (try k_fold)))
local macro_rules | `(tactic| walk_at "call ref") => `(tactic| ((with_reducible show wpAny _ _ (call (Value.ref 66) [Value.ref _, Value.int _ _, Value.int 0 _, Value.none] _) _ _ _); k_dflt (refine' Sum1.use (bisR_sum4 _ _ _ _ _ _ _ _ ?sl ?si ?sn) ?k1 ?k2 ?k3 ?k4 ?k5 ?kK ?kd ?ku ?_; (case k1 => k_asm); (case k2 => k_asm); (case k3 => k_asm); (case k4 => k_asm); (case k5 => k_asm); (case sl => first | assumption | k_mem); (case si => l_ints); (case sn => l_fit); (case kK => first | exact rfl | assumption); (case kd => ktr_room); (case ku => ktr_units)); (intro t9 h9 tk9 F9 N9); (try dsimp only); (try k_fold)))
local macro_rules | `(tactic| walk_at "call ref") => `(tactic| ((with_reducible show wpAny _ _ (call (Value.ref 75) [Value.ref _, Value.int _ _] _) _ _ _); k_dflt (refine' Sum1.use (bisL_sum _ _ _ _ _ _ _ ?sl ?si ?sn) ?k1 ?k2 ?k3 ?k4 ?k5 ?kK ?kd ?ku ?_; (case k1 => k_asm); (case k2 => k_asm); (case k3 => k_asm); (case k4 => k_asm); (case k5 => k_asm); (case sl => first | assumption | k_mem); (case si => l_ints); (case sn => l_fit); (case kK => first | exact rfl | assumption); (case kd => ktr_room); (case ku => ktr_units)); (intro t9 h9 tk9 F9 N9); (try dsimp only); (try k_fold)))
theorem brl_bounds (ns : List Int) (x : Int) : ∀ (k : Nat) (lo hi : Int), lo ≤ hi → lo ≤ brl ns x k lo hi ∧ brl ns x k lo hi ≤ hi := by
  intro k
  induction k with
  | zero => intro lo hi h; exact ⟨Int.le_refl _, h⟩
  | succ k ih =>
    intro lo hi h
    unfold brl
    by_cases hlt : lo < hi
    · have m := mid_lt hlt
      rw [if_pos hlt]
      split
      · have := ih lo (Int.fdiv (lo + hi) 2) (by omega); omega
      · have := ih (Int.fdiv (lo + hi) 2 + 1) hi (by omega); omega
    · rw [if_neg hlt]; omega
theorem bisR_bounds (ns : List Int) (x : Int) : 0 ≤ bisR ns x ∧ bisR ns x ≤ (ns.length : Int) := brl_bounds ns x _ 0 _ (by omega)
def insR (ns : List Int) (x : Int) : List Int := ns.take (bisR ns x).toNat ++ x :: ns.drop (bisR ns x).toNat
def insV (vs : List Value) (ns : List Int) (x : Int) (t : Tok) : List Value := kl_ins vs (bisR ns x) (.int x t)
theorem insV_are {vs : List Value} {ns : List Int} (hi : IntsAre vs ns) (x : Int) (t : Tok) : IntsAre (insV vs ns x t) (insR ns x) := by
  have b := bisR_bounds ns x
  have hl := IntsAre.length hi
  unfold insV insR kl_ins
  rw [if_neg (by omega), show min (bisR ns x).toNat vs.length = (bisR ns x).toNat from by omega]
  exact IntsAre.append (hi.take _) (IntsAre.cons _ _ (hi.drop _))
theorem insR_length (ns : List Int) (x : Int) : (insR ns x).length = ns.length + 1 := by
  have b := bisR_bounds ns x
  unfold insR
  rw [List.length_append, List.length_cons, List.length_take, List.length_drop]
  omega
theorem ins_fits {ns : List Int} {x : Int} (h : ns.length < 2 ^ 20) : Builtin.List.listFitsIndex (bisR ns x) = true := by
  have b := bisR_bounds ns x
  unfold Builtin.List.listFitsIndex
  rw [Bool.and_eq_true]
  exact ⟨decide_eq_true (by omega), decide_eq_true (by omega)⟩
set_option maxRecDepth 100000 in
set_option maxHeartbeats 4000000 in
theorem insR_sum {w mean mg mb} (news news' : List (Addr × Obj)) (l : Addr) (n : Nat) (vs : List Value) (ns : List Int) (x : Int) (t : Tok)
    (hl : (l, W.listOf vs.toArray n) ∈ news) (hi : IntsAre vs ns) (hlen : ns.length < 2 ^ 20) (hU : Upd l (W.listOf vs.toArray n) (W.listOf (insV vs ns x t).toArray (n + 1)) news news') :
    Sum1 w mean mg mb 2 57 news news' [.ref l, .int x t] (fun _ => .none) := by
  w_on
  w_top off
  k_with_none
  unfold Sum1
  k_fill
  intro dp un gd cn cs a ccd cl outer A₀ base h₀ L m s Q E B F X N T hk hd hu hret
  refine wpAny_call ?_
  k_dflt ktr_enter
  k_steps
  refine' kl_insert (its := vs.toArray) (n := n) (l := insV vs ns x t) ?F ?N ?f ?e ?U ?z ?_
  case F => k_asm
  case N => k_asm
  case f => exact ins_fits hlen
  case e => rfl
  case U => exact hU
  case z => (have hL := IntsAre.length hi); rw [sizeLine_eq]; show vs.length ≤ _; omega
  intro h9 F9 N9
  k_steps
  exact hret 0 _ _ (by k_asm) (by k_asm)

end
end Mine
namespace Mine
section
local macro_rules | `(tactic| is_list) => `(tactic| exact News.isList (by assumption) (by assumption))
local macro_rules | `(tactic| k_room) => `(tactic| ktr_room)
local macro_rules | `(tactic| ktr_enter) => `(tactic| (refine' code_def ?k1 ?k2 ?k3 ?k4 ?k5 ?kA ?kF ?kK ?k6 ?k7 ?k8 ?k9 ?kB ?_ ?c2 ?c3 ?c4 ?c5; (case kA => exact rfl); (case kF => exact rfl); (case kK => assumption); (case k1 => k_asm); (case k2 => k_asm); (case k3 => k_asm); (case k4 => k_asm); (case k5 => k_asm); (case k6 => k_is); (case k7 => k_is); (case k8 => ktr_room); (case k9 => (refine' kp_binds ?kx ?ke; (case kx => k_in); (case ke => exact fun _ => rfl))); (case c5 => decide); (case kB => exact locs rfl); (case c2 => exact rfl); (case c3 => exact rfl); (case c4 => exact rfl); k_whole; intro g' L' h' FG' F' N' B' X' T'; (try dsimp only); (try k_lift B'); (try k_fold)))
local macro_rules | `(tactic| walk_at "subscriptTail Name Name ref int") => `(tactic| ((with_reducible show wpAny _ _ (subscriptTail _ _ (Value.ref _) (Value.int _ _)) _ _ _); (with_unfolding_all refine' item_list_ints ?k1 ?k2 ?k3 ?k4 ?k5 ?_; (case k1 => is_list); (case k2 => l_ints); (case k3 => l_idx); (case k4 => l_idx); (case k5 => l_idx); k_whole); intro _))
local macro_rules | `(tactic| ktr_enter) => `(tactic| (refine' code_defC ?k1 ?k2 ?k3 ?k4 ?k5 ?kA ?kF ?kK ?k6 ?k7 ?k8 ?k9 ?kB ?kD ?_ ?c2 ?c3 ?c4; (case kA => exact rfl); (case kF => exact rfl); (case kK => assumption); (case k1 => k_asm); (case k2 => k_asm); (case k3 => k_asm); (case k4 => k_asm); (case k5 => k_asm); (case k6 => k_is); (case k7 => k_is); (case k8 => k_room); (case k9 => exact BindsTo.of_eq rfl); (case kB => exact rfl); (case kD => decide +kernel); (case c2 => exact rfl); (case c3 => exact rfl); (case c4 => exact rfl); k_whole; intro g' L' h' tk' cells' FG' F' N' Y' B' X' T' l1; (try k_lt l1); k_cells Y'; (try simp only [List.cons_append, List.nil_append] at N'); (try dsimp only); (try k_lift B'); (try k_fold)))
local macro_rules | `(tactic| k_all) => `(tactic| exact all_ne_of_lt (by assumption) (by omega))
local macro_rules | `(tactic| walk_at "CompEnd") => `(tactic| refine LCg.CompEnd.intro (by assumption) (by assumption) _ (fun _ h => h) (by assumption) (by first | exact True.intro | lcg_src) ?_)
local macro_rules | `(tactic| walk_at "InvEndN") => `(tactic| k_dflt kst_close)
local macro_rules | `(tactic| ktr_step) => `(tactic| repeat' ((fail_if_success (with_reducible show wpAny _ _ (pyIter _) _ _ _)); first | (k_unfold; (try dsimp only)) | (k_end; wrow_close) | walk1 | (dsimp only; walk1) | (leave1; walk_say "STEP leave1"; try dsimp only) | fail "no step"))
local macro_rules | `(tactic| walk_at "call ref") => `(tactic| ((with_reducible show wpAny _ _ (call (Value.ref 66) [Value.ref _, Value.int _ _] _) _ _ _); k_dflt (refine' Sum1.use (bisR_sum _ _ _ _ _ _ _ ?sl ?si ?sn) ?k1 ?k2 ?k3 ?k4 ?k5 ?kK ?kd ?ku ?_; (case k1 => k_asm); (case k2 => k_asm); (case k3 => k_asm); (case k4 => k_asm); (case k5 => k_asm); (case sl => first | assumption | k_mem); (case si => l_ints); (case sn => l_fit); (case kK => first | exact rfl | assumption); (case kd => ktr_room); (case ku => ktr_units)); (intro t9 h9 tk9 F9 N9); (try dsimp only); (try k_fold)))
local macro_rules | `(tactic| walk_at "call ref") => `(tactic| ((with_reducible show wpAny _ _ (call (Value.ref 66) [Value.ref _, Value.int _ _, Value.int 0 _, Value.none] _) _ _ _); k_dflt (refine' Sum1.use (bisR_sum4 _ _ _ _ _ _ _ _ ?sl ?si ?sn) ?k1 ?k2 ?k3 ?k4 ?k5 ?kK ?kd ?ku ?_; (case k1 => k_asm); (case k2 => k_asm); (case k3 => k_asm); (case k4 => k_asm); (case k5 => k_asm); (case sl => first | assumption | k_mem); (case si => l_ints); (case sn => l_fit); (case kK => first | exact rfl | assumption); (case kd => ktr_room); (case ku => ktr_units)); (intro t9 h9 tk9 F9 N9); (try dsimp only); (try k_fold)))
local macro_rules | `(tactic| walk_at "call ref") => `(tactic| ((with_reducible show wpAny _ _ (call (Value.ref 75) [Value.ref _, Value.int _ _] _) _ _ _); k_dflt (refine' Sum1.use (bisL_sum _ _ _ _ _ _ _ ?sl ?si ?sn) ?k1 ?k2 ?k3 ?k4 ?k5 ?kK ?kd ?ku ?_; (case k1 => k_asm); (case k2 => k_asm); (case k3 => k_asm); (case k4 => k_asm); (case k5 => k_asm); (case sl => first | assumption | k_mem); (case si => l_ints); (case sn => l_fit); (case kK => first | exact rfl | assumption); (case kd => ktr_room); (case ku => ktr_units)); (intro t9 h9 tk9 F9 N9); (try dsimp only); (try k_fold)))
local macro_rules | `(tactic| walk_at "no key") => `(tactic| skip)
def foundF (ns : List Int) (x : Int) : Int := bisR ns x - bisL ns x
set_option maxRecDepth 100000 in
set_option maxHeartbeats 4000000 in
theorem found_sum {w mean mg mb} (news : List (Addr × Obj)) (l : Addr) (n : Nat) (vs : List Value) (ns : List Int) (x : Int) (t : Tok)
    (hl : (l, W.listOf vs.toArray n) ∈ news) (hi : IntsAre vs ns) (hlen : ns.length < 2 ^ 20) : Sum1 w mean mg mb 2 113 news news [.ref l, .int x t] (fun t => .int (foundF ns x) t) := by
  w_on
  w_top off
  k_with_none
  unfold Sum1
  k_fill
  intro dp un gd cn cs a ccd cl outer A₀ base h₀ L m s Q E B F X N T hk hd hu hret
  refine wpAny_call ?_
  k_dflt cell_enter
  k_steps
  exact cb_retI hret rfl (by k_asm) (by k_asm)

end
end Mine
namespace Mine
section
local macro_rules | `(tactic| is_list) => `(tactic| exact News.isList (by assumption) (by assumption))
local macro_rules | `(tactic| k_room) => `(tactic| ktr_room)
local macro_rules | `(tactic| ktr_enter) => `(tactic| (refine' code_def ?k1 ?k2 ?k3 ?k4 ?k5 ?kA ?kF ?kK ?k6 ?k7 ?k8 ?k9 ?kB ?_ ?c2 ?c3 ?c4 ?c5; (case kA => exact rfl); (case kF => exact rfl); (case kK => assumption); (case k1 => k_asm); (case k2 => k_asm); (case k3 => k_asm); (case k4 => k_asm); (case k5 => k_asm); (case k6 => k_is); (case k7 => k_is); (case k8 => ktr_room); (case k9 => (refine' kp_binds ?kx ?ke; (case kx => k_in); (case ke => exact fun _ => rfl))); (case c5 => decide); (case kB => exact locs rfl); (case c2 => exact rfl); (case c3 => exact rfl); (case c4 => exact rfl); k_whole; intro g' L' h' FG' F' N' B' X' T'; (try dsimp only); (try k_lift B'); (try k_fold)))
local macro_rules | `(tactic| walk_at "subscriptTail Name Name ref int") => `(tactic| ((with_reducible show wpAny _ _ (subscriptTail _ _ (Value.ref _) (Value.int _ _)) _ _ _); (with_unfolding_all refine' item_list_ints ?k1 ?k2 ?k3 ?k4 ?k5 ?_; (case k1 => is_list); (case k2 => l_ints); (case k3 => l_idx); (case k4 => l_idx); (case k5 => l_idx); k_whole); intro _))
local macro_rules | `(tactic| ktr_enter) => `(tactic| (refine' code_defC ?k1 ?k2 ?k3 ?k4 ?k5 ?kA ?kF ?kK ?k6 ?k7 ?k8 ?k9 ?kB ?kD ?_ ?c2 ?c3 ?c4; (case kA => exact rfl); (case kF => exact rfl); (case kK => assumption); (case k1 => k_asm); (case k2 => k_asm); (case k3 => k_asm); (case k4 => k_asm); (case k5 => k_asm); (case k6 => k_is); (case k7 => k_is); (case k8 => k_room); (case k9 => exact BindsTo.of_eq rfl); (case kB => exact rfl); (case kD => decide +kernel); (case c2 => exact rfl); (case c3 => exact rfl); (case c4 => exact rfl); k_whole; intro g' L' h' tk' cells' FG' F' N' Y' B' X' T' l1; (try k_lt l1); k_cells Y'; (try simp only [List.cons_append, List.nil_append] at N'); (try dsimp only); (try k_lift B'); (try k_fold)))
local macro_rules | `(tactic| k_all) => `(tactic| exact all_ne_of_lt (by assumption) (by omega))
local macro_rules | `(tactic| walk_at "CompEnd") => `(tactic| refine LCg.CompEnd.intro (by assumption) (by assumption) _ (fun _ h => h) (by assumption) (by first | exact True.intro | lcg_src) ?_)
local macro_rules | `(tactic| walk_at "InvEndN") => `(tactic| k_dflt kst_close)
local macro_rules | `(tactic| ktr_step) => `(tactic| repeat' ((fail_if_success (with_reducible show wpAny _ _ (pyIter _) _ _ _)); first | (k_unfold; (try dsimp only)) | (k_end; wrow_close) | walk1 | (dsimp only; walk1) | (leave1; walk_say "STEP leave1"; try dsimp only) | fail "no step"))
def fourF (x : Int) : Int := (List.foldl (fun (l : List Int) (k : Int) => if Int.fmod (2 * x + 1) k = 0 then l ++ [k] else l) [] (rangeKs 1 (2 * x + 1 + 1 - 1).toNat)).sum
set_option maxRecDepth 100000 in
set_option maxHeartbeats 4000000 in
theorem four_sum {w mean mg mb} (news : List (Addr × Obj)) (x : Int) (t : Tok) (h0 : 0 ≤ x) (h24 : x ≤ 24) : Sum1 w mean mg mb 1 130 news news [.int x t] (fun t => .int (fourF x) t) := by
  w_on
  w_top off
  k_with_none
  unfold Sum1
  k_fill
  intro dp un gd cn cs a ccd cl outer A₀ base h₀ L m s Q E B F X N T hk hd hu hret
  refine wpAny_call ?_
  k_dflt ktr_enter
  k_steps
  all_goals try exact cb_retI hret rfl (by k_asm) (cb_drop (by assumption) (fun p hp => .tail _ (.tail _ hp)))

end
end Mine
namespace Mine
section
local macro_rules | `(tactic| is_list) => `(tactic| exact News.isList (by assumption) (by assumption))
local macro_rules | `(tactic| k_room) => `(tactic| ktr_room)
local macro_rules | `(tactic| ktr_enter) => `(tactic| (refine' code_def ?k1 ?k2 ?k3 ?k4 ?k5 ?kA ?kF ?kK ?k6 ?k7 ?k8 ?k9 ?kB ?_ ?c2 ?c3 ?c4 ?c5; (case kA => exact rfl); (case kF => exact rfl); (case kK => assumption); (case k1 => k_asm); (case k2 => k_asm); (case k3 => k_asm); (case k4 => k_asm); (case k5 => k_asm); (case k6 => k_is); (case k7 => k_is); (case k8 => ktr_room); (case k9 => (refine' kp_binds ?kx ?ke; (case kx => k_in); (case ke => exact fun _ => rfl))); (case c5 => decide); (case kB => exact locs rfl); (case c2 => exact rfl); (case c3 => exact rfl); (case c4 => exact rfl); k_whole; intro g' L' h' FG' F' N' B' X' T'; (try dsimp only); (try k_lift B'); (try k_fold)))
local macro_rules | `(tactic| walk_at "subscriptTail Name Name ref int") => `(tactic| ((with_reducible show wpAny _ _ (subscriptTail _ _ (Value.ref _) (Value.int _ _)) _ _ _); (with_unfolding_all refine' item_list_ints ?k1 ?k2 ?k3 ?k4 ?k5 ?_; (case k1 => is_list); (case k2 => l_ints); (case k3 => l_idx); (case k4 => l_idx); (case k5 => l_idx); k_whole); intro _))
local macro_rules | `(tactic| ktr_enter) => `(tactic| (refine' code_defC ?k1 ?k2 ?k3 ?k4 ?k5 ?kA ?kF ?kK ?k6 ?k7 ?k8 ?k9 ?kB ?kD ?_ ?c2 ?c3 ?c4; (case kA => exact rfl); (case kF => exact rfl); (case kK => assumption); (case k1 => k_asm); (case k2 => k_asm); (case k3 => k_asm); (case k4 => k_asm); (case k5 => k_asm); (case k6 => k_is); (case k7 => k_is); (case k8 => k_room); (case k9 => exact BindsTo.of_eq rfl); (case kB => exact rfl); (case kD => decide +kernel); (case c2 => exact rfl); (case c3 => exact rfl); (case c4 => exact rfl); k_whole; intro g' L' h' tk' cells' FG' F' N' Y' B' X' T' l1; (try k_lt l1); k_cells Y'; (try simp only [List.cons_append, List.nil_append] at N'); (try dsimp only); (try k_lift B'); (try k_fold)))
local macro_rules | `(tactic| k_all) => `(tactic| exact all_ne_of_lt (by assumption) (by omega))
local macro_rules | `(tactic| walk_at "CompEnd") => `(tactic| refine LCg.CompEnd.intro (by assumption) (by assumption) _ (fun _ h => h) (by assumption) (by first | exact True.intro | lcg_src) ?_)
local macro_rules | `(tactic| walk_at "InvEndN") => `(tactic| k_dflt kst_close)
local macro_rules | `(tactic| ktr_step) => `(tactic| repeat' ((fail_if_success (with_reducible show wpAny _ _ (pyIter _) _ _ _)); first | (k_unfold; (try dsimp only)) | (k_end; wrow_close) | walk1 | (dsimp only; walk1) | (leave1; walk_say "STEP leave1"; try dsimp only) | fail "no step"))
local macro_rules | `(tactic| walk_at "no key") => `(tactic| skip)
def twoF (x : Int) : Int := (List.foldl (fun (l : List Int) (k : Int) => if Int.fmod (4 * x + 1) k = 0 then l ++ [2 - Int.fmod k 4] else l) [] (rangeKs 1 (4 * x + 1 + 1 - 1).toNat)).sum
set_option maxRecDepth 100000 in
set_option maxHeartbeats 4000000 in
theorem two_sum {w mean mg mb} (news : List (Addr × Obj)) (x : Int) (t : Tok) (h0 : 0 ≤ x) (h24 : x ≤ 24) : Sum1 w mean mg mb 1 118 news news [.int x t] (fun t => .int (twoF x) t) := by
  w_on
  w_top off
  k_with_none
  unfold Sum1
  k_fill
  intro dp un gd cn cs a ccd cl outer A₀ base h₀ L m s Q E B F X N T hk hd hu hret
  refine wpAny_call ?_
  k_dflt ktr_enter
  k_steps
  all_goals try exact cb_retI hret rfl (by k_asm) (cb_drop (by assumption) (fun p hp => .tail _ (.tail _ hp)))

end
end Mine
namespace Mine
section
local macro_rules | `(tactic| is_list) => `(tactic| exact News.isList (by assumption) (by assumption))
local macro_rules | `(tactic| k_room) => `(tactic| ktr_room)
local macro_rules | `(tactic| ktr_enter) => `(tactic| (refine' code_def ?k1 ?k2 ?k3 ?k4 ?k5 ?kA ?kF ?kK ?k6 ?k7 ?k8 ?k9 ?kB ?_ ?c2 ?c3 ?c4 ?c5; (case kA => exact rfl); (case kF => exact rfl); (case kK => assumption); (case k1 => k_asm); (case k2 => k_asm); (case k3 => k_asm); (case k4 => k_asm); (case k5 => k_asm); (case k6 => k_is); (case k7 => k_is); (case k8 => ktr_room); (case k9 => (refine' kp_binds ?kx ?ke; (case kx => k_in); (case ke => exact fun _ => rfl))); (case c5 => decide); (case kB => exact locs rfl); (case c2 => exact rfl); (case c3 => exact rfl); (case c4 => exact rfl); k_whole; intro g' L' h' FG' F' N' B' X' T'; (try dsimp only); (try k_lift B'); (try k_fold)))
local macro_rules | `(tactic| walk_at "subscriptTail Name Name ref int") => `(tactic| ((with_reducible show wpAny _ _ (subscriptTail _ _ (Value.ref _) (Value.int _ _)) _ _ _); (with_unfolding_all refine' item_list_ints ?k1 ?k2 ?k3 ?k4 ?k5 ?_; (case k1 => is_list); (case k2 => l_ints); (case k3 => l_idx); (case k4 => l_idx); (case k5 => l_idx); k_whole); intro _))
local macro_rules | `(tactic| ktr_enter) => `(tactic| (refine' code_defC ?k1 ?k2 ?k3 ?k4 ?k5 ?kA ?kF ?kK ?k6 ?k7 ?k8 ?k9 ?kB ?kD ?_ ?c2 ?c3 ?c4; (case kA => exact rfl); (case kF => exact rfl); (case kK => assumption); (case k1 => k_asm); (case k2 => k_asm); (case k3 => k_asm); (case k4 => k_asm); (case k5 => k_asm); (case k6 => k_is); (case k7 => k_is); (case k8 => k_room); (case k9 => exact BindsTo.of_eq rfl); (case kB => exact rfl); (case kD => decide +kernel); (case c2 => exact rfl); (case c3 => exact rfl); (case c4 => exact rfl); k_whole; intro g' L' h' tk' cells' FG' F' N' Y' B' X' T' l1; (try k_lt l1); k_cells Y'; (try simp only [List.cons_append, List.nil_append] at N'); (try dsimp only); (try k_lift B'); (try k_fold)))
local macro_rules | `(tactic| k_all) => `(tactic| exact all_ne_of_lt (by assumption) (by omega))
local macro_rules | `(tactic| walk_at "CompEnd") => `(tactic| refine LCg.CompEnd.intro (by assumption) (by assumption) _ (fun _ h => h) (by assumption) (by first | exact True.intro | lcg_src) ?_)
local macro_rules | `(tactic| walk_at "InvEndN") => `(tactic| k_dflt kst_close)
local macro_rules | `(tactic| ktr_step) => `(tactic| repeat' ((fail_if_success (with_reducible show wpAny _ _ (pyIter _) _ _ _)); first | (k_unfold; (try dsimp only)) | (k_end; wrow_close) | walk1 | (dsimp only; walk1) | (leave1; walk_say "STEP leave1"; try dsimp only) | fail "no step"))
def thrStep (low product ways middle : Int) : Int :=
  if middle * middle ≤ product ∧ Int.fmod product middle = 0 then ways + (if low = Int.fdiv product middle then 1 else if low = middle ∨ middle = Int.fdiv product middle then 3 else 6) else ways
def thrLow (x ways low : Int) : Int := (rangeKs low (9 - low).toNat).foldl (thrStep low (Int.fdiv (8 * x + 3 + low * low) 4)) ways
theorem thr_step {pre : List Int} {w₀ w w' low p mid : Int} (h : w = pre.foldl (thrStep low p) w₀) (e : thrStep low p w mid = w') : w' = (pre ++ [mid]).foldl (thrStep low p) w₀ := by
  rw [List.foldl_append, ← h]; exact e.symm
theorem thr_out {pre : List Int} {w w' low x : Int} (h : w = pre.foldl (thrLow x) 0) (e : w' = (rangeKs low (9 - low).toNat).foldl (thrStep low (Int.fdiv (8 * x + 3 + low * low) 4)) w) : w' = (pre ++ [low]).foldl (thrLow x) 0 := by
  rw [List.foldl_append, ← h]; exact e
theorem thr_A {w low p mid : Int} (c1 : mid * mid ≤ p) (c2 : Int.fmod p mid = 0) (c3 : low = Int.fdiv p mid) : thrStep low p w mid = w + 1 := by
  unfold thrStep; rw [if_pos ⟨c1, c2⟩, if_pos c3]
theorem thr_B {w low p mid : Int} (c1 : mid * mid ≤ p) (c2 : Int.fmod p mid = 0) (c3 : ¬ low = Int.fdiv p mid) (c4 : low = mid) : thrStep low p w mid = w + 3 := by
  unfold thrStep; rw [if_pos ⟨c1, c2⟩, if_neg c3, if_pos (.inl c4)]
theorem thr_C {w low p mid : Int} (c1 : mid * mid ≤ p) (c2 : Int.fmod p mid = 0) (c3 : ¬ low = Int.fdiv p mid) (c4 : mid = Int.fdiv p mid) : thrStep low p w mid = w + 3 := by
  unfold thrStep; rw [if_pos ⟨c1, c2⟩, if_neg c3, if_pos (.inr c4)]
theorem thr_D {w low p mid : Int} (c1 : mid * mid ≤ p) (c2 : Int.fmod p mid = 0) (c3 : ¬ low = Int.fdiv p mid) (c4 : ¬ low = mid) (c5 : ¬ mid = Int.fdiv p mid) : thrStep low p w mid = w + 6 := by
  unfold thrStep; rw [if_pos ⟨c1, c2⟩, if_neg c3, if_neg (fun h => h.elim c4 c5)]
theorem thr_E {w low p mid : Int} (c1 : ¬ mid * mid ≤ p) : thrStep low p w mid = w := by
  unfold thrStep; rw [if_neg (fun h => c1 h.1)]
theorem thr_F {w low p mid : Int} (c2 : ¬ Int.fmod p mid = 0) : thrStep low p w mid = w := by
  unfold thrStep; rw [if_neg (fun h => c2 h.2)]
def threeF (x : Int) : Int := ([1, 3, 5, 7] : List Int).foldl (thrLow x) 0
theorem ints4 {h₀ h : Heap} {L l : Addr} {n : Nat} {rest : List (Addr × Obj)} {p q r u : Int} {a b c d : Tok} (_ : News h₀ L h ((l, W.listOf (List.toArray [Value.int p a, Value.int q b, Value.int r c, Value.int u d]) n) :: rest)) :
    IntsAre [Value.int p a, Value.int q b, Value.int r c, Value.int u d] [p, q, r, u] := .cons _ _ (.cons _ _ (.cons _ _ (.cons _ _ .nil)))
theorem low4 {k : Int} (h : k ∈ ([1, 3, 5, 7] : List Int)) : 1 ≤ k ∧ k ≤ 7 := by
  simp only [List.mem_cons, List.not_mem_nil, or_false] at h
  omega
set_option maxRecDepth 100000 in
set_option maxHeartbeats 4000000 in
theorem three_sum {w mean mg mb} (news : List (Addr × Obj)) (x : Int) (t : Tok) (h0 : 0 ≤ x) (h24 : x ≤ 24) : Sum1 w mean mg mb 1 125 news news [.int x t] (fun t => .int (threeF x) t) := by
  w_on
  w_top off
  k_with_none
  unfold Sum1
  k_fill
  intro dp un gd cn cs a ccd cl outer A₀ base h₀ L m s Q E B F X N T hk hd hu hret
  refine wpAny_call ?_
  k_dflt cell_enter
  (rename Fr _ _ _ _ => hF9); replace hF9 : Fr _ _ _ (fun y => List.lookup y [(Str.ofString "number", Value.int x t)]) := hF9
  ktr_step
  (with_reducible rename News _ _ _ _ => hN9); have hI9 := ints4 hN9
  k_with "pyIter ref" => (k_of "middle" => k_state_given ["low", "product", "ways!"] (fun low product w₀ pre ways => ways = pre.foldl (thrStep low product) w₀) "ways")
  k_with "state" => (first | exact thr_step (by with_reducible assumption) (thr_A (by with_reducible assumption) (by with_reducible assumption) (by with_reducible assumption)) | exact thr_step (by with_reducible assumption) (thr_B (by with_reducible assumption) (by with_reducible assumption) (by with_reducible assumption) (by with_reducible assumption)) | exact thr_step (by with_reducible assumption) (thr_C (by with_reducible assumption) (by with_reducible assumption) (by with_reducible assumption) (by with_reducible assumption)) | exact thr_step (by with_reducible assumption) (thr_D (by with_reducible assumption) (by with_reducible assumption) (by with_reducible assumption) (by with_reducible assumption) (by with_reducible assumption)) | exact thr_step (by with_reducible assumption) (thr_E (by with_reducible assumption)) | exact thr_step (by with_reducible assumption) (thr_F (by with_reducible assumption)) | exact thr_out (by with_reducible assumption) (by with_reducible assumption))
  k_state (fun pre ways => ways = pre.foldl (thrLow x) 0) "ways"
  · have hlow := low4 kMem
    k_steps
  · k_steps
    exact cb_retI hret (by assumption) (by k_asm) (cb_drop (by assumption) (fun p hp => .tail _ hp))

end
end Mine
namespace Mine
section
local macro_rules | `(tactic| is_list) => `(tactic| exact News.isList (by assumption) (by assumption))
local macro_rules | `(tactic| k_room) => `(tactic| ktr_room)
local macro_rules | `(tactic| ktr_enter) => `(tactic| (refine' code_def ?k1 ?k2 ?k3 ?k4 ?k5 ?kA ?kF ?kK ?k6 ?k7 ?k8 ?k9 ?kB ?_ ?c2 ?c3 ?c4 ?c5; (case kA => exact rfl); (case kF => exact rfl); (case kK => assumption); (case k1 => k_asm); (case k2 => k_asm); (case k3 => k_asm); (case k4 => k_asm); (case k5 => k_asm); (case k6 => k_is); (case k7 => k_is); (case k8 => ktr_room); (case k9 => (refine' kp_binds ?kx ?ke; (case kx => k_in); (case ke => exact fun _ => rfl))); (case c5 => decide); (case kB => exact locs rfl); (case c2 => exact rfl); (case c3 => exact rfl); (case c4 => exact rfl); k_whole; intro g' L' h' FG' F' N' B' X' T'; (try dsimp only); (try k_lift B'); (try k_fold)))
local macro_rules | `(tactic| walk_at "subscriptTail Name Name ref int") => `(tactic| ((with_reducible show wpAny _ _ (subscriptTail _ _ (Value.ref _) (Value.int _ _)) _ _ _); (with_unfolding_all refine' item_list_ints ?k1 ?k2 ?k3 ?k4 ?k5 ?_; (case k1 => is_list); (case k2 => l_ints); (case k3 => l_idx); (case k4 => l_idx); (case k5 => l_idx); k_whole); intro _))
local macro_rules | `(tactic| ktr_enter) => `(tactic| (refine' code_defC ?k1 ?k2 ?k3 ?k4 ?k5 ?kA ?kF ?kK ?k6 ?k7 ?k8 ?k9 ?kB ?kD ?_ ?c2 ?c3 ?c4; (case kA => exact rfl); (case kF => exact rfl); (case kK => assumption); (case k1 => k_asm); (case k2 => k_asm); (case k3 => k_asm); (case k4 => k_asm); (case k5 => k_asm); (case k6 => k_is); (case k7 => k_is); (case k8 => k_room); (case k9 => exact BindsTo.of_eq rfl); (case kB => exact rfl); (case kD => decide +kernel); (case c2 => exact rfl); (case c3 => exact rfl); (case c4 => exact rfl); k_whole; intro g' L' h' tk' cells' FG' F' N' Y' B' X' T' l1; (try k_lt l1); k_cells Y'; (try simp only [List.cons_append, List.nil_append] at N'); (try dsimp only); (try k_lift B'); (try k_fold)))
local macro_rules | `(tactic| k_all) => `(tactic| exact all_ne_of_lt (by assumption) (by omega))
local macro_rules | `(tactic| walk_at "CompEnd") => `(tactic| refine LCg.CompEnd.intro (by assumption) (by assumption) _ (fun _ h => h) (by assumption) (by first | exact True.intro | lcg_src) ?_)
local macro_rules | `(tactic| walk_at "InvEndN") => `(tactic| k_dflt kst_close)
local macro_rules | `(tactic| ktr_step) => `(tactic| repeat' ((fail_if_success (with_reducible show wpAny _ _ (pyIter _) _ _ _)); first | (k_unfold; (try dsimp only)) | (k_end; wrow_close) | walk1 | (dsimp only; walk1) | (leave1; walk_say "STEP leave1"; try dsimp only) | fail "no step"))
section
set_option maxRecDepth 100000
def code1 : Array Nat := #[14, 4, 0, 1, 1, 6, 1, 16, 46, 1]
def code2 : Array Nat := #[14, 9, 4, 1, 2, 16, 10, 16, 13, 0, 7, 7, 16, 13, 16, 10, 15, 18, 5, 16, 10, 15, 13, 11, 16, 13, 5, 5, 0, 16, 10, 1, 15, 2, 0, 1]
open Sre in
/-- code 1: the attempt at s -/
def A1 (text : Array Nat) (s : Nat) (first : Bool) (seen : Sre.Seen) : M :=
  { code := code1, text, lim := text.size, start := s, lastStart := text.size, mustAdvance := false, pc := 5, pos := s, handed := s, outermost := first, marks := #[],
    frames := [{ wait := .nextStart, pc := 5, pos := s, outermost := first }], weight := 1, seen }
def bol (text : Array Nat) (s : Nat) : Bool := s == 0 || text.getD (s - 1) 0 == 10
open Sre in
theorem a1_start (text : Array Nat) (s : Nat) (h : s < text.size) : forSearch code1 text 0 s text.size false = A1 text s true (({} : Sre.Seen).add 14) := by
  have h1 : (decide (s > text.size) || decide (text.size - s < 1)) = false := by
    rw [Bool.or_eq_false_iff]; exact ⟨decide_eq_false (by omega), decide_eq_false (by omega)⟩
  show (if (decide (s > text.size) || decide (text.size - s < 1)) = true then _ else _) = _
  rw [h1, if_neg Bool.false_ne_true]
  rfl
open Sre in
theorem a1_acc (c : Nat) (seen : Sre.Seen) : accepts code1 7 c seen = .ok (c == 46, seen) := by kernel_rfl
open Sre in
theorem a1_exec (m : M) (hp : m.pc = 7) (hc : m.code = code1) (hl : m.pos < m.lim) (h : (m.text.getD m.pos 0 == 46) = true) :
    m.exec = { m with seen := m.seen.add 16, pc := 9, pos := m.pos + 1 } := by
  obtain ⟨code, text, lim, start, lastStart, wholeText, mustAdvance, pc, pos, handed, outermost, marks, lastmark, lastindex, loops, inner, frames, weight, answer, seen, outcome⟩ := m
  dsimp only at hp hc hl h
  subst hp hc
  have e := a1_acc (text.getD pos 0) (seen.add 16)
  rw [h] at e
  unfold M.exec
  simp only [M.word]
  rw [show ops[code1.getD (7 + 0) 0]? = some Op.LITERAL from by kernel_rfl]
  dsimp only
  rw [if_neg (by omega), show code1.getD (7 + 0) 0 = 16 from by kernel_rfl, e]
  kernel_rfl
open Sre in
theorem a1_execN (m : M) (hp : m.pc = 7) (hc : m.code = code1) (h : m.pos ≥ m.lim ∨ (m.text.getD m.pos 0 == 46) = false) :
    m.exec = { m with seen := m.seen.add 16, answer := some false } := by
  obtain ⟨code, text, lim, start, lastStart, wholeText, mustAdvance, pc, pos, handed, outermost, marks, lastmark, lastindex, loops, inner, frames, weight, answer, seen, outcome⟩ := m
  dsimp only at hp hc h
  subst hp hc
  unfold M.exec
  simp only [M.word]
  rw [show ops[code1.getD (7 + 0) 0]? = some Op.LITERAL from by kernel_rfl]
  dsimp only
  by_cases hl : pos ≥ lim
  · rw [if_pos hl]; kernel_rfl
  · have h' := h.resolve_left hl
    have e := a1_acc (text.getD pos 0) (seen.add 16)
    rw [h'] at e
    rw [if_neg hl, show code1.getD (7 + 0) 0 = 16 from by kernel_rfl, e]
    kernel_rfl
open Sre in
def st7 (text : Array Nat) (s : Nat) (first : Bool) (seen : Sre.Seen) : M := { A1 text s first seen with pc := 7 }
open Sre in
def stN (text : Array Nat) (s : Nat) (first : Bool) (seen : Sre.Seen) : M := { A1 text s first seen with answer := some false }
open Sre in
def st7n (text : Array Nat) (s : Nat) (first : Bool) (seen : Sre.Seen) : M := { A1 text s first seen with pc := 7, answer := some false }
open Sre in
def stE (text : Array Nat) (s : Nat) (first : Bool) (seen : Sre.Seen) : M := { A1 text s first seen with answer := some false, frames := [], weight := 0 }
open Sre in
def stF (text : Array Nat) (s : Nat) (first : Bool) (seen : Sre.Seen) : M := { A1 text s first seen with answer := some false, frames := [], weight := 0, outcome := some .failed }
open Sre in
def st9 (text : Array Nat) (s : Nat) (first : Bool) (seen : Sre.Seen) : M := { A1 text s first seen with pc := 9, pos := s + 1 }
open Sre in
def st9y (text : Array Nat) (s : Nat) (first : Bool) (seen : Sre.Seen) : M := { A1 text s first seen with pc := 9, pos := s + 1, handed := s + 1, answer := some true }
open Sre in
def stY (text : Array Nat) (s : Nat) (first : Bool) (seen : Sre.Seen) : M := { A1 text s first seen with handed := s + 1, answer := some true, frames := [], weight := 0 }
open Sre in
def stM (text : Array Nat) (s : Nat) (first : Bool) (seen : Sre.Seen) : M := { A1 text s first seen with handed := s + 1, answer := some true, frames := [], weight := 0, outcome := some .matched }
open Sre in
theorem a1_step1 (text : Array Nat) (s : Nat) (first : Bool) (seen : Sre.Seen) : (A1 text s first seen).step = if bol text s = true then st7 text s first ((seen.add 6).add 44) else stN text s first ((seen.add 6).add 44) := by kernel_rfl
open Sre in
theorem a1_stepN (text : Array Nat) (s : Nat) (first : Bool) (seen : Sre.Seen) : (stN text s first seen).step = if s < text.size then A1 text (s + 1) false seen else stE text s first seen := by kernel_rfl
open Sre in
theorem a1_at7 (text : Array Nat) (s : Nat) (first : Bool) (seen : Sre.Seen) : (st7 text s first seen).step = (st7 text s first seen).exec := by kernel_rfl
open Sre in
theorem a1_step7y (text : Array Nat) (s : Nat) (first : Bool) (seen : Sre.Seen) (hl : s < text.size) (h : (text.getD s 0 == 46) = true) : (st7 text s first seen).step = st9 text s first (seen.add 16) :=
  (a1_at7 text s first seen).trans ((a1_exec (st7 text s first seen) rfl rfl hl h).trans (by kernel_rfl))
open Sre in
theorem a1_step7n (text : Array Nat) (s : Nat) (first : Bool) (seen : Sre.Seen) (h : s ≥ text.size ∨ (text.getD s 0 == 46) = false) : (st7 text s first seen).step = st7n text s first (seen.add 16) :=
  (a1_at7 text s first seen).trans ((a1_execN (st7 text s first seen) rfl rfl h).trans (by kernel_rfl))
open Sre in
theorem a1_step7n2 (text : Array Nat) (s : Nat) (first : Bool) (seen : Sre.Seen) : (st7n text s first seen).step = if s < text.size then A1 text (s + 1) false seen else stE text s first seen := by kernel_rfl
open Sre in
theorem a1_step9 (text : Array Nat) (s : Nat) (first : Bool) (seen : Sre.Seen) : (st9 text s first seen).step = st9y text s first (seen.add 1) := by cases first <;> kernel_rfl
open Sre in
theorem a1_step9y (text : Array Nat) (s : Nat) (first : Bool) (seen : Sre.Seen) : (st9y text s first seen).step = stY text s first seen := by kernel_rfl
open Sre in
theorem a1_stepY (text : Array Nat) (s : Nat) (first : Bool) (seen : Sre.Seen) : (stY text s first seen).step = stM text s first seen := by kernel_rfl
open Sre in
theorem a1_stepE (text : Array Nat) (s : Nat) (first : Bool) (seen : Sre.Seen) : (stE text s first seen).step = stF text s first seen := by kernel_rfl
open Sre in
theorem rf_one (n : Nat) (m : M) (h : m.outcome = none) : M.runFor (n + 1) m = M.runFor n m.step := by
  show (if m.outcome.isSome = true then m else _) = _
  rw [h]; rfl
open Sre in
theorem rf_done (n : Nat) (m : M) (h : m.outcome.isSome = true) : M.runFor n m = m := by
  cases n with
  | zero => rfl
  | succ n => show (if m.outcome.isSome = true then m else _) = _; rw [if_pos h]
def hit1 (text : Array Nat) (s : Nat) : Prop := bol text s = true ∧ s < text.size ∧ (text.getD s 0 == 46) = true
open Sre in
theorem a1_hit (text : Array Nat) (s : Nat) (first : Bool) (seen : Sre.Seen) (h : hit1 text s) (k : Nat) : ∃ m', M.runFor (k + 5) (A1 text s first seen) = m' ∧ m'.outcome = some .matched ∧ m'.start = s ∧ m'.handed = s + 1 := by
  refine ⟨stM text s first ((((seen.add 6).add 44).add 16).add 1), ?_, rfl, rfl, rfl⟩
  rw [rf_one (k + 4) _ rfl, a1_step1, if_pos h.1, rf_one (k + 3) _ rfl, a1_step7y _ _ _ _ h.2.1 h.2.2, rf_one (k + 2) _ rfl, a1_step9, rf_one (k + 1) _ rfl, a1_step9y, rf_one k _ rfl, a1_stepY, rf_done _ _ rfl]
open Sre in
theorem a1_miss (text : Array Nat) (s : Nat) (first : Bool) (seen : Sre.Seen) (h : ¬ hit1 text s) (hs : s < text.size) : ∃ (j : Nat) (seen' : Sre.Seen), j ≤ 3 ∧ ∀ k, M.runFor (k + j) (A1 text s first seen) = M.runFor k (A1 text (s + 1) false seen') := by
  cases hb : bol text s with
  | false =>
    refine ⟨2, (seen.add 6).add 44, by omega, fun k => ?_⟩
    rw [rf_one (k + 1) _ rfl, a1_step1, hb, if_neg Bool.false_ne_true, rf_one k _ rfl, a1_stepN, if_pos hs]
  | true =>
    have hc : (text.getD s 0 == 46) = false := by
      cases q : (text.getD s 0 == 46) with
      | false => rfl
      | true => exact absurd ⟨hb, hs, q⟩ h
    refine ⟨3, ((seen.add 6).add 44).add 16, by omega, fun k => ?_⟩
    rw [rf_one (k + 2) _ rfl, a1_step1, if_pos hb, rf_one (k + 1) _ rfl, a1_step7n _ _ _ _ (.inr hc), rf_one k _ rfl, a1_step7n2, if_pos hs]
open Sre in
theorem a1_end (text : Array Nat) (first : Bool) (seen : Sre.Seen) : ∃ (j : Nat) (m' : M), j ≤ 4 ∧ m'.outcome = some .failed ∧ ∀ k, M.runFor (k + j) (A1 text text.size first seen) = m' := by
  cases hb : bol text text.size with
  | false =>
    refine ⟨3, stF text text.size first ((seen.add 6).add 44), by omega, rfl, fun k => ?_⟩
    rw [rf_one (k + 2) _ rfl, a1_step1, hb, if_neg Bool.false_ne_true, rf_one (k + 1) _ rfl, a1_stepN, if_neg (Nat.lt_irrefl _), rf_one k _ rfl, a1_stepE, rf_done _ _ rfl]
  | true =>
    refine ⟨4, stF text text.size first (((seen.add 6).add 44).add 16), by omega, rfl, fun k => ?_⟩
    rw [rf_one (k + 3) _ rfl, a1_step1, if_pos hb, rf_one (k + 2) _ rfl, a1_step7n _ _ _ _ (.inl (Nat.le_refl _)), rf_one (k + 1) _ rfl, a1_step7n2, if_neg (Nat.lt_irrefl _), rf_one k _ rfl, a1_stepE, rf_done _ _ rfl]
end

end
end Mine
namespace Mine
section
local macro_rules | `(tactic| is_list) => `(tactic| exact News.isList (by assumption) (by assumption))
local macro_rules | `(tactic| k_room) => `(tactic| ktr_room)
local macro_rules | `(tactic| ktr_enter) => `(tactic| (refine' code_def ?k1 ?k2 ?k3 ?k4 ?k5 ?kA ?kF ?kK ?k6 ?k7 ?k8 ?k9 ?kB ?_ ?c2 ?c3 ?c4 ?c5; (case kA => exact rfl); (case kF => exact rfl); (case kK => assumption); (case k1 => k_asm); (case k2 => k_asm); (case k3 => k_asm); (case k4 => k_asm); (case k5 => k_asm); (case k6 => k_is); (case k7 => k_is); (case k8 => ktr_room); (case k9 => (refine' kp_binds ?kx ?ke; (case kx => k_in); (case ke => exact fun _ => rfl))); (case c5 => decide); (case kB => exact locs rfl); (case c2 => exact rfl); (case c3 => exact rfl); (case c4 => exact rfl); k_whole; intro g' L' h' FG' F' N' B' X' T'; (try dsimp only); (try k_lift B'); (try k_fold)))
local macro_rules | `(tactic| walk_at "subscriptTail Name Name ref int") => `(tactic| ((with_reducible show wpAny _ _ (subscriptTail _ _ (Value.ref _) (Value.int _ _)) _ _ _); (with_unfolding_all refine' item_list_ints ?k1 ?k2 ?k3 ?k4 ?k5 ?_; (case k1 => is_list); (case k2 => l_ints); (case k3 => l_idx); (case k4 => l_idx); (case k5 => l_idx); k_whole); intro _))
local macro_rules | `(tactic| ktr_enter) => `(tactic| (refine' code_defC ?k1 ?k2 ?k3 ?k4 ?k5 ?kA ?kF ?kK ?k6 ?k7 ?k8 ?k9 ?kB ?kD ?_ ?c2 ?c3 ?c4; (case kA => exact rfl); (case kF => exact rfl); (case kK => assumption); (case k1 => k_asm); (case k2 => k_asm); (case k3 => k_asm); (case k4 => k_asm); (case k5 => k_asm); (case k6 => k_is); (case k7 => k_is); (case k8 => k_room); (case k9 => exact BindsTo.of_eq rfl); (case kB => exact rfl); (case kD => decide +kernel); (case c2 => exact rfl); (case c3 => exact rfl); (case c4 => exact rfl); k_whole; intro g' L' h' tk' cells' FG' F' N' Y' B' X' T' l1; (try k_lt l1); k_cells Y'; (try simp only [List.cons_append, List.nil_append] at N'); (try dsimp only); (try k_lift B'); (try k_fold)))
local macro_rules | `(tactic| k_all) => `(tactic| exact all_ne_of_lt (by assumption) (by omega))
local macro_rules | `(tactic| walk_at "CompEnd") => `(tactic| refine LCg.CompEnd.intro (by assumption) (by assumption) _ (fun _ h => h) (by assumption) (by first | exact True.intro | lcg_src) ?_)
local macro_rules | `(tactic| walk_at "InvEndN") => `(tactic| k_dflt kst_close)
local macro_rules | `(tactic| ktr_step) => `(tactic| repeat' ((fail_if_success (with_reducible show wpAny _ _ (pyIter _) _ _ _)); first | (k_unfold; (try dsimp only)) | (k_end; wrow_close) | walk1 | (dsimp only; walk1) | (leave1; walk_say "STEP leave1"; try dsimp only) | fail "no step"))
section
set_option maxRecDepth 100000
def FoundAt (code text : Array Nat) (d s e : Nat) : Prop := ∃ n m', n ≤ 3 * text.size + 40 ∧ Sre.M.runFor n (Sre.forSearch code text 0 d text.size false) = m' ∧ m'.outcome = some .matched ∧ m'.start = s ∧ m'.handed = e
def FoundNo (code text : Array Nat) (d : Nat) : Prop := ∃ n m', n ≤ 3 * text.size + 40 ∧ Sre.M.runFor n (Sre.forSearch code text 0 d text.size false) = m' ∧ m'.outcome = some .failed
def SubRes (code : Array Nat) (repl : List Nat) (F : Nat → List Nat) (text : Array Nat) (d : Nat) : Prop :=
  (∃ s e, d ≤ s ∧ s < e ∧ e ≤ text.size ∧ FoundAt code text d s e ∧ F d = (text.extract d s).toList ++ (repl ++ F e)) ∨ (FoundNo code text d ∧ F d = (text.extract d text.size).toList)
theorem ext_nil (text : Array Nat) (d : Nat) : (text.extract d d).toList = [] := by simp
theorem ext_succ (text : Array Nat) (d s : Nat) (h1 : d ≤ s) (h2 : s < text.size) : (text.extract d (s + 1)).toList = (text.extract d s).toList ++ [text.getD s 0] := by
  obtain ⟨l⟩ := text
  simp only [List.size_toArray] at h2
  simp only [Array.toList_extract, List.extract_eq_take_drop]
  rw [show s + 1 - d = (s - d) + 1 from by omega, List.take_add_one, List.getElem?_drop, show d + (s - d) = s from by omega]
  simp [Array.getD, h2]
theorem drop_at (text : Array Nat) (s : Nat) (h2 : s < text.size) : text.toList.drop s = text.getD s 0 :: text.toList.drop (s + 1) := by
  obtain ⟨l⟩ := text
  simp only [List.size_toArray] at h2
  rw [List.drop_eq_getElem_cons h2]
  simp [Array.getD, h2]
theorem drop_end (text : Array Nat) : text.toList.drop text.size = [] := by
  rw [List.drop_eq_nil_iff]; simp
def stuffL : Bool → List Nat → List Nat
  | _, [] => []
  | b, c :: r => if (b && c == 46) = true then 46 :: 46 :: stuffL false r else c :: stuffL (c == 10) r
def F1 (text : Array Nat) (d : Nat) : List Nat := stuffL (bol text d) (text.toList.drop d)
theorem F1_end (text : Array Nat) : F1 text text.size = [] := by
  unfold F1; rw [drop_end]; rfl
theorem bol_succ (text : Array Nat) (s : Nat) : bol text (s + 1) = (text.getD s 0 == 10) := by
  unfold bol
  rw [show s + 1 - 1 = s from rfl]
  simp
theorem F1_miss (text : Array Nat) (s : Nat) (hs : s < text.size) (h : ¬ hit1 text s) : F1 text s = text.getD s 0 :: F1 text (s + 1) := by
  unfold F1
  rw [drop_at text s hs, bol_succ]
  show (if (bol text s && text.getD s 0 == 46) = true then _ else _) = _
  rw [if_neg]
  intro q
  rw [Bool.and_eq_true] at q
  exact h ⟨q.1, hs, q.2⟩
theorem F1_hit (text : Array Nat) (s : Nat) (h : hit1 text s) : F1 text s = [46, 46] ++ F1 text (s + 1) := by
  unfold F1
  rw [drop_at text s h.2.1, bol_succ]
  show (if (bol text s && text.getD s 0 == 46) = true then _ else _) = _
  rw [if_pos (by rw [Bool.and_eq_true]; exact ⟨h.1, h.2.2⟩)]
  have e : text.getD s 0 = 46 := by simpa using h.2.2
  rw [e]
  rfl
open Sre in
theorem scan1 (text : Array Nat) (d : Nat) : ∀ (j s : Nat) (first : Bool) (seen : Sre.Seen) (n : Nat), s + j = text.size → d ≤ s → n ≤ 3 * s →
    (∀ k, M.runFor (k + n) (forSearch code1 text 0 d text.size false) = M.runFor k (A1 text s first seen)) → F1 text d = (text.extract d s).toList ++ F1 text s → SubRes code1 [46, 46] (F1 text) text d := by
  intro j
  induction j with
  | zero =>
    intro s first seen n hj hd hn hr hF
    obtain rfl : s = text.size := by omega
    obtain ⟨k, m', hk, ho, hm⟩ := a1_end text first seen
    refine .inr ⟨⟨0 + k + n, m', by omega, ?_, ho⟩, ?_⟩
    · rw [hr, hm]
    · rw [hF, F1_end, List.append_nil]
  | succ j ih =>
    intro s first seen n hj hd hn hr hF
    by_cases h : hit1 text s
    · obtain ⟨m', hm, ho, h1, h2⟩ := a1_hit text s first seen h 0
      refine .inl ⟨s, s + 1, hd, by omega, by omega, ⟨0 + 5 + n, m', by omega, ?_, ho, h1, h2⟩, ?_⟩
      · rw [hr, hm]
      · rw [hF, F1_hit text s h]
    · have hs : s < text.size := by omega
      obtain ⟨k, seen', hk, hm⟩ := a1_miss text s first seen h hs
      refine ih (s + 1) false seen' (k + n) (by omega) (by omega) (by omega) (fun q => ?_) ?_
      · rw [← Nat.add_assoc, hr, hm]
      · rw [hF, F1_miss text s hs h, ext_succ text d s hd hs, List.append_assoc]; rfl
open Sre in
theorem sub1 (text : Array Nat) (d : Nat) (hd : d ≤ text.size) : SubRes code1 [46, 46] (F1 text) text d := by
  rcases Nat.lt_or_ge d text.size with h | h
  · refine scan1 text d (text.size - d) d true (({} : Sre.Seen).add 14) 0 (by omega) (Nat.le_refl _) (by omega) (fun k => ?_) ?_
    · rw [Nat.add_zero, a1_start text d h]
    · rw [ext_nil]; rfl
  · obtain rfl : d = text.size := by omega
    refine .inr ⟨⟨1, _, by omega, rfl, ?_⟩, ?_⟩
    · have e : (forSearch code1 text 0 text.size text.size false) = ({ code := code1, text, lim := text.size, start := text.size, pc := 5, pos := text.size, handed := text.size, marks := #[], answer := some false, seen := ({} : Sre.Seen).add 14 } : M) := by
        have h1 : (decide (text.size > text.size) || decide (text.size - text.size < 1)) = true := by
          rw [Bool.or_eq_true]; exact .inr (decide_eq_true (by omega))
        show (if (decide (text.size > text.size) || decide (text.size - text.size < 1)) = true then _ else _) = _
        rw [h1, if_pos rfl]
        rfl
      rw [e]
      rfl
    · rw [F1_end, ext_nil]
end

end
end Mine
namespace Mine
section
local macro_rules | `(tactic| is_list) => `(tactic| exact News.isList (by assumption) (by assumption))
local macro_rules | `(tactic| k_room) => `(tactic| ktr_room)
local macro_rules | `(tactic| ktr_enter) => `(tactic| (refine' code_def ?k1 ?k2 ?k3 ?k4 ?k5 ?kA ?kF ?kK ?k6 ?k7 ?k8 ?k9 ?kB ?_ ?c2 ?c3 ?c4 ?c5; (case kA => exact rfl); (case kF => exact rfl); (case kK => assumption); (case k1 => k_asm); (case k2 => k_asm); (case k3 => k_asm); (case k4 => k_asm); (case k5 => k_asm); (case k6 => k_is); (case k7 => k_is); (case k8 => ktr_room); (case k9 => (refine' kp_binds ?kx ?ke; (case kx => k_in); (case ke => exact fun _ => rfl))); (case c5 => decide); (case kB => exact locs rfl); (case c2 => exact rfl); (case c3 => exact rfl); (case c4 => exact rfl); k_whole; intro g' L' h' FG' F' N' B' X' T'; (try dsimp only); (try k_lift B'); (try k_fold)))
local macro_rules | `(tactic| walk_at "subscriptTail Name Name ref int") => `(tactic| ((with_reducible show wpAny _ _ (subscriptTail _ _ (Value.ref _) (Value.int _ _)) _ _ _); (with_unfolding_all refine' item_list_ints ?k1 ?k2 ?k3 ?k4 ?k5 ?_; (case k1 => is_list); (case k2 => l_ints); (case k3 => l_idx); (case k4 => l_idx); (case k5 => l_idx); k_whole); intro _))
local macro_rules | `(tactic| ktr_enter) => `(tactic| (refine' code_defC ?k1 ?k2 ?k3 ?k4 ?k5 ?kA ?kF ?kK ?k6 ?k7 ?k8 ?k9 ?kB ?kD ?_ ?c2 ?c3 ?c4; (case kA => exact rfl); (case kF => exact rfl); (case kK => assumption); (case k1 => k_asm); (case k2 => k_asm); (case k3 => k_asm); (case k4 => k_asm); (case k5 => k_asm); (case k6 => k_is); (case k7 => k_is); (case k8 => k_room); (case k9 => exact BindsTo.of_eq rfl); (case kB => exact rfl); (case kD => decide +kernel); (case c2 => exact rfl); (case c3 => exact rfl); (case c4 => exact rfl); k_whole; intro g' L' h' tk' cells' FG' F' N' Y' B' X' T' l1; (try k_lt l1); k_cells Y'; (try simp only [List.cons_append, List.nil_append] at N'); (try dsimp only); (try k_lift B'); (try k_fold)))
local macro_rules | `(tactic| k_all) => `(tactic| exact all_ne_of_lt (by assumption) (by omega))
local macro_rules | `(tactic| walk_at "CompEnd") => `(tactic| refine LCg.CompEnd.intro (by assumption) (by assumption) _ (fun _ h => h) (by assumption) (by first | exact True.intro | lcg_src) ?_)
local macro_rules | `(tactic| walk_at "InvEndN") => `(tactic| k_dflt kst_close)
local macro_rules | `(tactic| ktr_step) => `(tactic| repeat' ((fail_if_success (with_reducible show wpAny _ _ (pyIter _) _ _ _)); first | (k_unfold; (try dsimp only)) | (k_end; wrow_close) | walk1 | (dsimp only; walk1) | (leave1; walk_say "STEP leave1"; try dsimp only) | fail "no step"))
section
set_option maxRecDepth 100000
open Sre in
theorem inset2 (c : Nat) (seen : Sre.Seen) : inSet code2 c code2.size 5 true seen = if (c == 10) = true then .ok (true, seen.add 16) else if (c == 13) = true then .ok (true, (seen.add 16).add 16) else .ok (false, ((seen.add 16).add 16).add 0) := by kernel_rfl
def nl (c : Nat) : Bool := c == 10 || c == 13
open Sre in
theorem adm_yes (m : M) (hc : m.code = code2) : ∀ (fuel s : Nat) (seen : Sre.Seen), s < m.lim → nl (m.text.getD s 0) = true → ∃ seen', M.admitted m (fuel + 1) s seen = .ok (some s, seen') := by
  intro fuel s seen hs h
  unfold M.admitted
  rw [if_neg (by omega), hc, inset2]
  cases h1 : (m.text.getD s 0 == 10) with
  | true => exact ⟨_, rfl⟩
  | false =>
    have h2 : (m.text.getD s 0 == 13) = true := by
      unfold nl at h; rw [h1] at h; simpa using h
    rw [h2]
    exact ⟨_, rfl⟩
open Sre in
theorem adm_no (m : M) (hc : m.code = code2) (fuel s : Nat) (seen : Sre.Seen) (hs : s < m.lim) (h : nl (m.text.getD s 0) = false) : ∃ seen', M.admitted m (fuel + 1) s seen = M.admitted m fuel (s + 1) seen' := by
  unfold nl at h
  rw [Bool.or_eq_false_iff] at h
  refine ⟨((seen.add 16).add 16).add 0, ?_⟩
  show (if s ≥ m.lim then _ else _) = _
  rw [if_neg (by omega), hc, inset2, h.1, h.2]
  rfl
open Sre in
theorem adm_end (m : M) (fuel s : Nat) (seen : Sre.Seen) (hs : s ≥ m.lim) : M.admitted m fuel s seen = .ok (none, seen) := by
  cases fuel with
  | zero => rfl
  | succ f => show (if s ≥ m.lim then _ else _) = _; rw [if_pos hs]
open Sre in
def S2 (text : Array Nat) (s pc pos handed : Nat) (outermost : Bool) (frames : List Sre.Frame) (weight : Nat) (answer : Option Bool) (seen : Sre.Seen) : M :=
  { code := code2, text, lim := text.size, start := s, lastStart := text.size, mustAdvance := false, pc, pos, handed, outermost, marks := #[], frames, weight, answer, seen }
open Sre in
def fs (s : Nat) : Sre.Frame := { wait := .nextStart, pc := 10, pos := s, outermost := true }
open Sre in
def fb (s alt : Nat) : Sre.Frame := { wait := .nextBranch, pc := alt, pos := s, outermost := true }
open Sre in
def fl (s : Nat) : Sre.Frame := { wait := .lookNot, pc := 26, pos := s, outermost := true }
open Sre in
def A2 (text : Array Nat) (s : Nat) (seen : Sre.Seen) : M := S2 text s 10 s s true [fs s] 1 none seen
/-- a literal's step -/
structure LitAt (pc C : Nat) : Prop where
  op : Sre.ops[code2.getD (pc + 0) 0]? = some Sre.Op.LITERAL
  w : code2.getD (pc + 0) 0 = 16
  acc : ∀ (c : Nat) (seen : Sre.Seen), Sre.accepts code2 pc c seen = .ok (c == C, seen)
  lt : pc < code2.size
  wide : Sre.itemWidth code2 pc = 2
theorem lit12 : LitAt 12 13 := ⟨by kernel_rfl, by kernel_rfl, fun c seen => by kernel_rfl, by decide, by kernel_rfl⟩
theorem lit14 : LitAt 14 10 := ⟨by kernel_rfl, by kernel_rfl, fun c seen => by kernel_rfl, by decide, by kernel_rfl⟩
theorem lit19 : LitAt 19 10 := ⟨by kernel_rfl, by kernel_rfl, fun c seen => by kernel_rfl, by decide, by kernel_rfl⟩
theorem lit24 : LitAt 24 13 := ⟨by kernel_rfl, by kernel_rfl, fun c seen => by kernel_rfl, by decide, by kernel_rfl⟩
theorem lit29 : LitAt 29 10 := ⟨by kernel_rfl, by kernel_rfl, fun c seen => by kernel_rfl, by decide, by kernel_rfl⟩
open Sre in
theorem s2_exec (text : Array Nat) (s pc pos handed : Nat) (o : Bool) (fr : List Sre.Frame) (wt : Nat) (seen : Sre.Seen) (hl : pc < code2.size) :
    (S2 text s pc pos handed o fr wt none seen).step = (S2 text s pc pos handed o fr wt none seen).exec := by
  show (if (none : Option Sre.Outcome).isSome = true then _ else _) = _
  rw [if_neg (by decide)]
  show (if pc < code2.size then _ else _) = _
  rw [if_pos hl]
open Sre in
theorem lit_yes {pc C : Nat} (L : LitAt pc C) (text : Array Nat) (s pos handed : Nat) (o : Bool) (fr : List Sre.Frame) (wt : Nat) (seen : Sre.Seen) (hl : pos < text.size) (h : (text.getD pos 0 == C) = true) :
    (S2 text s pc pos handed o fr wt none seen).step = S2 text s (pc + 2) (pos + 1) handed o fr wt none (seen.add 16) := by
  rw [s2_exec _ _ _ _ _ _ _ _ _ L.lt]
  have e := L.acc (text.getD pos 0) (seen.add 16)
  rw [h] at e
  unfold M.exec S2
  simp only [M.word]
  rw [L.op]
  dsimp only
  rw [if_neg (by omega), L.w, e]
  dsimp only
  rw [L.wide]
open Sre in
theorem lit_no {pc C : Nat} (L : LitAt pc C) (text : Array Nat) (s pos handed : Nat) (o : Bool) (fr : List Sre.Frame) (wt : Nat) (seen : Sre.Seen) (h : pos ≥ text.size ∨ (text.getD pos 0 == C) = false) :
    (S2 text s pc pos handed o fr wt none seen).step = S2 text s pc pos handed o fr wt (some false) (seen.add 16) := by
  rw [s2_exec _ _ _ _ _ _ _ _ _ L.lt]
  unfold M.exec S2
  simp only [M.word]
  rw [L.op]
  dsimp only
  by_cases hl : pos ≥ text.size
  · rw [if_pos hl, L.w]; rfl
  · have e := L.acc (text.getD pos 0) (seen.add 16)
    rw [h.resolve_left hl] at e
    rw [if_neg hl, L.w, e]
    rfl
variable (text : Array Nat) (s pos handed : Nat) (seen : Sre.Seen)
open Sre in
theorem p_branch : (A2 text s seen).step = S2 text s 12 s s true [fb s 11, fs s] 2 none (seen.add 7) := by kernel_rfl
open Sre in
theorem p_alt11 : (S2 text s 12 pos handed true [fb s 11, fs s] 2 (some false) seen).step = S2 text s 19 s s true [fb s 18, fs s] 2 none seen := by kernel_rfl
open Sre in
theorem p_alt14 : (S2 text s 14 pos handed true [fb s 11, fs s] 2 (some false) seen).step = S2 text s 19 s s true [fb s 18, fs s] 2 none seen := by kernel_rfl
open Sre in
theorem p_alt18 : (S2 text s 19 pos handed true [fb s 18, fs s] 2 (some false) seen).step = S2 text s 24 s s true [fb s 23, fs s] 2 none seen := by kernel_rfl
open Sre in
theorem p_jump16 : (S2 text s 16 pos handed true [fb s 11, fs s] 2 none seen).step = S2 text s 35 pos handed true [fb s 11, fs s] 2 none (seen.add 15) := by kernel_rfl
open Sre in
theorem p_jump21 : (S2 text s 21 pos handed true [fb s 18, fs s] 2 none seen).step = S2 text s 35 pos handed true [fb s 18, fs s] 2 none (seen.add 15) := by kernel_rfl
open Sre in
theorem p_look : (S2 text s 26 (s + 1) handed true [fb s 23, fs s] 2 none seen).step = S2 text s 29 (s + 1) (s + 1) false [fl (s + 1), fb s 23, fs s] 3 none (seen.add 5) := by kernel_rfl
open Sre in
theorem p_lookno : (S2 text s 29 pos handed false [fl (s + 1), fb s 23, fs s] 3 (some false) seen).step = S2 text s 32 (s + 1) handed true [fb s 23, fs s] 2 none seen := by kernel_rfl
open Sre in
theorem p_jump32 : (S2 text s 32 pos handed true [fb s 23, fs s] 2 none seen).step = S2 text s 35 pos handed true [fb s 23, fs s] 2 none (seen.add 15) := by kernel_rfl
open Sre in
theorem p_succ (a : Nat) : (S2 text s 35 pos handed true [fb s a, fs s] 2 none seen).step = S2 text s 35 pos pos true [fb s a, fs s] 2 (some true) (seen.add 1) := by kernel_rfl
open Sre in
theorem p_nb (a : Nat) : (S2 text s 35 pos handed true [fb s a, fs s] 2 (some true) seen).step = S2 text s a s handed true [fs s] 1 (some true) seen := by kernel_rfl
open Sre in
theorem p_ns (a : Nat) : (S2 text s a s handed true [fs s] 1 (some true) seen).step = S2 text s 10 s handed true [] 0 (some true) seen := by kernel_rfl
open Sre in
theorem p_m : (S2 text s 10 s handed true [] 0 (some true) seen).step = { S2 text s 10 s handed true [] 0 (some true) seen with outcome := some .matched } := by kernel_rfl
end

end
end Mine
namespace Mine
section
local macro_rules | `(tactic| is_list) => `(tactic| exact News.isList (by assumption) (by assumption))
local macro_rules | `(tactic| k_room) => `(tactic| ktr_room)
local macro_rules | `(tactic| ktr_enter) => `(tactic| (refine' code_def ?k1 ?k2 ?k3 ?k4 ?k5 ?kA ?kF ?kK ?k6 ?k7 ?k8 ?k9 ?kB ?_ ?c2 ?c3 ?c4 ?c5; (case kA => exact rfl); (case kF => exact rfl); (case kK => assumption); (case k1 => k_asm); (case k2 => k_asm); (case k3 => k_asm); (case k4 => k_asm); (case k5 => k_asm); (case k6 => k_is); (case k7 => k_is); (case k8 => ktr_room); (case k9 => (refine' kp_binds ?kx ?ke; (case kx => k_in); (case ke => exact fun _ => rfl))); (case c5 => decide); (case kB => exact locs rfl); (case c2 => exact rfl); (case c3 => exact rfl); (case c4 => exact rfl); k_whole; intro g' L' h' FG' F' N' B' X' T'; (try dsimp only); (try k_lift B'); (try k_fold)))
local macro_rules | `(tactic| walk_at "subscriptTail Name Name ref int") => `(tactic| ((with_reducible show wpAny _ _ (subscriptTail _ _ (Value.ref _) (Value.int _ _)) _ _ _); (with_unfolding_all refine' item_list_ints ?k1 ?k2 ?k3 ?k4 ?k5 ?_; (case k1 => is_list); (case k2 => l_ints); (case k3 => l_idx); (case k4 => l_idx); (case k5 => l_idx); k_whole); intro _))
local macro_rules | `(tactic| ktr_enter) => `(tactic| (refine' code_defC ?k1 ?k2 ?k3 ?k4 ?k5 ?kA ?kF ?kK ?k6 ?k7 ?k8 ?k9 ?kB ?kD ?_ ?c2 ?c3 ?c4; (case kA => exact rfl); (case kF => exact rfl); (case kK => assumption); (case k1 => k_asm); (case k2 => k_asm); (case k3 => k_asm); (case k4 => k_asm); (case k5 => k_asm); (case k6 => k_is); (case k7 => k_is); (case k8 => k_room); (case k9 => exact BindsTo.of_eq rfl); (case kB => exact rfl); (case kD => decide +kernel); (case c2 => exact rfl); (case c3 => exact rfl); (case c4 => exact rfl); k_whole; intro g' L' h' tk' cells' FG' F' N' Y' B' X' T' l1; (try k_lt l1); k_cells Y'; (try simp only [List.cons_append, List.nil_append] at N'); (try dsimp only); (try k_lift B'); (try k_fold)))
local macro_rules | `(tactic| k_all) => `(tactic| exact all_ne_of_lt (by assumption) (by omega))
local macro_rules | `(tactic| walk_at "CompEnd") => `(tactic| refine LCg.CompEnd.intro (by assumption) (by assumption) _ (fun _ h => h) (by assumption) (by first | exact True.intro | lcg_src) ?_)
local macro_rules | `(tactic| walk_at "InvEndN") => `(tactic| k_dflt kst_close)
local macro_rules | `(tactic| ktr_step) => `(tactic| repeat' ((fail_if_success (with_reducible show wpAny _ _ (pyIter _) _ _ _)); first | (k_unfold; (try dsimp only)) | (k_end; wrow_close) | walk1 | (dsimp only; walk1) | (leave1; walk_say "STEP leave1"; try dsimp only) | fail "no step"))
section
set_option maxRecDepth 100000
def normL : Bool → List Nat → List Nat
  | _, [] => []
  | b, c :: r => if (b && c == 10) = true then normL false r else if nl c = true then 13 :: 10 :: normL (c == 13) r else c :: normL false r
def F2 (text : Array Nat) (d : Nat) : List Nat := normL false (text.toList.drop d)
theorem F2_end (text : Array Nat) : F2 text text.size = [] := by
  unfold F2; rw [drop_end]; rfl
theorem F2_miss (text : Array Nat) (s : Nat) (hs : s < text.size) (h : nl (text.getD s 0) = false) : F2 text s = text.getD s 0 :: F2 text (s + 1) := by
  unfold F2
  rw [drop_at text s hs]
  show (if (false && text.getD s 0 == 10) = true then _ else if nl (text.getD s 0) = true then _ else _) = _
  rw [h, Bool.false_and, if_neg Bool.false_ne_true, if_neg Bool.false_ne_true]
theorem norm_two (r : List Nat) : normL false (13 :: 10 :: r) = [13, 10] ++ normL false r := rfl
theorem norm_ten (r : List Nat) : normL false (10 :: r) = [13, 10] ++ normL false r := rfl
theorem norm_one (r : List Nat) (h : r.head? ≠ some 10) : normL false (13 :: r) = [13, 10] ++ normL false r := by
  show 13 :: 10 :: normL true r = 13 :: 10 :: normL false r
  cases r with
  | nil => rfl
  | cons c r =>
    have hc : (c == 10) = false := by
      cases q : (c == 10) with
      | false => rfl
      | true => exact absurd (by rw [show c = 10 from by simpa using q]; rfl) h
    show 13 :: 10 :: (if (true && c == 10) = true then _ else if nl c = true then _ else _) = 13 :: 10 :: (if (false && c == 10) = true then _ else if nl c = true then _ else _)
    rw [hc]
    rfl
open Sre in
theorem p2_two (text : Array Nat) (s : Nat) (seen : Sre.Seen) (h0 : (text.getD s 0 == 13) = true) (h1 : s + 1 < text.size) (h2 : (text.getD (s + 1) 0 == 10) = true) :
    ∃ m', M.runFor 8 (A2 text s seen) = m' ∧ m'.outcome = some .matched ∧ m'.start = s ∧ m'.handed = s + 2 := by
  refine ⟨_, rfl, ?_⟩
  rw [rf_one 7 _ rfl, p_branch, rf_one 6 _ rfl, lit_yes lit12 _ _ _ _ _ _ _ _ (by omega) h0, rf_one 5 _ rfl, lit_yes lit14 _ _ _ _ _ _ _ _ (by omega) h2, rf_one 4 _ rfl, p_jump16, rf_one 3 _ rfl, p_succ, rf_one 2 _ rfl, p_nb, rf_one 1 _ rfl, p_ns, rf_one 0 _ rfl, p_m]
  exact ⟨rfl, rfl, rfl⟩
open Sre in
theorem p2_ten (text : Array Nat) (s : Nat) (seen : Sre.Seen) (h1 : s < text.size) (h0 : (text.getD s 0 == 13) = false) (h2 : (text.getD s 0 == 10) = true) :
    ∃ m', M.runFor 9 (A2 text s seen) = m' ∧ m'.outcome = some .matched ∧ m'.start = s ∧ m'.handed = s + 1 := by
  refine ⟨_, rfl, ?_⟩
  rw [rf_one 8 _ rfl, p_branch, rf_one 7 _ rfl, lit_no lit12 _ _ _ _ _ _ _ _ (.inr h0), rf_one 6 _ rfl, p_alt11, rf_one 5 _ rfl, lit_yes lit19 _ _ _ _ _ _ _ _ h1 h2, rf_one 4 _ rfl, p_jump21, rf_one 3 _ rfl, p_succ, rf_one 2 _ rfl, p_nb, rf_one 1 _ rfl, p_ns, rf_one 0 _ rfl, p_m]
  exact ⟨rfl, rfl, rfl⟩
open Sre in
theorem p2_one (text : Array Nat) (s : Nat) (seen : Sre.Seen) (h1 : s < text.size) (h0 : (text.getD s 0 == 13) = true) (h3 : (text.getD s 0 == 10) = false) (h2 : s + 1 ≥ text.size ∨ (text.getD (s + 1) 0 == 10) = false) :
    ∃ m', M.runFor 15 (A2 text s seen) = m' ∧ m'.outcome = some .matched ∧ m'.start = s ∧ m'.handed = s + 1 := by
  refine ⟨_, rfl, ?_⟩
  rw [rf_one 14 _ rfl, p_branch, rf_one 13 _ rfl, lit_yes lit12 _ _ _ _ _ _ _ _ h1 h0, rf_one 12 _ rfl, lit_no lit14 _ _ _ _ _ _ _ _ h2, rf_one 11 _ rfl, p_alt14, rf_one 10 _ rfl, lit_no lit19 _ _ _ _ _ _ _ _ (.inr h3),
    rf_one 9 _ rfl, p_alt18, rf_one 8 _ rfl, lit_yes lit24 _ _ _ _ _ _ _ _ h1 h0, rf_one 7 _ rfl, p_look, rf_one 6 _ rfl, lit_no lit29 _ _ _ _ _ _ _ _ h2, rf_one 5 _ rfl, p_lookno, rf_one 4 _ rfl, p_jump32, rf_one 3 _ rfl, p_succ, rf_one 2 _ rfl, p_nb, rf_one 1 _ rfl, p_ns, rf_one 0 _ rfl, p_m]
  exact ⟨rfl, rfl, rfl⟩
open Sre in
theorem fresh2 (text : Array Nat) (d : Nat) (h : d < text.size) : ∃ m : M, m.code = code2 ∧ m.text = text ∧ m.lim = text.size ∧ (∀ seen, (({ m with seen } : M).say false).step.outcome = some .failed ∧ (({ m with seen } : M).say false).outcome = none) ∧
    forSearch code2 text 0 d text.size false = (match M.admitted m (text.size + 1 - d) d (({} : Sre.Seen).add 14) with
      | .ok (some s, seen) => A2 text s seen
      | .ok (none, seen) => ({ m with seen } : M).say false
      | .error why => m.stick why) := by
  have h1 : (decide (d > text.size) || decide (text.size - d < 1)) = false := by
    rw [Bool.or_eq_false_iff]; exact ⟨decide_eq_false (by omega), decide_eq_false (by omega)⟩
  refine ⟨{ code := code2, text, lim := text.size, start := d, lastStart := text.size, pc := 10, pos := d, handed := d, marks := #[], seen := ({} : Sre.Seen).add 14 }, rfl, rfl, rfl, fun _ => ⟨rfl, rfl⟩, ?_⟩
  show (if (decide (d > text.size) || decide (text.size - d < 1)) = true then _ else _) = _
  rw [h1, if_neg Bool.false_ne_true]
  rfl
open Sre in
theorem adm_scan (text : Array Nat) (m : M) (hc : m.code = code2) (ht : m.text = text) (hl : m.lim = text.size) (d : Nat) : ∀ (j s : Nat) (seen : Sre.Seen) (fuel : Nat), s + j = text.size → j + 1 ≤ fuel → d ≤ s → F2 text d = (text.extract d s).toList ++ F2 text s →
    (∃ t seen', s ≤ t ∧ t < text.size ∧ nl (text.getD t 0) = true ∧ F2 text d = (text.extract d t).toList ++ F2 text t ∧ M.admitted m fuel s seen = .ok (some t, seen')) ∨
    (∃ seen', F2 text d = (text.extract d text.size).toList ∧ M.admitted m fuel s seen = .ok (none, seen')) := by
  intro j
  induction j with
  | zero =>
    intro s seen fuel hj hf hd hF
    obtain rfl : s = text.size := by omega
    refine .inr ⟨seen, ?_, adm_end m fuel _ seen (by omega)⟩
    rw [hF, F2_end, List.append_nil]
  | succ j ih =>
    intro s seen fuel hj hf hd hF
    obtain ⟨fuel, rfl⟩ : ∃ f, fuel = f + 1 := ⟨fuel - 1, by omega⟩
    have hs : s < text.size := by omega
    cases h : nl (text.getD s 0) with
    | true =>
      obtain ⟨seen', e⟩ := adm_yes m hc fuel s seen (by omega) (by rw [ht]; exact h)
      exact .inl ⟨s, seen', Nat.le_refl _, hs, h, hF, e⟩
    | false =>
      obtain ⟨seen', e⟩ := adm_no m hc fuel s seen (by omega) (by rw [ht]; exact h)
      rcases ih (s + 1) seen' fuel (by omega) (by omega) (by omega) (by rw [hF, F2_miss text s hs h, ext_succ text d s hd hs, List.append_assoc]; rfl) with ⟨t, sn, a, b, c, f, g⟩ | ⟨sn, f, g⟩
      · exact .inl ⟨t, sn, by omega, b, c, f, e.trans g⟩
      · exact .inr ⟨sn, f, e.trans g⟩
open Sre in
theorem sub2 (text : Array Nat) (d : Nat) (hd : d ≤ text.size) : SubRes code2 [13, 10] (F2 text) text d := by
  rcases Nat.lt_or_ge d text.size with h | h
  · obtain ⟨m, hc, ht, hl, hsay, e⟩ := fresh2 text d h
    rcases adm_scan text m hc ht hl d (text.size - d) d (({} : Sre.Seen).add 14) (text.size + 1 - d) (by omega) (by omega) (Nat.le_refl _) (by rw [ext_nil]; rfl) with ⟨t, sn, a, b, c, f, g⟩ | ⟨sn, f, g⟩
    · rw [g] at e
      cases h0 : (text.getD t 0 == 13) with
      | true =>
        have h3 : (text.getD t 0 == 10) = false := by
          have q : text.getD t 0 = 13 := by simpa using h0
          rw [q]; rfl
        by_cases h1 : t + 1 < text.size ∧ (text.getD (t + 1) 0 == 10) = true
        · obtain ⟨m', hm, ho, k1, k2⟩ := p2_two text t sn h0 h1.1 h1.2
          refine .inl ⟨t, t + 2, a, by omega, by omega, ⟨8, m', by omega, by rw [e]; exact hm, ho, k1, k2⟩, ?_⟩
          rw [f]
          congr 1
          unfold F2
          rw [drop_at text t b, drop_at text (t + 1) h1.1, show text.getD t 0 = 13 from by simpa using h0, show text.getD (t + 1) 0 = 10 from by simpa using h1.2]
          exact norm_two _
        · have h2 : t + 1 ≥ text.size ∨ (text.getD (t + 1) 0 == 10) = false := by
            rcases Nat.lt_or_ge (t + 1) text.size with q | q
            · right
              cases r : (text.getD (t + 1) 0 == 10) with
              | false => rfl
              | true => exact absurd ⟨q, r⟩ h1
            · exact .inl q
          obtain ⟨m', hm, ho, k1, k2⟩ := p2_one text t sn b h0 h3 h2
          refine .inl ⟨t, t + 1, a, by omega, by omega, ⟨15, m', by omega, by rw [e]; exact hm, ho, k1, k2⟩, ?_⟩
          rw [f]
          congr 1
          unfold F2
          rw [drop_at text t b, show text.getD t 0 = 13 from by simpa using h0]
          refine norm_one _ ?_
          rcases h2 with q | q
          · rw [List.drop_eq_nil_iff.mpr (by simpa using q)]; simp
          · rcases Nat.lt_or_ge (t + 1) text.size with r | r
            · rw [drop_at text (t + 1) r]
              intro z
              rw [show text.getD (t + 1) 0 = 10 from by simpa using z] at q
              cases q
            · rw [List.drop_eq_nil_iff.mpr (by simpa using r)]; simp
      | false =>
        have h2 : (text.getD t 0 == 10) = true := by
          unfold nl at c; rw [h0] at c; simpa using c
        obtain ⟨m', hm, ho, k1, k2⟩ := p2_ten text t sn b h0 h2
        refine .inl ⟨t, t + 1, a, by omega, by omega, ⟨9, m', by omega, by rw [e]; exact hm, ho, k1, k2⟩, ?_⟩
        rw [f]
        congr 1
        unfold F2
        rw [drop_at text t b, show text.getD t 0 = 10 from by simpa using h2]
        exact norm_ten _
    · rw [g] at e
      refine .inr ⟨⟨1, _, by omega, rfl, ?_⟩, f⟩
      rw [e]
      dsimp only
      rw [rf_one 0 _ (hsay sn).2]
      exact (hsay sn).1
  · obtain rfl : d = text.size := by omega
    refine .inr ⟨⟨1, _, by omega, rfl, ?_⟩, ?_⟩
    · have e : (forSearch code2 text 0 text.size text.size false) = ({ code := code2, text, lim := text.size, start := text.size, pc := 10, pos := text.size, handed := text.size, marks := #[], answer := some false, seen := ({} : Sre.Seen).add 14 } : M) := by
        have h1 : (decide (text.size > text.size) || decide (text.size - text.size < 1)) = true := by
          rw [Bool.or_eq_true]; exact .inr (decide_eq_true (by omega))
        show (if (decide (text.size > text.size) || decide (text.size - text.size < 1)) = true then _ else _) = _
        rw [h1, if_pos rfl]
        rfl
      rw [e]
      rfl
    · rw [F2_end, ext_nil]
end

end
end Mine
namespace Mine
section
local macro_rules | `(tactic| is_list) => `(tactic| exact News.isList (by assumption) (by assumption))
local macro_rules | `(tactic| k_room) => `(tactic| ktr_room)
local macro_rules | `(tactic| ktr_enter) => `(tactic| (refine' code_def ?k1 ?k2 ?k3 ?k4 ?k5 ?kA ?kF ?kK ?k6 ?k7 ?k8 ?k9 ?kB ?_ ?c2 ?c3 ?c4 ?c5; (case kA => exact rfl); (case kF => exact rfl); (case kK => assumption); (case k1 => k_asm); (case k2 => k_asm); (case k3 => k_asm); (case k4 => k_asm); (case k5 => k_asm); (case k6 => k_is); (case k7 => k_is); (case k8 => ktr_room); (case k9 => (refine' kp_binds ?kx ?ke; (case kx => k_in); (case ke => exact fun _ => rfl))); (case c5 => decide); (case kB => exact locs rfl); (case c2 => exact rfl); (case c3 => exact rfl); (case c4 => exact rfl); k_whole; intro g' L' h' FG' F' N' B' X' T'; (try dsimp only); (try k_lift B'); (try k_fold)))
local macro_rules | `(tactic| walk_at "subscriptTail Name Name ref int") => `(tactic| ((with_reducible show wpAny _ _ (subscriptTail _ _ (Value.ref _) (Value.int _ _)) _ _ _); (with_unfolding_all refine' item_list_ints ?k1 ?k2 ?k3 ?k4 ?k5 ?_; (case k1 => is_list); (case k2 => l_ints); (case k3 => l_idx); (case k4 => l_idx); (case k5 => l_idx); k_whole); intro _))
local macro_rules | `(tactic| ktr_enter) => `(tactic| (refine' code_defC ?k1 ?k2 ?k3 ?k4 ?k5 ?kA ?kF ?kK ?k6 ?k7 ?k8 ?k9 ?kB ?kD ?_ ?c2 ?c3 ?c4; (case kA => exact rfl); (case kF => exact rfl); (case kK => assumption); (case k1 => k_asm); (case k2 => k_asm); (case k3 => k_asm); (case k4 => k_asm); (case k5 => k_asm); (case k6 => k_is); (case k7 => k_is); (case k8 => k_room); (case k9 => exact BindsTo.of_eq rfl); (case kB => exact rfl); (case kD => decide +kernel); (case c2 => exact rfl); (case c3 => exact rfl); (case c4 => exact rfl); k_whole; intro g' L' h' tk' cells' FG' F' N' Y' B' X' T' l1; (try k_lt l1); k_cells Y'; (try simp only [List.cons_append, List.nil_append] at N'); (try dsimp only); (try k_lift B'); (try k_fold)))
local macro_rules | `(tactic| k_all) => `(tactic| exact all_ne_of_lt (by assumption) (by omega))
local macro_rules | `(tactic| walk_at "CompEnd") => `(tactic| refine LCg.CompEnd.intro (by assumption) (by assumption) _ (fun _ h => h) (by assumption) (by first | exact True.intro | lcg_src) ?_)
local macro_rules | `(tactic| walk_at "InvEndN") => `(tactic| k_dflt kst_close)
local macro_rules | `(tactic| ktr_step) => `(tactic| repeat' ((fail_if_success (with_reducible show wpAny _ _ (pyIter _) _ _ _)); first | (k_unfold; (try dsimp only)) | (k_end; wrow_close) | walk1 | (dsimp only; walk1) | (leave1; walk_say "STEP leave1"; try dsimp only) | fail "no step"))
section
set_option maxRecDepth 100000
open PySem.Builtin.Re
def PatAt (h : Heap) (P : Addr) (code : Array Nat) : Prop :=
  ∃ (T : Addr) (pt fl : Value) (a b : Tok) (items : Array Value) (n : Nat) (sl : Array (Option Value)) (d : Option Addr) (c : Value),
    h.get? P = some ⟨.type "re.Pattern", none, .fields #[pt, fl, .int 0 a, .none, .none, .ref T, .int 0 b], #[]⟩ ∧ h.get? T = some ⟨c, d, .seq items n, sl⟩ ∧ (items.map reRawOf).map (·.toNat) = code
theorem PatAt.keeps {h h' : Heap} {P : Addr} {code : Array Nat} (p : PatAt h P code) (k : ∀ b o, h.get? b = some o → h'.get? b = some o) : PatAt h' P code := by
  obtain ⟨T, pt, fl, a, b, items, n, sl, d, c, h1, h2, h3⟩ := p
  exact ⟨T, pt, fl, a, b, items, n, sl, d, c, k _ _ h1, k _ _ h2, h3⟩
def tgt (P : Addr) (x : Str) (tx : Tok) (code : Array Nat) : ReTarget := { pattern := .ref P, string := .str x tx, code, text := x.cps, kind := 0, groups := 0, pos := 0, lim := x.cps.size }
section
variable {M : Model} {A : Around} {E : Value → Shared → Prop} {s : Shared}
theorem whole_target {P : Addr} {x : Str} {tx : Tok} {code : Array Nat} {Q : ReTarget → Shared → Prop} (p : PatAt s.heap P code) (h : Q (tgt P x tx code) s) : wpAny M A (reWholeTarget (.ref P) (.str x tx)) Q E s := by
  obtain ⟨T, pt, fl, a, b, items, n, sl, d, c, h1, h2, h3⟩ := p
  unfold reWholeTarget
  refine wpAny_bind (m := fieldsOf (.ref P)) ?_
  refine wpAny_bind (m := load P) (wpAny_load h1 ?_)
  refine wpAny_pure ?_
  refine wpAny_bind (m := reTextOf (.str x tx)) ?_
  refine wpAny_bind (m := asStr? (.str x tx)) (wpAny_pure ?_)
  refine wpAny_pure ?_
  dsimp only
  refine wpAny_bind (m := reRawItems (.ref T)) (Q := Q) ?_
  refine wpAny_bind (m := seqItems? (.ref T)) ?_
  refine wpAny_bind (m := load T) (wpAny_load h2 ?_)
  refine wpAny_pure (wpAny_pure ?_)
  refine wpAny_pure ?_
  subst h3
  exact h
theorem rf_add (a b : Nat) (m : Sre.M) : Sre.M.runFor (a + b) m = Sre.M.runFor b (Sre.M.runFor a m) := by
  induction a generalizing m with
  | zero => rw [Nat.zero_add]; rfl
  | succ a ih =>
    cases h : m.outcome with
    | none => rw [show a + 1 + b = a + b + 1 from by omega, rf_one _ _ h, rf_one _ _ h, ih]
    | some o =>
      have hs : m.outcome.isSome = true := by rw [h]; rfl
      rw [rf_done _ _ hs, rf_done _ _ hs, rf_done _ _ hs]
theorem drive_wp (Q : Sre.M → Shared → Prop) : ∀ (T n : Nat) (m : Sre.M), n ≤ 4 * T → 1 ≤ T → (Sre.M.runFor n m).outcome.isSome = true → Q (Sre.M.runFor n m) s → wpAny M A (reDrive T m) Q E s := by
  intro T
  induction T with
  | zero => intro n m _ h1; omega
  | succ T ih =>
    intro n m hn _ ho hQ
    show wpAny M A (if (Sre.M.runFor reTurnSteps m).outcome.isSome = true then pure (Sre.M.runFor reTurnSteps m) else (rule "sre.turn" >>= fun _ => reDrive T (Sre.M.runFor reTurnSteps m))) Q E s
    by_cases h4 : (Sre.M.runFor reTurnSteps m).outcome.isSome = true
    · rw [if_pos h4]
      have e : Sre.M.runFor n m = Sre.M.runFor reTurnSteps m := by
        rcases Nat.le_total n 4 with h | h
        · have := rf_add n (4 - n) m
          rw [show n + (4 - n) = 4 from by omega, rf_done (4 - n) _ ho] at this
          exact this.symm
        · have := rf_add 4 (n - 4) m
          rw [show 4 + (n - 4) = n from by omega] at this
          rw [this]
          exact rf_done _ _ h4
      rw [← e]
      exact wpAny_pure hQ
    · rw [if_neg h4]
      have hlt : 4 < n := by
        apply Nat.lt_of_not_le
        intro h
        have := rf_add n (4 - n) m
        rw [show n + (4 - n) = 4 from by omega, rf_done (4 - n) _ ho] at this
        exact h4 (by rw [show reTurnSteps = 4 from rfl, this]; exact ho)
      have e : Sre.M.runFor n m = Sre.M.runFor (n - 4) (Sre.M.runFor reTurnSteps m) := by
        have := rf_add 4 (n - 4) m
        rw [show 4 + (n - 4) = n from by omega] at this
        exact this
      refine wpAny_bind (wpAny_rule ?_)
      rw [e] at ho hQ
      exact ih (n - 4) _ (by omega) (by omega) ho hQ
theorem rules_loop {f : Nat → PUnit → Sem (ForInStep PUnit)} (hf : ∀ i u (Q : ForInStep PUnit → Shared → Prop), Q (.yield ⟨⟩) s → wpAny M A (f i u) Q E s) (Q : PUnit → Shared → Prop) (h : Q ⟨⟩ s) : ∀ l : List Nat, wpAny M A (forIn l PUnit.unit f) Q E s := by
  intro l
  induction l with
  | nil => rw [List.forIn_nil]; exact wpAny_pure h
  | cons a l ih => rw [List.forIn_cons]; exact wpAny_bind (hf _ _ _ ih)
theorem run_to_end {m m' : Sre.M} {n : Nat} {Q : Option Sre.M → Shared → Prop} (hn : n ≤ 2 ^ 60) (hr : Sre.M.runFor n m = m')
    (ho : (m'.outcome = some .matched ∧ Q (some m') s) ∨ (m'.outcome = some .failed ∧ Q none s)) : wpAny M A (reRunToEnd m) Q E s := by
  have hs : (Sre.M.runFor n m).outcome.isSome = true := by
    rw [hr]
    rcases ho with ⟨h, _⟩ | ⟨h, _⟩ <;> rw [h] <;> rfl
  unfold reRunToEnd
  refine wpAny_bind (drive_wp _ (2 ^ 64) n m (by omega) (by omega) hs ?_)
  rw [hr]
  refine wpAny_bind (rules_loop (fun i u Q' h => ?_) _ ?_ _)
  · by_cases hc : m'.seen.has i = true
    · rw [if_pos hc]; exact wpAny_bind (wpAny_rule (wpAny_pure h))
    · rw [if_neg hc]; exact wpAny_bind (wpAny_pure (wpAny_pure h))
  · rcases ho with ⟨h, hq⟩ | ⟨h, hq⟩
    · rw [h]; exact wpAny_pure hq
    · rw [h]; exact wpAny_pure hq
theorem next_found {P : Addr} {x : Str} {tx : Tok} {code : Array Nat} {repl : List Nat} {F : Nat → List Nat} {d : Nat} {Q : Option Sre.M → Shared → Prop} (hsz : x.cps.size ≤ 2 ^ 40) (R : SubRes code repl F x.cps d)
    (h1 : ∀ (m' : Sre.M) (a e : Nat), d ≤ a → a < e → e ≤ x.cps.size → m'.start = a → m'.handed = e → F d = (x.cps.extract d a).toList ++ (repl ++ F e) → Q (some m') s)
    (h2 : F d = (x.cps.extract d x.cps.size).toList → Q none s) : wpAny M A (reNextFound (tgt P x tx code) d false) Q E s := by
  unfold reNextFound
  rcases R with ⟨a, e, k1, k2, k3, ⟨n, m', k4, k5, k6, k7, k8⟩, k9⟩ | ⟨⟨n, m', k4, k5, k6⟩, k7⟩
  · exact run_to_end (n := n) (by omega) k5 (.inl ⟨k6, h1 m' a e k1 k2 k3 k7 k8 k9⟩)
  · exact run_to_end (n := n) (by omega) k5 (.inr ⟨k6, h2 k7⟩)
end
end

end
end Mine
namespace Mine
section
local macro_rules | `(tactic| is_list) => `(tactic| exact News.isList (by assumption) (by assumption))
local macro_rules | `(tactic| k_room) => `(tactic| ktr_room)
local macro_rules | `(tactic| ktr_enter) => `(tactic| (refine' code_def ?k1 ?k2 ?k3 ?k4 ?k5 ?kA ?kF ?kK ?k6 ?k7 ?k8 ?k9 ?kB ?_ ?c2 ?c3 ?c4 ?c5; (case kA => exact rfl); (case kF => exact rfl); (case kK => assumption); (case k1 => k_asm); (case k2 => k_asm); (case k3 => k_asm); (case k4 => k_asm); (case k5 => k_asm); (case k6 => k_is); (case k7 => k_is); (case k8 => ktr_room); (case k9 => (refine' kp_binds ?kx ?ke; (case kx => k_in); (case ke => exact fun _ => rfl))); (case c5 => decide); (case kB => exact locs rfl); (case c2 => exact rfl); (case c3 => exact rfl); (case c4 => exact rfl); k_whole; intro g' L' h' FG' F' N' B' X' T'; (try dsimp only); (try k_lift B'); (try k_fold)))
local macro_rules | `(tactic| walk_at "subscriptTail Name Name ref int") => `(tactic| ((with_reducible show wpAny _ _ (subscriptTail _ _ (Value.ref _) (Value.int _ _)) _ _ _); (with_unfolding_all refine' item_list_ints ?k1 ?k2 ?k3 ?k4 ?k5 ?_; (case k1 => is_list); (case k2 => l_ints); (case k3 => l_idx); (case k4 => l_idx); (case k5 => l_idx); k_whole); intro _))
local macro_rules | `(tactic| ktr_enter) => `(tactic| (refine' code_defC ?k1 ?k2 ?k3 ?k4 ?k5 ?kA ?kF ?kK ?k6 ?k7 ?k8 ?k9 ?kB ?kD ?_ ?c2 ?c3 ?c4; (case kA => exact rfl); (case kF => exact rfl); (case kK => assumption); (case k1 => k_asm); (case k2 => k_asm); (case k3 => k_asm); (case k4 => k_asm); (case k5 => k_asm); (case k6 => k_is); (case k7 => k_is); (case k8 => k_room); (case k9 => exact BindsTo.of_eq rfl); (case kB => exact rfl); (case kD => decide +kernel); (case c2 => exact rfl); (case c3 => exact rfl); (case c4 => exact rfl); k_whole; intro g' L' h' tk' cells' FG' F' N' Y' B' X' T' l1; (try k_lt l1); k_cells Y'; (try simp only [List.cons_append, List.nil_append] at N'); (try dsimp only); (try k_lift B'); (try k_fold)))
local macro_rules | `(tactic| k_all) => `(tactic| exact all_ne_of_lt (by assumption) (by omega))
local macro_rules | `(tactic| walk_at "CompEnd") => `(tactic| refine LCg.CompEnd.intro (by assumption) (by assumption) _ (fun _ h => h) (by assumption) (by first | exact True.intro | lcg_src) ?_)
local macro_rules | `(tactic| walk_at "InvEndN") => `(tactic| k_dflt kst_close)
local macro_rules | `(tactic| ktr_step) => `(tactic| repeat' ((fail_if_success (with_reducible show wpAny _ _ (pyIter _) _ _ _)); first | (k_unfold; (try dsimp only)) | (k_end; wrow_close) | walk1 | (dsimp only; walk1) | (leave1; walk_say "STEP leave1"; try dsimp only) | fail "no step"))
section
set_option maxRecDepth 100000
theorem plainAttrs_pat : PlainAttrs "re.Pattern" :=
  ⟨⟨"object.__getattribute__", by rw [typeLookup_type, builtinLookup_eq_fast]; kernel_rfl, by decide +kernel⟩, by rw [typeLookup_type, builtinLookup_eq_fast]; kernel_rfl⟩
theorem slot_sub : Slot "re.Pattern" "sub" "re.Pattern.sub" :=
  .of (owner := "re.Pattern") (n := "sub") (by rw [typeLookup_type, builtinLookup_eq_fast]; kernel_rfl) (by decide +kernel) (by decide +kernel) (by decide +kernel)
    (by first | exact .inl (by decide +kernel) | exact .inr (by decide +kernel)) (by rw [isSubtype_type]; kernel_rfl)
theorem type_sub : typeOf (.builtin "re.Pattern.sub") = pure (.type "method_descriptor") := by show builtinType _ = _; rw [builtinType_eq_fast]; kernel_rfl
theorem entry_sub : entryFor table "re.Pattern.sub" = some Builtin.«re.Pattern.sub» := entryFor_of_tree (by kernel_rfl)
theorem entry_loop : entryFor table "re.Pattern.sub.loop" = some Builtin.«re.Pattern.sub.loop» := entryFor_of_tree (by kernel_rfl)
theorem str_no_call : typeLookup (.type "str") "__call__" = pure none := by rw [typeLookup_type, builtinLookup_eq_fast]; kernel_rfl
theorem owner_pat : Manifest.owners.lookup (String.ofList ['n', 'r', 'e', 't', 't', 'a', 'P', '.', 'e', 'r'].reverse) = some Manifest.sig_re_Pattern := by kernel_rfl
theorem args_sub (a b c : Value) : argsOk "re.Pattern.sub" ⟨[a, b, c], []⟩ := by
  unfold argsOk; rw [signature?_of (id := "re.Pattern.sub") (n := ['b', 'u', 's']) (o := ['n', 'r', 'e', 't', 't', 'a', 'P', '.', 'e', 'r']) (by kernel_rfl) owner_pat]; kernel_rfl
end

end
end Mine
namespace Mine
section
local macro_rules | `(tactic| is_list) => `(tactic| exact News.isList (by assumption) (by assumption))
local macro_rules | `(tactic| k_room) => `(tactic| ktr_room)
local macro_rules | `(tactic| ktr_enter) => `(tactic| (refine' code_def ?k1 ?k2 ?k3 ?k4 ?k5 ?kA ?kF ?kK ?k6 ?k7 ?k8 ?k9 ?kB ?_ ?c2 ?c3 ?c4 ?c5; (case kA => exact rfl); (case kF => exact rfl); (case kK => assumption); (case k1 => k_asm); (case k2 => k_asm); (case k3 => k_asm); (case k4 => k_asm); (case k5 => k_asm); (case k6 => k_is); (case k7 => k_is); (case k8 => ktr_room); (case k9 => (refine' kp_binds ?kx ?ke; (case kx => k_in); (case ke => exact fun _ => rfl))); (case c5 => decide); (case kB => exact locs rfl); (case c2 => exact rfl); (case c3 => exact rfl); (case c4 => exact rfl); k_whole; intro g' L' h' FG' F' N' B' X' T'; (try dsimp only); (try k_lift B'); (try k_fold)))
local macro_rules | `(tactic| walk_at "subscriptTail Name Name ref int") => `(tactic| ((with_reducible show wpAny _ _ (subscriptTail _ _ (Value.ref _) (Value.int _ _)) _ _ _); (with_unfolding_all refine' item_list_ints ?k1 ?k2 ?k3 ?k4 ?k5 ?_; (case k1 => is_list); (case k2 => l_ints); (case k3 => l_idx); (case k4 => l_idx); (case k5 => l_idx); k_whole); intro _))
local macro_rules | `(tactic| ktr_enter) => `(tactic| (refine' code_defC ?k1 ?k2 ?k3 ?k4 ?k5 ?kA ?kF ?kK ?k6 ?k7 ?k8 ?k9 ?kB ?kD ?_ ?c2 ?c3 ?c4; (case kA => exact rfl); (case kF => exact rfl); (case kK => assumption); (case k1 => k_asm); (case k2 => k_asm); (case k3 => k_asm); (case k4 => k_asm); (case k5 => k_asm); (case k6 => k_is); (case k7 => k_is); (case k8 => k_room); (case k9 => exact BindsTo.of_eq rfl); (case kB => exact rfl); (case kD => decide +kernel); (case c2 => exact rfl); (case c3 => exact rfl); (case c4 => exact rfl); k_whole; intro g' L' h' tk' cells' FG' F' N' Y' B' X' T' l1; (try k_lt l1); k_cells Y'; (try simp only [List.cons_append, List.nil_append] at N'); (try dsimp only); (try k_lift B'); (try k_fold)))
local macro_rules | `(tactic| k_all) => `(tactic| exact all_ne_of_lt (by assumption) (by omega))
local macro_rules | `(tactic| walk_at "CompEnd") => `(tactic| refine LCg.CompEnd.intro (by assumption) (by assumption) _ (fun _ h => h) (by assumption) (by first | exact True.intro | lcg_src) ?_)
local macro_rules | `(tactic| walk_at "InvEndN") => `(tactic| k_dflt kst_close)
local macro_rules | `(tactic| ktr_step) => `(tactic| repeat' ((fail_if_success (with_reducible show wpAny _ _ (pyIter _) _ _ _)); first | (k_unfold; (try dsimp only)) | (k_end; wrow_close) | walk1 | (dsimp only; walk1) | (leave1; walk_say "STEP leave1"; try dsimp only) | fail "no step"))
section
set_option maxRecDepth 100000
open PySem.Builtin.Re
def joinL (ss : List Str) : List Nat := ss.flatMap (fun a => a.cps.toList)
theorem strs_push {vs : List Value} {ss : List Str} (h : StrsAre vs ss) (y : Str) (t : Tok) : StrsAre (vs ++ [.str y t]) (ss ++ [y]) := StrsAre.append' h (.cons y t .nil)
theorem join_cps (e : Str) (he : e.cps = #[]) : ∀ ss : List Str, (Str.join e ss).cps.toList = joinL ss := by
  intro ss
  induction ss with
  | nil => rfl
  | cons a r ih =>
    cases r with
    | nil => simp [Str.join, joinL]
    | cons b r =>
      show ((a ++ e ++ Str.join e (b :: r) : Str)).cps.toList = _
      rw [Str.cps_append, Str.cps_append, he, Array.toList_append, Array.toList_append, ih]
      simp [joinL]
section
variable {prog : Program} {w : World} {A : Around} {E : Value → Shared → Prop} {s : Shared} {h₀ : Heap} {L l : Addr} {m : Str → Option Value} {news : List (Addr × Obj)}
theorem push_seq {vs : List Value} {n : Nat} {v : Value} {Q : Unit → Shared → Prop} (F : Fr h₀ L s.heap m) (N : News h₀ L s.heap ((l, W.listOf vs.toArray n) :: news)) (hne : ∀ p ∈ news, p.1 ≠ l) (hsz : vs.length ≤ 2 ^ 20)
    (h : ∀ h', Fr h₀ L h' m → News h₀ L h' ((l, W.listOf (vs ++ [v]).toArray (n + 1)) :: news) → Q () { s with heap := h' }) : wpAny (model prog w) A (updateSeq l (fun a => a.push v)) Q E s := by
  have z := N (l, W.listOf vs.toArray n) (.head _)
  have N' := kl_turn (pre := []) (post := news) (its' := (vs ++ [v]).toArray) (fun a => a.push v) N (fun _ hp => nomatch hp) hne (by simp) (by simp)
  have F' := F.change (Heap.SameBut.update s.heap l (Obj.mapSeq fun a => a.push v)) z.2.1 z.2.2
  unfold updateSeq
  refine wpAny_bind (m := load l) (wpAny_load z.1 ?_)
  refine wpAny_bind (m := update l (Obj.mapSeq fun a => a.push v)) (wpAny_update z.1 ?_)
  refine wpAny_bind (m := loadPart l none) (wpAny_loadPart (N' _ (.head _)).1 ?_)
  have hp : (W.listOf (vs ++ [v]).toArray (n + 1)).data.pastItsLine = none := by
    show (if (vs ++ [v]).toArray.size > sizeLine + 1 then _ else _) = _
    rw [if_neg]
    rw [sizeLine_eq, List.size_toArray, List.length_append, List.length_singleton]
    omega
  rw [hp]
  exact wpAny_pure (h _ F' N')
theorem slice_wp {M : Model} {text : Array Nat} {a b : Nat} {Q : Value → Shared → Prop} (hsz : text.size ≤ 2 ^ 20) (h : Q (.str ⟨text.extract a b⟩ s.toks) { s with toks := s.toks + 1 }) : wpAny M A (reSlice text 0 a b) Q E s := by
  have e : reSlice text 0 a b = mkStr ⟨text.extract a b⟩ := rfl
  rw [e]
  refine wpAny_mkStr h ?_
  show (text.extract a b).size ≤ sizeLine
  rw [sizeLine_eq, Array.size_extract]
  omega
theorem joinL_push (ss : List Str) (y : Str) : joinL (ss ++ [y]) = joinL ss ++ y.cps.toList := by simp [joinL]
theorem joinL_len (ss : List Str) : (ss.map (·.length)).sum = (joinL ss).length := by
  induction ss with
  | nil => rfl
  | cons a r ih => rw [List.map_cons, List.sum_cons, ih]; simp [joinL, Str.length]
theorem join_tail {x : Str} {vs : List Value} {ss : List Str} {n : Nat} {nn : Int} {Q : Fin → Shared → Prop} (hx : x.cps.size ≤ 2 ^ 17) (F₁ : Fr h₀ L s.heap m) (N₁ : News h₀ L s.heap ((l, W.listOf vs.toArray n) :: news)) (hs : StrsAre vs ss) (hj : (joinL ss).length ≤ 2 ^ 20)
    (hq : ∀ (y : Str) (t : Tok) (tk' : Nat), y.cps.toList = joinL ss → Q (.done (.ret (.str y t))) { s with toks := tk' }) :
    wpAny (model prog w) A (do
      let joiner ← reSlice x.cps 0 0 0
      let its ← seqItems? (Value.ref l)
      if (its.getD #[]).isEmpty = true then do
          let text ← pure joiner
          if false = true then do
              let v ← holding [text] do
                    let v ← mkInt nn
                    newTuple [text, v]
              ret v
            else ret text
        else do
          let text ← call (Value.builtin "str.join") [joiner, Value.ref l]
          if false = true then do
              let v ← holding [text] do
                    let v ← mkInt nn
                    newTuple [text, v]
              ret v
            else ret text) Q E s := by
  refine wpAny_bind (slice_wp (by omega) ?_)
  refine wpAny_bind (m := seqItems? (.ref l)) ?_
  refine wpAny_bind (m := load l) (wpAny_load (N₁ _ (.head _)).1 ?_)
  refine wpAny_pure ?_
  have he : (⟨x.cps.extract 0 0⟩ : Str).cps = #[] := by
    apply Array.toList_inj.mp
    exact ext_nil _ _
  cases hs with
  | nil =>
    rw [if_pos (show ((some (List.toArray ([] : List Value))).getD #[]).isEmpty = true from rfl)]
    refine wpAny_bind (wpAny_pure ?_)
    rw [if_neg Bool.false_ne_true]
    exact wpAny_pure (hq _ _ _ (by rw [he]; rfl))
  | cons y t r =>
    rw [if_neg (show ¬ ((some (List.toArray (Value.str y t :: _))).getD #[]).isEmpty = true from by simp)]
    refine wpAny_bind (join_list (News.isList N₁ (.head _)) (show StrsAre (List.toArray (Value.str y t :: _)).toList _ from .cons y t r) ?_ (fun t' k => ?_))
    · rw [joinL_len]
      show _ + _ * (x.cps.extract 0 0).size ≤ _
      rw [show (x.cps.extract 0 0).size = 0 from by rw [show x.cps.extract 0 0 = #[] from he]; rfl]
      omega
    · rw [if_neg Bool.false_ne_true]
      exact wpAny_pure (hq _ _ _ (by rw [show Txt.join (⟨x.cps.extract 0 0⟩ : Str) _ = Str.join _ _ from eq_of_beq (join_plain_closes _ _)]; exact join_cps _ he _))
theorem loop_code {P : Addr} {code : Array Nat} {x r : Str} {tx tr : Tok} {F : Nat → List Nat} (hP : PatAt h₀ P code) (hx : x.cps.size ≤ 2 ^ 17) (hR : ∀ d, d ≤ x.cps.size → SubRes code r.cps.toList F x.cps d) (hF : (F 0).length ≤ 2 ^ 20)
    (hne : ∀ p ∈ news, p.1 ≠ l) (R : Result → Shared → Prop) : ∀ (j d : Nat) (vs : List Value) (ss : List Str) (n : Nat) (nn : Int) (s : Shared), x.cps.size - d < j → d ≤ x.cps.size → vs.length ≤ 2 * d → StrsAre vs ss → joinL ss ++ F d = F 0 →
      Fr h₀ L s.heap m → News h₀ L s.heap ((l, W.listOf vs.toArray n) :: news) →
      (∀ (y : Str) (t : Tok) (h' : Heap) (tk' : Nat), y.cps.toList = F 0 → Fr h₀ L h' m → News h₀ L h' news → R (.ok (.ret (.str y t))) { s with heap := h', toks := tk' }) →
      codeAny (model prog w) A (.builtin "re.Pattern.sub.loop" ⟨[.ref P, .str x tx, .str r tr, .int 0 0, .int 0 0, .int nn 0, .int (d : Int) 0, .int (d : Int) 0, .bool false, .ref l, .bool false], []⟩) R s := by
  intro j
  induction j with
  | zero => intro d vs ss n nn s hj; omega
  | succ j ih =>
    intro d vs ss n nn s hj hd hv hs hjn F₁ N₁ hret
    refine codeAny_builtin entry_loop ?_
    unfold Builtin.«re.Pattern.sub.loop»
    dsimp only
    refine wpAny_bind (whole_target (hP.keeps F₁.keep) ?_)
    refine wpAny_bind (m := reLiteralCannotBeTurned (.str r tr)) (wpAny_pure ?_)
    refine wpAny_bind ?_
    rw [if_neg (by simp)]
    simp only [Int.toNat_natCast]
    refine next_found (by omega) (hR d hd) (fun m' a e k1 k2 k3 k4 k5 k6 => ?_) (fun k6 => ?_)
    · dsimp only
      rw [k4, k5]
      have hea : (e == a) = false := by
        cases q : (e == a) with
        | false => rfl
        | true => exact absurd (show e = a from by simpa using q) (by omega)
      rw [hea]
      have step : ∀ (vs' : List Value) (ss' : List Str) (n' : Nat) (s' : Shared), s'.gens = s.gens → s'.drawn = s.drawn → s'.os = s.os → vs'.length ≤ 2 * d + 2 → StrsAre vs' ss' → joinL ss' ++ F e = F 0 → Fr h₀ L s'.heap m → News h₀ L s'.heap ((l, W.listOf vs'.toArray n') :: news) →
          codeAny (model prog w) A (.builtin "re.Pattern.sub.loop" ⟨[.ref P, .str x tx, .str r tr, .int 0 0, .int 0 0, .int (nn + 1) 0, .int (e : Int) 0, .int (e : Int) 0, .bool false, .ref l, .bool false], []⟩) R s' := by
        intro vs' ss' n' s' g1 g2 g3 hv' hs' hj' F' N'
        refine ih e vs' ss' n' (nn + 1) s' (by omega) k3 (by omega) hs' hj' F' N' (fun y t h' tk' hy Fy Ny => ?_)
        have := hret y t h' tk' hy Fy Ny
        rw [← g1, ← g2, ← g3] at this
        exact this
      have hvb : vs.length ≤ 2 ^ 18 + 2 := by omega
      by_cases hda : d < a
      · rw [if_pos hda]
        refine wpAny_bind (slice_wp (by show x.cps.size ≤ _; omega) ?_)
        refine wpAny_bind (push_seq F₁ N₁ hne (by omega) (fun h1 F1 N1 => ?_))
        rw [if_pos (show ((0 : Int) == 0) = true from rfl)]
        refine wpAny_bind (wpAny_pure ?_)
        rw [if_pos (show ((Value.str r tr) != Value.none) = true from rfl)]
        refine wpAny_bind (push_seq F1 N1 hne (by rw [List.length_append, List.length_singleton]; omega) (fun h2 F2 N2 => ?_))
        refine wpAny_pure ⟨Code.quiet_builtin _ (by decide +kernel), ?_⟩
        refine step _ _ _ _ rfl rfl rfl ?_ (strs_push (strs_push hs _ _) _ _) ?_ F2 N2
        · rw [List.length_append, List.length_append, List.length_singleton, List.length_singleton]; omega
        · rw [joinL_push, joinL_push, ← hjn, k6]
          show joinL ss ++ (x.cps.extract d a).toList ++ r.cps.toList ++ F e = _
          simp only [List.append_assoc]
      · rw [if_neg hda]
        obtain rfl : d = a := by omega
        rw [if_pos (show ((0 : Int) == 0) = true from rfl)]
        refine wpAny_bind (wpAny_pure ?_)
        rw [if_pos (show ((Value.str r tr) != Value.none) = true from rfl)]
        refine wpAny_bind (push_seq F₁ N₁ hne (by omega) (fun h2 F2 N2 => ?_))
        refine wpAny_pure ⟨Code.quiet_builtin _ (by decide +kernel), ?_⟩
        refine step _ _ _ _ rfl rfl rfl ?_ (strs_push hs _ _) ?_ F2 N2
        · rw [List.length_append, List.length_singleton]; omega
        · rw [joinL_push, ← hjn, k6, ext_nil]
          simp only [List.append_assoc, List.nil_append]
    · dsimp only
      have hjl : ∀ ss' : List Str, joinL ss' = F 0 → (joinL ss').length ≤ 2 ^ 20 := fun ss' h => by rw [h]; exact hF
      by_cases hl : d < x.cps.size
      · rw [if_pos (show d < (tgt P x tx code).lim from hl)]
        have hj2 : joinL (ss ++ [⟨x.cps.extract d x.cps.size⟩]) = F 0 := by rw [joinL_push, ← hjn, k6]
        refine wpAny_bind (slice_wp (by show x.cps.size ≤ _; omega) ?_)
        refine wpAny_bind (push_seq F₁ N₁ hne (by omega) (fun h2 F2 N2 => ?_))
        exact join_tail (x := x) hx F2 N2 (strs_push hs _ _) (hjl _ hj2) (fun y t tk' hy => hret y t _ _ (hy.trans hj2) F2 (fun p hp => N2 p (.tail _ hp)))
      · rw [if_neg (show ¬ d < (tgt P x tx code).lim from hl)]
        obtain rfl : d = x.cps.size := by omega
        have hj2 : joinL ss = F 0 := by rw [← hjn, k6, ext_nil, List.append_nil]
        exact join_tail (x := x) hx F₁ N₁ hs (hjl _ hj2) (fun y t tk' hy => hret y t _ _ (hy.trans hj2) F₁ (fun p hp => N₁ p (.tail _ hp)))
theorem named_sub (a b : Value) : reNamed "re.Pattern.sub" "sub" ["repl", "string", "count"] 2 [a, b] [] = pure [some a, some b, none] := by rfl
theorem sub_call {P : Addr} {code : Array Nat} {x r : Str} {tx tr : Tok} {F : Nat → List Nat} {Q E : Value → Shared → Prop} (hP : PatAt h₀ P code) (hx : x.cps.size ≤ 2 ^ 17) (hR : ∀ d, d ≤ x.cps.size → SubRes code r.cps.toList F x.cps d) (hF : (F 0).length ≤ 2 ^ 20)
    (hr : r.cps.contains 92 = false) (F₁ : Fr h₀ L s.heap m) (N₁ : News h₀ L s.heap news)
    (hret : ∀ (y : Str) (t : Tok) (h' : Heap) (tk' : Nat), y.cps.toList = F 0 → Fr h₀ L h' m → News h₀ L h' news → Q (.str y t) { s with heap := h', toks := tk' }) :
    wpAny (model prog w) A (call (.builtin "re.Pattern.sub") [.ref P, .str r tr, .str x tx]) Q E s := by
  have hP1 := hP.keeps F₁.keep
  obtain ⟨T, pt, fl, a, b, items, n, sl, dd, c, g1, g2, g3⟩ := hP1
  refine call_meetsIn slot_sub ⟨_, g1, rfl⟩ entry_sub (args_sub _ _ _) (S := fun _ R s' => s' = s ∧ R = wants Q E) ?_ ⟨rfl, rfl⟩
  rintro A' R s' ⟨rfl, rfl⟩
  show wpAny (model prog w) A'.in1 (reSubstitute "re.Pattern.sub" "sub" false ⟨[.ref P, .str r tr, .str x tx], []⟩) _ _ s'
  unfold reSubstitute
  dsimp only
  rw [named_sub]
  refine wpAny_bind (wpAny_pure ?_)
  dsimp only
  refine wpAny_bind (wpAny_pure ?_)
  refine wpAny_bind (wpAny_specialOf (T := "str") ?_ str_no_call ?_)
  · rfl
  · rw [if_neg (by decide)]
    refine wpAny_bind (m := asStr? (.str r tr)) (wpAny_pure ?_)
    dsimp only
    refine wpAny_bind (wpAny_pure ?_)
    rw [if_neg (by decide), hr, if_pos (show (!false) = true from rfl)]
    refine wpAny_bind (wpAny_pure ?_)
    dsimp only
    refine wpAny_bind (wpAny_holding (whole_target (hP.keeps F₁.keep) ?_))
    rw [if_neg (show ¬ ((0 : Int) == 1) = true from by decide)]
    refine wpAny_bind (newList_K F₁ N₁ (fun l h1 F1 N1 hlt => ?_) (by show 0 ≤ _; omega))
    refine wpAny_pure ⟨Code.quiet_builtin _ (by decide +kernel), ?_⟩
    exact loop_code (d := 0) (j := x.cps.size + 1) (vs := []) (ss := []) hP hx hR hF (fun p hp => Nat.ne_of_lt (hlt p hp)) _ 0 0 _ (by omega) (by omega) (by show 0 ≤ _; omega) .nil rfl F1 N1 (fun y t h' tk' hy Fy Ny => hret y t h' tk' hy Fy Ny)
end
end

end
end Mine
namespace Mine
section
local macro_rules | `(tactic| is_list) => `(tactic| exact News.isList (by assumption) (by assumption))
local macro_rules | `(tactic| k_room) => `(tactic| ktr_room)
local macro_rules | `(tactic| ktr_enter) => `(tactic| (refine' code_def ?k1 ?k2 ?k3 ?k4 ?k5 ?kA ?kF ?kK ?k6 ?k7 ?k8 ?k9 ?kB ?_ ?c2 ?c3 ?c4 ?c5; (case kA => exact rfl); (case kF => exact rfl); (case kK => assumption); (case k1 => k_asm); (case k2 => k_asm); (case k3 => k_asm); (case k4 => k_asm); (case k5 => k_asm); (case k6 => k_is); (case k7 => k_is); (case k8 => ktr_room); (case k9 => (refine' kp_binds ?kx ?ke; (case kx => k_in); (case ke => exact fun _ => rfl))); (case c5 => decide); (case kB => exact locs rfl); (case c2 => exact rfl); (case c3 => exact rfl); (case c4 => exact rfl); k_whole; intro g' L' h' FG' F' N' B' X' T'; (try dsimp only); (try k_lift B'); (try k_fold)))
local macro_rules | `(tactic| walk_at "subscriptTail Name Name ref int") => `(tactic| ((with_reducible show wpAny _ _ (subscriptTail _ _ (Value.ref _) (Value.int _ _)) _ _ _); (with_unfolding_all refine' item_list_ints ?k1 ?k2 ?k3 ?k4 ?k5 ?_; (case k1 => is_list); (case k2 => l_ints); (case k3 => l_idx); (case k4 => l_idx); (case k5 => l_idx); k_whole); intro _))
local macro_rules | `(tactic| ktr_enter) => `(tactic| (refine' code_defC ?k1 ?k2 ?k3 ?k4 ?k5 ?kA ?kF ?kK ?k6 ?k7 ?k8 ?k9 ?kB ?kD ?_ ?c2 ?c3 ?c4; (case kA => exact rfl); (case kF => exact rfl); (case kK => assumption); (case k1 => k_asm); (case k2 => k_asm); (case k3 => k_asm); (case k4 => k_asm); (case k5 => k_asm); (case k6 => k_is); (case k7 => k_is); (case k8 => k_room); (case k9 => exact BindsTo.of_eq rfl); (case kB => exact rfl); (case kD => decide +kernel); (case c2 => exact rfl); (case c3 => exact rfl); (case c4 => exact rfl); k_whole; intro g' L' h' tk' cells' FG' F' N' Y' B' X' T' l1; (try k_lt l1); k_cells Y'; (try simp only [List.cons_append, List.nil_append] at N'); (try dsimp only); (try k_lift B'); (try k_fold)))
local macro_rules | `(tactic| k_all) => `(tactic| exact all_ne_of_lt (by assumption) (by omega))
local macro_rules | `(tactic| walk_at "CompEnd") => `(tactic| refine LCg.CompEnd.intro (by assumption) (by assumption) _ (fun _ h => h) (by assumption) (by first | exact True.intro | lcg_src) ?_)
local macro_rules | `(tactic| walk_at "InvEndN") => `(tactic| k_dflt kst_close)
local macro_rules | `(tactic| ktr_step) => `(tactic| repeat' ((fail_if_success (with_reducible show wpAny _ _ (pyIter _) _ _ _)); first | (k_unfold; (try dsimp only)) | (k_end; wrow_close) | walk1 | (dsimp only; walk1) | (leave1; walk_say "STEP leave1"; try dsimp only) | fail "no step"))
section
variable {prog : Program} {w : World} {A : Around} {E : Value → Shared → Prop} {s : Shared} {h₀ : Heap} {L : Addr} {m : Str → Option Value} {env : Env}
/-- a comprehension over a range of any step -/
def RSrc (prog : Program) (w : World) (A : Around) (h₀ : Heap) (L : Addr) (m : Str → Option Value) (env : Env) (elt : Expr) (x : Str) (scope : Scope) (cl : List (Str × Addr)) (Fin : Shared → List Value → List (Addr × Obj) → Prop) (xv : Value) (s₁ : Shared) : Prop :=
  ∃ r a b c t u v n news, xv = .ref r ∧ A.handled = none ∧ Fr h₀ L s₁.heap m ∧ News h₀ L s₁.heap news ∧ IsRange s₁.heap r a b c t u v ∧ Builtin.Range.small a b c = true ∧ Builtin.Range.rangeSize a b c = ((n : Nat) : Int) ∧ n ≤ sizeLine ∧
    ∀ s₂ : Shared, (∃ h, s₂ = { s₁ with heap := h }) → LCg.CompRest prog w A h₀ L m env elt x scope cl s₂ (fun _ => True) (fun i v => ∃ t, v = .int (a + (i : Int) * c) t) (Fin s₂) n 0 [] news
theorem RSrc.intro {elt : Expr} {x : Str} {scope : Scope} {cl : List (Str × Addr)} {Fin : Shared → List Value → List (Addr × Obj) → Prop} {r : Addr} {a b c : Int} {t u v : Tok} {n : Nat} {news : List (Addr × Obj)} {s₁ : Shared}
    (hh : A.handled = none) (F : Fr h₀ L s₁.heap m) (N : News h₀ L s₁.heap news) (hr : IsRange s₁.heap r a b c t u v) (hsm : Builtin.Range.small a b c = true) (hn : Builtin.Range.rangeSize a b c = ((n : Nat) : Int)) (hsz : n ≤ sizeLine)
    (h : ∀ g, LCg.CompRest prog w A h₀ L m env elt x scope cl { s₁ with heap := g } (fun _ => True) (fun i v => ∃ t, v = .int (a + (i : Int) * c) t) (Fin { s₁ with heap := g }) n 0 [] news) :
    RSrc prog w A h₀ L m env elt x scope cl Fin (.ref r) s₁ := ⟨r, a, b, c, t, u, v, n, news, rfl, hh, F, N, hr, hsm, hn, hsz, fun _ ⟨g, e⟩ => e ▸ h g⟩
theorem ListComp_R {elt iter : Expr} {x : Str} {px : Pos} {scope : Scope} {cl : List (Str × Addr)} {pos : Pos} {Q : Value → Shared → Prop} (_F₀ : Fr h₀ L s.heap m)
    (hclos : closureFor scope env = pure cl) (hcell : ∀ y ∈ scope.names, y.2 ≠ .cell) (hkind : scope.kind = .function)
    (hnames : ∀ y ∈ scope.names, y.2 = .local → scope.names.lookup y.1 = some .local) (hx : scope.names.lookup x = some .local)
    (h : wpAny (model prog w) A (eval iter env) (RSrc prog w A h₀ L m env elt x scope cl (fun s₂ => LCg.FinE h₀ L m s₂ Q)) E s)
    (hs : ∀ x, foldedSetIterable iter env x = pure x := by intro _; rfl) :
    wpAny (model prog w) A (eval (.ListComp elt [⟨.Name x px, iter, [], 0⟩] scope pos) env) Q E s := by
  rw [eval_ListComp]
  refine wpAny_comprehension_free (use := none) rfl hs hclos hkind hnames (wpAny_mono h (fun xv s₁ h₁ => ?_) fun _ _ e => e)
  obtain ⟨r, a, b, c, t, u, v, n, news, rfl, hh, F, N, hr, hsm, hn, hsz, R⟩ := h₁
  refine wpAny_pyIter_range hr hsm ?_
  refine LCg.block_U (Walks.range hh s₁.heap.objs.size a c n) hsz (fun i h st => ⟨_, st⟩) (fun i h h' o nw st e e' _ _ _ => ?_) hcell hkind hx (by show IsRangeIter _ _ _ _ _; rw [hn]; simpa using Heap.get?_push_size _ rfl) (fun b hb => ?_)
    (F.keeps fun _ _ e => Heap.get?_push_of_some _ e) (N.grown fun _ _ e => Heap.get?_push_of_some _ e) (Nat.ne_of_lt F.ns.lt) (next_is_new F) (fun p hp => Nat.ne_of_lt (Heap.lt_size (N p hp).1)) trivial (R _ ⟨_, rfl⟩) ?_
  · have st' : h.get? s₁.heap.objs.size = some _ := st
    show h'.get? s₁.heap.objs.size = some _
    rw [e', ← e]; exact st'
  · rw [List.mem_singleton.mp hb]
    show s₁.heap.objs.size < (s₁.heap.push _).objs.size
    rw [Heap.size_push]; exact Nat.lt_succ_self _
  · intro D C h tk m' ys news' F' N' o1 hn hC₀ hD₀ hCL hDL hCD offC fin
    refine ⟨m', hn, fun h'' hs'' => fin D h'' tk (F'.change hs'' hCL hC₀) (fun p hp => ?_) o1⟩
    refine ⟨hs''.extBut _ _ ?_ (N' p hp).1, (N' p hp).2⟩
    rcases List.mem_cons.mp hp with rfl | hp
    · exact Ne.symm hCD
    · exact offC p hp
end
/-- the summary of a call that hands back a new list of ints -/
abbrev SumL (w : World) (mean : ExcName → Option Value) (mg mb : Str → Option Value) (d : Nat) (f : Addr) (news : List (Addr × Obj)) (vs : List Value) (ns : List Int) : Prop :=
  ∀ (dp un : Nat) (gd : Option (List Code)) (cn : Str) (cs : Scope) (a : Addr) (ccd : Value) (cl : List (Str × Addr)) (outer : List Env) (A₀ : Around) (base h₀ : Heap) (L : Addr) (m : Str → Option Value) (s : Shared) (Q E : Value → Shared → Prop),
    Below A₀ base outer h₀ → Fr h₀ L s.heap m → (Mine.hd.heap_39 w.params).In h₀ → News h₀ L s.heap news →
    Top Mine.hd.view_39 LO mean mg mb h₀ → cs.kind = .function → dp + d < recursionLimit → un + 8 * d < cLine →
    (∀ (D : Addr) (ys : List Value) (n : Nat) (h' : Heap) (tk' : Nat), IntsAre ys ns → LCg.Off1 D news → Fr h₀ L h' m → News h₀ L h' ((D, W.listOf ys.toArray n) :: news) → Q (.ref D) { s with heap := h', toks := tk' }) →
    wpAny (model PySem.Challenge.rw_wn0053_01.row.prog w) (ktrTop dp un gd cn cs L a ccd cl outer) (call (.ref f) vs) Q E s
theorem SumL.use {w : World} {mean : ExcName → Option Value} {mg mb : Str → Option Value} {d : Nat} {f : Addr} {news : List (Addr × Obj)} {vs : List Value} {ns : List Int}
    {dp un : Nat} {gd : Option (List Code)} {cn : Str} {cs : Scope} {a : Addr} {ccd : Value} {cl : List (Str × Addr)} {outer : List Env} {A₀ : Around} {base h₀ : Heap} {L : Addr} {m : Str → Option Value} {s : Shared} {Q E : Value → Shared → Prop}
    (S : SumL w mean mg mb d f news vs ns) (B : Below A₀ base outer h₀) (F : Fr h₀ L s.heap m) (X : (Mine.hd.heap_39 w.params).In h₀) (N : News h₀ L s.heap news)
    (T : Top Mine.hd.view_39 LO mean mg mb h₀) (hk : cs.kind = .function) (hd : dp + d < recursionLimit) (hu : un + 8 * d < cLine)
    (ret : ∀ (D : Addr) (ys : List Value) (n : Nat) (h' : Heap) (tk' : Nat), IntsAre ys ns → LCg.Off1 D news → Fr h₀ L h' m → News h₀ L h' ((D, W.listOf ys.toArray n) :: news) → Q (.ref D) { s with heap := h', toks := tk' }) :
    wpAny (model PySem.Challenge.rw_wn0053_01.row.prog w) (ktrTop dp un gd cn cs L a ccd cl outer) (call (.ref f) vs) Q E s :=
  S _ _ _ _ _ _ _ _ _ _ _ _ _ _ _ _ _ B F X N T hk hd hu ret
theorem news_lst {h₀ h : Heap} {L D : Addr} {q : Addr × Obj} {news : List (Addr × Obj)} {ys : List Value} (N : News h₀ L h ((D, LCg.lst ys) :: q :: news)) : News h₀ L h ((D, W.listOf ys.toArray ys.length) :: news) := fun p hp => by
  rcases List.mem_cons.mp hp with rfl | hp
  · exact N _ (.head _)
  · exact N p (.tail _ (.tail _ hp))

end
end Mine
namespace Mine
section
local macro_rules | `(tactic| is_list) => `(tactic| exact News.isList (by assumption) (by assumption))
local macro_rules | `(tactic| k_room) => `(tactic| ktr_room)
local macro_rules | `(tactic| ktr_enter) => `(tactic| (refine' code_def ?k1 ?k2 ?k3 ?k4 ?k5 ?kA ?kF ?kK ?k6 ?k7 ?k8 ?k9 ?kB ?_ ?c2 ?c3 ?c4 ?c5; (case kA => exact rfl); (case kF => exact rfl); (case kK => assumption); (case k1 => k_asm); (case k2 => k_asm); (case k3 => k_asm); (case k4 => k_asm); (case k5 => k_asm); (case k6 => k_is); (case k7 => k_is); (case k8 => ktr_room); (case k9 => (refine' kp_binds ?kx ?ke; (case kx => k_in); (case ke => exact fun _ => rfl))); (case c5 => decide); (case kB => exact locs rfl); (case c2 => exact rfl); (case c3 => exact rfl); (case c4 => exact rfl); k_whole; intro g' L' h' FG' F' N' B' X' T'; (try dsimp only); (try k_lift B'); (try k_fold)))
local macro_rules | `(tactic| walk_at "subscriptTail Name Name ref int") => `(tactic| ((with_reducible show wpAny _ _ (subscriptTail _ _ (Value.ref _) (Value.int _ _)) _ _ _); (with_unfolding_all refine' item_list_ints ?k1 ?k2 ?k3 ?k4 ?k5 ?_; (case k1 => is_list); (case k2 => l_ints); (case k3 => l_idx); (case k4 => l_idx); (case k5 => l_idx); k_whole); intro _))
local macro_rules | `(tactic| ktr_enter) => `(tactic| (refine' code_defC ?k1 ?k2 ?k3 ?k4 ?k5 ?kA ?kF ?kK ?k6 ?k7 ?k8 ?k9 ?kB ?kD ?_ ?c2 ?c3 ?c4; (case kA => exact rfl); (case kF => exact rfl); (case kK => assumption); (case k1 => k_asm); (case k2 => k_asm); (case k3 => k_asm); (case k4 => k_asm); (case k5 => k_asm); (case k6 => k_is); (case k7 => k_is); (case k8 => k_room); (case k9 => exact BindsTo.of_eq rfl); (case kB => exact rfl); (case kD => decide +kernel); (case c2 => exact rfl); (case c3 => exact rfl); (case c4 => exact rfl); k_whole; intro g' L' h' tk' cells' FG' F' N' Y' B' X' T' l1; (try k_lt l1); k_cells Y'; (try simp only [List.cons_append, List.nil_append] at N'); (try dsimp only); (try k_lift B'); (try k_fold)))
local macro_rules | `(tactic| k_all) => `(tactic| exact all_ne_of_lt (by assumption) (by omega))
local macro_rules | `(tactic| walk_at "CompEnd") => `(tactic| refine LCg.CompEnd.intro (by assumption) (by assumption) _ (fun _ h => h) (by assumption) (by first | exact True.intro | lcg_src) ?_)
local macro_rules | `(tactic| walk_at "InvEndN") => `(tactic| k_dflt kst_close)
local macro_rules | `(tactic| ktr_step) => `(tactic| repeat' ((fail_if_success (with_reducible show wpAny _ _ (pyIter _) _ _ _)); first | (k_unfold; (try dsimp only)) | (k_end; wrow_close) | walk1 | (dsimp only; walk1) | (leave1; walk_say "STEP leave1"; try dsimp only) | fail "no step"))
def normS (x : Str) : Str := ⟨(normL false x.cps.toList).toArray⟩
def stuffS (x : Str) : Str := ⟨(stuffL true x.cps.toList).toArray⟩
theorem normL_len (b : Bool) (l : List Nat) : (normL b l).length ≤ 2 * l.length := by
  induction l generalizing b with
  | nil => exact Nat.le_refl _
  | cons c r ih =>
    unfold normL
    have h1 := ih false
    have h2 := ih (c == 13)
    split
    · rw [List.length_cons]; omega
    · split <;> (simp only [List.length_cons]; omega)
theorem stuffL_len (b : Bool) (l : List Nat) : (stuffL b l).length ≤ 2 * l.length := by
  induction l generalizing b with
  | nil => exact Nat.le_refl _
  | cons c r ih =>
    unfold stuffL
    have h1 := ih false
    have h2 := ih (c == 10)
    split <;> (simp only [List.length_cons]; omega)
theorem pat1 {w : World} {h : Heap} (X : (Mine.hd.heap_39 w.params).In h) : PatAt h 36 code1 :=
  ⟨35, _, _, _, _, _, _, _, _, _, X 36 _ (by rfl), X 35 _ (by rfl), by decide +kernel⟩
theorem pat2 {w : World} {h : Heap} (X : (Mine.hd.heap_39 w.params).In h) : PatAt h 41 code2 :=
  ⟨40, _, _, _, _, _, _, _, _, _, X 41 _ (by rfl), X 40 _ (by rfl), by decide +kernel⟩
theorem str_of_list {y : Str} {l : List Nat} (h : y.cps.toList = l) : y = ⟨l.toArray⟩ := by
  obtain ⟨⟨a⟩⟩ := y
  subst h
  rfl
section
variable {prog : Program} {w : World} {A : Around} {s : Shared} {h₀ : Heap} {L : Addr} {m : Str → Option Value} {news : List (Addr × Obj)} {x : Str} {tr tx : Tok} {Q E : Value → Shared → Prop}
theorem sub2_call (X : (Mine.hd.heap_39 w.params).In h₀) (F₁ : Fr h₀ L s.heap m) (N₁ : News h₀ L s.heap news) (hx : x.length ≤ 2 ^ 16)
    (ret : ∀ (t : Tok) (h' : Heap) (tk' : Nat), Fr h₀ L h' m → News h₀ L h' news → Q (.str (normS x) t) { s with heap := h', toks := tk' }) :
    wpAny (model prog w) A (call (.builtin "re.Pattern.sub") [.ref 41, .str (Str.ofString "\r\n") tr, .str x tx]) Q E s := by
  have e : (Str.ofString "\r\n").cps.toList = [13, 10] := by decide
  have hx' : x.cps.size ≤ 2 ^ 16 := hx
  have hF : (F2 x.cps 0).length ≤ 2 ^ 20 := by
    have := normL_len false x.cps.toList
    have hl : x.cps.toList.length = x.cps.size := Array.length_toList
    exact Nat.le_trans this (by omega)
  refine sub_call (F := F2 x.cps) (pat2 X) (by omega) (fun d hd => ?_) hF (by decide +kernel) F₁ N₁ (fun y t h' tk' hy Fy Ny => ?_)
  · rw [e]; exact sub2 x.cps d hd
  · rw [str_of_list hy]; exact ret t h' tk' Fy Ny
theorem sub1_call (X : (Mine.hd.heap_39 w.params).In h₀) (F₁ : Fr h₀ L s.heap m) (N₁ : News h₀ L s.heap news) (hx : x.length ≤ 2 ^ 17)
    (ret : ∀ (t : Tok) (h' : Heap) (tk' : Nat), Fr h₀ L h' m → News h₀ L h' news → Q (.str (stuffS x) t) { s with heap := h', toks := tk' }) :
    wpAny (model prog w) A (call (.builtin "re.Pattern.sub") [.ref 36, .str (Str.ofString "..") tr, .str x tx]) Q E s := by
  have e : (Str.ofString "..").cps.toList = [46, 46] := by decide
  have hx' : x.cps.size ≤ 2 ^ 17 := hx
  have hF : (F1 x.cps 0).length ≤ 2 ^ 20 := by
    have := stuffL_len true x.cps.toList
    have hl : x.cps.toList.length = x.cps.size := Array.length_toList
    exact Nat.le_trans this (by omega)
  refine sub_call (F := F1 x.cps) (pat1 X) hx' (fun d hd => ?_) hF (by decide +kernel) F₁ N₁ (fun y t h' tk' hy Fy Ny => ?_)
  · rw [e]; exact sub1 x.cps d hd
  · rw [str_of_list hy]; exact ret t h' tk' Fy Ny
theorem pat_method {K : Frag} {a : Addr} {dt : Data} {sl : Array (Option Value)} {pl : Sem Bool} {Q : Value × List Value → Shared → Prop} (X : K.In s.heap) (k : K.lookup a = some ⟨.type "re.Pattern", none, dt, sl⟩)
    (h : Q (.builtin "re.Pattern.sub", [.ref a]) s) : wpAny (model prog w) A (getMethod (.ref a) (Str.ofString "sub") pl) Q E s :=
  getMethod_builtin ⟨_, X _ _ k, rfl⟩ plainAttrs_pat slot_sub type_sub (fun b e => by cases e; exact ⟨_, X _ _ k, rfl⟩) h
theorem normS_len (x : Str) : (normS x).length ≤ 2 * x.length := by
  have := normL_len false x.cps.toList
  rw [Array.length_toList] at this
  show (normL false x.cps.toList).toArray.size ≤ _
  rw [List.size_toArray]; exact this
theorem stuffS_len (x : Str) : (stuffS x).length ≤ 2 * x.length := by
  have := stuffL_len true x.cps.toList
  rw [Array.length_toList] at this
  show (stuffL true x.cps.toList).toArray.size ≤ _
  rw [List.size_toArray]; exact this
end
local macro_rules | `(tactic| walk_at "getMethod ref") => `(tactic| (k_here; (with_reducible show wpAny _ _ (getMethod (Value.ref _) (PySem.Str.ofString "sub") _) _ _ _); k_dflt (refine' pat_method ?X ?k ?_; (case X => k_in); (case k => k_is))))
local macro_rules | `(tactic| walk_at "call builtin:re.Pattern.sub") => `(tactic| (k_here; k_dflt (first
  | (refine' sub2_call ?X ?F ?N ?h ?_; (case X => k_asm); (case F => k_asm); (case N => k_asm); (case h => assumption))
  | (refine' sub1_call ?X ?F ?N ?h ?_; (case X => k_asm); (case F => k_asm); (case N => k_asm); (case h => (refine Nat.le_trans (normS_len _) ?_; omega)))); (intro t9 h9 tk9 F9 N9); (try dsimp only); (try k_fold)))
def quoteS (x : Str) : Str := stuffS (normS x)
set_option maxRecDepth 100000 in
set_option maxHeartbeats 4000000 in
theorem quote_sum {w mean mg mb} (news : List (Addr × Obj)) (x : Str) (t : Tok) (hx : x.length ≤ 2 ^ 16) : Sum1 w mean mg mb 1 48 news news [.str x t] (fun t => .str (quoteS x) t) := by
  w_on
  w_top off
  k_with_none
  unfold Sum1
  k_fill
  intro dp un gd cn cs a ccd cl outer A₀ base h₀ L m s Q E B F X N T hk hd hu hret
  refine wpAny_call ?_
  k_dflt cell_enter
  k_steps
  exact cb_retS hret rfl (by k_asm) (by k_asm)

end
end Mine
namespace Mine
section
local macro_rules | `(tactic| is_list) => `(tactic| exact News.isList (by assumption) (by assumption))
local macro_rules | `(tactic| k_room) => `(tactic| ktr_room)
local macro_rules | `(tactic| ktr_enter) => `(tactic| (refine' code_def ?k1 ?k2 ?k3 ?k4 ?k5 ?kA ?kF ?kK ?k6 ?k7 ?k8 ?k9 ?kB ?_ ?c2 ?c3 ?c4 ?c5; (case kA => exact rfl); (case kF => exact rfl); (case kK => assumption); (case k1 => k_asm); (case k2 => k_asm); (case k3 => k_asm); (case k4 => k_asm); (case k5 => k_asm); (case k6 => k_is); (case k7 => k_is); (case k8 => ktr_room); (case k9 => (refine' kp_binds ?kx ?ke; (case kx => k_in); (case ke => exact fun _ => rfl))); (case c5 => decide); (case kB => exact locs rfl); (case c2 => exact rfl); (case c3 => exact rfl); (case c4 => exact rfl); k_whole; intro g' L' h' FG' F' N' B' X' T'; (try dsimp only); (try k_lift B'); (try k_fold)))
local macro_rules | `(tactic| walk_at "subscriptTail Name Name ref int") => `(tactic| ((with_reducible show wpAny _ _ (subscriptTail _ _ (Value.ref _) (Value.int _ _)) _ _ _); (with_unfolding_all refine' item_list_ints ?k1 ?k2 ?k3 ?k4 ?k5 ?_; (case k1 => is_list); (case k2 => l_ints); (case k3 => l_idx); (case k4 => l_idx); (case k5 => l_idx); k_whole); intro _))
local macro_rules | `(tactic| ktr_enter) => `(tactic| (refine' code_defC ?k1 ?k2 ?k3 ?k4 ?k5 ?kA ?kF ?kK ?k6 ?k7 ?k8 ?k9 ?kB ?kD ?_ ?c2 ?c3 ?c4; (case kA => exact rfl); (case kF => exact rfl); (case kK => assumption); (case k1 => k_asm); (case k2 => k_asm); (case k3 => k_asm); (case k4 => k_asm); (case k5 => k_asm); (case k6 => k_is); (case k7 => k_is); (case k8 => k_room); (case k9 => exact BindsTo.of_eq rfl); (case kB => exact rfl); (case kD => decide +kernel); (case c2 => exact rfl); (case c3 => exact rfl); (case c4 => exact rfl); k_whole; intro g' L' h' tk' cells' FG' F' N' Y' B' X' T' l1; (try k_lt l1); k_cells Y'; (try simp only [List.cons_append, List.nil_append] at N'); (try dsimp only); (try k_lift B'); (try k_fold)))
local macro_rules | `(tactic| k_all) => `(tactic| exact all_ne_of_lt (by assumption) (by omega))
local macro_rules | `(tactic| walk_at "CompEnd") => `(tactic| refine LCg.CompEnd.intro (by assumption) (by assumption) _ (fun _ h => h) (by assumption) (by first | exact True.intro | lcg_src) ?_)
local macro_rules | `(tactic| walk_at "InvEndN") => `(tactic| k_dflt kst_close)
local macro_rules | `(tactic| ktr_step) => `(tactic| repeat' ((fail_if_success (with_reducible show wpAny _ _ (pyIter _) _ _ _)); first | (k_unfold; (try dsimp only)) | (k_end; wrow_close) | walk1 | (dsimp only; walk1) | (leave1; walk_say "STEP leave1"; try dsimp only) | fail "no step"))
def repL (c : Nat) (z : List Nat) (l : List Nat) : List Nat := l.flatMap (fun k => if k = c then z else [k])
theorem repL_append (c : Nat) (z a b : List Nat) : repL c z (a ++ b) = repL c z a ++ repL c z b := List.flatMap_append
theorem repL_free (c : Nat) (z : List Nat) : ∀ l : List Nat, c ∉ l → repL c z l = l
  | [], _ => rfl
  | k :: r, h => by
    have h1 : ¬ k = c := fun e => h (e ▸ List.mem_cons_self ..)
    have h2 : c ∉ r := fun m => h (List.mem_cons_of_mem _ m)
    show (if k = c then z else [k]) ++ repL c z r = _
    rw [if_neg h1, repL_free c z r h2]
    rfl
theorem repL_one (c : Nat) (z : List Nat) : repL c z [c] = z := by
  show (if c = c then z else [c]) ++ [] = z
  rw [if_pos rfl, List.append_nil]
theorem repL_join (c : Nat) (z : Str) : ∀ parts : List Str, (∀ p ∈ parts, c ∉ p.cps.toList) → repL c z.cps.toList (Str.join ⟨#[c]⟩ parts).cps.toList = (Str.join z parts).cps.toList
  | [], _ => rfl
  | [p], h => repL_free c _ _ (h p (List.mem_singleton.mpr rfl))
  | p :: q :: r, h => by
    have ih := repL_join c z (q :: r) fun a ha => h a (List.mem_cons_of_mem _ ha)
    show repL c z.cps.toList (p ++ ⟨#[c]⟩ ++ Str.join ⟨#[c]⟩ (q :: r)).cps.toList = (p ++ z ++ Str.join z (q :: r)).cps.toList
    simp only [Str.cps_append, Array.toList_append]
    rw [repL_append, repL_append, ih, repL_free c _ _ (h p (List.mem_cons_self ..))]
    show p.cps.toList ++ repL c _ [c] ++ _ = _
    rw [repL_one]
theorem repL_txt (x z : Str) (c : Nat) : (Txt.replace x ⟨#[c]⟩ z).cps.toList = repL c z.cps.toList x.cps.toList := by
  rw [StrLaws.replace_one, ← repL_join c z _ (StrLaws.split_free x c), StrLaws.join_split]
def stepS (c : Nat) (z : List Nat) (x : Str) : Str := ⟨(repL c z x.cps.toList).toArray⟩
theorem str_eq {x y : Str} (h : x.cps.toList = y.cps.toList) : x = y := by
  obtain ⟨⟨a⟩⟩ := x
  obtain ⟨⟨b⟩⟩ := y
  cases h
  rfl
/-- one «if c in text: text = text.replace(c, z)» -/
def EscStep (c z x y : Str) : Prop := ((Builtin.Str.occurrences x c 0 x.length 1).isEmpty = true ∧ y = x) ∨ y = Txt.replace x c z
theorem EscStep.eq {c : Nat} {z x y : Str} (h : EscStep ⟨#[c]⟩ z x y) : y = stepS c z.cps.toList x := by
  rcases h with ⟨h, rfl⟩ | rfl
  · have q := StrLaws.found_one y c
    rw [h] at q
    have hn : c ∉ y.cps.toList := of_decide_eq_false q.symm
    exact str_eq (repL_free c _ _ hn).symm
  · exact str_eq (repL_txt x z c)
def escS (x : Str) : Str := stepS 13 [38, 35, 120, 68, 59] (stepS 62 [38, 103, 116, 59] (stepS 60 [38, 108, 116, 59] (stepS 38 [38, 97, 109, 112, 59] x)))
theorem esc_path {x y₁ y₂ y₃ y₄ : Str} (h1 : EscStep (Str.ofString "&") (Str.ofString "&amp;") x y₁) (h2 : EscStep (Str.ofString "<") (Str.ofString "&lt;") y₁ y₂) (h3 : EscStep (Str.ofString ">") (Str.ofString "&gt;") y₂ y₃) (h4 : EscStep (Str.ofString "\r") (Str.ofString "&#xD;") y₃ y₄) : y₄ = escS x := by
  rw [show Str.ofString "&" = ⟨#[38]⟩ from by decide] at h1
  rw [show Str.ofString "<" = ⟨#[60]⟩ from by decide] at h2
  rw [show Str.ofString ">" = ⟨#[62]⟩ from by decide] at h3
  rw [show Str.ofString "\r" = ⟨#[13]⟩ from by decide] at h4
  rw [h4.eq, h3.eq, h2.eq, h1.eq]
  rfl
theorem repL_len (c : Nat) (z : List Nat) (hz : z.length ≤ 5) (l : List Nat) : (repL c z l).length ≤ 5 * l.length := by
  induction l with
  | nil => exact Nat.le_refl _
  | cons k r ih =>
    show ((if k = c then z else [k]) ++ repL c z r).length ≤ _
    rw [List.length_append, List.length_cons]
    split
    · omega
    · rw [List.length_singleton]; omega
section
variable {prog : Program} {w : World} {A : Around} {E : Value → Shared → Prop} {s : Shared}
theorem esc_replace {c z x : Str} {cc : Nat} {t u v : Tok} {Q : Value → Shared → Prop} (hc : c = ⟨#[cc]⟩) (hz : z.length ≤ 5) (hu : u ≠ 0) (hv : v ≠ 0) (huv : u ≠ v) (hyz : (c == z) = false) (hb : x.length ≤ 2 ^ 20)
    (hq : ∀ (y : Str) (t' : Tok) (k : Nat), EscStep c z x y → y.length ≤ 5 * x.length → s.toks ≤ k → Q (.str y t') { s with toks := k }) :
    wpAny (model prog w) A (call (.builtin "str.replace") [.str x t, .str c u, .str z v]) Q E s := by
  have hl : (Txt.replace x c z).length ≤ 5 * x.length := by
    have h1 := repL_len cc z.cps.toList hz x.cps.toList
    rw [← repL_txt x z cc, ← hc] at h1
    exact h1
  have hmul : (x.length + 1) * z.length ≤ (x.length + 1) * 5 := Nat.mul_le_mul_left _ hz
  have hfit : Builtin.Str.tooLong (x.length + (Builtin.Str.occurrences x c 0 x.length (x.length + 1)).length * z.length) = false := by
    have h1 := StrLaws.occ_length_le x c 0 x.length (x.length + 1)
    have h2 : (Builtin.Str.occurrences x c 0 x.length (x.length + 1)).length * z.length ≤ (x.length + 1) * z.length := Nat.mul_le_mul_right _ h1
    have e : (2 : Nat) ^ 24 = 16777216 := by decide
    unfold Builtin.Str.tooLong sizeLine
    exact decide_eq_false (by omega)
  refine call_gives F.slot_str_replace (typeIs_str _ _ _) F.entry_str_replace (F.args_str_replace_3 _ _ _) (gives_str_replace x c z t u v fun _ => ⟨by simp [hu, hv], by simp [huv], hyz, hfit⟩) ?_
  have key := fun (t' : Tok) (k : Nat) (h : s.toks ≤ k) => hq (Txt.replace x c z) t' k (.inr rfl) hl h
  unfold Txt.replace at key
  cases h3 : ((Builtin.Str.occurrences x c 0 x.length (x.length + 1)).isEmpty || (c.length == 0 && z.length == 0)) with
  | false =>
    rw [h3] at key
    simp only [Bool.false_eq_true, if_false] at key ⊢
    exact ⟨fits_replaced c (by omega), key _ _ (by show s.toks ≤ s.toks + 1; omega)⟩
  | true =>
    rw [h3] at key
    simp only [if_true] at key ⊢
    exact key t s.toks (Nat.le_refl _)
end
local macro_rules | `(tactic| walk_at "execs cons") => `(tactic| refine wpAny_execs_cons ?_)
local macro_rules | `(tactic| walk_at "execs nil") => `(tactic| refine wpAny_execs_nil ?_)
local macro_rules | `(tactic| walk_at "call builtin:str.replace") => `(tactic| ((with_reducible show wpAny _ _ (call (Value.builtin "str.replace") [Value.str _ _, Value.str _ _, Value.str _ _]) _ _ _); k_dflt ((first | refine' esc_replace (cc := 38) (by decide) (by decide) ?u ?v ?uv (by decide) ?b ?_ | refine' esc_replace (cc := 60) (by decide) (by decide) ?u ?v ?uv (by decide) ?b ?_ | refine' esc_replace (cc := 62) (by decide) (by decide) ?u ?v ?uv (by decide) ?b ?_ | refine' esc_replace (cc := 13) (by decide) (by decide) ?u ?v ?uv (by decide) ?b ?_); (case u => ((show @Ne Nat _ _); omega)); (case v => ((show @Ne Nat _ _); omega)); (case uv => ((show @Ne Nat _ _); omega)); (case b => omega)); (intro y9 t9 k9 hE9 hL9 hk9); (try dsimp only at hk9); (try dsimp only)))
set_option maxRecDepth 100000 in
set_option maxHeartbeats 4000000 in
theorem esc_sum {w mean mg mb} (news : List (Addr × Obj)) (x : Str) (t : Tok) (hx : x.length ≤ 2 ^ 12) : Sum1 w mean mg mb 1 89 news news [.str x t] (fun t => .str (escS x) t) := by
  w_on
  w_top off
  k_with_none
  unfold Sum1
  k_fill
  intro dp un gd cn cs a ccd cl outer A₀ base h₀ L m s Q E B F X N T hk hd hu hret
  refine wpAny_call ?_
  k_dflt cell_enter
  k_steps
  all_goals
    refine' cb_retS hret (esc_path ?h1 ?h2 ?h3 ?h4) (by k_asm) (by k_asm)
    case h4 => first | with_reducible assumption | exact .inl ⟨by with_reducible assumption, rfl⟩
    case h3 => first | with_reducible assumption | exact .inl ⟨by with_reducible assumption, rfl⟩
    case h2 => first | with_reducible assumption | exact .inl ⟨by with_reducible assumption, rfl⟩
    case h1 => first | with_reducible assumption | exact .inl ⟨by with_reducible assumption, rfl⟩

end
end Mine
namespace Mine
section
local macro_rules | `(tactic| is_list) => `(tactic| exact News.isList (by assumption) (by assumption))
local macro_rules | `(tactic| k_room) => `(tactic| ktr_room)
local macro_rules | `(tactic| ktr_enter) => `(tactic| (refine' code_def ?k1 ?k2 ?k3 ?k4 ?k5 ?kA ?kF ?kK ?k6 ?k7 ?k8 ?k9 ?kB ?_ ?c2 ?c3 ?c4 ?c5; (case kA => exact rfl); (case kF => exact rfl); (case kK => assumption); (case k1 => k_asm); (case k2 => k_asm); (case k3 => k_asm); (case k4 => k_asm); (case k5 => k_asm); (case k6 => k_is); (case k7 => k_is); (case k8 => ktr_room); (case k9 => (refine' kp_binds ?kx ?ke; (case kx => k_in); (case ke => exact fun _ => rfl))); (case c5 => decide); (case kB => exact locs rfl); (case c2 => exact rfl); (case c3 => exact rfl); (case c4 => exact rfl); k_whole; intro g' L' h' FG' F' N' B' X' T'; (try dsimp only); (try k_lift B'); (try k_fold)))
local macro_rules | `(tactic| walk_at "subscriptTail Name Name ref int") => `(tactic| ((with_reducible show wpAny _ _ (subscriptTail _ _ (Value.ref _) (Value.int _ _)) _ _ _); (with_unfolding_all refine' item_list_ints ?k1 ?k2 ?k3 ?k4 ?k5 ?_; (case k1 => is_list); (case k2 => l_ints); (case k3 => l_idx); (case k4 => l_idx); (case k5 => l_idx); k_whole); intro _))
local macro_rules | `(tactic| ktr_enter) => `(tactic| (refine' code_defC ?k1 ?k2 ?k3 ?k4 ?k5 ?kA ?kF ?kK ?k6 ?k7 ?k8 ?k9 ?kB ?kD ?_ ?c2 ?c3 ?c4; (case kA => exact rfl); (case kF => exact rfl); (case kK => assumption); (case k1 => k_asm); (case k2 => k_asm); (case k3 => k_asm); (case k4 => k_asm); (case k5 => k_asm); (case k6 => k_is); (case k7 => k_is); (case k8 => k_room); (case k9 => exact BindsTo.of_eq rfl); (case kB => exact rfl); (case kD => decide +kernel); (case c2 => exact rfl); (case c3 => exact rfl); (case c4 => exact rfl); k_whole; intro g' L' h' tk' cells' FG' F' N' Y' B' X' T' l1; (try k_lt l1); k_cells Y'; (try simp only [List.cons_append, List.nil_append] at N'); (try dsimp only); (try k_lift B'); (try k_fold)))
local macro_rules | `(tactic| k_all) => `(tactic| exact all_ne_of_lt (by assumption) (by omega))
local macro_rules | `(tactic| walk_at "CompEnd") => `(tactic| refine LCg.CompEnd.intro (by assumption) (by assumption) _ (fun _ h => h) (by assumption) (by first | exact True.intro | lcg_src) ?_)
local macro_rules | `(tactic| walk_at "InvEndN") => `(tactic| k_dflt kst_close)
local macro_rules | `(tactic| ktr_step) => `(tactic| repeat' ((fail_if_success (with_reducible show wpAny _ _ (pyIter _) _ _ _)); first | (k_unfold; (try dsimp only)) | (k_end; wrow_close) | walk1 | (dsimp only; walk1) | (leave1; walk_say "STEP leave1"; try dsimp only) | fail "no step"))
local macro_rules | `(tactic| walk_at "eval ListComp") => `(tactic| (k_here; k_dflt (refine ListComp_R (by k_asm) (by with_unfolding_all rfl) (by decide) (by rfl) (by decide) (by rfl) ?_)))
local macro_rules | `(tactic| walk_at "RSrc") => `(tactic| (k_here; k_dflt (refine RSrc.intro (by rfl) (by k_asm) (by k_asm) (by assumption) (by decide) (by rfl) (by decide +kernel) ?_); (intro g'); (try simp only [LCg.Off3, and_true])))
def endS (x : Int) : Str := if x = 0 then Str.ofString ".\n" else if x = 1 then Str.ofString "..&#xD;\n" else if x = 2 then Str.ofString "...&amp;#xD;&#xD;\n" else Str.ofString "....&amp;amp;#xD;&amp;#xD;&#xD;\n"
set_option maxRecDepth 100000 in
set_option maxHeartbeats 4000000 in
theorem end_sum {w mean mg mb} (news : List (Addr × Obj)) (x : Int) (t : Tok) (h0 : 0 ≤ x) (h3 : x ≤ 3) : Sum1 w mean mg mb 1 94 news news [.int x t] (fun t => .str (endS x) t) := by
  w_on
  w_top off
  k_with_none
  unfold Sum1
  k_fill
  intro dp un gd cn cs a ccd cl outer A₀ base h₀ L m s Q E B F X N T hk hd hu hret
  obtain rfl | rfl | rfl | rfl : x = 0 ∨ x = 1 ∨ x = 2 ∨ x = 3 := by omega
  all_goals
    refine wpAny_call ?_
    k_dflt cell_enter
    k_steps
    exact cb_retS hret (by decide +kernel) (by k_asm) (cb_drop (by assumption) (fun p hp => .tail _ hp))

end
end Mine
namespace Mine
section
local macro_rules | `(tactic| is_list) => `(tactic| exact News.isList (by assumption) (by assumption))
local macro_rules | `(tactic| k_room) => `(tactic| ktr_room)
local macro_rules | `(tactic| ktr_enter) => `(tactic| (refine' code_def ?k1 ?k2 ?k3 ?k4 ?k5 ?kA ?kF ?kK ?k6 ?k7 ?k8 ?k9 ?kB ?_ ?c2 ?c3 ?c4 ?c5; (case kA => exact rfl); (case kF => exact rfl); (case kK => assumption); (case k1 => k_asm); (case k2 => k_asm); (case k3 => k_asm); (case k4 => k_asm); (case k5 => k_asm); (case k6 => k_is); (case k7 => k_is); (case k8 => ktr_room); (case k9 => (refine' kp_binds ?kx ?ke; (case kx => k_in); (case ke => exact fun _ => rfl))); (case c5 => decide); (case kB => exact locs rfl); (case c2 => exact rfl); (case c3 => exact rfl); (case c4 => exact rfl); k_whole; intro g' L' h' FG' F' N' B' X' T'; (try dsimp only); (try k_lift B'); (try k_fold)))
local macro_rules | `(tactic| walk_at "subscriptTail Name Name ref int") => `(tactic| ((with_reducible show wpAny _ _ (subscriptTail _ _ (Value.ref _) (Value.int _ _)) _ _ _); (with_unfolding_all refine' item_list_ints ?k1 ?k2 ?k3 ?k4 ?k5 ?_; (case k1 => is_list); (case k2 => l_ints); (case k3 => l_idx); (case k4 => l_idx); (case k5 => l_idx); k_whole); intro _))
local macro_rules | `(tactic| ktr_enter) => `(tactic| (refine' code_defC ?k1 ?k2 ?k3 ?k4 ?k5 ?kA ?kF ?kK ?k6 ?k7 ?k8 ?k9 ?kB ?kD ?_ ?c2 ?c3 ?c4; (case kA => exact rfl); (case kF => exact rfl); (case kK => assumption); (case k1 => k_asm); (case k2 => k_asm); (case k3 => k_asm); (case k4 => k_asm); (case k5 => k_asm); (case k6 => k_is); (case k7 => k_is); (case k8 => k_room); (case k9 => exact BindsTo.of_eq rfl); (case kB => exact rfl); (case kD => decide +kernel); (case c2 => exact rfl); (case c3 => exact rfl); (case c4 => exact rfl); k_whole; intro g' L' h' tk' cells' FG' F' N' Y' B' X' T' l1; (try k_lt l1); k_cells Y'; (try simp only [List.cons_append, List.nil_append] at N'); (try dsimp only); (try k_lift B'); (try k_fold)))
local macro_rules | `(tactic| k_all) => `(tactic| exact all_ne_of_lt (by assumption) (by omega))
local macro_rules | `(tactic| walk_at "CompEnd") => `(tactic| refine LCg.CompEnd.intro (by assumption) (by assumption) _ (fun _ h => h) (by assumption) (by first | exact True.intro | lcg_src) ?_)
local macro_rules | `(tactic| walk_at "InvEndN") => `(tactic| k_dflt kst_close)
local macro_rules | `(tactic| ktr_step) => `(tactic| repeat' ((fail_if_success (with_reducible show wpAny _ _ (pyIter _) _ _ _)); first | (k_unfold; (try dsimp only)) | (k_end; wrow_close) | walk1 | (dsimp only; walk1) | (leave1; walk_say "STEP leave1"; try dsimp only) | fail "no step"))
local macro_rules | `(tactic| walk_at "call ref") => `(tactic| ((with_reducible show wpAny _ _ (call (Value.ref 48) [Value.str _ _] _) _ _ _); k_dflt (refine' Sum1.use (quote_sum _ _ _ ?p0) ?k1 ?k2 ?k3 ?k4 ?k5 ?kK ?kd ?ku ?_; (case k1 => k_asm); (case k2 => k_asm); (case k3 => k_asm); (case k4 => k_asm); (case k5 => k_asm); (case p0 => first | assumption | decide +kernel); (case kK => first | exact rfl | assumption); (case kd => ktr_room); (case ku => ktr_units)); (intro t9 h9 tk9 F9 N9); (try dsimp only); (try k_fold)))
local macro_rules | `(tactic| walk_at "call ref") => `(tactic| ((with_reducible show wpAny _ _ (call (Value.ref 89) [Value.str _ _] _) _ _ _); k_dflt (refine' Sum1.use (esc_sum _ _ _ ?p0) ?k1 ?k2 ?k3 ?k4 ?k5 ?kK ?kd ?ku ?_; (case k1 => k_asm); (case k2 => k_asm); (case k3 => k_asm); (case k4 => k_asm); (case k5 => k_asm); (case p0 => first | assumption | decide +kernel); (case kK => first | exact rfl | assumption); (case kd => ktr_room); (case ku => ktr_units)); (intro t9 h9 tk9 F9 N9); (try dsimp only); (try k_fold)))
local macro_rules | `(tactic| walk_at "no key") => `(tactic| skip)
theorem ints7 {a b c d e f g : Int} {t1 t2 t3 t4 t5 t6 t7 : Tok} (h1 : a = 0) (h2 : b = 1) (h3 : c = 3) (h4 : d = 6) (h5 : e = 10) (h6 : f = 15) (h7 : g = 21) :
    IntsAre [Value.int a t1, Value.int b t2, Value.int c t3, Value.int d t4, Value.int e t5, Value.int f t6, Value.int g t7] [0, 1, 3, 6, 10, 15, 21] := by
  subst h1 h2 h3 h4 h5 h6 h7
  exact .cons _ _ (.cons _ _ (.cons _ _ (.cons _ _ (.cons _ _ (.cons _ _ (.cons _ _ .nil))))))
set_option maxRecDepth 100000 in
set_option maxHeartbeats 4000000 in
theorem marks_sum {w mean mg mb} (news : List (Addr × Obj)) : SumL w mean mg mb 2 106 news [] [0, 1, 3, 6, 10, 15, 21] := by
  w_on
  w_top off
  k_with_none
  unfold SumL
  k_fill
  intro dp un gd cn cs a ccd cl outer A₀ base h₀ L m s Q E B F X N T hk hd hu hret
  refine wpAny_call ?_
  k_dflt cell_enter
  k_steps
  rename (@Ne Nat _ _) ∧ LCg.Off1 _ _ => o9
  rename News h₀ _ _ _ => n9
  refine hret _ _ _ _ _ (ints7 (by decide +kernel) (by decide +kernel) (by decide +kernel) (by decide +kernel) (by decide +kernel) (by decide +kernel) (by decide +kernel)) o9.2 (by k_asm) (news_lst n9)

end
end Mine
namespace Mine
section
local macro_rules | `(tactic| is_list) => `(tactic| exact News.isList (by assumption) (by assumption))
local macro_rules | `(tactic| k_room) => `(tactic| ktr_room)
local macro_rules | `(tactic| ktr_enter) => `(tactic| (refine' code_def ?k1 ?k2 ?k3 ?k4 ?k5 ?kA ?kF ?kK ?k6 ?k7 ?k8 ?k9 ?kB ?_ ?c2 ?c3 ?c4 ?c5; (case kA => exact rfl); (case kF => exact rfl); (case kK => assumption); (case k1 => k_asm); (case k2 => k_asm); (case k3 => k_asm); (case k4 => k_asm); (case k5 => k_asm); (case k6 => k_is); (case k7 => k_is); (case k8 => ktr_room); (case k9 => (refine' kp_binds ?kx ?ke; (case kx => k_in); (case ke => exact fun _ => rfl))); (case c5 => decide); (case kB => exact locs rfl); (case c2 => exact rfl); (case c3 => exact rfl); (case c4 => exact rfl); k_whole; intro g' L' h' FG' F' N' B' X' T'; (try dsimp only); (try k_lift B'); (try k_fold)))
local macro_rules | `(tactic| walk_at "subscriptTail Name Name ref int") => `(tactic| ((with_reducible show wpAny _ _ (subscriptTail _ _ (Value.ref _) (Value.int _ _)) _ _ _); (with_unfolding_all refine' item_list_ints ?k1 ?k2 ?k3 ?k4 ?k5 ?_; (case k1 => is_list); (case k2 => l_ints); (case k3 => l_idx); (case k4 => l_idx); (case k5 => l_idx); k_whole); intro _))
local macro_rules | `(tactic| ktr_enter) => `(tactic| (refine' code_defC ?k1 ?k2 ?k3 ?k4 ?k5 ?kA ?kF ?kK ?k6 ?k7 ?k8 ?k9 ?kB ?kD ?_ ?c2 ?c3 ?c4; (case kA => exact rfl); (case kF => exact rfl); (case kK => assumption); (case k1 => k_asm); (case k2 => k_asm); (case k3 => k_asm); (case k4 => k_asm); (case k5 => k_asm); (case k6 => k_is); (case k7 => k_is); (case k8 => k_room); (case k9 => exact BindsTo.of_eq rfl); (case kB => exact rfl); (case kD => decide +kernel); (case c2 => exact rfl); (case c3 => exact rfl); (case c4 => exact rfl); k_whole; intro g' L' h' tk' cells' FG' F' N' Y' B' X' T' l1; (try k_lt l1); k_cells Y'; (try simp only [List.cons_append, List.nil_append] at N'); (try dsimp only); (try k_lift B'); (try k_fold)))
local macro_rules | `(tactic| k_all) => `(tactic| exact all_ne_of_lt (by assumption) (by omega))
local macro_rules | `(tactic| walk_at "CompEnd") => `(tactic| refine LCg.CompEnd.intro (by assumption) (by assumption) _ (fun _ h => h) (by assumption) (by first | exact True.intro | lcg_src) ?_)
local macro_rules | `(tactic| walk_at "InvEndN") => `(tactic| k_dflt kst_close)
local macro_rules | `(tactic| ktr_step) => `(tactic| repeat' ((fail_if_success (with_reducible show wpAny _ _ (pyIter _) _ _ _)); first | (k_unfold; (try dsimp only)) | (k_end; wrow_close) | walk1 | (dsimp only; walk1) | (leave1; walk_say "STEP leave1"; try dsimp only) | fail "no step"))
local macro_rules | `(tactic| walk_at "call ref") => `(tactic| ((with_reducible show wpAny _ _ (call (Value.ref 48) [Value.str _ _] _) _ _ _); k_dflt (refine' Sum1.use (quote_sum _ _ _ ?p0) ?k1 ?k2 ?k3 ?k4 ?k5 ?kK ?kd ?ku ?_; (case k1 => k_asm); (case k2 => k_asm); (case k3 => k_asm); (case k4 => k_asm); (case k5 => k_asm); (case p0 => first | assumption | decide +kernel); (case kK => first | exact rfl | assumption); (case kd => ktr_room); (case ku => ktr_units)); (intro t9 h9 tk9 F9 N9); (try dsimp only); (try k_fold)))
local macro_rules | `(tactic| walk_at "call ref") => `(tactic| ((with_reducible show wpAny _ _ (call (Value.ref 89) [Value.str _ _] _) _ _ _); k_dflt (refine' Sum1.use (esc_sum _ _ _ ?p0) ?k1 ?k2 ?k3 ?k4 ?k5 ?kK ?kd ?ku ?_; (case k1 => k_asm); (case k2 => k_asm); (case k3 => k_asm); (case k4 => k_asm); (case k5 => k_asm); (case p0 => first | assumption | decide +kernel); (case kK => first | exact rfl | assumption); (case kd => ktr_room); (case ku => ktr_units)); (intro t9 h9 tk9 F9 N9); (try dsimp only); (try k_fold)))
def ToldQ (x y : Str) : Prop := x.length ≤ 2 ^ 16 ∧ quoteS x = y
def ToldE (x y : Str) : Prop := x.length ≤ 2 ^ 12 ∧ escS x = y
theorem quote_told {w mean mg mb} (news : List (Addr × Obj)) (x y : Str) (t : Tok) (h : ToldQ x y) : Sum1 w mean mg mb 1 48 news news [.str x t] (fun t => .str y t) := h.2 ▸ quote_sum news x t h.1
theorem esc_told {w mean mg mb} (news : List (Addr × Obj)) (x y : Str) (t : Tok) (h : ToldE x y) : Sum1 w mean mg mb 1 89 news news [.str x t] (fun t => .str y t) := h.2 ▸ esc_sum news x t h.1
local macro_rules | `(tactic| walk_at "call ref") => `(tactic| ((with_reducible show wpAny _ _ (call (Value.ref 48) [Value.str _ _] _) _ _ _); k_dflt (refine' Sum1.use (quote_told _ _ _ _ ?p0) ?k1 ?k2 ?k3 ?k4 ?k5 ?kK ?kd ?ku ?_; (case k1 => k_asm); (case k2 => k_asm); (case k3 => k_asm); (case k4 => k_asm); (case k5 => k_asm); (case p0 => assumption); (case kK => first | exact rfl | assumption); (case kd => ktr_room); (case ku => ktr_units)); (intro t9 h9 tk9 F9 N9); (try dsimp only); (try k_fold)))
local macro_rules | `(tactic| walk_at "call ref") => `(tactic| ((with_reducible show wpAny _ _ (call (Value.ref 89) [Value.str _ _] _) _ _ _); k_dflt (refine' Sum1.use (esc_told _ _ _ _ ?p0) ?k1 ?k2 ?k3 ?k4 ?k5 ?kK ?kd ?ku ?_; (case k1 => k_asm); (case k2 => k_asm); (case k3 => k_asm); (case k4 => k_asm); (case k5 => k_asm); (case p0 => assumption); (case kK => first | exact rfl | assumption); (case kd => ktr_room); (case ku => ktr_units)); (intro t9 h9 tk9 F9 N9); (try dsimp only); (try k_fold)))
local macro_rules | `(tactic| is_list) => `(tactic| exact News.isList (by assumption) (.tail _ (by assumption)))
local macro_rules | `(tactic| is_list) => `(tactic| exact News.isList (by assumption) (.tail _ (.tail _ (by assumption))))
local macro_rules | `(tactic| walk_at "getMethod ref") => `(tactic| ((with_reducible show wpAny _ _ (getMethod (Value.ref _) (Str.ofString "count") _) _ _ _); (refine' kl_method ?N ?m PySem.F.slot_list_count PySem.F.type_list_count ?_; (case N => assumption); (case m => first | assumption | exact .tail _ (by assumption) | exact .tail _ (.tail _ (by assumption))))))
theorem count_c {prog : Program} {w : World} {A : Around} {E : Value → Shared → Prop} {s : Shared} {l : Addr} {vs : List Value} {ns : List Int} {k : Int} {t : Tok} {c : Nat} {Q : Value → Shared → Prop} (hl : s.heap.IsList l vs.toArray) (hi : IntsAre vs ns) (hc : ns.count k = c)
    (h : Q (.int (c : Nat) s.toks) { s with toks := s.toks + 1 }) : wpAny (model prog w) A (call (.builtin "list.count") [.ref l, .int k t]) Q E s := count_list_ints hl hi (hc ▸ h)
local macro_rules | `(tactic| walk_at "call builtin:list.count") => `(tactic| (k_here; (with_reducible show wpAny _ _ (call (Value.builtin _) [Value.ref _, Value.int _ _]) _ _ _); k_dflt (refine count_c (by is_list) (by assumption) (by assumption) ?_)))
local macro_rules | `(tactic| walk_at "UnrEnd") => `(tactic| k_dflt (refine UnrEnd.intro (by assumption) (by assumption) _ (fun p hp => .tail _ hp) (all_ne_of_lt (by assumption) (Nat.le_refl _)) ?_))
set_option maxRecDepth 100000 in
set_option maxHeartbeats 4000000 in
theorem mail_sum {w mean mg mb} (news : List (Addr × Obj)) (l : Addr) (n : Nat) (vs : List Value) (ns : List Int) (c3 c2 c1 c0 : Nat) (e3 : ns.count 3 = c3) (e2 : ns.count 2 = c2) (e1 : ns.count 1 = c1) (e0 : ns.count 0 = c0)
    (hl : (l, W.listOf vs.toArray n) ∈ news) (hi : IntsAre vs ns) (hc : c3 + c2 + c1 + c0 = 4) (y1 z1 y2 z2 y3 z3 : Str)
    (q1 : ToldQ (Str.ofString "" ++ Txt.mul (Str.ofString ".\r") c3) y1) (w1 : ToldE y1 z1) (q2 : ToldQ (z1 ++ Txt.mul (Str.ofString ".\r\n") c2) y2) (w2 : ToldE y2 z2) (q3 : ToldQ (z2 ++ Txt.mul (Str.ofString ".\n") c1) y3) (w3 : ToldE y3 z3) (b1 : z1.length ≤ 400) (b2 : z2.length ≤ 400) (b3 : z3.length ≤ 400) :
    Sum1 w mean mg mb 2 101 news news [.ref l] (fun t => .str (z3 ++ Txt.mul (Str.ofString ".\n") c0) t) := by
  w_on
  w_top off
  k_with_none
  unfold Sum1
  k_fill
  intro dp un gd cn cs a ccd cl outer A₀ base h₀ L m s Q E B F X N T hk hd hu hret
  refine wpAny_call ?_
  k_dflt cell_enter
  k_steps
  first
    | exact cb_retS hret rfl (by k_asm) (by k_asm)
    | exact cb_retS hret rfl (by k_asm) (cb_drop (by assumption) (fun p hp => .tail _ hp))
    | exact cb_retS hret rfl (by k_asm) (cb_drop (by assumption) (fun p hp => .tail _ (.tail _ hp)))

end
end Mine
namespace Mine
section
local macro_rules | `(tactic| is_list) => `(tactic| exact News.isList (by assumption) (by assumption))
local macro_rules | `(tactic| k_room) => `(tactic| ktr_room)
local macro_rules | `(tactic| ktr_enter) => `(tactic| (refine' code_def ?k1 ?k2 ?k3 ?k4 ?k5 ?kA ?kF ?kK ?k6 ?k7 ?k8 ?k9 ?kB ?_ ?c2 ?c3 ?c4 ?c5; (case kA => exact rfl); (case kF => exact rfl); (case kK => assumption); (case k1 => k_asm); (case k2 => k_asm); (case k3 => k_asm); (case k4 => k_asm); (case k5 => k_asm); (case k6 => k_is); (case k7 => k_is); (case k8 => ktr_room); (case k9 => (refine' kp_binds ?kx ?ke; (case kx => k_in); (case ke => exact fun _ => rfl))); (case c5 => decide); (case kB => exact locs rfl); (case c2 => exact rfl); (case c3 => exact rfl); (case c4 => exact rfl); k_whole; intro g' L' h' FG' F' N' B' X' T'; (try dsimp only); (try k_lift B'); (try k_fold)))
local macro_rules | `(tactic| walk_at "subscriptTail Name Name ref int") => `(tactic| ((with_reducible show wpAny _ _ (subscriptTail _ _ (Value.ref _) (Value.int _ _)) _ _ _); (with_unfolding_all refine' item_list_ints ?k1 ?k2 ?k3 ?k4 ?k5 ?_; (case k1 => is_list); (case k2 => l_ints); (case k3 => l_idx); (case k4 => l_idx); (case k5 => l_idx); k_whole); intro _))
local macro_rules | `(tactic| ktr_enter) => `(tactic| (refine' code_defC ?k1 ?k2 ?k3 ?k4 ?k5 ?kA ?kF ?kK ?k6 ?k7 ?k8 ?k9 ?kB ?kD ?_ ?c2 ?c3 ?c4; (case kA => exact rfl); (case kF => exact rfl); (case kK => assumption); (case k1 => k_asm); (case k2 => k_asm); (case k3 => k_asm); (case k4 => k_asm); (case k5 => k_asm); (case k6 => k_is); (case k7 => k_is); (case k8 => k_room); (case k9 => exact BindsTo.of_eq rfl); (case kB => exact rfl); (case kD => decide +kernel); (case c2 => exact rfl); (case c3 => exact rfl); (case c4 => exact rfl); k_whole; intro g' L' h' tk' cells' FG' F' N' Y' B' X' T' l1; (try k_lt l1); k_cells Y'; (try simp only [List.cons_append, List.nil_append] at N'); (try dsimp only); (try k_lift B'); (try k_fold)))
local macro_rules | `(tactic| k_all) => `(tactic| exact all_ne_of_lt (by assumption) (by omega))
local macro_rules | `(tactic| walk_at "CompEnd") => `(tactic| refine LCg.CompEnd.intro (by assumption) (by assumption) _ (fun _ h => h) (by assumption) (by first | exact True.intro | lcg_src) ?_)
local macro_rules | `(tactic| walk_at "InvEndN") => `(tactic| k_dflt kst_close)
local macro_rules | `(tactic| ktr_step) => `(tactic| repeat' ((fail_if_success (with_reducible show wpAny _ _ (pyIter _) _ _ _)); first | (k_unfold; (try dsimp only)) | (k_end; wrow_close) | walk1 | (dsimp only; walk1) | (leave1; walk_say "STEP leave1"; try dsimp only) | fail "no step"))
section
open LCg
variable {prog : Program} {w : World} {A : Around} {E : Value → Shared → Prop} {s : Shared} {h₀ : Heap} {L : Addr} {m : Str → Option Value} {env : Env}
/-- a turn of a comprehension over enumerate is over: the ledger as it was -/
def EnEnd (h₀ : Heap) (L : Addr) (m : Str → Option Value) (s₁ : Shared) (keep : List (Addr × Obj)) (rest : Value → Prop) (y : Value) (s₂ : Shared) : Prop :=
  ∃ h' tk, s₂ = { s₁ with heap := h', toks := tk } ∧ Fr h₀ L h' m ∧ News h₀ L h' keep ∧ rest y
theorem EnEnd.intro {s₁ : Shared} {keep all : List (Addr × Obj)} {rest : Value → Prop} {y : Value} {h' : Heap} {tk : Nat} (F : Fr h₀ L h' m) (N : News h₀ L h' all) (sub : ∀ p ∈ keep, p ∈ all) (r : rest y) :
    EnEnd h₀ L m s₁ keep rest y { s₁ with heap := h', toks := tk } := ⟨h', tk, rfl, F, fun p hp => N p (sub p hp), r⟩
def EnRest (prog : Program) (w : World) (A : Around) (h₀ : Heap) (L : Addr) (m : Str → Option Value) (env : Env) (elt : Expr) (x x₂ : Str) (scope : Scope) (cl : List (Str × Addr)) (s : Shared) (news : List (Addr × Obj))
    (Fin : List Value → Prop) : List Value → Nat → List Value → Prop
  | [], _, ys => Fin ys
  | v :: r, i, ys => ∀ t e oe it oi C oC D m₂ h tk (E' : Value → Shared → Prop), NsObj oC m₂ → m₂ x = some (.int (i : Nat) t) → m₂ x₂ = some v → Fr h₀ L h m → News h₀ L h ((e, oe) :: (it, oi) :: (C, oC) :: (D, lst ys) :: news) →
      wpAny (model prog w) A (eval elt (compEnvC scope cl C env)) (EnEnd h₀ L m { s with heap := h, toks := tk } ((e, oe) :: (it, oi) :: (C, oC) :: (D, lst ys) :: news) (fun y => EnRest prog w A h₀ L m env elt x x₂ scope cl s news Fin r (i + 1) (ys ++ [y]))) E' { s with heap := h, toks := tk }
theorem EnRest.zero {elt : Expr} {x x₂ : Str} {scope : Scope} {cl : List (Str × Addr)} {news : List (Addr × Obj)} {Fin : List Value → Prop} {i : Nat} {ys : List Value} (h : Fin ys) : EnRest prog w A h₀ L m env elt x x₂ scope cl s news Fin [] i ys := h
theorem EnRest.succ {elt : Expr} {x x₂ : Str} {scope : Scope} {cl : List (Str × Addr)} {news : List (Addr × Obj)} {Fin : List Value → Prop} {v : Value} {r : List Value} {i : Nat} {ys : List Value}
    (h : ∀ t e oe it oi C oC D m₂ h tk (E' : Value → Shared → Prop), NsObj oC m₂ → m₂ x = some (.int (i : Nat) t) → m₂ x₂ = some v → Fr h₀ L h m → News h₀ L h ((e, oe) :: (it, oi) :: (C, oC) :: (D, lst ys) :: news) →
      wpAny (model prog w) A (eval elt (compEnvC scope cl C env)) (EnEnd h₀ L m { s with heap := h, toks := tk } ((e, oe) :: (it, oi) :: (C, oC) :: (D, lst ys) :: news) (fun y => EnRest prog w A h₀ L m env elt x x₂ scope cl s news Fin r (i + 1) (ys ++ [y]))) E' { s with heap := h, toks := tk }) :
    EnRest prog w A h₀ L m env elt x x₂ scope cl s news Fin (v :: r) i ys := h
theorem block_En {elt iter : Expr} {x x₂ : Str} {px px₂ tp : Pos} {tk} {scope : Scope} {cl : List (Str × Addr)} {pos : Pos} {s₂ : Shared} {e it l : Addr} {vs : List Value} {nl : Nat} {news : List (Addr × Obj)}
    {Fin : List Value → Prop} {RR : Value → Addr → Result → Shared → Prop}
    (hh : A.handled = none) (hsz : vs.length ≤ sizeLine) (hel : e ≠ it) (hle : l ≠ e) (hli : l ≠ it) (hml : (l, W.listOf vs.toArray nl) ∈ news) (hst : (∃ old, IsEnum s₂.heap e it ((0 : Nat) : Int) old) ∧ s₂.heap.IsListIter it l 0 ∧ s₂.heap.IsList l vs.toArray)
    (hcell : ∀ y ∈ scope.names, y.2 ≠ .cell) (hkind : scope.kind = .function) (hx : scope.names.lookup x = some .local) (hx₂ : scope.names.lookup x₂ = some .local) (hxx : x ≠ x₂)
    (F : Fr h₀ L s₂.heap m) (N : News h₀ L s₂.heap news) (hIL : L ≠ e) (hIL' : L ≠ it) (hI₀ : h₀.get? e = none) (hI₀' : h₀.get? it = none) (off : ∀ p ∈ news, p.1 ≠ e) (off' : ∀ p ∈ news, p.1 ≠ it)
    (R : EnRest prog w A h₀ L m env elt x x₂ scope cl s₂ news Fin vs 0 [])
    (hRR : ∀ D C h tk m' ys, Fr h₀ L h m → News h₀ L h ((D, lst ys) :: news) → Off1 D news → h.Ns C m' → h₀.get? C = none → h₀.get? D = none → C ≠ L → D ≠ L → C ≠ D → (∀ p ∈ news, p.1 ≠ C) → Fin ys → RR (.ref D) C (.ok .next) { s₂ with heap := h, toks := tk }) :
    wpAny (model prog w) A (newList []) (fun acc s₃ => wpAny (model prog w) A (newFunctionEnv scope env.globals cl [] env.qual none .none (some env)) (fun cenv s₄ =>
      codeAny (model prog w) A (.compStart (.ListComp elt [⟨.Tuple [.Name x px, .Name x₂ px₂] tk tp, iter, [], 0⟩] scope pos) 0 (.ref e) acc { cenv with scope := relabel scope env }) (RR acc cenv.locals) s₄) E s₃) E s₂ := by
  have W := KTurns.ofWalksU (elts := [.Name x px, .Name x₂ px₂]) (k := tk) (pos := tp) (WalksT.enumerate (prog := prog) (w := w) hh e it l hel hle hli vs.toArray).toU
  refine wpAny_newObj_type (wpAny_newFunctionEnv hcell (by intro y hy; simp at hy) (fun h₁ hns₁ hsb₁ => ?_) hkind)
  dsimp only at hns₁ hsb₁ ⊢
  generalize hH2 : s₂.heap.push { cls := .type "list", dict := none, data := .seq ([] : List Value).toArray } = H2 at hns₁ hsb₁ ⊢
  have hC : H2.objs.size = s₂.heap.objs.size + 1 := by rw [← hH2, Heap.size_push]
  have hDC : s₂.heap.objs.size ≠ H2.objs.size := by rw [hC]; exact Nat.ne_of_lt (Nat.lt_succ_self _)
  have below : ∀ b, b < s₂.heap.objs.size → b ≠ H2.objs.size ∧ b ≠ s₂.heap.objs.size := fun b hb => ⟨by rw [hC]; exact Nat.ne_of_lt (Nat.lt_succ_of_lt hb), Nat.ne_of_lt hb⟩
  have helt : e < s₂.heap.objs.size := by obtain ⟨⟨_, q⟩, _, _⟩ := hst; exact Heap.lt_size q
  have hitlt : it < s₂.heap.objs.size := by obtain ⟨_, ⟨_, q, _⟩, _⟩ := hst; exact Heap.lt_size q
  have hllt : l < s₂.heap.objs.size := by obtain ⟨_, _, ⟨_, q, _⟩⟩ := hst; exact Heap.lt_size q
  have hfp : ∀ b ∈ [e, it, l], b < s₂.heap.objs.size := fun b hb => by
    rcases List.mem_cons.mp hb with rfl | hb
    · exact helt
    · rcases List.mem_cons.mp hb with rfl | hb
      · exact hitlt
      · rw [List.mem_singleton.mp hb]; exact hllt
  have hDf : s₂.heap.objs.size ∉ [e, it, l] := fun hm => Nat.lt_irrefl _ (hfp _ hm)
  have hCf : H2.objs.size ∉ [e, it, l] := fun hm => by have := hfp _ hm; rw [hC] at this; exact Nat.lt_irrefl _ (Nat.lt_of_succ_lt this)
  have old : ∀ b o, s₂.heap.get? b = some o → h₁.get? b = some o := fun b o e => hsb₁.extBut b o (below b (Heap.lt_size e)).1 (Heap.get?_push_of_some _ (hH2 ▸ Heap.get?_push_of_some _ e))
  have hacc : h₁.get? s₂.heap.objs.size = some (lst []) := hsb₁.extBut _ _ hDC (Heap.get?_push_of_some _ (hH2 ▸ Heap.get?_push_size _ rfl))
  have hst₁ := W.frame 0 _ h₁ hst fun b _ o e => old b o e
  have fresh₀ : ∀ a, s₂.heap.objs.size ≤ a → h₀.get? a = none := fun a ha => by
    cases e : h₀.get? a with
    | none => rfl
    | some o' => exact absurd (Heap.lt_size (F.keep a o' e)) (Nat.not_lt.mpr ha)
  have hD₀ : h₀.get? s₂.heap.objs.size = none := fresh₀ _ (Nat.le_refl _)
  have hC₀ : h₀.get? H2.objs.size = none := fresh₀ _ (by rw [hC]; exact Nat.le_succ _)
  have hLlt : L < s₂.heap.objs.size := F.ns.lt
  have hDL : s₂.heap.objs.size ≠ L := Ne.symm (below L hLlt).2
  have hCL : H2.objs.size ≠ L := Ne.symm (below L hLlt).1
  have offC : ∀ p ∈ news, p.1 ≠ H2.objs.size := fun p hp => (below _ (Heap.lt_size (N p hp).1)).1
  have offD : ∀ p ∈ news, p.1 ≠ s₂.heap.objs.size := fun p hp => (below _ (Heap.lt_size (N p hp).1)).2
  have hwL : ∀ b, b = L → b ∉ [e, it] := fun b q hb => by
    subst q
    rcases List.mem_cons.mp hb with rfl | hb
    · exact hIL rfl
    · rw [List.mem_singleton.mp hb] at hIL'; exact hIL' rfl
  have hw₀ : ∀ b o, h₀.get? b = some o → b ∉ [e, it] := fun b o q hb => by
    rcases List.mem_cons.mp hb with rfl | hb
    · rw [hI₀] at q; cases q
    · rw [List.mem_singleton.mp hb, hI₀'] at q; cases q
  have hwC : H2.objs.size ∉ [e, it] := fun hb => hCf (W.sub _ hb)
  have hwD : s₂.heap.objs.size ∉ [e, it] := fun hb => hDf (W.sub _ hb)
  have hwN : ∀ p ∈ news, p.1 ∉ [e, it] := fun p hp hb => by
    rcases List.mem_cons.mp hb with q | hb
    · exact off p hp q
    · exact off' p hp (List.mem_singleton.mp hb)
  have loop : ∀ s₃ : Shared, s₃ = { s₂ with heap := h₁, toks := s₂.toks + ([] : List (Str × Value)).length } →
      codeAny (model prog w) A (.compLoop (.ListComp elt [⟨.Tuple [.Name x px, .Name x₂ px₂] tk tp, iter, [], 0⟩] scope pos) 0 (.ref e) (.ref s₂.heap.objs.size) (compEnvC scope cl H2.objs.size env))
        (RR (.ref s₂.heap.objs.size) H2.objs.size) s₃ := by
    rintro s₃ rfl
    refine LCp.codeAny_compLoop_pair
      (fun k s' => ∃ h' tk i ys m', s' = { s₂ with heap := h', toks := tk } ∧ i ≤ vs.length ∧ k = vs.length + 1 - i ∧ ys.length = i ∧ ((∃ old, IsEnum h' e it (i : Int) old) ∧ h'.IsListIter it l i ∧ h'.IsList l vs.toArray) ∧ Fr h₀ L h' m ∧ h'.Ns H2.objs.size m' ∧ News h₀ L h' ((s₂.heap.objs.size, lst ys) :: news) ∧
        EnRest prog w A h₀ L m env elt x x₂ scope cl s₂ news Fin (vs.drop i) i ys) ?_ (vs.length + 1)
      ⟨h₁, _, 0, [], _, rfl, Nat.zero_le _, rfl, rfl, hst₁, F.keeps old, hns₁, fun p hp => ?_, R⟩
    · rintro k s' ⟨h', tk', i, ys, m', rfl, hi, rfl, hyl, hst', F', hn', N', R'⟩
      by_cases hlt : i < vs.length
      · have hdr : vs.drop i = vs[i] :: vs.drop (i + 1) := List.drop_eq_getElem_cons hlt
        rw [hdr] at R'
        refine W.item i _ _ _ (by simpa using hlt) hst' fun v h₂ tk₂ hMd hk₂ => ?_
        refine W.go i v _ _ _ hMd fun h₄ hP hst₄ hk₄ => ?_
        obtain ⟨T, vals, rfl, ⟨t, xv, hxv, rfl⟩, hT⟩ := hP
        have hxv' : xv = vs[i] := by
          have : vs[i]? = some xv := by simpa using hxv
          rw [List.getElem?_eq_getElem hlt] at this
          exact (Option.some.inj this).symm
        subst hxv'
        have hk : ∀ b o, b ∉ [e, it] → h'.get? b = some o → h₄.get? b = some o := fun b o hb q => hk₄ b o hb (hk₂ b o hb q)
        have N₂ : News h₀ L h₄ ((s₂.heap.objs.size, lst ys) :: news) := fun p hp => by
          refine ⟨hk _ _ ?_ (N' p hp).1, (N' p hp).2⟩
          rcases List.mem_cons.mp hp with rfl | hp
          · exact hwD
          · exact hwN p hp
        have F₂ : Fr h₀ L h₄ m := ⟨F'.ns.at' fun o q => hk L o (hwL L rfl) q, fun b o q => hk b o (hw₀ b o q) (F'.keep b o q), F'.above⟩
        have hn₂ := hn'.at' fun o q => hk H2.objs.size o hwC q
        refine assign_Tuple_tuple hh hT rfl rfl fun h₅ he => ?_
        have he' : ∀ b o, h₄.get? b = some o → h₅.get? b = some o := fun b o e => he b o (Nat.ne_of_lt (Heap.lt_size e)) e
        refine assignInOrder_cons (wpAny_assign_Name (wpAny_storeName_local (lookup_relabel_local hx) (hn₂.at' fun o e => he' _ o e) (fun h₆ hn₆ hs₆ => ?_) (by simp [compEnvC, relabel, hkind])))
        refine assignInOrder_cons (wpAny_assign_Name (wpAny_storeName_local (lookup_relabel_local hx₂) hn₆ (fun h₃ hn₃ hs₃ => ?_) (by simp [compEnvC, relabel, hkind])))
        refine assignInOrder_nil ?_
        have old3 : ∀ b o, b ≠ H2.objs.size → h₄.get? b = some o → h₃.get? b = some o := fun b o hb e => hs₃.extBut b o hb (hs₆.extBut b o hb (he' b o e))
        have hst₃ := W.frame (i + 1) _ h₃ hst₄ fun b hb o e => old3 b o (fun q => hCf (by rw [← q]; exact hb)) e
        obtain ⟨oC, heC, hoC⟩ := ns_obj hn₃
        have F₃ : Fr h₀ L h₃ m := ((F₂.keeps he').change hs₆ hCL hC₀).change hs₃ hCL hC₀
        obtain ⟨oe, hee⟩ : ∃ oe : Obj, h₃.get? e = some oe := by obtain ⟨⟨_, q⟩, _, _⟩ := hst₃; exact ⟨_, q⟩
        obtain ⟨oi, hei⟩ : ∃ oi : Obj, h₃.get? it = some oi := by obtain ⟨_, ⟨_, q, _⟩, _⟩ := hst₃; exact ⟨_, q⟩
        have N₃ : News h₀ L h₃ ((e, oe) :: (it, oi) :: (H2.objs.size, oC) :: (s₂.heap.objs.size, lst ys) :: news) := fun p hp => by
          rcases List.mem_cons.mp hp with rfl | hp
          · exact ⟨hee, Ne.symm hIL, hI₀⟩
          · rcases List.mem_cons.mp hp with rfl | hp
            · exact ⟨hei, Ne.symm hIL', hI₀'⟩
            · rcases List.mem_cons.mp hp with rfl | hp
              · exact ⟨heC, hCL, hC₀⟩
              · have z := N₂ p hp
                refine ⟨old3 _ _ ?_ z.1, z.2⟩
                rcases List.mem_cons.mp hp with rfl | hp
                · exact hDC
                · exact offC p hp
        refine wpAny_mono (R' t e oe it oi H2.objs.size oC s₂.heap.objs.size _ h₃ _ _ hoC (by simp [hxx]) (by simp) F₃ N₃) (fun y s₄ h₄ => ?_) fun _ _ e => e
        obtain ⟨h₄, tk₄, rfl, F₄, N₄, R₄⟩ := h₄
        have zE := (N₄ (e, oe) List.mem_cons_self).1
        have zI := (N₄ (it, oi) (.tail _ (.head _))).1
        have zC := (N₄ (H2.objs.size, oC) (.tail _ (.tail _ (.head _)))).1
        have zD := (N₄ (s₂.heap.objs.size, lst ys) (.tail _ (.tail _ (.tail _ (.head _))))).1
        have N₄' : News h₀ L h₄ news := fun p hp => N₄ p (.tail _ (.tail _ (.tail _ (.tail _ hp))))
        have zL := (N₄' _ hml).1
        have zL3 := (N₃ _ (.tail _ (.tail _ (.tail _ (.tail _ hml))))).1
        have hst₅ := W.frame (i + 1) _ h₄ hst₃ fun b hb o q => by
          rcases List.mem_cons.mp hb with rfl | hb
          · rw [hee] at q; rw [zE]; exact q
          · rcases List.mem_cons.mp hb with rfl | hb
            · rw [hei] at q; rw [zI]; exact q
            · rw [List.mem_singleton.mp hb] at q ⊢
              have zL3' : h₃.get? l = _ := zL3
              have zL' : h₄.get? l = _ := zL
              rw [zL3'] at q; rw [zL']; exact q
        refine append_at (hsz := by show ys.toArray.size ≤ sizeLine; rw [List.size_toArray, hyl]; exact Nat.le_trans hi hsz) zD fun h₅ hs₅ hD₅ => ?_
        refine ⟨vs.length + 1 - (i + 1), by omega, h₅, tk₄, i + 1, ys ++ [y], _, rfl, hlt, rfl, by rw [List.length_append, List.length_singleton, hyl], W.frame (i + 1) _ h₅ hst₅ fun b hb o e => hs₅.extBut b o (fun q => hDf (q ▸ hb)) e, F₄.change hs₅ hDL hD₀,
          (hoC.ns zC).sameBut hs₅ (Ne.symm hDC), fun p hp => ?_, R₄⟩
        rcases List.mem_cons.mp hp with rfl | hp
        · exact ⟨hD₅.trans (congrArg some (lst_snoc ys y)), hDL, hD₀⟩
        · exact ⟨hs₅.extBut _ _ (offD p hp) (N₄' p hp).1, (N₄' p hp).2⟩
      · obtain rfl : i = vs.length := Nat.le_antisymm hi (Nat.not_lt.mp hlt)
        rw [List.drop_length] at R'
        refine W.done _ _ _ (by simpa using hst') fun h₂ tk₂ hk => ?_
        have N₂ : News h₀ L h₂ ((s₂.heap.objs.size, lst ys) :: news) := fun p hp => by
          refine ⟨hk _ _ ?_ (N' p hp).1, (N' p hp).2⟩
          rcases List.mem_cons.mp hp with rfl | hp
          · exact hwD
          · exact hwN p hp
        exact hRR _ _ h₂ tk₂ _ ys ⟨F'.ns.at' fun o q => hk L o (hwL L rfl) q, fun b o q => hk b o (hw₀ b o q) (F'.keep b o q), F'.above⟩ N₂ (Off3.of (I := e) (C := H2.objs.size) fun p hp => ⟨off p hp, offC p hp, offD p hp⟩).one (hn'.at' fun o q => hk H2.objs.size o hwC q) hC₀ hD₀ hCL hDL (Ne.symm hDC) offC R'
    · rcases List.mem_cons.mp hp with rfl | hp
      · exact ⟨hacc, hDL, hD₀⟩
      · exact ⟨old _ _ (N p hp).1, (N p hp).2⟩
  exact codeAny_compStart_list (loop _ rfl) (by obtain ⟨⟨_, q⟩, _⟩ := hst₁; exact wpAny_pyIter_enum q (loop _ rfl))
/-- what the walk of «enumerate(..)» in a comprehension must reach -/
def EnSrc (prog : Program) (w : World) (A : Around) (h₀ : Heap) (L : Addr) (m : Str → Option Value) (env : Env) (elt : Expr) (x x₂ : Str) (scope : Scope) (cl : List (Str × Addr)) (Fin : Shared → List (Addr × Obj) → List Value → Prop) (xv : Value) (s₁ : Shared) : Prop :=
  ∃ e it l vs nl news, xv = .ref e ∧ A.handled = none ∧ Fr h₀ L s₁.heap m ∧ News h₀ L s₁.heap news ∧ vs.length ≤ sizeLine ∧ e ≠ it ∧ l ≠ e ∧ l ≠ it ∧ (l, W.listOf vs.toArray nl) ∈ news ∧ ((∃ old, IsEnum s₁.heap e it ((0 : Nat) : Int) old) ∧ s₁.heap.IsListIter it l 0 ∧ s₁.heap.IsList l vs.toArray) ∧
    L ≠ e ∧ L ≠ it ∧ h₀.get? e = none ∧ h₀.get? it = none ∧ (∀ p ∈ news, p.1 ≠ e) ∧ (∀ p ∈ news, p.1 ≠ it) ∧ ∀ s₂ : Shared, (∃ h, s₂ = { s₁ with heap := h }) → EnRest prog w A h₀ L m env elt x x₂ scope cl s₂ news (Fin s₂ news) vs 0 []
theorem En_call {elt : Expr} {x x₂ : Str} {scope : Scope} {cl : List (Str × Addr)} {Fin : Shared → List (Addr × Obj) → List Value → Prop} {l : Addr} {vs : List Value} {nl : Nat} {news : List (Addr × Obj)}
    (hh : A.handled = none) (F : Fr h₀ L s.heap m) (N : News h₀ L s.heap news) (hm : (l, W.listOf vs.toArray nl) ∈ news) (hsz : vs.length ≤ sizeLine)
    (h : ∀ g, EnRest prog w A h₀ L m env elt x x₂ scope cl { s with heap := g } news (Fin { s with heap := g } news) vs 0 []) :
    wpAny (model prog w) A (call (.type "enumerate") [.ref l]) (EnSrc prog w A h₀ L m env elt x x₂ scope cl Fin) E s := by
  have hax := N _ hm
  have hl : s.heap.IsList l vs.toArray := ⟨_, hax.1, rfl, _, rfl⟩
  have hlt : l < s.heap.objs.size := Heap.lt_size hax.1
  have hLs : L < s.heap.objs.size := F.ns.lt
  refine call_enumerate_list hl fun h' hE hI hsz' hk => ?_
  refine ⟨_, _, l, vs, nl, news, rfl, hh, F.keeps hk, N.grown hk, hsz, Nat.succ_ne_self _, ktu_ne 1 hlt, Nat.ne_of_lt hlt, hm, ⟨⟨_, hE⟩, hI, hl.at fun o e => hk l o e⟩, ktu_ne 1 hLs, Nat.ne_of_lt hLs, ktu_new F (Nat.le_add_right _ _), ktu_new F (Nat.le_refl _), fun p hp => ktu_ne 1 (Heap.lt_size (N p hp).1), fun p hp => Nat.ne_of_lt (Heap.lt_size (N p hp).1), ?_⟩
  rintro s₂ ⟨g, rfl⟩
  exact h g
theorem Assign_ListComp_En {elt iter : Expr} {x x₂ y : Str} {px px₂ tp py : Pos} {tk} {scope : Scope} {cl : List (Str × Addr)} {pos spos : Pos} {Q : Flow → Shared → Prop} (_F₀ : Fr h₀ L s.heap m) (hLe : env.locals = L)
    (hsw : swapsWith (.ListComp elt [⟨.Tuple [.Name x px, .Name x₂ px₂] tk tp, iter, [], 0⟩] scope pos) (some (.Name y py)) spos.line env = pure true)
    (hclos : closureFor scope env = pure cl) (hcell : ∀ z ∈ scope.names, z.2 ≠ .cell) (hkind : scope.kind = .function)
    (hnames : ∀ z ∈ scope.names, z.2 = .local → scope.names.lookup z.1 = some .local) (hx : scope.names.lookup x = some .local) (hx₂ : scope.names.lookup x₂ = some .local) (hxx : x ≠ x₂)
    (hy : env.kindOf y = some .local) (hp : (env.scope.kind == .class || (env.scope.kind == .module && env.locals != env.globals)) = false)
    (h : wpAny (model prog w) A (eval iter env) (EnSrc prog w A h₀ L m env elt x x₂ scope cl (fun s₂ news ys => FinA h₀ L m s₂ y Q ys news)) E s)
    (hs : ∀ x, foldedSetIterable iter env x = pure x := by intro _; rfl) :
    wpAny (model prog w) A (exec (.Assign [.Name y py] (.ListComp elt [⟨.Tuple [.Name x px, .Name x₂ px₂] tk tp, iter, [], 0⟩] scope pos) spos) env) Q E s := by
  subst hLe
  rw [exec_Assign_Name_used _ _ _ _ hsw]
  refine wpAny_bind (wpAny_standAt (wpAny_bind ?_))
  show wpAny _ A (do let _ ← comprehension (.ListComp elt [⟨.Tuple [.Name x px, .Name x₂ px₂] tk tp, iter, [], 0⟩] scope pos) scope env _ (newList []) false (eval iter env) (some (assign (.Name y py) env))) _ _ s
  refine wpAny_bind (wpAny_mono (wpAny_comprehension_free (use := some (assign (.Name y py) env)) (Q := fun _ s' => Q .next s') rfl hs hclos hkind hnames
    (wpAny_mono h (fun xv s₁ h₁ => ?_) fun _ _ e => e)) (fun _ s' hq => wpAny_pure (wpAny_pure hq)) fun _ _ e => e)
  obtain ⟨e, it, l, vs, nl, news, rfl, hh, F, N, hsz, hel, hle, hli, hml, hst, hIL, hIL', hI₀, hI₀', off, off', R⟩ := h₁
  obtain ⟨old, hE⟩ := hst.1
  refine wpAny_pyIter_enum hE ?_
  refine block_En hh hsz hel hle hli hml hst hcell hkind hx hx₂ hxx F N hIL hIL' hI₀ hI₀' off off' (R _ ⟨_, rfl⟩) ?_
  intro D C h' tk m' ys F' N' o1 hn hC₀ hD₀ hCL hDL hCD offC fin
  show wpAny _ A (assign (.Name y py) env (.ref D)) _ _ _
  refine wpAny_assign_Name (wpAny_storeName_local hy F'.ns (fun h₂ hn₂ hs₂ => ?_) hp)
  have hL₀ : h₀.get? env.locals = none := Heap.get?_none_of_le F'.above
  have F₂ : Fr h₀ env.locals h₂ (fun z => if z = y then some (.ref D) else m z) := ⟨hn₂, fun b o e => hs₂.extBut b o (fun q => by rw [q, hL₀] at e; cases e) (F'.keep b o e), F'.above⟩
  refine ⟨m', hn.sameBut hs₂ hCL, fun h'' hs'' => fin D h'' _ (F₂.change hs'' hCL hC₀) (fun p hp => ?_) o1⟩
  have z : h₂.get? p.1 = some p.2 := hs₂.extBut _ _ (N' p hp).2.1 (N' p hp).1
  refine ⟨hs''.extBut _ _ ?_ z, (N' p hp).2⟩
  rcases List.mem_cons.mp hp with rfl | hp
  · exact Ne.symm hCD
  · exact offC p hp
theorem sum_pick {l : Addr} {ys : List Value} {ns : List Int} {lo hi st : Option Int} {k : Nat} {news : List (Addr × Obj)} {Q : Value → Shared → Prop} (F : Fr h₀ L s.heap m) (N : News h₀ L s.heap news) (hh : A.handled = none)
    (hm : (l, ({ cls := .type "list", data := .seq (slicePick ys.toArray lo hi st) k } : Obj)) ∈ news) (hI : IntsAre ys ns)
    (h : ∀ (z : Int) h' tk t', Fr h₀ L h' m → News h₀ L h' news → Q (.int z t') { s with heap := h', toks := tk }) : wpAny (model prog w) A (call (.builtin "sum") [.ref l]) Q E s :=
  LSm.sum_ints (vs := (slicePick ys.toArray lo hi st).toList) F N hh ⟨_, (N _ hm).1, rfl, k, rfl⟩ (hI.pick lo hi st) fun h' tk t' F' N' => h _ h' tk t' F' N'
end

end
end Mine
namespace Mine
section
local macro_rules | `(tactic| is_list) => `(tactic| exact News.isList (by assumption) (by assumption))
local macro_rules | `(tactic| k_room) => `(tactic| ktr_room)
local macro_rules | `(tactic| ktr_enter) => `(tactic| (refine' code_def ?k1 ?k2 ?k3 ?k4 ?k5 ?kA ?kF ?kK ?k6 ?k7 ?k8 ?k9 ?kB ?_ ?c2 ?c3 ?c4 ?c5; (case kA => exact rfl); (case kF => exact rfl); (case kK => assumption); (case k1 => k_asm); (case k2 => k_asm); (case k3 => k_asm); (case k4 => k_asm); (case k5 => k_asm); (case k6 => k_is); (case k7 => k_is); (case k8 => ktr_room); (case k9 => (refine' kp_binds ?kx ?ke; (case kx => k_in); (case ke => exact fun _ => rfl))); (case c5 => decide); (case kB => exact locs rfl); (case c2 => exact rfl); (case c3 => exact rfl); (case c4 => exact rfl); k_whole; intro g' L' h' FG' F' N' B' X' T'; (try dsimp only); (try k_lift B'); (try k_fold)))
local macro_rules | `(tactic| walk_at "subscriptTail Name Name ref int") => `(tactic| ((with_reducible show wpAny _ _ (subscriptTail _ _ (Value.ref _) (Value.int _ _)) _ _ _); (with_unfolding_all refine' item_list_ints ?k1 ?k2 ?k3 ?k4 ?k5 ?_; (case k1 => is_list); (case k2 => l_ints); (case k3 => l_idx); (case k4 => l_idx); (case k5 => l_idx); k_whole); intro _))
local macro_rules | `(tactic| ktr_enter) => `(tactic| (refine' code_defC ?k1 ?k2 ?k3 ?k4 ?k5 ?kA ?kF ?kK ?k6 ?k7 ?k8 ?k9 ?kB ?kD ?_ ?c2 ?c3 ?c4; (case kA => exact rfl); (case kF => exact rfl); (case kK => assumption); (case k1 => k_asm); (case k2 => k_asm); (case k3 => k_asm); (case k4 => k_asm); (case k5 => k_asm); (case k6 => k_is); (case k7 => k_is); (case k8 => k_room); (case k9 => exact BindsTo.of_eq rfl); (case kB => exact rfl); (case kD => decide +kernel); (case c2 => exact rfl); (case c3 => exact rfl); (case c4 => exact rfl); k_whole; intro g' L' h' tk' cells' FG' F' N' Y' B' X' T' l1; (try k_lt l1); k_cells Y'; (try simp only [List.cons_append, List.nil_append] at N'); (try dsimp only); (try k_lift B'); (try k_fold)))
local macro_rules | `(tactic| k_all) => `(tactic| exact all_ne_of_lt (by assumption) (by omega))
local macro_rules | `(tactic| walk_at "CompEnd") => `(tactic| refine LCg.CompEnd.intro (by assumption) (by assumption) _ (fun _ h => h) (by assumption) (by first | exact True.intro | lcg_src) ?_)
local macro_rules | `(tactic| walk_at "InvEndN") => `(tactic| k_dflt kst_close)
local macro_rules | `(tactic| ktr_step) => `(tactic| repeat' ((fail_if_success (with_reducible show wpAny _ _ (pyIter _) _ _ _)); first | (k_unfold; (try dsimp only)) | (k_end; wrow_close) | walk1 | (dsimp only; walk1) | (leave1; walk_say "STEP leave1"; try dsimp only) | fail "no step"))
local macro_rules | `(tactic| walk_at "call ref") => `(tactic| ((with_reducible show wpAny _ _ (call (Value.ref 94) [Value.int _ _] _) _ _ _); k_dflt (refine' Sum1.use (end_sum _ _ _ ?p0 ?p1) ?k1 ?k2 ?k3 ?k4 ?k5 ?kK ?kd ?ku ?_; (case k1 => k_asm); (case k2 => k_asm); (case k3 => k_asm); (case k4 => k_asm); (case k5 => k_asm); (case p0 => omega); (case p1 => omega); (case kK => first | exact rfl | assumption); (case kd => ktr_room); (case ku => ktr_units)); (intro t9 h9 tk9 F9 N9); (try dsimp only); (try k_fold)))
local macro_rules | `(tactic| walk_at "call ref") => `(tactic| ((with_reducible show wpAny _ _ (call (Value.ref 89) [Value.str _ _] _) _ _ _); k_dflt (refine' Sum1.use (esc_sum _ _ _ ?p0) ?k1 ?k2 ?k3 ?k4 ?k5 ?kK ?kd ?ku ?_; (case k1 => k_asm); (case k2 => k_asm); (case k3 => k_asm); (case k4 => k_asm); (case k5 => k_asm); (case p0 => first | assumption | decide +kernel); (case kK => first | exact rfl | assumption); (case kd => ktr_room); (case ku => ktr_units)); (intro t9 h9 tk9 F9 N9); (try dsimp only); (try k_fold)))
/-- texts as lists of signs -/
abbrev toL (x : Str) : List Nat := x.cps.toList
theorem toL_app (a b : Str) : toL (a ++ b) = toL a ++ toL b := cps_toList_append a b
theorem foldl_flat (k : Nat) (c acc : Array Nat) : (List.foldl (fun x1 x2 => x1 ++ x2) acc (List.replicate k c)).toList = acc.toList ++ (List.replicate k c.toList).flatten := by
  induction k generalizing acc with
  | zero => simp
  | succ k ih => rw [List.replicate_succ, List.foldl_cons, ih, List.replicate_succ, List.flatten_cons, Array.toList_append, List.append_assoc]
theorem toL_mul (x : Str) (k : Nat) : toL (Txt.mul x ((k : Nat) : Int)) = (List.replicate k (toL x)).flatten := by
  unfold Txt.mul
  by_cases h1 : (k : Int) < 1
  · rw [if_pos h1]
    obtain rfl : k = 0 := by omega
    rfl
  · rw [if_neg h1]
    by_cases h2 : ((k : Int) == 1 || x.length == 0) = true
    · rw [if_pos h2]
      rw [Bool.or_eq_true] at h2
      rcases h2 with h | h
      · obtain rfl : k = 1 := by have := eq_of_beq h; omega
        simp
      · have e : x.cps.size = 0 := eq_of_beq h
        have e' : x.cps.toList = [] := by rw [← List.length_eq_zero_iff, Array.length_toList]; exact e
        show x.cps.toList = (List.replicate k x.cps.toList).flatten
        rw [e']
        simp
    · rw [if_neg h2]
      show (List.foldl (fun x1 x2 => x1 ++ x2) #[] (List.replicate ((k : Int).toNat) x.cps)).toList = _
      rw [Int.toNat_natCast, foldl_flat]
      rfl
theorem foldl_glue (r : List Str) (acc : Array Nat) : (r.foldl (fun acc p => acc ++ (Str.ofString "").cps ++ p.cps) acc).toList = acc.toList ++ (r.map toL).flatten := by
  induction r generalizing acc with
  | nil => simp
  | cons y r ih =>
    rw [List.foldl_cons, ih, List.map_cons, List.flatten_cons, Array.toList_append, Array.toList_append]
    have e : (Str.ofString "").cps.toList = [] := by decide
    rw [e, List.append_nil, List.append_assoc]
theorem toL_join (l : List Str) : toL (Txt.join (Str.ofString "") l) = (l.map toL).flatten := by
  show ((l.drop 1).foldl (fun acc p => acc ++ (Str.ofString "").cps ++ p.cps) (l.headD Str.empty).cps).toList = _
  rw [foldl_glue]
  cases l with
  | nil => rfl
  | cons x r => rfl
def endL (k : Nat) : List Nat := if k = 0 then [46, 10] else if k = 1 then [46, 46, 38, 35, 120, 68, 59, 10] else if k = 2 then [46, 46, 46, 38, 97, 109, 112, 59, 35, 120, 68, 59, 38, 35, 120, 68, 59, 10] else [46, 46, 46, 46, 38, 97, 109, 112, 59, 97, 109, 112, 59, 35, 120, 68, 59, 38, 97, 109, 112, 59, 35, 120, 68, 59, 38, 35, 120, 68, 59, 10]
theorem toL_end : ∀ k < 4, toL (endS ((k : Nat) : Int)) = endL k := by decide +kernel
theorem toL_end1 : toL (endS 1) = endL 1 := toL_end 1 (by decide)
theorem toL_end2 : toL (endS 2) = endL 2 := toL_end 2 (by decide)
theorem toL_end3 : toL (endS 3) = endL 3 := toL_end 3 (by decide)
theorem len_toL (x : Str) : x.length = (toL x).length := (Array.length_toList ..).symm

end
end Mine
namespace Mine
section
local macro_rules | `(tactic| is_list) => `(tactic| exact News.isList (by assumption) (by assumption))
local macro_rules | `(tactic| k_room) => `(tactic| ktr_room)
local macro_rules | `(tactic| ktr_enter) => `(tactic| (refine' code_def ?k1 ?k2 ?k3 ?k4 ?k5 ?kA ?kF ?kK ?k6 ?k7 ?k8 ?k9 ?kB ?_ ?c2 ?c3 ?c4 ?c5; (case kA => exact rfl); (case kF => exact rfl); (case kK => assumption); (case k1 => k_asm); (case k2 => k_asm); (case k3 => k_asm); (case k4 => k_asm); (case k5 => k_asm); (case k6 => k_is); (case k7 => k_is); (case k8 => ktr_room); (case k9 => (refine' kp_binds ?kx ?ke; (case kx => k_in); (case ke => exact fun _ => rfl))); (case c5 => decide); (case kB => exact locs rfl); (case c2 => exact rfl); (case c3 => exact rfl); (case c4 => exact rfl); k_whole; intro g' L' h' FG' F' N' B' X' T'; (try dsimp only); (try k_lift B'); (try k_fold)))
local macro_rules | `(tactic| walk_at "subscriptTail Name Name ref int") => `(tactic| ((with_reducible show wpAny _ _ (subscriptTail _ _ (Value.ref _) (Value.int _ _)) _ _ _); (with_unfolding_all refine' item_list_ints ?k1 ?k2 ?k3 ?k4 ?k5 ?_; (case k1 => is_list); (case k2 => l_ints); (case k3 => l_idx); (case k4 => l_idx); (case k5 => l_idx); k_whole); intro _))
local macro_rules | `(tactic| ktr_enter) => `(tactic| (refine' code_defC ?k1 ?k2 ?k3 ?k4 ?k5 ?kA ?kF ?kK ?k6 ?k7 ?k8 ?k9 ?kB ?kD ?_ ?c2 ?c3 ?c4; (case kA => exact rfl); (case kF => exact rfl); (case kK => assumption); (case k1 => k_asm); (case k2 => k_asm); (case k3 => k_asm); (case k4 => k_asm); (case k5 => k_asm); (case k6 => k_is); (case k7 => k_is); (case k8 => k_room); (case k9 => exact BindsTo.of_eq rfl); (case kB => exact rfl); (case kD => decide +kernel); (case c2 => exact rfl); (case c3 => exact rfl); (case c4 => exact rfl); k_whole; intro g' L' h' tk' cells' FG' F' N' Y' B' X' T' l1; (try k_lt l1); k_cells Y'; (try simp only [List.cons_append, List.nil_append] at N'); (try dsimp only); (try k_lift B'); (try k_fold)))
local macro_rules | `(tactic| k_all) => `(tactic| exact all_ne_of_lt (by assumption) (by omega))
local macro_rules | `(tactic| walk_at "CompEnd") => `(tactic| refine LCg.CompEnd.intro (by assumption) (by assumption) _ (fun _ h => h) (by assumption) (by first | exact True.intro | lcg_src) ?_)
local macro_rules | `(tactic| walk_at "InvEndN") => `(tactic| k_dflt kst_close)
local macro_rules | `(tactic| ktr_step) => `(tactic| repeat' ((fail_if_success (with_reducible show wpAny _ _ (pyIter _) _ _ _)); first | (k_unfold; (try dsimp only)) | (k_end; wrow_close) | walk1 | (dsimp only; walk1) | (leave1; walk_say "STEP leave1"; try dsimp only) | fail "no step"))
local macro_rules | `(tactic| walk_at "call ref") => `(tactic| ((with_reducible show wpAny _ _ (call (Value.ref 48) [Value.str _ _] _) _ _ _); k_dflt (refine' Sum1.use (quote_sum _ _ _ ?p0) ?k1 ?k2 ?k3 ?k4 ?k5 ?kK ?kd ?ku ?_; (case k1 => k_asm); (case k2 => k_asm); (case k3 => k_asm); (case k4 => k_asm); (case k5 => k_asm); (case p0 => first | assumption | decide +kernel); (case kK => first | exact rfl | assumption); (case kd => ktr_room); (case ku => ktr_units)); (intro t9 h9 tk9 F9 N9); (try dsimp only); (try k_fold)))
local macro_rules | `(tactic| walk_at "call ref") => `(tactic| ((with_reducible show wpAny _ _ (call (Value.ref 89) [Value.str _ _] _) _ _ _); k_dflt (refine' Sum1.use (esc_sum _ _ _ ?p0) ?k1 ?k2 ?k3 ?k4 ?k5 ?kK ?kd ?ku ?_; (case k1 => k_asm); (case k2 => k_asm); (case k3 => k_asm); (case k4 => k_asm); (case k5 => k_asm); (case p0 => first | assumption | decide +kernel); (case kK => first | exact rfl | assumption); (case kd => ktr_room); (case ku => ktr_units)); (intro t9 h9 tk9 F9 N9); (try dsimp only); (try k_fold)))
local macro_rules | `(tactic| walk_at "call ref") => `(tactic| ((with_reducible show wpAny _ _ (call (Value.ref 94) [Value.int _ _] _) _ _ _); k_dflt (refine' Sum1.use (end_sum _ _ _ ?p0 ?p1) ?k1 ?k2 ?k3 ?k4 ?k5 ?kK ?kd ?ku ?_; (case k1 => k_asm); (case k2 => k_asm); (case k3 => k_asm); (case k4 => k_asm); (case k5 => k_asm); (case p0 => omega); (case p1 => omega); (case kK => first | exact rfl | assumption); (case kd => ktr_room); (case ku => ktr_units)); (intro t9 h9 tk9 F9 N9); (try dsimp only); (try k_fold)))
abbrev roundOk (x z : Str) : Prop := x.length ≤ 2 ^ 16 ∧ (quoteS x).length ≤ 2 ^ 12 ∧ escS (quoteS x) = z ∧ z.length ≤ 400
def quoteL (l : List Nat) : List Nat := stuffL true (normL false l)
def escL (l : List Nat) : List Nat := repL 13 [38, 35, 120, 68, 59] (repL 62 [38, 103, 116, 59] (repL 60 [38, 108, 116, 59] (repL 38 [38, 97, 109, 112, 59] l)))
abbrev roundLOk (x z : List Nat) : Prop := x.length ≤ 2 ^ 16 ∧ (quoteL x).length ≤ 2 ^ 12 ∧ escL (quoteL x) = z ∧ z.length ≤ 400
theorem toL_quote (x : Str) : toL (quoteS x) = quoteL (toL x) := rfl
theorem toL_esc (x : Str) : toL (escS x) = escL (toL x) := rfl
theorem round_of {x z : Str} {l k : List Nat} (ex : toL x = l) (ez : toL z = k) (h : roundLOk l k) : roundOk x z := by
  subst ex ez
  exact ⟨(len_toL x).symm ▸ h.1, (len_toL _).symm ▸ h.2.1, str_eq h.2.2.1, (len_toL z).symm ▸ h.2.2.2⟩
abbrev mulL (c : Nat) (l : List Nat) : List Nat := (List.replicate c l).flatten
theorem roundL1 : ∀ c3 < 5, roundLOk ([] ++ mulL c3 [46, 13]) (mulL c3 (endL 1)) := by decide +kernel
theorem roundL2 : ∀ c3 < 5, ∀ c2 < 5 - c3, roundLOk (mulL c3 (endL 1) ++ mulL c2 [46, 13, 10]) (mulL c3 (endL 2) ++ mulL c2 (endL 1)) := by decide +kernel
theorem roundL3 : ∀ c3 < 5, ∀ c2 < 5 - c3, ∀ c1 < 5 - c3 - c2, roundLOk ((mulL c3 (endL 2) ++ mulL c2 (endL 1)) ++ mulL c1 [46, 10]) ((mulL c3 (endL 3) ++ mulL c2 (endL 2)) ++ mulL c1 (endL 1)) := by decide +kernel
theorem round1 : ∀ c3 < 5, roundOk (Str.ofString "" ++ Txt.mul (Str.ofString ".\r") ((c3 : Nat) : Int)) (Txt.mul (endS 1) ((c3 : Nat) : Int)) := fun c3 h3 =>
  round_of (by rw [toL_app, toL_mul, show toL (Str.ofString "") = [] from by decide, show toL (Str.ofString ".\r") = [46, 13] from by decide]) (by rw [toL_mul, toL_end1]) (roundL1 c3 h3)
theorem round2 : ∀ c3 < 5, ∀ c2 < 5 - c3, roundOk (Txt.mul (endS 1) ((c3 : Nat) : Int) ++ Txt.mul (Str.ofString ".\r\n") ((c2 : Nat) : Int)) (Txt.mul (endS 2) ((c3 : Nat) : Int) ++ Txt.mul (endS 1) ((c2 : Nat) : Int)) := fun c3 h3 c2 h2 =>
  round_of (by rw [toL_app, toL_mul, toL_mul, toL_end1, show toL (Str.ofString ".\r\n") = [46, 13, 10] from by decide]) (by rw [toL_app, toL_mul, toL_mul, toL_end1, toL_end2]) (roundL2 c3 h3 c2 h2)
theorem round3 : ∀ c3 < 5, ∀ c2 < 5 - c3, ∀ c1 < 5 - c3 - c2, roundOk ((Txt.mul (endS 2) ((c3 : Nat) : Int) ++ Txt.mul (endS 1) ((c2 : Nat) : Int)) ++ Txt.mul (Str.ofString ".\n") ((c1 : Nat) : Int)) ((Txt.mul (endS 3) ((c3 : Nat) : Int) ++ Txt.mul (endS 2) ((c2 : Nat) : Int)) ++ Txt.mul (endS 1) ((c1 : Nat) : Int)) := fun c3 h3 c2 h2 c1 h1 =>
  round_of (by rw [toL_app, toL_app, toL_mul, toL_mul, toL_mul, toL_end1, toL_end2, show toL (Str.ofString ".\n") = [46, 10] from by decide]) (by rw [toL_app, toL_app, toL_mul, toL_mul, toL_mul, toL_end1, toL_end2, toL_end3]) (roundL3 c3 h3 c2 h2 c1 h1)

end
end Mine
namespace Mine
section
local macro_rules | `(tactic| is_list) => `(tactic| exact News.isList (by assumption) (by assumption))
local macro_rules | `(tactic| k_room) => `(tactic| ktr_room)
local macro_rules | `(tactic| ktr_enter) => `(tactic| (refine' code_def ?k1 ?k2 ?k3 ?k4 ?k5 ?kA ?kF ?kK ?k6 ?k7 ?k8 ?k9 ?kB ?_ ?c2 ?c3 ?c4 ?c5; (case kA => exact rfl); (case kF => exact rfl); (case kK => assumption); (case k1 => k_asm); (case k2 => k_asm); (case k3 => k_asm); (case k4 => k_asm); (case k5 => k_asm); (case k6 => k_is); (case k7 => k_is); (case k8 => ktr_room); (case k9 => (refine' kp_binds ?kx ?ke; (case kx => k_in); (case ke => exact fun _ => rfl))); (case c5 => decide); (case kB => exact locs rfl); (case c2 => exact rfl); (case c3 => exact rfl); (case c4 => exact rfl); k_whole; intro g' L' h' FG' F' N' B' X' T'; (try dsimp only); (try k_lift B'); (try k_fold)))
local macro_rules | `(tactic| walk_at "subscriptTail Name Name ref int") => `(tactic| ((with_reducible show wpAny _ _ (subscriptTail _ _ (Value.ref _) (Value.int _ _)) _ _ _); (with_unfolding_all refine' item_list_ints ?k1 ?k2 ?k3 ?k4 ?k5 ?_; (case k1 => is_list); (case k2 => l_ints); (case k3 => l_idx); (case k4 => l_idx); (case k5 => l_idx); k_whole); intro _))
local macro_rules | `(tactic| ktr_enter) => `(tactic| (refine' code_defC ?k1 ?k2 ?k3 ?k4 ?k5 ?kA ?kF ?kK ?k6 ?k7 ?k8 ?k9 ?kB ?kD ?_ ?c2 ?c3 ?c4; (case kA => exact rfl); (case kF => exact rfl); (case kK => assumption); (case k1 => k_asm); (case k2 => k_asm); (case k3 => k_asm); (case k4 => k_asm); (case k5 => k_asm); (case k6 => k_is); (case k7 => k_is); (case k8 => k_room); (case k9 => exact BindsTo.of_eq rfl); (case kB => exact rfl); (case kD => decide +kernel); (case c2 => exact rfl); (case c3 => exact rfl); (case c4 => exact rfl); k_whole; intro g' L' h' tk' cells' FG' F' N' Y' B' X' T' l1; (try k_lt l1); k_cells Y'; (try simp only [List.cons_append, List.nil_append] at N'); (try dsimp only); (try k_lift B'); (try k_fold)))
local macro_rules | `(tactic| k_all) => `(tactic| exact all_ne_of_lt (by assumption) (by omega))
local macro_rules | `(tactic| walk_at "CompEnd") => `(tactic| refine LCg.CompEnd.intro (by assumption) (by assumption) _ (fun _ h => h) (by assumption) (by first | exact True.intro | lcg_src) ?_)
local macro_rules | `(tactic| walk_at "InvEndN") => `(tactic| k_dflt kst_close)
local macro_rules | `(tactic| ktr_step) => `(tactic| repeat' ((fail_if_success (with_reducible show wpAny _ _ (pyIter _) _ _ _)); first | (k_unfold; (try dsimp only)) | (k_end; wrow_close) | walk1 | (dsimp only; walk1) | (leave1; walk_say "STEP leave1"; try dsimp only) | fail "no step"))
local macro_rules | `(tactic| walk_at "call ref") => `(tactic| ((with_reducible show wpAny _ _ (call (Value.ref 66) [Value.ref _, Value.int _ _] _) _ _ _); k_dflt (refine' Sum1.use (bisR_sum _ _ _ _ _ _ _ ?sl ?si ?sn) ?k1 ?k2 ?k3 ?k4 ?k5 ?kK ?kd ?ku ?_; (case k1 => k_asm); (case k2 => k_asm); (case k3 => k_asm); (case k4 => k_asm); (case k5 => k_asm); (case sl => first | assumption | k_mem); (case si => l_ints); (case sn => l_fit); (case kK => first | exact rfl | assumption); (case kd => ktr_room); (case ku => ktr_units)); (intro t9 h9 tk9 F9 N9); (try dsimp only); (try k_fold)))
local macro_rules | `(tactic| walk_at "call ref") => `(tactic| ((with_reducible show wpAny _ _ (call (Value.ref 66) [Value.ref _, Value.int _ _, Value.int 0 _, Value.none] _) _ _ _); k_dflt (refine' Sum1.use (bisR_sum4 _ _ _ _ _ _ _ _ ?sl ?si ?sn) ?k1 ?k2 ?k3 ?k4 ?k5 ?kK ?kd ?ku ?_; (case k1 => k_asm); (case k2 => k_asm); (case k3 => k_asm); (case k4 => k_asm); (case k5 => k_asm); (case sl => first | assumption | k_mem); (case si => l_ints); (case sn => l_fit); (case kK => first | exact rfl | assumption); (case kd => ktr_room); (case ku => ktr_units)); (intro t9 h9 tk9 F9 N9); (try dsimp only); (try k_fold)))
local macro_rules | `(tactic| walk_at "call ref") => `(tactic| ((with_reducible show wpAny _ _ (call (Value.ref 75) [Value.ref _, Value.int _ _] _) _ _ _); k_dflt (refine' Sum1.use (bisL_sum _ _ _ _ _ _ _ ?sl ?si ?sn) ?k1 ?k2 ?k3 ?k4 ?k5 ?kK ?kd ?ku ?_; (case k1 => k_asm); (case k2 => k_asm); (case k3 => k_asm); (case k4 => k_asm); (case k5 => k_asm); (case sl => first | assumption | k_mem); (case si => l_ints); (case sn => l_fit); (case kK => first | exact rfl | assumption); (case kd => ktr_room); (case ku => ktr_units)); (intro t9 h9 tk9 F9 N9); (try dsimp only); (try k_fold)))
local macro_rules | `(tactic| walk_at "call ref") => `(tactic| ((with_reducible show wpAny _ _ (call (Value.ref 113) [Value.ref _, Value.int _ _] _) _ _ _); k_dflt (refine' Sum1.use (found_sum _ _ _ _ _ _ _ ?sl ?si ?sn) ?k1 ?k2 ?k3 ?k4 ?k5 ?kK ?kd ?ku ?_; (case k1 => k_asm); (case k2 => k_asm); (case k3 => k_asm); (case k4 => k_asm); (case k5 => k_asm); (case sl => first | assumption | k_mem); (case si => l_ints); (case sn => l_fit); (case kK => first | exact rfl | assumption); (case kd => ktr_room); (case ku => ktr_units)); (intro t9 h9 tk9 F9 N9); (try dsimp only); (try k_fold)))
local macro_rules | `(tactic| walk_at "call ref") => `(tactic| ((with_reducible show wpAny _ _ (call (Value.ref 130) [Value.int _ _] _) _ _ _); k_dflt (refine' Sum1.use (four_sum _ _ _ ?p0 ?p1) ?k1 ?k2 ?k3 ?k4 ?k5 ?kK ?kd ?ku ?_; (case k1 => k_asm); (case k2 => k_asm); (case k3 => k_asm); (case k4 => k_asm); (case k5 => k_asm); (case p0 => assumption); (case p1 => assumption); (case kK => first | exact rfl | assumption); (case kd => ktr_room); (case ku => ktr_units)); (intro t9 h9 tk9 F9 N9); (try dsimp only); (try k_fold)))
local macro_rules | `(tactic| walk_at "call ref") => `(tactic| ((with_reducible show wpAny _ _ (call (Value.ref 118) [Value.int _ _] _) _ _ _); k_dflt (refine' Sum1.use (two_sum _ _ _ ?p0 ?p1) ?k1 ?k2 ?k3 ?k4 ?k5 ?kK ?kd ?ku ?_; (case k1 => k_asm); (case k2 => k_asm); (case k3 => k_asm); (case k4 => k_asm); (case k5 => k_asm); (case p0 => assumption); (case p1 => assumption); (case kK => first | exact rfl | assumption); (case kd => ktr_room); (case ku => ktr_units)); (intro t9 h9 tk9 F9 N9); (try dsimp only); (try k_fold)))
local macro_rules | `(tactic| walk_at "call ref") => `(tactic| ((with_reducible show wpAny _ _ (call (Value.ref 125) [Value.int _ _] _) _ _ _); k_dflt (refine' Sum1.use (three_sum _ _ _ ?p0 ?p1) ?k1 ?k2 ?k3 ?k4 ?k5 ?kK ?kd ?ku ?_; (case k1 => k_asm); (case k2 => k_asm); (case k3 => k_asm); (case k4 => k_asm); (case k5 => k_asm); (case p0 => assumption); (case p1 => assumption); (case kK => first | exact rfl | assumption); (case kd => ktr_room); (case ku => ktr_units)); (intro t9 h9 tk9 F9 N9); (try dsimp only); (try k_fold)))
def marksN : List Int := [0, 1, 3, 6, 10, 15, 21]
def pairsIn (n : Int) (p : List Int) (one : Int) : List Int := (marksN.take (bisR marksN (n - one)).toNat).foldl (fun p o => insR p (one + o)) p
def pairsF (n : Int) : List Int := marksN.foldl (pairsIn n) []
abbrev numsOk (n : Int) : Prop := foundF (pairsF n) n = twoF n ∧ (marksN.map fun m => foundF (pairsF n) (n - m)).sum = threeF n ∧ ((pairsF n).map fun m => foundF (pairsF n) (n - m)).sum = fourF n
theorem nums_ok_nat : ∀ k < 25, numsOk ((k : Nat) : Int) := by decide +kernel
theorem nums_ok {n : Int} (h0 : 0 ≤ n) (h24 : n ≤ 24) : numsOk n := by
  obtain ⟨k, rfl⟩ := Int.eq_ofNat_of_zero_le h0
  exact nums_ok_nat k (by omega)

end
end Mine
namespace Mine
section
local macro_rules | `(tactic| is_list) => `(tactic| exact News.isList (by assumption) (by assumption))
local macro_rules | `(tactic| k_room) => `(tactic| ktr_room)
local macro_rules | `(tactic| ktr_enter) => `(tactic| (refine' code_def ?k1 ?k2 ?k3 ?k4 ?k5 ?kA ?kF ?kK ?k6 ?k7 ?k8 ?k9 ?kB ?_ ?c2 ?c3 ?c4 ?c5; (case kA => exact rfl); (case kF => exact rfl); (case kK => assumption); (case k1 => k_asm); (case k2 => k_asm); (case k3 => k_asm); (case k4 => k_asm); (case k5 => k_asm); (case k6 => k_is); (case k7 => k_is); (case k8 => ktr_room); (case k9 => (refine' kp_binds ?kx ?ke; (case kx => k_in); (case ke => exact fun _ => rfl))); (case c5 => decide); (case kB => exact locs rfl); (case c2 => exact rfl); (case c3 => exact rfl); (case c4 => exact rfl); k_whole; intro g' L' h' FG' F' N' B' X' T'; (try dsimp only); (try k_lift B'); (try k_fold)))
local macro_rules | `(tactic| walk_at "subscriptTail Name Name ref int") => `(tactic| ((with_reducible show wpAny _ _ (subscriptTail _ _ (Value.ref _) (Value.int _ _)) _ _ _); (with_unfolding_all refine' item_list_ints ?k1 ?k2 ?k3 ?k4 ?k5 ?_; (case k1 => is_list); (case k2 => l_ints); (case k3 => l_idx); (case k4 => l_idx); (case k5 => l_idx); k_whole); intro _))
local macro_rules | `(tactic| ktr_enter) => `(tactic| (refine' code_defC ?k1 ?k2 ?k3 ?k4 ?k5 ?kA ?kF ?kK ?k6 ?k7 ?k8 ?k9 ?kB ?kD ?_ ?c2 ?c3 ?c4; (case kA => exact rfl); (case kF => exact rfl); (case kK => assumption); (case k1 => k_asm); (case k2 => k_asm); (case k3 => k_asm); (case k4 => k_asm); (case k5 => k_asm); (case k6 => k_is); (case k7 => k_is); (case k8 => k_room); (case k9 => exact BindsTo.of_eq rfl); (case kB => exact rfl); (case kD => decide +kernel); (case c2 => exact rfl); (case c3 => exact rfl); (case c4 => exact rfl); k_whole; intro g' L' h' tk' cells' FG' F' N' Y' B' X' T' l1; (try k_lt l1); k_cells Y'; (try simp only [List.cons_append, List.nil_append] at N'); (try dsimp only); (try k_lift B'); (try k_fold)))
local macro_rules | `(tactic| k_all) => `(tactic| exact all_ne_of_lt (by assumption) (by omega))
local macro_rules | `(tactic| walk_at "CompEnd") => `(tactic| refine LCg.CompEnd.intro (by assumption) (by assumption) _ (fun _ h => h) (by assumption) (by first | exact True.intro | lcg_src) ?_)
local macro_rules | `(tactic| walk_at "InvEndN") => `(tactic| k_dflt kst_close)
local macro_rules | `(tactic| ktr_step) => `(tactic| repeat' ((fail_if_success (with_reducible show wpAny _ _ (pyIter _) _ _ _)); first | (k_unfold; (try dsimp only)) | (k_end; wrow_close) | walk1 | (dsimp only; walk1) | (leave1; walk_say "STEP leave1"; try dsimp only) | fail "no step"))
local macro_rules | `(tactic| walk_at "call ref") => `(tactic| ((with_reducible show wpAny _ _ (call (Value.ref 48) [Value.str _ _] _) _ _ _); k_dflt (refine' Sum1.use (quote_sum _ _ _ ?p0) ?k1 ?k2 ?k3 ?k4 ?k5 ?kK ?kd ?ku ?_; (case k1 => k_asm); (case k2 => k_asm); (case k3 => k_asm); (case k4 => k_asm); (case k5 => k_asm); (case p0 => first | assumption | decide +kernel); (case kK => first | exact rfl | assumption); (case kd => ktr_room); (case ku => ktr_units)); (intro t9 h9 tk9 F9 N9); (try dsimp only); (try k_fold)))
local macro_rules | `(tactic| walk_at "call ref") => `(tactic| ((with_reducible show wpAny _ _ (call (Value.ref 89) [Value.str _ _] _) _ _ _); k_dflt (refine' Sum1.use (esc_sum _ _ _ ?p0) ?k1 ?k2 ?k3 ?k4 ?k5 ?kK ?kd ?ku ?_; (case k1 => k_asm); (case k2 => k_asm); (case k3 => k_asm); (case k4 => k_asm); (case k5 => k_asm); (case p0 => first | assumption | decide +kernel); (case kK => first | exact rfl | assumption); (case kd => ktr_room); (case ku => ktr_units)); (intro t9 h9 tk9 F9 N9); (try dsimp only); (try k_fold)))
local macro_rules | `(tactic| walk_at "call ref") => `(tactic| ((with_reducible show wpAny _ _ (call (Value.ref 94) [Value.int _ _] _) _ _ _); k_dflt (refine' Sum1.use (end_sum _ _ _ ?p0 ?p1) ?k1 ?k2 ?k3 ?k4 ?k5 ?kK ?kd ?ku ?_; (case k1 => k_asm); (case k2 => k_asm); (case k3 => k_asm); (case k4 => k_asm); (case k5 => k_asm); (case p0 => omega); (case p1 => omega); (case kK => first | exact rfl | assumption); (case kd => ktr_room); (case ku => ktr_units)); (intro t9 h9 tk9 F9 N9); (try dsimp only); (try k_fold)))
def mailS (ns : List Int) : Str := ((Txt.mul (endS 3) ((ns.count 3 : Nat) : Int) ++ Txt.mul (endS 2) ((ns.count 2 : Nat) : Int)) ++ Txt.mul (endS 1) ((ns.count 1 : Nat) : Int)) ++ Txt.mul (Str.ofString ".\n") ((ns.count 0 : Nat) : Int)
theorem count_all : ∀ ns : List Int, (∀ x ∈ ns, 0 ≤ x ∧ x ≤ 3) → ns.count 3 + ns.count 2 + ns.count 1 + ns.count 0 = ns.length
  | [], _ => rfl
  | x :: r, h => by
    have ih := count_all r fun y hy => h y (.tail _ hy)
    have hx := h x (.head _)
    obtain rfl | rfl | rfl | rfl : x = 0 ∨ x = 1 ∨ x = 2 ∨ x = 3 := by omega
    all_goals simp [List.count_cons]; omega
theorem mail_four {w mean mg mb} (news : List (Addr × Obj)) (l : Addr) (n : Nat) (vs : List Value) (ns : List Int) (hl : (l, W.listOf vs.toArray n) ∈ news) (hi : IntsAre vs ns) (h4 : ns.length = 4) (hb : ∀ x ∈ ns, 0 ≤ x ∧ x ≤ 3) :
    Sum1 w mean mg mb 2 101 news news [.ref l] (fun t => .str (mailS ns) t) := by
  have hc := count_all ns hb
  rw [h4] at hc
  have r1 := round1 (ns.count 3) (by omega)
  have r2 := round2 (ns.count 3) (by omega) (ns.count 2) (by omega)
  have r3 := round3 (ns.count 3) (by omega) (ns.count 2) (by omega) (ns.count 1) (by omega)
  exact mail_sum news l n vs ns _ _ _ _ rfl rfl rfl rfl hl hi hc _ _ _ _ _ _ ⟨r1.1, rfl⟩ ⟨r1.2.1, r1.2.2.1⟩ ⟨r2.1, rfl⟩ ⟨r2.2.1, r2.2.2.1⟩ ⟨r3.1, rfl⟩ ⟨r3.2.1, r3.2.2.1⟩ r1.2.2.2 r2.2.2.2 r3.2.2.2
theorem fmod4 (x : Int) : 0 ≤ x.fmod 4 ∧ x.fmod 4 ≤ 3 := by
  rw [Int.fmod_eq_emod_of_nonneg _ (by decide)]
  omega
theorem four_in {a b c d : Int} (ha : 0 ≤ a ∧ a ≤ 3) (hb : 0 ≤ b ∧ b ≤ 3) (hc : 0 ≤ c ∧ c ≤ 3) (hd : 0 ≤ d ∧ d ≤ 3) : ∀ x ∈ [a, b, c, d], 0 ≤ x ∧ x ≤ 3 := by
  intro x hx
  simp only [List.mem_cons, List.not_mem_nil, or_false] at hx
  obtain rfl | rfl | rfl | rfl := hx <;> assumption

end
end Mine
namespace Mine
section
local macro_rules | `(tactic| is_list) => `(tactic| exact News.isList (by assumption) (by assumption))
local macro_rules | `(tactic| k_room) => `(tactic| ktr_room)
local macro_rules | `(tactic| ktr_enter) => `(tactic| (refine' code_def ?k1 ?k2 ?k3 ?k4 ?k5 ?kA ?kF ?kK ?k6 ?k7 ?k8 ?k9 ?kB ?_ ?c2 ?c3 ?c4 ?c5; (case kA => exact rfl); (case kF => exact rfl); (case kK => assumption); (case k1 => k_asm); (case k2 => k_asm); (case k3 => k_asm); (case k4 => k_asm); (case k5 => k_asm); (case k6 => k_is); (case k7 => k_is); (case k8 => ktr_room); (case k9 => (refine' kp_binds ?kx ?ke; (case kx => k_in); (case ke => exact fun _ => rfl))); (case c5 => decide); (case kB => exact locs rfl); (case c2 => exact rfl); (case c3 => exact rfl); (case c4 => exact rfl); k_whole; intro g' L' h' FG' F' N' B' X' T'; (try dsimp only); (try k_lift B'); (try k_fold)))
local macro_rules | `(tactic| walk_at "subscriptTail Name Name ref int") => `(tactic| ((with_reducible show wpAny _ _ (subscriptTail _ _ (Value.ref _) (Value.int _ _)) _ _ _); (with_unfolding_all refine' item_list_ints ?k1 ?k2 ?k3 ?k4 ?k5 ?_; (case k1 => is_list); (case k2 => l_ints); (case k3 => l_idx); (case k4 => l_idx); (case k5 => l_idx); k_whole); intro _))
local macro_rules | `(tactic| ktr_enter) => `(tactic| (refine' code_defC ?k1 ?k2 ?k3 ?k4 ?k5 ?kA ?kF ?kK ?k6 ?k7 ?k8 ?k9 ?kB ?kD ?_ ?c2 ?c3 ?c4; (case kA => exact rfl); (case kF => exact rfl); (case kK => assumption); (case k1 => k_asm); (case k2 => k_asm); (case k3 => k_asm); (case k4 => k_asm); (case k5 => k_asm); (case k6 => k_is); (case k7 => k_is); (case k8 => k_room); (case k9 => exact BindsTo.of_eq rfl); (case kB => exact rfl); (case kD => decide +kernel); (case c2 => exact rfl); (case c3 => exact rfl); (case c4 => exact rfl); k_whole; intro g' L' h' tk' cells' FG' F' N' Y' B' X' T' l1; (try k_lt l1); k_cells Y'; (try simp only [List.cons_append, List.nil_append] at N'); (try dsimp only); (try k_lift B'); (try k_fold)))
local macro_rules | `(tactic| k_all) => `(tactic| exact all_ne_of_lt (by assumption) (by omega))
local macro_rules | `(tactic| walk_at "CompEnd") => `(tactic| refine LCg.CompEnd.intro (by assumption) (by assumption) _ (fun _ h => h) (by assumption) (by first | exact True.intro | lcg_src) ?_)
local macro_rules | `(tactic| walk_at "InvEndN") => `(tactic| k_dflt kst_close)
local macro_rules | `(tactic| ktr_step) => `(tactic| repeat' ((fail_if_success (with_reducible show wpAny _ _ (pyIter _) _ _ _)); first | (k_unfold; (try dsimp only)) | (k_end; wrow_close) | walk1 | (dsimp only; walk1) | (leave1; walk_say "STEP leave1"; try dsimp only) | fail "no step"))
local macro_rules | `(tactic| walk_at "call ref") => `(tactic| ((with_reducible show wpAny _ _ (call (Value.ref 48) [Value.str _ _] _) _ _ _); k_dflt (refine' Sum1.use (quote_sum _ _ _ ?p0) ?k1 ?k2 ?k3 ?k4 ?k5 ?kK ?kd ?ku ?_; (case k1 => k_asm); (case k2 => k_asm); (case k3 => k_asm); (case k4 => k_asm); (case k5 => k_asm); (case p0 => first | assumption | decide +kernel); (case kK => first | exact rfl | assumption); (case kd => ktr_room); (case ku => ktr_units)); (intro t9 h9 tk9 F9 N9); (try dsimp only); (try k_fold)))
local macro_rules | `(tactic| walk_at "call ref") => `(tactic| ((with_reducible show wpAny _ _ (call (Value.ref 89) [Value.str _ _] _) _ _ _); k_dflt (refine' Sum1.use (esc_sum _ _ _ ?p0) ?k1 ?k2 ?k3 ?k4 ?k5 ?kK ?kd ?ku ?_; (case k1 => k_asm); (case k2 => k_asm); (case k3 => k_asm); (case k4 => k_asm); (case k5 => k_asm); (case p0 => first | assumption | decide +kernel); (case kK => first | exact rfl | assumption); (case kd => ktr_room); (case ku => ktr_units)); (intro t9 h9 tk9 F9 N9); (try dsimp only); (try k_fold)))
local macro_rules | `(tactic| walk_at "call ref") => `(tactic| ((with_reducible show wpAny _ _ (call (Value.ref 94) [Value.int _ _] _) _ _ _); k_dflt (refine' Sum1.use (end_sum _ _ _ ?p0 ?p1) ?k1 ?k2 ?k3 ?k4 ?k5 ?kK ?kd ?ku ?_; (case k1 => k_asm); (case k2 => k_asm); (case k3 => k_asm); (case k4 => k_asm); (case k5 => k_asm); (case p0 => omega); (case p1 => omega); (case kK => first | exact rfl | assumption); (case kd => ktr_room); (case ku => ktr_units)); (intro t9 h9 tk9 F9 N9); (try dsimp only); (try k_fold)))
local macro_rules | `(tactic| walk_at "call ref") => `(tactic| ((with_reducible show wpAny _ _ (call (Value.ref 101) [Value.ref _] _) _ _ _); k_dflt (refine' Sum1.use (mail_four _ _ _ _ [_, _, _, _] ?sl ?si ?s4 ?sb) ?k1 ?k2 ?k3 ?k4 ?k5 ?kK ?kd ?ku ?_; (case k1 => k_asm); (case k2 => k_asm); (case k3 => k_asm); (case k4 => k_asm); (case k5 => k_asm); (case sl => exact .head _); (case si => exact .cons _ _ (.cons _ _ (.cons _ _ (.cons _ _ .nil)))); (case s4 => rfl); (case sb => exact four_in (fmod4 _) (fmod4 _) (fmod4 _) (fmod4 _)); (case kK => first | exact rfl | assumption); (case kd => ktr_room); (case ku => ktr_units)); (intro t9 h9 tk9 F9 N9); (try dsimp only); (try k_fold)))
/-- the four ends glued, the greatest age first, are the mail -/
abbrev endsN (p q r s : Nat) : List Int := [(p : Int), (q : Int), (r : Int), (s : Int)]
def mailL (c3 c2 c1 c0 : Nat) : List Nat := (((List.replicate c3 (endL 3)).flatten ++ (List.replicate c2 (endL 2)).flatten) ++ (List.replicate c1 (endL 1)).flatten) ++ (List.replicate c0 [46, 10]).flatten
theorem toL_mailS (ns : List Int) : toL (mailS ns) = mailL (ns.count 3) (ns.count 2) (ns.count 1) (ns.count 0) := by
  unfold mailS mailL
  have e : toL (Str.ofString ".\n") = [46, 10] := by decide
  rw [toL_app, toL_app, toL_app, toL_mul, toL_mul, toL_mul, toL_mul, toL_end1, toL_end2, toL_end3, e]
theorem mail_dec : ∀ p < 4, ∀ q < p + 1, ∀ r < q + 1, ∀ s < r + 1, [endL p, endL q, endL r, endL s].flatten = mailL ((endsN p q r s).count 3) ((endsN p q r s).count 2) ((endsN p q r s).count 1) ((endsN p q r s).count 0) := by decide +kernel
theorem ends_len : ∀ p < 4, (endL p).length ≤ 32 := by decide +kernel
theorem semis_dec : ∀ c3 < 5, ∀ c2 < 5 - c3, ∀ c1 < 5 - c3 - c2, (mailL c3 c2 c1 (4 - c3 - c2 - c1)).count 59 ≤ 24 := by decide +kernel
theorem cnt_count (c : Nat) (l : List Nat) : cnt c l = ((l.count c : Nat) : Int) := by
  induction l with
  | nil => rw [cnt_nil]; rfl
  | cons x r ih =>
    rw [cnt_cons, ih, List.count_cons]
    by_cases h : x = c
    · subst h; simp; omega
    · simp [h]
theorem mail_semis {ns : List Int} (h4 : ns.length = 4) (hb : ∀ x ∈ ns, 0 ≤ x ∧ x ≤ 3) : 0 ≤ Txt.count (mailS ns) (Str.ofString ";") ∧ Txt.count (mailS ns) (Str.ofString ";") ≤ 24 := by
  have hc := count_all ns hb
  rw [h4] at hc
  have e0 : ns.count 0 = 4 - ns.count 3 - ns.count 2 - ns.count 1 := by omega
  have e1 : Str.ofString ";" = ⟨#[59]⟩ := by decide
  refine ⟨Int.natCast_nonneg _, ?_⟩
  rw [e1, count_cnt, cnt_count]
  show (((toL (mailS ns)).count 59 : Nat) : Int) ≤ 24
  rw [toL_mailS, e0]
  have := semis_dec (ns.count 3) (by omega) (ns.count 2) (by omega) (ns.count 1) (by omega)
  omega
theorem mailS_perm {z ns : List Int} (hp : z.Perm ns) : mailS z = mailS ns := by
  unfold mailS
  rw [hp.count_eq, hp.count_eq, hp.count_eq, hp.count_eq]
theorem nat_of {x : Int} (h : 0 ≤ x ∧ x ≤ 3) : ∃ k : Nat, x = (k : Int) ∧ k < 4 := by
  obtain ⟨k, rfl⟩ := Int.eq_ofNat_of_zero_le h.1
  exact ⟨k, rfl, by omega⟩
theorem four_dec {z ns : List Int} (hp : z.Perm ns) (ho : List.Pairwise (fun x y => y ≤ x) z) (h4 : ns.length = 4) (hb : ∀ x ∈ ns, 0 ≤ x ∧ x ≤ 3) :
    ∃ p q r s : Nat, p < 4 ∧ q < p + 1 ∧ r < q + 1 ∧ s < r + 1 ∧ z = endsN p q r s := by
  have hz : z.length = 4 := hp.length_eq.trans h4
  have hbz : ∀ x ∈ z, 0 ≤ x ∧ x ≤ 3 := fun x hx => hb x (hp.mem_iff.1 hx)
  match z, hz with
  | [a, b, c, d], _ =>
    obtain ⟨p, rfl, hp4⟩ := nat_of (hbz a (by simp))
    obtain ⟨q, rfl, _⟩ := nat_of (hbz b (by simp))
    obtain ⟨r, rfl, _⟩ := nat_of (hbz c (by simp))
    obtain ⟨s, rfl, _⟩ := nat_of (hbz d (by simp))
    have o1 := List.rel_of_pairwise_cons ho (a' := (q : Int)) (by simp)
    have o2 := List.rel_of_pairwise_cons (List.Pairwise.of_cons ho) (a' := (r : Int)) (by simp)
    have o3 := List.rel_of_pairwise_cons (List.Pairwise.of_cons (List.Pairwise.of_cons ho)) (a' := (s : Int)) (by simp)
    exact ⟨p, q, r, s, hp4, by omega, by omega, by omega, rfl⟩
theorem mail_same {z ns : List Int} (hp : z.Perm ns) (ho : List.Pairwise (fun x y => y ≤ x) z) (h4 : ns.length = 4) (hb : ∀ x ∈ ns, 0 ≤ x ∧ x ≤ 3) :
    Txt.join (Str.ofString "") (z.map endS) = mailS ns ∧ ((z.map endS).map (·.length)).sum + (z.map endS).length * (Str.ofString "").length ≤ 16777216 := by
  obtain ⟨p, q, r, s, a, b, c, d, e⟩ := four_dec hp ho h4 hb
  rw [← mailS_perm hp, e]
  have hq : q < 4 := by omega
  have hr : r < 4 := by omega
  have hs : s < 4 := by omega
  refine ⟨str_eq ?_, ?_⟩
  · show toL _ = toL _
    rw [toL_join, toL_mailS]
    show [toL (endS (p : Int)), toL (endS (q : Int)), toL (endS (r : Int)), toL (endS (s : Int))].flatten = _
    rw [toL_end p a, toL_end q hq, toL_end r hr, toL_end s hs]
    exact mail_dec p a q b r c s d
  · have e0 : (Str.ofString "").length = 0 := by decide
    rw [e0]
    show ([(endS (p : Int)).length, (endS (q : Int)).length, (endS (r : Int)).length, (endS (s : Int)).length].sum + 4 * 0) ≤ _
    rw [len_toL, len_toL, len_toL, len_toL, toL_end p a, toL_end q hq, toL_end r hr, toL_end s hs]
    have h1 := ends_len p a
    have h2 := ends_len q hq
    have h3 := ends_len r hr
    have h4 := ends_len s hs
    simp only [List.sum_cons, List.sum_nil]
    omega

end
end Mine
namespace Mine
section
local macro_rules | `(tactic| is_list) => `(tactic| exact News.isList (by assumption) (by assumption))
local macro_rules | `(tactic| k_room) => `(tactic| ktr_room)
local macro_rules | `(tactic| ktr_enter) => `(tactic| (refine' code_def ?k1 ?k2 ?k3 ?k4 ?k5 ?kA ?kF ?kK ?k6 ?k7 ?k8 ?k9 ?kB ?_ ?c2 ?c3 ?c4 ?c5; (case kA => exact rfl); (case kF => exact rfl); (case kK => assumption); (case k1 => k_asm); (case k2 => k_asm); (case k3 => k_asm); (case k4 => k_asm); (case k5 => k_asm); (case k6 => k_is); (case k7 => k_is); (case k8 => ktr_room); (case k9 => (refine' kp_binds ?kx ?ke; (case kx => k_in); (case ke => exact fun _ => rfl))); (case c5 => decide); (case kB => exact locs rfl); (case c2 => exact rfl); (case c3 => exact rfl); (case c4 => exact rfl); k_whole; intro g' L' h' FG' F' N' B' X' T'; (try dsimp only); (try k_lift B'); (try k_fold)))
local macro_rules | `(tactic| walk_at "subscriptTail Name Name ref int") => `(tactic| ((with_reducible show wpAny _ _ (subscriptTail _ _ (Value.ref _) (Value.int _ _)) _ _ _); (with_unfolding_all refine' item_list_ints ?k1 ?k2 ?k3 ?k4 ?k5 ?_; (case k1 => is_list); (case k2 => l_ints); (case k3 => l_idx); (case k4 => l_idx); (case k5 => l_idx); k_whole); intro _))
local macro_rules | `(tactic| ktr_enter) => `(tactic| (refine' code_defC ?k1 ?k2 ?k3 ?k4 ?k5 ?kA ?kF ?kK ?k6 ?k7 ?k8 ?k9 ?kB ?kD ?_ ?c2 ?c3 ?c4; (case kA => exact rfl); (case kF => exact rfl); (case kK => assumption); (case k1 => k_asm); (case k2 => k_asm); (case k3 => k_asm); (case k4 => k_asm); (case k5 => k_asm); (case k6 => k_is); (case k7 => k_is); (case k8 => k_room); (case k9 => exact BindsTo.of_eq rfl); (case kB => exact rfl); (case kD => decide +kernel); (case c2 => exact rfl); (case c3 => exact rfl); (case c4 => exact rfl); k_whole; intro g' L' h' tk' cells' FG' F' N' Y' B' X' T' l1; (try k_lt l1); k_cells Y'; (try simp only [List.cons_append, List.nil_append] at N'); (try dsimp only); (try k_lift B'); (try k_fold)))
local macro_rules | `(tactic| k_all) => `(tactic| exact all_ne_of_lt (by assumption) (by omega))
local macro_rules | `(tactic| walk_at "CompEnd") => `(tactic| refine LCg.CompEnd.intro (by assumption) (by assumption) _ (fun _ h => h) (by assumption) (by first | exact True.intro | lcg_src) ?_)
local macro_rules | `(tactic| walk_at "InvEndN") => `(tactic| k_dflt kst_close)
local macro_rules | `(tactic| ktr_step) => `(tactic| repeat' ((fail_if_success (with_reducible show wpAny _ _ (pyIter _) _ _ _)); first | (k_unfold; (try dsimp only)) | (k_end; wrow_close) | walk1 | (dsimp only; walk1) | (leave1; walk_say "STEP leave1"; try dsimp only) | fail "no step"))
local macro_rules | `(tactic| walk_at "call ref") => `(tactic| ((with_reducible show wpAny _ _ (call (Value.ref 48) [Value.str _ _] _) _ _ _); k_dflt (refine' Sum1.use (quote_sum _ _ _ ?p0) ?k1 ?k2 ?k3 ?k4 ?k5 ?kK ?kd ?ku ?_; (case k1 => k_asm); (case k2 => k_asm); (case k3 => k_asm); (case k4 => k_asm); (case k5 => k_asm); (case p0 => first | assumption | decide +kernel); (case kK => first | exact rfl | assumption); (case kd => ktr_room); (case ku => ktr_units)); (intro t9 h9 tk9 F9 N9); (try dsimp only); (try k_fold)))
local macro_rules | `(tactic| walk_at "call ref") => `(tactic| ((with_reducible show wpAny _ _ (call (Value.ref 89) [Value.str _ _] _) _ _ _); k_dflt (refine' Sum1.use (esc_sum _ _ _ ?p0) ?k1 ?k2 ?k3 ?k4 ?k5 ?kK ?kd ?ku ?_; (case k1 => k_asm); (case k2 => k_asm); (case k3 => k_asm); (case k4 => k_asm); (case k5 => k_asm); (case p0 => first | assumption | decide +kernel); (case kK => first | exact rfl | assumption); (case kd => ktr_room); (case ku => ktr_units)); (intro t9 h9 tk9 F9 N9); (try dsimp only); (try k_fold)))
local macro_rules | `(tactic| walk_at "call ref") => `(tactic| ((with_reducible show wpAny _ _ (call (Value.ref 94) [Value.int _ _] _) _ _ _); k_dflt (refine' Sum1.use (end_sum _ _ _ ?p0 ?p1) ?k1 ?k2 ?k3 ?k4 ?k5 ?kK ?kd ?ku ?_; (case k1 => k_asm); (case k2 => k_asm); (case k3 => k_asm); (case k4 => k_asm); (case k5 => k_asm); (case p0 => omega); (case p1 => omega); (case kK => first | exact rfl | assumption); (case kd => ktr_room); (case ku => ktr_units)); (intro t9 h9 tk9 F9 N9); (try dsimp only); (try k_fold)))
local macro_rules | `(tactic| walk_at "call ref") => `(tactic| ((with_reducible show wpAny _ _ (call (Value.ref 101) [Value.ref _] _) _ _ _); k_dflt (refine' Sum1.use (mail_four _ _ _ _ [_, _, _, _] ?sl ?si ?s4 ?sb) ?k1 ?k2 ?k3 ?k4 ?k5 ?kK ?kd ?ku ?_; (case k1 => k_asm); (case k2 => k_asm); (case k3 => k_asm); (case k4 => k_asm); (case k5 => k_asm); (case sl => exact .head _); (case si => exact .cons _ _ (.cons _ _ (.cons _ _ (.cons _ _ .nil)))); (case s4 => rfl); (case sb => exact four_in (fmod4 _) (fmod4 _) (fmod4 _) (fmod4 _)); (case kK => first | exact rfl | assumption); (case kd => ktr_room); (case ku => ktr_units)); (intro t9 h9 tk9 F9 N9); (try dsimp only); (try k_fold)))
section
variable {prog : Program} {w : World} {A : Around} {E : Value → Shared → Prop} {s : Shared}
theorem join_mail {D : Addr} {ys : List Value} {z ns : List Int} {t : Tok} {Q : Value → Shared → Prop} (hl : s.heap.IsList D ys.toArray) (hc : CarriedAll ys (z.map fun k => PyData.str (endS k))) (hp : z.Perm ns) (ho : List.Pairwise (fun x y => y ≤ x) z)
    (h4 : ns.length = 4) (hb : ∀ x ∈ ns, 0 ≤ x ∧ x ≤ 3) (h : ∀ t' k, Q (.str (mailS ns) t') { s with toks := k }) : wpAny (model prog w) A (call (.builtin "str.join") [.str (Str.ofString "") t, .ref D]) Q E s := by
  have m := mail_same hp ho h4 hb
  refine join_list (ys := z.map endS) hl (CarriedAll.strsOf hc) m.2 fun t' k => ?_
  rw [m.1]
  exact h t' k
theorem ne_same {x : Str} {t u : Tok} {Q : Value → Shared → Prop} (h : Q (.bool false) s) : wpAny (model prog w) A (compareOp .NotEq (.str x t) (.str x u)) Q E s := by
  refine PyProof.Rows.ne_str ?_
  rw [show (x != x) = false from by simp]
  exact h
theorem count_mail {ns : List Int} {t u : Tok} {Q : Value → Shared → Prop} (h4 : ns.length = 4) (hb : ∀ x ∈ ns, 0 ≤ x ∧ x ≤ 3) (h : ∀ (n : Int) (t' : Tok) k, 0 ≤ n → n ≤ 24 → Q (.int n t') { s with toks := k }) :
    wpAny (model prog w) A (call (.builtin "str.count") [.str (mailS ns) t, .str (Str.ofString ";") u]) Q E s := SC.count (h _ _ _ (mail_semis h4 hb).1 (mail_semis h4 hb).2)
end
theorem age_in {z : List Int} {a b c d k : Int} (hp : z.Perm [a.fmod 4, b.fmod 4, c.fmod 4, d.fmod 4]) (hk : k ∈ z) : 0 ≤ k ∧ k ≤ 3 := four_in (fmod4 _) (fmod4 _) (fmod4 _) (fmod4 _) _ (hp.mem_iff.1 hk)

end
end Mine
namespace Mine
section
local macro_rules | `(tactic| is_list) => `(tactic| exact News.isList (by assumption) (by assumption))
local macro_rules | `(tactic| k_room) => `(tactic| ktr_room)
local macro_rules | `(tactic| ktr_enter) => `(tactic| (refine' code_def ?k1 ?k2 ?k3 ?k4 ?k5 ?kA ?kF ?kK ?k6 ?k7 ?k8 ?k9 ?kB ?_ ?c2 ?c3 ?c4 ?c5; (case kA => exact rfl); (case kF => exact rfl); (case kK => assumption); (case k1 => k_asm); (case k2 => k_asm); (case k3 => k_asm); (case k4 => k_asm); (case k5 => k_asm); (case k6 => k_is); (case k7 => k_is); (case k8 => ktr_room); (case k9 => (refine' kp_binds ?kx ?ke; (case kx => k_in); (case ke => exact fun _ => rfl))); (case c5 => decide); (case kB => exact locs rfl); (case c2 => exact rfl); (case c3 => exact rfl); (case c4 => exact rfl); k_whole; intro g' L' h' FG' F' N' B' X' T'; (try dsimp only); (try k_lift B'); (try k_fold)))
local macro_rules | `(tactic| walk_at "subscriptTail Name Name ref int") => `(tactic| ((with_reducible show wpAny _ _ (subscriptTail _ _ (Value.ref _) (Value.int _ _)) _ _ _); (with_unfolding_all refine' item_list_ints ?k1 ?k2 ?k3 ?k4 ?k5 ?_; (case k1 => is_list); (case k2 => l_ints); (case k3 => l_idx); (case k4 => l_idx); (case k5 => l_idx); k_whole); intro _))
local macro_rules | `(tactic| ktr_enter) => `(tactic| (refine' code_defC ?k1 ?k2 ?k3 ?k4 ?k5 ?kA ?kF ?kK ?k6 ?k7 ?k8 ?k9 ?kB ?kD ?_ ?c2 ?c3 ?c4; (case kA => exact rfl); (case kF => exact rfl); (case kK => assumption); (case k1 => k_asm); (case k2 => k_asm); (case k3 => k_asm); (case k4 => k_asm); (case k5 => k_asm); (case k6 => k_is); (case k7 => k_is); (case k8 => k_room); (case k9 => exact BindsTo.of_eq rfl); (case kB => exact rfl); (case kD => decide +kernel); (case c2 => exact rfl); (case c3 => exact rfl); (case c4 => exact rfl); k_whole; intro g' L' h' tk' cells' FG' F' N' Y' B' X' T' l1; (try k_lt l1); k_cells Y'; (try simp only [List.cons_append, List.nil_append] at N'); (try dsimp only); (try k_lift B'); (try k_fold)))
local macro_rules | `(tactic| k_all) => `(tactic| exact all_ne_of_lt (by assumption) (by omega))
local macro_rules | `(tactic| walk_at "CompEnd") => `(tactic| refine LCg.CompEnd.intro (by assumption) (by assumption) _ (fun _ h => h) (by assumption) (by first | exact True.intro | lcg_src) ?_)
local macro_rules | `(tactic| walk_at "InvEndN") => `(tactic| k_dflt kst_close)
local macro_rules | `(tactic| ktr_step) => `(tactic| repeat' ((fail_if_success (with_reducible show wpAny _ _ (pyIter _) _ _ _)); first | (k_unfold; (try dsimp only)) | (k_end; wrow_close) | walk1 | (dsimp only; walk1) | (leave1; walk_say "STEP leave1"; try dsimp only) | fail "no step"))
local macro_rules | `(tactic| walk_at "call ref") => `(tactic| ((with_reducible show wpAny _ _ (call (Value.ref 66) [Value.ref _, Value.int _ _] _) _ _ _); k_dflt (refine' Sum1.use (bisR_sum _ _ _ _ _ _ _ ?sl ?si ?sn) ?k1 ?k2 ?k3 ?k4 ?k5 ?kK ?kd ?ku ?_; (case k1 => k_asm); (case k2 => k_asm); (case k3 => k_asm); (case k4 => k_asm); (case k5 => k_asm); (case sl => first | assumption | k_mem); (case si => l_ints); (case sn => l_fit); (case kK => first | exact rfl | assumption); (case kd => ktr_room); (case ku => ktr_units)); (intro t9 h9 tk9 F9 N9); (try dsimp only); (try k_fold)))
local macro_rules | `(tactic| walk_at "call ref") => `(tactic| ((with_reducible show wpAny _ _ (call (Value.ref 66) [Value.ref _, Value.int _ _, Value.int 0 _, Value.none] _) _ _ _); k_dflt (refine' Sum1.use (bisR_sum4 _ _ _ _ _ _ _ _ ?sl ?si ?sn) ?k1 ?k2 ?k3 ?k4 ?k5 ?kK ?kd ?ku ?_; (case k1 => k_asm); (case k2 => k_asm); (case k3 => k_asm); (case k4 => k_asm); (case k5 => k_asm); (case sl => first | assumption | k_mem); (case si => l_ints); (case sn => l_fit); (case kK => first | exact rfl | assumption); (case kd => ktr_room); (case ku => ktr_units)); (intro t9 h9 tk9 F9 N9); (try dsimp only); (try k_fold)))
local macro_rules | `(tactic| walk_at "call ref") => `(tactic| ((with_reducible show wpAny _ _ (call (Value.ref 75) [Value.ref _, Value.int _ _] _) _ _ _); k_dflt (refine' Sum1.use (bisL_sum _ _ _ _ _ _ _ ?sl ?si ?sn) ?k1 ?k2 ?k3 ?k4 ?k5 ?kK ?kd ?ku ?_; (case k1 => k_asm); (case k2 => k_asm); (case k3 => k_asm); (case k4 => k_asm); (case k5 => k_asm); (case sl => first | assumption | k_mem); (case si => l_ints); (case sn => l_fit); (case kK => first | exact rfl | assumption); (case kd => ktr_room); (case ku => ktr_units)); (intro t9 h9 tk9 F9 N9); (try dsimp only); (try k_fold)))
local macro_rules | `(tactic| walk_at "call ref") => `(tactic| ((with_reducible show wpAny _ _ (call (Value.ref 113) [Value.ref _, Value.int _ _] _) _ _ _); k_dflt (refine' Sum1.use (found_sum _ _ _ _ _ _ _ ?sl ?si ?sn) ?k1 ?k2 ?k3 ?k4 ?k5 ?kK ?kd ?ku ?_; (case k1 => k_asm); (case k2 => k_asm); (case k3 => k_asm); (case k4 => k_asm); (case k5 => k_asm); (case sl => first | assumption | k_mem); (case si => l_ints); (case sn => l_fit); (case kK => first | exact rfl | assumption); (case kd => ktr_room); (case ku => ktr_units)); (intro t9 h9 tk9 F9 N9); (try dsimp only); (try k_fold)))
local macro_rules | `(tactic| walk_at "call ref") => `(tactic| ((with_reducible show wpAny _ _ (call (Value.ref 130) [Value.int _ _] _) _ _ _); k_dflt (refine' Sum1.use (four_sum _ _ _ ?p0 ?p1) ?k1 ?k2 ?k3 ?k4 ?k5 ?kK ?kd ?ku ?_; (case k1 => k_asm); (case k2 => k_asm); (case k3 => k_asm); (case k4 => k_asm); (case k5 => k_asm); (case p0 => assumption); (case p1 => assumption); (case kK => first | exact rfl | assumption); (case kd => ktr_room); (case ku => ktr_units)); (intro t9 h9 tk9 F9 N9); (try dsimp only); (try k_fold)))
local macro_rules | `(tactic| walk_at "call ref") => `(tactic| ((with_reducible show wpAny _ _ (call (Value.ref 118) [Value.int _ _] _) _ _ _); k_dflt (refine' Sum1.use (two_sum _ _ _ ?p0 ?p1) ?k1 ?k2 ?k3 ?k4 ?k5 ?kK ?kd ?ku ?_; (case k1 => k_asm); (case k2 => k_asm); (case k3 => k_asm); (case k4 => k_asm); (case k5 => k_asm); (case p0 => assumption); (case p1 => assumption); (case kK => first | exact rfl | assumption); (case kd => ktr_room); (case ku => ktr_units)); (intro t9 h9 tk9 F9 N9); (try dsimp only); (try k_fold)))
local macro_rules | `(tactic| walk_at "call ref") => `(tactic| ((with_reducible show wpAny _ _ (call (Value.ref 125) [Value.int _ _] _) _ _ _); k_dflt (refine' Sum1.use (three_sum _ _ _ ?p0 ?p1) ?k1 ?k2 ?k3 ?k4 ?k5 ?kK ?kd ?ku ?_; (case k1 => k_asm); (case k2 => k_asm); (case k3 => k_asm); (case k4 => k_asm); (case k5 => k_asm); (case p0 => assumption); (case p1 => assumption); (case kK => first | exact rfl | assumption); (case kd => ktr_room); (case ku => ktr_units)); (intro t9 h9 tk9 F9 N9); (try dsimp only); (try k_fold)))
section
variable {prog : Program} {w : World} {A : Around} {E : Value → Shared → Prop} {s : Shared} {env : Env} {h₀ : Heap} {x : Str} {body : List Stmt} {Q : Flow → Shared → Prop}
/-- a turn is over: the list at l bears the ints is', the frame is m₀ but for two names -/
def GrowEnd (h₀ : Heap) (L l : Addr) (rest : List (Addr × Obj)) (x y : Str) (m₀ : Str → Option Value) (is' : List Int) (s₁ s₂ : Shared) : Prop :=
  ∃ h' tk m' us n, s₂ = { s₁ with heap := h', toks := tk } ∧ Fr h₀ L h' m' ∧ News h₀ L h' ((l, W.listOf us.toArray n) :: rest) ∧ IntsAre us is' ∧ ∀ z, z ≠ x → z ≠ y → m' z = m₀ z
def GrowPost (h₀ : Heap) (L l : Addr) (rest : List (Addr × Obj)) (x y : Str) (m₀ : Str → Option Value) (is' : List Int) (s₁ : Shared) (f : Flow) (s₂ : Shared) : Prop :=
  match f with
  | .next => GrowEnd h₀ L l rest x y m₀ is' s₁ s₂
  | _ => False
theorem GrowEnd.intro {L l : Addr} {rest news : List (Addr × Obj)} {y : Str} {m₀ m' : Str → Option Value} {is' : List Int} {s₁ : Shared} {h' : Heap} {tk : Nat} {us : List Value} {n : Nat} (F : Fr h₀ L h' m') (N : News h₀ L h' news)
    (hs : ∀ p ∈ (l, W.listOf us.toArray n) :: rest, p ∈ news) (hi : IntsAre us is') (hm : ∀ z, z ≠ x → z ≠ y → m' z = m₀ z) : GrowEnd h₀ L l rest x y m₀ is' s₁ { s₁ with heap := h', toks := tk } :=
  ⟨h', tk, m', us, n, rfl, F, cb_drop N hs, hi, hm⟩
def GrowJ (l : Addr) (rest : List (Addr × Obj)) (x y : Str) (m₀ : Str → Option Value) (B : Nat) (b : Nat) (is₀ : List Int) (step : List Int → Int → List Int) (pre : List Int) (m : Str → Option Value) (nx : List (Addr × Obj)) : Prop :=
  ∃ us n, nx = (l, W.listOf us.toArray n) :: rest ∧ IntsAre us (pre.foldl step is₀) ∧ ∀ z, z ≠ x → z ≠ y → m z = m₀ z
theorem fold_len {step : List Int → Int → List Int} {b : Nat} (hb : ∀ p i, (step p i).length ≤ p.length + b) (pre : List Int) (is₀ : List Int) : (pre.foldl step is₀).length ≤ is₀.length + b * pre.length := by
  induction pre generalizing is₀ with
  | nil => simp
  | cons i r ih =>
    have h1 := ih (step is₀ i)
    have h2 := hb is₀ i
    have e : b * (r.length + 1) = b * r.length + b := Nat.mul_succ ..
    rw [List.foldl_cons, List.length_cons, e]
    omega
theorem grow_fr {L : Addr} {h : Heap} {y : Str} {m₀ m₁ : Str → Option Value} {v : Option Value} (hm : ∀ z, z ≠ x → z ≠ y → m₁ z = m₀ z) (F : Fr h₀ L h (fun z => if z = x then v else m₁ z)) :
    Fr h₀ L h (fun z => if z = x then v else if z = y then m₁ y else m₀ z) := by
  have e : (fun z => if z = x then v else if z = y then m₁ y else m₀ z) = fun z => if z = x then v else m₁ z := by
    funext z
    by_cases h1 : z = x
    · simp [h1]
    · by_cases h2 : z = y
      · subst h2; simp [h1]
      · simp [h1, h2, hm z h1 h2]
  rw [e]; exact F
theorem grow_loop {l D : Addr} {ys : List Value} {ns : List Int} {k : Nat} {rest : List (Addr × Obj)} {m₀ : Str → Option Value} {us₀ : List Value} {is₀ : List Int} {n₀ : Nat} (y : Str) (step : List Int → Int → List Int) (b B : Nat)
    (hb : ∀ p i, (step p i).length ≤ p.length + b) (hh : A.handled = none) (hD : (D, W.listOf ys.toArray k) ∈ rest) (hi : IntsAre ys ns) (F : Fr h₀ env.locals s.heap m₀) (N : News h₀ env.locals s.heap ((l, W.listOf us₀.toArray n₀) :: rest)) (hne : ∀ p ∈ rest, p.1 ≠ l)
    (hu : IntsAre us₀ is₀) (hB : is₀.length + b * ns.length ≤ B)
    (turn : ∀ us is n i t u h tk own, i ∈ ns → (∀ p ∈ rest ++ own, p.1 ≠ l) → IntsAre us is → is.length + b ≤ B → Fr h₀ env.locals h (fun z => if z = x then some (.int i t) else if z = y then u else m₀ z) → News h₀ env.locals h ((l, W.listOf us.toArray n) :: (rest ++ own)) →
      wpAny (model prog w) A (execs body env) (GrowPost h₀ env.locals l (rest ++ own) x y m₀ (step is i) { s with heap := h, toks := tk }) E { s with heap := h, toks := tk })
    (done : ∀ us n u v h tk, IntsAre us (ns.foldl step is₀) → (ns.foldl step is₀).length ≤ B → Fr h₀ env.locals h (fun z => if z = x then v else if z = y then u else m₀ z) → News h₀ env.locals h ((l, W.listOf us.toArray n) :: rest) → Q .next { s with heap := h, toks := tk }) :
    wpAny (model prog w) A (pyIter (.ref D)) (fun it s₂ => LoopAtV prog w A h₀ env x body Q E it s₂) E s := by
  refine iter_invNL (fun i m nx => GrowJ l rest x y m₀ B b is₀ step (ns.take i) m nx) hh (.tail _ hD) hi F N ⟨us₀, n₀, rfl, by simpa using hu, fun _ _ _ => rfl⟩ ?_ ?_
  · rintro i v t m₁ nx h tk own hn _ hoff _ ⟨us, n, rfl, hus, hm⟩ F₁ N₁
    have hs : ns.take (i + 1) = ns.take i ++ [v] := by simp [List.take_add_one, hn]
    have hlt : i < ns.length := (List.getElem?_eq_some_iff.1 hn).1
    have hlen := fold_len hb (ns.take i) is₀
    have htl : (ns.take i).length = i := by rw [List.length_take]; omega
    rw [htl] at hlen
    have e1 : b * (i + 1) = b * i + b := Nat.mul_succ ..
    have e2 : b * (i + 1) ≤ b * ns.length := Nat.mul_le_mul_left _ hlt
    have hall : ∀ p ∈ rest ++ own, p.1 ≠ l := fun p hp => by
      rcases List.mem_append.mp hp with hp | hp
      · exact hne p hp
      · exact hoff p hp l (.head _)
    refine wpAny_mono (turn us _ n v t (m₁ y) h tk own (List.mem_of_getElem? hn) hall hus (by omega) (grow_fr hm F₁) N₁) (fun f s₂ p => ?_) fun _ _ e => e
    cases f with
    | next =>
      obtain ⟨h', tk', m', us', n', rfl, F', N', hi', hm'⟩ := p
      refine ⟨h', tk', m', (l, W.listOf us'.toArray n') :: (rest ++ own), (l, W.listOf us'.toArray n') :: rest, rfl, F', N', fun p hp => ?_, fun p hp => .tail _ (List.mem_append.mpr (.inr hp)), rfl, .tail _ hD, us', n', rfl, ?_, hm'⟩
      · rcases List.mem_cons.mp hp with rfl | hp
        · exact .head _
        · exact .tail _ (List.mem_append.mpr (.inl hp))
      · rw [hs, List.foldl_append]
        exact hi'
    | brk => exact p.elim
    | cont => exact p.elim
    | ret v => exact p.elim
  · rintro m₁ nx h tk _ ⟨us, n, rfl, hus, hm⟩ F₁ N₁
    rw [List.take_length] at hus
    have hlen := fold_len hb ns is₀
    refine done us n (m₁ y) (m₁ x) h tk hus (by omega) ?_ N₁
    have e : (fun z => if z = x then m₁ x else if z = y then m₁ y else m₀ z) = m₁ := by
      funext z
      by_cases h1 : z = x
      · simp [h1]
      · by_cases h2 : z = y
        · subst h2; simp [h1]
        · simp [h1, h2, hm z h1 h2]
    rw [e]; exact F₁
end
theorem insR_len (p : List Int) (i : Int) : (insR p i).length ≤ p.length + 1 := Nat.le_of_eq (insR_length p i)
theorem pairsIn_len (n : Int) (p : List Int) (i : Int) : (pairsIn n p i).length ≤ p.length + 7 := by
  unfold pairsIn
  have h := fold_len (step := fun p o => insR p (i + o)) (b := 1) (fun p o => insR_len p (i + o)) (marksN.take (bisR marksN (n - i)).toNat) p
  have h7 : (marksN.take (bisR marksN (n - i)).toNat).length ≤ 7 := by rw [List.length_take]; exact Nat.min_le_right _ _
  omega
section
variable {prog : Program} {w : World} {A : Around} {E : Value → Shared → Prop} {s : Shared} {env : Env} {h₀ : Heap} {x : Str} {body : List Stmt} {Q : Flow → Shared → Prop}
theorem outer_loop {n : Int} {l D : Addr} {ys : List Value} {k : Nat} {rest : List (Addr × Obj)} {m₀ : Str → Option Value} {n₀ : Nat} (_hn : n ≤ 24)
    (hh : A.handled = none) (hD : (D, W.listOf ys.toArray k) ∈ rest) (hi : IntsAre ys [0, 1, 3, 6, 10, 15, 21]) (F : Fr h₀ env.locals s.heap m₀) (N : News h₀ env.locals s.heap ((l, W.listOf ([] : List Value).toArray n₀) :: rest)) (hne : ∀ p ∈ rest, p.1 ≠ l)
    (turn : ∀ us is c i t u h tk own, (∀ p ∈ rest ++ own, p.1 ≠ l) → IntsAre us is → is.length + 7 ≤ 49 → Fr h₀ env.locals h (fun z => if z = x then some (.int i t) else if z = Str.ofString "other" then u else m₀ z) → News h₀ env.locals h ((l, W.listOf us.toArray c) :: (rest ++ own)) →
      wpAny (model prog w) A (execs body env) (GrowPost h₀ env.locals l (rest ++ own) x (Str.ofString "other") m₀ (pairsIn n is i) { s with heap := h, toks := tk }) E { s with heap := h, toks := tk })
    (done : ∀ us c u v h tk, IntsAre us (pairsF n) → (pairsF n).length ≤ 49 → Fr h₀ env.locals h (fun z => if z = x then v else if z = Str.ofString "other" then u else m₀ z) → News h₀ env.locals h ((l, W.listOf us.toArray c) :: rest) → Q .next { s with heap := h, toks := tk }) :
    wpAny (model prog w) A (pyIter (.ref D)) (fun it s₂ => LoopAtV prog w A h₀ env x body Q E it s₂) E s :=
  grow_loop (us₀ := []) (Str.ofString "other") (pairsIn n) 7 49 (pairsIn_len n) hh hD hi F N hne .nil (by decide) (fun us is c i t u h tk own _ hall hus hlen F N => turn us is c i t u h tk own hall hus hlen F N) done
end

end
end Mine
namespace Mine
section
local macro_rules | `(tactic| is_list) => `(tactic| exact News.isList (by assumption) (by assumption))
local macro_rules | `(tactic| k_room) => `(tactic| ktr_room)
local macro_rules | `(tactic| ktr_enter) => `(tactic| (refine' code_def ?k1 ?k2 ?k3 ?k4 ?k5 ?kA ?kF ?kK ?k6 ?k7 ?k8 ?k9 ?kB ?_ ?c2 ?c3 ?c4 ?c5; (case kA => exact rfl); (case kF => exact rfl); (case kK => assumption); (case k1 => k_asm); (case k2 => k_asm); (case k3 => k_asm); (case k4 => k_asm); (case k5 => k_asm); (case k6 => k_is); (case k7 => k_is); (case k8 => ktr_room); (case k9 => (refine' kp_binds ?kx ?ke; (case kx => k_in); (case ke => exact fun _ => rfl))); (case c5 => decide); (case kB => exact locs rfl); (case c2 => exact rfl); (case c3 => exact rfl); (case c4 => exact rfl); k_whole; intro g' L' h' FG' F' N' B' X' T'; (try dsimp only); (try k_lift B'); (try k_fold)))
local macro_rules | `(tactic| walk_at "subscriptTail Name Name ref int") => `(tactic| ((with_reducible show wpAny _ _ (subscriptTail _ _ (Value.ref _) (Value.int _ _)) _ _ _); (with_unfolding_all refine' item_list_ints ?k1 ?k2 ?k3 ?k4 ?k5 ?_; (case k1 => is_list); (case k2 => l_ints); (case k3 => l_idx); (case k4 => l_idx); (case k5 => l_idx); k_whole); intro _))
local macro_rules | `(tactic| ktr_enter) => `(tactic| (refine' code_defC ?k1 ?k2 ?k3 ?k4 ?k5 ?kA ?kF ?kK ?k6 ?k7 ?k8 ?k9 ?kB ?kD ?_ ?c2 ?c3 ?c4; (case kA => exact rfl); (case kF => exact rfl); (case kK => assumption); (case k1 => k_asm); (case k2 => k_asm); (case k3 => k_asm); (case k4 => k_asm); (case k5 => k_asm); (case k6 => k_is); (case k7 => k_is); (case k8 => k_room); (case k9 => exact BindsTo.of_eq rfl); (case kB => exact rfl); (case kD => decide +kernel); (case c2 => exact rfl); (case c3 => exact rfl); (case c4 => exact rfl); k_whole; intro g' L' h' tk' cells' FG' F' N' Y' B' X' T' l1; (try k_lt l1); k_cells Y'; (try simp only [List.cons_append, List.nil_append] at N'); (try dsimp only); (try k_lift B'); (try k_fold)))
local macro_rules | `(tactic| k_all) => `(tactic| exact all_ne_of_lt (by assumption) (by omega))
local macro_rules | `(tactic| walk_at "CompEnd") => `(tactic| refine LCg.CompEnd.intro (by assumption) (by assumption) _ (fun _ h => h) (by assumption) (by first | exact True.intro | lcg_src) ?_)
local macro_rules | `(tactic| walk_at "InvEndN") => `(tactic| k_dflt kst_close)
local macro_rules | `(tactic| ktr_step) => `(tactic| repeat' ((fail_if_success (with_reducible show wpAny _ _ (pyIter _) _ _ _)); first | (k_unfold; (try dsimp only)) | (k_end; wrow_close) | walk1 | (dsimp only; walk1) | (leave1; walk_say "STEP leave1"; try dsimp only) | fail "no step"))
local macro_rules | `(tactic| walk_at "call ref") => `(tactic| ((with_reducible show wpAny _ _ (call (Value.ref 66) [Value.ref _, Value.int _ _] _) _ _ _); k_dflt (refine' Sum1.use (bisR_sum _ _ _ _ _ _ _ ?sl ?si ?sn) ?k1 ?k2 ?k3 ?k4 ?k5 ?kK ?kd ?ku ?_; (case k1 => k_asm); (case k2 => k_asm); (case k3 => k_asm); (case k4 => k_asm); (case k5 => k_asm); (case sl => first | assumption | k_mem); (case si => l_ints); (case sn => l_fit); (case kK => first | exact rfl | assumption); (case kd => ktr_room); (case ku => ktr_units)); (intro t9 h9 tk9 F9 N9); (try dsimp only); (try k_fold)))
local macro_rules | `(tactic| walk_at "call ref") => `(tactic| ((with_reducible show wpAny _ _ (call (Value.ref 66) [Value.ref _, Value.int _ _, Value.int 0 _, Value.none] _) _ _ _); k_dflt (refine' Sum1.use (bisR_sum4 _ _ _ _ _ _ _ _ ?sl ?si ?sn) ?k1 ?k2 ?k3 ?k4 ?k5 ?kK ?kd ?ku ?_; (case k1 => k_asm); (case k2 => k_asm); (case k3 => k_asm); (case k4 => k_asm); (case k5 => k_asm); (case sl => first | assumption | k_mem); (case si => l_ints); (case sn => l_fit); (case kK => first | exact rfl | assumption); (case kd => ktr_room); (case ku => ktr_units)); (intro t9 h9 tk9 F9 N9); (try dsimp only); (try k_fold)))
local macro_rules | `(tactic| walk_at "call ref") => `(tactic| ((with_reducible show wpAny _ _ (call (Value.ref 75) [Value.ref _, Value.int _ _] _) _ _ _); k_dflt (refine' Sum1.use (bisL_sum _ _ _ _ _ _ _ ?sl ?si ?sn) ?k1 ?k2 ?k3 ?k4 ?k5 ?kK ?kd ?ku ?_; (case k1 => k_asm); (case k2 => k_asm); (case k3 => k_asm); (case k4 => k_asm); (case k5 => k_asm); (case sl => first | assumption | k_mem); (case si => l_ints); (case sn => l_fit); (case kK => first | exact rfl | assumption); (case kd => ktr_room); (case ku => ktr_units)); (intro t9 h9 tk9 F9 N9); (try dsimp only); (try k_fold)))
local macro_rules | `(tactic| walk_at "call ref") => `(tactic| ((with_reducible show wpAny _ _ (call (Value.ref 113) [Value.ref _, Value.int _ _] _) _ _ _); k_dflt (refine' Sum1.use (found_sum _ _ _ _ _ _ _ ?sl ?si ?sn) ?k1 ?k2 ?k3 ?k4 ?k5 ?kK ?kd ?ku ?_; (case k1 => k_asm); (case k2 => k_asm); (case k3 => k_asm); (case k4 => k_asm); (case k5 => k_asm); (case sl => first | assumption | k_mem); (case si => l_ints); (case sn => l_fit); (case kK => first | exact rfl | assumption); (case kd => ktr_room); (case ku => ktr_units)); (intro t9 h9 tk9 F9 N9); (try dsimp only); (try k_fold)))
local macro_rules | `(tactic| walk_at "call ref") => `(tactic| ((with_reducible show wpAny _ _ (call (Value.ref 130) [Value.int _ _] _) _ _ _); k_dflt (refine' Sum1.use (four_sum _ _ _ ?p0 ?p1) ?k1 ?k2 ?k3 ?k4 ?k5 ?kK ?kd ?ku ?_; (case k1 => k_asm); (case k2 => k_asm); (case k3 => k_asm); (case k4 => k_asm); (case k5 => k_asm); (case p0 => assumption); (case p1 => assumption); (case kK => first | exact rfl | assumption); (case kd => ktr_room); (case ku => ktr_units)); (intro t9 h9 tk9 F9 N9); (try dsimp only); (try k_fold)))
local macro_rules | `(tactic| walk_at "call ref") => `(tactic| ((with_reducible show wpAny _ _ (call (Value.ref 118) [Value.int _ _] _) _ _ _); k_dflt (refine' Sum1.use (two_sum _ _ _ ?p0 ?p1) ?k1 ?k2 ?k3 ?k4 ?k5 ?kK ?kd ?ku ?_; (case k1 => k_asm); (case k2 => k_asm); (case k3 => k_asm); (case k4 => k_asm); (case k5 => k_asm); (case p0 => assumption); (case p1 => assumption); (case kK => first | exact rfl | assumption); (case kd => ktr_room); (case ku => ktr_units)); (intro t9 h9 tk9 F9 N9); (try dsimp only); (try k_fold)))
local macro_rules | `(tactic| walk_at "call ref") => `(tactic| ((with_reducible show wpAny _ _ (call (Value.ref 125) [Value.int _ _] _) _ _ _); k_dflt (refine' Sum1.use (three_sum _ _ _ ?p0 ?p1) ?k1 ?k2 ?k3 ?k4 ?k5 ?kK ?kd ?ku ?_; (case k1 => k_asm); (case k2 => k_asm); (case k3 => k_asm); (case k4 => k_asm); (case k5 => k_asm); (case p0 => assumption); (case p1 => assumption); (case kK => first | exact rfl | assumption); (case kd => ktr_room); (case ku => ktr_units)); (intro t9 h9 tk9 F9 N9); (try dsimp only); (try k_fold)))
local macro_rules | `(tactic| walk_at "exec For Name Name cons nil") => `(tactic| (k_here; (with_reducible show wpAny _ _ (exec (Stmt.For (Expr.Name (Str.ofString "one") _) _ _ _ _) _) _ _ _); (rename Fr _ _ _ _ => lF'); (with_unfolding_all refine' For_invVF lF' ?k1 ?k2 ?_; (case k1 => exact rfl); (case k2 => exact rfl); k_whole)))
local macro_rules | `(tactic| walk_at "pyIter ref") => `(tactic| (k_here; (with_reducible show wpAny _ _ (pyIter (Value.ref _)) (fun _ _ => LoopAtV _ _ _ _ _ (Str.ofString "one") _ _ _ _ _) _ _); (with_reducible rename @LE.le Int _ _ 24 => hN9); k_dflt (refine' outer_loop hN9 ?hh ?hD ?hi ?F ?N ?hne (fun us9 is9 c9 i9 t9 u9 h9 tk9 own9 hall9 hus9 hlen9 F9 N9 => ?_) (fun us9 c9 u9 v9 h9 tk9 hus9 hlen9 F9 N9 => ?_); (case hh => rfl); (case F => k_asm); (case N => k_asm); (case hD => k_mem); (case hi => assumption); (case hne => first | k_all | fail "no order")); (all_goals (try simp only [List.cons_append, List.nil_append] at hall9 N9 ⊢)); (all_goals (try k_fold))))
section
variable {prog : Program} {w : World} {A : Around} {E : Value → Shared → Prop} {s : Shared} {env : Env} {h₀ : Heap} {x : Str} {body : List Stmt} {Q : Flow → Shared → Prop}
theorem all_swap {α : Type} {P : α → Prop} {a b : α} {r : List α} (h : ∀ p ∈ a :: b :: r, P p) : ∀ p ∈ b :: a :: r, P p := fun p hp => by
  rcases List.mem_cons.mp hp with rfl | hp
  · exact h _ (.tail _ (.head _))
  · rcases List.mem_cons.mp hp with rfl | hp
    · exact h _ (.head _)
    · exact h _ (.tail _ (.tail _ hp))
theorem mem_skip {α : Type} {a b : α} {r : List α} : ∀ p ∈ a :: r, p ∈ a :: b :: r := fun p hp => by
  rcases List.mem_cons.mp hp with rfl | hp
  · exact .head _
  · exact .tail _ (.tail _ hp)
theorem if_twice {z x : Str} {u v w : Option Value} : (if z = x then v else if z = x then u else w) = if z = x then v else w := by
  by_cases h : z = x
  · simp [h]
  · simp [h]
theorem inner_loop {n r one : Int} {l D : Addr} {ws us₀ : List Value} {is₀ : List Int} {k n₀ : Nat} {rest : List (Addr × Obj)} {m₀ : Str → Option Value} (hr : r = bisR [0, 1, 3, 6, 10, 15, 21] (n - one))
    (hh : A.handled = none) (hi : IntsAre ws (List.take r.toNat [0, 1, 3, 6, 10, 15, 21])) (F : Fr h₀ env.locals s.heap m₀) (N : News h₀ env.locals s.heap ((D, W.listOf ws.toArray k) :: (l, W.listOf us₀.toArray n₀) :: rest)) (hDl : @Ne Nat D l) (hne : ∀ p ∈ rest, p.1 ≠ l)
    (hu : IntsAre us₀ is₀) (hlen : is₀.length + 7 ≤ 49)
    (turn : ∀ us is c i t h tk own, (∀ p ∈ (D, W.listOf ws.toArray k) :: (rest ++ own), p.1 ≠ l) → IntsAre us is → is.length + 1 ≤ 49 → Fr h₀ env.locals h (fun z => if z = x then some (.int i t) else m₀ z) → News h₀ env.locals h ((l, W.listOf us.toArray c) :: (D, W.listOf ws.toArray k) :: (rest ++ own)) →
      wpAny (model prog w) A (execs body env) (GrowPost h₀ env.locals l ((D, W.listOf ws.toArray k) :: (rest ++ own)) x x m₀ (insR is (one + i)) { s with heap := h, toks := tk }) E { s with heap := h, toks := tk })
    (done : ∀ us c u h tk, IntsAre us (pairsIn n is₀ one) → Fr h₀ env.locals h (fun z => if z = x then u else m₀ z) → News h₀ env.locals h ((l, W.listOf us.toArray c) :: (D, W.listOf ws.toArray k) :: rest) → Q .next { s with heap := h, toks := tk }) :
    wpAny (model prog w) A (pyIter (.ref D)) (fun it s₂ => LoopAtV prog w A h₀ env x body Q E it s₂) E s := by
  subst hr
  have h7 : (List.take (bisR [0, 1, 3, 6, 10, 15, 21] (n - one)).toNat ([0, 1, 3, 6, 10, 15, 21] : List Int)).length ≤ 7 := by rw [List.length_take]; exact Nat.min_le_right _ _
  refine grow_loop x (fun p o => insR p (one + o)) 1 49 (fun p i => insR_len p (one + i)) hh (.head _) hi F (all_swap N) (fun p hp => ?_) hu (by omega) (fun us is c i t u h tk own _ hall hus hl F N => ?_) (fun us c u v h tk hus _ F N => ?_)
  · rcases List.mem_cons.mp hp with rfl | hp
    · exact hDl
    · exact hne p hp
  · simp only [if_twice] at F
    exact turn us is c i t h tk own hall hus hl F N
  · simp only [if_twice] at F
    exact done us c v h tk hus F N
end
theorem bis_use {w : World} {mean : ExcName → Option Value} {mg mb : Str → Option Value} {news : List (Addr × Obj)} {l : Addr} {n : Nat} {vs : List Value} {ns : List Int} {x : Int} {tx : Tok}
    {dp un : Nat} {gd : Option (List Code)} {cn : Str} {cs : Scope} {a : Addr} {ccd : Value} {cl : List (Str × Addr)} {outer : List Env} {A₀ : Around} {base h₀ : Heap} {L : Addr} {m : Str → Option Value} {s : Shared} {Q E : Value → Shared → Prop}
    (hl : (l, W.listOf vs.toArray n) ∈ news) (hi : IntsAre vs ns) (hlen : ns.length < 2 ^ 20) (B : Below A₀ base outer h₀) (F : Fr h₀ L s.heap m) (X : (Mine.hd.heap_39 w.params).In h₀) (N : News h₀ L s.heap news)
    (T : Top Mine.hd.view_39 LO mean mg mb h₀) (hk : cs.kind = .function) (hd : dp + 1 < recursionLimit) (hu : un + 8 * 1 < cLine)
    (ret : ∀ (r : Int) (t : Tok) (h' : Heap) (tk' : Nat), r = bisR ns x → 0 ≤ r → r ≤ (ns.length : Int) → Fr h₀ L h' m → News h₀ L h' news → Q (.int r t) { s with heap := h', toks := tk' }) :
    wpAny (model PySem.Challenge.rw_wn0053_01.row.prog w) (ktrTop dp un gd cn cs L a ccd cl outer) (call (.ref 66) [.ref l, .int x tx]) Q E s :=
  Sum1.use (bisR_sum news l n vs ns x tx hl hi hlen) B F X N T hk hd hu fun t h' tk' F' N' => ret _ t h' tk' rfl (bisR_bounds ns x).1 (bisR_bounds ns x).2 F' N'
theorem slice_marks {prog : Program} {w : World} {A : Around} {E : Value → Shared → Prop} {s : Shared} {h₀ : Heap} {L l : Addr} {m : Str → Option Value} {news : List (Addr × Obj)} {value slice : PySem.Expr} {vs : List Value} {k : Nat} {y : Int} {ty : Tok} {Q : Value → Shared → Prop}
    (h0 : 0 ≤ y) (F : Fr h₀ L s.heap m) (N : News h₀ L s.heap news) (hm : (l, W.listOf vs.toArray k) ∈ news) (hi : IntsAre vs [0, 1, 3, 6, 10, 15, 21])
    (h : ∀ D ws h', Fr h₀ L h' m → News h₀ L h' ((D, W.listOf (List.toArray ws) 0) :: news) → (∀ p ∈ news, p.1 < D) → IntsAre ws (List.take y.toNat [0, 1, 3, 6, 10, 15, 21]) → Q (.ref D) { s with heap := h' })
    (hs : subscripted slice false (.ref l) (.ref s.heap.objs.size) = operate [.ref s.heap.objs.size, .ref l] (getItem (.ref l) (.ref s.heap.objs.size))) (ht : ∀ r, letTemporaryGo value (.ref l) r = pure ()) :
    wpAny (model prog w) A (subscriptTail value slice (.ref l) (.ref s.heap.objs.size)) Q E { s with heap := s.heap.push { cls := .type "slice", data := .fields #[.none, .int y ty, .none] } } :=
  kmk_slice_ints (lo := none) (hi := some y) F N (News.isList N hm) .none (.int _ _) hi (kmk_upto hi h0) rfl (fun D ws h' F' N' hlt hI _ _ => h D ws h' F' N' hlt hI) hs ht
    (kmk_sz hi (by rw [sizeLine_eq]; exact Nat.le_of_ble_eq_true rfl))

end
end Mine
namespace Mine
section
local macro_rules | `(tactic| is_list) => `(tactic| exact News.isList (by assumption) (by assumption))
local macro_rules | `(tactic| k_room) => `(tactic| ktr_room)
local macro_rules | `(tactic| ktr_enter) => `(tactic| (refine' code_def ?k1 ?k2 ?k3 ?k4 ?k5 ?kA ?kF ?kK ?k6 ?k7 ?k8 ?k9 ?kB ?_ ?c2 ?c3 ?c4 ?c5; (case kA => exact rfl); (case kF => exact rfl); (case kK => assumption); (case k1 => k_asm); (case k2 => k_asm); (case k3 => k_asm); (case k4 => k_asm); (case k5 => k_asm); (case k6 => k_is); (case k7 => k_is); (case k8 => ktr_room); (case k9 => (refine' kp_binds ?kx ?ke; (case kx => k_in); (case ke => exact fun _ => rfl))); (case c5 => decide); (case kB => exact locs rfl); (case c2 => exact rfl); (case c3 => exact rfl); (case c4 => exact rfl); k_whole; intro g' L' h' FG' F' N' B' X' T'; (try dsimp only); (try k_lift B'); (try k_fold)))
local macro_rules | `(tactic| walk_at "subscriptTail Name Name ref int") => `(tactic| ((with_reducible show wpAny _ _ (subscriptTail _ _ (Value.ref _) (Value.int _ _)) _ _ _); (with_unfolding_all refine' item_list_ints ?k1 ?k2 ?k3 ?k4 ?k5 ?_; (case k1 => is_list); (case k2 => l_ints); (case k3 => l_idx); (case k4 => l_idx); (case k5 => l_idx); k_whole); intro _))
local macro_rules | `(tactic| ktr_enter) => `(tactic| (refine' code_defC ?k1 ?k2 ?k3 ?k4 ?k5 ?kA ?kF ?kK ?k6 ?k7 ?k8 ?k9 ?kB ?kD ?_ ?c2 ?c3 ?c4; (case kA => exact rfl); (case kF => exact rfl); (case kK => assumption); (case k1 => k_asm); (case k2 => k_asm); (case k3 => k_asm); (case k4 => k_asm); (case k5 => k_asm); (case k6 => k_is); (case k7 => k_is); (case k8 => k_room); (case k9 => exact BindsTo.of_eq rfl); (case kB => exact rfl); (case kD => decide +kernel); (case c2 => exact rfl); (case c3 => exact rfl); (case c4 => exact rfl); k_whole; intro g' L' h' tk' cells' FG' F' N' Y' B' X' T' l1; (try k_lt l1); k_cells Y'; (try simp only [List.cons_append, List.nil_append] at N'); (try dsimp only); (try k_lift B'); (try k_fold)))
local macro_rules | `(tactic| k_all) => `(tactic| exact all_ne_of_lt (by assumption) (by omega))
local macro_rules | `(tactic| walk_at "CompEnd") => `(tactic| refine LCg.CompEnd.intro (by assumption) (by assumption) _ (fun _ h => h) (by assumption) (by first | exact True.intro | lcg_src) ?_)
local macro_rules | `(tactic| walk_at "InvEndN") => `(tactic| k_dflt kst_close)
local macro_rules | `(tactic| ktr_step) => `(tactic| repeat' ((fail_if_success (with_reducible show wpAny _ _ (pyIter _) _ _ _)); first | (k_unfold; (try dsimp only)) | (k_end; wrow_close) | walk1 | (dsimp only; walk1) | (leave1; walk_say "STEP leave1"; try dsimp only) | fail "no step"))
local macro_rules | `(tactic| walk_at "call ref") => `(tactic| ((with_reducible show wpAny _ _ (call (Value.ref 66) [Value.ref _, Value.int _ _] _) _ _ _); k_dflt (refine' Sum1.use (bisR_sum _ _ _ _ _ _ _ ?sl ?si ?sn) ?k1 ?k2 ?k3 ?k4 ?k5 ?kK ?kd ?ku ?_; (case k1 => k_asm); (case k2 => k_asm); (case k3 => k_asm); (case k4 => k_asm); (case k5 => k_asm); (case sl => first | assumption | k_mem); (case si => l_ints); (case sn => l_fit); (case kK => first | exact rfl | assumption); (case kd => ktr_room); (case ku => ktr_units)); (intro t9 h9 tk9 F9 N9); (try dsimp only); (try k_fold)))
local macro_rules | `(tactic| walk_at "call ref") => `(tactic| ((with_reducible show wpAny _ _ (call (Value.ref 66) [Value.ref _, Value.int _ _, Value.int 0 _, Value.none] _) _ _ _); k_dflt (refine' Sum1.use (bisR_sum4 _ _ _ _ _ _ _ _ ?sl ?si ?sn) ?k1 ?k2 ?k3 ?k4 ?k5 ?kK ?kd ?ku ?_; (case k1 => k_asm); (case k2 => k_asm); (case k3 => k_asm); (case k4 => k_asm); (case k5 => k_asm); (case sl => first | assumption | k_mem); (case si => l_ints); (case sn => l_fit); (case kK => first | exact rfl | assumption); (case kd => ktr_room); (case ku => ktr_units)); (intro t9 h9 tk9 F9 N9); (try dsimp only); (try k_fold)))
local macro_rules | `(tactic| walk_at "call ref") => `(tactic| ((with_reducible show wpAny _ _ (call (Value.ref 75) [Value.ref _, Value.int _ _] _) _ _ _); k_dflt (refine' Sum1.use (bisL_sum _ _ _ _ _ _ _ ?sl ?si ?sn) ?k1 ?k2 ?k3 ?k4 ?k5 ?kK ?kd ?ku ?_; (case k1 => k_asm); (case k2 => k_asm); (case k3 => k_asm); (case k4 => k_asm); (case k5 => k_asm); (case sl => first | assumption | k_mem); (case si => l_ints); (case sn => l_fit); (case kK => first | exact rfl | assumption); (case kd => ktr_room); (case ku => ktr_units)); (intro t9 h9 tk9 F9 N9); (try dsimp only); (try k_fold)))
local macro_rules | `(tactic| walk_at "call ref") => `(tactic| ((with_reducible show wpAny _ _ (call (Value.ref 113) [Value.ref _, Value.int _ _] _) _ _ _); k_dflt (refine' Sum1.use (found_sum _ _ _ _ _ _ _ ?sl ?si ?sn) ?k1 ?k2 ?k3 ?k4 ?k5 ?kK ?kd ?ku ?_; (case k1 => k_asm); (case k2 => k_asm); (case k3 => k_asm); (case k4 => k_asm); (case k5 => k_asm); (case sl => first | assumption | k_mem); (case si => l_ints); (case sn => l_fit); (case kK => first | exact rfl | assumption); (case kd => ktr_room); (case ku => ktr_units)); (intro t9 h9 tk9 F9 N9); (try dsimp only); (try k_fold)))
local macro_rules | `(tactic| walk_at "call ref") => `(tactic| ((with_reducible show wpAny _ _ (call (Value.ref 130) [Value.int _ _] _) _ _ _); k_dflt (refine' Sum1.use (four_sum _ _ _ ?p0 ?p1) ?k1 ?k2 ?k3 ?k4 ?k5 ?kK ?kd ?ku ?_; (case k1 => k_asm); (case k2 => k_asm); (case k3 => k_asm); (case k4 => k_asm); (case k5 => k_asm); (case p0 => assumption); (case p1 => assumption); (case kK => first | exact rfl | assumption); (case kd => ktr_room); (case ku => ktr_units)); (intro t9 h9 tk9 F9 N9); (try dsimp only); (try k_fold)))
local macro_rules | `(tactic| walk_at "call ref") => `(tactic| ((with_reducible show wpAny _ _ (call (Value.ref 118) [Value.int _ _] _) _ _ _); k_dflt (refine' Sum1.use (two_sum _ _ _ ?p0 ?p1) ?k1 ?k2 ?k3 ?k4 ?k5 ?kK ?kd ?ku ?_; (case k1 => k_asm); (case k2 => k_asm); (case k3 => k_asm); (case k4 => k_asm); (case k5 => k_asm); (case p0 => assumption); (case p1 => assumption); (case kK => first | exact rfl | assumption); (case kd => ktr_room); (case ku => ktr_units)); (intro t9 h9 tk9 F9 N9); (try dsimp only); (try k_fold)))
local macro_rules | `(tactic| walk_at "call ref") => `(tactic| ((with_reducible show wpAny _ _ (call (Value.ref 125) [Value.int _ _] _) _ _ _); k_dflt (refine' Sum1.use (three_sum _ _ _ ?p0 ?p1) ?k1 ?k2 ?k3 ?k4 ?k5 ?kK ?kd ?ku ?_; (case k1 => k_asm); (case k2 => k_asm); (case k3 => k_asm); (case k4 => k_asm); (case k5 => k_asm); (case p0 => assumption); (case p1 => assumption); (case kK => first | exact rfl | assumption); (case kd => ktr_room); (case ku => ktr_units)); (intro t9 h9 tk9 F9 N9); (try dsimp only); (try k_fold)))
theorem end_eq {n : Int} (h0 : 0 ≤ n) (h24 : n ≤ 24) : [foundF (pairsF n) n, (List.map (fun k' => foundF (pairsF n) (n - k')) [0, 1, 3, 6, 10, 15, 21]).sum, (List.map (fun k' => foundF (pairsF n) (n - k')) (pairsF n)).sum] = [twoF n, threeF n, fourF n] := by
  have h := nums_ok h0 h24
  have e2 : (List.map (fun k' => foundF (pairsF n) (n - k')) [0, 1, 3, 6, 10, 15, 21]).sum = threeF n := h.2.1
  rw [h.1, e2, h.2.2]

end
end Mine
namespace Mine
section
local macro_rules | `(tactic| is_list) => `(tactic| exact News.isList (by assumption) (by assumption))
local macro_rules | `(tactic| k_room) => `(tactic| ktr_room)
local macro_rules | `(tactic| ktr_enter) => `(tactic| (refine' code_def ?k1 ?k2 ?k3 ?k4 ?k5 ?kA ?kF ?kK ?k6 ?k7 ?k8 ?k9 ?kB ?_ ?c2 ?c3 ?c4 ?c5; (case kA => exact rfl); (case kF => exact rfl); (case kK => assumption); (case k1 => k_asm); (case k2 => k_asm); (case k3 => k_asm); (case k4 => k_asm); (case k5 => k_asm); (case k6 => k_is); (case k7 => k_is); (case k8 => ktr_room); (case k9 => (refine' kp_binds ?kx ?ke; (case kx => k_in); (case ke => exact fun _ => rfl))); (case c5 => decide); (case kB => exact locs rfl); (case c2 => exact rfl); (case c3 => exact rfl); (case c4 => exact rfl); k_whole; intro g' L' h' FG' F' N' B' X' T'; (try dsimp only); (try k_lift B'); (try k_fold)))
local macro_rules | `(tactic| walk_at "subscriptTail Name Name ref int") => `(tactic| ((with_reducible show wpAny _ _ (subscriptTail _ _ (Value.ref _) (Value.int _ _)) _ _ _); (with_unfolding_all refine' item_list_ints ?k1 ?k2 ?k3 ?k4 ?k5 ?_; (case k1 => is_list); (case k2 => l_ints); (case k3 => l_idx); (case k4 => l_idx); (case k5 => l_idx); k_whole); intro _))
local macro_rules | `(tactic| ktr_enter) => `(tactic| (refine' code_defC ?k1 ?k2 ?k3 ?k4 ?k5 ?kA ?kF ?kK ?k6 ?k7 ?k8 ?k9 ?kB ?kD ?_ ?c2 ?c3 ?c4; (case kA => exact rfl); (case kF => exact rfl); (case kK => assumption); (case k1 => k_asm); (case k2 => k_asm); (case k3 => k_asm); (case k4 => k_asm); (case k5 => k_asm); (case k6 => k_is); (case k7 => k_is); (case k8 => k_room); (case k9 => exact BindsTo.of_eq rfl); (case kB => exact rfl); (case kD => decide +kernel); (case c2 => exact rfl); (case c3 => exact rfl); (case c4 => exact rfl); k_whole; intro g' L' h' tk' cells' FG' F' N' Y' B' X' T' l1; (try k_lt l1); k_cells Y'; (try simp only [List.cons_append, List.nil_append] at N'); (try dsimp only); (try k_lift B'); (try k_fold)))
local macro_rules | `(tactic| k_all) => `(tactic| exact all_ne_of_lt (by assumption) (by omega))
local macro_rules | `(tactic| walk_at "CompEnd") => `(tactic| refine LCg.CompEnd.intro (by assumption) (by assumption) _ (fun _ h => h) (by assumption) (by first | exact True.intro | lcg_src) ?_)
local macro_rules | `(tactic| walk_at "InvEndN") => `(tactic| k_dflt kst_close)
local macro_rules | `(tactic| ktr_step) => `(tactic| repeat' ((fail_if_success (with_reducible show wpAny _ _ (pyIter _) _ _ _)); first | (k_unfold; (try dsimp only)) | (k_end; wrow_close) | walk1 | (dsimp only; walk1) | (leave1; walk_say "STEP leave1"; try dsimp only) | fail "no step"))
local macro_rules | `(tactic| walk_at "call ref") => `(tactic| ((with_reducible show wpAny _ _ (call (Value.ref 66) [Value.ref _, Value.int _ _] _) _ _ _); k_dflt (refine' Sum1.use (bisR_sum _ _ _ _ _ _ _ ?sl ?si ?sn) ?k1 ?k2 ?k3 ?k4 ?k5 ?kK ?kd ?ku ?_; (case k1 => k_asm); (case k2 => k_asm); (case k3 => k_asm); (case k4 => k_asm); (case k5 => k_asm); (case sl => first | assumption | k_mem); (case si => l_ints); (case sn => l_fit); (case kK => first | exact rfl | assumption); (case kd => ktr_room); (case ku => ktr_units)); (intro t9 h9 tk9 F9 N9); (try dsimp only); (try k_fold)))
local macro_rules | `(tactic| walk_at "call ref") => `(tactic| ((with_reducible show wpAny _ _ (call (Value.ref 66) [Value.ref _, Value.int _ _, Value.int 0 _, Value.none] _) _ _ _); k_dflt (refine' Sum1.use (bisR_sum4 _ _ _ _ _ _ _ _ ?sl ?si ?sn) ?k1 ?k2 ?k3 ?k4 ?k5 ?kK ?kd ?ku ?_; (case k1 => k_asm); (case k2 => k_asm); (case k3 => k_asm); (case k4 => k_asm); (case k5 => k_asm); (case sl => first | assumption | k_mem); (case si => l_ints); (case sn => l_fit); (case kK => first | exact rfl | assumption); (case kd => ktr_room); (case ku => ktr_units)); (intro t9 h9 tk9 F9 N9); (try dsimp only); (try k_fold)))
local macro_rules | `(tactic| walk_at "call ref") => `(tactic| ((with_reducible show wpAny _ _ (call (Value.ref 75) [Value.ref _, Value.int _ _] _) _ _ _); k_dflt (refine' Sum1.use (bisL_sum _ _ _ _ _ _ _ ?sl ?si ?sn) ?k1 ?k2 ?k3 ?k4 ?k5 ?kK ?kd ?ku ?_; (case k1 => k_asm); (case k2 => k_asm); (case k3 => k_asm); (case k4 => k_asm); (case k5 => k_asm); (case sl => first | assumption | k_mem); (case si => l_ints); (case sn => l_fit); (case kK => first | exact rfl | assumption); (case kd => ktr_room); (case ku => ktr_units)); (intro t9 h9 tk9 F9 N9); (try dsimp only); (try k_fold)))
local macro_rules | `(tactic| walk_at "call ref") => `(tactic| ((with_reducible show wpAny _ _ (call (Value.ref 113) [Value.ref _, Value.int _ _] _) _ _ _); k_dflt (refine' Sum1.use (found_sum _ _ _ _ _ _ _ ?sl ?si ?sn) ?k1 ?k2 ?k3 ?k4 ?k5 ?kK ?kd ?ku ?_; (case k1 => k_asm); (case k2 => k_asm); (case k3 => k_asm); (case k4 => k_asm); (case k5 => k_asm); (case sl => first | assumption | k_mem); (case si => l_ints); (case sn => l_fit); (case kK => first | exact rfl | assumption); (case kd => ktr_room); (case ku => ktr_units)); (intro t9 h9 tk9 F9 N9); (try dsimp only); (try k_fold)))
local macro_rules | `(tactic| walk_at "call ref") => `(tactic| ((with_reducible show wpAny _ _ (call (Value.ref 130) [Value.int _ _] _) _ _ _); k_dflt (refine' Sum1.use (four_sum _ _ _ ?p0 ?p1) ?k1 ?k2 ?k3 ?k4 ?k5 ?kK ?kd ?ku ?_; (case k1 => k_asm); (case k2 => k_asm); (case k3 => k_asm); (case k4 => k_asm); (case k5 => k_asm); (case p0 => assumption); (case p1 => assumption); (case kK => first | exact rfl | assumption); (case kd => ktr_room); (case ku => ktr_units)); (intro t9 h9 tk9 F9 N9); (try dsimp only); (try k_fold)))
local macro_rules | `(tactic| walk_at "call ref") => `(tactic| ((with_reducible show wpAny _ _ (call (Value.ref 118) [Value.int _ _] _) _ _ _); k_dflt (refine' Sum1.use (two_sum _ _ _ ?p0 ?p1) ?k1 ?k2 ?k3 ?k4 ?k5 ?kK ?kd ?ku ?_; (case k1 => k_asm); (case k2 => k_asm); (case k3 => k_asm); (case k4 => k_asm); (case k5 => k_asm); (case p0 => assumption); (case p1 => assumption); (case kK => first | exact rfl | assumption); (case kd => ktr_room); (case ku => ktr_units)); (intro t9 h9 tk9 F9 N9); (try dsimp only); (try k_fold)))
local macro_rules | `(tactic| walk_at "call ref") => `(tactic| ((with_reducible show wpAny _ _ (call (Value.ref 125) [Value.int _ _] _) _ _ _); k_dflt (refine' Sum1.use (three_sum _ _ _ ?p0 ?p1) ?k1 ?k2 ?k3 ?k4 ?k5 ?kK ?kd ?ku ?_; (case k1 => k_asm); (case k2 => k_asm); (case k3 => k_asm); (case k4 => k_asm); (case k5 => k_asm); (case p0 => assumption); (case p1 => assumption); (case kK => first | exact rfl | assumption); (case kd => ktr_room); (case ku => ktr_units)); (intro t9 h9 tk9 F9 N9); (try dsimp only); (try k_fold)))
local macro_rules | `(tactic| walk_at "compareOp Eq ref ref") => `(tactic| (k_here; (with_reducible show wpAny _ _ (compareOp CmpOp.Eq (Value.ref _) (Value.ref _)) _ _ _); k_dflt (refine ke_eq_ints (by is_list) (by is_list) (by l_ints) (by l_ints) (by ke_room) ?_; rw [decide_eq_true (end_eq (by assumption) (by assumption))])))
local macro_rules | `(tactic| wrow_close) => `(tactic| ((show GoodW _ _ _ _ _ (.ok (.ret (.bool true))) _); refine' goodW_bool ?gf ?gg ?gn ?gp; (case gf => assumption); (case gg => assumption); (case gn => exact fun _ => rfl); (case gp => rfl)))
local macro_rules | `(tactic| walk_at "exec For Name Name cons nil") => `(tactic| (k_here; (with_reducible show wpAny _ _ (exec (Stmt.For (Expr.Name (Str.ofString "one") _) _ _ _ _) _) _ _ _); (rename Fr _ _ _ _ => lF'); (with_unfolding_all refine' For_invVF lF' ?k1 ?k2 ?_; (case k1 => exact rfl); (case k2 => exact rfl); k_whole)))
local macro_rules | `(tactic| walk_at "pyIter ref") => `(tactic| (k_here; (with_reducible show wpAny _ _ (pyIter (Value.ref _)) (fun _ _ => LoopAtV _ _ _ _ _ (Str.ofString "one") _ _ _ _ _) _ _); (with_reducible rename @LE.le Int _ _ 24 => hN9); k_dflt (refine' outer_loop hN9 ?hh ?hD ?hi ?F ?N ?hne (fun us9 is9 c9 i9 t9 u9 h9 tk9 own9 hall9 hus9 hlen9 F9 N9 => ?_) (fun us9 c9 u9 v9 h9 tk9 hus9 hlen9 F9 N9 => ?_); (case hh => rfl); (case F => k_asm); (case N => k_asm); (case hD => k_mem); (case hi => assumption); (case hne => first | k_all | fail "no order")); (all_goals (try simp only [List.cons_append, List.nil_append] at hall9 N9 ⊢)); (all_goals (try k_fold))))
local macro_rules | `(tactic| walk_at "call ref") => `(tactic| ((with_reducible show wpAny _ _ (call (Value.ref 66) [Value.ref _, Value.int _ _] _) _ _ _); k_dflt (refine' bis_use ?sl ?si ?sn ?k1 ?k2 ?k3 ?k4 ?k5 ?kK ?kd ?ku (fun r9 t9 h9 tk9 hr9 hr0 hr7 F9 N9 => ?_); (case k1 => k_asm); (case k2 => k_asm); (case k3 => k_asm); (case k4 => k_asm); (case k5 => k_asm); (case sl => k_mem); (case si => assumption); (case sn => decide); (case kK => first | exact rfl | assumption); (case kd => ktr_room); (case ku => ktr_units)); (try dsimp only); (try k_fold)))
local macro_rules | `(tactic| walk_at "exec For Name Subscript cons nil") => `(tactic| (k_here; (with_reducible show wpAny _ _ (exec (Stmt.For (Expr.Name (Str.ofString "other") _) _ _ _ _) _) _ _ _); (rename Fr _ _ _ _ => lF'); (with_unfolding_all refine' For_invVF lF' ?k1 ?k2 ?_; (case k1 => exact rfl); (case k2 => exact rfl); k_whole)))
local macro_rules | `(tactic| walk_at "pyIter ref") => `(tactic| (k_here; (with_reducible show wpAny _ _ (pyIter (Value.ref _)) (fun _ _ => LoopAtV _ _ _ _ _ (Str.ofString "other") _ _ _ _ _) _ _); (with_reducible rename _ = bisR _ _ => hR9); k_dflt (refine' inner_loop hR9 ?hh ?hi ?F ?N ?hDl ?hne ?hu ?hlen (fun us9 is9 c9 i9 t9 h9 tk9 own9 hall9 hus9 hlen9 F9 N9 => ?_) (fun us9 c9 u9 h9 tk9 hus9 F9 N9 => ?_); (case hh => rfl); (case F => k_asm); (case N => k_asm); (case hi => assumption); (case hne => assumption); (case hu => assumption); (case hlen => assumption); (case hDl => first | omega | fail "no order")); (all_goals (try simp only [List.cons_append, List.nil_append] at hall9 N9 ⊢)); (all_goals (try k_fold))))
local macro_rules | `(tactic| walk_at "call ref") => `(tactic| ((with_reducible show wpAny _ _ (call (Value.ref 57) [Value.ref _, Value.int _ _] _) _ _ _); k_dflt (refine' Sum1.use (insR_sum _ _ _ _ _ _ _ _ ?sl ?si ?sn ?sU) ?k1 ?k2 ?k3 ?k4 ?k5 ?kK ?kd ?ku ?_; (case k1 => k_asm); (case k2 => k_asm); (case k3 => k_asm); (case k4 => k_asm); (case k5 => k_asm); (case sl => exact .head _); (case si => assumption); (case sn => omega); (case sU => exact Upd.head (by assumption)); (case kK => first | exact rfl | assumption); (case kd => ktr_room); (case ku => ktr_units)); (intro t9 h9 tk9 F9 N9); (try dsimp only); (try k_fold)))
local macro_rules | `(tactic| walk_at "GrowPost") => `(tactic| k_dflt ((show GrowEnd _ _ _ _ _ _ _ _ _ _); refine' GrowEnd.intro ?F ?N ?hs ?hi ?hm; (case F => assumption); (case N => assumption); (case hs => first | exact fun _ h => h | exact mem_skip); (case hi => first | assumption | exact insV_are (by assumption) _ _); (case hm => (intro z9 hz1 hz2; simp only [if_neg hz1, if_neg hz2]))))
local macro_rules | `(tactic| walk_at "subscriptTail Name Slice ref ref") => `(tactic| (k_here; (with_reducible show wpAny _ _ (subscriptTail (Expr.Name (Str.ofString "marks") _) _ (Value.ref _) (Value.ref _)) _ _ _); k_dflt (refine' slice_marks (s := ⟨_, _, _, _, _⟩) ?h0 ?F ?N ?m ?i (fun D9 ws9 h9 F9 N9 lt9 hI9 => ?_) ?s ?t; (case F => k_asm); (case N => k_asm); (case m => k_mem); (case i => assumption); (case h0 => assumption); (case s => with_unfolding_all rfl); (case t => kmk_pure)); (try k_lt lt9); (try k_sweep)))
local macro_rules | `(tactic| walk_at "call ref") => `(tactic| ((with_reducible show wpAny _ _ (call (Value.ref 48) [Value.str _ _] _) _ _ _); k_dflt (refine' Sum1.use (quote_sum _ _ _ ?p0) ?k1 ?k2 ?k3 ?k4 ?k5 ?kK ?kd ?ku ?_; (case k1 => k_asm); (case k2 => k_asm); (case k3 => k_asm); (case k4 => k_asm); (case k5 => k_asm); (case p0 => first | assumption | decide +kernel); (case kK => first | exact rfl | assumption); (case kd => ktr_room); (case ku => ktr_units)); (intro t9 h9 tk9 F9 N9); (try dsimp only); (try k_fold)))
local macro_rules | `(tactic| walk_at "call ref") => `(tactic| ((with_reducible show wpAny _ _ (call (Value.ref 89) [Value.str _ _] _) _ _ _); k_dflt (refine' Sum1.use (esc_sum _ _ _ ?p0) ?k1 ?k2 ?k3 ?k4 ?k5 ?kK ?kd ?ku ?_; (case k1 => k_asm); (case k2 => k_asm); (case k3 => k_asm); (case k4 => k_asm); (case k5 => k_asm); (case p0 => first | assumption | decide +kernel); (case kK => first | exact rfl | assumption); (case kd => ktr_room); (case ku => ktr_units)); (intro t9 h9 tk9 F9 N9); (try dsimp only); (try k_fold)))
local macro_rules | `(tactic| walk_at "call ref") => `(tactic| ((with_reducible show wpAny _ _ (call (Value.ref 94) [Value.int _ _] _) _ _ _); k_dflt (refine' Sum1.use (end_sum _ _ _ ?p0 ?p1) ?k1 ?k2 ?k3 ?k4 ?k5 ?kK ?kd ?ku ?_; (case k1 => k_asm); (case k2 => k_asm); (case k3 => k_asm); (case k4 => k_asm); (case k5 => k_asm); (case p0 => omega); (case p1 => omega); (case kK => first | exact rfl | assumption); (case kd => ktr_room); (case ku => ktr_units)); (intro t9 h9 tk9 F9 N9); (try dsimp only); (try k_fold)))
local macro_rules | `(tactic| walk_at "call ref") => `(tactic| ((with_reducible show wpAny _ _ (call (Value.ref 101) [Value.ref _] _) _ _ _); k_dflt (refine' Sum1.use (mail_four _ _ _ _ [_, _, _, _] ?sl ?si ?s4 ?sb) ?k1 ?k2 ?k3 ?k4 ?k5 ?kK ?kd ?ku ?_; (case k1 => k_asm); (case k2 => k_asm); (case k3 => k_asm); (case k4 => k_asm); (case k5 => k_asm); (case sl => exact .head _); (case si => exact .cons _ _ (.cons _ _ (.cons _ _ (.cons _ _ .nil)))); (case s4 => rfl); (case sb => exact four_in (fmod4 _) (fmod4 _) (fmod4 _) (fmod4 _)); (case kK => first | exact rfl | assumption); (case kd => ktr_room); (case ku => ktr_units)); (intro t9 h9 tk9 F9 N9); (try dsimp only); (try k_fold)))
local macro_rules | `(tactic| walk_at "CompSrc") => `(tactic| (k_here; (with_reducible show LCg.CompSrc _ _ _ _ _ _ _ _ (Str.ofString "age") _ _ _ _ _); k_dflt (refine LCg.CompSrc.ledger (by rfl) (by k_asm) (by k_asm) (by k_mem) (by kcf_size) ?_; intro g'; (refine' kct_list endS (by assumption) (fun k' t' I' oI' C' oC' D' m' ys' h' tk' E' hk' hC' hx' F' N' off' ne' hMark' => ?_) (fun ysE hCarE hLenE => ?_)); (have off0' := off'); (try simp only [LCg.Off3, and_true] at off'); (try obtain ⟨hk0', hk3'⟩ := age_in (by assumption) (by assumption)))))
local macro_rules | `(tactic| walk_at "KCtEl") => `(tactic| exact ⟨rfl, _, rfl⟩)
local macro_rules | `(tactic| walk_at "call builtin:str.join") => `(tactic| (k_here; (with_reducible show wpAny _ _ (call (Value.builtin "str.join") [Value.str _ _, Value.ref _]) _ _ _); k_dflt (refine' join_mail (ns := [_, _, _, _]) ?jl ?jc ?jp ?jo rfl ?jb ?_; (case jc => assumption); (case jp => assumption); (case jo => assumption); (case jb => exact four_in (fmod4 _) (fmod4 _) (fmod4 _) (fmod4 _)); (case jl => exact News.isList (by k_asm) (by k_mem)); intro tJ kJ)))
local macro_rules | `(tactic| walk_at "compareOp NotEq str str") => `(tactic| (k_here; k_dflt (refine ne_same ?_)))
local macro_rules | `(tactic| walk_at "call builtin:str.count") => `(tactic| (k_here; (with_reducible show wpAny _ _ (call (Value.builtin "str.count") [Value.str (mailS [_, _, _, _]) _, Value.str _ _]) _ _ _); k_dflt (refine count_mail rfl (four_in (fmod4 _) (fmod4 _) (fmod4 _) (fmod4 _)) ?_; intro nM tM kM h0M h24M; (rename News _ _ _ _ => nO); (have nN := cb_drop (news := [_, _, _]) nO (fun p hp => .tail _ (.tail _ (.tail _ (.tail _ (.tail _ (.tail _ hp))))))); clear nO; (repeat (rename (@Ne Nat _ _) ∧ _ => oO; clear oO)); (repeat (rename (@LT.lt Nat _ _ _) ∧ _ => lO; clear lO)))))
local macro_rules | `(tactic| walk_at "call ref") => `(tactic| ((with_reducible show wpAny _ _ (call (Value.ref 106) ([] ++ []) _) _ _ _); k_dflt (refine' SumL.use (marks_sum _) ?k1 ?k2 ?k3 ?k4 ?k5 ?kK ?kd ?ku ?_; (case k1 => k_asm); (case k2 => k_asm); (case k3 => k_asm); (case k4 => k_asm); (case k5 => k_asm); (case kK => first | exact rfl | assumption); (case kd => ktr_room); (case ku => ktr_units)); (intro D9 ys9 n9 h9 tk9 hI9 o9 F9 N9); (try simp only [LCg.Off1, and_true] at o9); (try dsimp only); (try k_fold)))
local macro_rules | `(tactic| walk_at "exec Assign cons ListComp") => `(tactic| (k_here; lcp_look; k_dflt (refine Assign_ListComp_En (by k_asm) (by rfl) (by with_unfolding_all rfl) (by with_unfolding_all rfl) (by decide) (by rfl) (by decide) (by rfl) (by rfl) (by decide) (by rfl) (by rfl) ?_)))
local macro_rules | `(tactic| walk_at "call type:enumerate") => `(tactic| ((with_reducible show wpAny _ _ (call (Value.type _) [Value.ref _]) (EnSrc _ _ _ _ _ _ _ _ _ _ _ _ _) _ _); k_dflt (refine' En_call (vs := [_, _, _, _]) ?ka ?kF ?kN ?km ?ks ?_; (case ka => rfl); (case kF => k_asm); (case kN => k_asm); (case km => exact .head _); (case ks => exact Nat.le_of_ble_eq_true rfl); intro g')))
local macro_rules | `(tactic| walk_at "EnRest") => `(tactic| first
  | (refine EnRest.succ ?_; intro tE' e' oE' i' oI' C' oC' D' m' h' tk' E' hC' hx' hy' F' N')
  | (refine EnRest.zero ?_; (try dsimp only)))
local macro_rules | `(tactic| walk_at "EnEnd") => `(tactic| k_dflt (refine EnEnd.intro (by assumption) (by assumption) (by intro p hp; first | exact hp | exact .tail _ hp | exact .tail _ (.tail _ hp)) ?_))
local macro_rules | `(tactic| walk_at "call builtin:sum") => `(tactic| ((with_reducible show wpAny _ _ (call (Value.builtin "sum") [Value.ref _]) _ _ _); k_dflt (refine' sum_pick ?kF ?kN ?kh ?km ?ki ?_; (case kF => k_asm); (case kN => k_asm); (case kh => rfl); (case km => exact .head _); (case ki => assumption); (intro z' h' tk' t' F' N'))))
set_option maxRecDepth 100000 in
set_option maxHeartbeats 8000000 in
theorem law_holds : PySem.Challenge.rw_wn0053_01.Holds := Mine.hd (by
  w_on
  w_top off
  k_with_none
  k_go0
  all_goals try k_fold
  k_steps)

end
end Mine
theorem PySem.Challenge.cw_wn0053_01_holds : PySem.Challenge.rw_wn0053_01.Holds :=
  Mine.law_holds
