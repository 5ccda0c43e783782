import PyProof.Rows.All
import Wide.All
import OpenK.AllK
import Wide.FinOn
import PySem.Challenge.RW_aw5007_01
set_option Elab.async false
namespace Mine
open PySem PySem.W PyProof.Rows
set_option maxRecDepth 100000 in
set_option maxHeartbeats 8000000 in
open_top hd for PySem.Challenge.rw_aw5007_01
end Mine
namespace Mine
open PySem PySem.W PyProof.Rows
/-- the claim of a def: from a frame with any ledger `news`, the call comes back with `R`; DP, UN: the room it asks -/
abbrev ClmN (DP UN : Nat) (w : World) (loose : List Str) (mean : ExcName → Option Value) (mg mb : Str → Option Value) (f : Addr) (vs : List Value) (G : Prop) (R : Tok → Value) : Prop :=
  ∀ (dp un : Nat) (gd : Option (List Code)) (cn : Str) (cs : Scope) (a : Addr) (ccd : Value) (cl : List (Str × Addr)) (outer : List Env) (A₀ : Around) (base h₀ : Heap) (L : Addr) (m : Str → Option Value) (news : List (Addr × Obj)) (s : Shared) (Q E : Value → Shared → Prop),
    Below A₀ base outer h₀ → Fr h₀ L s.heap m → (Mine.hd.heap_39 w.params).In h₀ → News h₀ L s.heap news → Top Mine.hd.view_39 loose mean mg mb h₀ → cs.kind = .function → dp + DP < recursionLimit → un + UN < cLine →
    (G → CbRet h₀ L m news s Q R) →
      wpAny (model PySem.Challenge.rw_aw5007_01.prog w) (ktrTop dp un gd cn cs L a ccd cl outer) (call (.ref f) vs) Q E s
abbrev Clm := ClmN 1 8
abbrev Clm1 := ClmN 5 40
/-- the integer square root, by search -/
def isq (x : Int) : Int := ((List.range 23).filter (fun (k : Nat) => decide (1 ≤ k) && decide ((k : Int) * k ≤ x))).length

theorem start_ok : ∀ n : Nat, n < 491 → 1 ≤ n → (n : Int) < ((2 : Int) ^ ((((PySem.Builtin.Int.intBits (n : Int) : Nat) : Int) + 1).fdiv (2 ^ (1 : Int).toNat)).toNat) * (2 : Int) ^ ((((PySem.Builtin.Int.intBits (n : Int) : Nat) : Int) + 1).fdiv (2 ^ (1 : Int).toNat)).toNat := by
  decide +kernel
theorem isq_ok : ∀ n : Nat, n < 491 → isq (n : Int) * isq (n : Int) ≤ (n : Int) ∧ (n : Int) < (isq (n : Int) + 1) * (isq (n : Int) + 1) ∧ 0 ≤ isq (n : Int) := by
  decide +kernel

theorem newton {x r k : Int} (hr : 1 ≤ r) (h : k * k ≤ x) : k ≤ (r + x.fdiv r).fdiv 2 := by
  have e1 : x.fdiv r = x / r := Int.fdiv_eq_ediv_of_nonneg _ (by omega)
  have e2 : (r + x.fdiv r).fdiv 2 = (r + x.fdiv r) / 2 := Int.fdiv_eq_ediv_of_nonneg _ (by omega)
  rw [e2, e1]
  have h1 : 2 * k - r ≤ x / r := by
    refine (Int.le_ediv_iff_mul_le (by omega)).mpr ?_
    have h2 : 0 ≤ (k - r) * (k - r) := by
      rcases Int.le_total 0 (k - r) with h | h
      · exact Int.mul_nonneg h h
      · exact Int.mul_nonneg_of_nonpos_of_nonpos h h
    have h3 : (k - r) * (k - r) = k * k - 2 * (k * r) + r * r := by
      rw [Int.sub_mul, Int.mul_sub, Int.mul_sub, Int.mul_comm r k]; omega
    have h4 : (2 * k - r) * r = 2 * (k * r) - r * r := by
      rw [Int.sub_mul, Int.mul_assoc]
    omega
  omega
theorem isq_unique {x r : Int} (h1 : 1 ≤ x) (h2 : x ≤ 490) (hr : 1 ≤ r) (hle : isq x ≤ r) (hy : r ≤ (r + x.fdiv r).fdiv 2) : r = isq x := by
  obtain ⟨n, rfl⟩ : ∃ n : Nat, x = n := ⟨x.toNat, by omega⟩
  obtain ⟨a, b, c⟩ := isq_ok n (by omega)
  have e1 : (n : Int).fdiv r = n / r := Int.fdiv_eq_ediv_of_nonneg _ (by omega)
  have e2 : (r + (n : Int).fdiv r).fdiv 2 = (r + (n : Int).fdiv r) / 2 := Int.fdiv_eq_ediv_of_nonneg _ (by omega)
  rw [e2, e1] at hy
  have h3 : r ≤ n / r := by omega
  have h4 := (Int.le_ediv_iff_mul_le (by omega)).mp h3
  rcases Int.lt_or_le (isq n) r with h | h
  · have h5 : (isq n + 1) * (isq n + 1) ≤ r * r := Int.mul_le_mul (by omega) (by omega) (by omega) (by omega)
    omega
  · omega
theorem isq_pos {x : Int} (h1 : 1 ≤ x) (h2 : x ≤ 490) : 1 ≤ isq x := by
  obtain ⟨n, rfl⟩ : ∃ n : Nat, x = n := ⟨x.toNat, by omega⟩
  obtain ⟨a, b, c⟩ := isq_ok n (by omega)
  rcases Int.lt_or_le (isq n) 1 with h | h
  · have : isq n = 0 := by omega
    rw [this] at b
    omega
  · exact h
theorem start_le {x : Int} (h1 : 1 ≤ x) (h2 : x ≤ 490) : isq x ≤ (1 : Int) * 2 ^ ((((PySem.Builtin.Int.intBits x : Nat) : Int) + 1).fdiv (2 ^ (1 : Int).toNat)).toNat := by
  obtain ⟨n, rfl⟩ : ∃ n : Nat, x = n := ⟨x.toNat, by omega⟩
  obtain ⟨a, b, c⟩ := isq_ok n (by omega)
  have d := start_ok n (by omega) (by omega)
  rw [Int.one_mul]
  have hp : 0 ≤ (2 : Int) ^ ((((PySem.Builtin.Int.intBits (n : Int) : Nat) : Int) + 1).fdiv (2 ^ (1 : Int).toNat)).toNat := Int.pow_nonneg (by decide)
  generalize (2 : Int) ^ ((((PySem.Builtin.Int.intBits (n : Int) : Nat) : Int) + 1).fdiv (2 ^ (1 : Int).toNat)).toNat = r at d hp ⊢
  rcases Int.lt_or_le r (isq n) with h | h
  · have h5 : r * r ≤ isq n * isq n := Int.mul_le_mul (by omega) (by omega) (by omega) (by omega)
    omega
  · exact h
theorem bits_small {x : Int} (h1 : 1 ≤ x) (h2 : x ≤ 490) : PySem.Builtin.Int.intBits x ≤ 64 := PySem.intBits_le_64 (by omega) (by omega)
theorem shift_lo {x : Int} : 0 ≤ (((PySem.Builtin.Int.intBits x : Nat) : Int) + 1).fdiv (2 ^ (1 : Int).toNat) := by
  rw [Int.fdiv_eq_ediv_of_nonneg _ (by decide)]
  exact Int.ediv_nonneg (by omega) (by decide)
theorem shift_hi {x : Int} (h1 : 1 ≤ x) (h2 : x ≤ 490) : (((PySem.Builtin.Int.intBits x : Nat) : Int) + 1).fdiv (2 ^ (1 : Int).toNat) ≤ 1000000 := by
  have := bits_small h1 h2
  rw [Int.fdiv_eq_ediv_of_nonneg _ (by decide)]
  have e : (2 : Int) ^ (1 : Int).toNat = 2 := by decide
  rw [e]
  omega
theorem start_hi : ∀ n : Nat, n < 491 → ((2 : Int) ^ ((((PySem.Builtin.Int.intBits (n : Int) : Nat) : Int) + 1).fdiv (2 ^ (1 : Int).toNat)).toNat) ≤ 64 := by
  decide +kernel
theorem isq_start {x : Int} (h1 : 1 ≤ x) (h2 : x ≤ 490) : 1 ≤ (1 : Int) * 2 ^ ((((PySem.Builtin.Int.intBits x : Nat) : Int) + 1).fdiv (2 ^ (1 : Int).toNat)).toNat ∧ isq x ≤ (1 : Int) * 2 ^ ((((PySem.Builtin.Int.intBits x : Nat) : Int) + 1).fdiv (2 ^ (1 : Int).toNat)).toNat ∧ (1 : Int) * 2 ^ ((((PySem.Builtin.Int.intBits x : Nat) : Int) + 1).fdiv (2 ^ (1 : Int).toNat)).toNat ≤ 64 := by
  have a := start_le h1 h2
  have b := isq_pos h1 h2
  refine ⟨by omega, a, ?_⟩
  obtain ⟨n, rfl⟩ : ∃ n : Nat, x = n := ⟨x.toNat, by omega⟩
  rw [Int.one_mul]
  exact start_hi n (by omega)
theorem isq_turn {x r : Int} (h1 : 1 ≤ x) (h2 : x ≤ 490) (ha : 1 ≤ r) (_hb : isq x ≤ r) (hc : r ≤ 64) (hy : ¬ r ≤ (r + x.fdiv r).fdiv (2 ^ (1 : Int).toNat)) : 1 ≤ (r + x.fdiv r).fdiv (2 ^ (1 : Int).toNat) ∧ isq x ≤ (r + x.fdiv r).fdiv (2 ^ (1 : Int).toNat) ∧ (r + x.fdiv r).fdiv (2 ^ (1 : Int).toNat) ≤ 64 := by
  have e : isq x * isq x ≤ x := by
    obtain ⟨n, rfl⟩ : ∃ n : Nat, x = n := ⟨x.toNat, by omega⟩
    exact (isq_ok n (by omega)).1
  have a := newton ha e
  have b := isq_pos h1 h2
  have e2 : (2 : Int) ^ (1 : Int).toNat = 2 := by decide
  rw [e2] at hy ⊢
  exact ⟨by omega, a, by omega⟩
theorem isq_end {x r : Int} (h1 : 1 ≤ x) (h2 : x ≤ 490) (ha : 1 ≤ r) (hb : isq x ≤ r) (hy : r ≤ (r + x.fdiv r).fdiv (2 ^ (1 : Int).toNat)) : r = isq x :=
  isq_unique h1 h2 ha hb hy
theorem isq_hi : ∀ n : Nat, n < 491 → isq (n : Int) ≤ 22 := by
  decide +kernel
theorem isq_rng {x : Int} (h1 : 1 ≤ x) (h2 : x ≤ 490) : 1 ≤ isq x ∧ isq x ≤ 22 ∧ isq x * isq x ≤ x ∧ x < (isq x + 1) * (isq x + 1) ∧ (2 ≤ x → isq x < x) := by
  refine ⟨isq_pos h1 h2, ?_⟩
  obtain ⟨n, rfl⟩ : ∃ n : Nat, x = n := ⟨x.toNat, by omega⟩
  obtain ⟨a, b, c⟩ := isq_ok n (by omega)
  refine ⟨isq_hi n (by omega), a, b, fun h => ?_⟩
  rcases Int.lt_or_le (isq n) n with q | q
  · exact q
  · have h5 : 2 * (n : Int) ≤ isq n * isq n := Int.mul_le_mul (by omega) (by omega) (by omega) (by omega)
    omega
section
set_option maxRecDepth 100000
local macro_rules | `(tactic| walk_at "binaryOp LShift int int") => `(tactic| (refine lshift_int_small shift_lo (shift_hi (by assumption) (by assumption)) (by decide) ?_))
local macro_rules | `(tactic| walk_at "binaryOp FloorDiv int int") => `(tactic| (k_here; refine floordiv_int (by omega) ?_ (Or.inl (PyProof.noPylong_small (by omega)))))
set_option hygiene false in
local macro_rules | `(tactic| walk_at "exec While") => `(tactic| (k_here; (k_while (fun _ r => 1 ≤ r ∧ isq x ≤ r ∧ r ≤ 64) (fun _ r => r.toNat) "r")))
set_option maxHeartbeats 8000000 in
theorem c_isqrt_small (w : World) (loose : List Str) (mean : ExcName → Option Value) (mg mb : Str → Option Value) (x : Int) (tx : Tok) (h1 : 1 ≤ x) (h2 : x ≤ 490) :
  Clm w loose mean mg mb 21 [.int x tx] (1 ≤ isq x ∧ isq x ≤ 22 ∧ isq x * isq x ≤ x ∧ x < (isq x + 1) * (isq x + 1) ∧ (2 ≤ x → isq x < x)) (fun t => .int (isq x) t) := by
  unfold Clm ClmN
  k_fill
  intro dp un gd cn cs a ccd cl outer A₀ base h₀ L m news s Q E B F X N T hk hd hu hret
  replace hret := hret (isq_rng h1 h2)
  refine wpAny_call ?_
  k_dflt cell_enter
  k_with "state" => first | exact isq_start h1 h2 | (exact isq_turn h1 h2 (by assumption) (by assumption) (by assumption) (by omega))
  k_steps
  all_goals first
    | (exfalso; omega)
    | exact cb_retI hret (isq_end h1 h2 (by assumption) (by assumption) (by omega)) (by k_asm) (by k_asm)
local macro_rules | `(tactic| walk_at "call ref") => `(tactic| (
  k_here; (with_reducible show wpAny _ _ (PySem.call (Value.ref 21) [Value.int _ _]) _ _ _);
  k_dflt (refine' (c_isqrt_small _ _ _ _ _ _ _ ?h1 ?h2) _ _ _ _ _ _ _ _ _ _ _ _ _ _ _ _ _ _ ?k1 ?k2 ?k3 ?k4 ?k5 ?kK ?kd ?ku ?kR; (case h1 => omega); (case h2 => omega); (case k1 => k_asm); (case k2 => k_asm); (case k3 => k_asm); (case k4 => k_asm); (case k5 => k_asm); (case kK => first | exact rfl | assumption); (case kd => ktr_room); (case ku => ktr_units));
  intro g9 t9 h9 tk9 F9 N9; (try dsimp only); (try k_fold)))
local macro_rules | `(tactic| walk_at "call ref") => `(tactic| (k_here; (with_reducible show wpAny _ _ (PySem.call (Value.ref 28) _) _ _ _); (have hk9 : PySem.ScopeKind.function = PySem.ScopeKind.function := rfl); refine wpAny_call ?_; k_dflt cell_enter))
set_option maxHeartbeats 8000000 in
theorem c_isqrt (w : World) (loose : List Str) (mean : ExcName → Option Value) (mg mb : Str → Option Value) (x : Int) (tx : Tok) (h1 : 1 ≤ x) (h2 : x ≤ 490) :
  Clm1 w loose mean mg mb 35 [.int x tx] (1 ≤ isq x ∧ isq x ≤ 22 ∧ isq x * isq x ≤ x ∧ x < (isq x + 1) * (isq x + 1) ∧ (2 ≤ x → isq x < x)) (fun t => .int (isq x) t) := by
  unfold Clm1 ClmN
  k_fill
  intro dp un gd cn cs a ccd cl outer A₀ base h₀ L m news s Q E B F X N T hk hd hu hret
  replace hret := hret (isq_rng h1 h2)
  refine wpAny_call ?_
  k_dflt cell_enter
  k_steps
  all_goals cb_end hret
end
end Mine
namespace Mine
open PySem PySem.W PyProof.Rows
def fac : Nat → Int
  | 0 => 1
  | n + 1 => fac n * ((n : Int) + 1)
def dfac : Nat → Int
  | 0 => 1
  | 1 => 1
  | n + 2 => dfac n * ((n : Int) + 2)
theorem and_one : ∀ n : Nat, n < 241 → PySem.Builtin.bitAnd (n : Int) 1 = (n : Int) % 2 := by
  decide +kernel
theorem ifac2_start {n : Int} (h1 : 0 ≤ n) (h2 : n ≤ 240) : 0 ≤ PySem.Builtin.bitAnd n 1 ∧ PySem.Builtin.bitAnd n 1 ≤ n ∧ PySem.Builtin.bitAnd n 1 % 2 = n % 2 ∧ (1 : Int) = dfac (PySem.Builtin.bitAnd n 1).toNat := by
  obtain ⟨k, rfl⟩ : ∃ k : Nat, n = k := ⟨n.toNat, by omega⟩
  rw [and_one k (by omega)]
  refine ⟨by omega, by omega, by omega, ?_⟩
  have : ((k : Int) % 2).toNat = 0 ∨ ((k : Int) % 2).toNat = 1 := by omega
  rcases this with e | e <;> rw [e] <;> rfl
theorem ifac2_turn {n k p : Int} (h1 : 0 ≤ k) (h2 : k < n) (h3 : k % 2 = n % 2) (h4 : p = dfac k.toNat) : 0 ≤ k + 2 ∧ k + 2 ≤ n ∧ (k + 2) % 2 = n % 2 ∧ p * (k + 2) = dfac (k + 2).toNat := by
  refine ⟨by omega, by omega, by omega, ?_⟩
  obtain ⟨j, rfl⟩ : ∃ j : Nat, k = j := ⟨k.toNat, by omega⟩
  have e : ((j : Int) + 2).toNat = j + 2 := by omega
  rw [e, h4]
  rfl
theorem ifac_turn {p k : Int} {j : Nat} (hp : p = fac (j + 1)) (hk : k = 2 + (j : Int)) : p * k = fac (j + 1 + 1) := by
  rw [hp, hk]
  show _ = fac (j + 1) * (((j + 1 : Nat) : Int) + 1)
  congr 1
  omega
theorem ifac2_end {n k p : Int} (h1 : k ≤ n) (h2 : ¬ k < n) (h : p = dfac k.toNat) : p = dfac n.toNat := by
  have : k = n := by omega
  subst this
  exact h
theorem ifac_end {n p : Int} {j : Nat} (h1 : 1 ≤ n) (h : p = fac ((rangeKs 2 j).length + 1)) (hj : (j : Int) = n - 1) : p = fac n.toNat := by
  rw [rangeKs_length] at h
  have : j + 1 = n.toNat := by omega
  rw [← this]
  exact h
section
set_option maxRecDepth 100000
local macro_rules | `(tactic| walk_at "exec For Name Call cons nil") => `(tactic| (k_here; kst_src; (rename Fr _ _ _ _ => lF'); (with_unfolding_all refine' For_invVF lF' ?k1 ?k2 ?_; (case k1 => exact rfl); (case k2 => exact rfl); k_whole)))
set_option hygiene false in
local macro_rules | `(tactic| walk_at "pyIter ref") => `(tactic| (k_here; k_dflt ((k_state (fun pre p => p = fac (pre.length + 1)) "p"))))
set_option hygiene false in
local macro_rules | `(tactic| walk_at "exec While") => `(tactic| (k_here; (k_while (fun _ k p => 0 ≤ k ∧ k ≤ n ∧ k % 2 = n % 2 ∧ p = dfac k.toNat) (fun _ k p => (n - k).toNat) "k" "p")))
set_option maxHeartbeats 8000000 in
theorem c_ifac (w : World) (loose : List Str) (mean : ExcName → Option Value) (mg mb : Str → Option Value) (n : Int) (tn : Tok) (h1 : 1 ≤ n) (h2 : n ≤ 240) :
  Clm w loose mean mg mb 49 [.int n tn] True (fun t => .int (fac n.toNat) t) := by
  unfold Clm ClmN
  k_fill
  intro dp un gd cn cs a ccd cl outer A₀ base h₀ L m news s Q E B F X N T hk hd hu hret
  replace hret := hret trivial
  refine wpAny_call ?_
  k_dflt cell_enter
  k_with "pyIter ref" => k_state (fun pre p => p = fac (pre.length + 1)) "p"
  k_with "state" => first | exact rfl | (rw [List.length_append]; exact ifac_turn (by assumption) (by assumption))
  k_steps
  all_goals exact cb_retI hret (ifac_end h1 (by assumption) (by omega)) (by k_asm) (by k_asm)
set_option maxHeartbeats 8000000 in
theorem c_ifac2 (w : World) (loose : List Str) (mean : ExcName → Option Value) (mg mb : Str → Option Value) (n : Int) (tn : Tok) (h1 : 0 ≤ n) (h2 : n ≤ 240) :
  Clm w loose mean mg mb 42 [.int n tn] True (fun t => .int (dfac n.toNat) t) := by
  unfold Clm ClmN
  k_fill
  intro dp un gd cn cs a ccd cl outer A₀ base h₀ L m news s Q E B F X N T hk hd hu hret
  replace hret := hret trivial
  refine wpAny_call ?_
  k_dflt cell_enter
  k_with "state" => first | exact ifac2_start h1 h2 | exact ifac2_turn (by assumption) (by omega) (by assumption) (by assumption)
  k_steps
  all_goals exact cb_retI hret (ifac2_end (by assumption) (by assumption) (by assumption)) (by k_asm) (by k_asm)
end
end Mine
namespace Mine
open PySem PySem.W PyProof.Rows
section
variable {prog : Program} {w : World} {A : Around} {E : Value → Shared → Prop} {s : Shared}
/-- `l[:2] = r` -/
theorem set_slice {l sl r : Addr} {items new : Array Value} {t : Tok} {Q : Unit → Shared → Prop} (hl : s.heap.IsList l items)
    (hs : s.heap.IsSliceOf sl .none (.int 2 t) .none) (hr : s.heap.IsList r new) (hne : (l == r) = false) (h2 : 2 ≤ items.size) (hsz : items.size ≤ 100000) (hsz2 : new.size ≤ 100000)
    (h : Q () { s with heap := s.heap.update l (Obj.mapSeq fun xs => xs.extract 0 0 ++ new ++ xs.extract 2 xs.size) }) :
    wpAny (model prog w) A (setItem (.ref l) (.ref sl) (.ref r)) Q E s := by
  obtain ⟨o, ho, hc, ne, hd⟩ := id hl
  obtain ⟨os, hos, hcs, hds⟩ := id hs
  obtain ⟨ob, hob, hcb, nb, hdb⟩ := id hr
  have hTs : s.TypeIs (.ref sl) "slice" := ⟨os, hos, hcs⟩
  unfold setItem
  try with_reducible refine wpAny_holding ?_
  first | refine wpAny_bind (wpAny_pure ?_) | skip
  refine wpAny_bind (wpAny_sequenceKey hl.typeIs (by decide) ?_)
  refine wpAny_bind (wpAny_callSpecial?_slot (name := Str.ofString "__setitem__") hl.typeIs slot_list_setitem
    (wpAny_call_entry slot_list_setitem hl.typeIs entry_list_setitem ?_ (args_list_setitem _ _ _)))
  show wpAny _ _ (Builtin.List.listSubscript? (.ref sl) >>= _) _ _ s
  refine wpAny_bind ?_
  unfold Builtin.List.listSubscript?
  refine wpAny_bind (wpAny_specialOf hTs slice_no_index ?_)
  simp only [Option.isNone_none, if_true]
  refine wpAny_pure ?_
  show wpAny _ _ (typeOf (.ref sl) >>= _) _ _ s
  refine wpAny_bind (wpAny_typeOf hTs ?_)
  rw [if_neg (by decide)]
  rw [listSliceParts_eq]
  refine wpAny_bind (wpAny_bind (wpAny_field hos hds (x := .none) rfl (wpAny_bind (wpAny_listPart .none ?_))))
  rw [if_neg (show ¬ ((rawPart none == rawInt 0) = true) from Bool.false_ne_true)]
  refine wpAny_bind (wpAny_field hos hds (x := .none) rfl (wpAny_bind (wpAny_listPart .none ?_)))
  refine wpAny_bind (wpAny_field hos hds (x := .int 2 t) rfl (wpAny_bind (wpAny_listPart (.int 2 t) (wpAny_pure ?_))))
  rw [if_neg (show ¬ (Builtin.List.listSameRef (.ref l) (.ref r) = true) by show ¬ ((l == r) = true); rw [hne]; decide)]
  refine wpAny_bind ?_
  unfold Builtin.List.listAllItems
  refine wpAny_bind (wpAny_typeOf hr.typeIs ?_)
  rw [if_pos (by decide)]
  refine wpAny_listItems hob hdb ?_
  refine wpAny_bind (wpAny_listItems ho hd ?_)
  have eb : sliceBounds none (some 2) none items.size = (0, 2, 1) := by
    simp only [sliceBounds, Option.getD_none, show (1 : Int) > 0 by decide, if_true, show ¬ ((2 : Int) < 0) by decide, if_false]
    congr 2
    omega
  refine wpAny_bind (wpAny_of_eq (sliceIndices_raw none (some 2) none items.size (by simp)) ?_)
  rw [eb]
  refine wpAny_bind (wpAny_rule ?_)
  rw [if_neg (show ¬ (Builtin.List.listTooLong (items.size + new.size) = true) by unfold Builtin.List.listTooLong; rw [sizeLine_eq]; simp only [decide_eq_true_eq]; omega)]
  refine wpAny_bind (m := Builtin.List.listUpdate _ _) ?_
  show wpAny _ _ (updateSeq l fun xs => xs.extract 0 0 ++ new ++ xs.extract 2 xs.size) _ _ _
  refine wpAny_updateSeq ho hd ?_ (by rw [sizeLine_eq]; omega) (by simp only [Array.size_append, Array.size_extract, sizeLine_eq]; omega)
  refine wpAny_bind (wpAny_letGo ?_)
  exact wpAny_pure ⟨.none, rfl, wpAny_pure h⟩
end
section
variable {prog : Program} {w : World} {A : Around} {E : Value → Shared → Prop} {s : Shared} {h₀ : Heap} {L D D2 : Addr} {m : Str → Option Value} {news news' : List (Addr × Obj)} {vs us : List Value} {ns ms : List Int} {n n2 : Nat} {t : Tok}
theorem set_slice_K {Q : Unit → Shared → Prop} (F : Fr h₀ L s.heap m) (N : News h₀ L s.heap news) (hm2 : (D2, listOf us.toArray n2) ∈ news)
    (U : Upd D (listOf vs.toArray n) (listOf (us ++ vs.drop 2).toArray n) news news') (hi : IntsAre vs ns) (hj : IntsAre us ms) (hl2 : ms.length = 2) (hne : (D == D2) = false) (h2 : 2 ≤ ns.length) (hz : ns.length ≤ 100000)
    (h : ∀ h', Fr h₀ L h' m → News h₀ L h' news' → IntsAre (us ++ vs.drop 2) (ms ++ ns.drop 2) → Q () { s with heap := h' }) :
    wpAny (model prog w) A (setItem (.ref D) (.ref s.heap.objs.size) (.ref D2)) Q E { s with heap := s.heap.push { cls := .type "slice", data := .fields #[.none, .int 2 t, .none] } } := by
  obtain ⟨pre, post, rfl, rfl, a, b⟩ := U.split
  have F1 := F.push { cls := .type "slice", data := .fields #[.none, .int 2 t, .none] }
  have N1 : News h₀ L (s.heap.push { cls := .type "slice", data := .fields #[.none, .int 2 t, .none] }) (pre ++ (D, listOf vs.toArray n) :: post) := N.grown fun _ _ e => Heap.get?_push_of_some _ e
  have z := N1 (D, listOf vs.toArray n) (List.mem_append.mpr (.inr (.head _)))
  have z2 := N1 _ hm2
  have hl : vs.length = ns.length := hi.length
  have hlu : us.length = ms.length := hj.length
  refine set_slice (PySem.IsL.isList (n := n) z.1) (Heap.IsSliceOf.new ..) (PySem.IsL.isList (n := n2) z2.1) hne (by rw [List.size_toArray]; omega) (by rw [List.size_toArray]; omega) (by rw [List.size_toArray]; omega) ?_
  refine h _ (F1.change (Heap.SameBut.update ..) z.2.1 z.2.2) (ki_turn _ N1 a b ?_ ?_) (hj.append (hi.drop 2))
  · apply Array.toList_inj.mp
    simp
    rw [List.take_of_length_le (by rw [List.length_drop]; omega)]
  · have : (us ++ vs.drop 2).length = vs.length := by rw [List.length_append, List.length_drop]; omega
    simp only [List.size_toArray, this, beq_self_eq_true, if_true]
end
end Mine
namespace Mine
open PySem PySem.W PyProof.Rows
/-- struck out: below 2, or a multiple of some d < i, 2 ≤ d, d * d ≤ j -/
def out (i j : Nat) : Bool := decide (j < 2) || (List.range i).any (fun d => decide (2 ≤ d) && decide (d * d ≤ j) && decide (j % d = 0))
def sv (N i : Nat) : List Int := (List.range N).map (fun j => if out i j then 0 else (j : Int))
def pr (j : Nat) : Bool := !out 23 j
def prl (N : Nat) : List Int := ((List.range N).filter pr).map (fun j : Nat => (j : Int))
def strike (a c : Int) : Nat → List Int → List Int
  | 0, l => l
  | i + 1, l => (strike a c i l).set (a + (i : Int) * c).toNat 0
theorem sv_length (N i : Nat) : (sv N i).length = N := by simp [sv]
theorem strike_length (a c : Int) (l : List Int) : ∀ k, (strike a c k l).length = l.length
  | 0 => rfl
  | k + 1 => by rw [strike, List.length_set, strike_length]
theorem out_iff (i j : Nat) : out i j = true ↔ j < 2 ∨ ∃ d, d < i ∧ 2 ≤ d ∧ d * d ≤ j ∧ j % d = 0 := by
  simp only [out, Bool.or_eq_true, decide_eq_true_eq, List.any_eq_true, List.mem_range, Bool.and_eq_true]
  constructor
  · rintro (h | ⟨d, a, ⟨b, c⟩, e⟩)
    · exact .inl h
    · exact .inr ⟨d, a, b, c, e⟩
  · rintro (h | ⟨d, a, b, c, e⟩)
    · exact .inl h
    · exact .inr ⟨d, a, ⟨b, c⟩, e⟩
theorem sv_get {N i j : Nat} (h : j < N) : (sv N i)[j]? = some (if out i j then 0 else (j : Int)) := by
  simp [sv, h]
theorem sv_ext {N i : Nat} {l : List Int} (hl : l.length = N) (h : ∀ j, j < N → l[j]? = some (if out i j then 0 else (j : Int))) : l = sv N i := by
  apply List.ext_getElem?
  intro j
  by_cases hj : j < N
  · rw [h j hj, sv_get hj]
  · rw [List.getElem?_eq_none (by omega), List.getElem?_eq_none (by rw [sv_length]; omega)]
theorem sv_start {N : Nat} (h : 2 ≤ N) : ([0, 0] : List Int) ++ (rangeKs 0 N).drop 2 = sv N 2 := by
  have hlen : (rangeKs 0 N).length = N := rangeKs_length 0 N
  refine sv_ext (by rw [List.length_append, List.length_drop, hlen]; simp; omega) fun j hj => ?_
  have e2 : out 2 j = decide (j < 2) := by
    have : out 2 j = true ↔ j < 2 := by
      rw [out_iff]
      constructor
      · rintro (h | ⟨d, a, b, _⟩)
        · exact h
        · omega
      · exact .inl
    cases h : out 2 j with
    | true => simp [this.mp h]
    | false =>
      have : ¬ j < 2 := fun q => by rw [this.mpr q] at h; cases h
      simp [this]
  rw [e2]
  rcases j with _ | _ | j
  · simp
  · simp
  · have : ¬ (j + 1 + 1 < 2) := by omega
    have h9 : j + 1 + 1 < (rangeKs 0 N).length := by rw [hlen]; exact hj
    simp only [this, decide_false, Bool.false_eq_true, if_false]
    show ((rangeKs 0 N).drop 2)[j]? = _
    rw [List.getElem?_drop]
    simp only [rangeKs, List.getElem?_map]
    rw [List.getElem?_range (by omega)]
    simp
    omega
theorem strike_get (a c : Int) (l : List Int) (j : Nat) (hj : j < l.length) : ∀ k : Nat, (strike a c k l)[j]? = if ∃ i : Nat, i < k ∧ (a + (i : Int) * c).toNat = j then some 0 else l[j]?
  | 0 => by simp [strike]
  | k + 1 => by
    rw [strike, List.getElem?_set, strike_get a c l j hj k, strike_length]
    by_cases h : (a + (k : Int) * c).toNat = j
    · rw [if_pos h, if_pos (by omega), if_pos ⟨k, by omega, h⟩]
    · rw [if_neg h]
      by_cases h2 : ∃ i : Nat, i < k ∧ (a + (i : Int) * c).toNat = j
      · obtain ⟨i, hi, e⟩ := h2
        rw [if_pos ⟨i, hi, e⟩, if_pos ⟨i, by omega, e⟩]
      · rw [if_neg h2, if_neg]
        rintro ⟨i, hi, e⟩
        have : i = k ∨ i < k := by omega
        rcases this with rfl | h3
        · exact h e
        · exact h2 ⟨i, h3, e⟩
theorem out_succ (p j : Nat) (hp : 2 ≤ p) : out (p + 1) j = (out p j || (decide (p * p ≤ j) && decide (j % p = 0))) := by
  have : out (p + 1) j = true ↔ (out p j || (decide (p * p ≤ j) && decide (j % p = 0))) = true := by
    rw [Bool.or_eq_true, out_iff, out_iff, Bool.and_eq_true, decide_eq_true_eq, decide_eq_true_eq]
    constructor
    · rintro (h | ⟨d, a, b, c, e⟩)
      · exact .inl (.inl h)
      · have : d = p ∨ d < p := by omega
        rcases this with rfl | h
        · exact .inr ⟨c, e⟩
        · exact .inl (.inr ⟨d, h, b, c, e⟩)
    · rintro ((h | ⟨d, a, b, c, e⟩) | ⟨c, e⟩)
      · exact .inl h
      · exact .inr ⟨d, by omega, b, c, e⟩
      · exact .inr ⟨p, by omega, hp, c, e⟩
  cases h1 : out (p + 1) j <;> cases h2 : (out p j || (decide (p * p ≤ j) && decide (j % p = 0))) <;> simp_all
/-- the inner loop, over the multiples from the square on -/
theorem sv_strike {N p k : Nat} (hp : 2 ≤ p) (hk : (k : Int) = if ((p : Int) ^ (2 : Int).toNat) < (N : Int) then ((N : Int) - (p : Int) ^ (2 : Int).toNat - 1) / (p : Int) + 1 else 0) :
    strike ((p : Int) ^ (2 : Int).toNat) p k (sv N p) = sv N (p + 1) := by
  have e2 : (p : Int) ^ (2 : Int).toNat = ((p * p : Nat) : Int) := by
    show (p : Int) ^ 2 = _
    rw [Int.pow_succ, Int.pow_succ, Int.pow_zero, Int.one_mul]
    rfl
  rw [e2] at hk ⊢
  refine sv_ext (by rw [strike_length, sv_length]) fun j hj => ?_
  rw [strike_get _ _ _ _ (by rw [sv_length]; exact hj), sv_get hj, out_succ p j hp]
  have key : (∃ i : Nat, i < k ∧ (((p * p : Nat) : Int) + (i : Int) * (p : Int)).toNat = j) ↔ (p * p ≤ j ∧ j % p = 0) := by
    have et : ∀ i : Nat, (((p * p : Nat) : Int) + (i : Int) * (p : Int)).toNat = p * p + i * p := fun i => by
      rw [← Int.natCast_mul]; omega
    constructor
    · rintro ⟨i, hi, e⟩
      rw [et] at e
      subst e
      refine ⟨by omega, ?_⟩
      rw [← Nat.add_mul]
      exact Nat.mul_mod_left _ _
    · rintro ⟨h1, h2⟩
      obtain ⟨q, hq⟩ : ∃ q, j = p * q := ⟨j / p, by have := Nat.div_add_mod j p; omega⟩
      have hpq : p ≤ q := by
        rw [hq] at h1
        exact Nat.le_of_mul_le_mul_left h1 (by omega)
      refine ⟨q - p, ?_, ?_⟩
      · have hN : ((p * p : Nat) : Int) < (N : Int) := by omega
        rw [if_pos hN] at hk
        have h3 : ((q - p : Nat) : Int) ≤ ((N : Int) - ((p * p : Nat) : Int) - 1) / (p : Int) := by
          refine (Int.le_ediv_iff_mul_le (by omega)).mpr ?_
          have h4 : (q - p) * p + p * p = j := by
            rw [← Nat.add_mul, hq, Nat.sub_add_cancel hpq, Nat.mul_comm]
          have h5 : (((q - p) * p : Nat) : Int) = ((q - p : Nat) : Int) * (p : Int) := Int.natCast_mul _ _
          rw [← h5]
          omega
        omega
      · rw [et, hq, ← Nat.add_mul, Nat.add_sub_cancel' hpq, Nat.mul_comm]
  by_cases h : p * p ≤ j ∧ j % p = 0
  · rw [if_pos (key.mpr h)]
    simp [h.1, h.2]
  · rw [if_neg fun q => h (key.mp q)]
    have : (decide (p * p ≤ j) && decide (j % p = 0)) = false := by
      cases hq : (decide (p * p ≤ j) && decide (j % p = 0)) with
      | false => rfl
      | true =>
        rw [Bool.and_eq_true, decide_eq_true_eq, decide_eq_true_eq] at hq
        exact absurd hq h
    rw [this, Bool.or_false]
/-- a number that is struck out strikes nothing new -/
theorem sv_skip {N p : Nat} (hp : 2 ≤ p) (h : out p p = true) : sv N p = sv N (p + 1) := by
  refine sv_ext (sv_length _ _) fun j hj => ?_
  rw [sv_get hj, out_succ p j hp]
  rcases (out_iff p p).mp h with h | ⟨d, a, b, c, e⟩
  · omega
  · by_cases hq : p * p ≤ j ∧ j % p = 0
    · have h1 : out p j = true := (out_iff p j).mpr (.inr ⟨d, a, b, by have := Nat.le_mul_of_pos_left p (show 0 < p by omega); omega, by
        have h2 : d ∣ p := Nat.dvd_of_mod_eq_zero e
        have h3 : p ∣ j := Nat.dvd_of_mod_eq_zero hq.2
        exact Nat.mod_eq_zero_of_dvd (Nat.dvd_trans h2 h3)⟩)
      simp [h1]
    · have : (decide (p * p ≤ j) && decide (j % p = 0)) = false := by
        cases hq' : (decide (p * p ≤ j) && decide (j % p = 0)) with
        | false => rfl
        | true =>
          rw [Bool.and_eq_true, decide_eq_true_eq, decide_eq_true_eq] at hq'
          exact absurd hq' hq
      rw [this, Bool.or_false]
theorem sv_getD {N p : Nat} (hp : 2 ≤ p) (hN : p < N) : (sv N p).getD p 0 = 0 ↔ out p p = true := by
  rw [List.getD_eq_getElem?_getD, sv_get hN]
  cases h : out p p with
  | true => simp
  | false => simp; omega
theorem sv_end {N r : Nat} (hr : r ≤ 22) (h : N < (r + 1) * (r + 1)) : (sv N (r + 1)).filter (fun x => x != 0) = prl N := by
  unfold sv prl
  rw [List.filter_map]
  have e : List.filter ((fun x : Int => x != 0) ∘ fun j : Nat => if out (r + 1) j = true then 0 else (j : Int)) (List.range N) = List.filter pr (List.range N) := by
    apply List.filter_congr
    intro j hj
    have hj : j < N := List.mem_range.mp hj
    have h1 : out (r + 1) j = out 23 j := by
      have : out (r + 1) j = true ↔ out 23 j = true := by
        rw [out_iff, out_iff]
        constructor
        · rintro (h | ⟨d, a, b, c, e⟩)
          · exact .inl h
          · exact .inr ⟨d, by omega, b, c, e⟩
        · rintro (h | ⟨d, a, b, c, e⟩)
          · exact .inl h
          · refine .inr ⟨d, ?_, b, c, e⟩
            rcases Nat.lt_or_ge d (r + 1) with h9 | h9
            · exact h9
            · have := Nat.mul_le_mul h9 h9
              omega
      cases h1 : out (r + 1) j <;> cases h2 : out 23 j <;> simp_all
    show ((if out (r + 1) j = true then (0 : Int) else (j : Int)) != 0) = pr j
    rw [h1]
    unfold pr
    cases h2 : out 23 j with
    | true => rfl
    | false =>
      have : ¬ j < 2 := fun q => by rw [(out_iff 23 j).mpr (.inl q)] at h2; cases h2
      simp
      omega
  rw [e]
  apply List.map_congr_left
  intro j hj
  have hp : pr j = true := (List.mem_filter.mp hj).2
  have hj : j < N := List.mem_range.mp (List.mem_filter.mp hj).1
  have h1 : out (r + 1) j = false := by
    cases h1 : out (r + 1) j with
    | false => rfl
    | true =>
      have : out 23 j = true := by
        rcases (out_iff _ _).mp h1 with h | ⟨d, a, b, c, e⟩
        · exact (out_iff _ _).mpr (.inl h)
        · exact (out_iff _ _).mpr (.inr ⟨d, by omega, b, c, e⟩)
      unfold pr at hp
      rw [this] at hp
      cases hp
  rw [h1]
  rfl
end Mine
namespace Mine
open PySem PySem.W PyProof.Rows PyProof.V
/-- the values that are ints other than 0 -/
def pick : List Value → List Value
  | [] => []
  | .int k t :: r => if k != 0 then .int k t :: pick r else pick r
  | _ :: r => pick r
theorem pick_ints : ∀ {vs : List Value} {ns : List Int}, IntsAre vs ns → IntsAre (pick vs) (ns.filter fun k => k != 0)
  | _, _, .nil => .nil
  | _, _, .cons k t r => by
    have ih := pick_ints r
    show IntsAre (if k != 0 then _ else _) (List.filter _ (k :: _))
    by_cases h : (k != 0) = true
    · rw [if_pos h, List.filter_cons_of_pos (p := fun k : Int => k != 0) h]
      exact .cons k t ih
    · rw [if_neg h, List.filter_cons_of_neg (p := fun k : Int => k != 0) h]
      exact ih
section
variable {prog : Program} {w : World} {A : Around} {s : Shared} {h₀ : Heap} {L ax : Addr} {m : Str → Option Value} {env : Env}
/-- `[p for p in <list of ints> if p]`, from its i-th item on -/
theorem comp_pick {x : Str} {p1 p2 : Pos} {scope : Scope} {cl : List (Str × Addr)} {vs : List Value} {ns : List Int} {news : List (Addr × Obj)} {Fin : List Value → List (Addr × Obj) → Prop} (hi : IntsAre vs ns) (hS : LCg.SrcAt h₀ ax vs.toArray news)
    (hk : ∀ C, (compEnvC scope cl C env).scope.kind = .function) (hl : ∀ C, (compEnvC scope cl C env).kindOf x = some .local) (hd : (x == ("__debug__" : Str)) = false)
    (ht : ∀ (C : Addr) (q : Sem Value), isTrue (.Name x p1) (compEnvC scope cl C env) q = (do let v ← q; standAt (Expr.Name x p1).pos; holding [v] (truthy v))) :
    ∀ (k i : Nat) (ys : List Value), i + k = vs.length → Fin (ys ++ pick (vs.drop i)) news →
      LCt.CompRestT prog w A h₀ L m env (.Name x p1) (.Name x p2) x scope cl s (LCg.SrcAt h₀ ax vs.toArray) (fun i v => vs.toArray[i]? = some v) Fin k i ys news
  | 0, i, ys, hik, hf => by
    have e : vs.drop i = [] := List.drop_of_length_le (by omega)
    rw [e] at hf
    exact LCt.CompRestT.zero (by simpa [pick] using hf)
  | k + 1, i, ys, hik, hf => by
    refine LCt.CompRestT.succ ?_
    intro v I oI C oC D m₂ h tk E' hv hC hx F N off ne
    have hv' : vs[i]? = some v := by simpa using hv
    have hlt : i < vs.length := by omega
    have hln : i < ns.length := by rw [← hi.length]; exact hlt
    obtain ⟨t, e⟩ := hi.get i ns[i] (by simp [hln])
    rw [e] at hv'
    cases hv'
    have ed : vs.drop i = .int ns[i] t :: vs.drop (i + 1) := by
      rw [List.drop_eq_getElem_cons hlt]
      congr 1
      have := List.getElem?_eq_getElem hlt
      rw [e] at this
      exact (Option.some.inj this).symm
    rw [ed] at hf
    refine isTrue_plain (LCgL.ld_own N (List.mem_cons_of_mem _ (List.mem_cons_self ..)) hC hx ?_ (hk C) (hl C) hd) (ht C _)
    refine truthy_int ?_
    by_cases h0 : (ns[i] != 0) = true
    · rw [if_pos h0]
      refine LCgL.ld_own (s := { s with heap := h, toks := tk }) N (List.mem_cons_of_mem _ (List.mem_cons_self ..)) hC hx ?_ (hk C) (hl C) hd
      refine LCg.CompEnd.intro F N news (fun _ h => h) off hS ?_
      refine comp_pick hi hS hk hl hd ht k (i + 1) _ (by omega) ?_
      have : pick (.int ns[i] t :: vs.drop (i + 1)) = .int ns[i] t :: pick (vs.drop (i + 1)) := if_pos h0
      rw [this] at hf
      rw [List.append_assoc]
      exact hf
    · rw [if_neg h0]
      refine LCg.CompEnd.intro F N news (fun _ h => h) off hS ?_
      refine comp_pick hi hS hk hl hd ht k (i + 1) _ (by omega) ?_
      have : pick (.int ns[i] t :: vs.drop (i + 1)) = pick (vs.drop (i + 1)) := if_neg h0
      rw [this] at hf
      exact hf
end
theorem off_one {D : Addr} : ∀ {l : List (Addr × Obj)}, LCg.Off1 D l → ∀ p ∈ l, p.1 ≠ D
  | [], _, _, h => nomatch h
  | _ :: _, x, p, h => by
    rcases List.mem_cons.mp h with rfl | h
    · exact x.1
    · exact off_one x.2 p h
end Mine
namespace Mine
open PySem PySem.W PyProof.Rows PyProof.V
/-- the claim of a def that gives a new list of zs back -/
abbrev ClmL (DP UN : Nat) (w : World) (loose : List Str) (mean : ExcName → Option Value) (mg mb : Str → Option Value) (f : Addr) (vs : List Value) (ns : List Int) : Prop :=
  ∀ (dp un : Nat) (gd : Option (List Code)) (cn : Str) (cs : Scope) (a : Addr) (ccd : Value) (cl : List (Str × Addr)) (outer : List Env) (A₀ : Around) (base h₀ : Heap) (L : Addr) (m : Str → Option Value) (news : List (Addr × Obj)) (s : Shared) (Q E : Value → Shared → Prop),
    Below A₀ base outer h₀ → Fr h₀ L s.heap m → (Mine.hd.heap_39 w.params).In h₀ → News h₀ L s.heap news → Top Mine.hd.view_39 loose mean mg mb h₀ → cs.kind = .function → dp + DP < recursionLimit → un + UN < cLine →
    (∀ (l : Addr) (us : List Value) (c : Nat) (h' : Heap) (tk' : Nat), Fr h₀ L h' m → News h₀ L h' ((l, listOf us.toArray c) :: news) → IntsAre us ns → (∀ p ∈ news, p.1 ≠ l) → Q (.ref l) { s with heap := h', toks := tk' }) →
      wpAny (model PySem.Challenge.rw_aw5007_01.prog w) (ktrTop dp un gd cn cs L a ccd cl outer) (call (.ref f) vs) Q E s
theorem range_idx {a b c : Int} {k i : Nat} (ha : 0 ≤ a) (hc : 1 ≤ c) (hn : Builtin.Range.rangeSize a b c = (k : Int)) (hi : i < k) : 0 ≤ a + (i : Int) * c ∧ a + (i : Int) * c < b := by
  have h0 : 0 ≤ (i : Int) * c := Int.mul_nonneg (by omega) (by omega)
  unfold Builtin.Range.rangeSize at hn
  rw [if_pos (by omega)] at hn
  split at hn
  · have h1 : (i : Int) ≤ (b - a - 1) / c := by omega
    have h2 := (Int.le_ediv_iff_mul_le (by omega)).mp h1
    omega
  · omega
structure Apart (l' D : Addr) (news own ow : List (Addr × Obj)) : Prop where
  a : l' ≠ D
  b : ∀ p ∈ news, p.1 ≠ D
  c : ∀ p ∈ own, p.1 ≠ D
  d : ∀ p ∈ ow, p.1 ≠ D
theorem ne_of_all_lt {l : List (Addr × Obj)} {D : Addr} (h : ∀ p ∈ l, p.1 < D) : ∀ p ∈ l, p.1 ≠ D := fun p hp => Nat.ne_of_lt (h p hp)
section
variable {prog : Program} {w : World} {A : Around} {E : Value → Shared → Prop} {s : Shared} {env : Env} {h₀ : Heap} {x : Str} {body : List Stmt} {Q : Flow → Shared → Prop}
/-- one item of the list of a loop's ledger stored anew -/
theorem set_at {Q : Unit → Shared → Prop} {L l' D : Addr} {o' : Obj} {m : Str → Option Value} {vs : List Value} {ns : List Int} {n : Nat} {news own ow : List (Addr × Obj)} {k z : Int} {t u : Tok}
    (F : Fr h₀ L s.heap m) (N : News h₀ L s.heap ((((l', o') :: (D, listOf vs.toArray n) :: news) ++ own) ++ ow)) (d : Apart l' D news own ow) (hi : IntsAre vs ns) (h0 : 0 ≤ k) (h1 : k < ns.length) (hfit : k < 2 ^ 63)
    (h : ∀ h', Fr h₀ L h' m → News h₀ L h' ((((l', o') :: (D, listOf (vs.set k.toNat (.int z u)).toArray n) :: news) ++ own) ++ ow) → IntsAre (vs.set k.toNat (.int z u)) (ns.set k.toNat z) → Q () { s with heap := h' }) :
    wpAny (model prog w) A (setItem (.ref D) (.int k t) (.int z u)) Q E s := by
  have U : Upd D (listOf vs.toArray n) (listOf (vs.set k.toNat (.int z u)).toArray n) ((((l', o') :: (D, listOf vs.toArray n) :: news) ++ own) ++ ow) ((((l', o') :: (D, listOf (vs.set k.toNat (.int z u)).toArray n) :: news) ++ own) ++ ow) := by
    refine Upd.tail d.a (Upd.head fun p hp => ?_)
    rcases List.mem_append.mp hp with hp | hp
    · rcases List.mem_append.mp hp with hp | hp
      · exact d.b p hp
      · exact d.c p hp
    · exact d.d p hp
  exact ksa_set F N U hi h0 h1 hfit fun h' F' N' i' _ _ => h h' F' N' i'
/-- a loop over a range of any step that stores 0 at its turns in one list of zs, second in the ledger -/
theorem loop_strike {r : Addr} {a b c : Int} {t u v : Tok} {k : Nat} {m₀ : Str → Option Value} {l' D : Addr} {o' : Obj} {vs : List Value} {ns : List Int} {cn : Nat} {news own : List (Addr × Obj)}
    (hh : A.handled = none) (hr : IsRange s.heap r a b c t u v) (hsmall : Builtin.Range.small a b c = true) (hn : Builtin.Range.rangeSize a b c = (k : Int))
    (F : Fr h₀ env.locals s.heap m₀) (N : News h₀ env.locals s.heap (((l', o') :: (D, listOf vs.toArray cn) :: news) ++ own)) (d1 : l' ≠ D) (d2 : ∀ p ∈ news, p.1 ≠ D) (d3 : ∀ p ∈ own, p.1 ≠ D) (hi : IntsAre vs ns) (ha : 0 ≤ a) (hc : 1 ≤ c) (hlen : (ns.length : Int) = b) (hb : b < 2 ^ 60)
    (turn : ∀ (i : Nat) (t : Tok) (us : List Value) (h : Heap) (tk : Nat) (ow : List (Addr × Obj)), i < k → Apart l' D news own ow → (0 ≤ a + (i : Int) * c ∧ a + (i : Int) * c < (strike a c i ns).length ∧ a + (i : Int) * c < 2 ^ 63) → IntsAre us (strike a c i ns) →
      Fr h₀ env.locals h (fun y => if y = x then some (.int (a + (i : Int) * c) t) else m₀ y) → News h₀ env.locals h ((((l', o') :: (D, listOf us.toArray cn) :: news) ++ own) ++ ow) →
      wpAny (model prog w) A (execs body env) (InvPostN h₀ env.locals (fun m' nx => (∃ us', nx = ((l', o') :: (D, listOf us'.toArray cn) :: news) ++ own ∧ IntsAre us' (strike a c (i + 1) ns)) ∧ ∀ z, z ≠ x → m' z = m₀ z) ow ((((l', o') :: (D, listOf vs.toArray cn) :: news) ++ own).map (·.1)) { s with heap := h, toks := tk } Q) E { s with heap := h, toks := tk })
    (done : ∀ (z : Str → Option Value) (us : List Value) (h : Heap) (tk : Nat), IntsAre us (strike a c k ns) → Fr h₀ env.locals h (fun y => if y = x then z y else m₀ y) → News h₀ env.locals h (((l', o') :: (D, listOf us.toArray cn) :: news) ++ own) → Q .next { s with heap := h, toks := tk }) :
    wpAny (model prog w) A (pyIter (.ref r)) (fun it s₂ => LoopAtV prog w A h₀ env x body Q E it s₂) E s := by
  refine wpAny_pyIter_range hr hsmall ?_
  have W : Walks prog w A s.heap.objs.size [s.heap.objs.size] [s.heap.objs.size] k (fun i v => i < k ∧ ∃ t, v = .int (a + i * c) t)
      (fun i h => IsRangeIter h s.heap.objs.size (a + (i : Nat) * c) ((k : Int) - (i : Nat)) c) := (Walks.range hh _ a c k).bound
  have off : ∀ p ∈ ((l', o') :: (D, listOf vs.toArray cn) :: news) ++ own, p.1 ∉ [s.heap.objs.size] := fun p hp hI =>
    absurd (Heap.lt_size (N p hp).1) ((List.mem_singleton.mp hI) ▸ Nat.lt_irrefl _)
  refine loop_invN (fun i m nx => (∃ us, nx = ((l', o') :: (D, listOf us.toArray cn) :: news) ++ own ∧ IntsAre us (strike a c i ns)) ∧ ∀ z, z ≠ x → m z = m₀ z) W ?_ ?_ off off
    (by show IsRangeIter _ _ _ _ _; rw [hn]; simpa using Heap.get?_push_size _ rfl) (F.push _) (fun p hp => ⟨Heap.get?_push_of_some _ (N p hp).1, (N p hp).2⟩) ⟨⟨vs, rfl, hi⟩, fun _ _ => rfl⟩ ?_ ?_
  · intro hm
    exact absurd F.ns.lt ((List.mem_singleton.mp hm) ▸ Nat.lt_irrefl _)
  · intro b' hb
    rw [List.mem_singleton.mp hb]
    exact next_is_new F
  · rintro i v m₁ nx h tk own' hi' ⟨_, t, rfl⟩ _ hoff ⟨⟨us, rfl, hI⟩, hm⟩ F₁ N₁
    have hx := range_idx ha hc hn hi'
    refine turn i t us h tk own' hi' ⟨d1, d2, d3, hoff.ne (.tail _ (.head _))⟩ ⟨hx.1, by rw [strike_length]; omega, by omega⟩ hI ?_ N₁
    have e : (fun y => if y = x then some (Value.int (a + (i : Int) * c) t) else m₁ y) = fun y => if y = x then some (Value.int (a + (i : Int) * c) t) else m₀ y := by
      funext y
      by_cases hy : y = x
      · rw [if_pos hy, if_pos hy]
      · rw [if_neg hy, if_neg hy]; exact hm y hy
    rw [← e]
    exact F₁
  · rintro m₁ nx h tk ⟨⟨us, rfl, hI⟩, hm⟩ F₁ N₁
    refine done m₁ us h tk hI ?_ N₁
    have e : (fun y => if y = x then m₁ y else m₀ y) = m₁ := by
      funext y
      by_cases hy : y = x
      · rw [if_pos hy]
      · rw [if_neg hy]; exact (hm y hy).symm
    rw [e]
    exact F₁
/-- a turn's end -/
theorem strike_end {L l' D : Addr} {o' : Obj} {m₀ m' : Str → Option Value} {vs us : List Value} {ns ms : List Int} {cn : Nat} {news own ow : List (Addr × Obj)} {a c : Int} {i : Nat} {s₁ : Shared} {h' : Heap} {tk : Nat}
    (F : Fr h₀ L h' m') (N : News h₀ L h' ((((l', o') :: (D, listOf us.toArray cn) :: news) ++ own) ++ ow)) (hi : IntsAre us ms) (e : ms = strike a c (i + 1) ns) (hm : ∀ z, z ≠ x → m' z = m₀ z) :
    InvEndN h₀ L (fun m' nx => (∃ us', nx = ((l', o') :: (D, listOf us'.toArray cn) :: news) ++ own ∧ IntsAre us' (strike a c (i + 1) ns)) ∧ ∀ z, z ≠ x → m' z = m₀ z) ow ((((l', o') :: (D, listOf vs.toArray cn) :: news) ++ own).map (·.1)) s₁ { s₁ with heap := h', toks := tk } :=
  InvEndN.intro (nx := ((l', o') :: (D, listOf us.toArray cn) :: news) ++ own) F N ⟨⟨us, rfl, e ▸ hi⟩, hm⟩ (by simp) (fun p hp => List.mem_append.mpr (.inl hp)) fun p hp => List.mem_append.mpr (.inr hp)
end
theorem small_step {a b c : Int} (ha : 0 ≤ a) (ha' : a ≤ 1000000) (hb : 0 ≤ b) (hb' : b ≤ 1000000) (hc : 1 ≤ c) (hc' : c ≤ 1000000) : Builtin.Range.small a b c = true := by
  have h9 : Builtin.Range.rangeSize a b c ≤ 1000000 ∧ 0 ≤ Builtin.Range.rangeSize a b c := by
    unfold Builtin.Range.rangeSize
    rw [if_pos (by omega)]
    split
    · rename_i h
      have h1 : 0 ≤ (b - a - 1) / c := Int.ediv_nonneg (by omega) (by omega)
      have h2 : (b - a - 1) / c ≤ b - a - 1 := Int.ediv_le_self _ (by omega)
      omega
    · omega
  unfold Builtin.Range.small
  simp only [Builtin.Range.rangeFitsLong, Bool.and_eq_true, Bool.or_eq_true, decide_eq_true_eq, beq_iff_eq]
  rw [if_pos (by omega)]
  simp only [Bool.and_eq_true, decide_eq_true_eq]
  omega
theorem sq_eq {p : Int} : p ^ (2 : Int).toNat = p * p := by
  show p ^ 2 = _
  rw [Int.pow_succ, Int.pow_succ, Int.pow_zero, Int.one_mul]
theorem sq_lo {p : Int} (h : 0 ≤ p) : 0 ≤ p ^ (2 : Int).toNat := by
  rw [sq_eq]
  exact Int.mul_nonneg h h
theorem small_sq {p N : Int} (h1 : 2 ≤ p) (h2 : p ≤ 22) (h3 : 0 ≤ N) (h4 : N ≤ 1000) : Builtin.Range.small (p ^ (2 : Int).toNat) N p = true := by
  refine small_step (sq_lo (by omega)) ?_ h3 (by omega) (by omega) (by omega)
  rw [sq_eq]
  have : p * p ≤ 22 * 22 := Int.mul_le_mul (by omega) (by omega) (by omega) (by omega)
  omega
theorem size_sq {p N : Int} (h1 : 2 ≤ p) : Builtin.Range.rangeSize (p ^ (2 : Int).toNat) N p = (((Builtin.Range.rangeSize (p ^ (2 : Int).toNat) N p).toNat : Nat) : Int) := by
  refine (Int.toNat_of_nonneg ?_).symm
  unfold Builtin.Range.rangeSize
  rw [if_pos (by omega)]
  split
  · have : 0 ≤ (N - p ^ (2 : Int).toNat - 1) / p := Int.ediv_nonneg (by omega) (by omega)
    omega
  · omega
/-- the words of the outer loop -/
theorem prl_start {n : Int} (h1 : 1 ≤ n) : ([0, 0] : List Int) ++ (rangeKs 0 (n + 1 - 0).toNat).drop 2 = sv (n + 1).toNat (([] : List Int).length + 2) := by
  have e : (n + 1 - 0).toNat = (n + 1).toNat := by omega
  rw [e]
  exact sv_start (by omega)
theorem prl_skip {n p : Int} {pre zs : List Int} (hs : zs = sv (n + 1).toNat (pre.length + 2)) (hp : p = 2 + (pre.length : Int)) (hlt : p ≤ n) (h0 : zs.getD p.toNat 0 = 0) : zs = sv (n + 1).toNat ((pre ++ [p]).length + 2) := by
  rw [List.length_append, List.length_singleton]
  subst hs
  have e : p.toNat = pre.length + 2 := by omega
  rw [e] at h0
  have := sv_skip (N := (n + 1).toNat) (p := pre.length + 2) (by omega) ((sv_getD (by omega) (by omega)).mp h0)
  exact this
theorem prl_strike {n p : Int} {pre zs : List Int} (hs : zs = sv (n + 1).toNat (pre.length + 2)) (h1 : 1 ≤ n) (hp : p = 2 + (pre.length : Int)) :
    strike (p ^ (2 : Int).toNat) p (Builtin.Range.rangeSize (p ^ (2 : Int).toNat) (n + 1) p).toNat zs = sv (n + 1).toNat ((pre ++ [p]).length + 2) := by
  rw [List.length_append, List.length_singleton]
  subst hs
  have e : p = ((pre.length + 2 : Nat) : Int) := by omega
  have e2 : n + 1 = ((n + 1).toNat : Int) := by omega
  have hk := size_sq (p := p) (N := n + 1) (by omega)
  generalize (Builtin.Range.rangeSize (p ^ (2 : Int).toNat) (n + 1) p).toNat = k at hk
  rw [e] at hk ⊢
  refine sv_strike (by omega) ?_
  rw [← hk, ← e2]
  unfold Builtin.Range.rangeSize
  rw [if_pos (by omega)]
theorem sv_fits {vs : List Value} {zs : List Int} {N i : Nat} (hi : IntsAre vs zs) (hs : zs = sv N i) (h : N ≤ 1000) : vs.toArray.size ≤ sizeLine := by
  rw [List.size_toArray, hi.length, hs, sv_length, sizeLine_eq]
  omega
theorem sv_len {n : Int} {zs : List Int} {i : Nat} (hs : zs = sv (n + 1).toNat i) (h1 : 1 ≤ n) : (zs.length : Int) = n + 1 := by
  rw [hs, sv_length]
  omega
theorem prl_end {n : Int} {zs : List Int} {j : Nat} (h1 : 1 ≤ n) (h2 : n ≤ 480) (hs : zs = sv (n + 1).toNat ((rangeKs 2 j).length + 2)) (hj : (j : Int) = isq (n + 1) + 1 - 2) (ha : isq (n + 1) ≤ 22) (hb : n + 1 < (isq (n + 1) + 1) * (isq (n + 1) + 1)) : (zs.filter fun k => k != 0) = prl (n + 1).toNat := by
  rw [rangeKs_length] at hs
  subst hs
  refine sv_end (r := j + 1) (by omega) ?_
  have e : isq (n + 1) = ((j + 1 : Nat) : Int) := by omega
  rw [e] at hb
  have e3 : (((j + 1 : Nat) : Int) + 1) * (((j + 1 : Nat) : Int) + 1) = (((j + 1 + 1) * (j + 1 + 1) : Nat) : Int) := by
    rw [Int.natCast_mul]
    rfl
  rw [e3] at hb
  omega
theorem prl_out {vs : List Value} {zs : List Int} {N : Nat} (hi : IntsAre vs zs) (e : (zs.filter fun k => k != 0) = prl N) : IntsAre (pick (vs.drop 0)) (prl N) := by
  rw [← e]
  exact pick_ints hi
theorem news_first {h₀ h : Heap} {L : Addr} {a b c : Addr × Obj} {r : List (Addr × Obj)} (N : News h₀ L h (a :: b :: c :: r)) : News h₀ L h (a :: r) := fun p hp =>
  N p ((List.mem_cons.mp hp).elim (fun e => e ▸ .head _) fun h => .tail _ (.tail _ (.tail _ h)))
theorem off_third {D : Addr} {r : List (Addr × Obj)} {P P' : Prop} (h : P ∧ P' ∧ LCg.Off1 D r) : ∀ p ∈ r, p.1 ≠ D := off_one h.2.2
section
set_option maxRecDepth 100000
local macro_rules | `(tactic| walk_at "setItem ref ref") => `(tactic| (k_here; k_dflt (refine' set_slice_K ?k1 ?k2 ?k3 ?k4 ?k5 ?k6 ?k7 ?k8 ?k9 ?k10 ?_; (case k1 => k_asm); (case k2 => k_asm); (case k3 => k_mem); (case k4 => k_upd); (case k5 => with_reducible assumption); (case k6 => exact .cons _ _ (.cons _ _ .nil)); (case k7 => rfl); (case k8 => (refine beq_eq_false_iff_ne.mpr ?_; k_ne)); (case k9 => (rw [rangeKs_length]; omega)); (case k10 => (rw [rangeKs_length]; omega)); k_whole); intro h' F' N' hi'; (try k_sweep)))
local macro_rules | `(tactic| walk_at "exec For Name Call cons nil") => `(tactic| (k_here; (rename Fr _ _ _ _ => lF'); (with_unfolding_all refine' For_invVF lF' ?k1 ?k2 ?_; (case k1 => exact rfl); (case k2 => exact rfl); k_whole)))
set_option hygiene false in
local macro_rules | `(tactic| walk_at "pyIter ref") => `(tactic| (k_here; k_dflt ((k_state (fun pre sieve => sieve = sv (n + 1).toNat (pre.length + 2)) "sieve"))))
local macro_rules | `(tactic| walk_at "pyIter ref") => `(tactic| (k_here; (show wpAny _ _ (pyIter (Value.ref _)) (fun it s₂ => LoopAtV _ _ _ _ _ (Str.ofString "j") _ _ _ it s₂) _ _); (rename Fr _ _ _ _ => lF'); (rename News _ _ _ _ => lN'); (rename IsRange _ _ _ _ _ _ _ _ => rgX); k_dflt ((refine' loop_strike rfl rgX ?k1 ?k2 lF' lN' ?k3 ?k4 ?k5 ?k6 ?k7 ?k8 ?k9 ?k10 ?_ ?_)); (case k1 => (exact small_sq (by omega) (by omega) (by omega) (by omega))); (case k2 => (exact size_sq (by omega))); (case k3 => k_ne); (case k4 => (exact ne_of_all_lt (by assumption))); (case k5 => (exact OwnOff.ne (by assumption) (List.mem_cons_of_mem _ (List.mem_cons_self ..)))); (case k6 => assumption); (case k7 => exact sq_lo (by omega)); (case k8 => omega); (case k9 => (exact sv_len (by assumption) (by assumption))); (case k10 => omega)))
local macro_rules | `(tactic| walk_at "setItem ref int") => `(tactic| (k_here; (rename Apart _ _ _ _ _ => ap9); (rename Fr _ _ _ _ => lF'); (rename News _ _ _ _ => lN'); k_dflt ((refine' set_at lF' lN' ap9 ?k1 ?k2 ?k3 ?k4 ?_)); (case k1 => assumption); (case k2 => omega); (case k3 => omega); (case k4 => omega); intro h' F' N' hi'; (try k_sweep)))
local macro_rules | `(tactic| walk_at "InvEndN") => `(tactic| ((rename Apart _ _ _ _ _ => ap9); (rename News _ _ _ _ => nE'); k_dflt ((refine' strike_end ?k1 nE' ?k2 ?k3 ?k4)); (case k1 => assumption); (case k2 => assumption); (case k3 => rfl); (case k4 => (intro z hz; exact if_neg hz))))
local macro_rules | `(tactic| walk_at "subscriptTail") => `(tactic| (k_here; (with_reducible show wpAny _ _ (subscriptTail _ _ (Value.ref _) (Value.int _ _)) _ _ _); k_dflt ((refine' ksa_sub ?k1 ?k2 ?k3 ?k4 ?k5 ?k6 ?_ ?k7; (case k1 => k_asm); (case k2 => k_mem); (case k3 => with_reducible assumption); (case k4 => omega); (case k5 => (rw [sv_len (by assumption) (by assumption)]; omega)); (case k6 => omega); (case k7 => with_unfolding_all rfl); k_whole)); intro _))
local macro_rules | `(tactic| walk_at "eval ListComp") => `(tactic| (k_here; k_dflt (refine LCt.ListComp_T (F₀ := by k_asm) (by with_unfolding_all rfl) (by decide) (by rfl) (by decide) (by rfl) ?_)))
local macro_rules | `(tactic| walk_at "CompSrcT") => `(tactic| (k_here; k_dflt ((refine' LCt.CompSrcT.ledger ?k1 ?k2 ?k3 ?k4 ?k5 ?_)); (case k1 => rfl); (case k2 => k_asm); (case k3 => k_asm); (case k4 => k_mem); (case k5 => (exact sv_fits (by assumption) (by assumption) (by omega))); intro g'; k_dflt ((refine' comp_pick ?k1 ?k2 ?k3 ?k4 ?k5 ?k6 _ 0 [] ?k7 ?_)); (case k1 => assumption); (case k2 => exact Or.inr ⟨_, by k_mem, rfl, _, rfl⟩); (case k3 => exact fun _ => rfl); (case k4 => exact fun _ => rfl); (case k5 => decide); (case k6 => exact fun _ _ => rfl); (case k7 => (simp only [List.size_toArray, Nat.zero_add]))))
local macro_rules | `(tactic| walk_at "call ref") => `(tactic| (
  k_here; (with_reducible show wpAny _ _ (PySem.call (Value.ref 35) [Value.int _ _]) _ _ _);
  k_dflt (refine' (c_isqrt _ _ _ _ _ _ _ ?h1 ?h2) _ _ _ _ _ _ _ _ _ _ _ _ _ _ _ _ _ _ ?k1 ?k2 ?k3 ?k4 ?k5 ?kK ?kd ?ku ?kR; (case h1 => omega); (case h2 => omega); (case k1 => k_asm); (case k2 => k_asm); (case k3 => k_asm); (case k4 => k_asm); (case k5 => k_asm); (case kK => first | exact rfl | assumption); (case kd => ktr_room); (case ku => ktr_units));
  rintro ⟨g1, g2, g3, g4, g5⟩ t9 h9 tk9 F9 N9; (have g5 := g5 (by omega)); (try dsimp only); (try k_fold)))
set_option maxHeartbeats 8000000 in
theorem c_list_primes (w : World) (loose : List Str) (mean : ExcName → Option Value) (mg mb : Str → Option Value) (n : Int) (tn : Tok) (h1 : 1 ≤ n) (h2 : n ≤ 480) :
  ClmL 8 60 w loose mean mg mb 54 [.int n tn] (prl (n + 1).toNat) := by
  unfold ClmL
  k_fill
  intro dp un gd cn cs a ccd cl outer A₀ base h₀ L m news s Q E B F X N T hk hd hu hret
  refine wpAny_call ?_
  k_dflt cell_enter
  k_with "state" => first | exact prl_start h1 | exact prl_strike (by assumption) h1 (by assumption) | exact prl_skip (by assumption) (by assumption) (by omega) (by assumption)
  k_steps
  all_goals (
    rename (_ ∧ _ ∧ LCg.Off1 _ _) => o9
    exact hret _ _ _ _ _ (by k_asm) (news_first (by assumption)) (prl_out (by assumption) (prl_end h1 h2 (by assumption) (by omega) (by assumption) (by assumption))) (off_third o9))
end
end Mine
namespace Mine
open PySem PySem.W PyProof.Rows PyProof.V
/-- the greatest power, in t turns -/
def pwr (m p : Int) : Nat → Int
  | 0 => p
  | t + 1 => if pwr m p t * p ≤ m then pwr m p t * p else pwr m p t
def com (m : Int) : Int := (prl (m + 1).toNat).foldl (fun a p => a * pwr m p 7) 1
theorem prl_mem {p : Int} {N : Nat} (h : p ∈ prl N) : 2 ≤ p ∧ p < N := by
  unfold prl at h
  obtain ⟨j, hj, rfl⟩ := List.mem_map.mp h
  obtain ⟨h1, h2⟩ := List.mem_filter.mp hj
  have h1 := List.mem_range.mp h1
  refine ⟨?_, by omega⟩
  rcases Nat.lt_or_ge j 2 with h3 | h3
  · unfold pr at h2
    rw [(out_iff 23 j).mpr (.inl h3)] at h2
    cases h2
  · omega
theorem pwr_rng {m p : Int} (h1 : 1 ≤ p) (h2 : p ≤ m) : ∀ t, 1 ≤ pwr m p t ∧ pwr m p t ≤ m
  | 0 => ⟨h1, h2⟩
  | t + 1 => by
    have ih := pwr_rng h1 h2 t
    unfold pwr
    split
    · rename_i h
      refine ⟨?_, h⟩
      have := Int.mul_le_mul ih.1 h1 (by omega) (by omega)
      omega
    · exact ih
theorem prime_bits {p : Int} {N : Nat} (h : p ∈ prl N) (hN : N ≤ 1000) : PySem.Builtin.Int.intBits p ≤ 64 := by
  have := prl_mem h
  exact PySem.intBits_le_64 (by omega) (by omega)
theorem pwr_bits {n p q : Int} {t : Nat} (h : p ∈ prl (n + 1).toNat) (hn : n ≤ 1000) (e : q = pwr n p t) : PySem.Builtin.Int.intBits q ≤ 64 := by
  have h1 := prl_mem h
  have := pwr_rng (m := n) (p := p) (by omega) (by omega) t
  exact PySem.intBits_le_64 (by omega) (by omega)
theorem pwr_yes {n p q : Int} {pre : List Int} {k : Int} (e : q = pwr n p pre.length) (h : q * p ≤ n) : q * p = pwr n p (pre ++ [k]).length := by
  rw [List.length_append, List.length_singleton, pwr, ← e, if_pos h]
theorem pwr_no {n p q : Int} {pre : List Int} {k : Int} (e : q = pwr n p pre.length) (h : ¬ q * p ≤ n) : q = pwr n p (pre ++ [k]).length := by
  rw [List.length_append, List.length_singleton, pwr, ← e, if_neg h]
theorem com_turn {n p q a : Int} {pre : List Int} {z : Int} (ea : a = pre.foldl (fun a p => a * pwr n p 7) 1) (eq : q = pwr n p (rangeKs z 7).length) : a * q = (pre ++ [p]).foldl (fun a p => a * pwr n p 7) 1 := by
  rw [rangeKs_length] at eq
  rw [List.foldl_append, ← ea, eq]
  rfl
theorem com_end {n a : Int} (h : a = (prl (n + 1).toNat).foldl (fun a p => a * pwr n p 7) 1) : a = com n := h
section
set_option maxRecDepth 100000
local macro_rules | `(tactic| walk_at "exec For Name Call cons nil") => `(tactic| (k_here; (rename Fr _ _ _ _ => lF'); (with_unfolding_all refine' For_invVF lF' ?k1 ?k2 ?_; (case k1 => exact rfl); (case k2 => exact rfl); k_whole)))
set_option hygiene false in
local macro_rules | `(tactic| walk_at "pyIter ref") => `(tactic| (k_here; (show wpAny _ _ (pyIter (Value.ref _)) (fun it s₂ => LoopAtV _ _ _ _ _ (Str.ofString "prime") _ _ _ it s₂) _ _); k_dflt ((k_state (fun pre found => found = pre.foldl (fun a p => a * pwr n p 7) 1) "found"))))
set_option hygiene false in
local macro_rules | `(tactic| walk_at "pyIter ref") => `(tactic| (k_here; (show wpAny _ _ (pyIter (Value.ref _)) (fun it s₂ => LoopAtV _ _ _ _ _ (Str.ofString "turn") _ _ _ it s₂) _ _); k_dflt ((k_state_short (fun pre power => power = pwr n kN pre.length) "power"))))
local macro_rules | `(tactic| walk_at "binaryOp Mult int int") => `(tactic| (k_here; k_dflt ((first | refine mul_int ?_ (PySem.IntMulOk.of_right (prime_bits (by assumption) (by omega))) | refine mul_int ?_ (PySem.IntMulOk.of_right (pwr_bits (by assumption) (by omega) (by assumption)))))))
local macro_rules | `(tactic| walk_at "call ref") => `(tactic| (
  k_here; (with_reducible show wpAny _ _ (PySem.call (Value.ref 54) [Value.int _ _]) _ _ _);
  k_dflt (refine' (c_list_primes _ _ _ _ _ _ _ ?h1 ?h2) _ _ _ _ _ _ _ _ _ _ _ _ _ _ _ _ _ _ ?k1 ?k2 ?k3 ?k4 ?k5 ?kK ?kd ?ku ?kR; (case h1 => omega); (case h2 => omega); (case k1 => k_asm); (case k2 => k_asm); (case k3 => k_asm); (case k4 => k_asm); (case k5 => k_asm); (case kK => first | exact rfl | assumption); (case kd => ktr_room); (case ku => ktr_units));
  intro l9 us9 c9 h9 tk9 F9 N9 i9 o9; (try dsimp only); (try k_fold)))
set_option maxHeartbeats 8000000 in
theorem c_law_common (w : World) (loose : List Str) (mean : ExcName → Option Value) (mg mb : Str → Option Value) (n : Int) (tn : Tok) (h1 : 1 ≤ n) (h2 : n ≤ 240) :
  ClmN 12 90 w loose mean mg mb 62 [.int n tn] True (fun t => .int (com n) t) := by
  unfold ClmN
  k_fill
  intro dp un gd cn cs a ccd cl outer A₀ base h₀ L m news s Q E B F X N T hk hd hu hret
  replace hret := hret trivial
  refine wpAny_call ?_
  k_dflt cell_enter
  k_with "state" => first | exact rfl | exact pwr_yes (by assumption) (by assumption) | exact pwr_no (by assumption) (by assumption) | exact com_turn (by assumption) (by assumption)
  k_steps
  all_goals exact cb_retI hret (com_end (by assumption)) (by k_asm) (cb_drop (by assumption) (fun p hp => List.mem_cons_of_mem _ hp))
end
end Mine
namespace Mine
open PySem PySem.W PyProof.Rows PyProof.V
def prt (M : Int) : Nat → Int
  | 0 => 1
  | i + 1 => prt M i * com (M.fdiv ((i : Int) + 1))
theorem fdiv_rng {M k : Int} (h1 : 1 ≤ k) (h2 : k ≤ M) : 1 ≤ M.fdiv k ∧ M.fdiv k ≤ M := by
  rw [Int.fdiv_eq_ediv_of_nonneg _ (by omega)]
  refine ⟨(Int.le_ediv_iff_mul_le (by omega)).mpr (by omega), Int.ediv_le_self _ (by omega)⟩
-- sizes
theorem bits_of_le {a : Int} {k : Nat} (h0 : 1 ≤ a) (h : a ≤ 2 ^ k) (hk : k + 1 ≤ 2 ^ 20) : PySem.Builtin.Int.intBits a ≤ 2 ^ 20 := by
  unfold PySem.Builtin.Int.intBits
  split
  · exact Nat.zero_le _
  · have h1 : a.natAbs ≤ 2 ^ k := by
      have e : ((2 ^ k : Nat) : Int) = (2 : Int) ^ k := Int.natCast_pow 2 k
      have h2 : (a.natAbs : Int) = a := Int.natAbs_of_nonneg (by omega)
      rw [← e] at h
      omega
    have h2 : a.natAbs < 2 ^ (k + 1) := by
      have : 0 < 2 ^ k := Nat.pow_pos (by decide)
      rw [Nat.pow_succ]
      omega
    have h3 : a.natAbs.log2 < k + 1 := (Nat.log2_lt (by omega)).mpr h2
    omega
theorem mul_pow_le {a b : Int} {j k : Nat} (ha : 1 ≤ a) (ha' : a ≤ 2 ^ j) (hb : 1 ≤ b) (hb' : b ≤ 2 ^ k) : 1 ≤ a * b ∧ a * b ≤ 2 ^ (j + k) := by
  refine ⟨?_, ?_⟩
  · have := Int.mul_le_mul ha hb (by omega) (by omega)
    omega
  · rw [Int.pow_add]
    exact Int.mul_le_mul ha' hb' (by omega) (by omega)
theorem fold_bd {m : Int} (hm : m ≤ 2 ^ 8) : ∀ (l : List Int) (a : Int) (k : Nat), (∀ p ∈ l, 1 ≤ p ∧ p ≤ m) → 1 ≤ a → a ≤ 2 ^ k →
    1 ≤ l.foldl (fun a p => a * pwr m p 7) a ∧ l.foldl (fun a p => a * pwr m p 7) a ≤ 2 ^ (k + 8 * l.length)
  | [], a, k, _, h1, h2 => ⟨h1, by simpa using h2⟩
  | p :: r, a, k, h, h1, h2 => by
    have hp := h p (.head _)
    have hq := pwr_rng hp.1 hp.2 7
    have hx := mul_pow_le (k := 8) h1 h2 hq.1 (by omega)
    have := fold_bd hm r (a * pwr m p 7) (k + 8) (fun q hq => h q (.tail _ hq)) hx.1 hx.2
    rw [List.foldl_cons, List.length_cons]
    have e : k + 8 * (r.length + 1) = k + 8 + 8 * r.length := by omega
    rw [e]
    exact this
theorem prl_len (N : Nat) : (prl N).length ≤ N := by
  unfold prl
  rw [List.length_map]
  refine Nat.le_trans (List.length_filter_le _ _) ?_
  rw [List.length_range]
  exact Nat.le_refl _
theorem pow_mono {a : Int} {j k : Nat} (h : a ≤ 2 ^ j) (hjk : j ≤ k) : a ≤ 2 ^ k := by
  refine Int.le_trans h ?_
  have e1 : ((2 ^ j : Nat) : Int) = (2 : Int) ^ j := Int.natCast_pow 2 j
  have e2 : ((2 ^ k : Nat) : Int) = (2 : Int) ^ k := Int.natCast_pow 2 k
  rw [← e1, ← e2]
  exact Int.ofNat_le.mpr (Nat.pow_le_pow_right (by decide) hjk)
theorem com_bd {m : Int} (h1 : 1 ≤ m) (h2 : m ≤ 240) : 1 ≤ com m ∧ com m ≤ 2 ^ 1928 := by
  have h := fold_bd (m := m) (by omega) (prl (m + 1).toNat) 1 0 (fun p hp => by have := prl_mem hp; omega) (by decide) (by decide)
  refine ⟨h.1, pow_mono h.2 ?_⟩
  have := prl_len (m + 1).toNat
  omega
theorem prt_bd {M : Int} (h2 : M ≤ 240) : ∀ i : Nat, (i : Int) ≤ M → 1 ≤ prt M i ∧ prt M i ≤ 2 ^ (1928 * i)
  | 0, _ => ⟨Int.le_refl _, by show (1 : Int) ≤ 2 ^ 0; decide⟩
  | i + 1, h => by
    have ih := prt_bd h2 i (by omega)
    have hq := fdiv_rng (M := M) (k := (i : Int) + 1) (by omega) (by omega)
    have hc := com_bd hq.1 (by omega)
    have hx := mul_pow_le ih.1 ih.2 hc.1 hc.2
    have e : 1928 * (i + 1) = 1928 * i + 1928 := by omega
    rw [e]
    exact hx
theorem dfac_bd : ∀ n : Nat, n ≤ 256 → 1 ≤ dfac n ∧ dfac n ≤ 2 ^ (8 * n)
  | 0, _ => ⟨by decide, by decide⟩
  | 1, _ => ⟨by decide, by decide⟩
  | n + 2, h => by
    have ih := dfac_bd n (by omega)
    have hx := mul_pow_le (b := (n : Int) + 2) (k := 8) ih.1 ih.2 (by omega) (by omega)
    exact ⟨hx.1, pow_mono hx.2 (by omega)⟩
-- the dict
/-- what holds of the dict after i turns -/
def Fnd (M : Int) (i : Nat) (c : List (Int × Int)) : Prop := (∀ q, kdfHas c q = true → kdfLook c q 0 = com q) ∧ c.length ≤ i ∧ (1 ≤ i → kdfHas c M = true)
theorem look_put {c : List (Int × Int)} {k v j : Int} (h : kdfHas c k = false) : kdfLook (kdfPut c k v) j 0 = if j = k then v else kdfLook c j 0 := by
  unfold kdfPut kdfLook
  unfold kdfHas at h
  rw [if_neg (by rw [h]; decide), List.find?_append]
  by_cases hj : j = k
  · subst hj
    have : (c.find? fun p => decide (p.1 = j)) = none := by
      rw [List.find?_eq_none]
      intro p hp q
      have := List.any_eq_false.mp h p hp
      exact this q
    rw [this]
    simp
  · have : ([(k, v)].find? fun p => decide (p.1 = j)) = none := by
      simp
      exact fun q => hj q.symm
    rw [this, if_neg hj]
    cases (c.find? fun p => decide (p.1 = j)) <;> rfl
theorem fdiv_one (M : Int) : M.fdiv ((0 : Nat) + 1 : Int) = M := by
  show M.fdiv 1 = M
  exact Int.fdiv_one M
theorem fnd_zero {M : Int} : Fnd M 0 [] := by
  refine ⟨fun q h => ?_, Nat.le_refl _, fun h => absurd h (by decide)⟩
  cases h
theorem fnd_put {M q : Int} {i : Nat} {c : List (Int × Int)} (h : Fnd M i c) (hq : q = M.fdiv ((i : Int) + 1)) (hn : kdfHas c q = false) : Fnd M (i + 1) (kdfPut c q (com q)) := by
  refine ⟨fun j hj => ?_, ?_, fun _ => ?_⟩
  · rw [look_put hn]
    by_cases e : j = q
    · rw [if_pos e, e]
    · rw [if_neg e]
      rw [kdyHas_put] at hj
      exact h.1 j (by simpa [e] using hj)
  · have := kdfPut_len c q (com q)
    have := h.2.1
    omega
  · rw [kdyHas_put]
    rcases Nat.eq_zero_or_pos i with e | e
    · subst e
      have : M = q := by rw [hq]; exact (fdiv_one M).symm
      rw [decide_eq_true this]
      rfl
    · rw [h.2.2 e, Bool.or_true]
theorem fnd_keep {M q : Int} {i : Nat} {c : List (Int × Int)} (h : Fnd M i c) (hq : q = M.fdiv ((i : Int) + 1)) (hn : kdfHas c q = true) : Fnd M (i + 1) c := by
  refine ⟨h.1, Nat.le_succ_of_le h.2.1, fun _ => ?_⟩
  rcases Nat.eq_zero_or_pos i with e | e
  · subst e
    have : M = q := by rw [hq]; exact (fdiv_one M).symm
    rw [this]
    exact hn
  · exact h.2.2 e
theorem fnd_size {M : Int} {i : Nat} {c : List (Int × Int)} (h : Fnd M i c) (hi : i ≤ 1000) : c.length ≤ 16777216 := by
  have := h.2.1
  omega
-- the products' sizes
theorem parts_mul {M b q : Int} {i : Nat} (hb : b = prt M i) (hM : M ≤ 240) (hi : (i : Int) ≤ M) (h1 : 1 ≤ q) (h2 : q ≤ 240) : PySem.IntMulOk b (com q) := by
  have hp := prt_bd hM i hi
  have hc := com_bd h1 h2
  rw [hb]
  exact PySem.IntMulOk.of_bits (bits_of_le hp.1 hp.2 (by omega)) (bits_of_le hc.1 hc.2 (by omega))
-- a turn of the law's loop
theorem law_start {M : Int} : (1 : Int) = fac ([] : List Int).length ∧ (1 : Int) = prt M ([] : List Int).length ∧ Fnd M ([] : List Int).length [] := ⟨rfl, rfl, fnd_zero⟩
theorem law_put {M a b k : Int} {pre : List Int} {c : List (Int × Int)} (ha : a = fac pre.length) (hb : b = prt M pre.length) (h : Fnd M pre.length c) (hk : k = 1 + (pre.length : Int)) (hn : kdfHas c (M.fdiv k) = false) :
    a * k = fac (pre ++ [k]).length ∧ b * com (M.fdiv k) = prt M (pre ++ [k]).length ∧ Fnd M (pre ++ [k]).length (kdfPut c (M.fdiv k) (com (M.fdiv k))) := by
  have e : k = (pre.length : Int) + 1 := by omega
  rw [List.length_append, List.length_singleton]
  refine ⟨by rw [ha, e]; rfl, by rw [hb, e]; rfl, fnd_put h (by rw [e]) hn⟩
theorem law_keep {M a b k : Int} {pre : List Int} {c : List (Int × Int)} (ha : a = fac pre.length) (hb : b = prt M pre.length) (h : Fnd M pre.length c) (hk : k = 1 + (pre.length : Int)) (hn : kdfHas c (M.fdiv k) = true) :
    a * k = fac (pre ++ [k]).length ∧ b * com (M.fdiv k) = prt M (pre ++ [k]).length ∧ Fnd M (pre ++ [k]).length c := by
  have e : k = (pre.length : Int) + 1 := by omega
  rw [List.length_append, List.length_singleton]
  refine ⟨by rw [ha, e]; rfl, by rw [hb, e]; rfl, fnd_keep h (by rw [e]) hn⟩
-- the plain law's words
/-- the product of the primes up to M among some -/
def prm (M : Int) (l : List Int) : Int := l.foldl (fun a p => if p ≤ M then a * p else a) 1
theorem prm_yes {M a p : Int} {pre : List Int} (e : a = prm M pre) (h : p ≤ M) : a * p = prm M (pre ++ [p]) := by
  unfold prm at e ⊢
  rw [List.foldl_append, ← e]
  exact (if_pos h).symm
theorem prm_no {M a p : Int} {pre : List Int} (e : a = prm M pre) (h : ¬ p ≤ M) : a = prm M (pre ++ [p]) := by
  unfold prm at e ⊢
  rw [List.foldl_append, ← e]
  exact (if_neg h).symm
theorem dfac_mul {a b : Nat} (ha : a ≤ 256) (hb : b ≤ 256) : PySem.IntMulOk (dfac a) (dfac b) := by
  have h1 := dfac_bd a ha
  have h2 := dfac_bd b hb
  exact PySem.IntMulOk.of_bits (bits_of_le h1.1 h1.2 (by omega)) (bits_of_le h2.1 h2.2 (by omega))
theorem dfac_fac : ∀ n : Nat, dfac (n + 1) * dfac n = fac (n + 1)
  | 0 => rfl
  | n + 1 => by
    have ih := dfac_fac n
    have e : dfac (n + 2) = dfac n * ((n : Int) + 2) := rfl
    have e2 : fac (n + 1 + 1) = fac (n + 1) * (((n + 1 : Nat) : Int) + 1) := rfl
    have e3 : (((n + 1 : Nat) : Int) + 1) = (n : Int) + 2 := by omega
    rw [e, e2, ← ih, e3, Int.mul_comm (dfac (n + 1)) (dfac n), Int.mul_assoc, Int.mul_assoc, Int.mul_comm ((n : Int) + 2)]
section
variable {prog : Program} {w : World} {A : Around} {E : Value → Shared → Prop} {s : Shared} {d : Addr} {c : List (Int × Int)} {M : Int} {tk : Tok}
/-- an item of the dict, by what holds of it -/
theorem fnd_item {q : Int} {i : Nat} {value slice : PySem.Expr} {Q : Value → Shared → Prop} (T : PyProof.Rows.IntTab prog w s.heap d (kdfD c)) (hF : Fnd M i c) (hk : kdfHas c q = true) (h : ∀ t, Q (.int (com q) t) { s with toks := s.toks + 1 })
    (hs : subscripted slice false (.ref d) (.int q tk) = operate [.ref d, .int q tk] (getItem (.ref d) (.int q tk)) := by with_unfolding_all rfl) (hg : ∀ r, letTemporaryGo value (.ref d) r = pure () := by intro _; with_unfolding_all rfl) :
    wpAny (model prog w) A (subscriptTail value slice (.ref d) (.int q tk)) Q E s :=
  kdf_item T hk (fun t => by rw [hF.1 q hk]; exact h t) hs hg
theorem put_item {q v : Int} {value slice : PySem.Expr} {Q : Value → Shared → Prop} (T : PyProof.Rows.IntTab prog w s.heap d (kdfD (kdfPut c q v))) (hn : kdfHas c q = false) (h : ∀ t, Q (.int v t) { s with toks := s.toks + 1 })
    (hs : subscripted slice false (.ref d) (.int q tk) = operate [.ref d, .int q tk] (getItem (.ref d) (.int q tk)) := by with_unfolding_all rfl) (hg : ∀ r, letTemporaryGo value (.ref d) r = pure () := by intro _; with_unfolding_all rfl) :
    wpAny (model prog w) A (subscriptTail value slice (.ref d) (.int q tk)) Q E s :=
  kdf_item T (kdfHas_put _ _ _) (fun t => by rw [look_put hn, if_pos rfl]; exact h t) hs hg
theorem item_last {value slice : PySem.Expr} {h₀ : Heap} {L l : Addr} {news : List (Addr × Obj)} {vs : List Value} {ns : List Int} {n : Nat} {Q : Value → Shared → Prop} (N : News h₀ L s.heap news) (hm : (l, listOf vs.toArray n) ∈ news) (hi : IntsAre vs ns) (h1 : -(ns.length : Int) ≤ -1) (h : ∀ t, Q (.int (ns.getD (-1 + (ns.length : Int)).toNat 0) t) s)
    (hs : subscripted slice false (.ref l) (.int (-1) tk) = operate [.ref l, .int (-1) tk] (getItem (.ref l) (.int (-1) tk)) := by with_unfolding_all rfl) (hg : ∀ r, letTemporaryGo value (.ref l) r = pure () := by intro _; with_unfolding_all rfl) :
    wpAny (model prog w) A (subscriptTail value slice (.ref l) (.int (-1) tk)) Q E s :=
  item_list_ints_neg (PySem.IsL.isList (n := n) (N _ hm).1) hi (by decide) h1 (by decide) h hs hg
/-- a comparison whose answer is known -/
theorem ne_known {a b : Int} {t u : Tok} {Q : Value → Shared → Prop} (e : a = b) (h : Q (.bool false) s) : wpAny (model prog w) A (compareOp .NotEq (.int a t) (.int b u)) Q E s := by
  refine ne_int ?_
  rw [e, bne_self_eq_false]
  exact h
theorem gt_known {a b : Int} {t u : Tok} {Q : Value → Shared → Prop} (e : a = b) (h : Q (.bool false) s) : wpAny (model prog w) A (compareOp .Gt (.int a t) (.int b u)) Q E s := by
  refine gt_int ?_
  rw [decide_eq_false (by omega)]
  exact h
theorem lt_known {a b : Int} {t u : Tok} {Q : Value → Shared → Prop} (e : a < b) (h : Q (.bool true) s) : wpAny (model prog w) A (compareOp .Lt (.int a t) (.int b u)) Q E s := by
  refine lt_int ?_
  rw [decide_eq_true e]
  exact h
theorem le_known {a b : Int} {t u : Tok} {Q : Value → Shared → Prop} (e : a ≤ b) (h : Q (.bool true) s) : wpAny (model prog w) A (compareOp .LtE (.int a t) (.int b u)) Q E s := by
  refine le_int ?_
  rw [decide_eq_true e]
  exact h
end
section
variable {prog : Program} {w : World} {A : Around} {s : Shared} {h₀ : Heap} {L : Addr} {m : Str → Option Value} {env : Env}
/-- a comprehension over a range whose test is False at every turn -/
theorem comp_none {x : Str} {ct elt : PySem.Expr} {scope : Scope} {cl : List (Str × Addr)} {a : Int} {news : List (Addr × Obj)} {Fin : List Value → List (Addr × Obj) → Prop} {n : Nat}
    (step : ∀ (i : Nat) (t : Tok) I oI C oC D m₂ h tk (E' : Value → Shared → Prop) (Rst : List (Addr × Obj) → Prop) (R2 : Value → Shared → Prop), i < n → LCg.NsObj oC m₂ → m₂ x = some (.int (a + (i : Int)) t) → Fr h₀ L h m → News h₀ L h ((I, oI) :: (C, oC) :: (D, LCg.lst []) :: news) → LCg.Off3 I C D news → ((@Ne Nat I C) ∧ (@Ne Nat I D) ∧ (@Ne Nat C D)) → Rst news →
      wpAny (model prog w) A (isTrue ct (compEnvC scope cl C env) (eval ct (compEnvC scope cl C env))) (fun ok s' => if ok = true then
        wpAny (model prog w) A (eval elt (compEnvC scope cl C env)) R2 E' s'
        else LCg.CompEnd h₀ L m { s with heap := h, toks := tk } I oI C oC D (LCg.lst []) (fun _ => True) (fun _ news' => Rst news') Value.none s') E' { s with heap := h, toks := tk }) :
    ∀ (k i : Nat), i + k = n → Fin [] news → LCt.CompRestT prog w A h₀ L m env ct elt x scope cl s (fun _ => True) (fun i v => ∃ t, v = .int (a + (i : Int)) t) Fin k i [] news
  | 0, _, _, hf => LCt.CompRestT.zero hf
  | k + 1, i, hik, hf => by
    refine LCt.CompRestT.succ ?_
    rintro v I oI C oC D m₂ h tk E' ⟨t, rfl⟩ hC hx F N off ne
    exact step i t I oI C oC D m₂ h tk E' (fun news' => LCt.CompRestT prog w A h₀ L m env ct elt x scope cl s (fun _ => True) (fun i v => ∃ t, v = .int (a + (i : Int)) t) Fin k (i + 1) [] news') _ (by omega) hC hx F N off ne
      (comp_none step k (i + 1) (by omega) hf)
end
section
variable {prog : Program} {w : World} {A : Around} {E : Value → Shared → Prop} {s : Shared}
theorem add_rest {a : Int} {t u : Tok} {Q : Value → Shared → Prop} (h : ∀ M : Int, 1 ≤ M → M ≤ 240 → Q (.int M s.toks) { s with toks := s.toks + 1 }) : wpAny (model prog w) A (binaryOp .Add (.int 1 t) (.int (a.fmod 240) u)) Q E s := by
  refine add_int (h _ ?_ ?_)
  · have := Int.fmod_nonneg_of_pos a (show (0 : Int) < 240 by decide)
    omega
  · have := Int.fmod_lt_of_pos a (show (0 : Int) < 240 by decide)
    omega
end
end Mine
namespace Mine
open PySem PySem.W PyProof.Rows PyProof.V
/-- the primes below 481 -/
def pl : List Nat := [2, 3, 5, 7, 11, 13, 17, 19, 23, 29, 31, 37, 41, 43, 47, 53, 59, 61, 67, 71, 73, 79, 83, 89, 97, 101, 103, 107, 109, 113, 127, 131, 137, 139, 149, 151, 157, 163, 167, 173, 179, 181, 191, 193, 197, 199, 211, 223, 227, 229, 233, 239, 241, 251, 257, 263, 269, 271, 277, 281, 283, 293, 307, 311, 313, 317, 331, 337, 347, 349, 353, 359, 367, 373, 379, 383, 389, 397, 401, 409, 419, 421, 431, 433, 439, 443, 449, 457, 461, 463, 467, 479]
set_option maxRecDepth 100000 in
theorem pl_ok : (List.range 481).filter pr = pl := by decide +kernel
theorem prl_pl {N : Nat} (h : N ≤ 481) : prl N = (pl.filter (fun j => decide (j < N))).map (fun j : Nat => (j : Int)) := by
  unfold prl
  congr 1
  rw [← pl_ok, List.filter_filter]
  have e : List.range 481 = List.range N ++ (List.range (481 - N)).map (fun x => N + x) := by
    rw [← List.range_add]
    congr 1
    omega
  rw [e, List.filter_append]
  have e2 : List.filter (fun a => decide (a < N) && pr a) ((List.range (481 - N)).map (fun x => N + x)) = [] := by
    rw [List.filter_eq_nil_iff]
    intro a ha
    obtain ⟨x, _, rfl⟩ := List.mem_map.mp ha
    rw [decide_eq_false (by omega), Bool.false_and]
    exact Bool.false_ne_true
  rw [e2, List.append_nil]
  apply List.filter_congr
  intro a ha
  rw [decide_eq_true (List.mem_range.mp ha), Bool.true_and]
/-- a number's value first, then f of it (for the kernel) -/
def first (q : Nat) (f : Nat → Nat) : Nat := match q with
  | 0 => f 0
  | n + 1 => f (n + 1)
theorem first_eq (q : Nat) (f : Nat → Nat) : first q f = f q := by cases q <;> rfl
def pwrN (m p : Nat) : Nat → Nat
  | 0 => p
  | t + 1 => first (pwrN m p t) fun q => if q * p ≤ m then q * p else q
theorem pwr_cast (m p : Nat) : ∀ t, pwr (m : Int) (p : Int) t = (pwrN m p t : Int)
  | 0 => rfl
  | t + 1 => by
    rw [pwr, pwrN, first_eq, pwr_cast m p t, ← Int.natCast_mul]
    by_cases h : pwrN m p t * p ≤ m
    · rw [if_pos h, if_pos (by omega)]
    · rw [if_neg h, if_neg (by omega)]
def comN (m : Nat) : Nat := (pl.filter (fun j => decide (j < m + 1))).foldl (fun a p => a * pwrN m p 7) 1
theorem fold_cast (m : Nat) : ∀ (l : List Nat) (a : Nat), (l.map (fun j : Nat => (j : Int))).foldl (fun a p => a * pwr (m : Int) p 7) (a : Int) = ((l.foldl (fun a p => a * pwrN m p 7) a : Nat) : Int)
  | [], _ => rfl
  | p :: r, a => by
    rw [List.map_cons, List.foldl_cons, List.foldl_cons, pwr_cast, ← Int.natCast_mul]
    exact fold_cast m r _
theorem com_cast {m : Nat} (h : m ≤ 240) : com (m : Int) = (comN m : Int) := by
  unfold com comN
  have e : ((m : Int) + 1).toNat = m + 1 := by omega
  rw [e, prl_pl (by omega)]
  exact fold_cast m _ 1
/-- the products for 0, 1, .. 240 -/
def tab : List Nat := [1, 1, 2, 6, 12, 60, 60, 420, 840, 2520, 2520, 27720, 27720, 360360, 360360, 360360, 720720, 12252240, 12252240, 232792560, 232792560, 232792560, 232792560, 5354228880, 5354228880, 26771144400, 26771144400, 80313433200, 80313433200, 2329089562800, 2329089562800, 72201776446800, 144403552893600, 144403552893600, 144403552893600, 144403552893600, 144403552893600, 5342931457063200, 5342931457063200, 5342931457063200, 5342931457063200, 219060189739591200, 219060189739591200, 9419588158802421600, 9419588158802421600, 9419588158802421600, 9419588158802421600, 442720643463713815200, 442720643463713815200, 3099044504245996706400, 3099044504245996706400, 3099044504245996706400, 3099044504245996706400, 164249358725037825439200, 164249358725037825439200, 164249358725037825439200, 164249358725037825439200, 164249358725037825439200, 164249358725037825439200, 9690712164777231700912800, 9690712164777231700912800, 591133442051411133755680800, 591133442051411133755680800, 591133442051411133755680800, 1182266884102822267511361600, 1182266884102822267511361600, 1182266884102822267511361600, 79211881234889091923261227200, 79211881234889091923261227200, 79211881234889091923261227200, 79211881234889091923261227200, 5624043567677125526551547131200, 5624043567677125526551547131200, 410555180440430163438262940577600, 410555180440430163438262940577600, 410555180440430163438262940577600, 410555180440430163438262940577600, 410555180440430163438262940577600, 410555180440430163438262940577600, 32433859254793982911622772305630400, 32433859254793982911622772305630400, 97301577764381948734868316916891200, 97301577764381948734868316916891200, 8076030954443701744994070304101969600, 8076030954443701744994070304101969600, 8076030954443701744994070304101969600, 8076030954443701744994070304101969600, 8076030954443701744994070304101969600, 8076030954443701744994070304101969600, 718766754945489455304472257065075294400, 718766754945489455304472257065075294400, 718766754945489455304472257065075294400, 718766754945489455304472257065075294400, 718766754945489455304472257065075294400, 718766754945489455304472257065075294400, 718766754945489455304472257065075294400, 718766754945489455304472257065075294400, 69720375229712477164533808935312303556800, 69720375229712477164533808935312303556800, 69720375229712477164533808935312303556800, 69720375229712477164533808935312303556800, 7041757898200960193617914702466542659236800, 7041757898200960193617914702466542659236800, 725301063514698899942645214354053893901390400, 725301063514698899942645214354053893901390400, 725301063514698899942645214354053893901390400, 725301063514698899942645214354053893901390400, 77607213796072782293863037935883766647448772800, 77607213796072782293863037935883766647448772800, 8459186303771933270031071135011330564571916235200, 8459186303771933270031071135011330564571916235200, 8459186303771933270031071135011330564571916235200, 8459186303771933270031071135011330564571916235200, 955888052326228459513511038256280353796626534577600, 955888052326228459513511038256280353796626534577600, 955888052326228459513511038256280353796626534577600, 955888052326228459513511038256280353796626534577600, 955888052326228459513511038256280353796626534577600, 955888052326228459513511038256280353796626534577600, 955888052326228459513511038256280353796626534577600, 955888052326228459513511038256280353796626534577600, 10514768575588513054648621420819083891762891880353600, 10514768575588513054648621420819083891762891880353600, 10514768575588513054648621420819083891762891880353600, 10514768575588513054648621420819083891762891880353600, 52573842877942565273243107104095419458814459401768000, 52573842877942565273243107104095419458814459401768000, 6676878045498705789701874602220118271269436344024536000, 13353756090997411579403749204440236542538872688049072000, 13353756090997411579403749204440236542538872688049072000, 13353756090997411579403749204440236542538872688049072000, 1749342047920660916901891145781670987072592322134428432000, 1749342047920660916901891145781670987072592322134428432000, 1749342047920660916901891145781670987072592322134428432000, 1749342047920660916901891145781670987072592322134428432000, 1749342047920660916901891145781670987072592322134428432000, 1749342047920660916901891145781670987072592322134428432000, 239659860565130545615559086972088925228945148132416695184000, 239659860565130545615559086972088925228945148132416695184000, 33312720618553145840562713089120360606823375590405920630576000, 33312720618553145840562713089120360606823375590405920630576000, 33312720618553145840562713089120360606823375590405920630576000, 33312720618553145840562713089120360606823375590405920630576000, 33312720618553145840562713089120360606823375590405920630576000, 33312720618553145840562713089120360606823375590405920630576000, 33312720618553145840562713089120360606823375590405920630576000, 33312720618553145840562713089120360606823375590405920630576000, 33312720618553145840562713089120360606823375590405920630576000, 33312720618553145840562713089120360606823375590405920630576000, 4963595372164418730243844250278933730416682962970482173955824000, 4963595372164418730243844250278933730416682962970482173955824000, 749502901196827228266820481792118993292919127408542808267329424000, 749502901196827228266820481792118993292919127408542808267329424000, 749502901196827228266820481792118993292919127408542808267329424000, 749502901196827228266820481792118993292919127408542808267329424000, 749502901196827228266820481792118993292919127408542808267329424000, 749502901196827228266820481792118993292919127408542808267329424000, 117671955487901874837890815641362681946988303003141220897970719568000, 117671955487901874837890815641362681946988303003141220897970719568000, 117671955487901874837890815641362681946988303003141220897970719568000, 117671955487901874837890815641362681946988303003141220897970719568000, 117671955487901874837890815641362681946988303003141220897970719568000, 117671955487901874837890815641362681946988303003141220897970719568000, 19180528744528005598576202949542117157359093389512019006369227289584000, 19180528744528005598576202949542117157359093389512019006369227289584000, 19180528744528005598576202949542117157359093389512019006369227289584000, 19180528744528005598576202949542117157359093389512019006369227289584000, 3203148300336176934962225892573533565278968596048507174063660957360528000, 3203148300336176934962225892573533565278968596048507174063660957360528000, 41640927904370300154508936603455936348626591748630593262827592445686864000, 41640927904370300154508936603455936348626591748630593262827592445686864000, 41640927904370300154508936603455936348626591748630593262827592445686864000, 41640927904370300154508936603455936348626591748630593262827592445686864000, 7203880527456061926730046032397876988312400372513092634469173493103827472000, 7203880527456061926730046032397876988312400372513092634469173493103827472000, 7203880527456061926730046032397876988312400372513092634469173493103827472000, 7203880527456061926730046032397876988312400372513092634469173493103827472000, 7203880527456061926730046032397876988312400372513092634469173493103827472000, 7203880527456061926730046032397876988312400372513092634469173493103827472000, 1289494614414635084884678239799219980907919666679843581569982055265585117488000, 1289494614414635084884678239799219980907919666679843581569982055265585117488000, 233398525209048950364126761403658816544333459669051688264166752003070906265328000, 233398525209048950364126761403658816544333459669051688264166752003070906265328000, 233398525209048950364126761403658816544333459669051688264166752003070906265328000, 233398525209048950364126761403658816544333459669051688264166752003070906265328000, 233398525209048950364126761403658816544333459669051688264166752003070906265328000, 233398525209048950364126761403658816544333459669051688264166752003070906265328000, 233398525209048950364126761403658816544333459669051688264166752003070906265328000, 233398525209048950364126761403658816544333459669051688264166752003070906265328000, 233398525209048950364126761403658816544333459669051688264166752003070906265328000, 233398525209048950364126761403658816544333459669051688264166752003070906265328000, 44579118314928349519548211428098833959967690796788872458455849632586543096677648000, 44579118314928349519548211428098833959967690796788872458455849632586543096677648000, 8603769834781171457272804805623074954273764323780252384481978979089202817658786064000, 8603769834781171457272804805623074954273764323780252384481978979089202817658786064000, 8603769834781171457272804805623074954273764323780252384481978979089202817658786064000, 8603769834781171457272804805623074954273764323780252384481978979089202817658786064000, 1694942657451890777082742546707745765991931571784709719742949858880572955078780854608000, 1694942657451890777082742546707745765991931571784709719742949858880572955078780854608000, 337293588832926264639465766794841407432394382785157234228847021917234018060677390066992000, 337293588832926264639465766794841407432394382785157234228847021917234018060677390066992000, 337293588832926264639465766794841407432394382785157234228847021917234018060677390066992000, 337293588832926264639465766794841407432394382785157234228847021917234018060677390066992000, 337293588832926264639465766794841407432394382785157234228847021917234018060677390066992000, 337293588832926264639465766794841407432394382785157234228847021917234018060677390066992000, 337293588832926264639465766794841407432394382785157234228847021917234018060677390066992000, 337293588832926264639465766794841407432394382785157234228847021917234018060677390066992000, 337293588832926264639465766794841407432394382785157234228847021917234018060677390066992000, 337293588832926264639465766794841407432394382785157234228847021917234018060677390066992000, 337293588832926264639465766794841407432394382785157234228847021917234018060677390066992000, 337293588832926264639465766794841407432394382785157234228847021917234018060677390066992000, 71168947243747441838927276793711536968235214767668176422286721624536377810802929304135312000, 71168947243747441838927276793711536968235214767668176422286721624536377810802929304135312000, 71168947243747441838927276793711536968235214767668176422286721624536377810802929304135312000, 71168947243747441838927276793711536968235214767668176422286721624536377810802929304135312000, 71168947243747441838927276793711536968235214767668176422286721624536377810802929304135312000, 71168947243747441838927276793711536968235214767668176422286721624536377810802929304135312000, 71168947243747441838927276793711536968235214767668176422286721624536377810802929304135312000, 71168947243747441838927276793711536968235214767668176422286721624536377810802929304135312000, 71168947243747441838927276793711536968235214767668176422286721624536377810802929304135312000, 71168947243747441838927276793711536968235214767668176422286721624536377810802929304135312000, 71168947243747441838927276793711536968235214767668176422286721624536377810802929304135312000, 71168947243747441838927276793711536968235214767668176422286721624536377810802929304135312000, 15870675235355679530080782724997672743916452893190003342169938922271612251809053234822174576000, 15870675235355679530080782724997672743916452893190003342169938922271612251809053234822174576000, 15870675235355679530080782724997672743916452893190003342169938922271612251809053234822174576000, 15870675235355679530080782724997672743916452893190003342169938922271612251809053234822174576000, 3602643278425739253328337678574471712869034806754130758672576135355655981160655084304633628752000, 3602643278425739253328337678574471712869034806754130758672576135355655981160655084304633628752000, 825005310759494289012189328393554022247008970746695943736019934996445219685790014305761100984208000, 825005310759494289012189328393554022247008970746695943736019934996445219685790014305761100984208000, 825005310759494289012189328393554022247008970746695943736019934996445219685790014305761100984208000, 825005310759494289012189328393554022247008970746695943736019934996445219685790014305761100984208000, 192226237406962169339840113515698087183553090183980154890492644854171736186789073333242336529320464000, 192226237406962169339840113515698087183553090183980154890492644854171736186789073333242336529320464000, 192226237406962169339840113515698087183553090183980154890492644854171736186789073333242336529320464000, 192226237406962169339840113515698087183553090183980154890492644854171736186789073333242336529320464000, 192226237406962169339840113515698087183553090183980154890492644854171736186789073333242336529320464000, 192226237406962169339840113515698087183553090183980154890492644854171736186789073333242336529320464000, 45942070740263958472221787130251842836869188553971257018827742120147044948642588526644918430507590896000, 45942070740263958472221787130251842836869188553971257018827742120147044948642588526644918430507590896000]
set_option maxRecDepth 100000 in
theorem tab_a : ∀ i, i < 80 → tab[0 + i]? = some (comN (0 + i)) := by decide +kernel
set_option maxRecDepth 100000 in
theorem tab_b : ∀ i, i < 50 → tab[80 + i]? = some (comN (80 + i)) := by decide +kernel
set_option maxRecDepth 100000 in
theorem tab_c : ∀ i, i < 40 → tab[130 + i]? = some (comN (130 + i)) := by decide +kernel
set_option maxRecDepth 100000 in
theorem tab_d : ∀ i, i < 40 → tab[170 + i]? = some (comN (170 + i)) := by decide +kernel
set_option maxRecDepth 100000 in
theorem tab_e : ∀ i, i < 31 → tab[210 + i]? = some (comN (210 + i)) := by decide +kernel
theorem tab_get {m : Nat} (h : m ≤ 240) : tab[m]? = some (comN m) := by
  rcases Nat.lt_or_ge m 80 with h1 | h1
  · have := tab_a m h1
    rwa [Nat.zero_add] at this
  · rcases Nat.lt_or_ge m 130 with h2 | h2
    · have := tab_b (m - 80) (by omega)
      rwa [Nat.add_sub_cancel' h1] at this
    · rcases Nat.lt_or_ge m 170 with h3 | h3
      · have := tab_c (m - 130) (by omega)
        rwa [Nat.add_sub_cancel' h2] at this
      · rcases Nat.lt_or_ge m 210 with h4 | h4
        · have := tab_d (m - 170) (by omega)
          rwa [Nat.add_sub_cancel' h3] at this
        · have := tab_e (m - 210) (by omega)
          rwa [Nat.add_sub_cancel' h4] at this
/-- one check a number: its own multiples, its two bounds -/
def chk : Nat → List Nat → Bool
  | _, [] => true
  | m, c :: r => (List.range m).all (fun k => Nat.beq (c % (k + 1)) 0) && Nat.ble (2 ^ (m - 1)) c && Nat.ble (c + 1) (3 ^ m) && chk (m + 1) r
set_option maxRecDepth 100000 in
theorem chk_ok : chk 1 (tab.drop 1) = true := by decide +kernel
theorem chk_at : ∀ (l : List Nat) (m i c : Nat), chk m l = true → l[i]? = some c → (∀ k, k < m + i → c % (k + 1) = 0) ∧ 2 ^ (m + i - 1) ≤ c ∧ c < 3 ^ (m + i)
  | [], _, _, _, _, h => by cases h
  | x :: r, m, 0, c, h, e => by
    cases e
    rw [chk, Bool.and_eq_true, Bool.and_eq_true, Bool.and_eq_true] at h
    refine ⟨fun k hk => ?_, Nat.le_of_ble_eq_true h.1.1.2, Nat.le_of_ble_eq_true h.1.2⟩
    exact Nat.eq_of_beq_eq_true (List.all_eq_true.mp h.1.1.1 k (List.mem_range.mpr hk))
  | x :: r, m, i + 1, c, h, e => by
    rw [chk, Bool.and_eq_true] at h
    have := chk_at r (m + 1) i c h.2 e
    have e2 : m + 1 + i = m + (i + 1) := by omega
    rw [e2] at this
    exact this
theorem chk_com {m : Nat} (h1 : 1 ≤ m) (h2 : m ≤ 240) : (∀ k, k < m → comN m % (k + 1) = 0) ∧ 2 ^ (m - 1) ≤ comN m ∧ comN m < 3 ^ m := by
  have := chk_at (tab.drop 1) 1 (m - 1) (comN m) chk_ok (by
    rw [List.getElem?_drop]
    have e : 1 + (m - 1) = m := by omega
    rw [e]
    exact tab_get h2)
  have e : 1 + (m - 1) = m := by omega
  rw [e] at this
  exact this
theorem common_law {M k : Int} (h1 : 1 ≤ M) (h2 : M ≤ 240) (h3 : 1 ≤ k) (h4 : k ≤ M) : (com M).fmod k = 0 := by
  obtain ⟨m, rfl⟩ : ∃ m : Nat, M = m := ⟨M.toNat, by omega⟩
  obtain ⟨j, rfl⟩ : ∃ j : Nat, k = ((j + 1 : Nat) : Int) := ⟨(k - 1).toNat, by omega⟩
  rw [com_cast (by omega), Int.fmod_eq_emod_of_nonneg _ (by omega), ← Int.natCast_emod, (chk_com (m := m) (by omega) (by omega)).1 j (by omega)]
  rfl
theorem low_law {M : Int} (h1 : 1 ≤ M) (h2 : M ≤ 240) : (2 : Int) ^ (M - 1).toNat ≤ com M := by
  obtain ⟨m, rfl⟩ : ∃ m : Nat, M = m := ⟨M.toNat, by omega⟩
  have e : ((m : Int) - 1).toNat = m - 1 := by omega
  have e2 : ((2 ^ (m - 1) : Nat) : Int) = (2 : Int) ^ (m - 1) := Int.natCast_pow 2 _
  rw [com_cast (by omega), e, ← e2]
  exact Int.ofNat_le.mpr (chk_com (m := m) (by omega) (by omega)).2.1
theorem high_law {M : Int} (h1 : 1 ≤ M) (h2 : M ≤ 240) : com M < (3 : Int) ^ M.toNat := by
  obtain ⟨m, rfl⟩ : ∃ m : Nat, M = m := ⟨M.toNat, by omega⟩
  have e2 : ((3 ^ m : Nat) : Int) = (3 : Int) ^ m := Int.natCast_pow 3 _
  rw [com_cast (by omega), Int.toNat_natCast, ← e2]
  exact Int.ofNat_lt.mpr (chk_com (m := m) (by omega) (by omega)).2.2
-- Chebyshev
def prtN (m : Nat) : Nat → Nat
  | 0 => 1
  | i + 1 => prtN m i * tab.getD (m / (i + 1)) 0
def facN : Nat → Nat
  | 0 => 1
  | n + 1 => facN n * (n + 1)
theorem fac_cast : ∀ n, fac n = (facN n : Int)
  | 0 => rfl
  | n + 1 => by
    rw [fac, facN, fac_cast n, Int.natCast_mul]
    rfl
theorem prt_cast {m : Nat} (h : m ≤ 240) : ∀ i, i ≤ m → prt (m : Int) i = (prtN m i : Int)
  | 0, _ => rfl
  | i + 1, hi => by
    have hle : m / (i + 1) ≤ m := Nat.div_le_self _ _
    have e : (m : Int).fdiv ((i : Int) + 1) = ((m / (i + 1) : Nat) : Int) := by
      rw [Int.fdiv_eq_ediv_of_nonneg _ (by omega)]
      rfl
    rw [prt, prtN, prt_cast h i (by omega), e, com_cast (by omega), List.getD_eq_getElem?_getD, tab_get (by omega), Int.natCast_mul]
    rfl
set_option maxRecDepth 100000 in
theorem cheb_a : ∀ i, i < 100 → prtN (0 + i) (0 + i) = facN (0 + i) := by decide +kernel
set_option maxRecDepth 100000 in
theorem cheb_b : ∀ i, i < 60 → prtN (100 + i) (100 + i) = facN (100 + i) := by decide +kernel
set_option maxRecDepth 100000 in
theorem cheb_c : ∀ i, i < 40 → prtN (160 + i) (160 + i) = facN (160 + i) := by decide +kernel
set_option maxRecDepth 100000 in
theorem cheb_d : ∀ i, i < 41 → prtN (200 + i) (200 + i) = facN (200 + i) := by decide +kernel
theorem cheb {m : Nat} (h : m ≤ 240) : prtN m m = facN m := by
  rcases Nat.lt_or_ge m 100 with h1 | h1
  · have := cheb_a m h1
    rwa [Nat.zero_add] at this
  · rcases Nat.lt_or_ge m 160 with h2 | h2
    · have := cheb_b (m - 100) (by omega)
      rwa [Nat.add_sub_cancel' h1] at this
    · rcases Nat.lt_or_ge m 200 with h3 | h3
      · have := cheb_c (m - 160) (by omega)
        rwa [Nat.add_sub_cancel' h2] at this
      · have := cheb_d (m - 200) (by omega)
        rwa [Nat.add_sub_cancel' h3] at this
theorem parts_law {M : Int} (h1 : 1 ≤ M) (h2 : M ≤ 240) : prt M M.toNat = fac M.toNat := by
  obtain ⟨m, rfl⟩ : ∃ m : Nat, M = m := ⟨M.toNat, by omega⟩
  rw [Int.toNat_natCast, prt_cast (by omega) m (Nat.le_refl _), fac_cast, cheb (by omega)]
-- Erdos, Bertrand
def prmN (m : Nat) (l : List Nat) (a : Nat) : Nat := l.foldl (fun a p => if p ≤ m then a * p else a) a
theorem prm_cast (m : Nat) : ∀ (l : List Nat) (a : Nat), (l.map (fun j : Nat => (j : Int))).foldl (fun a p => if p ≤ (m : Int) then a * p else a) (a : Int) = (prmN m l a : Int)
  | [], _ => rfl
  | p :: r, a => by
    unfold prmN
    rw [List.map_cons, List.foldl_cons, List.foldl_cons]
    by_cases h : p ≤ m
    · rw [if_pos h, if_pos (by omega), ← Int.natCast_mul]
      exact prm_cast m r _
    · rw [if_neg h, if_neg (by omega)]
      exact prm_cast m r _
def upto (m : Nat) : List Nat := pl.filter (fun j => decide (j < 2 * m + 1))
set_option maxRecDepth 100000 in
theorem erdos_a : ∀ m, m < 150 → 1 ≤ m → prmN m (upto m) 1 < 4 ^ m := by decide +kernel
set_option maxRecDepth 100000 in
theorem erdos_b : ∀ i, i < 91 → prmN (150 + i) (upto (150 + i)) 1 < 4 ^ (150 + i) := by decide +kernel
theorem erdos_ok (m : Nat) (h : m < 241) (h1 : 1 ≤ m) : prmN m (upto m) 1 < 4 ^ m := by
  rcases Nat.lt_or_ge m 150 with h2 | h2
  · exact erdos_a m h2 h1
  · have := erdos_b (m - 150) (by omega)
    rwa [Nat.add_sub_cancel' h2] at this
set_option maxRecDepth 100000 in
theorem bert_a : ∀ m, m < 150 → 1 ≤ m → m < (upto m).getD ((upto m).length - 1) 0 := by decide +kernel
set_option maxRecDepth 100000 in
theorem bert_b : ∀ i, i < 91 → 150 + i < (upto (150 + i)).getD ((upto (150 + i)).length - 1) 0 := by decide +kernel
theorem bert_ok (m : Nat) (h : m < 241) (h1 : 1 ≤ m) : m < (upto m).getD ((upto m).length - 1) 0 := by
  rcases Nat.lt_or_ge m 150 with h2 | h2
  · exact bert_a m h2 h1
  · have := bert_b (m - 150) (by omega)
    rwa [Nat.add_sub_cancel' h2] at this
theorem prl_upto {M : Int} {m : Nat} (e : M = (m : Int)) (h : m ≤ 240) : prl (2 * M + 1).toNat = (upto m).map (fun j : Nat => (j : Int)) := by
  subst e
  have e : (2 * (m : Int) + 1).toNat = 2 * m + 1 := by omega
  rw [e, prl_pl (by omega)]
  rfl
theorem erdos_law {M : Int} (h1 : 1 ≤ M) (h2 : M ≤ 240) : prm M (prl (2 * M + 1).toNat) < (4 : Int) ^ M.toNat := by
  obtain ⟨m, rfl⟩ : ∃ m : Nat, M = m := ⟨M.toNat, by omega⟩
  rw [prl_upto rfl (by omega)]
  have e2 : ((4 ^ m : Nat) : Int) = (4 : Int) ^ m := Int.natCast_pow 4 _
  rw [Int.toNat_natCast, ← e2]
  unfold prm
  have := prm_cast m (upto m) 1
  rw [show ((1 : Nat) : Int) = 1 from rfl] at this
  rw [this]
  exact Int.ofNat_lt.mpr (erdos_ok m (by omega) (by omega))
theorem last_len {M : Int} (h1 : 1 ≤ M) : -((prl (2 * M + 1).toNat).length : Int) ≤ -1 := by
  have : 0 < (prl (2 * M + 1).toNat).length := by
    apply List.length_pos_of_mem (a := 2)
    unfold prl
    exact List.mem_map.mpr ⟨2, List.mem_filter.mpr ⟨List.mem_range.mpr (by omega), by decide⟩, rfl⟩
  omega
theorem last_at {M : Int} (h1 : 1 ≤ M) : (-1 + ((prl (2 * M + 1).toNat).length : Int)).toNat = (prl (2 * M + 1).toNat).length - 1 ∧ (prl (2 * M + 1).toNat).length - 1 < (prl (2 * M + 1).toNat).length := by
  have := last_len h1
  omega
theorem last_hi {M : Int} (h1 : 1 ≤ M) (_h2 : M ≤ 240) : (prl (2 * M + 1).toNat).getD (-1 + ((prl (2 * M + 1).toNat).length : Int)).toNat 0 ≤ 2 * M := by
  have h := last_at h1
  rw [h.1, List.getD_eq_getElem?_getD, List.getElem?_eq_getElem h.2, Option.getD_some]
  have := prl_mem (List.getElem_mem h.2)
  omega
theorem last_lo {M : Int} (h1 : 1 ≤ M) (h2 : M ≤ 240) : M < (prl (2 * M + 1).toNat).getD (-1 + ((prl (2 * M + 1).toNat).length : Int)).toNat 0 := by
  rw [(last_at h1).1]
  obtain ⟨m, rfl⟩ : ∃ m : Nat, M = m := ⟨M.toNat, by omega⟩
  rw [prl_upto rfl (by omega), List.length_map]
  have h := bert_ok m (by omega) (by omega)
  rw [List.getD_eq_getElem?_getD] at h ⊢
  rw [List.getElem?_map]
  cases q : (upto m)[(upto m).length - 1]? with
  | none => rw [q] at h; simp at h
  | some x =>
    rw [q] at h
    simp at h ⊢
    omega
end Mine
namespace Mine
open PySem PySem.W PyProof.Rows PyProof.V
theorem end_fac {M a : Int} {j : Nat} (h1 : 1 ≤ M) (h : a = fac (rangeKs 1 j).length) (hj : (j : Int) = M) : fac M.toNat = a := by
  rw [rangeKs_length] at h
  have : M.toNat = j := by omega
  rw [this, h]
theorem end_dfac {M a : Int} {j : Nat} (h1 : 1 ≤ M) (h : a = fac (rangeKs 1 j).length) (hj : (j : Int) = M) : dfac M.toNat * dfac (M - 1).toNat = a := by
  rw [← end_fac h1 h hj]
  have e : M.toNat = (M - 1).toNat + 1 := by omega
  rw [e]
  exact dfac_fac _
theorem end_prt {M a b : Int} {j : Nat} (h1 : 1 ≤ M) (h2 : M ≤ 240) (h : a = fac (rangeKs 1 j).length) (hb : b = prt M (rangeKs 1 j).length) (hj : (j : Int) = M) : b = a := by
  rw [← end_fac h1 h hj, ← parts_law h1 h2, hb, rangeKs_length]
  have : M.toNat = j := by omega
  rw [this]
theorem end_has {M : Int} {j : Nat} {c : List (Int × Int)} (h1 : 1 ≤ M) (h : Fnd M (rangeKs 1 j).length c) (hj : (j : Int) = M) : kdfHas c M = true := by
  rw [rangeKs_length] at h
  exact h.2.2 (by omega)
theorem end_erdos {M a : Int} (h1 : 1 ≤ M) (h2 : M ≤ 240) (h : a = prm M (prl (2 * M + 1).toNat)) : a < (4 : Int) ^ M.toNat := by
  rw [h]
  exact erdos_law h1 h2
section
set_option maxRecDepth 100000
set_option hygiene false in
local macro_rules | `(tactic| walk_at "binaryOp Add int int") => `(tactic| (k_here; (refine add_rest ?_); intro M hM1 hM2))
local macro_rules | `(tactic| walk_at "exec For Name Call cons nil") => `(tactic| (k_here; (rename Fr _ _ _ _ => lF'); (with_unfolding_all refine' For_invVF lF' ?k1 ?k2 ?_; (case k1 => exact rfl); (case k2 => exact rfl); k_whole)))
local macro_rules | `(tactic| walk_at "exec For Name Name cons nil") => `(tactic| (k_here; (rename Fr _ _ _ _ => lF'); (with_unfolding_all refine' For_invVF lF' ?k1 ?k2 ?_; (case k1 => exact rfl); (case k2 => exact rfl); k_whole)))
set_option hygiene false in
local macro_rules | `(tactic| walk_at "pyIter ref") => `(tactic| (k_here; (show wpAny _ _ (pyIter (Value.ref _)) (fun it s₂ => LoopAtV _ _ _ _ _ (Str.ofString "k") _ _ _ it s₂) _ _); k_dflt ((k_state (fun pre product parts found => product = fac pre.length ∧ parts = prt M pre.length ∧ Fnd M pre.length found) "product" "parts" "found"))))
set_option hygiene false in
local macro_rules | `(tactic| walk_at "pyIter ref") => `(tactic| (k_here; (show wpAny _ _ (pyIter (Value.ref _)) (fun it s₂ => LoopAtV _ _ _ _ _ (Str.ofString "prime") _ _ _ it s₂) _ _); k_dflt ((k_state (fun pre product => product = prm M pre) "product"))))
local macro_rules | `(tactic| walk_at "binaryOp FloorDiv int int") => `(tactic| (k_here; (refine floordiv_int (by omega) ?_ (Or.inl (PyProof.noPylong_small (by omega))))))
local macro_rules | `(tactic| walk_at "compareOp NotIn int ref") => `(tactic| (k_here; kdf_here; k_dflt (refine kdf_notin (by k_tabat) ?_)))
local macro_rules | `(tactic| walk_at "binaryOp Mult int int") => `(tactic| (k_here; k_dflt (first
  | refine mul_int ?_ (PySem.IntMulOk.of_right (prime_bits (by with_reducible assumption) (by omega)))
  | refine mul_int ?_ (PySem.IntMulOk.of_left (by decide))
  | refine mul_int ?_ (PySem.IntMulOk.of_right (PySem.intBits_le_64 (by omega) (by omega))))))
local macro_rules | `(tactic| walk_at "binaryOp Mult int int") => `(tactic| (k_here; (with_reducible show wpAny _ _ (binaryOp _ (Value.int (dfac _) _) (Value.int (dfac _) _)) _ _ _); k_dflt (refine mul_int ?_ (dfac_mul (by omega) (by omega)))))
local macro_rules | `(tactic| walk_at "binaryOp Mult int int") => `(tactic| (k_here; (with_reducible show wpAny _ _ (binaryOp _ (Value.int _ _) (Value.int (com _) _)) _ _ _); k_dflt (refine mul_int ?_ (parts_mul (by with_reducible assumption) (by with_reducible assumption) (by omega) (fdiv_rng (by omega) (by omega)).1 (Int.le_trans (fdiv_rng (by omega) (by omega)).2 (by omega))))))
local macro_rules | `(tactic| walk_at "subscriptTail") => `(tactic| (k_here; kdf_here; (with_reducible show wpAny _ _ (subscriptTail _ _ (Value.ref _) (Value.int _ _)) _ _ _); k_dflt (first
  | refine put_item (by k_tabat) (by with_reducible assumption) ?_
  | refine fnd_item (by k_tabat) (by with_reducible assumption) (by with_reducible assumption) ?_
  | refine fnd_item (by k_tabat) (by with_reducible assumption) (end_has (by with_reducible assumption) (by with_reducible assumption) (by omega)) ?_); intro _))
local macro_rules | `(tactic| walk_at "subscriptTail") => `(tactic| (k_here; (with_reducible show wpAny _ _ (subscriptTail _ _ (Value.ref _) (Value.int (-1) _)) _ _ _); (rename News _ _ _ _ => lN'); k_dflt ((refine' item_last lN' ?k1 ?k2 ?k3 ?_ ?k4 ?k5; (case k1 => k_mem); (case k2 => assumption); (case k3 => exact last_len (by with_reducible assumption)); (case k4 => with_unfolding_all rfl); (case k5 => (intro _; with_unfolding_all rfl)))); intro _))
local macro_rules | `(tactic| walk_at "setItem ref int") => `(tactic| (k_here; kdf_here; (with_reducible show wpAny _ _ (setItem (Value.ref _) (Value.int _ _) (Value.int _ _)) _ _ _); k_dflt (refine' kdf_setItem ?F ?N ?U ?d ?f ?z ?_; (case F => k_asm); (case N => k_asm); (case U => k_updF); (case d => k_asm); (case f => k_asm); (case z => (exact fnd_size (by with_reducible assumption) (by omega)))); intro h' o' kvs' F' N' hd' hf'; (try dsimp only at N')))
local macro_rules | `(tactic| walk_at "compareOp NotEq int int") => `(tactic| (k_here; k_dflt (first
  | refine ne_known (end_fac (by with_reducible assumption) (by with_reducible assumption) (by omega)) ?_
  | refine ne_known (end_dfac (by with_reducible assumption) (by with_reducible assumption) (by omega)) ?_
  | refine ne_known (end_prt (by with_reducible assumption) (by with_reducible assumption) (by with_reducible assumption) (by with_reducible assumption) (by omega)) ?_)))
local macro_rules | `(tactic| walk_at "InvEndN") => `(tactic| (k_dflt kst_close))
local macro_rules | `(tactic| walk_at "compareOp Gt int int") => `(tactic| (k_here; k_dflt (refine gt_known (common_law (by with_reducible assumption) (by with_reducible assumption) (by omega) (by omega)) ?_)))
local macro_rules | `(tactic| walk_at "compareOp LtE int int") => `(tactic| (k_here; k_dflt (first | refine le_known (low_law (by with_reducible assumption) (by with_reducible assumption)) ?_ | refine le_known (last_hi (by with_reducible assumption) (by with_reducible assumption)) ?_)))
local macro_rules | `(tactic| walk_at "compareOp Lt int int") => `(tactic| (k_here; k_dflt (first | refine lt_known (high_law (by with_reducible assumption) (by with_reducible assumption)) ?_ | refine lt_known (end_erdos (by with_reducible assumption) (by with_reducible assumption) (by with_reducible assumption)) ?_ | refine lt_known (last_lo (by with_reducible assumption) (by with_reducible assumption)) ?_)))
local macro_rules | `(tactic| walk_at "eval ListComp") => `(tactic| (k_here; k_dflt ((refine LCt.ListComp_T (F₀ := by k_asm) (by with_unfolding_all rfl) (by decide) (by rfl) (by decide) (by rfl) ?_))))
local macro_rules | `(tactic| walk_at "CompSrcT") => `(tactic| (k_here; k_dflt ((refine' LCt.CompSrcT.range ?k1 ?k2 ?k3 ?k4 ?k5 ?k6 ?k7 ?_)); (case k1 => rfl); (case k2 => k_asm); (case k3 => k_asm); (case k4 => assumption); (case k5 => exact small_step (by omega) (by omega) (by omega) (by omega) (by omega) (by omega)); (case k6 => exact rangeSize_nat _ _); (case k7 => (rw [sizeLine_eq]; omega)); intro g'; k_dflt ((refine' comp_none ?_ _ 0 ?k7 ?_)); (case k7 => exact Nat.zero_add _); (case' _ => intro i8 t8 I8 oI8 C8 oC8 D8 m8 h8 tk8 E8 Rst8 R28 hi8 hC8 hx8 F8 N8 off8 ne8 hR8)))
local macro_rules | `(tactic| walk_at "call ref") => `(tactic| (
  k_here; (with_reducible show wpAny _ _ (PySem.call (Value.ref 62) [Value.int (Int.fdiv _ _) _]) _ _ _);
  k_dflt (refine' (c_law_common _ _ _ _ _ _ _ ?h1 ?h2) _ _ _ _ _ _ _ _ _ _ _ _ _ _ _ _ _ _ ?k1 ?k2 ?k3 ?k4 ?k5 ?kK ?kd ?ku ?_; (case h1 => exact (fdiv_rng (by omega) (by omega)).1); (case h2 => exact Int.le_trans (fdiv_rng (by omega) (by omega)).2 (by omega)); (case k1 => k_asm); (case k2 => k_asm); (case k3 => k_asm); (case k4 => k_asm); (case k5 => k_asm); (case kK => first | exact rfl | assumption); (case kd => ktr_room); (case ku => ktr_units));
  intro g9 t9 h9 tk9 F9 N9; (try dsimp only); (try k_fold)))
local macro_rules | `(tactic| walk_at "call ref") => `(tactic| (
  k_here; (with_reducible show wpAny _ _ (PySem.call (Value.ref 49) [Value.int _ _]) _ _ _);
  k_dflt (refine' (c_ifac _ _ _ _ _ _ _ ?h1 ?h2) _ _ _ _ _ _ _ _ _ _ _ _ _ _ _ _ _ _ ?k1 ?k2 ?k3 ?k4 ?k5 ?kK ?kd ?ku ?_; (case h1 => omega); (case h2 => omega); (case k1 => k_asm); (case k2 => k_asm); (case k3 => k_asm); (case k4 => k_asm); (case k5 => k_asm); (case kK => first | exact rfl | assumption); (case kd => ktr_room); (case ku => ktr_units));
  intro g9 t9 h9 tk9 F9 N9; (try dsimp only); (try k_fold)))
local macro_rules | `(tactic| walk_at "call ref") => `(tactic| (
  k_here; (with_reducible show wpAny _ _ (PySem.call (Value.ref 42) [Value.int _ _]) _ _ _);
  k_dflt (refine' (c_ifac2 _ _ _ _ _ _ _ ?h1 ?h2) _ _ _ _ _ _ _ _ _ _ _ _ _ _ _ _ _ _ ?k1 ?k2 ?k3 ?k4 ?k5 ?kK ?kd ?ku ?_; (case h1 => omega); (case h2 => omega); (case k1 => k_asm); (case k2 => k_asm); (case k3 => k_asm); (case k4 => k_asm); (case k5 => k_asm); (case kK => first | exact rfl | assumption); (case kd => ktr_room); (case ku => ktr_units));
  intro g9 t9 h9 tk9 F9 N9; (try dsimp only); (try k_fold)))
local macro_rules | `(tactic| walk_at "call ref") => `(tactic| (
  k_here; (with_reducible show wpAny _ _ (PySem.call (Value.ref 54) [Value.int _ _]) _ _ _);
  k_dflt (refine' (c_list_primes _ _ _ _ _ _ _ ?h1 ?h2) _ _ _ _ _ _ _ _ _ _ _ _ _ _ _ _ _ _ ?k1 ?k2 ?k3 ?k4 ?k5 ?kK ?kd ?ku ?_; (case h1 => omega); (case h2 => omega); (case k1 => k_asm); (case k2 => k_asm); (case k3 => k_asm); (case k4 => k_asm); (case k5 => k_asm); (case kK => first | exact rfl | assumption); (case kd => ktr_room); (case ku => ktr_units));
  intro l9 us9 c9 h9 tk9 F9 N9 i9 o9; (try dsimp only); (try k_fold)))
set_option maxHeartbeats 8000000 in
theorem law_holds : PySem.Challenge.rw_aw5007_01.Holds := Mine.hd (by
  k_go0
  all_goals try k_fold
  k_with "state" => first | exact law_start | exact law_put (by with_reducible assumption) (by with_reducible assumption) (by with_reducible assumption) (by with_reducible assumption) (by with_reducible assumption) | exact law_keep (by with_reducible assumption) (by with_reducible assumption) (by with_reducible assumption) (by with_reducible assumption) (by with_reducible assumption) | exact rfl | exact prm_yes (by with_reducible assumption) (by with_reducible assumption) | exact prm_no (by with_reducible assumption) (by with_reducible assumption)
  k_steps)
end
end Mine
theorem PySem.Challenge.cw_aw5007_01_holds : PySem.Challenge.rw_aw5007_01.Holds :=
  Mine.law_holds
