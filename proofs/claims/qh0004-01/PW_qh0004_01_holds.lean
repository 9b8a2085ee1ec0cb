import PyProof.Rows.All
import Wide.All
import OpenK.AllK
import Wide.FinOn
import Lean
import PySem.Challenge.RW_qh0004_01
set_option Elab.async false
namespace Mine

/-- times x, reduced by f (of degree 24) -/
def mx (f p : Nat) : Nat := if 16777216 ≤ 2 * p then (2 * p) ^^^ f else 2 * p
/-- the rest by f, by Horner's rule -/
def rem (f : Nat) (n : Nat) : Nat := if n = 0 then 0 else mx f (rem f (n / 2)) ^^^ (n % 2)
termination_by n
decreasing_by omega
def mxs (f : Nat) : Nat → Nat → Nat
  | 0, p => p
  | k + 1, p => mx f (mxs f k p)

structure Frm (f : Nat) : Prop where
  lo : 16777216 ≤ f
  hi : f < 33554432
  odd : f % 2 = 1

theorem xor_div2 (a b : Nat) : (a ^^^ b) / 2 = a / 2 ^^^ b / 2 := by
  have := Nat.xor_div_two_pow (a := a) (b := b) (n := 1); simpa using this
theorem xor_mod2 (a b : Nat) : (a ^^^ b) % 2 = a % 2 ^^^ b % 2 := by
  have := Nat.xor_mod_two_pow (a := a) (b := b) (n := 1); simpa using this
theorem xor_two_mul (a b : Nat) : 2 * (a ^^^ b) = 2 * a ^^^ 2 * b := by
  have h := Nat.shiftLeft_xor_distrib (a := a) (b := b) (i := 1)
  simp only [Nat.shiftLeft_eq, Nat.pow_one] at h
  rw [Nat.mul_comm 2, Nat.mul_comm 2, Nat.mul_comm 2, h]
theorem xor_mul_pow (a b k : Nat) : (a ^^^ b) * 2 ^ k = a * 2 ^ k ^^^ b * 2 ^ k := by
  have h := Nat.shiftLeft_xor_distrib (a := a) (b := b) (i := k)
  simpa only [Nat.shiftLeft_eq] using h
theorem xor_lt24 {a b : Nat} (ha : a < 16777216) (hb : b < 16777216) : a ^^^ b < 16777216 := Nat.xor_lt_two_pow (n := 24) ha hb
theorem add_eq_xor {a b k : Nat} (hb : b < 2 ^ k) : a * 2 ^ k ^^^ b = a * 2 ^ k + b := by
  have h := Nat.shiftLeft_add_eq_or_of_lt hb a
  rw [Nat.shiftLeft_eq] at h
  rw [h]
  apply Nat.eq_of_testBit_eq
  intro i
  rw [Nat.testBit_xor, Nat.testBit_or, Nat.testBit_mul_two_pow]
  by_cases hi : i < k
  · have : ¬ k ≤ i := by omega
    simp [this]
  · rw [Nat.testBit_lt_two_pow (Nat.lt_of_lt_of_le hb (Nat.pow_le_pow_right (by decide) (by omega)))]
    simp
theorem xor_top {a b : Nat} (ha : 16777216 ≤ a) (ha' : a < 33554432) (hb : 16777216 ≤ b) (hb' : b < 33554432) : a ^^^ b < 16777216 := by
  have h := Nat.xor_div_two_pow (a := a) (b := b) (n := 24)
  have h1 : a / 2 ^ 24 = 1 := by omega
  have h2 : b / 2 ^ 24 = 1 := by omega
  rw [h1, h2, Nat.xor_self] at h
  omega
theorem mx_lt {f p : Nat} (F : Frm f) (hp : p < 16777216) : mx f p < 16777216 := by
  have := F.lo; have := F.hi
  unfold mx
  split
  · exact xor_top (by omega) (by omega) (by omega) (by omega)
  · omega
theorem mx_eq (f p : Nat) : mx f p = 2 * p ^^^ (if 16777216 ≤ 2 * p then f else 0) := by
  unfold mx; split <;> simp
theorem mx_xor {f a b : Nat} (ha : a < 16777216) (hb : b < 16777216) : mx f (a ^^^ b) = mx f a ^^^ mx f b := by
  rw [mx_eq, mx_eq, mx_eq, xor_two_mul]
  have h := Nat.xor_div_two_pow (a := 2 * a) (b := 2 * b) (n := 24)
  have hc : 2 * a ^^^ 2 * b < 33554432 := Nat.xor_lt_two_pow (n := 25) (by omega) (by omega)
  generalize hA : 2 * a = x at *
  generalize hB : 2 * b = y at *
  by_cases h1 : 16777216 ≤ x <;> by_cases h2 : 16777216 ≤ y
  · have e1 : x / 2 ^ 24 = 1 := by omega
    have e2 : y / 2 ^ 24 = 1 := by omega
    rw [e1, e2, Nat.xor_self] at h
    have h3 : ¬ 16777216 ≤ x ^^^ y := by omega
    rw [if_pos h1, if_pos h2, if_neg h3, Nat.xor_zero, Nat.xor_assoc, Nat.xor_comm y f, ← Nat.xor_assoc f, Nat.xor_self, Nat.zero_xor]
  · have e1 : x / 2 ^ 24 = 1 := by omega
    have e2 : y / 2 ^ 24 = 0 := by omega
    rw [e1, e2, Nat.xor_zero] at h
    have h3 : 16777216 ≤ x ^^^ y := by omega
    rw [if_pos h1, if_neg h2, if_pos h3, Nat.xor_zero, Nat.xor_assoc, Nat.xor_comm y f, ← Nat.xor_assoc]
  · have e1 : x / 2 ^ 24 = 0 := by omega
    have e2 : y / 2 ^ 24 = 1 := by omega
    rw [e1, e2, Nat.zero_xor] at h
    have h3 : 16777216 ≤ x ^^^ y := by omega
    rw [if_neg h1, if_pos h2, if_pos h3, Nat.xor_zero, Nat.xor_assoc]
  · have e1 : x / 2 ^ 24 = 0 := by omega
    have e2 : y / 2 ^ 24 = 0 := by omega
    rw [e1, e2, Nat.xor_self] at h
    have h3 : ¬ 16777216 ≤ x ^^^ y := by omega
    rw [if_neg h1, if_neg h2, if_neg h3, Nat.xor_zero, Nat.xor_zero, Nat.xor_zero]
theorem mx_zero (f : Nat) : mx f 0 = 0 := rfl
theorem mx_inj0 {f p : Nat} (F : Frm f) (_hp : p < 16777216) (h : mx f p = 0) : p = 0 := by
  unfold mx at h
  split at h
  · have e : 2 * p = f := by
      have := congrArg (· ^^^ f) h
      simpa [Nat.xor_assoc] using this
    have := F.odd
    omega
  · omega
theorem rem_zero (f : Nat) : rem f 0 = 0 := by rw [rem]; rfl
theorem rem_rec (f n : Nat) : rem f n = mx f (rem f (n / 2)) ^^^ (n % 2) := by
  by_cases h : n = 0
  · subst h; rw [Nat.zero_div, rem_zero, mx_zero, Nat.zero_mod, Nat.xor_zero]
  · rw [rem, if_neg h]
theorem rem_lt {f : Nat} (F : Frm f) (n : Nat) : rem f n < 16777216 := by
  induction n using Nat.strongRecOn with
  | _ n ih =>
    by_cases h : n = 0
    · subst h; rw [rem_zero]; decide
    · rw [rem_rec]
      exact xor_lt24 (mx_lt F (ih _ (by omega))) (by omega)
theorem rem_xor {f : Nat} (F : Frm f) (a b : Nat) : rem f (a ^^^ b) = rem f a ^^^ rem f b := by
  induction a using Nat.strongRecOn generalizing b with
  | _ a ih =>
    by_cases h : a = 0
    · subst h; rw [Nat.zero_xor, rem_zero, Nat.zero_xor]
    · rw [rem_rec f (a ^^^ b), rem_rec f a, rem_rec f b, xor_div2, xor_mod2, ih _ (by omega), mx_xor (rem_lt F _) (rem_lt F _)]
      ac_rfl
theorem rem_small {f : Nat} (n : Nat) (h : n < 16777216) : rem f n = n := by
  induction n using Nat.strongRecOn with
  | _ n ih =>
    by_cases h0 : n = 0
    · subst h0; exact rem_zero f
    · rw [rem_rec, ih _ (by omega) (by omega)]
      unfold mx
      rw [if_neg (by omega)]
      have e := add_eq_xor (a := n / 2) (b := n % 2) (k := 1) (by omega)
      rw [Nat.pow_one, Nat.mul_comm] at e
      rw [e]; omega
theorem rem_two_mul {f : Nat} (n : Nat) : rem f (2 * n) = mx f (rem f n) := by
  rw [rem_rec, show 2 * n / 2 = n from by omega, show 2 * n % 2 = 0 from by omega, Nat.xor_zero]
theorem rem_mul_pow {f : Nat} (n k : Nat) : rem f (n * 2 ^ k) = mxs f k (rem f n) := by
  induction k with
  | zero => rw [Nat.pow_zero, Nat.mul_one]; rfl
  | succ k ih => rw [Nat.pow_succ, ← Nat.mul_assoc, Nat.mul_comm _ 2, rem_two_mul, ih]; rfl
theorem mxs_zero (f k : Nat) : mxs f k 0 = 0 := by
  induction k with
  | zero => rfl
  | succ k ih => show mx f (mxs f k 0) = 0; rw [ih]; rfl
theorem mxs_lt {f : Nat} (F : Frm f) {p : Nat} (hp : p < 16777216) (k : Nat) : mxs f k p < 16777216 := by
  induction k with
  | zero => exact hp
  | succ k ih => exact mx_lt F ih
theorem mxs_xor {f : Nat} (F : Frm f) {a b : Nat} (ha : a < 16777216) (hb : b < 16777216) (k : Nat) : mxs f k (a ^^^ b) = mxs f k a ^^^ mxs f k b := by
  induction k with
  | zero => rfl
  | succ k ih =>
    show mx f (mxs f k (a ^^^ b)) = mx f (mxs f k a) ^^^ mx f (mxs f k b)
    rw [ih, mx_xor (mxs_lt F ha k) (mxs_lt F hb k)]
theorem mxs_inj0 {f : Nat} (F : Frm f) {p : Nat} (hp : p < 16777216) (k : Nat) (h : mxs f k p = 0) : p = 0 := by
  induction k with
  | zero => exact h
  | succ k ih => exact ih (mx_inj0 F (mxs_lt F hp k) h)
theorem mxs_succ' (f k p : Nat) : mxs f (k + 1) p = mxs f k (mx f p) := by
  induction k with
  | zero => rfl
  | succ k ih => show mx f (mxs f (k + 1) p) = mx f (mxs f k (mx f p)); rw [ih]
theorem rem_form {f : Nat} (F : Frm f) : rem f f = 0 := by
  have h1 := F.lo; have h2 := F.hi; have h3 := F.odd
  rw [rem_rec, rem_small _ (by omega), h3]
  unfold mx
  rw [if_pos (by omega)]
  have e := add_eq_xor (a := f / 2) (b := 1) (k := 1) (by decide)
  rw [Nat.pow_one, Nat.mul_comm] at e
  have e2 : 2 * (f / 2) + 1 = f := by omega
  rw [e2] at e
  generalize 2 * (f / 2) = y at *
  rw [← e, ← Nat.xor_assoc y y, Nat.xor_self, Nat.zero_xor, Nat.xor_self]
theorem rem_form_pow {f : Nat} (F : Frm f) (k : Nat) : rem f (f * 2 ^ k) = 0 := by rw [rem_mul_pow, rem_form F, mxs_zero]
theorem rem_rem_mul {f : Nat} (F : Frm f) (v k : Nat) : rem f (rem f v * 2 ^ k) = rem f (v * 2 ^ k) := by
  rw [rem_mul_pow, rem_mul_pow, rem_small _ (rem_lt F v)]
/-- one more figure behind -/
theorem rem_snoc {f : Nat} (F : Frm f) (v k d : Nat) (hd : d < 2 ^ k) : rem f (rem f v * 2 ^ k ^^^ d) = rem f (v * 2 ^ k + d) := by
  rw [← add_eq_xor hd, rem_xor F, rem_rem_mul F, ← rem_xor F]
/-- a burst of at most 24 bits is seen -/
theorem rem_burst {f : Nat} (F : Frm f) {e k : Nat} (he : e < 16777216) (h : rem f (e * 2 ^ k) = 0) : e = 0 := by
  rw [rem_mul_pow, rem_small _ he] at h
  exact mxs_inj0 F he k h
/-- the law's own road, by the powers one by one: what is left -/
theorem rest_turn {f : Nat} (F : Frm f) (k left : Nat) : mxs f k (rem f left) = (if left % 2 = 1 then mxs f k 1 else 0) ^^^ mxs f (k + 1) (rem f (left / 2)) := by
  rw [rem_rec f left, mxs_xor F (mx_lt F (rem_lt F _)) (by omega), mxs_succ', Nat.xor_comm]
  congr 1
  split
  · rename_i h; rw [h]
  · have : left % 2 = 0 := by omega
    rw [this, mxs_zero]
end Mine
open PySem PySem.W PyProof.Rows
set_option Elab.async false
namespace Mine
set_option synthInstance.maxSize 1 in
set_option maxRecDepth 100000 in
set_option maxHeartbeats 8000000 in
open_top hd for PySem.Challenge.rw_qh0004_01
end Mine
open PySem PySem.W PySem.Spec PySem.Calls PyProof.Rows
set_option maxRecDepth 100000
local macro_rules | `(tactic| walk_at $s:str) => `(tactic| k_extra $s)
local macro_rules | `(tactic| k_room) => `(tactic| ((try simp only [depth_under_make, depth_under_kw, depth_in1, depth_deeper, depth_caller]); (try dsimp only [ktrTop]); omega))
open PySem PySem.W PySem.Spec PySem.Calls PyProof.Rows
set_option Elab.async false
set_option maxRecDepth 100000
namespace Mine

/-- a call of a def of the top, entered with an empty ledger: everything in the heap at the call is kept -/
theorem callP {prog : Program} {w : World} {A : Around} {s : Shared} {base : Heap} {outer : List Env} {K : Frag} {p : Program} {loose : List Str} {mean : ExcName → Option Value} {mg mb : Str → Option Value}
    {R : Result → Shared → Prop} {name qual : Str} {params : Arguments} {body : List Stmt} {scope : Scope} {dV kV doc pm cdv ct oc : Value} {an od : Option Addr} {osl : Array (Option Value)} {f : Addr} {args : Args} {binds : List (Str × Value)}
    (B : Below A base outer s.heap) (X : K.In s.heap) (T : Top p loose mean mg mb s.heap)
    (ho : K.lookup f = some ⟨oc, od, .func (fnOf name qual params body scope dV kV doc pm an cdv ct), osl⟩) (hcd : codeIn K cdv qual = true) (hroom : A.depth < recursionLimit)
    (hbind : BindsTo s (fnOf name qual params body scope dV kV doc pm an cdv ct) args binds) (hloc : ∀ y ∈ binds, scope.names.lookup y.1 = some .local)
    (h : ∀ g L' h₁, s.heap.StaysIn g → Fr g L' h₁ (fun y => binds.reverse.lookup y) → News g L' h₁ [] → Below A base outer g → K.In g → Top p loose mean mg mb g →
      wpAny (model prog w) (A.deeper (envOf qual scope L' f cdv)) (execs body (envOf qual scope L' f cdv))
        (fun fl s' => R (.ok (.ret (match fl with | .ret v => v | _ => .none))) s')
        (fun e s' => wpAny (model prog w) (A.deeper (envOf qual scope L' f cdv)) (leaving (envOf qual scope L' f cdv) e) (fun _ s'' => R (.error e) s'') (fun e' s'' => R (.error e') s'') s')
        { s with heap := h₁, toks := s.toks + binds.length })
    (hco : scope.isCoroutine = false) (hgen : scope.isGenerator = false) (hk : scope.kind = .function)
    (hcell : ∀ x ∈ scope.names, x.2 ≠ .cell) : codeAny (model prog w) A (.call (.ref f) args) R s := by
  refine codeAny_call_def (fd := fnOf name qual params body scope dV kV doc pm an cdv ct) (body := body) (binds := binds) hroom (X _ _ ho) rfl T.nolimit (codeRec_of X hcd) rfl hbind hcell hloc (fun h₁ hns hk₁ => ?_) hco hgen hk
  exact h s.heap s.heap.objs.size h₁ (fun _ _ e => e) ⟨hns, hk₁, Nat.le_refl _⟩ News.nil B X T

/-- what a pure call leaves to its caller -/
theorem Fr.stays {h₀ h h' : Heap} {L : Addr} {m : Str → Option Value} (F : Fr h₀ L h m) (k : h.StaysIn h') : Fr h₀ L h' m := by
  obtain ⟨oL, a1, a2, hL, a3⟩ := F.ns
  exact ⟨⟨oL, a1, a2, k _ _ hL, a3⟩, fun b o e => k _ _ (F.keep b o e), F.above⟩
theorem News.stays {h₀ h h' : Heap} {L : Addr} {news : List (Addr × Obj)} (N : News h₀ L h news) (k : h.StaysIn h') : News h₀ L h' news :=
  fun p hp => ⟨k _ _ (N p hp).1, (N p hp).2⟩

/-- the place of a call: the frames around it and the top -/
structure Spot (w : World) (p : Program) (loose : List Str) (mean : ExcName → Option Value) (mg mb : Str → Option Value) (A : Around) (base : Heap) (outer : List Env) (h : Heap) : Prop where
  below : Below A base outer h
  inn : (hd.heap_39 w.params).In h
  top : Top p loose mean mg mb h

abbrev rProg : Program := PySem.Challenge.rw_qh0004_01.row.prog
end Mine
open PySem PySem.W PySem.Spec PySem.Calls PyProof.Rows
set_option Elab.async false
namespace Mine
theorem and_div2 (a b : Nat) : (a &&& b) / 2 = a / 2 &&& b / 2 := by
  have := Nat.and_div_two_pow (a := a) (b := b) (n := 1); simpa using this
theorem and_mod2 (a b : Nat) : (a &&& b) % 2 = a % 2 &&& b % 2 := by
  have := Nat.and_mod_two_pow (a := a) (b := b) (n := 1); simpa using this
theorem bit_and (x y : Nat) (hx : x < 2) (hy : y < 2) : x + y = (x ^^^ y) + 2 * (x &&& y) := by
  have : x = 0 ∨ x = 1 := by omega
  have : y = 0 ∨ y = 1 := by omega
  rcases ‹x = 0 ∨ x = 1› with rfl | rfl <;> rcases ‹y = 0 ∨ y = 1› with rfl | rfl <;> rfl
theorem add_xor_and (a b : Nat) : a + b = (a ^^^ b) + 2 * (a &&& b) := by
  induction a using Nat.strongRecOn generalizing b with
  | _ a ih =>
    by_cases h : a = 0
    · subst h; simp
    · have h1 := ih (a / 2) (by omega) (b / 2)
      have h2 := bit_and (a % 2) (b % 2) (by omega) (by omega)
      rw [← xor_div2, ← and_div2] at h1
      rw [← xor_mod2, ← and_mod2] at h2
      omega
theorem bitAnd_nat (a b : Nat) : Builtin.bitAnd (a : Int) (b : Int) = ((a &&& b : Nat) : Int) := by
  have h1 : decide ((0 : Int) ≤ (a : Int)) = true := by simp
  have h2 : decide ((0 : Int) ≤ (b : Int)) = true := by simp
  unfold Builtin.bitAnd
  rw [h1, h2]
  simp
theorem bitXor_nat (a b : Nat) : Builtin.bitXor (a : Int) (b : Int) = ((a ^^^ b : Nat) : Int) := by
  rw [bitXor_and, bitAnd_nat]
  have := add_xor_and a b
  omega
theorem or_split (a b : Nat) : a ||| b = (a ^^^ b) + (a &&& b) := by
  induction a using Nat.strongRecOn generalizing b with
  | _ a ih =>
    by_cases h : a = 0
    · subst h; simp
    · have h1 := ih (a / 2) (by omega) (b / 2)
      have h2 : a % 2 ||| b % 2 = (a % 2 ^^^ b % 2) + (a % 2 &&& b % 2) := by
        have : a % 2 = 0 ∨ a % 2 = 1 := by omega
        have : b % 2 = 0 ∨ b % 2 = 1 := by omega
        rcases ‹a % 2 = 0 ∨ a % 2 = 1› with h | h <;> rcases ‹b % 2 = 0 ∨ b % 2 = 1› with h' | h' <;> rw [h, h'] <;> rfl
      have o1 := Nat.or_div_two_pow (a := a) (b := b) (n := 1)
      have o2 := Nat.or_mod_two_pow (a := a) (b := b) (n := 1)
      simp only [Nat.pow_one] at o1 o2
      rw [← xor_div2, ← and_div2, ← o1] at h1
      rw [← xor_mod2, ← and_mod2, ← o2] at h2
      omega
theorem bitOr_nat (a b : Nat) : Builtin.bitOr (a : Int) (b : Int) = ((a ||| b : Nat) : Int) := by
  rw [bitOr_and, bitAnd_nat]
  have := add_xor_and a b
  have := or_split a b
  omega
end Mine
open PySem PySem.W PySem.Spec PySem.Calls PyProof.Rows
set_option Elab.async false
set_option maxRecDepth 100000
namespace Mine

def RestInv (f n : Nat) (l p r : Int) : Prop := Frm f ∧ ∃ k l' r' : Nat, l = l' ∧ p = (mxs f k 1 : Nat) ∧ r = r' ∧ r' < 16777216 ∧ r' ^^^ mxs f k (rem f l') = rem f n
theorem rest_start {f n : Nat} (hf : Frm f) : RestInv f n (n : Int) 1 0 := ⟨hf, 0, n, 0, rfl, rfl, rfl, by decide, by rw [Nat.zero_xor]; rfl⟩
theorem rest_step {f n : Nat} {l p r p' r' : Int} (h : RestInv f n l p r) (_hl : 0 < l)
    (hr : (l.fmod 2 = 1 ∧ r' = Builtin.bitXor r p) ∨ (¬ l.fmod 2 = 1 ∧ r' = r))
    (hp : (16777216 ≤ p * 2 ∧ p' = Builtin.bitXor (p * 2) f) ∨ (¬ 16777216 ≤ p * 2 ∧ p' = p * 2)) : RestInv f n (l.fdiv 2) p' r' := by
  obtain ⟨F, k, l', r1, rfl, rfl, rfl, h1, h2⟩ := h
  have e1 : (l' : Int).fmod 2 = ((l' % 2 : Nat) : Int) := by rw [Int.fmod_eq_emod_of_nonneg _ (by decide)]; rfl
  have e2 : (l' : Int).fdiv 2 = ((l' / 2 : Nat) : Int) := by rw [Int.fdiv_eq_ediv_of_nonneg _ (by decide)]; rfl
  have e3 : p' = (mxs f (k + 1) 1 : Nat) := by
    show p' = (mx f (mxs f k 1) : Nat)
    unfold mx
    have e : ((mxs f k 1 : Nat) : Int) * 2 = ((2 * mxs f k 1 : Nat) : Int) := by omega
    rw [e] at hp
    rcases hp with ⟨h3, h4⟩ | ⟨h3, h4⟩
    · rw [if_pos (by omega), h4, bitXor_nat]
    · rw [if_neg (by omega), h4]
  have h3 := rest_turn F k l'
  have hk := mxs_lt F (p := 1) (by decide) k
  rcases hr with ⟨h4, h5⟩ | ⟨h4, h5⟩
  · rw [e1] at h4
    have h6 : l' % 2 = 1 := by omega
    rw [if_pos h6] at h3
    refine ⟨F, k + 1, l' / 2, r1 ^^^ mxs f k 1, e2, e3, by rw [h5, bitXor_nat], xor_lt24 h1 hk, ?_⟩
    rw [← h2, h3, Nat.xor_assoc]
  · rw [e1] at h4
    have h6 : ¬ l' % 2 = 1 := by omega
    rw [if_neg h6, Nat.zero_xor] at h3
    refine ⟨F, k + 1, l' / 2, r1, e2, e3, h5, h1, ?_⟩
    rw [← h2, h3]
theorem rest_end {f n : Nat} {l p r : Int} (h : RestInv f n l p r) (hl : ¬ 0 < l) : r = (rem f n : Nat) := by
  obtain ⟨F, k, l', r1, rfl, rfl, rfl, h1, h2⟩ := h
  have : l' = 0 := by omega
  subst this
  rw [rem_zero, mxs_zero, Nat.xor_zero] at h2
  rw [h2]
theorem rest_fall {l : Int} (hl : 0 < l) : (l.fdiv 2).toNat < l.toNat := by
  rw [Int.fdiv_eq_ediv_of_nonneg _ (by decide)]
  omega
theorem rest_pow {f n : Nat} {l p r : Int} (h : RestInv f n l p r) : 0 ≤ p ∧ p < 16777216 := by
  obtain ⟨F, k, l', r1, rfl, rfl, rfl, h1, h2⟩ := h
  have hk := mxs_lt F (p := 1) (by decide) k
  omega

theorem ret_int {s : Shared} {Q : Value → Shared → Prop} {x y : Int} {t : Tok} {h' : Heap} {tk' : Nat} {g : Heap} {L : Addr} {m : Str → Option Value}
    (hret : ∀ t h' tk', s.heap.StaysIn h' → Q (.int x t) { s with heap := h', toks := tk' }) (e : y = x) (hS : s.heap.StaysIn g) (F : Fr g L h' m) : Q (.int y t) { s with heap := h', toks := tk' } := by
  subst e
  exact hret t h' tk' fun b o h => F.keep b o (hS b o h)

set_option maxHeartbeats 8000000 in
theorem c_rest {w : World} {p : Program} {loose : List Str} {mean : ExcName → Option Value} {mg mb : Str → Option Value} {n f : Nat} (hf : Frm f) {t1 t2 : Tok} :
  ∀ (dp un : Nat) (gd : Option (List Code)) (cn : Str) (cs : Scope) (a L : Addr) (ccd : Value) (cl : List (Str × Addr)) (outer : List Env) (base : Heap) (s : Shared) (Q E : Value → Shared → Prop),
    Below (ktrTop dp un gd cn cs L a ccd cl outer) base (envX cn cs L a ccd cl :: outer) s.heap → (hd.heap_39 w.params).In s.heap → Top p loose mean mg mb s.heap → dp + 1 < recursionLimit → un + 8 < cLine →
    (∀ t h' tk', s.heap.StaysIn h' → Q (.int (rem f n : Nat) t) { s with heap := h', toks := tk' }) →
    wpAny (model PySem.Challenge.rw_qh0004_01.row.prog w) (ktrTop dp un gd cn cs L a ccd cl outer) (call (.ref 169) [.int (n : Int) t1, .int (f : Int) t2]) Q E s := by
  k_with_none
  w_top off
  k_fill
  intro dp un gd cn cs a L ccd cl outer base s Q E B X T hd hu hret
  refine wpAny_call ?_
  k_dflt (refine' callP ?k1 ?k2 ?k3 ?k6 ?k7 ?k8 ?k9 ?kB ?_ ?c2 ?c3 ?c4 ?c5; (case k1 => k_asm); (case k2 => k_asm); (case k3 => k_asm); (case k6 => k_is); (case k7 => k_is); (case k8 => ktr_room); (case k9 => exact BindsTo.of_eq rfl); (case c5 => decide); (case kB => exact locs rfl); (case c2 => exact rfl); (case c3 => exact rfl); (case c4 => exact rfl); k_whole; intro g' L' h' hS' F' N' B' X' T'; (try dsimp only))
  k_fold
  k_with "exec While Compare cons nil" => k_while (fun _ l p r => RestInv f n l p r) (fun _ l _ _ => l.toNat) "left" "power" "rest"
  k_with "state" => first | exact rest_start hf | exact rest_step (by assumption) (by assumption) (by first | exact Or.inl ⟨by assumption, rfl⟩ | exact Or.inr ⟨by assumption, rfl⟩) (by first | exact Or.inl ⟨by assumption, rfl⟩ | exact Or.inr ⟨by assumption, rfl⟩)
  k_with "measure" => exact rest_fall (by assumption)
  k_steps
  exact ret_int hret (rest_end (by assumption) (by assumption)) hS' (by assumption)
end Mine
open PySem PySem.W PySem.Spec PySem.Calls PyProof.Rows
set_option Elab.async false
set_option maxRecDepth 100000
namespace Mine
def stepStmt : Stmt := match PySem.Challenge.pw_qh0004_01.main.body.drop 29 with
  | Stmt.FunctionDef _ _ (st :: _) _ _ _ _ _ _ _ :: _ => st
  | _ => .Pass ⟨0, 0, 0, 0⟩
def stepParts : Arguments × List Stmt × Scope := match stepStmt with
  | .FunctionDef _ a b _ _ _ sc _ _ _ => (a, b, sc)
  | _ => default

theorem callQ {prog : Program} {w : World} {A : Around} {s : Shared} {base : Heap} {outer : List Env} {K : Frag} {p : Program} {loose : List Str} {mean : ExcName → Option Value} {mg mb : Str → Option Value}
    {R : Result → Shared → Prop} {name qual : Str} {params : Arguments} {body : List Stmt} {scope : Scope} {cl : List (Str × Addr)} {dV kV doc pm cdv ct : Value} {an : Option Addr} {fo : Obj} {f : Addr} {args : Args} {binds : List (Str × Value)}
    (B : Below A base outer s.heap) (X : K.In s.heap) (T : Top p loose mean mg mb s.heap)
    (ho : s.heap.get? f = some fo) (hd : fo.data = .func (fnX name qual params body scope cl dV kV doc pm an cdv ct)) (hcd : s.heap.CodeRec cdv qual) (hroom : A.depth < recursionLimit)
    (hbind : BindsTo s (fnX name qual params body scope cl dV kV doc pm an cdv ct) args binds) (hloc : ∀ y ∈ binds, scope.names.lookup y.1 = some .local)
    (h : ∀ g L' h₁, s.heap.StaysIn g → Fr g L' h₁ (fun y => binds.reverse.lookup y) → News g L' h₁ [] → Below A base outer g → K.In g → Top p loose mean mg mb g →
      wpAny (model prog w) (A.deeper (envX qual scope L' f cdv cl)) (execs body (envX qual scope L' f cdv cl))
        (fun fl s' => R (.ok (.ret (match fl with | .ret v => v | _ => .none))) s')
        (fun e s' => wpAny (model prog w) (A.deeper (envX qual scope L' f cdv cl)) (leaving (envX qual scope L' f cdv cl) e) (fun _ s'' => R (.error e) s'') (fun e' s'' => R (.error e') s'') s')
        { s with heap := h₁, toks := s.toks + binds.length })
    (hco : scope.isCoroutine = false) (hgen : scope.isGenerator = false) (hk : scope.kind = .function)
    (hcell : ∀ x ∈ scope.names, x.2 ≠ .cell) : codeAny (model prog w) A (.call (.ref f) args) R s := by
  refine codeAny_call_def (fd := fnX name qual params body scope cl dV kV doc pm an cdv ct) (body := body) (binds := binds) hroom ho hd T.nolimit hcd rfl hbind hcell hloc (fun h₁ hns hk₁ => ?_) hco hgen hk
  exact h s.heap s.heap.objs.size h₁ (fun _ _ e => e) ⟨hns, hk₁, Nat.le_refl _⟩ News.nil B X T

/-- the closure that _law_step makes -/
structure IsStep (h : Heap) (fa : Addr) (f w : Nat) : Prop where
  is : ∃ (qual : Str) (ps : Arguments) (b : List Stmt) (sc : Scope) (c1 c2 : Addr) (o1 o2 : Obj) (t1 t2 : Tok) (doc pm : Value) (cd : Addr) (ct : Value),
    (ps, b, sc) = stepParts ∧ h.get? fa = some (fnMade (Str.ofString "step") qual ps b sc [(Str.ofString "width", c2), (Str.ofString "form", c1)] doc pm cd ct) ∧ h.CodeRec (.ref cd) qual ∧
    h.get? c1 = some o1 ∧ o1.data = .cell (some (.int f t1)) ∧ h.get? c2 = some o2 ∧ o2.data = .cell (some (.int w t2))

theorem IsStep.stays {h h' : Heap} {fa : Addr} {f w : Nat} (S : IsStep h fa f w) (k : h.StaysIn h') : IsStep h' fa f w := by
  obtain ⟨qual, ps, b, sc, c1, c2, o1, o2, t1, t2, doc, pm, cd, ct, e, h1, h2, h3, h4, h5, h6⟩ := S.is
  exact ⟨⟨qual, ps, b, sc, c1, c2, o1, o2, t1, t2, doc, pm, cd, ct, e, k _ _ h1, h2.keeps k, k _ _ h3, h4, k _ _ h5, h6⟩⟩

/-- a free name whose cell stands in the base -/
theorem nameX_FB {M : Model} {A : Around} {E : Value → Shared → Prop} {s : Shared} {h₀ : Heap} {L a : Addr} {m : Str → Option Value} {cn : Str} {cs : Scope} {ccd : Value} {cl : List (Str × Addr)} {x : Str} {pos : Pos} {v : Value} {Q : Value → Shared → Prop} {c : Addr} {o : Obj}
    (F : Fr h₀ L s.heap m) (hc : cl.lookup x = some c) (hm : h₀.get? c = some o) (hd : o.data = .cell (some v)) (h : Q v s)
    (hk : cs.kind = .function := by rfl) (hx : (envX cn cs L a ccd cl).kindOf x = some .free := by rfl) (hb : (x == ("__debug__" : Str)) = false := by decide) (hn : (x == ("__classdict__" : Str)) = false := by decide) :
    wpAny M A (eval (.Name x pos) (envX cn cs L a ccd cl)) Q E s := wpAny_Name (wpAny_loadName_free hk hx hc ⟨o, F.keep _ _ hm, hd⟩ h hn) hb


def StepInv (f w y : Nat) (i : Nat) (x : Int) : Prop := ∃ n : Nat, x = n ∧ n < 2 ^ (24 + (w - i)) ∧ rem f n = rem f y

theorem and_pow_ne {n m : Nat} (hn : n < 2 ^ (m + 1)) : (n &&& 2 ^ m) ≠ 0 ↔ 2 ^ m ≤ n := by
  have hp : 0 < 2 ^ m := Nat.two_pow_pos m
  have hn2 := hn
  rw [Nat.pow_succ] at hn2
  have hd : n / 2 ^ m < 2 := Nat.div_lt_of_lt_mul hn2
  have h1 : 2 ^ m ≤ n ↔ 1 ≤ n / 2 ^ m := by rw [Nat.le_div_iff_mul_le hp, Nat.one_mul]
  have h2 : n.testBit m = decide (n / 2 ^ m % 2 = 1) := Nat.testBit_eq_decide_div_mod_eq
  have h3 : n.testBit m = true ↔ 2 ^ m ≤ n := by
    rw [h2, h1, decide_eq_true_eq]
    generalize n / 2 ^ m = q at hd
    omega
  rw [← h3]
  constructor
  · intro h
    by_cases hb : n.testBit m = true
    · exact hb
    · refine absurd (Nat.eq_of_testBit_eq fun i => ?_) h
      rw [Nat.testBit_and, Nat.testBit_two_pow, Nat.zero_testBit]
      by_cases hi : m = i
      · subst hi; simpa using hb
      · simp [hi]
  · intro hb h
    have := congrArg (fun x => x.testBit m) h
    simp [Nat.testBit_and, Nat.testBit_two_pow_self, hb] at this
theorem step_bit {f n k : Nat} (F : Frm f) (hn : n < 2 ^ (24 + k + 1)) (h : 2 ^ (24 + k) ≤ n) : n ^^^ f * 2 ^ k < 2 ^ (24 + k) := by
  have hx := Nat.xor_div_two_pow (a := n) (b := f * 2 ^ k) (n := 24 + k)
  have hp : 0 < 2 ^ (24 + k) := Nat.two_pow_pos _
  have h1 : n / 2 ^ (24 + k) = 1 := by
    rw [Nat.pow_succ] at hn
    have := Nat.div_lt_of_lt_mul hn
    have := (Nat.le_div_iff_mul_le hp (x := 1) (y := n)).mpr (by omega)
    omega
  have h2 : f * 2 ^ k / 2 ^ (24 + k) = 1 := by
    rw [Nat.pow_add, Nat.mul_div_mul_right _ _ (Nat.two_pow_pos k)]
    have := F.lo; have := F.hi
    omega
  rw [h1, h2, Nat.xor_self] at hx
  exact (Nat.div_eq_zero_iff_lt hp).mp hx
theorem step_turn {f wd y : Nat} {x x' k : Int} {pre : List Int} (F : Frm f) (h : StepInv f wd y pre.length x) (hk : k = (wd : Int) - 1 - (pre.length : Int)) (hl : pre.length < ((wd : Int) - 1 - -1).toNat)
    (hc : (Builtin.bitAnd x (1 * 2 ^ (24 + k).toNat) ≠ 0 ∧ x' = Builtin.bitXor x (f * 2 ^ k.toNat)) ∨ (Builtin.bitAnd x (1 * 2 ^ (24 + k).toNat) = 0 ∧ x' = x)) : StepInv f wd y (pre ++ [k]).length x' := by
  obtain ⟨n, rfl, h1, h2⟩ := h
  have hlt : pre.length < wd := by omega
  obtain ⟨j, rfl⟩ : ∃ j : Nat, k = j := ⟨k.toNat, by omega⟩
  have e0 : (24 + (j : Int)).toNat = 24 + j := by omega
  have e1 : (1 : Int) * 2 ^ (24 + (j : Int)).toNat = ((2 ^ (24 + j) : Nat) : Int) := by rw [e0]; simp
  have e2 : (f : Int) * 2 ^ (j : Int).toNat = ((f * 2 ^ j : Nat) : Int) := by simp
  have e3 : 24 + (wd - pre.length) = 24 + j + 1 := by omega
  have e4 : 24 + (wd - (pre ++ [(j : Int)]).length) = 24 + j := by simp; omega
  rw [e3] at h1
  rw [e1, e2, bitAnd_nat, bitXor_nat] at hc
  have hb := and_pow_ne h1
  rcases hc with ⟨hc, rfl⟩ | ⟨hc, rfl⟩
  · have hc' : n &&& 2 ^ (24 + j) ≠ 0 := fun h => hc (by rw [h]; rfl)
    exact ⟨_, rfl, by rw [e4]; exact step_bit F h1 (hb.mp hc'), by rw [rem_xor F, rem_form_pow F, Nat.xor_zero, h2]⟩
  · have hc' : ¬ 2 ^ (24 + j) ≤ n := fun h => (hb.mpr h) (by omega)
    exact ⟨_, rfl, by rw [e4]; omega, h2⟩
theorem step_end {f wd y : Nat} {x : Int} (h : StepInv f wd y (downKs (↑wd - 1) (↑wd - 1 - -1 : Int).toNat).length x) : x = (rem f y : Nat) := by
  obtain ⟨n, rfl, h1, h2⟩ := h
  have e : (downKs (↑wd - 1) (↑wd - 1 - -1 : Int).toNat).length = wd := by
    simp [downKs]
    try omega
  rw [e, Nat.sub_self, Nat.add_zero] at h1
  rw [rem_small _ h1] at h2
  rw [h2]
theorem step_start {f wd r d : Nat} (hr : r < 16777216) (hd : d < 2 ^ wd) : StepInv f wd (r * 2 ^ wd + d) ([] : List Int).length (Builtin.bitXor (↑r * 2 ^ (↑wd : Int).toNat) ↑d) := by
  refine ⟨r * 2 ^ wd + d, ?_, ?_, rfl⟩
  · have e : (r : Int) * 2 ^ (wd : Int).toNat = ((r * 2 ^ wd : Nat) : Int) := by simp
    rw [e, bitXor_nat, add_eq_xor hd]
  · show r * 2 ^ wd + d < 2 ^ (24 + wd)
    rw [Nat.pow_add]
    have : (r + 1) * 2 ^ wd ≤ 2 ^ 24 * 2 ^ wd := Nat.mul_le_mul_right _ (by omega)
    rw [Nat.add_mul, Nat.one_mul] at this
    omega
set_option maxHeartbeats 8000000 in
theorem c_step {w : World} {p : Program} {loose : List Str} {mean : ExcName → Option Value} {mg mb : Str → Option Value} {r d f wd : Nat} (hf : Frm f) (hw1 : 1 ≤ wd) (hw : wd ≤ 8) (hr : r < 16777216) (hdd : d < 2 ^ wd) {t1 t2 : Tok} {fa : Addr} :
  ∀ (dp un : Nat) (gd : Option (List Code)) (cn : Str) (cs : Scope) (a L : Addr) (ccd : Value) (cl : List (Str × Addr)) (outer : List Env) (base : Heap) (s : Shared) (Q E : Value → Shared → Prop),
    Below (ktrTop dp un gd cn cs L a ccd cl outer) base (envX cn cs L a ccd cl :: outer) s.heap → (hd.heap_39 w.params).In s.heap → Top p loose mean mg mb s.heap → dp + 2 < recursionLimit → un + 16 < cLine →
    IsStep s.heap fa f wd →
    (∀ t h' tk', s.heap.StaysIn h' → Q (.int (rem f (r * 2 ^ wd + d) : Nat) t) { s with heap := h', toks := tk' }) →
    wpAny (model PySem.Challenge.rw_qh0004_01.row.prog w) (ktrTop dp un gd cn cs L a ccd cl outer) (call (.ref fa) [.int (r : Int) t1, .int (d : Int) t2]) Q E s := by
  k_with_none
  w_top off
  k_with "eval Name" => (k_here; (k_dflt (refine' nameX_FB ?k1 ?k2 ?k3 ?k4 ?_; (case k1 => k_asm); (case k2 => exact rfl); (case k3 => assumption); (case k4 => assumption); k_whole)))
  k_fill
  intro dp un gd cn cs a L ccd cl outer base s Q E B X T hd hu S hret
  obtain ⟨qual, ps, b, sc, c1, c2, o1, o2, t1, t2, doc, pm, cd, ct, e, h1, h2, h3, h4, h5, h6⟩ := S.is
  (with_unfolding_all conv at e => rhs; whnf)
  cases e
  refine wpAny_call ?_
  k_dflt (refine' callQ ?k1 ?k2 ?k3 ?k6 ?k66 ?k7 ?k8 ?k9 ?kB ?_ ?c2 ?c3 ?c4 ?c5; (case k1 => k_asm); (case k2 => k_asm); (case k3 => k_asm); (case k6 => exact h1); (case k66 => exact rfl); (case k7 => exact h2); (case k8 => ktr_room); (case k9 => exact BindsTo.of_eq rfl); (case c5 => decide); (case kB => exact locs rfl); (case c2 => exact rfl); (case c3 => exact rfl); (case c4 => exact rfl); k_whole; intro g' L' h' hS' F' N' B' X' T'; (try dsimp only))
  k_fold
  have g3 := hS' _ _ h3
  have g5 := hS' _ _ h5
  k_with "pyIter ref" => k_state (fun pre x => StepInv f wd (r * 2 ^ wd + d) pre.length x) "longer"
  have hf1 := hf.lo
  have hf2 := hf.hi
  k_with "state" => first | exact step_start hr hdd | exact step_turn hf (by assumption) (by assumption) (by assumption) (by first | exact Or.inl ⟨by assumption, rfl⟩ | exact Or.inr ⟨by assumption, rfl⟩)
  k_steps
  exact ret_int hret (step_end (by assumption)) hS' (by assumption)
end Mine
open PySem PySem.W PySem.Spec PySem.Calls PyProof.Rows
set_option Elab.async false
set_option maxRecDepth 100000
namespace Mine
abbrev itO (l : Addr) (i : Nat) : Obj := { cls := .type "list_iterator", data := .fields #[.ref l, .int i 0] }
section
variable {prog : Program} {w : World} {A : Around} {E : Value → Shared → Prop} {s : Shared} {h₀ : Heap} {L l I : Addr} {m : Str → Option Value} {news : List (Addr × Obj)} {items : Array Value} {i : Nat} {x : Value}
theorem itO_is {h : Heap} (e : h.get? I = some (itO l i)) : h.IsListIter I l i := ⟨_, e, rfl, rfl⟩
theorem iter_L {Q : Value → Shared → Prop} (F : Fr h₀ L s.heap m) (N : News h₀ L s.heap news) (hl : h₀.IsList l items)
    (h : ∀ (I : Addr) h', Fr h₀ L h' m → News h₀ L h' ((I, itO l 0) :: news) → (∀ p ∈ news, p.1 < I) → Q (.ref I) { s with heap := h' }) :
    wpAny (model prog w) A (call (.builtin "iter") [.ref l]) Q E s := by
  refine call_function_entry (by decide +kernel) (by decide +kernel) kdk_entry_iter (kdk_args_iter _) ?_
  unfold Builtin.«iter»
  refine wpAny_bind (m := someArgs "iter" 1 2 _) (wpAny_of_eq (a := [Value.ref l]) (by first | rfl | kernel_rfl!) ?_)
  show wpAny _ _ (pyIter (.ref l) >>= _) _ _ _
  refine wpAny_bind (wpAny_pyIter_list (stays_list (fun b o e => F.keep b o e) hl) ?_)
  exact wpAny_pure ⟨_, rfl, h _ _ (F.push _) (News.push F N _ rfl) (fun q hq => Heap.lt_size (N q hq).1)⟩
theorem next_L {Q : Value → Shared → Prop} (F : Fr h₀ L s.heap m) (N : News h₀ L s.heap [(I, itO l i)]) (hl : h₀.IsList l items) (hx : items[i]? = some x)
    (h : ∀ h', Fr h₀ L h' m → News h₀ L h' [(I, itO l (i + 1))] → Q x { s with heap := h' }) :
    wpAny (model prog w) A (call (.builtin "next") [.ref I]) Q E s := by
  have hm := N _ (.head _)
  have hit : s.heap.IsListIter I l i := itO_is hm.1
  refine call_function_entry (by decide +kernel) (by decide +kernel) kdk_entry_next (kdk_args_next _) ?_
  unfold Builtin.«next»
  refine wpAny_bind (m := someArgs "next" 1 2 _) (wpAny_of_eq (a := [Value.ref I]) (by first | rfl | kernel_rfl!) ?_)
  dsimp only
  refine wpAny_bind (wpAny_specialOf (name := Str.ofString "__next__") hit.typeIs slot_listiter_next.lookup ?_)
  refine wpAny_ite_split (fun hab => absurd hab (by decide)) (fun _ => ?_)
  obtain ⟨o, ho, hc, hd⟩ := id hit
  obtain ⟨ol, hol, _, nl, hdl⟩ := stays_list (fun b o e => F.keep b o e) hl
  refine wpAny_bind (wpAny_callSpecial?_slot (name := Str.ofString "__next__") hit.typeIs slot_listiter_next
    (wpAny_call_entry slot_listiter_next hit.typeIs entry_listiter_next ?_ (args_listiter_next _)))
  show wpAny _ _ (field (.ref I) 0 >>= _) _ _ s
  refine wpAny_bind (wpAny_field ho hd (x := .ref l) rfl ?_)
  show wpAny _ _ (if (Value.ref l == Value.none) = true then _ else _) _ _ s
  rw [if_neg (show ¬ ((Value.ref l == Value.none) = true) from Bool.false_ne_true)]
  show wpAny _ _ (field (.ref I) 1 >>= _) _ _ s
  refine wpAny_bind (wpAny_field ho hd (x := .int i 0) rfl ?_)
  show wpAny _ _ (seqItems? (.ref l) >>= _) _ _ s
  refine wpAny_bind (wpAny_seqItems hol hdl ?_)
  simp only [Int.toNat_natCast, hx]
  refine wpAny_bind (wpAny_setField ho hd (by simp) (wpAny_pure ⟨x, rfl, wpAny_pure ⟨_, rfl, ?_⟩⟩))
  have eo : o = itO l i := by rw [hm.1] at ho; exact (Option.some.inj ho).symm
  subst eo
  have U := news_upd (pre := []) (post := []) (o' := itO l (i + 1)) (f := Obj.mapFields (·.setIfInBounds 1 (rawInt ((i : Int) + 1)))) F N (by simp) (by simp) (by simp [Obj.mapFields, itO, rawInt]) rfl
  exact h _ U.1 U.2
end

theorem Walks.listFrom {prog : Program} {w : World} {A : Around} (hh : A.handled = none) (I ax : Addr) (hne : ax ≠ I) (items : Array Value) (i₀ : Nat) (hi₀ : i₀ ≤ items.size) :
    Walks prog w A I [I, ax] [I] (items.size - i₀) (fun i v => items[i₀ + i]? = some v) (fun i h => h.IsListIter I ax (i₀ + i) ∧ h.IsList ax items) where
  sub := fun b hb => by simp at hb; simp [hb]
  frame := fun i h h' st hk => (Walks.list (prog := prog) (w := w) hh I ax hne items).frame (i₀ + i) h h' st hk
  item := fun i s Q E hi st hQ => by
    refine (Walks.list (prog := prog) (w := w) hh I ax hne items).item (i₀ + i) s Q E (by omega) st fun v h' tk h1 h2 h3 => hQ v h' tk h1 h2 h3
  done := fun s Q E st hQ => by
    refine (Walks.list (prog := prog) (w := w) hh I ax hne items).done s Q E ?_ hQ
    have e : i₀ + (items.size - i₀) = items.size := by omega
    rw [e] at st
    exact st
  self := fun _ _ _ _ st hQ => wpAny_pyIter_listiter st.1 hQ

theorem kst_iterL {prog : Program} {w : World} {A : Around} {E : Value → Shared → Prop} {s : Shared} {env : Env} {h₀ : Heap} {x : Str} {body : List Stmt} {Q : Flow → Shared → Prop}
    {σ : Type} {l I : Addr} {i₀ : Nat} {vs : List Value} {ns : List Int} {m₀ : Str → Option Value} (ps : σ → List (Str × Value)) (stored : List Str) (P : List Int → σ → Prop) (c₀ : σ)
    (hh : A.handled = none) (hl : h₀.IsList l vs.toArray) (hi : IntsAre vs ns) (hi₀ : i₀ ≤ ns.length) (F : Fr h₀ env.locals s.heap m₀) (N : News h₀ env.locals s.heap [(I, itO l i₀)]) (hk : ∀ p ∈ ps c₀, m₀ p.1 = some p.2) (hp : P [] c₀)
    (turn : ∀ (c : σ) pre post n t (u : Str → Option Value) h tk own, ns.drop i₀ = pre ++ n :: post → n ∈ ns → OwnOff own [] → True → P pre c →
      Fr h₀ env.locals h (fun y => if y = x then some (.int n t) else kstB (fun z => if stored.contains z then u z else m₀ z) (ps c) y) → News h₀ env.locals h ([] ++ own) →
      wpAny (model prog w) A (execs body env) (InvPostN h₀ env.locals (KstS (fun _ : σ => []) ps (fun _ => True) x stored m₀ P (pre ++ [n])) own [] { s with heap := h, toks := tk } Q) E { s with heap := h, toks := tk })
    (done : ∀ (c : σ) (u : Str → Option Value) h tk, True → P (ns.drop i₀) c → Fr h₀ env.locals h (fun y => if y = x then u y else kstB (fun z => if stored.contains z then u z else m₀ z) (ps c) y) → News h₀ env.locals h [] → Q .next { s with heap := h, toks := tk }) :
    wpAny (model prog w) A (pyIter (.ref I)) (fun it s₂ => LoopAtV prog w A h₀ env x body Q E it s₂) E s := by
  have hm := N _ (.head _)
  have hlen := hi.length
  have hne : l ≠ I := fun e => by
    obtain ⟨o, ho, _⟩ := hl
    have := hm.2.2
    rw [← e, ho] at this; cases this
  refine wpAny_pyIter_listiter (itO_is hm.1) ?_
  have W := Walks.listFrom (prog := prog) (w := w) hh I l hne vs.toArray i₀ (by simp [hlen, hi₀])
  refine loop_invN (news := []) (fun i m nx => KstS (fun _ : σ => []) ps (fun _ => True) x stored m₀ P ((ns.drop i₀).take i) m nx) W ?_ ?_ (by simp) (by simp) ⟨itO_is hm.1, stays_list (fun b o e => F.keep b o e) hl⟩ F News.nil ⟨c₀, rfl, trivial, hk, fun _ _ _ _ => rfl, by simpa using hp⟩ ?_ ?_
  · intro hq
    simp only [List.mem_cons, List.not_mem_nil, or_false] at hq
    rcases hq with hq | hq
    · exact hm.2.1 hq.symm
    · obtain ⟨o, ho, _⟩ := hl
      exact absurd (Nat.lt_of_lt_of_le (Heap.lt_size ho) F.above) (by rw [hq]; exact Nat.lt_irrefl _)
  · intro b hb
    rw [List.mem_singleton.mp hb]
    exact hm.2.2
  · rintro i v m₁ nx h tk own hin hv _ hoff ⟨c, rfl, hf', h1, h2, hp'⟩ F₁ N₁
    have hi' : i < (ns.drop i₀).length := by simp [hlen] at hin; simp; omega
    have hv' : vs[i₀ + i]? = some v := by simpa using hv
    obtain ⟨n, t, hn, rfl⟩ : ∃ n t, ns[i₀ + i]? = some n ∧ v = .int n t := by
      have hlt : i₀ + i < ns.length := by simp at hi'; omega
      have := hi.get (i := i₀ + i) (n := ns[i₀ + i]) (by simp [hlt])
      obtain ⟨t, ht⟩ := this
      rw [hv'] at ht
      exact ⟨_, t, by simp [hlt], Option.some.inj ht⟩
    have hnd : (ns.drop i₀)[i]? = some n := by rw [List.getElem?_drop]; exact hn
    have hs : (ns.drop i₀).take (i + 1) = (ns.drop i₀).take i ++ [n] := by simp [List.take_add_one, hnd]
    have e : ns.drop i₀ = (ns.drop i₀).take i ++ n :: (ns.drop i₀).drop (i + 1) := by
      have ht := List.take_append_drop (i + 1) (ns.drop i₀)
      rw [hs, List.append_assoc] at ht
      exact ht.symm
    rw [hs]
    exact turn c _ _ n t m₁ h tk own e (List.mem_of_getElem? hn) hoff trivial hp' (kst_fr h1 h2 F₁) N₁
  · rintro m₁ nx h tk ⟨c, rfl, hf', h1, h2, hp'⟩ F₁ N₁
    have e : (ns.drop i₀).take (vs.toArray.size - i₀) = ns.drop i₀ := List.take_of_length_le (by simp [hlen])
    rw [e] at hp'
    exact done c m₁ h tk trivial hp' (kst_frOut h1 h2 F₁) N₁
end Mine
open PySem PySem.W PySem.Spec PySem.Calls PyProof.Rows
set_option Elab.async false
set_option maxRecDepth 100000
namespace Mine
def numI (wd r0 : Nat) (pre : List Int) : Nat := pre.foldl (fun a d => a * 2 ^ wd + d.toNat) r0
theorem numI_snoc (wd r0 : Nat) (pre : List Int) (n : Int) : numI wd r0 (pre ++ [n]) = numI wd r0 pre * 2 ^ wd + n.toNat := by
  unfold numI; rw [List.foldl_append]; rfl

theorem c_stepU {w : World} {p : Program} {loose : List Str} {mean : ExcName → Option Value} {mg mb : Str → Option Value} {r f wd : Nat} {x y : Int} {t1 t2 : Tok} {fa : Addr}
  {dp un : Nat} {gd : Option (List Code)} {cn : Str} {cs : Scope} {a L : Addr} {ccd : Value} {cl : List (Str × Addr)} {outer : List Env} {A₀ : Around} {base h₀ : Heap} {m : Str → Option Value} {news : List (Addr × Obj)} {s : Shared} {Q E : Value → Shared → Prop}
  (B : Below A₀ base outer h₀) (hA : (ktrTop dp un gd cn cs L a ccd cl outer) = A₀.deeper (envX cn cs L a ccd cl)) (F : Fr h₀ L s.heap m) (X : (hd.heap_39 w.params).In h₀) (N : News h₀ L s.heap news) (T : Top p loose mean mg mb h₀) (hk : cs.kind = .function)
  (hd : dp + 2 < recursionLimit) (hu : un + 16 < cLine) (hf : Frm f) (hw1 : 1 ≤ wd) (hw : wd ≤ 8) (S : IsStep h₀ fa f wd) (hx : x = (r : Nat)) (hr : r < 16777216) (hy : 0 ≤ y ∧ y < 2 ^ wd)
  (hret : ∀ t h' tk', Fr h₀ L h' m → News h₀ L h' news → Q (.int (rem f (r * 2 ^ wd + y.toNat) : Nat) t) { s with heap := h', toks := tk' }) :
    wpAny (model PySem.Challenge.rw_qh0004_01.row.prog w) (ktrTop dp un gd cn cs L a ccd cl outer) (call (.ref fa) [.int x t1, .int y t2]) Q E s := by
  subst hx
  have ey : y = ((y.toNat : Nat) : Int) := by omega
  have hy2 : y.toNat < 2 ^ wd := by
    have h2 := hy.2
    have e : (2 : Int) ^ wd = ((2 ^ wd : Nat) : Int) := by simp
    rw [e] at h2
    omega
  rw [ey]
  refine c_step hf hw1 hw hr hy2 dp un gd cn cs a L ccd cl outer base s Q E ?_ (X.keeps F.keep) (T.keeps F.keep) hd hu (S.stays F.keep) fun t h' tk' k => ?_
  · rw [hA]
    exact pushX B F rfl hk
  · exact hret t h' tk' (Fr.stays F k) (News.stays N k)


theorem IsStep.fnAt {h : Heap} {fa : Addr} {f w : Nat} (S : IsStep h fa f w) : FnAt fa h := by
  obtain ⟨qual, ps, b, sc, c1, c2, o1, o2, t1, t2, doc, pm, cd, ct, e, h1, h2, h3, h4, h5, h6⟩ := S.is
  exact ⟨_, _, _, _, h1⟩
theorem lt_of_rem {f r v : Nat} (h : r = rem f v) (F : Frm f) : r < 16777216 := h ▸ rem_lt F v
theorem int_pow_lt {n : Int} {wd : Nat} (h : 0 ≤ n ∧ n < 2 ^ wd) : n.toNat < 2 ^ wd := by
  have h2 := h.2
  have e : (2 : Int) ^ wd = ((2 ^ wd : Nat) : Int) := by simp
  rw [e] at h2
  omega
theorem red_state {f r wd c : Nat} {pre : List Int} {n : Int} {ns : List Int} (F : Frm f) (h : c = rem f (numI wd r pre)) (hns : ∀ y ∈ ns, (0 : Int) ≤ y ∧ y < 2 ^ wd) (hn : n ∈ ns) : rem f (c * 2 ^ wd + n.toNat) = rem f (numI wd r (pre ++ [n])) := by
  have hlt := int_pow_lt (hns n hn)
  rw [numI_snoc, h, ← add_eq_xor hlt, rem_snoc F _ _ _ hlt]
set_option maxHeartbeats 8000000 in
theorem c_reduce {w : World} {p : Program} {loose : List Str} {mean : ExcName → Option Value} {mg mb : Str → Option Value} {r f wd : Nat} (hf : Frm f) (hw1 : 1 ≤ wd) (hw : wd ≤ 8) (hr : r < 16777216) {t1 : Tok} {fa l : Addr} {vs : List Value} {ns : List Int} (hi : IntsAre vs ns) (hns : ∀ y ∈ ns, 0 ≤ y ∧ y < 2 ^ wd) :
  ∀ (dp un : Nat) (gd : Option (List Code)) (cn : Str) (cs : Scope) (a L : Addr) (ccd : Value) (cl : List (Str × Addr)) (outer : List Env) (base : Heap) (s : Shared) (Q E : Value → Shared → Prop),
    Below (ktrTop dp un gd cn cs L a ccd cl outer) base (envX cn cs L a ccd cl :: outer) s.heap → (hd.heap_39 w.params).In s.heap → Top p loose mean mg mb s.heap → dp + 4 < recursionLimit → un + 32 < cLine →
    IsStep s.heap fa f wd → s.heap.IsList l vs.toArray →
    (∀ t h' tk', s.heap.StaysIn h' → Q (.int (rem f (numI wd r ns) : Nat) t) { s with heap := h', toks := tk' }) →
    wpAny (model PySem.Challenge.rw_qh0004_01.row.prog w) (ktrTop dp un gd cn cs L a ccd cl outer) (call (.ref 127) [.ref fa, .ref l, .int (r : Int) t1]) Q E s := by
  k_with_none
  w_top off
  k_with "call builtin:iter" => (k_here; k_dflt (refine' iter_L ?k1 ?k2 ?k3 ?_; (case k1 => k_asm); (case k2 => k_asm); (case k3 => k_asm); k_whole; intro I' h' F' N' l1; (try k_lt l1)))
  k_with "FnAt" => (k_here; exact (IsStep.stays (by assumption) (Fr.keep (by k_asm))).fnAt)
  k_with "callWith ref" => (k_here; k_dflt (refine' callWith_F ?k1 ?_; (case k1 => exact (IsStep.stays (by assumption) (Fr.keep (by k_asm))).fnAt); k_whole))
  k_with "call ref" => (k_here; (with_reducible show wpAny _ _ (call (Value.ref _) [Value.int _ _, Value.int _ _]) _ _ _); k_dflt (refine' c_stepU ?k1 ?kA ?k2 ?k3 ?k4 ?k5 ?kK ?kd ?ku ?kf ?kw1 ?kw ?kS ?kx ?kr ?ky ?kR; (case k1 => k_asm); (case k2 => k_asm); (case k3 => k_asm); (case k4 => k_asm); (case k5 => k_asm); (case kA => rfl); (case kK => rfl); (case kS => assumption); (case kd => ((try dsimp only [ktrTop]); omega)); (case ku => ((try dsimp only [ktrTop]); omega)); (case kf => assumption); (case kw1 => assumption); (case kw => assumption); (case kx => exact rfl); (case kr => exact lt_of_rem (by assumption) (by assumption)); (case ky => (rename ∀ y ∈ _, (0 : Int) ≤ y ∧ y < _ => hq9; exact hq9 _ (by assumption))); intro t9 h9 tk9 F' N'))
  k_with "compareOp Is" => (k_here; (with_reducible show wpAny _ _ (compareOp CmpOp.Is (Value.int _ _) (Value.ref _)) _ _ _); refine wpAny_is_other (by rfl) (by intro x; cases x) ?_)
  k_fill
  intro dp un gd cn cs a L ccd cl outer base s Q E B X T hd hu S hL hret
  refine wpAny_call ?_
  k_dflt (refine' callP ?k1 ?k2 ?k3 ?k6 ?k7 ?k8 ?k9 ?kB ?_ ?c2 ?c3 ?c4 ?c5; (case k1 => k_asm); (case k2 => k_asm); (case k3 => k_asm); (case k6 => k_is); (case k7 => k_is); (case k8 => ktr_room); (case k9 => first | exact BindsTo.of_eq rfl | exact binds_K (by k_in) rfl (by k_is) rfl rfl rfl); (case c5 => decide); (case kB => exact locs rfl); (case c2 => exact rfl); (case c3 => exact rfl); (case c4 => exact rfl); k_whole; intro g' L' h' hS' F' N' B' X' T'; (try dsimp only))
  k_fold
  have S' := S.stays hS'
  have hL' := stays_list hS' hL
  k_with "pyIter ref" => (refine kst_iterL (fun c : Nat × Tok => [(Str.ofString "value", Value.int (c.1 : Int) c.2)]) [] (fun pre c => c.1 = rem f (numI wd r pre)) (r, t1) rfl (by assumption) (by assumption) (Nat.zero_le _) (by k_asm) (by k_asm) (by intro p hp; (cases hp with | head => rfl | tail _ h => cases h)) (rem_small _ hr).symm ?turn ?done; (case' turn => (intro kC kPre kPost kN kT kU kH kTk kOwn kEq kMem kOff kFacts kInv kFr kNews; (try dsimp only [kstB] at kFr); (try simp only [List.nil_append] at kNews))); (case' done => (intro kC kU kH kTk kFacts kInv kFr kNews; (try dsimp only [kstB] at kFr))))
  k_with "state" => exact red_state (by assumption) (by assumption) (by assumption) (by assumption)
  k_steps
  refine ret_int hret (congrArg Int.ofNat (?e : _ = rem f (numI wd r (ns.drop 0)))) hS' (by assumption)
  assumption
end Mine
open PySem PySem.W PySem.Spec PySem.Calls PyProof.Rows
set_option Elab.async false
set_option maxRecDepth 100000
namespace Mine
set_option maxHeartbeats 8000000 in
theorem c_reduce0 {w : World} {p : Program} {loose : List Str} {mean : ExcName → Option Value} {mg mb : Str → Option Value} {f wd : Nat} (hf : Frm f) (hw1 : 1 ≤ wd) (hw : wd ≤ 8) {fa l : Addr} {vs : List Value} {n0 : Int} {ns : List Int} (hi : IntsAre vs (n0 :: ns)) (hns : ∀ y ∈ n0 :: ns, 0 ≤ y ∧ y < 2 ^ wd) :
  ∀ (dp un : Nat) (gd : Option (List Code)) (cn : Str) (cs : Scope) (a L : Addr) (ccd : Value) (cl : List (Str × Addr)) (outer : List Env) (base : Heap) (s : Shared) (Q E : Value → Shared → Prop),
    Below (ktrTop dp un gd cn cs L a ccd cl outer) base (envX cn cs L a ccd cl :: outer) s.heap → (hd.heap_39 w.params).In s.heap → Top p loose mean mg mb s.heap → dp + 4 < recursionLimit → un + 32 < cLine →
    IsStep s.heap fa f wd → s.heap.IsList l vs.toArray →
    (∀ t h' tk', s.heap.StaysIn h' → Q (.int (rem f (numI wd 0 (n0 :: ns)) : Nat) t) { s with heap := h', toks := tk' }) →
    wpAny (model PySem.Challenge.rw_qh0004_01.row.prog w) (ktrTop dp un gd cn cs L a ccd cl outer) (call (.ref 127) [.ref fa, .ref l]) Q E s := by
  k_with_none
  w_top off
  k_with "call builtin:iter" => (k_here; k_dflt (refine' iter_L ?k1 ?k2 ?k3 ?_; (case k1 => k_asm); (case k2 => k_asm); (case k3 => k_asm); k_whole; intro I' h' F' N' l1; (try k_lt l1)))
  k_with "FnAt" => (k_here; exact (IsStep.stays (by assumption) (Fr.keep (by k_asm))).fnAt)
  k_with "callWith ref" => (k_here; k_dflt (refine' callWith_F ?k1 ?_; (case k1 => exact (IsStep.stays (by assumption) (Fr.keep (by k_asm))).fnAt); k_whole))
  k_with "call ref" => (k_here; (with_reducible show wpAny _ _ (call (Value.ref _) [Value.int _ _, Value.int _ _]) _ _ _); k_dflt (refine' c_stepU ?k1 ?kA ?k2 ?k3 ?k4 ?k5 ?kK ?kd ?ku ?kf ?kw1 ?kw ?kS ?kx ?kr ?ky ?kR; (case k1 => k_asm); (case k2 => k_asm); (case k3 => k_asm); (case k4 => k_asm); (case k5 => k_asm); (case kA => rfl); (case kK => rfl); (case kS => assumption); (case kd => ((try dsimp only [ktrTop]); omega)); (case ku => ((try dsimp only [ktrTop]); omega)); (case kf => assumption); (case kw1 => assumption); (case kw => assumption); (case kx => exact rfl); (case kr => exact lt_of_rem (by assumption) (by assumption)); (case ky => (rename ∀ y ∈ _, (0 : Int) ≤ y ∧ y < _ => hq9; exact hq9 _ (by assumption))); intro t9 h9 tk9 F' N'))
  k_with "compareOp Is" => (k_here; (with_reducible show wpAny _ _ (compareOp CmpOp.Is (Value.int _ _) (Value.ref _)) _ _ _); refine wpAny_is_other (by rfl) (by intro x; cases x) ?_)
  k_with "call builtin:next" => (k_here; k_dflt (refine' next_L ?k1 ?k2 ?k3 ?k4 ?_; (case k1 => k_asm); (case k2 => k_asm); (case k3 => k_asm); (case k4 => assumption); k_whole; intro h' F' N'))
  k_with "compareOp Is ref ref" => (k_here; refine wpAny_is_ref_self ?_)
  k_fill
  intro dp un gd cn cs a L ccd cl outer base s Q E B X T hd hu S hL hret
  refine wpAny_call ?_
  k_dflt (refine' callP ?k1 ?k2 ?k3 ?k6 ?k7 ?k8 ?k9 ?kB ?_ ?c2 ?c3 ?c4 ?c5; (case k1 => k_asm); (case k2 => k_asm); (case k3 => k_asm); (case k6 => k_is); (case k7 => k_is); (case k8 => ktr_room); (case k9 => first | exact BindsTo.of_eq rfl | exact binds_K (by k_in) rfl (by k_is) rfl rfl rfl); (case c5 => decide); (case kB => exact locs rfl); (case c2 => exact rfl); (case c3 => exact rfl); (case c4 => exact rfl); k_whole; intro g' L' h' hS' F' N' B' X' T'; (try dsimp only))
  k_fold
  have S' := S.stays hS'
  have hL' := stays_list hS' hL
  have hx0 := hi.get (i := 0) (n := n0) rfl
  obtain ⟨t1, hx0⟩ := hx0
  have hx1 : vs.toArray[0]? = some (Value.int n0 t1) := by simpa using hx0
  have hn0 := hns n0 (.head _)
  have en0 : n0 = ((n0.toNat : Nat) : Int) := by omega
  have hr0 : n0.toNat < 16777216 := by
    have h1 := int_pow_lt hn0
    have h2 : 2 ^ wd ≤ 2 ^ 8 := Nat.pow_le_pow_right (by decide) hw
    omega
  k_with "pyIter ref" => (refine kst_iterL (fun c : Nat × Tok => [(Str.ofString "value", Value.int (c.1 : Int) c.2)]) [] (fun pre c => c.1 = rem f (numI wd n0.toNat pre)) (n0.toNat, t1) rfl (by assumption) (by assumption) (Nat.succ_le_succ (Nat.zero_le _)) (by k_asm) (by k_asm) (by intro p hp; (cases hp with | head => exact congrArg (fun z => some (Value.int z t1)) en0 | tail _ h => cases h)) (rem_small _ hr0).symm ?turn ?done; (case' turn => (intro kC kPre kPost kN kT kU kH kTk kOwn kEq kMem kOff kFacts kInv kFr kNews; (try dsimp only [kstB] at kFr); (try simp only [List.nil_append] at kNews))); (case' done => (intro kC kU kH kTk kFacts kInv kFr kNews; (try dsimp only [kstB] at kFr))))
  k_with "state" => exact red_state (by assumption) (by assumption) (by assumption) (by assumption)
  k_steps
  refine ret_int hret (congrArg Int.ofNat (?e : _ = rem f (numI wd 0 (n0 :: ns)))) hS' (by assumption)
  show _ = rem f (numI wd (0 * 2 ^ wd + n0.toNat) ns)
  rw [Nat.zero_mul, Nat.zero_add]
  assumption
end Mine
set_option Elab.async false
namespace Mine
/-- n figures of 2^w, the highest first -/
def digs (w : Nat) : Nat → Nat → List Nat
  | 0, _ => []
  | n + 1, v => digs w n (v / 2 ^ w) ++ [v % 2 ^ w]
theorem digs_length (w n v : Nat) : (digs w n v).length = n := by
  induction n generalizing v with
  | zero => rfl
  | succ n ih => simp [digs, ih]
/-- the sign of a figure of six bits -/
def sgn (d : Nat) : Nat := if d < 26 then d + 65 else if d < 52 then d + 71 else if d < 62 then d - 4 else if d = 62 then 43 else 47
/-- the encoder's state when n bits of V are taken -/
structure EncSt (V n : Nat) (out : List Int) (lb lc : Int) : Prop where
  is : ∃ L : Nat, lb = L ∧ L ≤ 13 ∧ lc = ((V % 65536 : Nat) : Int) ∧ 6 * out.length + L = n ∧ out = (digs 6 out.length (V / 2 ^ L)).map (fun d => ((sgn d : Nat) : Int))
end Mine
open PySem PySem.W PySem.Spec PySem.Calls PyProof.Rows
set_option Elab.async false
namespace Mine
structure EncP (pre : List Int) (out : List Int) (lb lc : Int) : Prop where
  st : EncSt (numI 8 0 pre) (8 * pre.length) out lb lc
  lt : lb < 6
def encOf (ks : List Int) : List Int :=
  (digs 6 ((8 * ks.length + 5) / 6) (numI 8 0 ks * 2 ^ (6 * ((8 * ks.length + 5) / 6) - 8 * ks.length))).map (fun d => ((sgn d : Nat) : Int)) ++ List.replicate ((4 - (8 * ks.length + 5) / 6 % 4) % 4) 61

theorem or_low {a b k : Nat} (hb : b < 2 ^ k) : a * 2 ^ k ||| b = a * 2 ^ k + b := by
  have h := Nat.shiftLeft_add_eq_or_of_lt hb a
  rw [Nat.shiftLeft_eq] at h
  exact h.symm
theorem and_mask (a k : Nat) : a &&& (2 ^ k - 1) = a % 2 ^ k := Nat.and_two_pow_sub_one_eq_mod a k
theorem enc_start : EncP [] [] 0 0 := ⟨⟨⟨0, rfl, by decide, rfl, rfl, rfl⟩⟩, by decide⟩
theorem enc_byte {pre out : List Int} {lb lc n : Int} (h : EncP pre out lb lc) (h0 : 0 ≤ n) (h1 : n < 256) :
    EncSt (numI 8 0 (pre ++ [n])) (8 * (pre ++ [n]).length) out (lb + 8) (Builtin.bitAnd (Builtin.bitOr (lc * 2 ^ Int.toNat 8) n) 65535) := by
  obtain ⟨⟨L, rfl, hL, rfl, h2, h3⟩⟩ := h.st
  have hlt := h.lt
  obtain ⟨m, rfl⟩ : ∃ m : Nat, n = m := ⟨n.toNat, by omega⟩
  rw [numI_snoc]
  generalize numI 8 0 pre = V at *
  have hm : m < 2 ^ 8 := by omega
  have e1 : ((V % 65536 : Nat) : Int) * 2 ^ Int.toNat 8 = ((V % 65536 * 2 ^ 8 : Nat) : Int) := by simp
  have e2 : (65535 : Int) = ((2 ^ 16 - 1 : Nat) : Int) := by decide
  rw [e1, bitOr_nat, or_low hm, e2, bitAnd_nat, and_mask, Int.toNat_natCast]
  have e9 : (V % 65536 * 2 ^ 8 + m) % 2 ^ 16 = (V * 2 ^ 8 + m) % 65536 := by omega
  refine ⟨⟨L + 8, by omega, by omega, by rw [e9], by simp; omega, ?_⟩⟩
  have e3 : (V * 2 ^ 8 + m) / 2 ^ (L + 8) = V / 2 ^ L := by
    rw [Nat.add_comm L 8, Nat.pow_add, ← Nat.div_div_eq_div_mul, Nat.mul_comm V, Nat.mul_add_div (Nat.two_pow_pos 8), Nat.div_eq_of_lt hm, Nat.add_zero]
  rw [e3]
  exact h3
theorem enc_turn {V n : Nat} {out : List Int} {lb lc : Int} (h : EncSt V n out lb lc) (h6 : 6 ≤ lb) :
    EncSt V n (out ++ [((sgn (Builtin.bitAnd (lc.fdiv (2 ^ (lb - 6).toNat)) 63).toNat : Nat) : Int)]) (lb - 6) lc := by
  obtain ⟨⟨L, rfl, hL, rfl, h2, h3⟩⟩ := h
  obtain ⟨j, rfl⟩ : ∃ j, L = j + 6 := ⟨L - 6, by omega⟩
  have e0 : ((j + 6 : Nat) : Int) - 6 = (j : Nat) := by omega
  have e1 : ((V % 65536 : Nat) : Int).fdiv (2 ^ (j : Int).toNat) = ((V % 65536 / 2 ^ j : Nat) : Int) := by
    rw [Int.fdiv_eq_ediv_of_nonneg _ (by exact Int.le_of_lt (Int.pow_pos (by decide)))]
    simp
  have e2 : (63 : Int) = ((2 ^ 6 - 1 : Nat) : Int) := by decide
  rw [e0, e1, e2, bitAnd_nat, and_mask, Int.toNat_natCast]
  have e3 : V % 65536 / 2 ^ j % 2 ^ 6 = V / 2 ^ j % 2 ^ 6 := by
    have hj : j ≤ 7 := by omega
    have hj2 : j + (16 - j) = 16 := by omega
    have e4 : (65536 : Nat) = 2 ^ j * 2 ^ (16 - j) := by rw [← Nat.pow_add, hj2]
    rw [e4, Nat.mod_mul_right_div_self, Nat.mod_mod_of_dvd]
    exact Nat.pow_dvd_pow 2 (by omega)
  rw [e3]
  refine ⟨⟨j, rfl, by omega, rfl, by simp; omega, ?_⟩⟩
  rw [List.length_append, List.length_singleton]
  show _ = (digs 6 (out.length) (V / 2 ^ j / 2 ^ 6) ++ [V / 2 ^ j % 2 ^ 6]).map _
  rw [List.map_append, Nat.div_div_eq_div_mul, ← Nat.pow_add, ← h3]
  rfl
theorem enc_back {pre out : List Int} {lb lc : Int} (h : EncSt (numI 8 0 pre) (8 * pre.length) out lb lc) (h6 : ¬ 6 ≤ lb) : EncP pre out lb lc := ⟨h, by omega⟩
theorem enc_fall {lb : Int} (h6 : 6 ≤ lb) : (lb - 6).toNat < lb.toNat := by omega
theorem enc_lc {V n : Nat} {out : List Int} {lb lc : Int} (h : EncSt V n out lb lc) : 0 ≤ lc ∧ lc < 65536 := by
  obtain ⟨⟨L, rfl, hL, rfl, h2, h3⟩⟩ := h
  omega
theorem enc_b1 {pre out : List Int} {lb lc : Int} (h : EncP pre out lb lc) : lc.natAbs < 2 ^ 64 := by
  have := enc_lc h.st
  omega
theorem bitAnd_pos {a b : Int} (ha : 0 ≤ a) (hb : 0 ≤ b) : 0 ≤ Builtin.bitAnd a b ∧ Builtin.bitAnd a b ≤ b := by
  obtain ⟨x, rfl⟩ : ∃ x : Nat, a = x := ⟨a.toNat, by omega⟩
  obtain ⟨y, rfl⟩ : ∃ y : Nat, b = y := ⟨b.toNat, by omega⟩
  rw [bitAnd_nat]
  have : x &&& y ≤ y := Nat.and_le_right
  omega
theorem enc_b3 {pre out : List Int} {lb lc : Int} (h : EncP pre out lb lc) : (Builtin.bitAnd lc 3).natAbs < 2 ^ 64 := by
  have h1 := bitAnd_pos (enc_lc h.st).1 (b := 3) (by decide)
  omega
theorem enc_b15 {pre out : List Int} {lb lc : Int} (h : EncP pre out lb lc) : (Builtin.bitAnd lc 15).natAbs < 2 ^ 64 := by
  have h1 := bitAnd_pos (enc_lc h.st).1 (b := 15) (by decide)
  omega
theorem enc_i {V n : Nat} {out : List Int} {lb lc : Int} (h : EncSt V n out lb lc) (m : Nat) : 0 ≤ Builtin.bitAnd (lc.fdiv (2 ^ m)) 63 ∧ Builtin.bitAnd (lc.fdiv (2 ^ m)) 63 < 64 := by
  have h0 : 0 ≤ lc.fdiv (2 ^ m) := Int.fdiv_nonneg (enc_lc h).1 (Int.le_of_lt (Int.pow_pos (by decide)))
  have h1 := bitAnd_pos h0 (b := 63) (by decide)
  omega
theorem enc_i3 {pre out : List Int} {lb lc : Int} (h : EncP pre out lb lc) : 0 ≤ Builtin.bitAnd lc 3 * 2 ^ Int.toNat 4 ∧ Builtin.bitAnd lc 3 * 2 ^ Int.toNat 4 < 64 := by
  have h1 := bitAnd_pos (enc_lc h.st).1 (b := 3) (by decide)
  have e : (2 : Int) ^ Int.toNat 4 = 16 := by decide
  rw [e]
  omega
theorem enc_i15 {pre out : List Int} {lb lc : Int} (h : EncP pre out lb lc) : 0 ≤ Builtin.bitAnd lc 15 * 2 ^ Int.toNat 2 ∧ Builtin.bitAnd lc 15 * 2 ^ Int.toNat 2 < 64 := by
  have h1 := bitAnd_pos (enc_lc h.st).1 (b := 15) (by decide)
  have e : (2 : Int) ^ Int.toNat 2 = 4 := by decide
  rw [e]
  omega
theorem enc_end0 {ks out : List Int} {lb lc : Int} (h : EncP ks out lb lc) (h2 : ¬ lb = 2) (h4 : ¬ lb = 4) : out = encOf ks := by
  obtain ⟨⟨L, rfl, hL, rfl, h5, h6⟩⟩ := h.st
  have hlt := h.lt
  have hl0 : L = 0 := by omega
  subst hl0
  unfold encOf
  have e1 : (8 * ks.length + 5) / 6 = out.length := by omega
  have e2 : 6 * out.length - 8 * ks.length = 0 := by omega
  have e3 : (4 - out.length % 4) % 4 = 0 := by omega
  rw [e1, e2, e3, Nat.pow_zero, Nat.mul_one]
  rw [Nat.pow_zero, Nat.div_one] at h6
  rw [← h6]
  simp
theorem enc_end2 {ks out : List Int} {lb lc : Int} (h : EncP ks out lb lc) (h2 : lb = 2) : out ++ [((sgn (Builtin.bitAnd lc 3 * 2 ^ Int.toNat 4).toNat : Nat) : Int)] ++ [61] ++ [61] = encOf ks := by
  obtain ⟨⟨L, rfl, hL, rfl, h5, h6⟩⟩ := h.st
  have hl0 : L = 2 := by omega
  subst hl0
  unfold encOf
  have e1 : (8 * ks.length + 5) / 6 = out.length + 1 := by omega
  have e2 : 6 * (out.length + 1) - 8 * ks.length = 4 := by omega
  have e3 : (4 - (out.length + 1) % 4) % 4 = 2 := by omega
  rw [e1, e2, e3]
  generalize numI 8 0 ks = V at *
  have e4 : (3 : Int) = ((2 ^ 2 - 1 : Nat) : Int) := by decide
  rw [e4, bitAnd_nat, and_mask]
  have e5 : (((V % 65536 % 2 ^ 2 : Nat) : Int) * 2 ^ Int.toNat 4).toNat = V * 2 ^ 4 % 2 ^ 6 := by
    have e6 : (2 : Int) ^ Int.toNat 4 = 16 := by decide
    rw [e6]; omega
  have e7 : V * 2 ^ 4 / 2 ^ 6 = V / 2 ^ 2 := by omega
  rw [e5]
  show _ = (digs 6 out.length (V * 2 ^ 4 / 2 ^ 6) ++ [V * 2 ^ 4 % 2 ^ 6]).map _ ++ _
  rw [e7, List.map_append, ← h6]
  simp
theorem enc_end4 {ks out : List Int} {lb lc : Int} (h : EncP ks out lb lc) (h4 : lb = 4) : out ++ [((sgn (Builtin.bitAnd lc 15 * 2 ^ Int.toNat 2).toNat : Nat) : Int)] ++ [61] = encOf ks := by
  obtain ⟨⟨L, rfl, hL, rfl, h5, h6⟩⟩ := h.st
  have hl0 : L = 4 := by omega
  subst hl0
  unfold encOf
  have e1 : (8 * ks.length + 5) / 6 = out.length + 1 := by omega
  have e2 : 6 * (out.length + 1) - 8 * ks.length = 2 := by omega
  have e3 : (4 - (out.length + 1) % 4) % 4 = 1 := by omega
  rw [e1, e2, e3]
  generalize numI 8 0 ks = V at *
  have e4 : (15 : Int) = ((2 ^ 4 - 1 : Nat) : Int) := by decide
  rw [e4, bitAnd_nat, and_mask]
  have e5 : (((V % 65536 % 2 ^ 4 : Nat) : Int) * 2 ^ Int.toNat 2).toNat = V * 2 ^ 2 % 2 ^ 6 := by
    have e6 : (2 : Int) ^ Int.toNat 2 = 4 := by decide
    rw [e6]; omega
  have e7 : V * 2 ^ 2 / 2 ^ 6 = V / 2 ^ 4 := by omega
  rw [e5]
  show _ = (digs 6 out.length (V * 2 ^ 2 / 2 ^ 6) ++ [V * 2 ^ 2 % 2 ^ 6]).map _ ++ _
  rw [e7, List.map_append, ← h6]
  simp
theorem sgn_lt (d : Nat) : sgn d < 256 := by
  unfold sgn
  split
  · omega
  · split
    · omega
    · split
      · omega
      · split <;> omega
theorem enc_in (ks : List Int) : KBa.In (encOf ks) := by
  intro n hn
  unfold encOf at hn
  rcases List.mem_append.mp hn with h | h
  · obtain ⟨d, _, rfl⟩ := List.mem_map.mp h
    have := sgn_lt d
    omega
  · rw [List.eq_of_mem_replicate h]; decide
theorem encOf_length (ks : List Int) : (encOf ks).length ≤ 4 * ks.length + 8 := by
  unfold encOf
  rw [List.length_append, List.length_map, digs_length, List.length_replicate]
  omega
end Mine
open PySem PySem.W PySem.Spec PySem.Calls PyProof.Rows
set_option Elab.async false
set_option maxRecDepth 100000
namespace Mine
section
theorem b64_item {prog : Program} {w : World} {A : Around} {E : Value → Shared → Prop} {s : Shared} {b : Array UInt8} {t ui : Tok} {k : Int} {value slice : Expr} {Q : Value → Shared → Prop} (hb : KBw.bInts b = (List.range 64).map (fun d => ((sgn d : Nat) : Int))) (hk : 0 ≤ k ∧ k < 64)
    (h : ∀ t' j, Q (.int ((sgn k.toNat : Nat) : Int) t') { s with toks := j })
    (hs : subscripted slice false (.bytes b t) (.int k ui) = operate [.bytes b t, .int k ui] (getItem (.bytes b t) (.int k ui)) := by with_unfolding_all rfl)
    (ht : ∀ r, letTemporaryGo value (.bytes b t) r = pure () := by intro _; with_unfolding_all rfl) :
    wpAny (model prog w) A (subscriptTail value slice (.bytes b t) (.int k ui)) Q E s := by
  refine KBw.item_K hb (by simp) hk.1 (by simp; exact hk.2) ?_ hs ht
  intro t' j _ _
  have e : ((List.range 64).map (fun d => ((sgn d : Nat) : Int))).getD k.toNat 0 = ((sgn k.toNat : Nat) : Int) := by
    have : k.toNat < 64 := by omega
    simp [List.getD_eq_getElem?_getD, this]
  rw [e]
  exact h t' j

theorem enc_len1 {us : List Value} {ns pre : List Int} {n lb lc : Int} {V len : Nat} (hi : IntsAre us ns) (h : EncSt V (8 * (pre ++ [n]).length) ns lb lc) (hl : pre.length < len) (hb : len ≤ 8) : us.length ≤ 20 := by
  obtain ⟨⟨L, _, _, _, h2, _⟩⟩ := h
  rw [hi.length]
  simp at h2
  omega
theorem enc_len2 {us : List Value} {ns ks : List Int} {lb lc : Int} {len : Nat} (hi : IntsAre us ns) (h : EncP ks ns lb lc) (hl : ks.length = len) (hb : len ≤ 8) : us.length ≤ 20 := by
  obtain ⟨⟨L, _, _, _, h2, _⟩⟩ := h.st
  rw [hi.length]
  omega

theorem enc_ints0 {us : List Value} {ns ks : List Int} {lb lc : Int} (hi : IntsAre us ns) (h : EncP ks ns lb lc) (h2 : ¬ lb = 2) (h4 : ¬ lb = 4) : IntsAre us.toArray.toList (encOf ks) := by
  rw [← enc_end0 h h2 h4]
  exact hi
theorem enc_ints2 {us : List Value} {ns ks : List Int} {lb lc : Int} {t1 t2 t3 : Tok} (hi : IntsAre us ns) (h : EncP ks ns lb lc) (h2 : lb = 2) :
    IntsAre (((us.toArray.push (.int ((sgn (Builtin.bitAnd lc 3 * 2 ^ Int.toNat 4).toNat : Nat) : Int) t1)).push (.int 61 t2)).push (.int 61 t3)).toList (encOf ks) := by
  rw [← enc_end2 h h2]
  simp only [Array.toList_push]
  exact ((hi.append (.cons _ _ .nil)).append (.cons _ _ .nil)).append (.cons _ _ .nil)
theorem enc_ints4 {us : List Value} {ns ks : List Int} {lb lc : Int} {t1 t2 : Tok} (hi : IntsAre us ns) (h : EncP ks ns lb lc) (h4 : lb = 4) :
    IntsAre ((us.toArray.push (.int ((sgn (Builtin.bitAnd lc 15 * 2 ^ Int.toNat 2).toNat : Nat) : Int) t1)).push (.int 61 t2)).toList (encOf ks) := by
  rw [← enc_end4 h h4]
  simp only [Array.toList_push]
  exact (hi.append (.cons _ _ .nil)).append (.cons _ _ .nil)
theorem bytes_make {prog : Program} {w : World} {A : Around} {E : Value → Shared → Prop} {s : Shared} {h₀ : Heap} {L l : Addr} {m : Str → Option Value} {news : List (Addr × Obj)} {its : Array Value} {c : Nat} {ns : List Int} {Q : Value → Shared → Prop}
    (F : Fr h₀ L s.heap m) (N : News h₀ L s.heap news) (hh : A.handled = none) (hm : (l, W.listOf its c) ∈ news) (hi : IntsAre its.toList ns) (hr : KBa.In ns) (hn : ns.length ≤ 16777216)
    (h : ∀ b' h' t' k, Fr h₀ L h' m → News h₀ L h' news → KBw.bInts b' = ns → Q (.bytes b' t') { s with heap := h', toks := k }) : wpAny (model prog w) A (call (.type "bytes") [.ref l]) Q E s := by
  refine KBa.make_K (vs := its.toList) F N hh ⟨_, (N _ hm).1, rfl, c, ?_⟩ hi hr hn fun h' t' k F' N' _ => h _ h' t' k F' N' (KBa.ints_make hr)
  simp [W.listOf]
theorem enc_small {ks : List Int} {len : Nat} (hl : ks.length = len) (hb : len ≤ 8) : (encOf ks).length ≤ 16777216 := by
  have := encOf_length ks
  omega
theorem ret_bytes {s : Shared} {Q : Value → Shared → Prop} {P : Array UInt8 → Prop} {b' : Array UInt8} {t : Tok} {h' : Heap} {tk' : Nat} {g : Heap} {L : Addr} {m : Str → Option Value}
    (hret : ∀ b' t h' tk', P b' → s.heap.StaysIn h' → Q (.bytes b' t) { s with heap := h', toks := tk' }) (e : P b') (hS : s.heap.StaysIn g) (F : Fr g L h' m) : Q (.bytes b' t) { s with heap := h', toks := tk' } :=
  hret b' t h' tk' e fun b o h => F.keep b o (hS b o h)

set_option maxHeartbeats 8000000 in
theorem c_b64encode {w : World} {p : Program} {loose : List Str} {mean : ExcName → Option Value} {mg mb : Str → Option Value} {b : Array UInt8} (hb : b.size ≤ 8) {t1 : Tok} :
  ∀ (dp un : Nat) (gd : Option (List Code)) (cn : Str) (cs : Scope) (a L : Addr) (ccd : Value) (cl : List (Str × Addr)) (outer : List Env) (base : Heap) (s : Shared) (Q E : Value → Shared → Prop),
    Below (ktrTop dp un gd cn cs L a ccd cl outer) base (envX cn cs L a ccd cl :: outer) s.heap → (hd.heap_39 w.params).In s.heap → Top p loose mean mg mb s.heap → dp + 4 < recursionLimit → un + 32 < cLine →
    (∀ b' t h' tk', KBw.bInts b' = encOf (KBw.bInts b) → s.heap.StaysIn h' → Q (.bytes b' t) { s with heap := h', toks := tk' }) →
    wpAny (model PySem.Challenge.rw_qh0004_01.row.prog w) (ktrTop dp un gd cn cs L a ccd cl outer) (call (.ref 103) [.bytes b t1]) Q E s := by
  k_with_none
  w_top off
  k_with "call type:type" => (k_here; (with_reducible show wpAny _ _ (call _ [Value.bytes _ _]) _ _ _); refine call_type_of (Tx := "bytes") rfl (by decide +kernel) ?_)
  k_with "subscriptTail" => (k_here; (with_reducible show wpAny _ _ (subscriptTail _ _ (Value.bytes _ _) (Value.int _ _)) _ _ _); (refine b64_item (by decide +kernel) (by first | exact enc_i (by assumption) _ | exact enc_i3 (by assumption) | exact enc_i15 (by assumption)) ?_); intro _ _)
  k_with "binaryOp LShift int int" => (k_here; (refine lshift_int_small (by decide) (by decide) (by first | exact enc_b1 (by assumption) | exact enc_b3 (by assumption) | exact enc_b15 (by assumption)) ?_))
  k_with "call builtin:list.append" => (k_here; (with_reducible show wpAny _ _ (call (Value.builtin _) [Value.ref _, _]) _ _ _); k_dflt (refine' append_K ?k1 ?k2 ?k3 ?_ ?z; (case k1 => k_asm); (case k2 => k_asm); (case k3 => k_upd); (case z => ((first | (have hz9 := enc_len1 (by assumption) (by assumption) (by assumption) (by assumption)) | (have hz9 := enc_len2 (by assumption) (by assumption) (by assumption) (by assumption))); rw [sizeLine_eq]; simp only [List.size_toArray, Array.size_push, List.length_append, List.length_cons, List.length_nil]; omega)); k_whole); intro h' F' N'; (try k_sweep))
  k_with "call type:bytes" => (k_here; k_dflt (refine' bytes_make ?k1 ?k2 ?k3 ?k4 ?k5 ?k6 ?k7 ?_; (case k1 => k_asm); (case k2 => k_asm); (case k3 => rfl); (case k4 => k_mem); (case k5 => first | exact enc_ints2 (by assumption) (by assumption) (by assumption) | exact enc_ints4 (by assumption) (by assumption) (by assumption) | exact enc_ints0 (by assumption) (by assumption) (by assumption) (by assumption)); (case k6 => exact enc_in _); (case k7 => exact enc_small (by assumption) (by assumption)); k_whole); intro b9 h' t9 k9 F' N' hb9)
  k_fill
  intro dp un gd cn cs a L ccd cl outer base s Q E B X T hd hu hret
  refine wpAny_call ?_
  k_dflt (refine' callP ?k1 ?k2 ?k3 ?k6 ?k7 ?k8 ?k9 ?kB ?_ ?c2 ?c3 ?c4 ?c5; (case k1 => k_asm); (case k2 => k_asm); (case k3 => k_asm); (case k6 => k_is); (case k7 => k_is); (case k8 => ktr_room); (case k9 => first | exact BindsTo.of_eq rfl | exact binds_K (by k_in) rfl (by k_is) rfl rfl rfl); (case c5 => decide); (case kB => exact locs rfl); (case c2 => exact rfl); (case c3 => exact rfl); (case c4 => exact rfl); k_whole; intro g' L' h' hS' F' N' B' X' T'; (try dsimp only))
  k_fold
  have hb2 : b.toList.length ≤ 8 := by simpa using hb
  have hnil0 : IntsAre ([] : List Value) ([] : List Int) := IntsAre.nil
  k_with "pyIter bytes" => k_state (fun pre out lb lc => EncP pre out lb lc) "out" "leftbits" "leftchar"
  k_with "exec While Compare cons nil" => k_while_given ["leftchar"] (fun lc _ out lb => EncSt (numI 8 0 (kPre ++ [kN])) (8 * (kPre ++ [kN]).length) out lb lc) (fun _ _ _ lb => lb.toNat) "out" "leftbits"
  k_with "state" => first | exact enc_start | exact enc_byte (by assumption) (by assumption) (by assumption) | exact enc_turn (by assumption) (by assumption) | exact enc_back (by assumption) (by assumption)
  k_with "measure" => exact enc_fall (by assumption)
  k_steps
  all_goals exact ret_bytes (P := fun b' => KBw.bInts b' = encOf (KBw.bInts b)) hret (by assumption) hS' (by assumption)
end
end Mine
open PySem PySem.W PySem.Spec PySem.Calls PyProof.Rows
set_option Elab.async false
set_option maxRecDepth 100000
namespace Mine
def plc (c : Int) : Int := if 65 ≤ c ∧ c ≤ 90 then c - 65 else if 97 ≤ c ∧ c ≤ 122 then c - 71 else if 48 ≤ c ∧ c ≤ 57 then c + 4 else if c = 43 then 62 else if c = 47 then 63 else 64
structure PlcP (pre out : List Int) : Prop where
  is : out = pre.map plc
section
theorem newList_B {prog : Program} {w : World} {A : Around} {E : Value → Shared → Prop} {s : Shared} {h₀ : Heap} {L : Addr} {m : Str → Option Value} {news : List (Addr × Obj)} {vs : List Value} {Q : Value → Shared → Prop} (F : Fr h₀ L s.heap m) (N : News h₀ L s.heap news)
    (h : ∀ (l : Addr) h', Fr h₀ L h' m → News h₀ L h' ((l, W.listOf vs.toArray 0) :: news) → (∀ p ∈ news, p.1 < l) → @LT.lt Nat _ L l → Q (.ref l) { s with heap := h' }) (hsz : vs.length ≤ sizeLine := by size_fits) : wpAny (model prog w) A (newList vs) Q E s :=
  newList_N F N (fun h' F' N' => h _ h' F' N' (fun p hp => Heap.lt_size (N p hp).1) F.ns.lt) hsz
theorem plc_len {us : List Value} {ns pre : List Int} {len : Nat} (hi : IntsAre us ns) (h : PlcP pre ns) (hl : pre.length < len) (hb : len ≤ 20) : us.length ≤ 20 := by
  rw [hi.length, h.is, List.length_map]
  omega
/-- as callP, and where the new frame lies -/
theorem callPs {prog : Program} {w : World} {A : Around} {s : Shared} {base : Heap} {outer : List Env} {K : Frag} {p : Program} {loose : List Str} {mean : ExcName → Option Value} {mg mb : Str → Option Value}
    {R : Result → Shared → Prop} {name qual : Str} {params : Arguments} {body : List Stmt} {scope : Scope} {dV kV doc pm cdv ct oc : Value} {an od : Option Addr} {osl : Array (Option Value)} {f : Addr} {args : Args} {binds : List (Str × Value)}
    (B : Below A base outer s.heap) (X : K.In s.heap) (T : Top p loose mean mg mb s.heap)
    (ho : K.lookup f = some ⟨oc, od, .func (fnOf name qual params body scope dV kV doc pm an cdv ct), osl⟩) (hcd : codeIn K cdv qual = true) (hroom : A.depth < recursionLimit)
    (hbind : BindsTo s (fnOf name qual params body scope dV kV doc pm an cdv ct) args binds) (hloc : ∀ y ∈ binds, scope.names.lookup y.1 = some .local)
    (h : ∀ g L' h₁, s.heap.StaysIn g → @LE.le Nat _ s.heap.objs.size L' → Fr g L' h₁ (fun y => binds.reverse.lookup y) → News g L' h₁ [] → Below A base outer g → K.In g → Top p loose mean mg mb g →
      wpAny (model prog w) (A.deeper (envOf qual scope L' f cdv)) (execs body (envOf qual scope L' f cdv))
        (fun fl s' => R (.ok (.ret (match fl with | .ret v => v | _ => .none))) s')
        (fun e s' => wpAny (model prog w) (A.deeper (envOf qual scope L' f cdv)) (leaving (envOf qual scope L' f cdv) e) (fun _ s'' => R (.error e) s'') (fun e' s'' => R (.error e') s'') s')
        { s with heap := h₁, toks := s.toks + binds.length })
    (hco : scope.isCoroutine = false) (hgen : scope.isGenerator = false) (hk : scope.kind = .function)
    (hcell : ∀ x ∈ scope.names, x.2 ≠ .cell) : codeAny (model prog w) A (.call (.ref f) args) R s := by
  refine codeAny_call_def (fd := fnOf name qual params body scope dV kV doc pm an cdv ct) (body := body) (binds := binds) hroom (X _ _ ho) rfl T.nolimit (codeRec_of X hcd) rfl hbind hcell hloc (fun h₁ hns hk₁ => ?_) hco hgen hk
  exact h s.heap s.heap.objs.size h₁ (fun _ _ e => e) (Nat.le_refl _) ⟨hns, hk₁, Nat.le_refl _⟩ News.nil B X T
theorem ret_list {s : Shared} {Q : Value → Shared → Prop} {us : List Value} {ns : List Int} {c : Nat} {l : Addr} {h' : Heap} {tk' : Nat} {g : Heap} {L : Addr} {m : Str → Option Value} {news : List (Addr × Obj)}
    (hret : ∀ us c l h' tk', IntsAre us ns → s.heap.StaysIn h' → h'.get? l = some (W.listOf us.toArray c) → s.heap.get? l = none → @LT.lt Nat _ s.heap.objs.size l → Q (.ref l) { s with heap := h', toks := tk' })
    (e : IntsAre us ns) (hS : s.heap.StaysIn g) (hz : @LE.le Nat _ s.heap.objs.size L) (F : Fr g L h' m) (N : News g L h' news) (hm : (l, W.listOf us.toArray c) ∈ news) (hl : @LT.lt Nat _ L l) : Q (.ref l) { s with heap := h', toks := tk' } := by
  refine hret us c l h' tk' e (fun b o h => F.keep b o (hS b o h)) (N _ hm).1 ?_ (Nat.lt_of_le_of_lt hz hl)
  cases q : s.heap.get? l with
  | none => rfl
  | some o => have := (N _ hm).2.2; rw [hS _ _ q] at this; cases this
theorem plc_end {us : List Value} {ns ks : List Int} (hi : IntsAre us ns) (h : PlcP ks ns) : IntsAre us (ks.map plc) := h.is ▸ hi
theorem plc_start : PlcP [] [] := ⟨rfl⟩
theorem plc_step {pre out : List Int} {n x : Int} (h : PlcP pre out) (hx : x = plc n) : PlcP (pre ++ [n]) (out ++ [x]) := ⟨by rw [h.is, hx]; simp⟩

set_option maxHeartbeats 8000000 in
theorem c_places {w : World} {p : Program} {loose : List Str} {mean : ExcName → Option Value} {mg mb : Str → Option Value} {b : Array UInt8} (hb : b.size ≤ 20) {t1 : Tok} :
  ∀ (dp un : Nat) (gd : Option (List Code)) (cn : Str) (cs : Scope) (a L : Addr) (ccd : Value) (cl : List (Str × Addr)) (outer : List Env) (base : Heap) (s : Shared) (Q E : Value → Shared → Prop),
    Below (ktrTop dp un gd cn cs L a ccd cl outer) base (envX cn cs L a ccd cl :: outer) s.heap → (hd.heap_39 w.params).In s.heap → Top p loose mean mg mb s.heap → dp + 4 < recursionLimit → un + 32 < cLine →
    (∀ us c l h' tk', IntsAre us ((KBw.bInts b).map plc) → s.heap.StaysIn h' → h'.get? l = some (W.listOf us.toArray c) → s.heap.get? l = none → @LT.lt Nat _ s.heap.objs.size l → Q (.ref l) { s with heap := h', toks := tk' }) →
    wpAny (model PySem.Challenge.rw_qh0004_01.row.prog w) (ktrTop dp un gd cn cs L a ccd cl outer) (call (.ref 176) [.bytes b t1]) Q E s := by
  k_with_none
  w_top off
  k_with "newList" => (k_here; k_dflt (refine' newList_B ?k1 ?k2 ?_; (case k1 => k_asm); (case k2 => k_asm); k_whole); intro l' h' F' N' l1 l2; (try k_lt l1))
  k_with "call builtin:list.append" => (k_here; (with_reducible show wpAny _ _ (call (Value.builtin _) [Value.ref _, _]) _ _ _); k_dflt (refine' append_K ?k1 ?k2 ?k3 ?_ ?z; (case k1 => k_asm); (case k2 => k_asm); (case k3 => k_upd); (case z => ((have hz9 := plc_len (by assumption) (by assumption) (by assumption) (by assumption)); rw [sizeLine_eq]; simp only [List.size_toArray, Array.size_push, List.length_append, List.length_cons, List.length_nil]; omega)); k_whole); intro h' F' N'; (try k_sweep))
  k_fill
  intro dp un gd cn cs a L ccd cl outer base s Q E B X T hd hu hret
  refine wpAny_call ?_
  k_dflt (refine' callPs ?k1 ?k2 ?k3 ?k6 ?k7 ?k8 ?k9 ?kB ?_ ?c2 ?c3 ?c4 ?c5; (case k1 => k_asm); (case k2 => k_asm); (case k3 => k_asm); (case k6 => k_is); (case k7 => k_is); (case k8 => ktr_room); (case k9 => first | exact BindsTo.of_eq rfl | exact binds_K (by k_in) rfl (by k_is) rfl rfl rfl); (case c5 => decide); (case kB => exact locs rfl); (case c2 => exact rfl); (case c3 => exact rfl); (case c4 => exact rfl); k_whole; intro g' L' h' hS' hsz' F' N' B' X' T'; (try dsimp only))
  k_fold
  have hb2 : b.toList.length ≤ 20 := by simpa using hb
  have hnil0 : IntsAre ([] : List Value) ([] : List Int) := IntsAre.nil
  k_with "pyIter bytes" => k_state (fun pre out => PlcP pre out) "places"
  k_with "state" => first | exact plc_start | exact plc_step (by assumption) (by unfold plc; (repeat' split) <;> omega)
  k_steps
  refine ret_list (ns := (KBw.bInts b).map plc) hret (plc_end (by assumption) (by assumption)) hS' hsz' (by assumption) (by assumption) (by k_mem) (by assumption)
end
end Mine
open PySem PySem.W PySem.Spec PySem.Calls PyProof.Rows
set_option Elab.async false
set_option maxRecDepth 100000
namespace Mine
open PySem.Builtin
def hexCps (b : Array UInt8) : Array Nat := b.toList.zipIdx.foldl (fun (out : Array Nat) (x : UInt8 × Nat) => (out.push (Bytes.hexDigit (x.1.toNat / 16))).push (Bytes.hexDigit (x.1.toNat % 16))) #[]
open PySem.Builtin.Bytes in
theorem hex_tree1 (b : Array UInt8) (t : Tok) : Builtin.«bytes.hex» ⟨[.bytes b t], []⟩ = retStr ⟨hexCps b⟩ := by
  unfold Builtin.«bytes.hex» hexM hexOf
  generalize retStr = R
  first | rfl | kernel_rfl
theorem hexCps_list (b : Array UInt8) : (hexCps b).toList = b.toList.flatMap fun c => [Bytes.hexDigit (c.toNat / 16), Bytes.hexDigit (c.toNat % 16)] := by
  unfold hexCps
  have h : ∀ (l : List UInt8) (k : Nat) (acc : Array Nat), ((l.zipIdx k).foldl (fun (out : Array Nat) (x : UInt8 × Nat) => (out.push (Bytes.hexDigit (x.1.toNat / 16))).push (Bytes.hexDigit (x.1.toNat % 16))) acc).toList = acc.toList ++ l.flatMap fun c => [Bytes.hexDigit (c.toNat / 16), Bytes.hexDigit (c.toNat % 16)] := by
    intro l
    induction l with
    | nil => intro k acc; simp
    | cons c l ih => intro k acc; simp [List.zipIdx_cons, ih]
  simpa using h b.toList 0 #[]
theorem hexCps_size (b : Array UInt8) : (hexCps b).size = 2 * b.size := by
  have h : ∀ l : List UInt8, (l.flatMap fun c => [Bytes.hexDigit (c.toNat / 16), Bytes.hexDigit (c.toNat % 16)]).length = 2 * l.length := by
    intro l
    induction l with
    | nil => rfl
    | cons c l ih => rw [List.flatMap_cons, List.length_append, ih]; simp; omega
  have h2 := congrArg List.length (hexCps_list b)
  rw [h] at h2
  simpa using h2
theorem call_hex {prog : Program} {w : World} {A : Around} {E : Value → Shared → Prop} {s : Shared} {b : Array UInt8} {t : Tok} {Q : Value → Shared → Prop} (hb : b.size ≤ 1000)
    (h : ∀ t' k, Q (.str ⟨hexCps b⟩ t') { s with toks := k }) : wpAny (model prog w) A (call (.builtin "bytes.hex") [.bytes b t]) Q E s := by
  refine call_gives (m := .str ⟨hexCps b⟩) FB.slot_bytes_hex (typeIs_bytes _ _ _) FB.entry_bytes_hex (FB.args_bytes_hex_1 _) (by rw [hex_tree1]; exact gives_retStr _) ⟨?_, h _ _⟩
  rw [sizeLine_eq]
  have e := hexCps_size b
  show (hexCps b).size ≤ _
  omega
theorem method_hex {M : Model} {A : Around} {E : Value → Shared → Prop} {s : Shared} {b : Array UInt8} {t : Tok} {pl : Sem Bool} {Q : Value × List Value → Shared → Prop} (h : Q (.builtin "bytes.hex", [.bytes b t]) s) : wpAny M A (getMethod (.bytes b t) "hex" pl) Q E s := by
  with_reducible exact KBd.method_of (.bytes b t) (typeIs_bytes _ _ _) FB.slot_bytes_hex FB.type_bytes_hex KBd.noRef h

open PySem.Builtin._codecs in
theorem encodeRoad_ascii (id : String) (self : Value) (x : PySem.Str) (errors : Option PySem.Str) : encodeRoad id self x (Str.ofString "ascii") errors = (do mkBytes (← encodeNarrow id asciiCodec errors self x)) := by
  first | rfl | kernel_rfl
open PySem.Builtin._codecs in
theorem encode_tree1 (x : PySem.Str) (t u : Tok) : «str.encode» ⟨[.str x t, .str (Str.ofString "ascii") u], []⟩ = (do ret (← encodeRoad "str.encode" (.str x t) x (Str.ofString "ascii") none)) := by
  first | rfl | kernel_rfl
theorem forIn_two {σ : Type} (f : Nat → σ → Sem (ForInStep σ)) (a b : σ) (h1 : ∀ k, f k a = pure (ForInStep.yield b)) (h2 : ∀ k, f k b = pure (ForInStep.done b)) : ∀ l : List Nat, l ≠ [] → (forIn l a f : Sem σ) = pure b
  | [], h => absurd rfl h
  | [k], _ => by rw [List.forIn_cons, h1]; rfl
  | k :: k' :: r, _ => by
    rw [List.forIn_cons, h1]
    show (forIn (k' :: r) b f : Sem σ) = _
    rw [List.forIn_cons, h2]
    rfl
theorem foldl_ascii (l : List Nat) : ∀ acc : Array UInt8, l.foldl (fun acc y => acc ++ [y.toUInt8].toArray) acc = acc ++ (l.map (·.toUInt8)).toArray := by
  induction l with
  | nil => intro acc; simp
  | cons c l ih => intro acc; simp [ih]
open PySem.Builtin._codecs in
theorem narrow_ascii (id : String) (self : Value) (x : PySem.Str) (hx : ∀ c ∈ x.cps, c < 128) (hz : x.cps.size ≤ sizeLine) : encodeNarrow id asciiCodec none self x = pure (x.cps.map (·.toUInt8)) := by
  have hbad : ∀ c ∈ x.cps, asciiCodec.bad c = false := fun c hc => by
    have := hx c hc
    show decide (c ≥ 128) = false
    simp; omega
  unfold encodeNarrow
  dsimp only
  rw [Std.Legacy.Range.forIn_eq_forIn_range']
  by_cases h0 : x.cps.size = 0
  · have e : x.cps = #[] := Array.eq_empty_of_size_eq_zero h0
    have e2 : x.length = 0 := h0
    simp [Std.Legacy.Range.size, e, e2]
  · rw [forIn_two _ _ (x.cps.size, x.cps.map (·.toUInt8), {})]
    · rfl
    · intro k
      have h1 : x.cps[0]? = some (x.cps[0]'(by omega)) := by simp
      have hb0 := hbad (x.cps[0]'(by omega)) (by simp)
      have hr : x.cps.extract 0 x.cps.size = x.cps := by simp
      have hfi : Array.findIdx? asciiCodec.bad x.cps = none := by
        rw [Array.findIdx?_eq_none_iff]
        intro c hc
        exact hbad c hc
      have hs : ¬ (#[] : Array UInt8).size > sizeLine := by simp
      have hfold : Array.foldl (fun acc y => acc ++ (asciiCodec.bytesOf y).toArray) #[] x.cps = x.cps.map (·.toUInt8) := by
        have := foldl_ascii x.cps.toList #[]
        simp only [Array.empty_append] at this
        rw [← Array.foldl_toList]
        refine this.trans ?_
        rw [← Array.toList_map, Array.toArray_toList]
      rw [if_neg hs]
      simp only [h1, hb0, hr, hfi, hfold, Bool.not_false, if_true, Option.getD_none, Nat.zero_add]
    · intro k
      have h1 : x.cps[x.cps.size]? = none := by simp
      have hs : ¬ (x.cps.map (·.toUInt8)).size > sizeLine := by simp; omega
      rw [if_neg hs]
      simp only [h1]
    · have : x.length = x.cps.size := rfl
      simp [Std.Legacy.Range.size, this]
      exact fun e => h0 (by simp [e])
theorem call_encode {prog : Program} {w : World} {A : Around} {E : Value → Shared → Prop} {s : Shared} {x : PySem.Str} {t u : Tok} {Q : Value → Shared → Prop} (hx : ∀ c ∈ x.cps, c < 128) (hz : x.cps.size ≤ 1000)
    (h : ∀ t' k, Q (.bytes (x.cps.map (·.toUInt8)) t') { s with toks := k }) : wpAny (model prog w) A (call (.builtin "str.encode") [.str x t, .str (Str.ofString "ascii") u]) Q E s := by
  refine call_gives (m := .bytes (x.cps.map (·.toUInt8))) PySem.F.slot_str_encode rfl PySem.F.entry_str_encode (PySem.F.args_str_encode_2 _ _) ?_ ⟨?_, h _ _⟩
  · rw [encode_tree1, encodeRoad_ascii, narrow_ascii _ _ _ hx (by rw [sizeLine_eq]; omega)]
    exact .of_eq rfl
  · rw [sizeLine_eq]; simp; omega
theorem method_encode {M : Model} {A : Around} {E : Value → Shared → Prop} {s : Shared} {x : PySem.Str} {t : Tok} {pl : Sem Bool} {Q : Value × List Value → Shared → Prop} (h : Q (.builtin "str.encode", [.str x t]) s) : wpAny M A (getMethod (.str x t) "encode" pl) Q E s :=
  getMethod_builtin rfl PySem.F.plainAttrs_str PySem.F.slot_str_encode PySem.F.type_str_encode (fun _ e => nomatch e) h

theorem slot_bytes_upper : Slot "bytes" "upper" "bytes.upper" :=
  .of (owner := "bytes") (n := "upper") (by rw [typeLookup_type, builtinLookup_eq_fast]; kernel_rfl) (by decide +kernel) (by decide +kernel) (by decide +kernel)
    (by first | exact .inl (by decide +kernel) | exact .inr (by decide +kernel)) (by rw [isSubtype_type]; kernel_rfl)
theorem type_bytes_upper : typeOf (.builtin "bytes.upper") = pure (.type "method_descriptor") := by show builtinType _ = _; rw [builtinType_eq_fast]; kernel_rfl
theorem entry_bytes_upper : entryFor table "bytes.upper" = some Builtin.«bytes.upper» := entryFor_of_tree (by kernel_rfl)
theorem args_bytes_upper_1 (a : Value) : argsOk "bytes.upper" ⟨[a], []⟩ := by
  unfold argsOk; rw [signature?_of (id := "bytes.upper") (n := ['r', 'e', 'p', 'p', 'u']) (o := ['s', 'e', 't', 'y', 'b']) (by kernel_rfl) FB.owner_bytes]; kernel_rfl
theorem upper_tree (b : Array UInt8) (t : Tok) : «bytes.upper» ⟨[.bytes b t], []⟩ = (do ret (← mkBytes (b.toList.map Bytes.toUpper).toArray)) := by
  first | rfl | kernel_rfl
theorem call_upper {prog : Program} {w : World} {A : Around} {E : Value → Shared → Prop} {s : Shared} {b : Array UInt8} {t : Tok} {Q : Value → Shared → Prop} (hb : b.size ≤ 1000)
    (h : ∀ t' k, Q (.bytes (b.toList.map Bytes.toUpper).toArray t') { s with toks := k }) : wpAny (model prog w) A (call (.builtin "bytes.upper") [.bytes b t]) Q E s := by
  refine call_gives (m := .bytes (b.toList.map Bytes.toUpper).toArray) slot_bytes_upper (typeIs_bytes _ _ _) entry_bytes_upper (args_bytes_upper_1 _) ?_ ⟨?_, h _ _⟩
  · rw [upper_tree]
    exact .of_eq rfl
  · rw [sizeLine_eq]; simp; omega
theorem method_upper {M : Model} {A : Around} {E : Value → Shared → Prop} {s : Shared} {b : Array UInt8} {t : Tok} {pl : Sem Bool} {Q : Value × List Value → Shared → Prop} (h : Q (.builtin "bytes.upper", [.bytes b t]) s) : wpAny M A (getMethod (.bytes b t) "upper" pl) Q E s := by
  with_reducible exact KBd.method_of (.bytes b t) (typeIs_bytes _ _ _) slot_bytes_upper type_bytes_upper KBd.noRef h
end Mine
open PySem PySem.W PySem.Spec PySem.Calls PyProof.Rows PySem.Builtin
set_option Elab.async false
set_option maxRecDepth 100000
namespace Mine
section
/-- the sign of a figure of four bits -/
def hgn (d : Nat) : Nat := if d < 10 then 48 + d else 55 + d
def hexOfI (ks : List Int) : List Int := ks.flatMap fun k => [((hgn (k.toNat / 16) : Nat) : Int), ((hgn (k.toNat % 16) : Nat) : Int)]
theorem up_hex : ∀ d, d < 16 → (Bytes.toUpper (Bytes.hexDigit d).toUInt8).toNat = hgn d := by decide +kernel
theorem hex_lt : ∀ d, d < 16 → Bytes.hexDigit d < 128 := by decide +kernel
theorem hex_cps_lt (b : Array UInt8) : ∀ c ∈ hexCps b, c < 128 := by
  intro c hc
  have h := Array.mem_toList_iff.mpr hc
  rw [hexCps_list] at h
  obtain ⟨x, _, hx⟩ := List.mem_flatMap.mp h
  have h1 : x.toNat < 256 := x.toNat_lt
  simp only [List.mem_cons, List.not_mem_nil, or_false] at hx
  rcases hx with rfl | rfl
  · exact hex_lt _ (by omega)
  · exact hex_lt _ (by omega)
theorem hex_ints (b : Array UInt8) : KBw.bInts (((hexCps b).map (·.toUInt8)).toList.map Bytes.toUpper).toArray = hexOfI (KBw.bInts b) := by
  unfold KBw.bInts hexOfI
  rw [Array.toList_map, hexCps_list]
  have h : ∀ l : List UInt8, (List.map (fun c : UInt8 => (c.toNat : Int)) (List.map Bytes.toUpper (List.map (fun x : Nat => x.toUInt8) (l.flatMap fun c => [Bytes.hexDigit (c.toNat / 16), Bytes.hexDigit (c.toNat % 16)])))) =
      (l.map fun c : UInt8 => (c.toNat : Int)).flatMap fun k => [((hgn (k.toNat / 16) : Nat) : Int), ((hgn (k.toNat % 16) : Nat) : Int)] := by
    intro l
    induction l with
    | nil => rfl
    | cons c l ih =>
      have h1 : c.toNat < 256 := c.toNat_lt
      rw [List.flatMap_cons, List.map_cons, List.flatMap_cons, List.map_append, List.map_append, List.map_append, ih]
      congr 1
      simp only [List.map_cons, List.map_nil, Int.toNat_natCast]
      rw [up_hex _ (by omega), up_hex _ (by omega)]
  exact h b.toList
theorem sz_hex {b : Array UInt8} (hb : b.size ≤ 20) : b.size ≤ 1000 := by omega
theorem sz_hex2 {b : Array UInt8} (hb : b.size ≤ 20) : (hexCps b).size ≤ 1000 := by rw [hexCps_size]; omega
theorem sz_hex3 {b : Array UInt8} (hb : b.size ≤ 20) : ((hexCps b).map (·.toUInt8)).size ≤ 1000 := by rw [Array.size_map, hexCps_size]; omega

set_option maxHeartbeats 8000000 in
theorem c_b16encode {w : World} {p : Program} {loose : List Str} {mean : ExcName → Option Value} {mg mb : Str → Option Value} {b : Array UInt8} (hb : b.size ≤ 20) {t1 : Tok} :
  ∀ (dp un : Nat) (gd : Option (List Code)) (cn : Str) (cs : Scope) (a L : Addr) (ccd : Value) (cl : List (Str × Addr)) (outer : List Env) (base : Heap) (s : Shared) (Q E : Value → Shared → Prop),
    Below (ktrTop dp un gd cn cs L a ccd cl outer) base (envX cn cs L a ccd cl :: outer) s.heap → (hd.heap_39 w.params).In s.heap → Top p loose mean mg mb s.heap → dp + 4 < recursionLimit → un + 32 < cLine →
    (∀ b' t h' tk', KBw.bInts b' = hexOfI (KBw.bInts b) → s.heap.StaysIn h' → Q (.bytes b' t) { s with heap := h', toks := tk' }) →
    wpAny (model PySem.Challenge.rw_qh0004_01.row.prog w) (ktrTop dp un gd cn cs L a ccd cl outer) (call (.ref 118) [.bytes b t1]) Q E s := by
  k_with_none
  w_top off
  k_with "call type:type" => (k_here; (with_reducible show wpAny _ _ (call _ [Value.bytes _ _]) _ _ _); refine call_type_of (Tx := "bytes") rfl (by decide +kernel) ?_)
  k_with "compareOp Is ref ref" => (k_here; refine wpAny_is_ref_self ?_)
  k_with "getMethod bytes" => (k_here; (with_reducible refine method_hex ?_))
  k_with "getMethod bytes" => (k_here; (with_reducible refine method_upper ?_))
  k_with "getMethod str" => (k_here; (with_reducible refine method_encode ?_))
  k_with "call builtin:bytes.hex" => (k_here; (refine call_hex (sz_hex (by assumption)) ?_); intro _ _)
  k_with "call builtin:str.encode" => (k_here; (refine call_encode (hex_cps_lt _) (sz_hex2 (by assumption)) ?_); intro _ _)
  k_with "call builtin:bytes.upper" => (k_here; (refine call_upper (sz_hex3 (by assumption)) ?_); intro _ _)
  k_fill
  intro dp un gd cn cs a L ccd cl outer base s Q E B X T hd hu hret
  refine wpAny_call ?_
  k_dflt (refine' callP ?k1 ?k2 ?k3 ?k6 ?k7 ?k8 ?k9 ?kB ?_ ?c2 ?c3 ?c4 ?c5; (case k1 => k_asm); (case k2 => k_asm); (case k3 => k_asm); (case k6 => k_is); (case k7 => k_is); (case k8 => ktr_room); (case k9 => first | exact BindsTo.of_eq rfl | exact binds_K (by k_in) rfl (by k_is) rfl rfl rfl); (case c5 => decide); (case kB => exact locs rfl); (case c2 => exact rfl); (case c3 => exact rfl); (case c4 => exact rfl); k_whole; intro g' L' h' hS' F' N' B' X' T'; (try dsimp only))
  k_fold
  k_steps
  exact ret_bytes (P := fun b' => KBw.bInts b' = hexOfI (KBw.bInts b)) hret (hex_ints b) hS' (by assumption)
end
end Mine
open PySem PySem.W PySem.Spec PySem.Calls PyProof.Rows
set_option Elab.async false
set_option maxRecDepth 100000
namespace Mine
def six (c : Int) : Int := if c < 58 then c - 48 else c - 55
theorem bytes_st {I : Addr} {b : Array UInt8} {tb : Tok} {h₀ : Heap} {L : Addr} : ∀ i (h h' : Heap) (o : Obj) (nw : List (Addr × Obj)), KBw.IsBytesIter h I b tb i → h.get? I = some o → h'.get? I = some o → (∀ b o, h₀.get? b = some o → h'.get? b = some o) → News h₀ L h' nw → True → KBw.IsBytesIter h' I b tb i :=
  fun i h h' o nw st e e' _ _ _ => by obtain ⟨o', q, r⟩ := st; rw [e] at q; cases q; exact ⟨o, e', r⟩
def BSrc (prog : Program) (w : World) (A : Around) (h₀ : Heap) (L : Addr) (m : Str → Option Value) (env : Env) (elt : Expr) (x : Str) (scope : Scope) (cl : List (Str × Addr)) (Q : Value → Shared → Prop) (xv : Value) (s₁ : Shared) : Prop :=
  ∃ b t news, xv = .bytes b t ∧ A.handled = none ∧ Fr h₀ L s₁.heap m ∧ News h₀ L s₁.heap news ∧ b.size ≤ sizeLine ∧
      ∀ g, LCg.CompRest prog w A h₀ L m env elt x scope cl { s₁ with heap := g } (fun _ => True) (fun i v => ∃ c u, b[i]? = some c ∧ v = .int (c.toNat : Int) u) (LCg.FinE h₀ L m { s₁ with heap := g } Q) b.size 0 [] news
/-- a comprehension over bytes -/
theorem ListComp_B {prog : Program} {w : World} {A : Around} {E : Value → Shared → Prop} {s : Shared} {h₀ : Heap} {L : Addr} {m : Str → Option Value} {env : Env} {elt iter : Expr} {x : Str} {px : Pos} {scope : Scope} {cl : List (Str × Addr)} {pos : Pos} {Q : Value → Shared → Prop}
    (_F₀ : Fr h₀ L s.heap m) (hclos : closureFor scope env = pure cl) (hcell : ∀ y ∈ scope.names, y.2 ≠ .cell) (hkind : scope.kind = .function)
    (hnames : ∀ y ∈ scope.names, y.2 = .local → scope.names.lookup y.1 = some .local) (hx : scope.names.lookup x = some .local)
    (h : wpAny (model prog w) A (eval iter env) (BSrc prog w A h₀ L m env elt x scope cl Q) E s)
    (hs : ∀ x, foldedSetIterable iter env x = pure x := by intro _; rfl) :
    wpAny (model prog w) A (eval (.ListComp elt [⟨.Name x px, iter, [], 0⟩] scope pos) env) Q E s := by
  rw [eval_ListComp]
  refine wpAny_comprehension_free (use := none) rfl hs hclos hkind hnames (wpAny_mono h (fun xv s₁ h₁ => ?_) fun _ _ e => e)
  obtain ⟨b, t, news, rfl, hh, F, N, hsz, R⟩ := h₁
  refine KBw.pyIter_bytes ?_
  refine LCg.block_U (KBw.walks hh s₁.heap.objs.size b t) hsz (fun i h st => by obtain ⟨o, e, _⟩ := st; exact ⟨o, e⟩) bytes_st hcell hkind hx ⟨_, Heap.get?_push_size _ rfl, rfl, rfl⟩ (fun c hb => ?_)
    (F.keeps fun _ _ e => Heap.get?_push_of_some _ e) (N.grown fun _ _ e => Heap.get?_push_of_some _ e) (Nat.ne_of_lt F.ns.lt) (next_is_new F) (fun p hp => Nat.ne_of_lt (Heap.lt_size (N p hp).1)) trivial (R _) ?_
  · rw [List.mem_singleton.mp hb]
    show s₁.heap.objs.size < (s₁.heap.push _).objs.size
    rw [Heap.size_push]; exact Nat.lt_succ_self _
  · intro D C h tk m' ys news' F' N' o1 hn hC₀ hD₀ hCL hDL hCD offC fin
    refine ⟨m', hn, fun h'' hs'' => fin D h'' tk (F'.change hs'' hCL hC₀) (fun p hp => ?_) o1⟩
    refine ⟨hs''.extBut _ _ ?_ (N' p hp).1, (N' p hp).2⟩
    rcases List.mem_cons.mp hp with rfl | hp
    · exact Ne.symm hCD
    · exact offC p hp
theorem ret_listN {s : Shared} {Q : Value → Shared → Prop} {us : List Value} {ns : List Int} {c : Nat} {l : Addr} {h' : Heap} {tk' : Nat} {g : Heap} {L : Addr} {m : Str → Option Value} {news : List (Addr × Obj)}
    (hret : ∀ us c l h' tk', IntsAre us ns → s.heap.StaysIn h' → h'.get? l = some (W.listOf us.toArray c) → s.heap.get? l = none → Q (.ref l) { s with heap := h', toks := tk' })
    (e : IntsAre us ns) (hS : s.heap.StaysIn g) (F : Fr g L h' m) (N : News g L h' news) (hm : (l, W.listOf us.toArray c) ∈ news) : Q (.ref l) { s with heap := h', toks := tk' } := by
  refine hret us c l h' tk' e (fun b o h => F.keep b o (hS b o h)) (N _ hm).1 ?_
  cases q : s.heap.get? l with
  | none => rfl
  | some o => have := (N _ hm).2.2; rw [hS _ _ q] at this; cases this
section

set_option maxHeartbeats 8000000 in
theorem c_sixteens {w : World} {p : Program} {loose : List Str} {mean : ExcName → Option Value} {mg mb : Str → Option Value} {b : Array UInt8} (hb : b.size ≤ 40) {t1 : Tok} :
  ∀ (dp un : Nat) (gd : Option (List Code)) (cn : Str) (cs : Scope) (a L : Addr) (ccd : Value) (cl : List (Str × Addr)) (outer : List Env) (base : Heap) (s : Shared) (Q E : Value → Shared → Prop),
    Below (ktrTop dp un gd cn cs L a ccd cl outer) base (envX cn cs L a ccd cl :: outer) s.heap → (hd.heap_39 w.params).In s.heap → Top p loose mean mg mb s.heap → dp + 4 < recursionLimit → un + 32 < cLine →
    (∀ us c l h' tk', IntsAre us ((KBw.bInts b).map six) → s.heap.StaysIn h' → h'.get? l = some (W.listOf us.toArray c) → s.heap.get? l = none → Q (.ref l) { s with heap := h', toks := tk' }) →
    wpAny (model PySem.Challenge.rw_qh0004_01.row.prog w) (ktrTop dp un gd cn cs L a ccd cl outer) (call (.ref 181) [.bytes b t1]) Q E s := by
  k_with_none
  w_top off
  k_with "eval ListComp" => (k_here; k_dflt (refine ListComp_B (by k_asm) (by with_unfolding_all rfl) (by decide) (by rfl) (by decide) (by rfl) ?_))
  k_fill
  intro dp un gd cn cs a L ccd cl outer base s Q E B X T hd hu hret
  refine wpAny_call ?_
  k_dflt (refine' callPs ?k1 ?k2 ?k3 ?k6 ?k7 ?k8 ?k9 ?kB ?_ ?c2 ?c3 ?c4 ?c5; (case k1 => k_asm); (case k2 => k_asm); (case k3 => k_asm); (case k6 => k_is); (case k7 => k_is); (case k8 => ktr_room); (case k9 => first | exact BindsTo.of_eq rfl | exact binds_K (by k_in) rfl (by k_is) rfl rfl rfl); (case c5 => decide); (case kB => exact locs rfl); (case c2 => exact rfl); (case c3 => exact rfl); (case c4 => exact rfl); k_whole; intro g' L' h' hS' hsz' F' N' B' X' T'; (try dsimp only))
  k_fold
  k_steps
  refine ⟨_, _, _, rfl, rfl, by assumption, by assumption, by rw [sizeLine_eq]; omega, fun g => ?_⟩
  refine kcf_rest (ks := KBw.bInts b) six (KBw.ints_length b) (fun i v _ hv => ?_) (fun k' t' I' oI' C' oC' D' m' ys' h' tk' E' hk' hC' hx' F' N' off' ne' hMark' => ?_) ?_
  · obtain ⟨c, u, h1, rfl⟩ := hv
    exact ⟨_, u, KBw.ints_get h1, rfl⟩
  · k_steps
  · intro ys hy D h tk F N _
    exact ret_listN (s := s) hret hy hS' F N (List.Mem.head _)
end
end Mine
open PySem PySem.W PySem.Spec PySem.Calls PyProof.Rows
set_option Elab.async false
namespace Mine
def numN (wd : Nat) (ds : List Nat) : Nat := ds.foldl (fun a d => a * 2 ^ wd + d) 0
theorem numN_snoc (wd : Nat) (ds : List Nat) (d : Nat) : numN wd (ds ++ [d]) = numN wd ds * 2 ^ wd + d := by
  unfold numN; rw [List.foldl_append]; rfl
def encTxt (ds : List Nat) (p : Nat) : List Int := ds.map (fun d => ((sgn d : Nat) : Int)) ++ List.replicate p 61
theorem plc_sgn : ∀ d, d < 64 → plc ((sgn d : Nat) : Int) = (d : Int) := by decide +kernel
theorem sgn_ne : ∀ d, d < 64 → ((sgn d : Nat) : Int) ≠ 61 := by decide +kernel
def decOut (k V : Nat) : List Int := (digs 8 (6 * k / 8) (V / 2 ^ (6 * k % 8))).map (fun d => ((d : Nat) : Int))
/-- the decoder's state behind k signs -/
structure DecP (ds : List Nat) (p : Nat) (pre out : List Int) (qp lc pd : Int) : Prop where
  all : ∀ d ∈ ds, d < 64
  qp : qp = ((min pre.length ds.length % 4 : Nat) : Int)
  lc : lc = ((numN 6 (ds.take pre.length) % 2 ^ (6 * min pre.length ds.length % 8) : Nat) : Int)
  pd : pd = ((pre.length - ds.length : Nat) : Int)
  out : out = decOut (min pre.length ds.length) (numN 6 (ds.take pre.length))
  len : ds.length + p ≤ 20
theorem dec_start {ds : List Nat} {p : Nat} (h : ∀ d ∈ ds, d < 64) (hl : ds.length + p ≤ 20) : DecP ds p [] [] 0 0 0 := ⟨h, by simp, by simp [numN], by simp, by simp [decOut, digs, numN], hl⟩
theorem dec_get {ds : List Nat} {p : Nat} {pre post : List Int} {n : Int} (e : encTxt ds p = pre ++ n :: post) : (encTxt ds p)[pre.length]? = some n := by
  rw [e]; simp
/-- a sign of padding -/
theorem dec_pad {ds : List Nat} {p : Nat} {pre post out : List Int} {n qp lc pd : Int} (h : DecP ds p pre out qp lc pd) (e : encTxt ds p = pre ++ n :: post) (hn : n = 61) : DecP ds p (pre ++ [n]) out qp lc (pd + 1) := by
  have hg := dec_get e
  have hk : ds.length ≤ pre.length := by
    by_cases hlt : pre.length < ds.length
    · unfold encTxt at hg
      rw [List.getElem?_append_left (by simpa using hlt), List.getElem?_map, List.getElem?_eq_getElem hlt] at hg
      simp only [Option.map_some, Option.some.injEq] at hg
      exact absurd (hg.trans hn) (sgn_ne _ (h.all _ (List.getElem_mem hlt)))
    · omega
  have e1 : (pre ++ [n]).length = pre.length + 1 := by simp
  have e2 : ds.take (pre.length + 1) = ds.take pre.length := by rw [List.take_of_length_le (by omega), List.take_of_length_le (by omega)]
  have e3 : min (pre.length + 1) ds.length = min pre.length ds.length := by omega
  refine ⟨h.all, ?_, ?_, ?_, ?_, h.len⟩
  · rw [e1, e3]; exact h.qp
  · rw [e1, e3, e2]; exact h.lc
  · rw [e1, h.pd]; omega
  · rw [e1, e3, e2]; exact h.out
/-- a sign of the alphabet -/
theorem dec_fig {ds : List Nat} {p : Nat} {pre post out : List Int} {n qp lc pd : Int} (h : DecP ds p pre out qp lc pd) (e : encTxt ds p = pre ++ n :: post) (hn : ¬ n = 61) :
    ∃ d : Nat, d < 64 ∧ pre.length < ds.length ∧ ds.take (pre.length + 1) = ds.take pre.length ++ [d] ∧ plc n = (d : Int) ∧ pd = 0 := by
  have hg := dec_get e
  have hk : pre.length < ds.length := by
    by_cases hlt : pre.length < ds.length
    · exact hlt
    · unfold encTxt at hg
      rw [List.getElem?_append_right (by simpa using hlt), List.getElem?_replicate] at hg
      split at hg
      · exact absurd (Option.some.inj hg).symm hn
      · cases hg
  unfold encTxt at hg
  rw [List.getElem?_append_left (by simpa using hk), List.getElem?_map, List.getElem?_eq_getElem hk] at hg
  simp only [Option.map_some, Option.some.injEq] at hg
  refine ⟨ds[pre.length], h.all _ (List.getElem_mem hk), hk, ?_, ?_, ?_⟩
  · rw [List.take_add_one, List.getElem?_eq_getElem hk]; rfl
  · rw [← hg]; exact plc_sgn _ (h.all _ (List.getElem_mem hk))
  · rw [h.pd]; omega
theorem encTxt_length (ds : List Nat) (p : Nat) : (encTxt ds p).length = ds.length + p := by simp [encTxt]
theorem dec_full {ds : List Nat} {p : Nat} {pre out : List Int} {qp lc pd : Int} (h : DecP ds p pre out qp lc pd) :
    DecP ds p pre out qp lc pd ∧ qp = ((min pre.length ds.length % 4 : Nat) : Int) ∧ pd = ((pre.length - ds.length : Nat) : Int) := ⟨h, h.qp, h.pd⟩
theorem dec_lc {ds : List Nat} {p : Nat} {pre out : List Int} {qp lc pd : Int} (h : DecP ds p pre out qp lc pd) : lc.natAbs < 2 ^ 64 := by
  rw [h.lc]
  have h1 : numN 6 (ds.take pre.length) % 2 ^ (6 * min pre.length ds.length % 8) < 2 ^ (6 * min pre.length ds.length % 8) := Nat.mod_lt _ (Nat.two_pow_pos _)
  have h2 : 2 ^ (6 * min pre.length ds.length % 8) ≤ 2 ^ 8 := Nat.pow_le_pow_right (by decide) (by omega)
  omega
theorem dec_len {us : List Value} {ds : List Nat} {p : Nat} {pre out : List Int} {qp lc pd : Int} (hi : IntsAre us out) (h : DecP ds p pre out qp lc pd) : us.length ≤ 20 := by
  have := h.len
  rw [hi.length, h.out, decOut, List.length_map, digs_length]
  omega
section
variable {ds : List Nat} {p : Nat} {pre out : List Int} {n qp lc pd : Int} {d : Nat}
theorem dec_rem (h : DecP ds p pre out qp lc pd) (hl : pre.length < ds.length) {r : Nat} (hq : qp = (r : Int)) : ∃ q, pre.length = 4 * q + r ∧ r < 4 := by
  have h1 := h.qp
  rw [Nat.min_eq_left (Nat.le_of_lt hl), hq] at h1
  have h2 : r = pre.length % 4 := Int.ofNat.inj h1
  refine ⟨pre.length / 4, ?_, ?_⟩
  · rw [h2]; exact (Nat.div_add_mod _ _).symm
  · rw [h2]; exact Nat.mod_lt _ (by decide)
theorem six_mod (q r : Nat) : 6 * (4 * q + r) % 8 = 6 * r % 8 := by omega
theorem six_div (q r : Nat) : 6 * (4 * q + r) / 8 = 3 * q + 6 * r / 8 := by omega
theorem four_mod (q r : Nat) : (4 * q + r) % 4 = r % 4 := Nat.mul_add_mod 4 q r
/-- one sign more -/
theorem dec_mk {q r V : Nat} {out' : List Int} {qp' lc' : Int} (h : DecP ds p pre out qp lc pd) (hl : pre.length < ds.length) (ht : ds.take (pre.length + 1) = ds.take pre.length ++ [d]) (hr : pre.length = 4 * q + r)
    (hV : V = numN 6 (ds.take pre.length)) (h1 : qp' = (((r + 1) % 4 : Nat) : Int)) (h2 : lc' = (((V * 2 ^ 6 + d) % 2 ^ (6 * (r + 1) % 8) : Nat) : Int))
    (h3 : out' = (digs 8 (3 * q + 6 * (r + 1) / 8) ((V * 2 ^ 6 + d) / 2 ^ (6 * (r + 1) % 8))).map (fun d => ((d : Nat) : Int))) : DecP ds p (pre ++ [n]) out' qp' lc' 0 := by
  have e1 : (pre ++ [n]).length = pre.length + 1 := List.length_append
  have e2 : min (pre.length + 1) ds.length = 4 * q + (r + 1) := by rw [Nat.min_eq_left hl, hr]; rfl
  have e3 : numN 6 (ds.take (pre.length + 1)) = V * 2 ^ 6 + d := by rw [ht, numN_snoc, ← hV]
  refine ⟨h.all, ?_, ?_, ?_, ?_, h.len⟩
  · rw [e1, e2, four_mod]; exact h1
  · rw [e1, e2, six_mod, e3]; exact h2
  · rw [e1, Nat.sub_eq_zero_of_le hl]; rfl
  · rw [e1, e2, e3]
    unfold decOut
    rw [six_mod, six_div]
    exact h3
theorem dec_old {q r V : Nat} (h : DecP ds p pre out qp lc pd) (hl : pre.length < ds.length) (hr : pre.length = 4 * q + r) (hV : V = numN 6 (ds.take pre.length)) :
    lc = ((V % 2 ^ (6 * r % 8) : Nat) : Int) ∧ out = (digs 8 (3 * q + 6 * r / 8) (V / 2 ^ (6 * r % 8))).map (fun d => ((d : Nat) : Int)) := by
  have e : min pre.length ds.length = 4 * q + r := by rw [Nat.min_eq_left (Nat.le_of_lt hl), hr]
  have h1 := h.lc
  have h2 := h.out
  rw [e, six_mod, ← hV] at h1
  rw [e, ← hV] at h2
  unfold decOut at h2
  rw [six_mod, six_div] at h2
  exact ⟨h1, h2⟩
/-- one octet more -/
theorem dec_push {q a k V U y : Nat} {x : Int} (ho : out = (digs 8 (3 * q + a) U).map (fun d => ((d : Nat) : Int))) (hU : V / 2 ^ k / 2 ^ 8 = U) (hy : V / 2 ^ k % 2 ^ 8 = y) (hx : x = (y : Int)) :
    out ++ [x] = (digs 8 (3 * q + (a + 1)) (V / 2 ^ k)).map (fun d => ((d : Nat) : Int)) := by
  show _ = (digs 8 ((3 * q + a) + 1) (V / 2 ^ k)).map _
  unfold digs
  rw [hU, hy, List.map_append, ho, hx]
  rfl
theorem fdiv_nat (a k : Nat) : (a : Int).fdiv (2 ^ k) = ((a / 2 ^ k : Nat) : Int) := by
  rw [Int.fdiv_eq_ediv_of_nonneg _ (Int.le_of_lt (Int.pow_pos (by decide)))]
  simp
theorem or_up {a b k : Nat} (hb : b < 2 ^ k) : Builtin.bitOr (((a : Nat) : Int) * 2 ^ k) ((b : Nat) : Int) = ((a * 2 ^ k + b : Nat) : Int) := by
  have e : ((a : Nat) : Int) * 2 ^ k = ((a * 2 ^ k : Nat) : Int) := by simp
  rw [e, bitOr_nat, or_low hb]
theorem dec_t0 (h : DecP ds p pre out qp lc pd) (hd : d < 64) (hl : pre.length < ds.length) (ht : ds.take (pre.length + 1) = ds.take pre.length ++ [d]) (hq : qp = 0) : DecP ds p (pre ++ [n]) out 1 (d : Int) 0 := by
  obtain ⟨q, hr, _⟩ := dec_rem h hl (r := 0) hq
  obtain ⟨_, ho⟩ := dec_old h hl hr rfl
  generalize hV : numN 6 (ds.take pre.length) = V at ho
  have e1 : (V * 2 ^ 6 + d) % 2 ^ 6 = d := by omega
  have e2 : (V * 2 ^ 6 + d) / 2 ^ 6 = V := by omega
  refine dec_mk h hl ht hr hV.symm rfl ?_ ?_
  · show (d : Int) = (((V * 2 ^ 6 + d) % 2 ^ 6 : Nat) : Int)
    rw [e1]
  · show out = (digs 8 (3 * q + 0) ((V * 2 ^ 6 + d) / 2 ^ 6)).map _
    rw [e2, ho]
    show (digs 8 (3 * q + 0) (V / 1)).map _ = _
    rw [Nat.div_one]
theorem dec_a1 {V d : Nat} (hd : d < 64) : (V * 64 + d) % 16 = d % 16 ∧ (V * 64 + d) / 16 / 256 = V / 64 ∧ (V * 64 + d) / 16 % 256 = V % 64 * 4 + d / 16 ∧ d / 16 < 4 := by omega
theorem dec_a2 {V d : Nat} (hd : d < 64) : (V * 64 + d) % 4 = d % 4 ∧ (V * 64 + d) / 4 / 256 = V / 16 ∧ (V * 64 + d) / 4 % 256 = V % 16 * 16 + d / 4 ∧ d / 4 < 16 := by omega
theorem dec_a3 {V d : Nat} (hd : d < 64) : (V * 64 + d) / 1 / 256 = V / 4 ∧ (V * 64 + d) / 1 % 256 = V % 4 * 64 + d := by omega
theorem and15 (d : Nat) : Builtin.bitAnd (d : Int) 15 = ((d % 16 : Nat) : Int) := by
  show Builtin.bitAnd (d : Int) ((2 ^ 4 - 1 : Nat) : Int) = _
  rw [bitAnd_nat, and_mask]
theorem and3 (d : Nat) : Builtin.bitAnd (d : Int) 3 = ((d % 4 : Nat) : Int) := by
  show Builtin.bitAnd (d : Int) ((2 ^ 2 - 1 : Nat) : Int) = _
  rw [bitAnd_nat, and_mask]
theorem dec_t1 (h : DecP ds p pre out qp lc pd) (hd : d < 64) (hl : pre.length < ds.length) (ht : ds.take (pre.length + 1) = ds.take pre.length ++ [d]) (hq : qp = 1) :
    DecP ds p (pre ++ [n]) (out ++ [Builtin.bitOr (lc * 2 ^ Int.toNat 2) ((d : Int).fdiv (2 ^ Int.toNat 4))]) 2 (Builtin.bitAnd (d : Int) 15) 0 := by
  obtain ⟨q, hr, _⟩ := dec_rem h hl (r := 1) hq
  obtain ⟨hlc, ho⟩ := dec_old h hl hr rfl
  generalize hV : numN 6 (ds.take pre.length) = V at ho hlc
  obtain ⟨a1, a2, a3, a4⟩ := dec_a1 (V := V) hd
  refine dec_mk h hl ht hr hV.symm rfl ?_ ?_
  · rw [and15, ← a1]
  · refine dec_push (k := 4) (V := V * 2 ^ 6 + d) (a := 0) ho a2 a3 ?_
    show Builtin.bitOr (lc * 2 ^ 2) ((d : Int).fdiv (2 ^ 4)) = _
    rw [hlc, fdiv_nat]
    exact or_up (k := 2) a4
theorem dec_t2 (h : DecP ds p pre out qp lc pd) (hd : d < 64) (hl : pre.length < ds.length) (ht : ds.take (pre.length + 1) = ds.take pre.length ++ [d]) (hq : qp = 2) :
    DecP ds p (pre ++ [n]) (out ++ [Builtin.bitOr (lc * 2 ^ Int.toNat 4) ((d : Int).fdiv (2 ^ Int.toNat 2))]) 3 (Builtin.bitAnd (d : Int) 3) 0 := by
  obtain ⟨q, hr, _⟩ := dec_rem h hl (r := 2) hq
  obtain ⟨hlc, ho⟩ := dec_old h hl hr rfl
  generalize hV : numN 6 (ds.take pre.length) = V at ho hlc
  obtain ⟨a1, a2, a3, a4⟩ := dec_a2 (V := V) hd
  refine dec_mk h hl ht hr hV.symm rfl ?_ ?_
  · rw [and3, ← a1]
  · refine dec_push (k := 2) (V := V * 2 ^ 6 + d) (a := 1) ho a2 a3 ?_
    show Builtin.bitOr (lc * 2 ^ 4) ((d : Int).fdiv (2 ^ 2)) = _
    rw [hlc, fdiv_nat]
    exact or_up (k := 4) a4
theorem dec_t3 (h : DecP ds p pre out qp lc pd) (hd : d < 64) (hl : pre.length < ds.length) (ht : ds.take (pre.length + 1) = ds.take pre.length ++ [d]) (hq0 : ¬ qp = 0) (hq1 : ¬ qp = 1) (hq2 : ¬ qp = 2) :
    DecP ds p (pre ++ [n]) (out ++ [Builtin.bitOr (lc * 2 ^ Int.toNat 6) (d : Int)]) 0 0 0 := by
  have hq : qp = ((3 : Nat) : Int) := by have := h.qp; omega
  obtain ⟨q, hr, _⟩ := dec_rem h hl (r := 3) hq
  obtain ⟨hlc, ho⟩ := dec_old h hl hr rfl
  generalize hV : numN 6 (ds.take pre.length) = V at ho hlc
  obtain ⟨a2, a3⟩ := dec_a3 (V := V) hd
  refine dec_mk h hl ht hr hV.symm rfl ?_ ?_
  · show (0 : Int) = (((V * 2 ^ 6 + d) % 1 : Nat) : Int)
    rw [Nat.mod_one]; rfl
  · refine dec_push (k := 0) (V := V * 2 ^ 6 + d) (a := 2) ho a2 a3 ?_
    show Builtin.bitOr (lc * 2 ^ 6) (d : Int) = _
    rw [hlc]
    exact or_up (k := 6) hd
theorem dec_end (h : DecP ds p (encTxt ds p) out qp lc pd) : out = decOut ds.length (numN 6 ds) := by
  have ho := h.out
  rw [encTxt_length, Nat.min_eq_right (by omega), List.take_of_length_le (by omega)] at ho
  exact ho
theorem digs_lt (w n v : Nat) : ∀ d ∈ digs w n v, d < 2 ^ w := by
  induction n generalizing v with
  | zero => intro d hd; cases hd
  | succ n ih =>
    intro d hd
    rcases List.mem_append.mp hd with h | h
    · exact ih _ d h
    · rw [List.mem_singleton.mp h]; exact Nat.mod_lt _ (Nat.two_pow_pos w)
theorem decOut_in (k V : Nat) : KBa.In (decOut k V) := by
  intro n hn
  obtain ⟨d, hd, rfl⟩ := List.mem_map.mp hn
  have := digs_lt 8 _ _ d hd
  omega
theorem decOut_length (k V : Nat) : (decOut k V).length = 6 * k / 8 := by rw [decOut, List.length_map, digs_length]
end
end Mine
open PySem PySem.W PySem.Spec PySem.Calls PyProof.Rows
set_option Elab.async false
set_option maxRecDepth 100000
namespace Mine
section
theorem ret_int2 {s : Shared} {Q : Value → Shared → Prop} {x y : Int} {t : Tok} {h' : Heap} {tk' : Nat} {g : Heap} {L : Addr} {m : Str → Option Value}
    (hret : ∀ t h' tk', s.heap.StaysIn h' → Q (.int x t) { s with heap := h', toks := tk' }) (hS : s.heap.StaysIn g) (F : Fr g L h' m) (e : y = x) : Q (.int y t) { s with heap := h', toks := tk' } := ret_int hret e hS F

set_option maxHeartbeats 8000000 in
theorem c_b64v {w : World} {p : Program} {loose : List Str} {mean : ExcName → Option Value} {mg mb : Str → Option Value} {n : Int} {t1 : Tok} :
  ∀ (dp un : Nat) (gd : Option (List Code)) (cn : Str) (cs : Scope) (a L : Addr) (ccd : Value) (cl : List (Str × Addr)) (outer : List Env) (base : Heap) (s : Shared) (Q E : Value → Shared → Prop),
    Below (ktrTop dp un gd cn cs L a ccd cl outer) base (envX cn cs L a ccd cl :: outer) s.heap → (hd.heap_39 w.params).In s.heap → Top p loose mean mg mb s.heap → dp + 1 < recursionLimit → un + 8 < cLine →
    (∀ t h' tk', s.heap.StaysIn h' → Q (.int (plc n) t) { s with heap := h', toks := tk' }) →
    wpAny (model PySem.Challenge.rw_qh0004_01.row.prog w) (ktrTop dp un gd cn cs L a ccd cl outer) (call (.ref 70) [.int n t1]) Q E s := by
  k_with_none
  w_top off
  k_fill
  intro dp un gd cn cs a L ccd cl outer base s Q E B X T hd hu hret
  refine wpAny_call ?_
  k_dflt (refine' callP ?k1 ?k2 ?k3 ?k6 ?k7 ?k8 ?k9 ?kB ?_ ?c2 ?c3 ?c4 ?c5; (case k1 => k_asm); (case k2 => k_asm); (case k3 => k_asm); (case k6 => k_is); (case k7 => k_is); (case k8 => ktr_room); (case k9 => first | exact BindsTo.of_eq rfl | exact binds_K (by k_in) rfl (by k_is) rfl rfl rfl); (case c5 => decide); (case kB => exact locs rfl); (case c2 => exact rfl); (case c3 => exact rfl); (case c4 => exact rfl); k_whole; intro g' L' h' hS' F' N' B' X' T'; (try dsimp only))
  k_fold
  k_steps
  all_goals (refine ret_int2 (s := s) hret hS' (by assumption) ?_; unfold plc; (repeat' split) <;> omega)

theorem c_b64vU {w : World} {p : Program} {loose : List Str} {mean : ExcName → Option Value} {mg mb : Str → Option Value} {n : Int} {t1 : Tok}
  {dp un : Nat} {gd : Option (List Code)} {cn : Str} {cs : Scope} {a L : Addr} {ccd : Value} {cl : List (Str × Addr)} {outer : List Env} {A₀ : Around} {base h₀ : Heap} {m : Str → Option Value} {news : List (Addr × Obj)} {s : Shared} {Q E : Value → Shared → Prop}
  (B : Below A₀ base outer h₀) (hA : (ktrTop dp un gd cn cs L a ccd cl outer) = A₀.deeper (envX cn cs L a ccd cl)) (F : Fr h₀ L s.heap m) (X : (hd.heap_39 w.params).In h₀) (N : News h₀ L s.heap news) (T : Top p loose mean mg mb h₀) (hk : cs.kind = .function)
  (hd : dp + 1 < recursionLimit) (hu : un + 8 < cLine)
  (hret : ∀ t h' tk', Fr h₀ L h' m → News h₀ L h' news → Q (.int (plc n) t) { s with heap := h', toks := tk' }) :
    wpAny (model PySem.Challenge.rw_qh0004_01.row.prog w) (ktrTop dp un gd cn cs L a ccd cl outer) (call (.ref 70) [.int n t1]) Q E s := by
  refine c_b64v dp un gd cn cs a L ccd cl outer base s Q E ?_ (X.keeps F.keep) (T.keeps F.keep) hd hu fun t h' tk' k => ?_
  · rw [hA]
    exact pushX B F rfl hk
  · exact hret t h' tk' (Fr.stays F k) (News.stays N k)

end
end Mine
open PySem PySem.W PySem.Spec PySem.Calls PyProof.Rows
set_option Elab.async false
set_option maxRecDepth 100000
namespace Mine
section

theorem dec_ints {us : List Value} {ds : List Nat} {p : Nat} {out : List Int} {qp lc pd : Int} (hi : IntsAre us out) (h : DecP ds p (encTxt ds p) out qp lc pd) : IntsAre us.toArray.toList (decOut ds.length (numN 6 ds)) := by
  rw [← dec_end h]
  exact hi
theorem dec_small {ds : List Nat} {p : Nat} (h : ds.length + p ≤ 20) : (decOut ds.length (numN 6 ds)).length ≤ 16777216 := by
  rw [decOut_length]; omega

set_option maxHeartbeats 8000000 in
theorem c_b64decode {w : World} {p : Program} {loose : List Str} {mean : ExcName → Option Value} {mg mb : Str → Option Value} {x : Str} {ds : List Nat} {pn : Nat} (hds : ∀ d ∈ ds, d < 64) (hlen : ds.length + pn ≤ 20) (h4 : (ds.length % 4 = 0 ∧ pn = 0) ∨ (2 ≤ ds.length % 4 ∧ ds.length % 4 + pn = 4)) (hx1 : ∀ c ∈ x.cps, c < 128) (hx2 : x.cps.size ≤ 1000)
    (hx : KBw.bInts (x.cps.map (·.toUInt8)) = encTxt ds pn) {t1 : Tok} :
  ∀ (dp un : Nat) (gd : Option (List Code)) (cn : Str) (cs : Scope) (a L : Addr) (ccd : Value) (cl : List (Str × Addr)) (outer : List Env) (base : Heap) (s : Shared) (Q E : Value → Shared → Prop),
    Below (ktrTop dp un gd cn cs L a ccd cl outer) base (envX cn cs L a ccd cl :: outer) s.heap → (hd.heap_39 w.params).In s.heap → Top p loose mean mg mb s.heap → dp + 8 < recursionLimit → un + 64 < cLine →
    (∀ b' t h' tk', KBw.bInts b' = decOut ds.length (numN 6 ds) → s.heap.StaysIn h' → Q (.bytes b' t) { s with heap := h', toks := tk' }) →
    wpAny (model PySem.Challenge.rw_qh0004_01.row.prog w) (ktrTop dp un gd cn cs L a ccd cl outer) (call (.ref 111) [.str x t1]) Q E s := by
  k_with_none
  w_top off
  k_with "exec Raise some none" => (k_here; exfalso; omega)
  k_with "call type:type" => (k_here; (with_reducible show wpAny _ _ (call _ [Value.bytes _ _]) _ _ _); refine call_type_of (Tx := "bytes") rfl (by decide +kernel) ?_)
  k_with "getMethod str" => (k_here; (with_reducible refine method_encode ?_))
  k_with "call builtin:str.encode" => (k_here; (refine call_encode (by assumption) (by assumption) ?_); intro _ _)
  k_with "call ref" => (k_here; (with_reducible show wpAny _ _ (call (Value.ref 70) [Value.int _ _]) _ _ _); k_dflt (refine' c_b64vU ?k1 ?kA ?k2 ?k3 ?k4 ?k5 ?kK ?kd ?ku ?kR; (case k1 => k_asm); (case k2 => k_asm); (case k3 => k_asm); (case k4 => k_asm); (case k5 => k_asm); (case kA => rfl); (case kK => rfl); (case kd => ((try simp only [depth_deeper]); (try dsimp only [ktrTop]); omega)); (case ku => ((try simp only [units_deeper]); (try dsimp only [ktrTop]); omega)); intro t9 h9 tk9 F' N'; (obtain ⟨d9, hd9, hl9, ht9, hp9, hz9⟩ := dec_fig (by assumption) (by assumption) (by assumption)); rw [hp9]; subst hz9))
  k_with "binaryOp LShift int int" => (k_here; (refine lshift_int_small (by decide) (by decide) (dec_lc (by assumption)) ?_))
  k_with "call builtin:list.append" => (k_here; (with_reducible show wpAny _ _ (call (Value.builtin _) [Value.ref _, _]) _ _ _); k_dflt (refine' append_K ?k1 ?k2 ?k3 ?_ ?z; (case k1 => k_asm); (case k2 => k_asm); (case k3 => k_upd); (case z => ((have hz9 := dec_len (by assumption) (by assumption)); rw [sizeLine_eq]; simp only [List.size_toArray]; omega)); k_whole); intro h' F' N'; (try k_sweep))
  k_with "call type:bytes" => (k_here; k_dflt (refine' bytes_make ?k1 ?k2 ?k3 ?k4 ?k5 ?k6 ?k7 ?_; (case k1 => k_asm); (case k2 => k_asm); (case k3 => rfl); (case k4 => k_mem); (case k5 => exact dec_ints (by assumption) (by assumption)); (case k6 => exact decOut_in _ _); (case k7 => exact dec_small (by assumption)); k_whole); intro b9 h' t9 k9 F' N' hb9)
  k_fill
  intro dp un gd cn cs a L ccd cl outer base s Q E B X T hd hu hret
  refine wpAny_call ?_
  k_dflt (refine' callP ?k1 ?k2 ?k3 ?k6 ?k7 ?k8 ?k9 ?kB ?_ ?c2 ?c3 ?c4 ?c5; (case k1 => k_asm); (case k2 => k_asm); (case k3 => k_asm); (case k6 => k_is); (case k7 => k_is); (case k8 => ktr_room); (case k9 => first | exact BindsTo.of_eq rfl | exact binds_K (by k_in) rfl (by k_is) rfl rfl rfl); (case c5 => decide); (case kB => exact locs rfl); (case c2 => exact rfl); (case c3 => exact rfl); (case c4 => exact rfl); k_whole; intro g' L' h' hS' F' N' B' X' T'; (try dsimp only))
  k_fold
  have hnil0 : IntsAre ([] : List Value) ([] : List Int) := IntsAre.nil
  have hel := encTxt_length ds pn
  k_with "pyIter bytes" => k_state (fun pre out qp lc pd i => DecP ds pn pre out qp lc pd ∧ qp = ((min pre.length ds.length % 4 : Nat) : Int) ∧ pd = ((pre.length - ds.length : Nat) : Int)) "out" "quad_pos" "leftchar" "pads" "i"
  k_with "state" => (refine dec_full ?_; first | ((with_reducible show DecP _ _ [] _ _ _ _); exact dec_start hds hlen) | ((with_reducible show DecP _ _ _ _ _ _ (_ + 1)); exact dec_pad (by assumption) (by assumption) (by assumption)) | ((with_reducible show DecP _ _ _ _ 1 _ _); exact dec_t0 (by assumption) (by assumption) (by assumption) (by assumption) (by assumption)) | ((with_reducible show DecP _ _ _ _ 2 _ _); exact dec_t1 (by assumption) (by assumption) (by assumption) (by assumption) (by assumption)) | ((with_reducible show DecP _ _ _ _ 3 _ _); exact dec_t2 (by assumption) (by assumption) (by assumption) (by assumption) (by assumption)) | ((with_reducible show DecP _ _ _ _ 0 0 _); exact dec_t3 (by assumption) (by assumption) (by assumption) (by assumption) (by assumption) (by assumption) (by assumption)))
  k_steps
  all_goals first
    | (exfalso; omega)
    | ((try k_unfold); (try dsimp only); exact ret_bytes (s := s) (P := fun b' => KBw.bInts b' = decOut ds.length (numN 6 ds)) hret (by assumption) hS' (by assumption))
end
end Mine
open PySem PySem.W PySem.Spec PySem.Calls PyProof.Rows
set_option Elab.async false
set_option maxRecDepth 100000
namespace Mine
section
variable {w : World} {p : Program} {loose : List Str} {mean : ExcName → Option Value} {mg mb : Str → Option Value}
  {dp un : Nat} {gd : Option (List Code)} {cn : Str} {cs : Scope} {a L : Addr} {ccd : Value} {cl : List (Str × Addr)} {outer : List Env} {A₀ : Around} {base h₀ : Heap} {m : Str → Option Value} {news : List (Addr × Obj)} {s : Shared} {Q E : Value → Shared → Prop}
/-- what a contract asks of the place of a call -/
theorem spotU (B : Below A₀ base outer h₀) (hA : (ktrTop dp un gd cn cs L a ccd cl outer) = A₀.deeper (envX cn cs L a ccd cl)) (F : Fr h₀ L s.heap m) (hk : cs.kind = .function) :
    Below (ktrTop dp un gd cn cs L a ccd cl outer) base (envX cn cs L a ccd cl :: outer) s.heap := by
  rw [hA]
  exact pushX B F rfl hk
/-- a new list laid onto the ledger -/
theorem news_list {h h' : Heap} {us : List Value} {c : Nat} {l : Addr} (F : Fr h₀ L h m) (N : News h₀ L h news) (k : h.StaysIn h') (hl : h'.get? l = some (W.listOf us.toArray c)) (hn : h.get? l = none) :
    Fr h₀ L h' m ∧ News h₀ L h' ((l, W.listOf us.toArray c) :: news) ∧ ∀ q ∈ news, @Ne Nat q.1 l := by
  refine ⟨Fr.stays F k, fun q hq => ?_, fun q hq e => ?_⟩
  · rcases List.mem_cons.mp hq with rfl | hq
    · refine ⟨hl, fun e => ?_, ?_⟩
      · obtain ⟨oL, _, _, hL, _⟩ := F.ns
        have e' : l = L := e
        rw [e', hL] at hn; cases hn
      · show h₀.get? l = none
        cases q : h₀.get? l with
        | none => rfl
        | some o => have := F.keep _ _ q; rw [hn] at this; cases this
    · exact News.stays N k q hq
  · have := (N q hq).1
    rw [e, hn] at this; cases this

theorem c_restU {n f : Nat} {x y : Int} {t1 t2 : Tok} (hf : Frm f) (hx : x = (n : Nat)) (hy : y = (f : Nat)) (B : Below A₀ base outer h₀) (hA : (ktrTop dp un gd cn cs L a ccd cl outer) = A₀.deeper (envX cn cs L a ccd cl)) (F : Fr h₀ L s.heap m) (X : (hd.heap_39 w.params).In h₀) (N : News h₀ L s.heap news) (T : Top p loose mean mg mb h₀) (hk : cs.kind = .function)
    (hd : dp + 1 < recursionLimit) (hu : un + 8 < cLine)
    (hret : ∀ t h' tk', Fr h₀ L h' m → News h₀ L h' news → Q (.int (rem f n : Nat) t) { s with heap := h', toks := tk' }) :
    wpAny (model PySem.Challenge.rw_qh0004_01.row.prog w) (ktrTop dp un gd cn cs L a ccd cl outer) (call (.ref 169) [.int x t1, .int y t2]) Q E s := by
  subst hx hy
  exact c_rest hf dp un gd cn cs a L ccd cl outer base s Q E (spotU B hA F hk) (X.keeps F.keep) (T.keeps F.keep) hd hu fun t h' tk' k => hret t h' tk' (Fr.stays F k) (News.stays N k)
theorem c_reduceU {r f wd : Nat} {x : Int} {t1 : Tok} {fa l : Addr} {vs : List Value} {ns : List Int} (hf : Frm f) (hw1 : 1 ≤ wd) (hw : wd ≤ 8) (hx : x = (r : Nat)) (hr : r < 16777216) (hi : IntsAre vs ns) (hns : ∀ y ∈ ns, 0 ≤ y ∧ y < 2 ^ wd)
    (S : IsStep s.heap fa f wd) (hl : s.heap.IsList l vs.toArray) (B : Below A₀ base outer h₀) (hA : (ktrTop dp un gd cn cs L a ccd cl outer) = A₀.deeper (envX cn cs L a ccd cl)) (F : Fr h₀ L s.heap m) (X : (hd.heap_39 w.params).In h₀) (N : News h₀ L s.heap news) (T : Top p loose mean mg mb h₀) (hk : cs.kind = .function)
    (hd : dp + 4 < recursionLimit) (hu : un + 32 < cLine)
    (hret : ∀ t h' tk', Fr h₀ L h' m → News h₀ L h' news → Q (.int (rem f (numI wd r ns) : Nat) t) { s with heap := h', toks := tk' }) :
    wpAny (model PySem.Challenge.rw_qh0004_01.row.prog w) (ktrTop dp un gd cn cs L a ccd cl outer) (call (.ref 127) [.ref fa, .ref l, .int x t1]) Q E s := by
  subst hx
  exact c_reduce hf hw1 hw hr hi hns dp un gd cn cs a L ccd cl outer base s Q E (spotU B hA F hk) (X.keeps F.keep) (T.keeps F.keep) hd hu S hl fun t h' tk' k => hret t h' tk' (Fr.stays F k) (News.stays N k)
theorem c_reduce0U {f wd : Nat} {fa l : Addr} {vs : List Value} {n0 : Int} {ns : List Int} (hf : Frm f) (hw1 : 1 ≤ wd) (hw : wd ≤ 8) (hi : IntsAre vs (n0 :: ns)) (hns : ∀ y ∈ n0 :: ns, 0 ≤ y ∧ y < 2 ^ wd)
    (S : IsStep s.heap fa f wd) (hl : s.heap.IsList l vs.toArray) (B : Below A₀ base outer h₀) (hA : (ktrTop dp un gd cn cs L a ccd cl outer) = A₀.deeper (envX cn cs L a ccd cl)) (F : Fr h₀ L s.heap m) (X : (hd.heap_39 w.params).In h₀) (N : News h₀ L s.heap news) (T : Top p loose mean mg mb h₀) (hk : cs.kind = .function)
    (hd : dp + 4 < recursionLimit) (hu : un + 32 < cLine)
    (hret : ∀ t h' tk', Fr h₀ L h' m → News h₀ L h' news → Q (.int (rem f (numI wd 0 (n0 :: ns)) : Nat) t) { s with heap := h', toks := tk' }) :
    wpAny (model PySem.Challenge.rw_qh0004_01.row.prog w) (ktrTop dp un gd cn cs L a ccd cl outer) (call (.ref 127) [.ref fa, .ref l]) Q E s :=
  c_reduce0 hf hw1 hw hi hns dp un gd cn cs a L ccd cl outer base s Q E (spotU B hA F hk) (X.keeps F.keep) (T.keeps F.keep) hd hu S hl fun t h' tk' k => hret t h' tk' (Fr.stays F k) (News.stays N k)
theorem c_b64encodeU {b : Array UInt8} {t1 : Tok} (hb : b.size ≤ 8) (B : Below A₀ base outer h₀) (hA : (ktrTop dp un gd cn cs L a ccd cl outer) = A₀.deeper (envX cn cs L a ccd cl)) (F : Fr h₀ L s.heap m) (X : (hd.heap_39 w.params).In h₀) (N : News h₀ L s.heap news) (T : Top p loose mean mg mb h₀) (hk : cs.kind = .function)
    (hd : dp + 4 < recursionLimit) (hu : un + 32 < cLine)
    (hret : ∀ b' t h' tk', KBw.bInts b' = encOf (KBw.bInts b) → Fr h₀ L h' m → News h₀ L h' news → Q (.bytes b' t) { s with heap := h', toks := tk' }) :
    wpAny (model PySem.Challenge.rw_qh0004_01.row.prog w) (ktrTop dp un gd cn cs L a ccd cl outer) (call (.ref 103) [.bytes b t1]) Q E s :=
  c_b64encode hb dp un gd cn cs a L ccd cl outer base s Q E (spotU B hA F hk) (X.keeps F.keep) (T.keeps F.keep) hd hu fun b' t h' tk' e k => hret b' t h' tk' e (Fr.stays F k) (News.stays N k)
theorem c_b16encodeU {b : Array UInt8} {t1 : Tok} (hb : b.size ≤ 20) (B : Below A₀ base outer h₀) (hA : (ktrTop dp un gd cn cs L a ccd cl outer) = A₀.deeper (envX cn cs L a ccd cl)) (F : Fr h₀ L s.heap m) (X : (hd.heap_39 w.params).In h₀) (N : News h₀ L s.heap news) (T : Top p loose mean mg mb h₀) (hk : cs.kind = .function)
    (hd : dp + 4 < recursionLimit) (hu : un + 32 < cLine)
    (hret : ∀ b' t h' tk', KBw.bInts b' = hexOfI (KBw.bInts b) → Fr h₀ L h' m → News h₀ L h' news → Q (.bytes b' t) { s with heap := h', toks := tk' }) :
    wpAny (model PySem.Challenge.rw_qh0004_01.row.prog w) (ktrTop dp un gd cn cs L a ccd cl outer) (call (.ref 118) [.bytes b t1]) Q E s :=
  c_b16encode hb dp un gd cn cs a L ccd cl outer base s Q E (spotU B hA F hk) (X.keeps F.keep) (T.keeps F.keep) hd hu fun b' t h' tk' e k => hret b' t h' tk' e (Fr.stays F k) (News.stays N k)
theorem c_placesU {b : Array UInt8} {t1 : Tok} (hb : b.size ≤ 20) (B : Below A₀ base outer h₀) (hA : (ktrTop dp un gd cn cs L a ccd cl outer) = A₀.deeper (envX cn cs L a ccd cl)) (F : Fr h₀ L s.heap m) (X : (hd.heap_39 w.params).In h₀) (N : News h₀ L s.heap news) (T : Top p loose mean mg mb h₀) (hk : cs.kind = .function)
    (hd : dp + 4 < recursionLimit) (hu : un + 32 < cLine)
    (hret : ∀ us c l h' tk', IntsAre us ((KBw.bInts b).map plc) → Fr h₀ L h' m → News h₀ L h' ((l, W.listOf us.toArray c) :: news) → (∀ q ∈ news, @Ne Nat q.1 l) → Q (.ref l) { s with heap := h', toks := tk' }) :
    wpAny (model PySem.Challenge.rw_qh0004_01.row.prog w) (ktrTop dp un gd cn cs L a ccd cl outer) (call (.ref 176) [.bytes b t1]) Q E s :=
  c_places hb dp un gd cn cs a L ccd cl outer base s Q E (spotU B hA F hk) (X.keeps F.keep) (T.keeps F.keep) hd hu fun us c l h' tk' e k hl hn _ => let ⟨F', N', o⟩ := news_list F N k hl hn; hret us c l h' tk' e F' N' o
theorem c_sixteensU {b : Array UInt8} {t1 : Tok} (hb : b.size ≤ 40) (B : Below A₀ base outer h₀) (hA : (ktrTop dp un gd cn cs L a ccd cl outer) = A₀.deeper (envX cn cs L a ccd cl)) (F : Fr h₀ L s.heap m) (X : (hd.heap_39 w.params).In h₀) (N : News h₀ L s.heap news) (T : Top p loose mean mg mb h₀) (hk : cs.kind = .function)
    (hd : dp + 4 < recursionLimit) (hu : un + 32 < cLine)
    (hret : ∀ us c l h' tk', IntsAre us ((KBw.bInts b).map six) → Fr h₀ L h' m → News h₀ L h' ((l, W.listOf us.toArray c) :: news) → (∀ q ∈ news, @Ne Nat q.1 l) → Q (.ref l) { s with heap := h', toks := tk' }) :
    wpAny (model PySem.Challenge.rw_qh0004_01.row.prog w) (ktrTop dp un gd cn cs L a ccd cl outer) (call (.ref 181) [.bytes b t1]) Q E s :=
  c_sixteens hb dp un gd cn cs a L ccd cl outer base s Q E (spotU B hA F hk) (X.keeps F.keep) (T.keeps F.keep) hd hu fun us c l h' tk' e k hl hn => let ⟨F', N', o⟩ := news_list F N k hl hn; hret us c l h' tk' e F' N' o
theorem c_b64decodeU {x : Str} {ds : List Nat} {pn : Nat} {t1 : Tok} (hds : ∀ d ∈ ds, d < 64) (hlen : ds.length + pn ≤ 20) (h4 : (ds.length % 4 = 0 ∧ pn = 0) ∨ (2 ≤ ds.length % 4 ∧ ds.length % 4 + pn = 4)) (hx1 : ∀ c ∈ x.cps, c < 128) (hx2 : x.cps.size ≤ 1000)
    (hx : KBw.bInts (x.cps.map (·.toUInt8)) = encTxt ds pn) (B : Below A₀ base outer h₀) (hA : (ktrTop dp un gd cn cs L a ccd cl outer) = A₀.deeper (envX cn cs L a ccd cl)) (F : Fr h₀ L s.heap m) (X : (hd.heap_39 w.params).In h₀) (N : News h₀ L s.heap news) (T : Top p loose mean mg mb h₀) (hk : cs.kind = .function)
    (hd : dp + 8 < recursionLimit) (hu : un + 64 < cLine)
    (hret : ∀ b' t h' tk', KBw.bInts b' = decOut ds.length (numN 6 ds) → Fr h₀ L h' m → News h₀ L h' news → Q (.bytes b' t) { s with heap := h', toks := tk' }) :
    wpAny (model PySem.Challenge.rw_qh0004_01.row.prog w) (ktrTop dp un gd cn cs L a ccd cl outer) (call (.ref 111) [.str x t1]) Q E s :=
  c_b64decode hds hlen h4 hx1 hx2 hx dp un gd cn cs a L ccd cl outer base s Q E (spotU B hA F hk) (X.keeps F.keep) (T.keeps F.keep) hd hu fun b' t h' tk' e k => hret b' t h' tk' e (Fr.stays F k) (News.stays N k)

/-- the value of an expression forgotten but for its kind -/
def CutI (h₀ : Heap) (L : Addr) (m : Str → Option Value) (news : List (Addr × Obj)) (s : Shared) (v : Value) (s' : Shared) : Prop :=
  ∃ x t h' tk', v = .int x t ∧ s' = { s with heap := h', toks := tk' } ∧ Fr h₀ L h' m ∧ News h₀ L h' news
theorem cutI {M : Model} {A : Around} {t : Sem Value} (_F : Fr h₀ L s.heap m) (_N : News h₀ L s.heap news) (ha : wpAny M A t (CutI h₀ L m news s) E s) (hb : ∀ x t h' tk', Fr h₀ L h' m → News h₀ L h' news → Q (.int x t) { s with heap := h', toks := tk' }) : wpAny M A t Q E s :=
  wpAny_mono ha (fun v s' h => by obtain ⟨x, t, h', tk', rfl, rfl, F, N⟩ := h; exact hb x t h' tk' F N) fun _ _ e => e
theorem CutI.intro {x : Int} {t : Tok} {h' : Heap} {tk' : Nat} (F : Fr h₀ L h' m) (N : News h₀ L h' news) : CutI h₀ L m news s (.int x t) { s with heap := h', toks := tk' } := ⟨_, _, _, _, rfl, rfl, F, N⟩
/-- a row of one to four octets -/
structure Oct (ns : List Int) : Prop where
  lo : 1 ≤ ns.length
  hi : ns.length ≤ 4
  all : ∀ x ∈ ns, 0 ≤ x ∧ x < 256
def CutL (h₀ : Heap) (L : Addr) (m : Str → Option Value) (led : List (Addr × Obj)) (s : Shared) (v : Value) (s' : Shared) : Prop :=
  ∃ us ns c l h' tk', v = .ref l ∧ s' = { s with heap := h', toks := tk' } ∧ Fr h₀ L h' m ∧ News h₀ L h' ((l, W.listOf us.toArray c) :: led) ∧ IntsAre us ns ∧ Oct ns ∧ ∀ q ∈ led, @Ne Nat q.1 l
theorem News.tail2 {h : Heap} {p q : Addr × Obj} {r : List (Addr × Obj)} (N : News h₀ L h (p :: q :: r)) : News h₀ L h r := fun x hx => N x (.tail _ (.tail _ hx))
theorem off1_of {d : Addr} : ∀ {l : List (Addr × Obj)}, (∀ q ∈ l, @Ne Nat q.1 d) → LCg.Off1 d l
  | [], _ => trivial
  | _ :: _, h => ⟨h _ (.head _), off1_of fun q hq => h q (.tail _ hq)⟩
theorem cutL {M : Model} {A : Around} {t : Sem Value} {led : List (Addr × Obj)} (_F : Fr h₀ L s.heap m) (_N : News h₀ L s.heap led) (ha : wpAny M A t (CutL h₀ L m led s) E s)
    (hb : ∀ us ns c l h' tk', Fr h₀ L h' m → News h₀ L h' ((l, W.listOf us.toArray c) :: led) → IntsAre us ns → Oct ns → (∀ q ∈ led, @Ne Nat q.1 l) → Q (.ref l) { s with heap := h', toks := tk' }) : wpAny M A t Q E s :=
  wpAny_mono ha (fun v s' h => by obtain ⟨us, ns, c, l, h', tk', rfl, rfl, F, N, hi, o, ne⟩ := h; exact hb us ns c l h' tk' F N hi o ne) fun _ _ e => e
theorem CutL.intro {us : List Value} {ns : List Int} {c : Nat} {l : Addr} {h' : Heap} {tk' : Nat} {led : List (Addr × Obj)} (F : Fr h₀ L h' m) (N : News h₀ L h' news) (hm : (l, W.listOf us.toArray c) ∈ news) (hs : ∀ q ∈ led, q ∈ news) (hi : IntsAre us ns) (o : Oct ns) (ne : ∀ q ∈ led, @Ne Nat q.1 l) :
    CutL h₀ L m led s (.ref l) { s with heap := h', toks := tk' } := by
  refine ⟨us, ns, c, l, h', tk', rfl, rfl, F, fun q hq => ?_, hi, o, ne⟩
  rcases List.mem_cons.mp hq with rfl | hq
  · exact N _ hm
  · exact N _ (hs _ hq)
def StopHere (P : Prop) : Prop := P
theorem stopHere {P : Prop} (h : StopHere P) : P := h
end
theorem num_step {ns pre : List Int} {num n : Int} (h : num = ((numI 8 0 pre : Nat) : Int)) (hn : n ∈ ns) (o : Oct ns) : num * 256 + n = ((numI 8 0 (pre ++ [n]) : Nat) : Int) := by
  have := o.all n hn
  rw [numI_snoc, h]
  omega
theorem num_start : (0 : Int) = ((numI 8 0 [] : Nat) : Int) := rfl
theorem oct_draw {ns : List Int} (h : 2 < ((ns.take 6).length : Int)) : Oct (((ns.take 6).drop 2).map fun k => k.fmod 256) := by
  refine ⟨?_, ?_, ?_⟩
  · rw [List.length_map, List.length_drop]; omega
  · rw [List.length_map, List.length_drop, List.length_take]; omega
  · intro x hx
    obtain ⟨k, _, rfl⟩ := List.mem_map.mp hx
    exact ⟨fmod_lo k (n := 256) (by decide), fmod_hi k (n := 256) (by decide)⟩
theorem oct_own : Oct [83, 0, 255, 97] := ⟨by decide, by decide, by decide⟩
theorem oct_fit {ns : List Int} (o : Oct ns) : (ns.length : Int) < 2 ^ 63 := by
  have := o.hi
  omega
theorem step_of_news {h₀ h : Heap} {L f' c1 c2 c' : Addr} {news : List (Addr × Obj)} {qual : Str} {ps : Arguments} {b : List Stmt} {sc : Scope} {doc pm ct : Value} {oc o1 o2 : Obj} {vs : Array Value} {t t1 t2 : Tok} {f wd : Nat} {x : Int}
    (N : News h₀ L h news) (hm : (f', fnMade (Str.ofString "step") qual ps b sc [(Str.ofString "width", c2), (Str.ofString "form", c1)] doc pm c' ct) ∈ news) (he : (ps, b, sc) = stepParts) (hc : (c', oc) ∈ news) (hd1 : oc.data = .fields vs) (hd2 : vs[1]? = some (.str qual t))
    (hc1 : (c1, o1) ∈ news) (e1 : o1.data = .cell (some (.int f t1))) (hc2 : (c2, o2) ∈ news) (e2 : o2.data = .cell (some (.int x t2))) (ex : x = (wd : Nat)) : IsStep h f' f wd := by
  subst ex
  exact ⟨⟨qual, ps, b, sc, c1, c2, o1, o2, t1, t2, doc, pm, c', ct, he, (N _ hm).1, ⟨c', oc, vs, t, rfl, (N _ hc).1, hd1, hd2⟩, (N _ hc1).1, e1, (N _ hc2).1, e2⟩⟩
theorem oct_zeros {ns : List Int} (o : Oct ns) : ∀ y ∈ ns ++ [0, 0, 0], (0 : Int) ≤ y ∧ y < 2 ^ 8 := by
  intro y hy
  rcases List.mem_append.mp hy with h | h
  · exact o.all y h
  · simp at h; subst h; decide
theorem list_of_news {h₀ h : Heap} {L l : Addr} {news : List (Addr × Obj)} {us : List Value} {c : Nat} (N : News h₀ L h news) (hm : (l, W.listOf us.toArray c) ∈ news) : h.IsList l us.toArray := ⟨_, (N _ hm).1, rfl, c, rfl⟩
theorem num_zeros (ns : List Int) : numI 8 0 (ns ++ [0, 0, 0]) = numI 8 0 ns * 16777216 := by
  unfold numI
  rw [List.foldl_append]
  simp only [List.foldl_cons, List.foldl_nil]
  omega
theorem chk_ex {f : Nat} (F : Frm f) (n : Nat) : ∃ c : Nat, c = rem f n ∧ c < 16777216 := ⟨_, rfl, rem_lt F n⟩
theorem chk_in {c : Nat} (h : c < 16777216) : KBa.In [(c : Int).fdiv 65536, ((c : Int).fdiv 256).fmod 256, (c : Int).fmod 256] := by
  intro n hn
  have e1 : (c : Int).fdiv 65536 = ((c / 65536 : Nat) : Int) := by rw [Int.fdiv_eq_ediv_of_nonneg _ (by decide)]; rfl
  simp only [List.mem_cons, List.not_mem_nil, or_false] at hn
  rcases hn with rfl | rfl | rfl
  · rw [e1]; omega
  · exact ⟨fmod_lo _ (n := 256) (by decide), fmod_hi _ (n := 256) (by decide)⟩
  · exact ⟨fmod_lo _ (n := 256) (by decide), fmod_hi _ (n := 256) (by decide)⟩
theorem num_lt {ns : List Int} (o : Oct ns) : numI 8 0 ns < 4294967296 := by
  have h : ∀ (l : List Int) (k a : Nat), (∀ x ∈ l, (0 : Int) ≤ x ∧ x < 256) → a < 256 ^ k → numI 8 a l < 256 ^ (k + l.length) := by
    intro l
    induction l with
    | nil => intro k a _ h; exact h
    | cons x l ih =>
      intro k a hx h
      have h1 := hx x (.head _)
      have := ih (k + 1) (a * 2 ^ 8 + x.toNat) (fun y hy => hx y (.tail _ hy)) (by rw [Nat.pow_succ]; omega)
      rw [List.length_cons, ← Nat.add_assoc, Nat.add_right_comm]
      exact this
  have h1 := h ns 0 0 o.all (by decide)
  have h2 : 256 ^ (0 + ns.length) ≤ 256 ^ 4 := Nat.pow_le_pow_right (by decide) (by have := o.hi; omega)
  omega
theorem cnt_ex (n : Nat) : ∃ c : Nat, c = n + 3 ∧ (n : Int) + 3 = (c : Int) := ⟨_, rfl, by omega⟩
theorem sg_ex (c : Nat) : ∃ g : Nat, g = (8 * c + 5) / 6 ∧ (8 * (c : Int) + 5).fdiv 6 = (g : Int) := ⟨_, rfl, by rw [Int.fdiv_eq_ediv_of_nonneg _ (by decide)]; omega⟩
theorem sp_ex (c g : Nat) (hg : g = (8 * c + 5) / 6) : ∃ p : Nat, p + 8 * c = 6 * g ∧ p ≤ 5 ∧ 6 * (g : Int) - 8 * (c : Int) = (p : Int) := ⟨6 * g - 8 * c, by omega, by omega, by omega⟩
theorem whole_ex {x : Int} {ns : List Int} (h : x = ((numI 8 0 ns : Nat) : Int)) (chk sp : Nat) : ∃ W : Nat, W = (numI 8 0 ns * 16777216 + chk) * 2 ^ sp ∧ (x * 16777216 + (chk : Int)) * 2 ^ (sp : Int).toNat = (W : Int) := ⟨_, rfl, by subst h; simp⟩
theorem chk_num {ns : List Int} {chk : Nat} (h : chk < 16777216) : numI 8 0 (ns ++ [(chk : Int).fdiv 65536, ((chk : Int).fdiv 256).fmod 256, (chk : Int).fmod 256]) = numI 8 0 ns * 16777216 + chk := by
  unfold numI
  rw [List.foldl_append]
  simp only [List.foldl_cons, List.foldl_nil]
  have e1 : (chk : Int).fdiv 65536 = ((chk / 65536 : Nat) : Int) := by rw [Int.fdiv_eq_ediv_of_nonneg _ (by decide)]; rfl
  have e2 : (chk : Int).fdiv 256 = ((chk / 256 : Nat) : Int) := by rw [Int.fdiv_eq_ediv_of_nonneg _ (by decide)]; rfl
  have e3 : ((chk / 256 : Nat) : Int).fmod 256 = ((chk / 256 % 256 : Nat) : Int) := by rw [Int.fmod_eq_emod_of_nonneg _ (by decide)]; rfl
  have e4 : (chk : Int).fmod 256 = ((chk % 256 : Nat) : Int) := by rw [Int.fmod_eq_emod_of_nonneg _ (by decide)]; rfl
  rw [e1, e2, e3, e4]
  simp only [Int.toNat_natCast]
  omega
/-- the sealed row's writing -/
theorem enc_law {b : Array UInt8} {ns : List Int} {chk cnt sg sp W : Nat} (hb : KBw.bInts b = ns ++ [(chk : Int).fdiv 65536, ((chk : Int).fdiv 256).fmod 256, (chk : Int).fmod 256]) (h : chk < 16777216)
    (hc : cnt = ns.length + 3) (hg : sg = (8 * cnt + 5) / 6) (hp : sp + 8 * cnt = 6 * sg) (hW : W = (numI 8 0 ns * 16777216 + chk) * 2 ^ sp) : encOf (KBw.bInts b) = encTxt (digs 6 sg W) ((4 - sg % 4) % 4) := by
  unfold encOf encTxt
  have hl : (KBw.bInts b).length = cnt := by rw [hb, hc]; simp
  have hn : numI 8 0 (KBw.bInts b) = numI 8 0 ns * 16777216 + chk := by rw [hb, chk_num h]
  rw [hl, hn, ← hg, show 6 * sg - 8 * cnt = sp from by omega, ← hW]
theorem enc_len_of {b : Array UInt8} {sg W p : Nat} (_h : KBw.bInts b = encTxt (digs 6 sg W) p) : (encTxt (digs 6 sg W) p).length = sg + p := by rw [encTxt_length, digs_length]
theorem mul_eqs {prog : Program} {w : World} {A : Around} {E : Value → Shared → Prop} {s : Shared} {sg : Nat} {t u : Tok} {Q : Value → Shared → Prop} (h : ∀ t' k, Q (.bytes (List.replicate ((4 - sg % 4) % 4) (61 : UInt8)).toArray t') { s with toks := k }) :
    wpAny (model prog w) A (binaryOp .Mult (.bytes #[61] t) (.int ((-(sg : Int)).fmod 4) u)) Q E s := by
  have h1 := fmod_lo (-(sg : Int)) (n := 4) (by decide)
  have h2 := fmod_hi (-(sg : Int)) (n := 4) (by decide)
  have e : ((-(sg : Int)).fmod 4).toNat = (4 - sg % 4) % 4 := by
    rw [Int.fmod_eq_emod_of_nonneg _ (by decide)]
    omega
  have e2 : ∀ n, (List.replicate n [(61 : UInt8)]).flatten = List.replicate n 61 := by
    intro n
    induction n with
    | zero => rfl
    | succ n ih => rw [List.replicate_succ, List.flatten_cons, ih]; rfl
  refine bytes_mul_any (b := [61]) (by decide) (by omega) (by omega) (by decide) ?_
  intro t' k
  rw [e, e2]
  exact h t' k
theorem bInts_inj {b c : Array UInt8} (h : KBw.bInts b = KBw.bInts c) : b.toList = c.toList := by
  unfold KBw.bInts at h
  generalize b.toList = x at h
  generalize c.toList = y at h
  induction x generalizing y with
  | nil => cases y with
    | nil => rfl
    | cons c y => cases h
  | cons a x ih => cases y with
    | nil => cases h
    | cons c y =>
      simp only [List.map_cons, List.cons.injEq] at h
      have e : a = c := UInt8.toNat_inj.mp (by omega)
      rw [e, ih y h.2]
theorem ne_bytes_same {prog : Program} {w : World} {A : Around} {E : Value → Shared → Prop} {s : Shared} {b c : Array UInt8} {t u : Tok} {Q : Value → Shared → Prop} (e : KBw.bInts b = KBw.bInts c) (h : Q (.bool false) s) : wpAny (model prog w) A (compareOp .NotEq (.bytes b t) (.bytes c u)) Q E s := by
  refine ne_bytes ?_
  rw [bInts_inj e]
  simpa using h
theorem enc_tail {b : Array UInt8} {sg W p : Nat} (h : KBw.bInts b = List.take ((encTxt (digs 6 sg W) p).length - min sg (encTxt (digs 6 sg W) p).length) (List.drop (min sg (encTxt (digs 6 sg W) p).length) (encTxt (digs 6 sg W) p))) :
    KBw.bInts b = KBw.bInts (List.replicate p (61 : UInt8)).toArray := by
  rw [h, encTxt_length, digs_length, Nat.min_eq_left (by omega), Nat.add_sub_cancel_left]
  unfold encTxt
  have hl : ((digs 6 sg W).map (fun d => ((sgn d : Nat) : Int))).length = sg := by rw [List.length_map, digs_length]
  rw [List.drop_left' hl]
  simp [KBw.bInts]
theorem enc_head {b : Array UInt8} {sg W p : Nat} (h : KBw.bInts b = List.take (min sg (encTxt (digs 6 sg W) p).length) (encTxt (digs 6 sg W) p)) :
    KBw.bInts b = (digs 6 sg W).map (fun d => ((sgn d : Nat) : Int)) := by
  rw [h, encTxt_length, digs_length, Nat.min_eq_left (by omega)]
  unfold encTxt
  exact List.take_left' (by rw [List.length_map, digs_length])
theorem plc_digs (sg W : Nat) : ((digs 6 sg W).map (fun d => ((sgn d : Nat) : Int))).map plc = (digs 6 sg W).map (fun d => ((d : Nat) : Int)) := by
  rw [List.map_map]
  refine List.map_congr_left fun d hd => ?_
  exact plc_sgn d (digs_lt 6 sg W d hd)
theorem enc_size {b : Array UInt8} {sg W p cnt len : Nat} (h : KBw.bInts b = List.take (min sg (encTxt (digs 6 sg W) p).length) (encTxt (digs 6 sg W) p)) (hg : sg = (8 * cnt + 5) / 6) (hc : cnt = len + 3) (hl : len ≤ 4) : b.size ≤ 20 := by
  rw [← KBw.ints_length, enc_head h, List.length_map, digs_length]
  omega
theorem form_ex (x : Int) : ∃ f : Nat, Frm f ∧ 16777217 + 2 * x.fmod 8388608 = (f : Int) := by
  have h1 := fmod_lo x (n := 8388608) (by decide)
  have h2 := fmod_hi x (n := 8388608) (by decide)
  refine ⟨(16777217 + 2 * x.fmod 8388608).toNat, ⟨by omega, by omega, by omega⟩, by omega⟩
end Mine
open PySem PySem.W PySem.Spec PySem.Calls PyProof.Rows
set_option Elab.async false
set_option maxRecDepth 100000
namespace Mine
theorem digs_get (w : Nat) : ∀ (n v k : Nat), k < n → (digs w n v)[k]? = some (v / 2 ^ (w * (n - 1 - k)) % 2 ^ w)
  | 0, _, _, h => absurd h (Nat.not_lt_zero _)
  | n + 1, v, k, h => by
    unfold digs
    by_cases hk : k < n
    · rw [List.getElem?_append_left (by rw [digs_length]; exact hk), digs_get w n _ k hk, Nat.div_div_eq_div_mul, ← Nat.pow_add]
      have e : w + w * (n - 1 - k) = w * (n + 1 - 1 - k) := by
        have e9 : n + 1 - 1 - k = (n - 1 - k) + 1 := by omega
        rw [e9, Nat.mul_succ, Nat.add_comm]
      rw [e]
    · have e : k = n := by omega
      subst e
      have e2 := digs_length w k (v / 2 ^ w)
      rw [List.getElem?_append_right (by omega), e2, Nat.sub_self]
      have e3 : k + 1 - 1 - k = 0 := by omega
      rw [e3, Nat.mul_zero, Nat.pow_zero, Nat.div_one]
      rfl
theorem digs_rng (w b n V : Nat) (hb : b = 2 ^ w) (g : Int → Int) (hg : ∀ k : Nat, k < n → g (0 + (k : Int)) = (((V / b ^ (n - 1 - k)) % b : Nat) : Int)) : (rangeKs 0 n).map g = (digs w n V).map (fun d => ((d : Nat) : Int)) := by
  refine List.ext_getElem? fun k => ?_
  by_cases h : k < n
  · rw [List.getElem?_map, List.getElem?_map, digs_get w n V k h]
    unfold rangeKs
    rw [List.getElem?_map, List.getElem?_range h]
    simp only [Option.map_some]
    rw [hg k h, hb, ← Nat.pow_mul]
  · rw [List.getElem?_eq_none (by simp [rangeKs]; omega), List.getElem?_eq_none (by simp [digs_length]; omega)]
theorem fig_val (V b n : Nat) (hb : 0 < b) (k : Nat) (hk : k < n) (x : Int) (hx : x = (n : Int) - 1 - (0 + (k : Int))) : ((V : Int).fdiv ((b : Int) ^ x.toNat)).fmod (b : Int) = (((V / b ^ (n - 1 - k)) % b : Nat) : Int) := by
  have e : x.toNat = n - 1 - k := by omega
  rw [e, ← Int.natCast_pow, Int.fdiv_eq_ediv_of_nonneg _ (by omega), ← Int.natCast_ediv, Int.fmod_eq_emod_of_nonneg _ (by omega), ← Int.natCast_emod]
theorem digs_rng64 (n V : Nat) : (rangeKs 0 n).map (fun k => ((V : Int).fdiv ((64 : Int) ^ ((n : Int) - 1 - k).toNat)).fmod 64) = (digs 6 n V).map (fun d => ((d : Nat) : Int)) :=
  digs_rng 6 64 n V rfl _ fun k hk => fig_val V 64 n (by decide) k hk _ rfl
theorem digs_rng256 (n V : Nat) : (rangeKs 0 n).map (fun k => ((V : Int).fdiv ((256 : Int) ^ ((n : Int) - 1 - k).toNat)).fmod 256) = (digs 8 n V).map (fun d => ((d : Nat) : Int)) :=
  digs_rng 8 256 n V rfl _ fun k hk => fig_val V 256 n (by decide) k hk _ rfl
theorem numN_digs (w : Nat) : ∀ n v, numN w (digs w n v) = v % 2 ^ (w * n)
  | 0, v => by show 0 = _; rw [Nat.mul_zero, Nat.pow_zero, Nat.mod_one]
  | n + 1, v => by
    unfold digs
    rw [numN_snoc, numN_digs w n, Nat.mul_succ, Nat.add_comm (w * n), Nat.pow_add, Nat.mod_mul]
    rw [Nat.mul_comm (2 ^ w)]
    omega
theorem numI_cast (wd : Nat) (ds : List Nat) : numI wd 0 (ds.map (fun d => ((d : Nat) : Int))) = numN wd ds := by
  unfold numI numN
  rw [List.foldl_map]
  congr 1
theorem num_lt2 {ns : List Int} (h : ∀ x ∈ ns, (0 : Int) ≤ x ∧ x < 256) : numI 8 0 ns < 2 ^ (8 * ns.length) := by
  have h : ∀ (l : List Int) (k a : Nat), (∀ x ∈ l, (0 : Int) ≤ x ∧ x < 256) → a < 256 ^ k → numI 8 a l < 256 ^ (k + l.length) := by
    intro l
    induction l with
    | nil => intro k a _ h; exact h
    | cons x l ih =>
      intro k a hx h
      have h1 := hx x (.head _)
      have := ih (k + 1) (a * 2 ^ 8 + x.toNat) (fun y hy => hx y (.tail _ hy)) (by rw [Nat.pow_succ]; omega)
      rw [List.length_cons, ← Nat.add_assoc, Nat.add_right_comm]
      exact this
  have h1 := h ns 0 0 (by assumption) (by decide)
  rw [Nat.zero_add] at h1
  rw [Nat.pow_mul]
  exact h1
/-- the sealed row's rest is nought -/
theorem seal_zero {f N c : Nat} (F : Frm f) (hc : c = rem f (N * 16777216)) : rem f (N * 16777216 + c) = 0 := by
  have hl : c < 16777216 := hc ▸ rem_lt F _
  have e := add_eq_xor (a := N) (b := c) (k := 24) hl
  have e2 : N * 16777216 + c = N * 2 ^ 24 ^^^ c := by rw [e]
  rw [e2, rem_xor F, rem_small c hl, ← show c = rem f (N * 2 ^ 24) from hc, Nat.xor_self]
theorem whole_zero {f N c sp W : Nat} (F : Frm f) (hc : c = rem f (N * 16777216)) (hW : W = (N * 16777216 + c) * 2 ^ sp) : rem f W = 0 := by
  rw [hW, rem_mul_pow, seal_zero F hc, mxs_zero]
theorem seal_lt {ns : List Int} {c cnt : Nat} (h : ∀ x ∈ ns, (0 : Int) ≤ x ∧ x < 256) (hc : c < 16777216) (hn : cnt = ns.length + 3) : numI 8 0 ns * 16777216 + c < 2 ^ (8 * cnt) := by
  have h1 := num_lt2 h
  have e : 8 * cnt = 8 * ns.length + 24 := by omega
  rw [e, Nat.pow_add]
  generalize 2 ^ (8 * ns.length) = P at h1
  omega
theorem whole_lt {S cnt sg sp W : Nat} (h : S < 2 ^ (8 * cnt)) (hp : sp + 8 * cnt = 6 * sg) (hW : W = S * 2 ^ sp) : W < 2 ^ (6 * sg) := by
  rw [← hp, hW, Nat.pow_add, Nat.mul_comm (2 ^ sp)]
  exact Nat.mul_lt_mul_of_pos_right h (Nat.two_pow_pos _)
theorem err_lt {c j sg : Nat} (h : c < 16777216) (hj : j + 4 ≤ sg) : c * 64 ^ j < 2 ^ (6 * sg) := by
  have e : 64 ^ j = 2 ^ (6 * j) := by rw [Nat.pow_mul]
  rw [e]
  have h2 : c * 2 ^ (6 * j) < 2 ^ 24 * 2 ^ (6 * j) := Nat.mul_lt_mul_of_pos_right h (Nat.two_pow_pos _)
  rw [← Nat.pow_add] at h2
  exact Nat.lt_of_lt_of_le h2 (Nat.pow_le_pow_right (by decide) (by omega))
theorem rem_digs {f sg V : Nat} (h : V < 2 ^ (6 * sg)) : rem f (numI 6 0 ((digs 6 sg V).map (fun d => ((d : Nat) : Int)))) = rem f V := by
  rw [numI_cast, numN_digs, Nat.mod_eq_of_lt h]
theorem six_hgn : ∀ d, d < 16 → six ((hgn d : Nat) : Int) = (d : Int) := by decide +kernel
theorem six_hex : ∀ (ks : List Int) (r : Nat), (∀ x ∈ ks, (0 : Int) ≤ x ∧ x < 256) → numI 4 r ((hexOfI ks).map six) = numI 8 r ks
  | [], _, _ => rfl
  | k :: ks, r, h => by
    have hk := h k (.head _)
    have e : (hexOfI (k :: ks)).map six = ((k.toNat / 16 : Nat) : Int) :: ((k.toNat % 16 : Nat) : Int) :: (hexOfI ks).map six := by
      unfold hexOfI
      rw [List.flatMap_cons, List.map_append]
      simp only [List.map_cons, List.map_nil, List.cons_append, List.nil_append]
      rw [six_hgn _ (by omega), six_hgn _ (by omega)]
    rw [e]
    show numI 4 ((r * 2 ^ 4 + ((k.toNat / 16 : Nat) : Int).toNat) * 2 ^ 4 + ((k.toNat % 16 : Nat) : Int).toNat) _ = numI 8 (r * 2 ^ 8 + k.toNat) ks
    rw [six_hex ks _ fun x hx => h x (.tail _ hx)]
    congr 1
    simp only [Int.toNat_natCast]
    omega
theorem six_fit {ks : List Int} (h : ∀ x ∈ ks, (0 : Int) ≤ x ∧ x < 256) : ∀ y ∈ (hexOfI ks).map six, (0 : Int) ≤ y ∧ y < 2 ^ 4 := by
  intro y hy
  obtain ⟨z, hz, rfl⟩ := List.mem_map.mp hy
  unfold hexOfI at hz
  obtain ⟨k, hk, hz⟩ := List.mem_flatMap.mp hz
  have := h k hk
  simp only [List.mem_cons, List.not_mem_nil, or_false] at hz
  rcases hz with rfl | rfl
  · rw [six_hgn _ (by omega)]; omega
  · rw [six_hgn _ (by omega)]; omega
theorem numI_start (r : Nat) : ∀ (ks : List Int) (a : Nat), numI 8 (r * 256 ^ a + 0) ks = numI 8 (r * 256 ^ a) ks := fun _ _ => rfl
theorem numI_add : ∀ (ks : List Int) (r : Nat), numI 8 r ks = r * 256 ^ ks.length + numI 8 0 ks
  | [], r => by show r = r * 256 ^ 0 + 0; omega
  | k :: ks, r => by
    show numI 8 (r * 2 ^ 8 + k.toNat) ks = r * 256 ^ (ks.length + 1) + numI 8 (0 * 2 ^ 8 + k.toNat) ks
    rw [numI_add ks (r * 2 ^ 8 + k.toNat), numI_add ks (0 * 2 ^ 8 + k.toNat), Nat.pow_succ 256 ks.length, Nat.add_mul, Nat.zero_mul, Nat.zero_add]
    have e : r * (256 ^ ks.length * 256) = r * 2 ^ 8 * 256 ^ ks.length := by rw [Nat.mul_comm (256 ^ ks.length), ← Nat.mul_assoc]
    rw [e, Nat.add_assoc]
/-- b16encode's signs from a start -/
theorem hex_start {f r cnt c : Nat} {ks ns : List Int} (F : Frm f) (hk : ∀ x ∈ ks, (0 : Int) ≤ x ∧ x < 256) (hl : ks.length = cnt) (hS : numI 8 0 ks = numI 8 0 ns * 16777216 + c) (hc : c = rem f (numI 8 0 ns * 16777216)) :
    rem f (numI 4 r ((hexOfI ks).map six)) = rem f (r * 256 ^ cnt) := by
  rw [six_hex ks r hk, numI_add, hl]
  have h1 := num_lt2 hk
  rw [hl] at h1
  have e : 256 ^ cnt = 2 ^ (8 * cnt) := by rw [Nat.pow_mul]
  rw [e, ← add_eq_xor h1, rem_xor F, hS, seal_zero F hc, Nat.xor_zero]
/-- the change is seen -/
theorem told_iff {f S cnt sg sp W j c : Nat} (F : Frm f) (hp : sp + 8 * cnt = 6 * sg) (hsp : sp ≤ 5) (hW : W = S * 2 ^ sp) (hz : rem f S = 0) (hS : S < 2 ^ (8 * cnt)) (hc : c < 16777216) (hj : j + 4 ≤ sg) :
    (W ^^^ c * 64 ^ j) / 2 ^ sp < 2 ^ (8 * cnt) ∧ (rem f ((W ^^^ c * 64 ^ j) / 2 ^ sp) = 0 ↔ (W ^^^ c * 64 ^ j) / 2 ^ sp = S) := by
  have hb : W ^^^ c * 64 ^ j < 2 ^ (6 * sg) := Nat.xor_lt_two_pow (whole_lt hS hp hW) (err_lt hc hj)
  refine ⟨?_, ?_⟩
  · refine Nat.div_lt_of_lt_mul ?_
    rw [← Nat.pow_add, hp]
    exact hb
  have e1 : (W ^^^ c * 64 ^ j) / 2 ^ sp = S ^^^ (c * 64 ^ j) / 2 ^ sp := by
    rw [Nat.xor_div_two_pow, hW, Nat.mul_div_cancel _ (Nat.two_pow_pos _)]
  rw [e1, rem_xor F, hz, Nat.zero_xor]
  have key : rem f (c * 64 ^ j / 2 ^ sp) = 0 ↔ c * 64 ^ j / 2 ^ sp = 0 := by
    constructor
    · intro h
      cases j with
      | zero =>
        rw [Nat.pow_zero, Nat.mul_one] at h ⊢
        rw [rem_small _ (Nat.lt_of_le_of_lt (Nat.div_le_self _ _) hc)] at h
        exact h
      | succ j =>
        have e2 : 64 ^ (j + 1) = 2 ^ (6 * j + (6 - sp)) * 2 ^ sp := by
          rw [← Nat.pow_add, show 6 * j + (6 - sp) + sp = 6 * (j + 1) from by omega, Nat.pow_mul]
        rw [e2, ← Nat.mul_assoc, Nat.mul_div_cancel _ (Nat.two_pow_pos _)] at h ⊢
        rw [rem_burst F hc h, Nat.zero_mul]
    · intro h; rw [h, rem_zero]
  rw [key]
  constructor
  · intro h; rw [h, Nat.xor_zero]
  · intro h
    have := congrArg (fun x => S ^^^ x) h
    simpa [← Nat.xor_assoc] using this
theorem dec_told {sg cnt sp Y : Nat} (hp : sp + 8 * cnt = 6 * sg) (hsp : sp ≤ 5) (hY : Y < 2 ^ (6 * sg)) : decOut (digs 6 sg Y).length (numN 6 (digs 6 sg Y)) = (digs 8 cnt (Y / 2 ^ sp)).map (fun d => ((d : Nat) : Int)) := by
  unfold decOut
  rw [digs_length, numN_digs, Nat.mod_eq_of_lt hY, show 6 * sg / 8 = cnt from by omega, show 6 * sg % 8 = sp from by omega]
theorem sg_pad {cnt sg len : Nat} (hc : cnt = len + 3) (h1 : 1 ≤ len) (h2 : len ≤ 4) (hg : sg = (8 * cnt + 5) / 6) : (sg % 4 = 0 ∧ (4 - sg % 4) % 4 = 0) ∨ (2 ≤ sg % 4 ∧ sg % 4 + (4 - sg % 4) % 4 = 4) := by
  have h : len = 1 ∨ len = 2 ∨ len = 3 ∨ len = 4 := by omega
  rcases h with rfl | rfl | rfl | rfl <;> subst hc <;> subst hg <;> decide
/-- the row read back is the sealed row if and only if the number told is the sealed number -/
theorem read_iff {ks : List Int} {cnt T S : Nat} (hk : ∀ x ∈ ks, (0 : Int) ≤ x ∧ x < 256) (hl : ks.length = cnt) (hS : numI 8 0 ks = S) (hT : T < 2 ^ (8 * cnt)) : (digs 8 cnt T).map (fun d => ((d : Nat) : Int)) = ks ↔ T = S := by
  constructor
  · intro h
    rw [← hS, ← h, numI_cast, numN_digs, Nat.mod_eq_of_lt hT]
  · intro h
    subst h
    rw [← hS]
    clear hS hT
    induction cnt generalizing ks with
    | zero => rw [List.length_eq_zero_iff.mp hl]; rfl
    | succ n ih =>
      have hne : ks ≠ [] := fun e => by rw [e] at hl; cases hl
      have e := (List.dropLast_concat_getLast hne).symm
      have hx := hk _ (List.getLast_mem hne)
      have ihh := ih (ks := ks.dropLast) (fun x hx => hk x (List.dropLast_subset _ hx)) (by rw [List.length_dropLast, hl]; rfl)
      generalize ks.getLast hne = x at *
      generalize ks.dropLast = l at *
      subst e
      unfold digs
      rw [numI_snoc, List.map_append, show (numI 8 0 l * 2 ^ 8 + x.toNat) / 2 ^ 8 = numI 8 0 l from by omega, ihh]
      congr 1
      simp only [List.map_cons, List.map_nil, List.cons.injEq, and_true]
      omega
end Mine
open PySem PySem.W PySem.Spec PySem.Calls PyProof.Rows
set_option Elab.async false
set_option maxRecDepth 100000
namespace Mine
theorem pow_log (w n : Nat) (hw : w ≤ 8) (hn : n ≤ 1000) : (((2 ^ w : Nat) : Int) ^ n).natAbs.log2 < 9000 := by
  have e : (((2 ^ w : Nat) : Int) ^ n).natAbs = 2 ^ (w * n) := by rw [← Int.natCast_pow, Int.natAbs_natCast, Nat.pow_mul]
  rw [e]
  refine (Nat.log2_lt (Nat.ne_of_gt (Nat.two_pow_pos _))).mpr ?_
  refine Nat.pow_lt_pow_right (by decide) ?_
  have := Nat.mul_le_mul hw hn
  omega
theorem pow_ne (w n : Nat) : (((2 ^ w : Nat) : Int) ^ n) ≠ 0 := by
  rw [← Int.natCast_pow, ← Nat.pow_mul]
  have := Nat.two_pow_pos (w * n)
  omega
theorem div_pow64 {prog : Program} {w : World} {A : Around} {E : Value → Shared → Prop} {s : Shared} {a : Int} {n : Nat} {t u : Tok} {Q : Value → Shared → Prop} (hn : n ≤ 1000) (h : Q (.int (a.fdiv (64 ^ n)) s.toks) { s with toks := s.toks + 1 }) :
    wpAny (model prog w) A (binaryOp .FloorDiv (.int a t) (.int (64 ^ n) u)) Q E s :=
  floordiv_int (pow_ne 6 n) h (Or.inl (PyProof.noPylong_of_log2 (pow_log 6 n (by decide) hn)))
theorem div_pow256 {prog : Program} {w : World} {A : Around} {E : Value → Shared → Prop} {s : Shared} {a : Int} {n : Nat} {t u : Tok} {Q : Value → Shared → Prop} (hn : n ≤ 1000) (h : Q (.int (a.fdiv (256 ^ n)) s.toks) { s with toks := s.toks + 1 }) :
    wpAny (model prog w) A (binaryOp .FloorDiv (.int a t) (.int (256 ^ n) u)) Q E s :=
  floordiv_int (pow_ne 8 n) h (Or.inl (PyProof.noPylong_of_log2 (pow_log 8 n (by decide) hn)))
/-- the two lists are the same ints -/
theorem ne_ints_same {prog : Program} {w : World} {A : Around} {E : Value → Shared → Prop} {s : Shared} {a b : Addr} {xs ys : List Value} {ns ms : List Int} {Q : Value → Shared → Prop} (e : ns = ms) (ha : s.heap.IsList a xs.toArray) (hb : s.heap.IsList b ys.toArray) (hi : IntsAre xs ns) (hj : IntsAre ys ms) (hu : A.units + 64 < cLine) (h : Q (.bool false) s) :
    wpAny (model prog w) A (compareOp .NotEq (.ref a) (.ref b)) Q E s := by
  refine ke_ne_ints ha hb hi hj hu ?_
  rw [decide_eq_true e]
  exact h
end Mine
open PySem PySem.W PySem.Spec PySem.Calls PyProof.Rows
set_option Elab.async false
set_option maxRecDepth 100000
namespace Mine
theorem news_k1 {h₀ h : Heap} {L : Addr} {d a x1 x2 x3 x4 x5 x6 x7 x8 : Addr × Obj} {r : List (Addr × Obj)} (N : News h₀ L h (d :: a :: x1 :: x2 :: x3 :: x4 :: x5 :: x6 :: x7 :: x8 :: r)) : News h₀ L h (a :: x5 :: r) := fun q hq => by
  rcases List.mem_cons.mp hq with rfl | hq
  · exact N _ (.tail _ (.head _))
  · rcases List.mem_cons.mp hq with rfl | hq
    · exact N _ (.tail _ (.tail _ (.tail _ (.tail _ (.tail _ (.tail _ (.head _)))))))
    · exact N q (.tail _ (.tail _ (.tail _ (.tail _ (.tail _ (.tail _ (.tail _ (.tail _ (.tail _ (.tail _ hq))))))))))
theorem digs_cons {sg W : Nat} (h : 1 ≤ sg) : ∃ (n0 : Int) (nr : List Int), (digs 6 sg W).map (fun d => ((d : Nat) : Int)) = n0 :: nr := by
  have e := digs_length 6 sg W
  cases q : digs 6 sg W with
  | nil => rw [q] at e; simp at e; omega
  | cons a r => exact ⟨_, _, rfl⟩
theorem digs_fit (sg W : Nat) : ∀ y ∈ (digs 6 sg W).map (fun d => ((d : Nat) : Int)), (0 : Int) ≤ y ∧ y < 2 ^ 6 := by
  intro y hy
  obtain ⟨d, hd, rfl⟩ := List.mem_map.mp hy
  have := digs_lt 6 sg W d hd
  omega
theorem fm_ex (x : Int) : ∃ n : Nat, n < 16777216 ∧ x.fmod 16777216 = (n : Int) := by
  have h1 := fmod_lo x (n := 16777216) (by decide)
  have h2 := fmod_hi x (n := 16777216) (by decide)
  exact ⟨(x.fmod 16777216).toNat, by omega, by omega⟩
theorem fi_ex (x : Int) (sg : Nat) (h : 4 ≤ sg) : ∃ n : Nat, n + 4 ≤ sg ∧ x.fmod ((sg : Int) - 3) = (n : Int) := by
  have h1 := fmod_lo x (n := (sg : Int) - 3) (by omega)
  have h2 := fmod_hi x (n := (sg : Int) - 3) (by omega)
  exact ⟨(x.fmod ((sg : Int) - 3)).toNat, by omega, by omega⟩
theorem er_ex (ch fi sg : Nat) (h : fi + 4 ≤ sg) : ∃ j er : Nat, j + 4 ≤ sg ∧ er = ch * 64 ^ j ∧ (ch : Int) * 64 ^ ((sg : Int) - 4 - (fi : Int)).toNat = (er : Int) := by
  refine ⟨sg - 4 - fi, _, by omega, rfl, ?_⟩
  have e : ((sg : Int) - 4 - (fi : Int)).toNat = sg - 4 - fi := by omega
  rw [e]
  simp
theorem bI_in (b : Array UInt8) : ∀ x ∈ KBw.bInts b, (0 : Int) ≤ x ∧ x < 256 := fun _ h => KBw.ints_in h
theorem hex_length : ∀ ks : List Int, (hexOfI ks).length = 2 * ks.length
  | [] => rfl
  | k :: ks => by
    have e := hex_length ks
    unfold hexOfI at *
    rw [List.flatMap_cons, List.length_append, e]
    simp
    omega
end Mine
open PySem PySem.W PySem.Spec PySem.Calls PyProof.Rows
set_option Elab.async false
set_option maxRecDepth 100000
namespace Mine
theorem news_d8 {h₀ h : Heap} {L : Addr} {x1 x2 x3 x4 x5 x6 x7 x8 : Addr × Obj} {r : List (Addr × Obj)} (N : News h₀ L h (x1 :: x2 :: x3 :: x4 :: x5 :: x6 :: x7 :: x8 :: r)) : News h₀ L h r := fun q hq =>
  N q (.tail _ (.tail _ (.tail _ (.tail _ (.tail _ (.tail _ (.tail _ (.tail _ hq))))))))
theorem cast_pow (a b n : Nat) : (a : Int) * (b : Int) ^ (n : Int).toNat = ((a * b ^ n : Nat) : Int) := by
  rw [Int.toNat_natCast, Int.natCast_mul, Int.natCast_pow]
theorem div_sg {prog : Program} {w : World} {A : Around} {E : Value → Shared → Prop} {s : Shared} {a b : Int} {t u : Tok} {Q : Value → Shared → Prop} (hb : b ≠ 0) (hb2 : b.natAbs < 1000) (h : Q (.int (a.fdiv b) s.toks) { s with toks := s.toks + 1 }) :
    wpAny (model prog w) A (binaryOp .FloorDiv (.int a t) (.int b u)) Q E s :=
  floordiv_int hb h (Or.inl (PyProof.noPylong_small (by omega)))
end Mine
open PySem PySem.W PySem.Spec PySem.Calls PyProof.Rows
set_option Elab.async false
set_option maxRecDepth 100000
namespace Mine
theorem news_d3 {h₀ h : Heap} {L : Addr} {x1 x2 x3 : Addr × Obj} {r : List (Addr × Obj)} (N : News h₀ L h (x1 :: x2 :: x3 :: r)) : News h₀ L h r := fun q hq =>
  N q (.tail _ (.tail _ (.tail _ hq)))
theorem News.tail1 {h₀ h : Heap} {L : Addr} {x1 : Addr × Obj} {r : List (Addr × Obj)} (N : News h₀ L h (x1 :: r)) : News h₀ L h r := fun q hq =>
  N q (.tail _ hq)
theorem news_d2 {h₀ h : Heap} {L : Addr} {x1 x2 : Addr × Obj} {r : List (Addr × Obj)} (N : News h₀ L h (x1 :: x2 :: r)) : News h₀ L h r := fun q hq =>
  N q (.tail _ (.tail _ hq))
def letter (k : Int) : Str := ⟨#[sgn k.toNat]⟩
theorem item_letter : ∀ d : Nat, d < 64 → Txt.item (Str.ofString "ABCDEFGHIJKLMNOPQRSTUVWXYZabcdefghijklmnopqrstuvwxyz0123456789+/") (d : Int) = letter d := by decide +kernel
theorem alpha_item {prog : Program} {w : World} {A : Around} {E : Value → Shared → Prop} {s : Shared} {value slice : Expr} {k : Int} {t u : Tok} {Q : Value → Shared → Prop} (h0 : 0 ≤ k) (h1 : k < 64)
    (h : Q (.str (letter k) s.toks) { s with toks := s.toks + 1 })
    (hs : subscripted slice false (.str (Str.ofString "ABCDEFGHIJKLMNOPQRSTUVWXYZabcdefghijklmnopqrstuvwxyz0123456789+/") t) (.int k u) = operate [.str (Str.ofString "ABCDEFGHIJKLMNOPQRSTUVWXYZabcdefghijklmnopqrstuvwxyz0123456789+/") t, .int k u] (getItem (.str (Str.ofString "ABCDEFGHIJKLMNOPQRSTUVWXYZabcdefghijklmnopqrstuvwxyz0123456789+/") t) (.int k u)))
    (ht : ∀ r, letTemporaryGo value (.str (Str.ofString "ABCDEFGHIJKLMNOPQRSTUVWXYZabcdefghijklmnopqrstuvwxyz0123456789+/") t) r = pure ()) :
    wpAny (model prog w) A (subscriptTail value slice (.str (Str.ofString "ABCDEFGHIJKLMNOPQRSTUVWXYZabcdefghijklmnopqrstuvwxyz0123456789+/") t) (.int k u)) Q E s := by
  have hl : (Str.ofString "ABCDEFGHIJKLMNOPQRSTUVWXYZabcdefghijklmnopqrstuvwxyz0123456789+/").length = 64 := by decide +kernel
  refine item_str (fitsSsize_of (N := 9223372036854775808) (by omega) (by omega) (by decide)) (by rw [hl]; omega) (by rw [hl]; omega) (fun _ => ?_) hs ht
  have e := item_letter k.toNat (by omega)
  rw [show ((k.toNat : Nat) : Int) = k from by omega] at e
  rw [e]
  exact h
theorem join_cps (sep : Str) (hs : sep.cps = #[]) : ∀ L : List Str, (Str.join sep L).cps.toList = L.flatMap fun x => x.cps.toList
  | [] => rfl
  | [x] => by simp [Str.join]
  | x :: y :: r => by
    have e := join_cps sep hs (y :: r)
    show (x.cps ++ sep.cps ++ (Str.join sep (y :: r)).cps).toList = _
    rw [List.flatMap_cons, ← e, hs]
    simp
theorem join_letters (ds : List Nat) : (Txt.join (Str.ofString "") ((ds.map (fun d => ((d : Nat) : Int))).map letter)).cps.toList = ds.map sgn := by
  show (Builtin.Str.glued _ _).cps.toList = _
  rw [StrLaws.glued_eq_join, join_cps _ (by decide)]
  induction ds with
  | nil => rfl
  | cons d r ih => 
    rw [List.map_cons, List.map_cons, List.flatMap_cons, ih]
    rfl
theorem mul_cps : ∀ p : Nat, p < 4 → Txt.mul (Str.ofString "=") (p : Int) = ⟨(List.replicate p 61).toArray⟩ := by decide +kernel
theorem str_eqs {prog : Program} {w : World} {A : Around} {E : Value → Shared → Prop} {s : Shared} {sg : Nat} {t u : Tok} {Q : Value → Shared → Prop} (h : ∀ t' k, Q (.str ⟨(List.replicate ((4 - sg % 4) % 4) 61).toArray⟩ t') { s with toks := k }) :
    wpAny (model prog w) A (binaryOp .Mult (.str (Str.ofString "=") t) (.int ((-(sg : Int)).fmod 4) u)) Q E s := by
  have h1 := fmod_lo (-(sg : Int)) (n := 4) (by decide)
  have h2 := fmod_hi (-(sg : Int)) (n := 4) (by decide)
  have e : (-(sg : Int)).fmod 4 = (((4 - sg % 4) % 4 : Nat) : Int) := by
    rw [Int.fmod_eq_emod_of_nonneg _ (by decide)] at *
    omega
  have hl : (Str.ofString "=").length = 1 := by decide
  refine SB.mul (mulOk_of 16 1048576 (by rw [hl]; decide) (by omega) (by omega) (by decide) (by decide)) fun t' k => ?_
  rw [e, mul_cps _ (Nat.mod_lt _ (by decide))]
  exact h t' k
theorem txt_cps {x : Str} {ds : List Nat} {p : Nat} (hx : x.cps.toList = ds.map sgn) : (x ++ (⟨(List.replicate p 61).toArray⟩ : Str)).cps.toList = ds.map sgn ++ List.replicate p 61 := by
  show (x.cps ++ (List.replicate p 61).toArray).toList = _
  simp [hx]
theorem sgn_lt128 : ∀ d, d < 64 → sgn d < 128 := by decide +kernel
theorem txt_lt {y : Str} {ds : List Nat} {p : Nat} (hy : y.cps.toList = ds.map sgn ++ List.replicate p 61) (hd : ∀ d ∈ ds, d < 64) : ∀ c ∈ y.cps, c < 128 := by
  intro c hc
  rw [← Array.mem_toList_iff, hy] at hc
  rcases List.mem_append.mp hc with hc | hc
  · obtain ⟨d, hd', rfl⟩ := List.mem_map.mp hc
    exact sgn_lt128 d (hd d hd')
  · rw [List.eq_of_mem_replicate hc]; decide
theorem txt_size {y : Str} {ds : List Nat} {p : Nat} (hy : y.cps.toList = ds.map sgn ++ List.replicate p 61) (h : ds.length + p ≤ 20) : y.cps.size ≤ 1000 := by
  rw [← Array.length_toList, hy]
  simp
  omega
theorem txt_ints {y : Str} {ds : List Nat} {p : Nat} (hy : y.cps.toList = ds.map sgn ++ List.replicate p 61) (hd : ∀ d ∈ ds, d < 64) : KBw.bInts (y.cps.map (·.toUInt8)) = encTxt ds p := by
  unfold KBw.bInts encTxt
  rw [Array.toList_map, hy, List.map_map, List.map_append, List.map_map]
  congr 1
  · refine List.map_congr_left fun d hd' => ?_
    have := sgn_lt128 d (hd d hd')
    show (((sgn d).toUInt8.toNat : Nat) : Int) = _
    rw [show (sgn d).toUInt8.toNat = sgn d from by simp [Nat.toUInt8]; omega]
  · rw [List.map_replicate]
    rfl
theorem dec_len_ok {sg : Nat} (h : sg ≤ 10) (W : Nat) : (digs 6 sg W).length + (4 - sg % 4) % 4 ≤ 20 := by
  rw [digs_length]; omega
theorem div_pow2 {prog : Program} {w : World} {A : Around} {E : Value → Shared → Prop} {s : Shared} {a : Int} {n : Nat} {t u : Tok} {Q : Value → Shared → Prop} (hn : n ≤ 1000) (h : Q (.int (a.fdiv (2 ^ n)) s.toks) { s with toks := s.toks + 1 }) :
    wpAny (model prog w) A (binaryOp .FloorDiv (.int a t) (.int (2 ^ n) u)) Q E s :=
  floordiv_int (pow_ne 1 n) h (Or.inl (PyProof.noPylong_of_log2 (pow_log 1 n (by decide) hn)))
theorem told_ex (W er sp : Nat) : ∃ T : Nat, T = (W ^^^ er) / 2 ^ sp ∧ (Builtin.bitXor (W : Int) (er : Int)).fdiv (2 ^ (sp : Int).toNat) = (T : Int) := by
  refine ⟨_, rfl, ?_⟩
  rw [bitXor_nat, Int.toNat_natCast, show (2 : Int) ^ sp = ((2 ^ sp : Nat) : Int) from by simp, Int.fdiv_eq_ediv_of_nonneg _ (Int.natCast_nonneg _), ← Int.natCast_ediv]
end Mine
open PySem PySem.W PySem.Spec PySem.Calls PyProof.Rows
set_option Elab.async false
set_option maxRecDepth 100000
namespace Mine
section
variable {prog : Program} {w : World} {A : Around} {E : Value → Shared → Prop} {s : Shared}
abbrev OctAt (b : Array UInt8) : Nat → Value → Prop := fun i v => ∃ c u, b[i]? = some c ∧ v = .int (c.toNat : Int) u
theorem bytes_len_of : typeLookup (.type "bytes") "__len__" = pure (some (.builtin "bytes.__len__")) := by rw [typeLookup_type, builtinLookup_eq_fast]; kernel_rfl
theorem extend_bytes {R : Result → Shared → Prop} (hh : A.handled = none) (x : Array UInt8) (t : Tok) (S : Addr) (res : Value) (c₀ : Nat) (hS : s.heap.get? S = some { cls := .type "list", data := .seq #[] c₀ })
    (hR : ∀ h' tk acc' c', (∀ b o, b ≠ S → s.heap.get? b = some o → h'.get? b = some o) → h'.get? S = some { cls := .type "list", dict := none, data := .seq acc' c', slots := #[] } →
      ItemsOf (OctAt x) acc' x.size → R (.ok (.ret res)) { s with heap := h', toks := tk }) (hn : x.size ≤ sizeLine) :
    wpAny (model prog w) A.in1 (Builtin.List.listExtendWith (.ref S) (.bytes x t) res)
      (fun fin s' => match fin with | .done f => R (.ok f) s' | .again c' => c'.quiet = true ∧ codeAny (model prog w) A c' R s') (fun e s' => R (.error e) s') s := by
  have hSI : S ≠ s.heap.objs.size := Nat.ne_of_lt (Heap.lt_size hS)
  have hSf : S ∉ [s.heap.objs.size] := fun hm => hSI (List.mem_singleton.mp hm)
  unfold Builtin.List.listExtendWith
  refine wpAny_bind (wpAny_typeOf (T := "bytes") (v := .bytes x t) rfl ?_)
  have h1 : Builtin.List.listSameRef (.ref S) (.bytes x t) = false := rfl
  have h2 : (Value.type "bytes" == Value.type "list") = false := by decide
  have h3 : (Value.type "bytes" == Value.type "tuple") = false := by decide
  simp only [h1, h2, h3, Bool.or_false, Bool.false_eq_true, if_false]
  refine wpAny_bind (KBw.pyIter_bytes ?_)
  refine wpAny_bind (wpAny_holding ?_)
  unfold Builtin.List.listLengthHint
  refine wpAny_bind (wpAny_specialOf (T := "bytes") (v := .bytes x t) rfl bytes_len_of ?_)
  wp_delta
  refine wpAny_bind (wpAny_isInstance (T := "bytes") (v := .bytes x t) (b := true) rfl (by rw [isSubtype_type]; kernel_rfl) ?_)
  show wpAny _ _ (typeOf (Value.bytes x t) >>= _) _ _ _
  refine wpAny_bind (wpAny_typeOf (T := "bytes") (v := .bytes x t) rfl ?_)
  refine wpAny_pure ?_
  rw [if_neg (by decide)]
  refine wpAny_pure ⟨plainId_quiet F.plain_extend_loop _, codeAny_extend_loopS ((KBw.walks (A := A.in1) hh s.heap.objs.size x t).toS) hn _ hSf _ x.size 0 _ _ _ rfl (Nat.zero_le _) ⟨_, Heap.get?_push_size _ rfl, rfl, rfl⟩ (Heap.get?_push_of_some _ hS) (ItemsOf.nil _) fun s' acc' c' hm hS' hacc => ?_⟩
  rw [Moved.eq_with hm]
  refine hR s'.heap s'.toks acc' c' (fun b ob hb e => hm.heap b ob (fun hmem => ?_) (Heap.get?_push_of_some _ e)) hS' hacc
  rcases List.mem_cons.mp hmem with e' | hmem
  · exact hb e'
  · exact absurd (Heap.lt_size e) (by rw [List.mem_singleton.mp hmem]; exact Nat.lt_irrefl _)
theorem list_init_bytes {R : Result → Shared → Prop} (hh : A.handled = none) (x : Array UInt8) (t : Tok) (S : Addr) (hS : s.heap.get? S = some { cls := .type "list", data := .seq #[] })
    (hR : ∀ h' tk acc' c', (∀ b o, b ≠ S → s.heap.get? b = some o → h'.get? b = some o) → h'.get? S = some { cls := .type "list", dict := none, data := .seq acc' c', slots := #[] } →
      ItemsOf (OctAt x) acc' x.size → R (.ok (.ret .none)) { s with heap := h', toks := tk }) (hn : x.size ≤ sizeLine) :
    wpAny (model prog w) A.in1 (Builtin.«list.__init__» ⟨[.ref S, .bytes x t], []⟩)
      (fun fin s' => match fin with | .done f => R (.ok f) s' | .again c' => c'.quiet = true ∧ codeAny (model prog w) A c' R s') (fun e s' => R (.error e) s') s := by
  show wpAny _ _ (do let old ← Builtin.List.listItems (.ref S); Builtin.List.listUpdate (.ref S) (fun _ => #[]); letGo old.toList.reverse; Builtin.List.listExtendWith (.ref S) (.bytes x t) .none) _ _ s
  refine wpAny_bind ?_
  unfold Builtin.List.listItems
  refine wpAny_bind (wpAny_seqItems hS rfl (wpAny_pure ?_))
  show wpAny _ _ (updateSeq S (fun _ => #[]) >>= fun _ => letGo (#[] : Array Value).toList.reverse >>= fun _ => Builtin.List.listExtendWith (.ref S) (.bytes x t) .none) _ _ s
  refine wpAny_bind (wpAny_updateSeq hS rfl ?_)
  have hS₂ := Heap.get?_update_self (Obj.mapSeq (fun _ => (#[] : Array Value))) hS rfl
  have oth : ∀ b o, b ≠ S → s.heap.get? b = some o → (s.heap.update S (Obj.mapSeq (fun _ => (#[] : Array Value)))).get? b = some o :=
    fun b o hb e => (Heap.get?_update_other _ _ (Ne.symm hb)).trans e
  refine wpAny_bind (wpAny_letGo ?_)
  refine extend_bytes (hn := hn) hh x t S .none _ hS₂ fun h' tk acc' c' hk hS' hacc => ?_
  exact hR h' tk acc' c' (fun b o hb e => hk b o hb (oth b o hb e)) hS' hacc
theorem call_list_bytes {Q : Value → Shared → Prop} (hh : A.handled = none) (x : Array UInt8) (t : Tok)
    (hQ : ∀ h' tk acc' c', (∀ b o, s.heap.get? b = some o → h'.get? b = some o) →
      h'.get? s.heap.objs.size = some { cls := .type "list", dict := none, data := .seq acc' c', slots := #[] } → ItemsOf (OctAt x) acc' x.size → Q (.ref s.heap.objs.size) { s with heap := h', toks := tk }) (hn : x.size ≤ sizeLine) :
    wpAny (model prog w) A (call (.type "list") [.bytes x t]) Q E s := by
  refine callType_codes (Q₁ := fun obj s₁ => obj = .ref s.heap.objs.size ∧ s₁ = { s with heap := s.heap.push { cls := .type "list", data := .seq #[] } }) F.called_list (F.typeCall_list_1 _) F.entry_list_init
    (code_list_new _ ⟨rfl, rfl⟩) fun obj s₁ h₁ => ?_
  obtain ⟨rfl, rfl⟩ := h₁
  have hS : (s.heap.push { cls := .type "list", data := .seq #[] }).get? s.heap.objs.size = some { cls := .type "list", data := .seq #[] } := Heap.get?_push_size _ rfl
  refine ⟨⟨_, hS, rfl⟩, F.args_list_init_2 _ _, list_init_bytes (A := A.in1) (hn := hn) hh x t _ hS fun h' tk acc' c' hk hS' hacc => ?_⟩
  exact ⟨rfl, hQ h' tk acc' c' (fun b o e => hk b o (Nat.ne_of_lt (Heap.lt_size e)) (Heap.get?_push_of_some _ e)) hS' hacc⟩
theorem ints_of : ∀ (us : List Value) (bs : List UInt8), us.length = bs.length → (∀ (j : Nat) v, us[j]? = some v → ∃ c u, bs[j]? = some c ∧ v = .int (c.toNat : Int) u) → IntsAre us (bs.map fun c => (c.toNat : Int))
  | [], [], _, _ => .nil
  | [], _ :: _, h, _ => by cases h
  | _ :: _, [], h, _ => by cases h
  | v :: us, c :: bs, h, hp => by
    obtain ⟨c', u, e, rfl⟩ := hp 0 v rfl
    have e' : c = c' := by simpa using e
    subst e'
    exact .cons _ u (ints_of us bs (by simpa using h) fun j v hv => hp (j + 1) v (by simpa using hv))
theorem items_ints {x : Array UInt8} {acc : Array Value} (h : ItemsOf (OctAt x) acc x.size) : IntsAre acc.toList (KBw.bInts x) := by
  refine ints_of _ _ (by simpa using h.1) fun j v hv => ?_
  obtain ⟨c, u, e, ev⟩ := h.2 j v (by simpa using hv)
  exact ⟨c, u, by simpa using e, ev⟩
theorem list_bytesK {h₀ : Heap} {L : Addr} {m : Str → Option Value} {news : List (Addr × Obj)} {x : Array UInt8} {t : Tok} {Q : Value → Shared → Prop} (hh : A.handled = none) (F : Fr h₀ L s.heap m) (N : News h₀ L s.heap news) (hn : x.size ≤ 1000)
    (h : ∀ us c D h' tk', IntsAre us (KBw.bInts x) → Fr h₀ L h' m → News h₀ L h' ((D, W.listOf us.toArray c) :: news) → Q (.ref D) { s with heap := h', toks := tk' }) : wpAny (model prog w) A (call (.type "list") [.bytes x t]) Q E s := by
  refine call_list_bytes hh x t (fun h' tk acc c' hk hS hi => ?_) (by rw [sizeLine_eq]; omega)
  have e : acc.toList.toArray = acc := by simp
  have hnn : s.heap.get? s.heap.objs.size = none := by
    cases q : s.heap.get? s.heap.objs.size with
    | none => rfl
    | some o => exact absurd (Heap.lt_size q) (Nat.lt_irrefl _)
  obtain ⟨F', N', _⟩ := news_list (us := acc.toList) (c := c') F N hk (by rw [e]; exact hS) hnn
  exact h acc.toList c' _ h' tk (items_ints hi) F' N'
end
theorem tail_val {b : Array UInt8} {cnt T f : Nat} (h : ∀ x ∈ KBw.bInts b, (0 : Int) ≤ x ∧ x < 256) (e : KBw.bInts b = (digs 8 cnt T).map (fun d => ((d : Nat) : Int))) (hT : T < 2 ^ (8 * cnt)) : rem f (numI 4 0 ((hexOfI (KBw.bInts b)).map six)) = rem f T := by
  rw [six_hex _ _ h, e, numI_cast, numN_digs, Nat.mod_eq_of_lt hT]
theorem eq_bool_same {prog : Program} {w : World} {A : Around} {E : Value → Shared → Prop} {s : Shared} {a b : Bool} {Q : Value → Shared → Prop} (e : a = b) (h : Q (.bool true) s) : wpAny (model prog w) A (compareOp .Eq (.bool a) (.bool b)) Q E s := by
  refine eq_bool ?_
  subst e
  rw [beq_self_eq_true]
  exact h
theorem end_bool {f T S : Nat} {b c : Array UInt8} (h1 : rem f T = 0 ↔ T = S) (h2 : KBw.bInts b = KBw.bInts c ↔ T = S) : (((rem f T : Nat) : Int) == 0) = (b.toList == c.toList) := by
  have h3 : b.toList = c.toList ↔ KBw.bInts b = KBw.bInts c := ⟨fun e => by unfold KBw.bInts; rw [e], bInts_inj⟩
  rw [Bool.eq_iff_iff, beq_iff_eq, beq_iff_eq, h3, h2, ← h1]
  omega
end Mine
open PySem PySem.W PySem.Spec PySem.Calls PyProof.Rows
set_option Elab.async false
set_option maxRecDepth 100000
namespace Mine
theorem ne_int_same {prog : Program} {w : World} {A : Around} {E : Value → Shared → Prop} {s : Shared} {a : Int} {t u : Tok} {Q : Value → Shared → Prop} (h : Q (.bool false) s) : wpAny (model prog w) A (compareOp .NotEq (.int a t) (.int a u)) Q E s := by
  refine ne_int ?_
  simpa using h
theorem absQ9 {M : Model} {A : Around} {t : Sem Flow} {Q : Flow → Shared → Prop} {E : Value → Shared → Prop} {s : Shared} (h : ∀ Q' : Flow → Shared → Prop, (∀ v s, Q v s → Q' v s) → wpAny M A t Q' E s) : wpAny M A t Q E s := h Q fun _ _ q => q
theorem pin2 {h₀ h : Heap} {L : Addr} {m : Str → Option Value} (x1 x2 : Str) {v1 v2 : Value} (F : Fr h₀ L h m) (e1 : m x1 = some v1) (e2 : m x2 = some v2) :
    ∃ u : Str → Option Value, Fr h₀ L h (fun y => if y = x1 then some v1 else if y = x2 then some v2 else u y) := by
  refine ⟨m, ?_⟩
  have e : (fun y => if y = x1 then some v1 else if y = x2 then some v2 else m y) = m := by
    funext y
    split
    · rename_i q; rw [q, e1]
    · split
      · rename_i q; rw [q, e2]
      · rfl
  rw [e]
  exact F
theorem pin3 {h₀ h : Heap} {L : Addr} {m : Str → Option Value} (x1 x2 x3 : Str) {v1 v2 v3 : Value} (F : Fr h₀ L h m) (e1 : m x1 = some v1) (e2 : m x2 = some v2) (e3 : m x3 = some v3) :
    ∃ u : Str → Option Value, Fr h₀ L h (fun y => if y = x1 then some v1 else if y = x2 then some v2 else if y = x3 then some v3 else u y) := by
  refine ⟨m, ?_⟩
  have e : (fun y => if y = x1 then some v1 else if y = x2 then some v2 else if y = x3 then some v3 else m y) = m := by
    funext y
    split
    · rename_i q; rw [q, e1]
    · split
      · rename_i q; rw [q, e2]
      · split
        · rename_i q; rw [q, e3]
        · rfl
  rw [e]
  exact F
theorem pin4 {h₀ h : Heap} {L : Addr} {m : Str → Option Value} (x1 x2 x3 x4 : Str) {v1 v2 v3 v4 : Value} (F : Fr h₀ L h m) (e1 : m x1 = some v1) (e2 : m x2 = some v2) (e3 : m x3 = some v3) (e4 : m x4 = some v4) :
    ∃ u : Str → Option Value, Fr h₀ L h (fun y => if y = x1 then some v1 else if y = x2 then some v2 else if y = x3 then some v3 else if y = x4 then some v4 else u y) := by
  refine ⟨m, ?_⟩
  have e : (fun y => if y = x1 then some v1 else if y = x2 then some v2 else if y = x3 then some v3 else if y = x4 then some v4 else m y) = m := by
    funext y
    split
    · rename_i q; rw [q, e1]
    · split
      · rename_i q; rw [q, e2]
      · split
        · rename_i q; rw [q, e3]
        · split
          · rename_i q; rw [q, e4]
          · rfl
  rw [e]
  exact F
theorem pin5 {h₀ h : Heap} {L : Addr} {m : Str → Option Value} (x1 x2 x3 x4 x5 : Str) {v1 v2 v3 v4 v5 : Value} (F : Fr h₀ L h m) (e1 : m x1 = some v1) (e2 : m x2 = some v2) (e3 : m x3 = some v3) (e4 : m x4 = some v4) (e5 : m x5 = some v5) :
    ∃ u : Str → Option Value, Fr h₀ L h (fun y => if y = x1 then some v1 else if y = x2 then some v2 else if y = x3 then some v3 else if y = x4 then some v4 else if y = x5 then some v5 else u y) := by
  refine ⟨m, ?_⟩
  have e : (fun y => if y = x1 then some v1 else if y = x2 then some v2 else if y = x3 then some v3 else if y = x4 then some v4 else if y = x5 then some v5 else m y) = m := by
    funext y
    split
    · rename_i q; rw [q, e1]
    · split
      · rename_i q; rw [q, e2]
      · split
        · rename_i q; rw [q, e3]
        · split
          · rename_i q; rw [q, e4]
          · split
            · rename_i q; rw [q, e5]
            · rfl
  rw [e]
  exact F
end Mine
namespace Mine
set_option maxHeartbeats 0 in
theorem walk : PySem.Challenge.rw_qh0004_01.Holds := Mine.hd (by
  k_with_none
  k_with "eval IfExp" => (k_here; (fail_if_success (with_reducible show wpAny _ _ _ (CutI _ _ _ _ _) _ _)); (with_reducible show wpAny _ _ (eval (Expr.IfExp _ (Expr.Subscript _ _ _) _ _) _) _ _ _); k_dflt (refine' cutI ?k1 ?k2 ?_ (fun x9 t9 h' tk9 F' N' => ?_); (case k1 => k_asm); (case k2 => k_asm)))
  k_with "eval IfExp" => (k_here; (fail_if_success (with_reducible show wpAny _ _ _ (CutL _ _ _ _ _) _ _)); (with_reducible show wpAny _ _ (eval (Expr.IfExp _ (Expr.ListComp _ _ _ _) _ _) _) _ _ _); refine stopHere ?_)
  k_with "CutI" => (exact CutI.intro (by k_asm) (by k_asm))
  k_with "call ref" => (k_here; first
  | ((with_reducible show wpAny _ _ (call (Value.ref 169) _) _ _ _); refine stopHere ?_)
  | ((with_reducible show wpAny _ _ (call (Value.ref 127) _) _ _ _); refine stopHere ?_)
  | ((with_reducible show wpAny _ _ (call (Value.ref 103) _) _ _ _); refine stopHere ?_)
  | ((with_reducible show wpAny _ _ (call (Value.ref 111) _) _ _ _); refine stopHere ?_)
  | ((with_reducible show wpAny _ _ (call (Value.ref 118) _) _ _ _); refine stopHere ?_)
  | ((with_reducible show wpAny _ _ (call (Value.ref 176) _) _ _ _); refine stopHere ?_)
  | ((with_reducible show wpAny _ _ (call (Value.ref 181) _) _ _ _); refine stopHere ?_))
  k_with "call builtin:len" => (k_here; (rename Oct _ => oX9); (with_reducible show wpAny _ _ (call (Value.builtin "len") [Value.ref _]) _ _ _); k_dflt (refine' kst_len ?k1 ?k2 ?k3 ?k4 ?_; (case k1 => k_asm); (case k2 => k_mem); (case k3 => exact IntsAre.length (by assumption)); (case k4 => exact oct_fit oX9)); k_whole)
  k_with "binaryOp Mult bytes int" => (k_here; refine mul_eqs ?_; intro t9 k9)
  k_with "compareOp NotEq bytes bytes" => (k_here; refine stopHere ?_)
  k_with "call type:bytes" => (k_here; refine stopHere ?_)
  k_with "storeName" => (k_here; (with_reducible show wpAny _ _ (storeName _ (Str.ofString "form") (Value.int (16777217 + _) _)) _ _ _); refine stopHere ?_)
  k_with "storeName" => (k_here; (with_reducible show wpAny _ _ (storeName _ (Str.ofString "count") (Value.int (_ + 3) _)) _ _ _); refine stopHere ?_)
  k_with "storeName" => (k_here; (with_reducible show wpAny _ _ (storeName _ (Str.ofString "signs") (Value.int (Int.fdiv _ _) _)) _ _ _); refine stopHere ?_)
  k_with "storeName" => (k_here; (with_reducible show wpAny _ _ (storeName _ (Str.ofString "spare") (Value.int (_ - _) _)) _ _ _); refine stopHere ?_)
  k_with "storeName" => (k_here; (with_reducible show wpAny _ _ (storeName _ (Str.ofString "whole") (Value.int (_ * _) _)) _ _ _); refine stopHere ?_)
  k_with "mine tidy" => ((repeat (rename News _ _ _ _ => zz; clear zz)); (repeat (rename Fr _ _ _ _ => zz; clear zz)))
  k_with "compareOp NotEq int int" => (k_here; refine ne_int_same ?_)
  k_with "call builtin:isinstance" => (k_here; (with_reducible show wpAny _ _ (call _ [Value.bytes _ _, _]) _ _ _); k_dflt (refine' kia_one kitx_bytes ?X trivial ?ee ?nb ?_; (case X => first | with_reducible assumption | exact Frag.In.keeps (by with_reducible assumption) (Fr.keep (by with_reducible assumption))); (case ee => kit_is); (case nb => kit_nb); k_whole; intro _))
  k_with "binaryOp Pow int int" => (k_here; (with_reducible refine pow_int_small ?kb1 ?kb2 ?kb3 ?_); (case kb1 => l_bnd); (case kb2 => l_bnd); (case kb3 => decide))
  w_on
  k_go0
  all_goals try k_fold
  refine absQ9 ?_
  intro Q' hQ'
  k_steps
  unfold StopHere
  obtain ⟨f, hf, ef⟩ := form_ex _
  rw [ef]
  k_steps
  unfold StopHere
  rename News _ _ _ _ => N0
  k_dflt (refine' cutL ?k1 (News.tail2 N0) ?_ (fun us9 ns9 c9 l9 h9 tk9 F8 N8 hi9 o9 ne9 => ?_); (case k1 => k_asm))
  · k_steps
    · rename News _ _ _ _ => NX
      rename IntsAre _ (List.map _ _) => hiY
      rename (2 : Int) < _ => hl2
      exact CutL.intro (by assumption) NX (List.Mem.head _) (fun q hq => by repeat (first | exact hq | apply List.Mem.tail)) hiY (oct_draw hl2) (by repeat (first | exact List.forall_mem_nil _ | (refine List.forall_mem_cons.mpr ⟨(by refine neN ?_; (try dsimp only); omega), ?_⟩)))
    · rename News _ _ _ _ => NX
      exact CutL.intro (by assumption) NX (List.Mem.head _) (fun q hq => by repeat (first | exact hq | apply List.Mem.tail)) (.cons _ _ (.cons _ _ (.cons _ _ (.cons _ _ .nil)))) oct_own (by repeat (first | exact List.forall_mem_nil _ | (refine List.forall_mem_cons.mpr ⟨(by refine neN ?_; (try dsimp only); omega), ?_⟩)))
  clear N0
  revert F8 N8
  walk_at "mine tidy"
  intro F8 N8
  obtain ⟨u, F8⟩ := pin2 (Str.ofString "form") (Str.ofString "drawn") F8 rfl rfl
  replace ne9 := off1_of ne9
  simp only [LCg.Off1, and_true] at ne9
  have hU9 := IntsAre.length hi9
  have hO9 := o9.hi
  have hO8 := o9.lo
  have hnum9 := num_lt o9
  k_with "pyIter ref" => k_state (fun pre num => num = ((numI 8 0 pre : Nat) : Int)) "number"
  k_with "state" => first | exact num_start | exact num_step (by assumption) (by assumption) (by assumption)
  k_steps
  unfold StopHere
  obtain ⟨cnt, hcnt, ecnt⟩ := cnt_ex _
  rw [ecnt]
  k_steps
  unfold StopHere
  obtain ⟨sg, hsg, esg⟩ := sg_ex _
  rw [esg]
  k_steps
  unfold StopHere
  obtain ⟨sp, hsp, hsp5, esp⟩ := sp_ex _ _ hsg
  rw [esp]
  k_steps
  unfold StopHere
  rename News _ _ _ _ => NX
  k_dflt (refine' c_reduceU (wd := 8) (r := 0) (ns := ns9 ++ [0, 0, 0]) ?hf ?w1 ?w2 ?hx ?hr ?hi ?hns ?hS ?hl ?k1 ?kA ?k2 ?k3 ?k4 ?k5 ?kK ?kd ?ku (fun t8 h8 tk8 F8 N8 => ?_))
  (case hS => exact step_of_news NX (by k_mem) (by with_unfolding_all rfl) (by k_mem) (by assumption) (by assumption) (by k_mem) (by assumption) (by k_mem) (by assumption) rfl)
  (case hf => exact hf)
  (case w1 => decide)
  (case w2 => decide)
  (case hx => exact rfl)
  (case hr => decide)
  (case hl => exact list_of_news NX (by k_mem))
  (case hi => assumption)
  (case hns => exact oct_zeros (by assumption))
  (case k1 => k_asm)
  (case kA => exact rfl)
  (case k2 => k_asm)
  (case k3 => k_asm)
  (case k4 => k_asm)
  (case k5 => k_asm)
  (case kK => exact rfl)
  (case kd => decide)
  (case ku => decide)
  clear NX
  revert F8 N8
  walk_at "mine tidy"
  intro F8 N8
  obtain ⟨u, F8⟩ := pin5 (Str.ofString "form") (Str.ofString "drawn") (Str.ofString "octets") (Str.ofString "number") (Str.ofString "spare") F8 rfl rfl rfl rfl rfl
  obtain ⟨chk, hchk, hclt⟩ := chk_ex hf (numI 8 0 (ns9 ++ [0, 0, 0]))
  rw [← hchk]
  rw [num_zeros] at hchk
  k_steps
  unfold StopHere
  k_dflt (refine' c_restU (n := numI 8 0 ns9 * 16777216) ?hf ?hx ?hy ?k1 ?kA ?k2 ?k3 ?k4 ?k5 ?kK ?kd ?ku (fun t8 h8 tk8 F8 N8 => ?_))
  (case hy => exact rfl)
  (case hf => exact hf)
  (case hx => omega)
  (case k1 => k_asm)
  (case kA => exact rfl)
  (case k2 => k_asm)
  (case k3 => k_asm)
  (case k4 => k_asm)
  (case k5 => k_asm)
  (case kK => exact rfl)
  (case kd => decide)
  (case ku => decide)
  revert F8 N8
  walk_at "mine tidy"
  intro F8 N8
  rw [← hchk]
  k_steps
  unfold StopHere
  k_dflt (refine' bytes_make (ns := ns9) ?k1 ?k2 ?k3 ?k4 ?k5 ?k6 ?k7 (fun b8 h8 t8 k8 F8 N8 hb8 => ?_); (case k1 => k_asm); (case k2 => k_asm); (case k3 => rfl); (case k4 => k_mem); (case k5 => assumption); (case k6 => exact Oct.all (by assumption)); (case k7 => omega))
  revert F8 N8
  walk_at "mine tidy"
  intro F8 N8
  k_steps
  unfold StopHere
  k_dflt (refine' bytes_make (ns := [(chk : Int).fdiv 65536, ((chk : Int).fdiv 256).fmod 256, (chk : Int).fmod 256]) ?k1 ?k2 ?k3 ?k4 ?k5 ?k6 ?k7 (fun b7 h8 t8 k8 F8 N8 hb7 => ?_); (case k1 => k_asm); (case k2 => k_asm); (case k3 => rfl); (case k4 => k_mem); (case k5 => exact .cons _ _ (.cons _ _ (.cons _ _ .nil))); (case k6 => exact chk_in hclt); (case k7 => exact Nat.le_of_ble_eq_true rfl))
  revert F8 N8
  walk_at "mine tidy"
  intro F8 N8
  k_steps
  unfold StopHere
  obtain ⟨W, hW, eW⟩ := whole_ex (by assumption) _ _
  rw [eW]
  k_steps
  unfold StopHere
  rename KBw.bInts (_ ++ _) = _ => hsl
  k_dflt (refine' c_b64encodeU ?hb ?k1 ?kA ?k2 ?k3 ?k4 ?k5 ?kK ?kd ?ku (fun wr9 t8 h8 tk8 hwr9 F8 N8 => ?_))
  (case hb => (rw [← KBw.ints_length, hsl]; simp; omega))
  (case k1 => k_asm)
  (case kA => exact rfl)
  (case k2 => k_asm)
  (case k3 => k_asm)
  (case k4 => k_asm)
  (case k5 => k_asm)
  (case kK => exact rfl)
  (case kd => decide)
  (case ku => decide)
  revert F8 N8
  walk_at "mine tidy"
  intro F8 N8
  obtain ⟨u, F8⟩ := pin4 (Str.ofString "form") (Str.ofString "drawn") (Str.ofString "sealed") (Str.ofString "spare") F8 rfl rfl rfl rfl
  rw [enc_law hsl hclt hcnt hsg hsp hW] at hwr9
  have hel9 := enc_len_of hwr9
  k_steps
  unfold StopHere
  refine ne_bytes_same (enc_tail (by assumption)) ?_
  k_steps
  unfold StopHere
  k_dflt (refine' c_placesU ?hb ?k1 ?kA ?k2 ?k3 ?k4 ?k5 ?kK ?kd ?ku (fun us8 c8 l8 h8 tk8 hi8 F8 N8 ne8 => ?_))
  (case hb => exact enc_size (by assumption) hsg hcnt hO9)
  (case k1 => k_asm)
  (case kA => exact rfl)
  (case k2 => k_asm)
  (case k3 => k_asm)
  (case k4 => k_asm)
  (case k5 => k_asm)
  (case kK => exact rfl)
  (case kd => decide)
  (case ku => decide)
  revert F8 N8
  walk_at "mine tidy"
  intro F8 N8
  obtain ⟨u, F8⟩ := pin4 (Str.ofString "form") (Str.ofString "drawn") (Str.ofString "sealed") (Str.ofString "spare") F8 rfl rfl rfl rfl
  rw [enc_head (by assumption), plc_digs] at hi8
  replace ne8 := off1_of ne8
  simp only [LCg.Off1, and_true] at ne8
  k_with "binaryOp FloorDiv int int" => (k_here; first | (with_reducible refine div_pow64 ?kz ?_; (case kz => omega)) | (with_reducible refine div_pow256 ?kz ?_; (case kz => omega)))
  k_with "eval ListComp" => (k_here; refine stopHere ?_)
  k_with "CompSrc" => (refine stopHere ?_)
  k_with "compareOp NotEq ref ref" => (k_here; refine stopHere ?_)
  k_with "storeName" => (k_here; (with_reducible show wpAny _ _ (storeName _ (Str.ofString "start") (Value.int (Int.fmod _ _) _)) _ _ _); refine stopHere ?_)
  k_with "storeName" => (k_here; (with_reducible show wpAny _ _ (storeName _ (Str.ofString "first") (Value.int (Int.fmod _ _) _)) _ _ _); refine stopHere ?_)
  k_with "storeName" => (k_here; (with_reducible show wpAny _ _ (storeName _ (Str.ofString "change") (Value.int (Int.fmod _ _) _)) _ _ _); refine stopHere ?_)
  k_with "storeName" => (k_here; (with_reducible show wpAny _ _ (storeName _ (Str.ofString "error") (Value.int (_ * _) _)) _ _ _); refine stopHere ?_)
  k_with "storeName" => (k_here; (with_reducible show wpAny _ _ (storeName _ (Str.ofString "told") (Value.int (Int.fdiv _ _) _)) _ _ _); refine stopHere ?_)
  k_with "binaryOp FloorDiv int int" => (k_here; (with_reducible show wpAny _ _ (binaryOp Operator.FloorDiv (Value.int _ _) (Value.int (_ - 3) _)) _ _ _); (with_reducible refine div_sg ?kz ?ky ?_); (case kz => omega); (case ky => omega))
  k_with "binaryOp Mod int int" => (k_here; (with_reducible show wpAny _ _ (binaryOp Operator.Mod (Value.int _ _) (Value.int (_ - 3) _)) _ _ _); (with_reducible refine mod_int' ?kz ?_); (case kz => omega))
  k_with "binaryOp FloorDiv int int" => (k_here; (with_reducible refine div_pow2 ?kz ?_); (case kz => omega))
  k_with "subscriptTail Name Name str int" => (k_here; (with_reducible show wpAny _ _ (subscriptTail _ _ (Value.str _ _) (Value.int _ _)) _ _ _); k_dflt (refine alpha_item ?kx ?ky ?_ ?kz ?kw); (case kx => omega); (case ky => omega); (case kz => with_unfolding_all rfl); (case kw => (intro _; with_unfolding_all rfl)))
  k_with "call builtin:str.join" => (k_here; refine stopHere ?_)
  k_with "binaryOp Mult str int" => (k_here; refine str_eqs ?_; intro t9 k9)
  k_with "binaryOp Add str str" => (k_here; refine stopHere ?_)
  k_with "call type:list" => (k_here; (with_reducible show wpAny _ _ (call (Value.type "list") [Value.bytes _ _]) _ _ _); refine stopHere ?_)
  k_with "compareOp Eq bool bool" => (k_here; refine stopHere ?_)
  have hsg10 : sg ≤ 10 := by omega
  k_steps
  unfold StopHere
  k_dflt (refine LCg.ListComp_U (F₀ := by k_asm) (by with_unfolding_all rfl) (by decide) (by rfl) (by decide) (by rfl) ?_)
  k_steps
  unfold StopHere
  k_dflt (refine LCg.CompSrc.range (n := sg) (by rfl) (by k_asm) (by k_asm) (by assumption) ?ksm ?krs ?ksz ?_)
  (case ksm => exact small_one (by omega) (by omega) (by omega) (by omega))
  (case krs => exact rangeSize_nat _ _)
  (case ksz => (rw [PySem.sizeLine_eq]; omega))
  intro g'
  refine' kcf_range (fun k => ((W : Int).fdiv ((64 : Int) ^ ((sg : Int) - 1 - k).toNat)).fmod 64) (fun k' t' I' oI' C' oC' D' m' ys' h' tk' E' hlo' hhi' hC' hx' F' N' off' ne' hMark' => ?_) ?_
  · k_steps
  intro ys9 hy9 D9 h8 tk9 F8 N8 off8
  clear off8
  rw [digs_rng64] at hy9
  revert F8 N8
  walk_at "mine tidy"
  intro F8 N8
  k_steps
  unfold StopHere
  k_dflt (refine ne_ints_same rfl (by is_list) (by is_list) hi8 hy9 (by ke_room) ?_)
  replace N8 := news_k1 N8
  k_steps
  unfold StopHere
  obtain ⟨n0, nr, hcons⟩ := digs_cons (W := W) (show 1 ≤ sg by omega)
  have hns := digs_fit sg W
  rw [hcons] at hi8 hns
  rename News _ _ _ _ => NX
  k_dflt (refine' c_reduce0U (wd := 6) (n0 := n0) (ns := nr) ?hf ?w1 ?w2 ?hi ?hns ?hS ?hl ?k1 ?kA ?k2 ?k3 ?k4 ?k5 ?kK ?kd ?ku (fun t8 h8 tk8 F8 N8 => ?_))
  (case hS => exact step_of_news NX (by k_mem) (by with_unfolding_all rfl) (by k_mem) (by assumption) (by assumption) (by k_mem) (by assumption) (by k_mem) (by assumption) rfl)
  (case hf => exact hf)
  (case w1 => decide)
  (case w2 => decide)
  (case hl => exact list_of_news NX (by k_mem))
  (case hi => exact hi8)
  (case hns => exact hns)
  (case k1 => k_asm)
  (case kA => exact rfl)
  (case k2 => k_asm)
  (case k3 => k_asm)
  (case k4 => k_asm)
  (case k5 => k_asm)
  (case kK => exact rfl)
  (case kd => decide)
  (case ku => decide)
  clear NX
  revert F8 N8
  walk_at "mine tidy"
  intro F8 N8
  obtain ⟨u, F8⟩ := pin4 (Str.ofString "form") (Str.ofString "drawn") (Str.ofString "sealed") (Str.ofString "spare") F8 rfl rfl rfl rfl
  have hSlt := seal_lt (Oct.all (ns := ns9) (by assumption)) hclt hcnt
  have hWlt := whole_lt hSlt hsp hW
  have hz0 := whole_zero hf hchk hW
  rw [← hcons, rem_digs hWlt, hz0]
  k_steps
  unfold StopHere
  obtain ⟨st, hst, est⟩ := fm_ex _
  rw [est]
  k_steps
  unfold StopHere
  k_dflt (refine' c_b16encodeU ?hb ?k1 ?kA ?k2 ?k3 ?k4 ?k5 ?kK ?kd ?ku (fun hx9 t8 h8 tk8 hhx9 F8 N8 => ?_))
  (case hb => (rw [← KBw.ints_length, hsl]; simp; omega))
  (case k1 => k_asm)
  (case kA => exact rfl)
  (case k2 => k_asm)
  (case k3 => k_asm)
  (case k4 => k_asm)
  (case k5 => k_asm)
  (case kK => exact rfl)
  (case kd => decide)
  (case ku => decide)
  revert F8 N8
  walk_at "mine tidy"
  intro F8 N8
  k_steps
  unfold StopHere
  have hks := bI_in (b8 ++ b7)
  have hkl : (KBw.bInts (b8 ++ b7)).length = cnt := by (rw [hsl]; simp; omega)
  k_dflt (refine' c_sixteensU ?hb ?k1 ?kA ?k2 ?k3 ?k4 ?k5 ?kK ?kd ?ku (fun us7 c7 l7 h8 tk8 hi7 F8 N8 ne7 => ?_))
  (case hb => (rw [← KBw.ints_length, hhx9, hex_length, hkl]; omega))
  (case k1 => k_asm)
  (case kA => exact rfl)
  (case k2 => k_asm)
  (case k3 => k_asm)
  (case k4 => k_asm)
  (case k5 => k_asm)
  (case kK => exact rfl)
  (case kd => decide)
  (case ku => decide)
  revert F8 N8
  walk_at "mine tidy"
  intro F8 N8
  rw [hhx9] at hi7
  clear ne7
  k_steps
  unfold StopHere
  rename News _ _ _ _ => NX
  k_dflt (refine' c_reduceU (wd := 4) (r := st) (ns := (hexOfI (KBw.bInts (b8 ++ b7))).map six) ?hf ?w1 ?w2 ?hx ?hr ?hi ?hns ?hS ?hl ?k1 ?kA ?k2 ?k3 ?k4 ?k5 ?kK ?kd ?ku (fun t8 h8 tk8 F8 N8 => ?_))
  (case hS => exact step_of_news NX (by k_mem) (by with_unfolding_all rfl) (by k_mem) (by assumption) (by assumption) (by k_mem) (by assumption) (by k_mem) (by assumption) rfl)
  (case hf => exact hf)
  (case w1 => decide)
  (case w2 => decide)
  (case hx => exact rfl)
  (case hr => exact hst)
  (case hl => exact list_of_news NX (by k_mem))
  (case hi => exact hi7)
  (case hns => exact six_fit hks)
  (case k1 => k_asm)
  (case kA => exact rfl)
  (case k2 => k_asm)
  (case k3 => k_asm)
  (case k4 => k_asm)
  (case k5 => k_asm)
  (case kK => exact rfl)
  (case kd => decide)
  (case ku => decide)
  clear NX
  revert F8 N8
  walk_at "mine tidy"
  intro F8 N8
  obtain ⟨u, F8⟩ := pin5 (Str.ofString "form") (Str.ofString "drawn") (Str.ofString "sealed") (Str.ofString "spare") (Str.ofString "start") F8 rfl rfl rfl rfl rfl
  rw [hex_start hf hks hkl (by rw [hsl, chk_num hclt]) hchk]
  k_steps
  unfold StopHere
  k_dflt (refine' c_restU (n := st * 256 ^ cnt) ?hf ?hx ?hy ?k1 ?kA ?k2 ?k3 ?k4 ?k5 ?kK ?kd ?ku (fun t8 h8 tk8 F8 N8 => ?_))
  (case hy => exact rfl)
  (case hf => exact hf)
  (case hx => exact cast_pow st 256 cnt)
  (case k1 => k_asm)
  (case kA => exact rfl)
  (case k2 => k_asm)
  (case k3 => k_asm)
  (case k4 => k_asm)
  (case k5 => k_asm)
  (case kK => exact rfl)
  (case kd => decide)
  (case ku => decide)
  replace N8 := news_d8 N8
  revert F8 N8
  walk_at "mine tidy"
  intro F8 N8
  obtain ⟨u, F8⟩ := pin4 (Str.ofString "form") (Str.ofString "drawn") (Str.ofString "sealed") (Str.ofString "spare") F8 rfl rfl rfl rfl
  k_steps
  unfold StopHere
  obtain ⟨fi, hfi, efi⟩ := fi_ex _ sg (by omega)
  rw [efi]
  k_steps
  unfold StopHere
  obtain ⟨ch, hch, ech⟩ := fm_ex _
  rw [ech]
  k_steps
  unfold StopHere
  obtain ⟨j, er, hj, her, eer⟩ := er_ex ch fi sg hfi
  rw [eer]
  k_steps
  unfold StopHere
  k_dflt (refine LCg.CompSrc.range (n := sg) (by rfl) (by k_asm) (by k_asm) (by assumption) ?ksm ?krs ?ksz ?_)
  (case ksm => exact small_one (by omega) (by omega) (by omega) (by omega))
  (case krs => exact rangeSize_nat _ _)
  (case ksz => (rw [PySem.sizeLine_eq]; omega))
  intro g'
  refine' kcf_range (fun k => ((Builtin.bitXor (W : Int) (er : Int)).fdiv ((64 : Int) ^ ((sg : Int) - 1 - k).toNat)).fmod 64) (fun k' t' I' oI' C' oC' D' m' ys' h' tk' E' hlo' hhi' hC' hx' F' N' off' ne' hMark' => ?_) ?_
  · k_steps
  intro ys9 hy9 D9 h8 tk9 F8 N8 off8
  simp only [LCg.Off1, and_true] at off8
  rw [bitXor_nat, digs_rng64] at hy9
  have hYlt : W ^^^ er < 2 ^ (6 * sg) := Nat.xor_lt_two_pow hWlt (her ▸ err_lt hch hj)
  revert F8 N8
  walk_at "mine tidy"
  intro F8 N8
  obtain ⟨u, F8⟩ := pin4 (Str.ofString "form") (Str.ofString "sealed") (Str.ofString "spare") (Str.ofString "spoilt") F8 rfl rfl rfl rfl
  k_steps
  unfold StopHere
  rename News _ _ _ _ => NX
  k_dflt (refine' c_reduceU (wd := 6) (r := 0) (ns := (digs 6 sg (W ^^^ er)).map (fun d => ((d : Nat) : Int))) ?hf ?w1 ?w2 ?hx ?hr ?hi ?hns ?hS ?hl ?k1 ?kA ?k2 ?k3 ?k4 ?k5 ?kK ?kd ?ku (fun t8 h8 tk8 F8 N8 => ?_))
  (case hS => exact step_of_news NX (by k_mem) (by with_unfolding_all rfl) (by k_mem) (by assumption) (by assumption) (by k_mem) (by assumption) (by k_mem) (by assumption) rfl)
  (case hf => exact hf)
  (case w1 => decide)
  (case w2 => decide)
  (case hx => exact rfl)
  (case hr => decide)
  (case hl => exact list_of_news NX (by k_mem))
  (case hi => exact hy9)
  (case hns => exact digs_fit sg (W ^^^ er))
  (case k1 => k_asm)
  (case kA => exact rfl)
  (case k2 => k_asm)
  (case k3 => k_asm)
  (case k4 => k_asm)
  (case k5 => k_asm)
  (case kK => exact rfl)
  (case kd => decide)
  (case ku => decide)
  clear NX
  revert F8 N8
  walk_at "mine tidy"
  intro F8 N8
  rw [rem_digs hYlt, rem_xor hf, hz0, Nat.zero_xor]
  k_steps
  unfold StopHere
  k_dflt (refine' c_restU (n := er) ?hf ?hx ?hy ?k1 ?kA ?k2 ?k3 ?k4 ?k5 ?kK ?kd ?ku (fun t8 h8 tk8 F8 N8 => ?_))
  (case hy => exact rfl)
  (case hf => exact hf)
  (case hx => exact rfl)
  (case k1 => k_asm)
  (case kA => exact rfl)
  (case k2 => k_asm)
  (case k3 => k_asm)
  (case k4 => k_asm)
  (case k5 => k_asm)
  (case kK => exact rfl)
  (case kd => decide)
  (case ku => decide)
  replace N8 := news_d3 N8
  revert F8 N8
  walk_at "mine tidy"
  intro F8 N8
  k_steps
  unfold StopHere
  k_dflt (refine LCg.ListComp_U (F₀ := by k_asm) (by with_unfolding_all rfl) (by decide) (by rfl) (by decide) (by rfl) ?_)
  k_steps
  unfold StopHere
  k_dflt (refine LCg.CompSrc.ledger (its := ys9.toArray) (by rfl) (by k_asm) (by k_asm) (by k_mem) ?ksz ?_)
  (case ksz => (have hyl := IntsAre.length hy9; rw [List.length_map, digs_length] at hyl; rw [PySem.sizeLine_eq, List.size_toArray]; omega))
  intro g'
  refine' kct_list letter hy9 (fun k' t' I' oI' C' oC' D' m' ys' h' tk' E' hk' hC' hx' F' N' off' ne' hMark' => ?_) ?_
  · obtain ⟨hk0, hk1⟩ := digs_fit sg (W ^^^ er) _ hk'
    k_steps
    k_dflt (refine LCg.CompEnd.intro F' N' _ (fun p hp => hp) off' (Or.inr ⟨_, by k_mem, rfl, _, rfl⟩) ?_)
    exact kct_el rfl rfl rfl
  intro ws9 hw9 hwl9 D8 h8 tk9 F8 N8 _
  clear hwl9
  revert F8 N8
  walk_at "mine tidy"
  intro F8 N8
  k_steps
  unfold StopHere
  k_dflt (refine KT.join_1 (by is_list) hw9 (fun _ _ => rfl) ?_ ?_)
  · rw [List.length_map, digs_length]; omega
  intro t9 k9 hjl
  rw [List.length_map, digs_length] at hjl
  rename News _ _ _ _ => N8
  replace N8 := News.tail1 N8
  k_steps
  unfold StopHere
  k_dflt (refine KOpn.add ?kl ?_)
  (case kl => (rw [hjl]; show sg + (List.replicate ((4 - sg % 4) % 4) 61).toArray.size ≤ 16777216; simp; omega))
  intro t7 k7 _
  have hty := txt_cps (p := (4 - sg % 4) % 4) (join_letters (digs 6 sg (W ^^^ er)))
  k_steps
  unfold StopHere
  k_dflt (refine' c_b64decodeU (ds := digs 6 sg (W ^^^ er)) (pn := (4 - sg % 4) % 4) ?hds ?hlen ?h4 ?hx1 ?hx2 ?hx ?k1 ?kA ?k2 ?k3 ?k4 ?k5 ?kK ?kd ?ku (fun rd9 t8 h8 tk8 hrd F8 N8 => ?_))
  (case hds => exact digs_lt 6 sg _)
  (case hlen => exact dec_len_ok hsg10 _)
  (case h4 => (rw [digs_length]; exact sg_pad hcnt hO8 hO9 hsg))
  (case hx1 => exact txt_lt hty (digs_lt 6 sg _))
  (case hx2 => exact txt_size hty (dec_len_ok hsg10 _))
  (case hx => exact txt_ints hty (digs_lt 6 sg _))
  (case k1 => k_asm)
  (case kA => exact rfl)
  (case k2 => k_asm)
  (case k3 => k_asm)
  (case k4 => k_asm)
  (case k5 => k_asm)
  (case kK => exact rfl)
  (case kd => decide)
  (case ku => decide)
  rw [dec_told hsp hsp5 hYlt] at hrd
  replace N8 := News.tail1 N8
  revert F8 N8
  walk_at "mine tidy"
  intro F8 N8
  obtain ⟨u, F8⟩ := pin3 (Str.ofString "form") (Str.ofString "sealed") (Str.ofString "spare") F8 rfl rfl rfl
  k_steps
  unfold StopHere
  obtain ⟨T, hT, eT⟩ := told_ex W er sp
  rw [eT]
  rw [← hT] at hrd
  clear hty hjl
  k_steps
  unfold StopHere
  have hrsz : rd9.size = cnt := by rw [← KBw.ints_length, hrd, List.length_map, digs_length]
  k_dflt (refine list_bytesK rfl (by k_asm) (by k_asm) ?hz (fun us6 c6 D6 h8 tk8 hi6 F8 N8 => ?_))
  (case hz => omega)
  rw [hrd] at hi6
  revert F8 N8
  walk_at "mine tidy"
  intro F8 N8
  obtain ⟨u, F8⟩ := pin3 (Str.ofString "form") (Str.ofString "sealed") (Str.ofString "read") F8 rfl rfl rfl
  k_steps
  unfold StopHere
  k_dflt (refine LCg.ListComp_U (F₀ := by k_asm) (by with_unfolding_all rfl) (by decide) (by rfl) (by decide) (by rfl) ?_)
  k_steps
  unfold StopHere
  k_dflt (refine LCg.CompSrc.range (n := cnt) (by rfl) (by k_asm) (by k_asm) (by assumption) ?ksm ?krs ?ksz ?_)
  (case ksm => exact small_one (by omega) (by omega) (by omega) (by omega))
  (case krs => exact rangeSize_nat _ _)
  (case ksz => (rw [PySem.sizeLine_eq]; omega))
  intro g'
  refine' kcf_range (fun k => ((T : Int).fdiv ((256 : Int) ^ ((cnt : Int) - 1 - k).toNat)).fmod 256) (fun k' t' I' oI' C' oC' D' m' ys' h' tk' E' hlo' hhi' hC' hx' F' N' off' ne' hMark' => ?_) ?_
  · k_steps
  intro ys9 hy9 D9 h8 tk9 F8 N8 off8
  clear off8
  rw [digs_rng256] at hy9
  revert F8 N8
  walk_at "mine tidy"
  intro F8 N8
  k_steps
  unfold StopHere
  k_dflt (refine ne_ints_same rfl (by is_list) (by is_list) hi6 hy9 (by ke_room) ?_)
  replace N8 := news_d2 N8
  k_steps
  unfold StopHere
  have hTT := told_iff (c := ch) hf hsp hsp5 hW (seal_zero hf hchk) hSlt hch hj
  rw [← her, ← hT] at hTT
  have hri := read_iff hks hkl (show numI 8 0 (KBw.bInts (b8 ++ b7)) = numI 8 0 ns9 * 16777216 + chk by rw [hsl, chk_num hclt]) hTT.1
  rw [← hrd] at hri
  have hrin := bI_in rd9
  k_dflt (refine' c_b16encodeU ?hb ?k1 ?kA ?k2 ?k3 ?k4 ?k5 ?kK ?kd ?ku (fun hx8 t8 h8 tk8 hhx8 F8 N8 => ?_))
  (case hb => omega)
  (case k1 => k_asm)
  (case kA => exact rfl)
  (case k2 => k_asm)
  (case k3 => k_asm)
  (case k4 => k_asm)
  (case k5 => k_asm)
  (case kK => exact rfl)
  (case kd => decide)
  (case ku => decide)
  revert F8 N8
  walk_at "mine tidy"
  intro F8 N8
  k_steps
  unfold StopHere
  k_dflt (refine' c_sixteensU ?hb ?k1 ?kA ?k2 ?k3 ?k4 ?k5 ?kK ?kd ?ku (fun us7 c7 l7 h8 tk8 hi7 F8 N8 ne7 => ?_))
  (case hb => (rw [← KBw.ints_length, hhx8, hex_length, KBw.ints_length]; omega))
  (case k1 => k_asm)
  (case kA => exact rfl)
  (case k2 => k_asm)
  (case k3 => k_asm)
  (case k4 => k_asm)
  (case k5 => k_asm)
  (case kK => exact rfl)
  (case kd => decide)
  (case ku => decide)
  rw [hhx8] at hi7
  clear ne7
  revert F8 N8
  walk_at "mine tidy"
  intro F8 N8
  k_steps
  unfold StopHere
  rename News _ _ _ _ => NX
  k_dflt (refine' c_reduceU (wd := 4) (r := 0) (ns := (hexOfI (KBw.bInts rd9)).map six) ?hf ?w1 ?w2 ?hx ?hr ?hi ?hns ?hS ?hl ?k1 ?kA ?k2 ?k3 ?k4 ?k5 ?kK ?kd ?ku (fun t8 h8 tk8 F8 N8 => ?_))
  (case hS => exact step_of_news NX (by k_mem) (by with_unfolding_all rfl) (by k_mem) (by assumption) (by assumption) (by k_mem) (by assumption) (by k_mem) (by assumption) rfl)
  (case hf => exact hf)
  (case w1 => decide)
  (case w2 => decide)
  (case hx => exact rfl)
  (case hr => decide)
  (case hl => exact list_of_news NX (by k_mem))
  (case hi => exact hi7)
  (case hns => exact six_fit hrin)
  (case k1 => k_asm)
  (case kA => exact rfl)
  (case k2 => k_asm)
  (case k3 => k_asm)
  (case k4 => k_asm)
  (case k5 => k_asm)
  (case kK => exact rfl)
  (case kd => decide)
  (case ku => decide)
  clear NX
  revert F8 N8
  walk_at "mine tidy"
  intro F8 N8
  obtain ⟨u, F8⟩ := pin2 (Str.ofString "sealed") (Str.ofString "read") F8 rfl rfl
  rw [tail_val hrin hrd hTT.1]
  k_steps
  unfold StopHere
  refine eq_bool_same (end_bool hTT.2 hri) ?_
  k_steps
  apply hQ'
  k_steps)
end Mine
theorem PySem.Challenge.cw_qh0004_01_holds : PySem.Challenge.rw_qh0004_01.Holds := by
  exact Mine.walk
